import Derived.Test.Qxb6617226aCut
namespace Go.Proofs.Qxb6617226a
open Go.RowKit

theorem own_row2 {w : World} {B : Nat} {u : Value} {xs : List ByteArray} (h : OwnS w B u xs) (hl : xs.length ≤ 4096) : ∃ a cap, u = .slice a xs.length cap ∧ SRow w a xs ∧ xs.length ≤ cap ∧ (a = none → cap = 0) := by
  have h0 := h.row (by omega)
  obtain ⟨h1, h2 | ⟨g, cap, cur, hv, _, _, hc, _⟩⟩ := h
  · obtain ⟨hv, hn⟩ := h2
    refine ⟨none, 0, by rw [hv, hn], ?_, by omega, fun _ => rfl⟩
    intro j hj; omega
  · obtain ⟨a, cap', e, _, hr⟩ := h0
    rw [hv] at e
    simp only [Value.slice.injEq, true_and] at e
    obtain ⟨rfl, rfl⟩ := e
    exact ⟨_, cap, hv, hr, hc, fun e => by cases e⟩

set_option maxHeartbeats 400000 in
theorem zrun30b (v : Value) (P : List (List (List Cl))) (xs : List ByteArray) (m : Nat) (w : World) (hP : PB w v P) (hs : Small P) (hx : Hid (gP dstep [] P P.length = xs)) (hm : Hid (xs.length = m)) :
    Calls Try.prog 30 #[v] w fun e w' => ∃ a cap, e = .returned (.slice a m cap) ∧ Hid (SRow w' a xs) ∧ m ≤ cap ∧ Hid (a = none → cap = 0) ∧ Below w.heap.size w w' := by
  cases hx.out
  cases hm.out
  go_enter Try.func30, Try.ntmps30
  go_wp2_with fail
  refine (run40 v P _ hP hs).mono ?_
  rintro e w1 ⟨u, rfl, hown, hb⟩
  obtain ⟨a, cap, hu, hr, hc, hz⟩ := own_row2 hown (end_len slow_d P hs)
  rw [hu]
  have HZ : Hid (a = none → cap = 0) := hz
  clear hz
  go_wp2
  go_ret
  exact ⟨a, cap, rfl, hr, hc, HZ, hb⟩

theorem flat_row2 (v : Value) (P : List (List (List Cl))) (xs : List ByteArray) (m : Nat) (w : World) (hP : C2 w v P) (hs : Small P) (hx : Hid (gP fstep [] P P.length = xs)) (hm : Hid (xs.length = m)) :
    Calls Try.prog 32 #[v] w fun e w' => ∃ a cap, e = .returned (.slice a m cap) ∧ Hid (SRow w' a xs) ∧ m ≤ cap ∧ Below w.heap.size w w' := by
  cases hx.out
  cases hm.out
  refine (flat32 v P w hP hs).mono ?_
  rintro e w1 ⟨u, rfl, hown, hb⟩
  obtain ⟨a, cap, hu, hr, hc, _⟩ := own_row2 hown (end_len slow_f P hs)
  exact ⟨a, cap, by rw [hu], hr, hc, hb⟩

theorem PB.dropEnd (w : World) (g off m k n : Nat) {P : List (List (List Cl))} (hl : P.length = n) (hk : n ≤ k) (hm : m = 0) : PB w (.slice (some ⟨g, off, none⟩) m 0) (P.drop k) := by
  subst hm
  rw [List.drop_eq_nil_of_le (by omega)]
  exact PB.empty w g off 0

set_option maxRecDepth 100000 in
set_option maxHeartbeats 2000000 in
theorem lawB_in (a0 : Option Addr) (n cap0 : Nat) (k : Nat) (P : List (List (List Cl))) (w : World) (hcap : n ≤ cap0) (hk : k ≤ n) (hP : C2 w (.slice a0 n cap0) P) :
    Calls Try.prog 7 #[.slice a0 n cap0, .int .i64 k] w fun e w' => e = .returned (.bool true) ∧ Below w.heap.size w w' := by
  have HP : Hid (C2 w (.slice a0 n cap0) P) := hP
  clear hP
  have d1 : decide ((k : Int) < 0) = false := decide_eq_false (by omega)
  have d2 : decide ((n : Int) < (k : Int)) = false := decide_eq_false (by omega)
  have hk1 : (k : Int) ≤ n := by omega
  have hk2 : (k : Int) ≤ cap0 := by omega
  go_enter Try.func7, Try.ntmps7
  go_wp2_with fail
  refine (bytes34 _ P k _ HP.out).mono ?_
  rintro e w0 ⟨he, hw0⟩
  cases hw0
  rcases he with rfl | rfl
  · go_wp2_with fail
    refine (big29 _ P _ HP.out).mono ?_
    rintro e w0 ⟨he, hw0⟩
    cases hw0
    rcases he with rfl | ⟨rfl, hs⟩
    · go_wp2
      go_ret
      exact ⟨rfl, Below.refl _ _⟩
    · go_wp2_with fail
      refine (build31 _ P _ HP.out hs).mono ?_
      rintro e w1 ⟨u, rfl, hpb, hb1⟩
      obtain ⟨g, off, capb, hu, hlb, hcapb, hib⟩ := hpb
      have hlen := HP.out.len
      have HPB : Hid (PB w1 (.slice (some ⟨g, off, none⟩) n capb) P) := ⟨g, off, capb, by rw [hlen], hlb, hcapb, hib⟩
      rw [hlen] at hu hcapb hlb
      rw [hu]
      clear hib hu
      have HLen : Hid (P.length = n) := hlen
      clear hlen
      have hk3 : (k : Int) ≤ capb := by omega
      obtain ⟨X, hX⟩ : ∃ X, gP dstep [] P P.length = X := ⟨_, rfl⟩
      obtain ⟨Lf, hLf⟩ : ∃ X, gP dstep [] (P.take k) (P.take k).length = X := ⟨_, rfl⟩
      obtain ⟨Rt, hRt⟩ : ∃ X, gP dstep [] (P.drop k) (P.drop k).length = X := ⟨_, rfl⟩
      obtain ⟨Fl, hFl⟩ : ∃ X, gP fstep [] (P.take k) (P.take k).length = X := ⟨_, rfl⟩
      have HLaw : Hid (X = wants Lf Rt Rt.length) := by show _ = _; rw [← hX, ← hLf, ← hRt]; exact cut_law P k
      have HDD : Hid (Lf = dd Fl) := by show _ = _; rw [← hLf, ← hFl]; exact gP_dd _
      have bX : X.length ≤ 4096 := by rw [← hX]; exact end_len slow_d P hs
      have bL : Lf.length ≤ 4096 := by rw [← hLf]; exact end_len slow_d _ (small_take hs k)
      have bR : Rt.length ≤ 4096 := by rw [← hRt]; exact end_len slow_d _ (small_drop hs k)
      have bF : Fl.length ≤ 4096 := by rw [← hFl]; exact end_len slow_f _ (small_take hs k)
      have HX : Hid (gP dstep [] P P.length = X) := hX
      have HLf : Hid (gP dstep [] (P.take k) (P.take k).length = Lf) := hLf
      have HRt : Hid (gP dstep [] (P.drop k) (P.drop k).length = Rt) := hRt
      have HFl : Hid (gP fstep [] (P.take k) (P.take k).length = Fl) := hFl
      clear hX hLf hRt hFl
      obtain ⟨nX, hnX⟩ : ∃ n, X.length = n := ⟨_, rfl⟩
      obtain ⟨nL, hnL⟩ : ∃ n, Lf.length = n := ⟨_, rfl⟩
      obtain ⟨nR, hnR⟩ : ∃ n, Rt.length = n := ⟨_, rfl⟩
      obtain ⟨nF, hnF⟩ : ∃ n, Fl.length = n := ⟨_, rfl⟩
      rw [hnX] at bX
      rw [hnL] at bL
      rw [hnR] at bR
      rw [hnF] at bF
      have HNX : Hid (X.length = nX) := hnX
      have HNL : Hid (Lf.length = nL) := hnL
      have HNR : Hid (Rt.length = nR) := hnR
      have HNF : Hid (Fl.length = nF) := hnF
      clear hnX hnL hnR hnF
      have HSm : Hid (Small P) := hs
      clear hs
      go_wp2_with fail
      refine (zrun30b _ P X nX _ HPB.out HSm.out HX HNX).mono ?_
      rintro e w2 ⟨aX, cX, rfl, hrX, _, _, hb2⟩
      have HPB2 : Hid (PB w2 (.slice (some ⟨g, off, none⟩) n capb) P) := HPB.out.below hb2
      go_wp2_with fail
      refine (zrun30b _ (P.take k) Lf nL _ (HPB2.out.take k hk) (small_take HSm.out k) HLf HNL).mono ?_
      rintro e w3 ⟨aL, cL, rfl, hrL, hcL, hzL, hb3⟩
      have HPB3 : Hid (PB w3 (.slice (some ⟨g, off, none⟩) n capb) P) := HPB2.out.below hb3
      have e1 : ((capb : Int) - (k : Int)).toNat = capb - k := by omega
      have e2 : ((n : Int) - (k : Int)).toNat = n - k := by omega
      go_wp2_with fail
      all_goals
        refine (zrun30b _ (P.drop k) Rt nR _ (by first | exact HPB3.out.drop k hk | exact PB.dropEnd _ _ _ _ _ n HLen.out (by omega) (by omega)) (small_drop HSm.out k) HRt HNR).mono ?_
        rintro e w4 ⟨aR, cR, rfl, hrR, _, _, hb4⟩
        have hbA : Below w.heap.size w w4 := ((hb1.trans (hb2.mono hb1.size)).trans (hb3.mono (Nat.le_trans hb1.size hb2.size))).trans (hb4.mono (Nat.le_trans hb1.size (Nat.le_trans hb2.size hb3.size)))
        have hrX4 : Hid (SRow w4 aX X) := (hrX.out.below hb3).below hb4
        have hrL4 : Hid (SRow w4 aL Lf) := hrL.out.below hb4
        have HC4 : Hid (C2 w4 (.slice a0 n cap0) P) := HP.out.below hbA
        clear hrX hrL HPB HPB2 HPB3 hb1 hb2 hb3 hb4
        go_wp2_with fail
        refine (flat_row2 _ (P.take k) Fl nF _ (HC4.out.take k hk) (small_take HSm.out k) HFl HNF).mono ?_
        rintro e w5 ⟨aF, cF, rfl, hrF, hcF, hb5⟩
        go_wp2_with fail
        refine (distinct_any _ _ _ Fl _ HNF (by omega) hcF hrF).mono ?_
        rintro e w6 ⟨rfl, hb6⟩
        have hdl : (dd Fl).length = nL := by rw [← HDD.out]; exact HNL.out
        have hdi : ((nL : Int) != (((dd Fl).length : Nat) : Int)) = false := by rw [hdl]; simp
        have hbB : Below w.heap.size w w6 := (hbA.trans (hb5.mono hbA.size)).trans (hb6.mono (Nat.le_trans hbA.size hb5.size))
        have hrX6 : Hid (SRow w6 aX X) := (hrX4.out.below hb5).below hb6
        have hrL6 : Hid (SRow w6 aL Lf) := (hrL4.out.below hb5).below hb6
        have hrR6 : Hid (SRow w6 aR Rt) := (hrR.out.below hb5).below hb6
        clear hrX4 hrL4 hrR hrF hb5 hb6 hbA HC4 hdl
        go_wp2_with fail
        refine (clone_any _ _ _ Lf _ HNL (by omega) hzL.out hrL6).mono ?_
        rintro e w7 ⟨aW, cW, rfl, hown, hb7⟩
        have hbC : Below w.heap.size w w7 := hbB.trans (hb7.mono hbB.size)
        obtain ⟨i0, hi, hz0, hz1, hz2⟩ := info_parts Try.info9
        have HX7 : Hid (SRow w7 aX X) := hrX6.out.below hb7
        have HL7 : Hid (SRow w7 aL Lf) := hrL6.out.below hb7
        have HR7 : Hid (SRow w7 aR Rt) := hrR6.out.below hb7
        have hsz7 : w6.heap.size ≤ w7.heap.size := hb7.size
        go_wp2
        go_loopw [9, 10] (fun o t wr => ∃ q : Nat, q ≤ nR ∧ t = .int .i64 q ∧ Hid (OwnS wr w6.heap.size o (wants Lf Rt q)) ∧ Below w6.heap.size w6 wr) (fun _ t _ => nR - (intOf t).toNat)
        case atStart => exact ⟨0, Nat.zero_le _, rfl, by rw [wants_zero]; exact hown, hb7⟩
        case round =>
          obtain ⟨q, hq, rfl, hown2, hb8⟩ := hrel
          have HLr : Hid (SRow wr aL Lf) := hrL6.out.below hb8
          by_cases hlt : q < nR
          · obtain ⟨b, of2, rfl, hc⟩ := (hrR6.out.below hb8) q (by rw [HNR.out]; exact hlt)
            have hlen := wants_len Lf Rt q
            rw [HNL.out, HNR.out] at hlen
            have e5 : (q : Int) < nR := by omega
            by_cases hi0 : idx Lf (sat Rt q) < 0
            · have HG : Hid (wants Lf Rt (q + 1) = wants Lf Rt q ++ [sat Rt q]) := wants_out Lf Rt q (by rw [HNR.out]; exact hlt) hi0
              obtain ⟨ys, hys⟩ : ∃ ys, wants Lf Rt q = ys := ⟨_, rfl⟩
              rw [hys] at HG hlen hown2
              clear hys
              go_wp2_with (first | (go_at_call 33; refine (indexOf_k _ _ Lf nL (sat Rt q) _ HNL (by omega) HLr).mono ?_; rintro e w9 ⟨rfl, hw9⟩; cases hw9) | (at_builtin; refine wpList_append_own _ rfl _ _ 28 rfl w6.heap.size 9 i0 (.string ByteArray.empty) 1 16 Try.underlying28 hi hz0 hz1 hz2 rfl (by decide) _ _ _ rfl (World.ownsRow.alloc hown2.out _) ⟨wr.heap.size, 0, none⟩ 1 1 [.string (sat Rt q)] rfl rfl ?c1 ?c2 ?c3 ?c4 ?c5 ?_))
              case c1 => exact cell_one_new _ _ _
              case c2 => intro u hu; simp at hu; subst hu; rfl
              case c3 => unfold maxLen; omega
              case c4 => omega
              case c5 => have := hb8.size; simp; omega
              intro v' w10 hown' hgrow _
              have R : Hid (OwnS w10 w6.heap.size v' (ys ++ [sat Rt q])) := OwnS.snoc hown'
              have hB2 := own_step hb8 hb8.size hown2.out hgrow
              clear hown' hgrow hc
              go_wp2
              go_roundw
              case rel => exact ⟨q + 1, by omega, by go_num, by rw [HG.out]; exact R, hB2⟩
              case measure => simp [intOf]; omega
            · have HG : Hid (wants Lf Rt (q + 1) = wants Lf Rt q) := wants_in Lf Rt q (by rw [HNR.out]; exact hlt) hi0
              go_wp2_with (go_at_call 33; refine (indexOf_k _ _ Lf nL (sat Rt q) _ HNL (by omega) HLr).mono ?_; rintro e w9 ⟨rfl, hw9⟩; cases hw9)
              go_roundw
              case rel => exact ⟨q + 1, by omega, by go_num, by rw [HG.out]; exact hown2, hb8⟩
              case measure => simp [intOf]; omega
          · have hqe : nR = q := by omega
            have HO : Hid (OwnS wr w6.heap.size u9 X) := by
              rw [HLaw.out, HNR.out, hqe]; exact hown2
            obtain ⟨aO, cO, hO, hrO, _, _⟩ := own_row2 HO.out (by rw [HNX.out]; exact bX)
            rw [HNX.out] at hO
            have HrO : Hid (SRow wr aO X) := hrO
            have HrX : Hid (SRow wr aX X) := hrX6.out.below hb8
            have hbD : Below w.heap.size w wr := hbB.trans (hb8.mono hbB.size)
            subst hO
            go_wp2_with fail
            refine (eqStrings_same _ _ _ _ _ X _ HNX (by omega) HrX HrO).mono ?_
            rintro e w9 ⟨rfl, hb9⟩
            go_wp2
            go_ret
            exact ⟨rfl, hbD.trans (hb9.mono hbD.size)⟩
  · go_wp2
    go_ret
    exact ⟨rfl, Below.refl _ _⟩

set_option maxRecDepth 100000 in
set_option maxHeartbeats 400000 in
theorem lawB_out (a0 : Option Addr) (n cap0 : Nat) (k : Int) (P : List (List (List Cl))) (w : World) (hk : k < 0 ∨ (n : Int) < k) (hP : C2 w (.slice a0 n cap0) P) :
    Calls Try.prog 7 #[.slice a0 n cap0, .int .i64 k] w fun e w' => e = .returned (.bool true) ∧ Below w.heap.size w w' := by
  have HP : Hid (C2 w (.slice a0 n cap0) P) := hP
  clear hP
  by_cases k1 : k < 0
  all_goals
    go_enter Try.func7, Try.ntmps7
    go_wp2_with fail
    refine (bytes34 _ P k _ HP.out).mono ?_
    rintro e w0 ⟨he, hw0⟩
    cases hw0
    rcases he with rfl | rfl
    · go_wp2_with fail
      refine (big29 _ P _ HP.out).mono ?_
      rintro e w0 ⟨he, hw0⟩
      cases hw0
      rcases he with rfl | ⟨rfl, hs⟩
      · go_wp2
        go_ret
        exact ⟨rfl, Below.refl _ _⟩
      · have k2 : k < 0 ∨ (0 ≤ k ∧ (n : Int) < k) := by omega
        clear hk
        rcases k2 with k2 | ⟨k2, k3⟩
        · go_wp2
          go_ret
          exact ⟨rfl, Below.refl _ _⟩
        · go_wp2
          go_ret
          exact ⟨rfl, Below.refl _ _⟩
    · go_wp2
      go_ret
      exact ⟨rfl, Below.refl _ _⟩

theorem lawB (a0 : Option Addr) (n cap0 : Nat) (k : Int) (P : List (List (List Cl))) (w : World) (hcap : n ≤ cap0) (hP : C2 w (.slice a0 n cap0) P) :
    Calls Try.prog 7 #[.slice a0 n cap0, .int .i64 k] w fun e w' => e = .returned (.bool true) ∧ Below w.heap.size w w' := by
  by_cases h : k < 0 ∨ (n : Int) < k
  · exact lawB_out a0 n cap0 k P w h hP
  · obtain ⟨q, rfl⟩ := Int.eq_ofNat_of_zero_le (show 0 ≤ k by omega)
    exact lawB_in a0 n cap0 q P w hcap (by omega) hP
end Go.Proofs.Qxb6617226a
