/- FnSettleCommutesWithReversal. -/
import Derived.Test.Qxb6617226aAcc
import Derived.Test.Qxb6617226aAfn
import Derived.Test.Qxb6617226aClmRev
import Derived.Test.Qxb6617226aTrn
namespace Go.Proofs.Qxb6617226a
open Go.RowKit

theorem sat_app_right (xs ys : List ByteArray) (n t : Nat) (h : xs.length = n) : sat (xs ++ ys) (n + t) = sat ys t := by
  subst h
  unfold sat
  rw [List.getD_eq_getElem?_getD, List.getD_eq_getElem?_getD, List.getElem?_append_right (by omega), Nat.add_sub_cancel_left]
theorem sat_rev (X : List ByteArray) (t p : Nat) (h : p + t + 1 = X.length) : sat X.reverse p = sat X t := by
  unfold sat
  rw [List.getD_eq_getElem?_getD, List.getD_eq_getElem?_getD, List.getElem?_reverse (by omega), show X.length - 1 - p = t from by omega]

theorem BK.keep {w w' : World} {g n : Nat} {cs : List Cm} {F : Nat → Value} (hn : cs.length = n) (h : BK w (.slice (some ⟨g, 0, none⟩) n n) cs F) (h1 : w'.heap[g]? = w.heap[g]?) (h2 : ∀ i, i < n → ∀ b, (F i).ownBlock = some b → w'.heap[b]? = w.heap[b]?) : BK w' (.slice (some ⟨g, 0, none⟩) n n) cs F := by
  obtain ⟨hr, hk⟩ := h.parts hn
  refine ⟨g, by rw [hn], by rw [hn]; exact hr.of_block h1, ?_⟩
  rw [hn]
  refine ⟨fun i hi => ?_, hk.2⟩
  obtain ⟨k1, k2⟩ := hk.1 i hi
  refine ⟨k1, ?_⟩
  rcases k2 with k2 | ⟨x, cap, cur, hv, hg, hh, r⟩
  · exact Or.inl k2
  · exact Or.inr ⟨x, cap, cur, hv, hg, (h2 i hi x (by rw [hv]; rfl)).trans hh, r⟩

theorem stl_turned {cs : List Cm} {n i q : Nat} (hn : cs.length = n) (hq : q + i + 1 = n) : cat (stl cs.reverse n) q = { name := sat (aft cs) i, owner := (cat cs i).owner, cst := (cat cs i).cst, rank := (cat cs i).rank, rivals := (cat cs i).rivals ++ (own cs i (grp cs i)).reverse } := by
  have hr : cs.reverse.length = n := by rw [List.length_reverse]; exact hn
  have hc : ∀ j, j < n → cat cs.reverse (tr n j) = cat cs j := fun j hj => cat_rev (by unfold tr; omega)
  have hqi : tr n i = q := by unfold tr; omega
  obtain ⟨h1, h2⟩ := turn cs cs.reverse n hn hr hc (i := i) (by omega)
  have h3 := hc i (by omega)
  rw [hqi] at h1 h2 h3
  rw [stl_full hr (by omega), h1, h2, h3]

theorem two_cells (wA : World) (oA : Obj) (c : Array Value) (t : TypeId) (k : Nat) : ((wA.alloc oA).alloc (.cells c t)).cell? ⟨wA.heap.size + 1, k, none⟩ = c[k]? := by
  have := World.cell?_alloc_new (wA.alloc oA) c t k
  rw [World.size_alloc] at this
  exact this

set_option maxRecDepth 100000 in
set_option maxHeartbeats 4000000 in
theorem lawE (v : Value) (cs : List Cm) (w : World) (hP : K w v cs) :
    Calls Try.prog 5 #[v] w fun e w' => e = .returned (.bool true) ∧ Below w.heap.size w w' := by
  have HP : Hid (K w v cs) := hP
  clear hP
  go_enter Try.func5, Try.ntmps5
  go_wp2_with fail
  refine (bytes26 v cs _ HP.out).mono ?_
  rintro e w0 ⟨he, hw0⟩
  cases hw0
  rcases he with ⟨rfl, hzz⟩ | rfl
  · go_wp2_with fail
    refine (big9 v cs _ HP.out).mono ?_
    rintro e w0 ⟨he, hw0⟩
    cases hw0
    rcases he with rfl | ⟨rfl, hs⟩
    · go_wp2
      go_ret
      exact ⟨rfl, Below.refl _ _⟩
    · obtain ⟨n, hn0⟩ : ∃ n, cs.length = n := ⟨_, rfl⟩
      have HN : Hid (cs.length = n) := hn0
      have HNR : Hid (cs.reverse.length = n) := by show _ = _; rw [List.length_reverse]; exact hn0
      have hn : n ≤ 4096 := by rw [← hn0]; exact hs.n
      have HZ : Hid (∀ i, i < n → (cat cs i).name.size ≤ 1048576) := by rw [← hn0]; exact hzz.out
      have HRL : Hid (∀ i, i < n → (cat cs i).rivals.length ≤ 1048576) := by rw [← hn0]; exact hs.r
      have HSM : Hid (SmallC cs) := hs
      have HLo : Hid (∀ i, i < n → -9223372036854775808 ≤ (cat cs i).rank ∧ (cat cs i).rank ≤ 9223372036854775807) := by
        intro i hi
        obtain ⟨a, cap, _, _, hk⟩ := HP.out
        obtain ⟨b, off, ra, rc, _, h5⟩ := hk i (by rw [HN.out]; exact hi)
        exact ⟨h5.lo, h5.hi⟩
      have HRc : Hid (∀ i, i < n → cat cs.reverse i = cat cs (n - 1 - i)) := fun i hi => cat_rev (by rw [HN.out]; omega)
      have HZR : Hid (∀ i, i < n → (cat cs.reverse i).name.size ≤ 1048576) := fun i hi => by rw [HRc.out i hi]; exact HZ.out _ (by omega)
      have HRLR : Hid (∀ i, i < n → (cat cs.reverse i).rivals.length ≤ 1048576) := fun i hi => by rw [HRc.out i hi]; exact HRL.out _ (by omega)
      have HLoR : Hid (∀ i, i < n → -9223372036854775808 ≤ (cat cs.reverse i).rank ∧ (cat cs.reverse i).rank ≤ 9223372036854775807) := fun i hi => by rw [HRc.out i hi]; exact HLo.out _ (by omega)
      clear hn0 hs hzz
      go_wp2_with fail
      refine (build10g v cs _ HP.out HSM.out).mono ?_
      rintro e w1 ⟨F, hew, hbk, hb1⟩
      rw [HN.out] at hew hbk
      subst hew
      have HBK1 : Hid (BK w1 (.slice (some ⟨w.heap.size, 0, none⟩) n n) cs F) := hbk
      have hsz1 : w.heap.size < w1.heap.size := (hbk.parts HN.out).1.lt
      clear hbk
      go_wp2_with fail
      refine (build27 v cs n _ HN (HP.out.below hb1) HSM.out).mono ?_
      rintro e w2 ⟨G, rfl, hbk, hb2⟩
      have HBB2 : Hid (BK w2 (.slice (some ⟨w1.heap.size, 0, none⟩) n n) cs.reverse G) := hbk
      have HBK2 : Hid (BK w2 (.slice (some ⟨w.heap.size, 0, none⟩) n n) cs F) := HBK1.out.below hb2
      have HFo : Hid (∀ i, i < n → ∀ b, (F i).ownBlock = some b → w.heap.size + 1 ≤ b ∧ b < w1.heap.size) := fun i hi b hb => World.ownsRow.lt ((HBK1.out.parts HN.out).2.1 i hi) b hb
      have HGo : Hid (∀ i, i < n → ∀ b, (G i).ownBlock = some b → w1.heap.size + 1 ≤ b ∧ b < w2.heap.size) := fun i hi b hb => World.ownsRow.lt ((hbk.parts HNR.out).2.1 i hi) b hb
      have hsz2 : w1.heap.size < w2.heap.size := (hbk.parts HNR.out).1.lt
      clear hbk HBK1
      go_wp2_with fail
      refine (zsettle17 w.heap.size cs F n _ HN hn HBK2 HLo HZ HRL).mono ?_
      rintro e w3 ⟨rfl, hst⟩
      obtain ⟨F', hbk3, hfr3⟩ := hst.out
      have HFr3 : Hid (Fr w2 w3 w.heap.size F n F') := hfr3
      have HBK3 : Hid (BK w3 (.slice (some ⟨w.heap.size, 0, none⟩) n n) (stl cs n) F') := hbk3
      have HBB3 : Hid (BK w3 (.slice (some ⟨w1.heap.size, 0, none⟩) n n) cs.reverse G) := HBB2.out.keep HNR.out
        (hfr3.block _ hsz2 (by omega) (fun i hi e => by have := HFo.out i hi _ e; omega))
        (fun i hi b hb => hfr3.block b (HGo.out i hi b hb).2 (by have := HGo.out i hi b hb; omega) (fun j hj e => by have := HFo.out j hj _ e; have := HGo.out i hi b hb; omega))
      clear hst hbk3 hfr3 HBK2 HBB2
      go_wp2_with fail
      refine (zsettle17 w1.heap.size cs.reverse G n _ HNR hn HBB3 HLoR HZR HRLR).mono ?_
      rintro e w4 ⟨rfl, hst⟩
      obtain ⟨G', hbb4, hfr4⟩ := hst.out
      have HBB4 : Hid (BK w4 (.slice (some ⟨w1.heap.size, 0, none⟩) n n) (stl cs.reverse n) G') := hbb4
      have hs23 := HFr3.out.size
      have HNS : Hid ((stl cs n).length = n) := by show _ = _; rw [stl_len]; exact HN.out
      have HNT : Hid ((stl cs.reverse n).length = n) := by show _ = _; rw [stl_len]; exact HNR.out
      have HBK4 : Hid (BK w4 (.slice (some ⟨w.heap.size, 0, none⟩) n n) (stl cs n) F') := HBK3.out.keep HNS.out
        (hfr4.block _ (by omega) (by omega) (fun i hi e => by have := HGo.out i hi _ e; omega))
        (fun i hi b hb => by
          have hlt := (World.ownsRow.lt ((HBK3.out.parts HNS.out).2.1 i hi) b hb).2
          rcases HFr3.out.own i hi b hb with h | h
          · have := HFo.out i hi b h
            exact hfr4.block b hlt (by omega) (fun j hj e => by have := HGo.out j hj _ e; omega)
          · exact hfr4.block b hlt (by omega) (fun j hj e => by have := HGo.out j hj _ e; omega))
      have hb4 : Below w.heap.size w w4 := ((hb1.trans (hb2.mono (by omega))).trans (HFr3.out.belowB (Nat.le_refl _) (by omega) (fun i hi b hb => by have := HFo.out i hi b hb; omega))).trans (hfr4.belowB (by omega) (by omega) (fun i hi b hb => by have := HGo.out i hi b hb; omega))
      clear hst hbb4 hfr4 HBK3 HBB3 HFr3 hb1 hb2
      obtain ⟨a0, cap0, hv, _, _⟩ := HP.out
      rw [HN.out] at hv
      subst hv
      go_wp2_with fail
      refine (aft18 (.slice a0 n cap0) cs n _ HN (HP.out.below hb4) hn HZ).mono ?_
      rintro e w5 ⟨ga, rfl, hra, hb5⟩
      have hb5' : Below w.heap.size w w5 := hb4.trans (hb5.mono hb4.size)
      have HK5 : Hid (K w5 (.slice a0 n cap0) cs) := HP.out.below hb5'
      have HBP : Hid (w5.rowIs w.heap.size 39 (n * 5) (ccell (stl cs n) F' n) ∧ Riv w5 (w.heap.size + 1) (stl cs n) F' n) := (HBK4.out.below hb5).parts HNS.out
      have HBQ : Hid (w5.rowIs w1.heap.size 39 (n * 5) (ccell (stl cs.reverse n) G' n) ∧ Riv w5 (w1.heap.size + 1) (stl cs.reverse n) G' n) := (HBB4.out.below hb5).parts HNT.out
      obtain ⟨a1, cap1, hv, hln, hk⟩ := HK5.out
      rw [HN.out] at hv hk
      cases hv
      have HK : Hid (∀ i, i < n → ∃ b off ra rc, a0 = some ⟨b, off, none⟩ ∧ Five w5 b (off + i * 5) (cat cs i) ra rc) := hk
      clear hk hln HBK4 HBB4 hb4 hb5 HFo HGo
      go_wp2
      go_loopw [7] (fun i wr => ∃ k : Nat, k ≤ n ∧ i = .int .i64 k ∧ Below w5.heap.size w5 wr) (fun i _ => n - (intOf i).toNat)
      case atStart => exact ⟨0, Nat.zero_le _, rfl, Below.refl _ _⟩
      case round =>
        obtain ⟨i, hin, rfl, hbA⟩ := hrel
        rename World => wA
        by_cases hlt : i < n
        · obtain ⟨b, off, ra, rc, rfl, h5⟩ := HK.out i hlt
          obtain ⟨q, hq⟩ : ∃ q : Nat, q + i + 1 = n := ⟨n - 1 - i, by omega⟩
          have hqn : q < n := by omega
          have hfull := stl_full HN.out hlt
          have hturn := stl_turned HN.out hq
          obtain ⟨fa, fc, hFv⟩ := (HBP.out.2.1 i hlt).slice
          obtain ⟨ba, bc, hGv⟩ := (HBQ.out.2.1 q hqn).slice
          have hOF := HBP.out.2.1 i hlt
          have hOG := HBQ.out.2.1 q hqn
          obtain ⟨bA, oA, haA, hcA⟩ := hra.out i (by rw [aft_len, HN.out]; exact hlt)
          cases haA
          rw [Nat.zero_add] at hcA
          have hrl := HRL.out i hlt
          obtain ⟨s0, hs0⟩ : ∃ z, sat (aft cs) i = z := ⟨_, rfl⟩
          obtain ⟨o0, ho0⟩ : ∃ z, (cat cs i).owner = z := ⟨_, rfl⟩
          obtain ⟨b0, hb0⟩ : ∃ z, (cat cs i).cst = z := ⟨_, rfl⟩
          obtain ⟨r0, hr0⟩ : ∃ z, (cat cs i).rank = z := ⟨_, rfl⟩
          obtain ⟨rv, hrv⟩ : ∃ z, (cat cs i).rivals = z := ⟨_, rfl⟩
          have hgl : (grp cs i).length ≤ n := by unfold grp; rw [HN.out]; exact tops_len _ _ _ _ _
          have hol := own_len cs i (grp cs i)
          obtain ⟨X, hX⟩ : ∃ z, own cs i (grp cs i) = z := ⟨_, rfl⟩
          rw [hs0, ho0, hb0, hr0, hrv, hX] at hfull hturn
          have f4 := h5.c4
          have f5 := h5.row
          rw [hrv] at f4 f5 hrl
          rw [hs0] at hcA
          rw [hX] at hol
          rw [hfull] at hFv hOF
          rw [hturn] at hGv hOG
          simp only [List.length_append, List.length_reverse] at hFv hOF hGv hOG
          obtain ⟨n1, hn1⟩ : ∃ z, rv.length = z := ⟨_, rfl⟩
          obtain ⟨mx, hmx⟩ : ∃ z, X.length = z := ⟨_, rfl⟩
          rw [hn1, hmx] at hFv hGv
          rw [hn1] at f4 hrl
          rw [hmx] at hol
          obtain ⟨fl, hfl⟩ : ∃ z, n1 + mx = z := ⟨_, rfl⟩
          rw [hfl] at hFv hGv
          have HX : Hid (own cs i (grp cs i) = X) := hX
          have HSI : Hid (sat (aft cs) i = s0) := hs0
          have HN1 : Hid (rv.length = n1) := hn1
          have HMX : Hid (X.length = mx) := hmx
          have hflb : fl ≤ 1052672 := by omega
          have HRR : Hid (SRow w5 ra rv) := f5
          have HSF : Hid (SRow w5 fa (rv ++ X)) := by
            rw [hFv] at hOF
            obtain ⟨a2, c2, hv2, _, hr2⟩ := hOF.row (by rw [List.length_append]; omega)
            simp only [Value.slice.injEq] at hv2
            rw [hv2.1]; exact hr2
          have HSG : Hid (SRow w5 ba (rv ++ X.reverse)) := by
            rw [hGv] at hOG
            obtain ⟨a2, c2, hv2, _, hr2⟩ := hOG.row (by rw [List.length_append, List.length_reverse]; omega)
            simp only [Value.slice.injEq] at hv2
            rw [hv2.1]; exact hr2
          have k0 : wA.cell? ⟨w.heap.size, i * 5, none⟩ = some (.string s0) := cell_later hbA (claim_cell HBP.out.1 hlt 0 (by decide) hfull hFv)
          have k1 : wA.cell? ⟨w.heap.size, i * 5 + 1, none⟩ = some (.string o0) := cell_later hbA (claim_cell HBP.out.1 hlt 1 (by decide) hfull hFv)
          have k2 : wA.cell? ⟨w.heap.size, i * 5 + 2, none⟩ = some (.bool b0) := cell_later hbA (claim_cell HBP.out.1 hlt 2 (by decide) hfull hFv)
          have k3 : wA.cell? ⟨w.heap.size, i * 5 + 3, none⟩ = some (.int .i64 r0) := cell_later hbA (claim_cell HBP.out.1 hlt 3 (by decide) hfull hFv)
          have k4 : wA.cell? ⟨w.heap.size, i * 5 + 4, none⟩ = some (.slice fa fl fc) := cell_later hbA (claim_cell HBP.out.1 hlt 4 (by decide) hfull hFv)
          have j0 : wA.cell? ⟨w1.heap.size, q * 5, none⟩ = some (.string s0) := cell_later hbA (claim_cell HBQ.out.1 hqn 0 (by decide) hturn hGv)
          have j1 : wA.cell? ⟨w1.heap.size, q * 5 + 1, none⟩ = some (.string o0) := cell_later hbA (claim_cell HBQ.out.1 hqn 1 (by decide) hturn hGv)
          have j2 : wA.cell? ⟨w1.heap.size, q * 5 + 2, none⟩ = some (.bool b0) := cell_later hbA (claim_cell HBQ.out.1 hqn 2 (by decide) hturn hGv)
          have j3 : wA.cell? ⟨w1.heap.size, q * 5 + 3, none⟩ = some (.int .i64 r0) := cell_later hbA (claim_cell HBQ.out.1 hqn 3 (by decide) hturn hGv)
          have j4 : wA.cell? ⟨w1.heap.size, q * 5 + 4, none⟩ = some (.slice ba fl bc) := cell_later hbA (claim_cell HBQ.out.1 hqn 4 (by decide) hturn hGv)
          have hbD : Below w5.heap.size w5 ((wA.alloc (.cells #[.string s0, .string o0, .bool b0, .int .i64 r0, .slice fa fl fc] 39)).alloc (.cells #[.string s0, .string o0, .bool b0, .int .i64 r0, .slice ba fl bc] 39)) := hbA.trans ((((Below.refl _ _).alloc (Nat.le_refl _) _).alloc (by simp) _).mono hbA.size)
          have HS : Hid (∀ w', Below ((wA.alloc (.cells #[.string s0, .string o0, .bool b0, .int .i64 r0, .slice fa fl fc] 39)).alloc (.cells #[.string s0, .string o0, .bool b0, .int .i64 r0, .slice ba fl bc] 39)).heap.size ((wA.alloc (.cells #[.string s0, .string o0, .bool b0, .int .i64 r0, .slice fa fl fc] 39)).alloc (.cells #[.string s0, .string o0, .bool b0, .int .i64 r0, .slice ba fl bc] 39)) w' → w'.cell? ⟨wA.heap.size, 0, none⟩ = some (.string s0) ∧ w'.cell? ⟨wA.heap.size, 1, none⟩ = some (.string o0) ∧ w'.cell? ⟨wA.heap.size, 2, none⟩ = some (.bool b0) ∧ w'.cell? ⟨wA.heap.size, 3, none⟩ = some (.int .i64 r0) ∧ w'.cell? ⟨wA.heap.size, 4, none⟩ = some (.slice fa fl fc) ∧ w'.cell? ⟨wA.heap.size + 1, 0, none⟩ = some (.string s0) ∧ w'.cell? ⟨wA.heap.size + 1, 1, none⟩ = some (.string o0) ∧ w'.cell? ⟨wA.heap.size + 1, 2, none⟩ = some (.bool b0) ∧ w'.cell? ⟨wA.heap.size + 1, 3, none⟩ = some (.int .i64 r0) ∧ w'.cell? ⟨wA.heap.size + 1, 4, none⟩ = some (.slice ba fl bc) ∧ w'.cell? ⟨ga, i, none⟩ = some (.string s0) ∧ w'.cell? ⟨b, off + i * 5 + 4, none⟩ = some (.slice ra n1 rc)) := fun w' hb => ⟨cell_later hb (cell_later ((Below.refl _ _).alloc (Nat.le_refl _) _) (World.cell?_alloc_new _ _ _ _)), cell_later hb (cell_later ((Below.refl _ _).alloc (Nat.le_refl _) _) (World.cell?_alloc_new _ _ _ _)), cell_later hb (cell_later ((Below.refl _ _).alloc (Nat.le_refl _) _) (World.cell?_alloc_new _ _ _ _)), cell_later hb (cell_later ((Below.refl _ _).alloc (Nat.le_refl _) _) (World.cell?_alloc_new _ _ _ _)), cell_later hb (cell_later ((Below.refl _ _).alloc (Nat.le_refl _) _) (World.cell?_alloc_new _ _ _ _)), cell_later hb (two_cells _ _ _ _ _), cell_later hb (two_cells _ _ _ _ _), cell_later hb (two_cells _ _ _ _ _), cell_later hb (two_cells _ _ _ _ _), cell_later hb (two_cells _ _ _ _ _), cell_later hb (cell_later hbD hcA), cell_later hb (cell_later hbD f4)⟩
          clear h5 hfull hturn hFv hGv hOF hOG hs0 ho0 hb0 hr0 hrv hX hn1 hmx f5 hcA f4 hgl
          have e1 : (i : Int) < n := by omega
          have e2 : (n : Int) - 1 - (i : Int) = (q : Int) := by omega
          have e3 : (q : Int) < n := by omega
          have e4 : (0 : Int) ≤ q := by omega
          have u1 : IntKind.i64.wrap ((n : Int) - 1) = (n : Int) - 1 := Go.IntWalk.i64_in _ (by omega)
          have u2 : IntKind.i64.wrap (q : Int) = (q : Int) := Go.IntWalk.i64_in _ (by omega)
          have d1 : (s0.toList == s0.toList) = true := by simp
          have i0 : (wA.alloc (.cells #[.string s0, .string o0, .bool b0, .int .i64 r0, .slice fa fl fc] 39)).cell? ⟨w1.heap.size, q * 5, none⟩ = some (.string s0) := cell_later ((Below.refl _ _).alloc (Nat.le_refl _) _) j0
          have i1 : (wA.alloc (.cells #[.string s0, .string o0, .bool b0, .int .i64 r0, .slice fa fl fc] 39)).cell? ⟨w1.heap.size, q * 5 + 1, none⟩ = some (.string o0) := cell_later ((Below.refl _ _).alloc (Nat.le_refl _) _) j1
          have i2 : (wA.alloc (.cells #[.string s0, .string o0, .bool b0, .int .i64 r0, .slice fa fl fc] 39)).cell? ⟨w1.heap.size, q * 5 + 2, none⟩ = some (.bool b0) := cell_later ((Below.refl _ _).alloc (Nat.le_refl _) _) j2
          have i3 : (wA.alloc (.cells #[.string s0, .string o0, .bool b0, .int .i64 r0, .slice fa fl fc] 39)).cell? ⟨w1.heap.size, q * 5 + 3, none⟩ = some (.int .i64 r0) := cell_later ((Below.refl _ _).alloc (Nat.le_refl _) _) j3
          have i4 : (wA.alloc (.cells #[.string s0, .string o0, .bool b0, .int .i64 r0, .slice fa fl fc] 39)).cell? ⟨w1.heap.size, q * 5 + 4, none⟩ = some (.slice ba fl bc) := cell_later ((Below.refl _ _).alloc (Nat.le_refl _) _) j4
          clear j0 j1 j2 j3 j4
          go_wp2_with fail
          refine (acc19 s0 o0 b0 r0 fa fl fc _).mono ?_
          rintro e wa ⟨rfl, hba⟩
          have hca : Below ((wA.alloc (.cells #[.string s0, .string o0, .bool b0, .int .i64 r0, .slice fa fl fc] 39)).alloc (.cells #[.string s0, .string o0, .bool b0, .int .i64 r0, .slice ba fl bc] 39)).heap.size ((wA.alloc (.cells #[.string s0, .string o0, .bool b0, .int .i64 r0, .slice fa fl fc] 39)).alloc (.cells #[.string s0, .string o0, .bool b0, .int .i64 r0, .slice ba fl bc] 39)) wa := hba
          obtain ⟨_, _, _, _, _, y0, y1, y2, y3, y4, y5, _⟩ := HS.out wa hca
          go_wp2_with fail
          refine (acc19 s0 o0 b0 r0 ba fl bc _).mono ?_
          rintro e wb ⟨rfl, hbb⟩
          have hcb := hca.trans (hbb.mono hca.size)
          obtain ⟨x0, x1, x2, x3, x4, _⟩ := HS.out wb hcb
          clear y0 y1 y2 y3 y4 y5 i0 i1 i2 i3 i4 k0 k1 k2 k3 k4
          go_wp2_with fail
          refine (acc25 s0 o0 b0 r0 fa fl fc _).mono ?_
          rintro e wc ⟨rfl, hbc⟩
          have hcc := hcb.trans (hbc.mono hcb.size)
          obtain ⟨_, _, _, _, _, y0, y1, y2, y3, y4, _⟩ := HS.out wc hcc
          clear x0 x1 x2 x3 x4
          go_wp2_with fail
          refine (acc25 s0 o0 b0 r0 ba fl bc _).mono ?_
          rintro e wd ⟨rfl, hbd⟩
          have hcd := hcc.trans (hbd.mono hcc.size)
          obtain ⟨_, _, _, _, _, _, _, _, _, _, za, zr⟩ := HS.out wd hcd
          have hbW : Below w5.heap.size w5 wd := hbD.trans (hcd.mono hbD.size)
          have HSFd : Hid (SRow wd fa (rv ++ X)) := HSF.out.below hbW
          have HSGd : Hid (SRow wd ba (rv ++ X.reverse)) := HSG.out.below hbW
          have HRRd : Hid (SRow wd ra rv) := HRR.out.below hbW
          have HXL : Hid ((rv ++ X).length = fl) := by show _ = _; rw [List.length_append, HN1.out, HMX.out]; exact hfl
          have HYL : Hid ((rv ++ X.reverse).length = fl) := by show _ = _; rw [List.length_append, List.length_reverse, HN1.out, HMX.out]; exact hfl
          have HFL : Hid (n1 + mx = fl) := hfl
          clear y0 y1 y2 y3 y4 hcd hcc hcb hca hba hbb hbc hbd HS hbD HSF HSG HRR
          have d2 : ((fl : Int) != (fl : Int)) = false := by simp
          have d3 : decide ((fl : Int) < (n1 : Int)) = false := decide_eq_false (by omega)
          go_wp2
          go_loopw [14] (fun t wr => ∃ k z : Nat, k ≤ n1 ∧ t = .int .i64 k ∧ wr = wd.drewN z) (fun t _ => n1 - (intOf t).toNat)
          case atStart => exact ⟨0, 0, Nat.zero_le _, rfl, rfl⟩
          case round =>
            obtain ⟨t, z, htn, rfl, rfl⟩ := hrel
            by_cases hltt : t < n1
            · obtain ⟨p1, l1, h1, c1⟩ := HSFd.out t (by rw [HXL.out]; omega)
              obtain ⟨p2, l2, h2, c2⟩ := HSGd.out t (by rw [HYL.out]; omega)
              obtain ⟨p3, l3, h3, c3⟩ := HRRd.out t (by rw [HN1.out]; exact hltt)
              subst h1 h2 h3
              rw [sat_app_left _ _ _ (by rw [HN1.out]; exact hltt)] at c1 c2
              obtain ⟨st, hst⟩ : ∃ z, sat rv t = z := ⟨_, rfl⟩
              rw [hst] at c1 c2 c3
              clear hst
              have e5 : (t : Int) < fl := by omega
              have e6 : (t : Int) < n1 := by omega
              have d4 : (st.toList == st.toList) = true := by simp
              go_wp2_with fail
              go_quiet (fail)
              go_wp2
              go_roundw
              case rel => exact ⟨t + 1, _, by omega, by go_num, rfl⟩
              case measure => simp [intOf]; omega
            · have e5 : (fl : Int) - (n1 : Int) = (mx : Int) := by omega
              have u3 : IntKind.i64.wrap (mx : Int) = (mx : Int) := Go.IntWalk.i64_in _ (by omega)
              have hbZ : Below w5.heap.size w5 (wd.drewN z) := below_drewN hbW z
              have HAL : Hid ((aft cs).length = n) := by show _ = _; rw [aft_len]; exact HN.out
              have HSA : Hid (SRow (wd.drewN z) (some ⟨ga, 0, none⟩) (aft cs)) := hra.out.below hbZ
              have HKA : Hid (K (wd.drewN z) (.slice (some ⟨b, off, none⟩) n cap0) cs) := HK5.out.below hbZ
              obtain ⟨l, hll⟩ : ∃ l, top (aft cs) (rks cs) s0 n = l := ⟨_, rfl⟩
              have HLL : Hid (top (aft cs) (rks cs) s0 n = l) := hll
              have HLG : Hid (grp cs i = l) := by show _ = _; rw [← hll]; unfold grp; rw [HN.out, HSI.out]
              have hnlb : l.length ≤ n := by rw [← hll]; exact tops_len _ _ _ _ _
              obtain ⟨nl, hnl0⟩ : ∃ z, l.length = z := ⟨_, rfl⟩
              rw [hnl0] at hnlb
              have HNL : Hid (l.length = nl) := hnl0
              clear hll hnl0
              go_wp2_with fail
              refine (top15r (some ⟨ga, 0, none⟩) n (aft cs) (.slice (some ⟨b, off, none⟩) n cap0) cs s0 n l nl _ HN HAL (by exact HSA) (by exact HKA) hn HLL HNL).mono ?_
              rintro e we ⟨al, cl, rfl, hil, hbe⟩
              have hbY : Below w5.heap.size w5 we := hbZ.trans (hbe.mono hbZ.size)
              have HSFe : Hid (SRow we fa (rv ++ X)) := (HSFd.out.drewN z).below hbe
              have HSGe : Hid (SRow we ba (rv ++ X.reverse)) := (HSGd.out.drewN z).below hbe
              clear HSFd HSGd HRRd za zr
              go_wp2
              go_loop [17, 18] (fun e t => ∃ k : Nat, k ≤ nl ∧ t = .int .i64 k ∧ e = .int .i64 ((own cs i (l.take k)).length : Nat)) (fun _ t => nl - (intOf t).toNat)
              case atStart => exact ⟨0, Nat.zero_le _, rfl, rfl⟩
              case round =>
                obtain ⟨k, hkn, rfl, rfl⟩ := hrel
                by_cases hltk : k < nl
                · obtain ⟨bl, ol, hal, hcl⟩ := hil.out k (by rw [HNL.out]; exact hltk)
                  subst hal
                  have HOT : Hid (own cs i (l.take (k + 1)) = if nat l k = i then own cs i (l.take k) else own cs i (l.take k) ++ [(cat cs (nat l k)).owner]) := own_take (by rw [HNL.out]; exact hltk)
                  have hol2 := own_len cs i (l.take k)
                  rw [List.length_take] at hol2
                  obtain ⟨j, hj0⟩ : ∃ j, nat l k = j := ⟨_, rfl⟩
                  rw [hj0] at hcl HOT
                  clear hj0
                  obtain ⟨x, hx0⟩ : ∃ x, own cs i (l.take k) = x := ⟨_, rfl⟩
                  rw [hx0] at HOT hol2 ⊢
                  clear hx0
                  obtain ⟨nx, hnx⟩ : ∃ z, x.length = z := ⟨_, rfl⟩
                  have HNX : Hid (x.length = nx) := hnx
                  rw [hnx] at hol2 ⊢
                  clear hnx
                  have e6 : (k : Int) < nl := by omega
                  by_cases hji : j = i
                  · have HT : Hid ((own cs i (l.take (k + 1))).length = nx) := by show _ = _; rw [HOT.out, if_pos hji]; exact HNX.out
                    have d5 : ((j : Int) != (i : Int)) = false := by simp; omega
                    go_wp2
                    go_round
                    case rel => exact ⟨k + 1, by omega, by go_num, by rw [HT.out]⟩
                    case measure => simp [intOf]; omega
                  · have HT : Hid ((own cs i (l.take (k + 1))).length = nx + 1) := by show _ = _; rw [HOT.out, if_neg hji, List.length_append, HNX.out]; rfl
                    have d5 : ((j : Int) != (i : Int)) = true := by simp; omega
                    go_wp2
                    go_round
                    case rel => exact ⟨k + 1, by omega, by go_num, by rw [HT.out]; go_num⟩
                    case measure => simp [intOf]; omega
                · have hke : nl = k := by omega
                  subst hke
                  have HOL : Hid ((own cs i (l.take nl)).length = mx) := by show _ = _; rw [← HNL.out, own_all, ← HLG.out, HX.out]; exact HMX.out
                  rw [HOL.out]
                  have d6 : ((mx : Int) != (mx : Int)) = false := by simp
                  go_wp2
                  go_loopw [19] (fun t wr => ∃ k z : Nat, k ≤ mx ∧ t = .int .i64 k ∧ wr = we.drewN z) (fun t _ => mx - (intOf t).toNat)
                  case atStart => exact ⟨0, 0, Nat.zero_le _, rfl, rfl⟩
                  case round =>
                    obtain ⟨t, z, htn, rfl, rfl⟩ := hrel
                    by_cases hltt : t < mx
                    · obtain ⟨y, hy⟩ : ∃ y, n1 + t = y := ⟨_, rfl⟩
                      obtain ⟨p, hp⟩ : ∃ p, p + t + 1 = fl := ⟨fl - 1 - t, by have := HFL.out; omega⟩
                      have hF0 := HFL.out
                      obtain ⟨p1, l1, h1, c1⟩ := HSFe.out y (by rw [HXL.out]; omega)
                      obtain ⟨p2, l2, h2, c2⟩ := HSGe.out p (by rw [HYL.out]; omega)
                      subst h1 h2
                      rw [← hy, sat_app_right _ _ _ _ HN1.out, hy] at c1
                      have hsr : sat (rv ++ X.reverse) p = sat X t := by
                        obtain ⟨p', hp'⟩ : ∃ p', n1 + p' = p := ⟨p - n1, by omega⟩
                        rw [← hp', sat_app_right _ _ _ _ HN1.out]
                        exact sat_rev X t p' (by rw [HMX.out]; omega)
                      rw [hsr] at c2
                      obtain ⟨st, hst⟩ : ∃ z, sat X t = z := ⟨_, rfl⟩
                      rw [hst] at c1 c2
                      clear hst hsr
                      have a1 : (n1 : Int) + (t : Int) = (y : Int) := by omega
                      have a2 : (y : Int) < fl := by omega
                      have a3 : (fl : Int) - 1 - (t : Int) = (p : Int) := by omega
                      have a4 : (p : Int) < fl := by omega
                      have a5 : (0 : Int) ≤ y := by omega
                      have a6 : (0 : Int) ≤ p := by omega
                      have v1 : IntKind.i64.wrap (y : Int) = (y : Int) := Go.IntWalk.i64_in _ (by omega)
                      have v2 : IntKind.i64.wrap ((fl : Int) - 1) = (fl : Int) - 1 := Go.IntWalk.i64_in _ (by omega)
                      have v3 : IntKind.i64.wrap (p : Int) = (p : Int) := Go.IntWalk.i64_in _ (by omega)
                      have a7 : (t : Int) < mx := by omega
                      have d7 : (st.toList == st.toList) = true := by simp
                      clear hF0 hy hp
                      go_wp2_with fail
                      go_quiet (fail)
                      go_wp2
                      go_roundw
                      case rel => exact ⟨t + 1, _, by omega, by go_num, rfl⟩
                      case measure => simp [intOf]; omega
                    · go_wp2
                      go_roundw
                      case rel => exact ⟨i + 1, by omega, by go_num, below_drewN hbY z⟩
                      case measure => simp [intOf]; omega
        · go_wp2
          go_ret
          exact ⟨rfl, hb5'.trans (hbA.mono hb5'.size)⟩
  · go_wp2
    go_ret
    exact ⟨rfl, Below.refl _ _⟩
end Go.Proofs.Qxb6617226a
