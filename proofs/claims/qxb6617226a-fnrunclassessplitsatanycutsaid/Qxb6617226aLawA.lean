import Derived.Test.Qxb6617226aBytes
import Derived.Test.Qxb6617226aBuild
import Derived.Test.Qxb6617226aRun
import Derived.Test.Qxb6617226aPlain
namespace Go.Proofs.Qxb6617226a
open Go.RowKit

theorem own_row {w : World} {B : Nat} {u : Value} {xs : List ByteArray} (h : OwnS w B u xs) (hl : xs.length ≤ 4096) : ∃ a cap, u = .slice a xs.length cap ∧ SRow w a xs := by
  obtain ⟨a, cap, h1, _, h2⟩ := h.row (by omega)
  exact ⟨a, cap, h1, h2⟩

set_option maxHeartbeats 400000 in
theorem zrun30 (v : Value) (P : List (List (List Cl))) (w : World) (hP : PB w v P) (hs : Small P) :
    Calls Try.prog 30 #[v] w fun e w' => ∃ a cap, e = .returned (.slice a (gP dstep [] P P.length).length cap) ∧ SRow w' a (gP dstep [] P P.length) ∧ Below w.heap.size w w' := by
  go_enter Try.func30, Try.ntmps30
  go_wp2_with fail
  refine (run40 v P _ hP hs).mono ?_
  rintro e w1 ⟨u, rfl, hown, hb⟩
  obtain ⟨a, cap, hu, hr⟩ := own_row hown (end_len slow_d P hs)
  rw [hu]
  go_wp2
  go_ret
  exact ⟨a, cap, rfl, hr, hb⟩

theorem flat_row (v : Value) (P : List (List (List Cl))) (w : World) (hP : C2 w v P) (hs : Small P) :
    Calls Try.prog 32 #[v] w fun e w' => ∃ a cap, e = .returned (.slice a (gP fstep [] P P.length).length cap) ∧ SRow w' a (gP fstep [] P P.length) ∧ Below w.heap.size w w' := by
  refine (flat32 v P w hP hs).mono ?_
  rintro e w1 ⟨u, rfl, hown, hb⟩
  obtain ⟨a, cap, hu, hr⟩ := own_row hown (end_len slow_f P hs)
  exact ⟨a, cap, by rw [hu], hr, hb⟩

theorem indexOf_n (a : Option Addr) (cap : Nat) (xs : List ByteArray) (n : Nat) (x : ByteArray) (w : World) (hn : Hid (xs.length = n)) (hl : n ≤ 4096) (hr : Hid (SRow w a xs)) :
    Calls Try.prog 33 #[.slice a n cap, .string x] w fun e w' => e = .returned (.int .i64 (idx xs x)) ∧ w' = w := by
  cases hn.out
  exact indexOf_any a cap xs x w (by omega) hr.out

/-- The place found in the round before. -/
def pv (xf xg : List ByteArray) : Nat → Int
  | 0 => -1
  | k + 1 => idx xf (sat xg k)
theorem pv_lt (xf : List ByteArray) (k : Nat) (h : k < (dd xf).length) : pv xf (dd xf) k < idx xf (sat (dd xf) k) := by
  cases k with
  | zero =>
    have := idx_mem ((dd_mem xf _).1 (sat_mem (dd xf) 0 h))
    simp only [pv]; omega
  | succ k => exact rises xf (k + 1) k (by omega) h
theorem pv_bd (xf xg : List ByteArray) (k : Nat) : -1 ≤ pv xf xg k ∧ pv xf xg k < (xf.length : Int) + 1 := by
  cases k with
  | zero => simp only [pv]; omega
  | succ k => exact idx_bd _ _

set_option maxRecDepth 100000 in
set_option maxHeartbeats 1000000 in
theorem lawA (v : Value) (P : List (List (List Cl))) (w : World) (hP : C2 w v P) :
    Calls Try.prog 6 #[v] w fun e w' => e = .returned (.bool true) ∧ Below w.heap.size w w' := by
  have HP : Hid (C2 w v P) := hP
  clear hP
  go_enter Try.func6, Try.ntmps6
  go_wp2_with fail
  refine (bytes28 v P _ HP.out).mono ?_
  rintro e w0 ⟨he, hw0⟩
  cases hw0
  rcases he with rfl | rfl
  · go_wp2_with fail
    refine (big29 v P _ HP.out).mono ?_
    rintro e w0 ⟨he, hw0⟩
    cases hw0
    rcases he with rfl | ⟨rfl, hs⟩
    · go_wp2
      go_ret
      exact ⟨rfl, Below.refl _ _⟩
    · go_wp2_with fail
      refine (build31 v P _ HP.out hs).mono ?_
      rintro e w1 ⟨u, rfl, hpb, hb1⟩
      go_wp2_with fail
      refine (zrun30 u P _ hpb hs).mono ?_
      rintro e w2 ⟨ag, cg, rfl, hrg, hb2⟩
      have hb2' : Below w.heap.size w w2 := hb1.trans (hb2.mono hb1.size)
      go_wp2_with fail
      refine (flat_row v P _ (HP.out.below hb2') hs).mono ?_
      rintro e w3 ⟨af, cf', rfl, hrf, hb3⟩
      have hb3' : Below w.heap.size w w3 := hb2'.trans (hb3.mono hb2'.size)
      have HG : Hid (SRow w3 ag (gP dstep [] P P.length)) := hrg.below hb3
      have HF : Hid (SRow w3 af (gP fstep [] P P.length)) := hrf
      have hlg := end_len slow_d P hs
      have hlf := end_len slow_f P hs
      have HD : Hid (gP dstep [] P P.length = dd (gP fstep [] P P.length)) := gP_dd P
      clear hrg hrf hpb hb1 hb2 hb2' hb3
      obtain ⟨xg, hxg⟩ : ∃ x, gP dstep [] P P.length = x := ⟨_, rfl⟩
      obtain ⟨xf, hxf⟩ : ∃ x, gP fstep [] P P.length = x := ⟨_, rfl⟩
      rw [hxg] at HG HD hlg ⊢
      rw [hxf] at HF HD hlf ⊢
      clear hxg hxf
      obtain ⟨ng, hng⟩ : ∃ n, xg.length = n := ⟨_, rfl⟩
      obtain ⟨nf, hnf⟩ : ∃ n, xf.length = n := ⟨_, rfl⟩
      have HNG : Hid (xg.length = ng) := hng
      have HNF : Hid (xf.length = nf) := hnf
      rw [hng] at hlg ⊢
      rw [hnf] at hlf ⊢
      clear hng hnf
      go_wp2
      go_loop [5] (fun q => ∃ k : Nat, k ≤ nf ∧ q = .int .i64 k) (fun q => nf - (intOf q).toNat)
      case atStart => exact ⟨0, Nat.zero_le _, rfl⟩
      case round =>
        obtain ⟨k, hk, rfl⟩ := hrel
        by_cases hlt : k < nf
        · obtain ⟨b, off, rfl, hc⟩ := HF.out k (by rw [HNF.out]; exact hlt)
          have hi : 0 ≤ idx xg (sat xf k) := by
            have : sat xf k ∈ xg := by rw [HD.out, dd_mem]; exact sat_mem xf k (by rw [HNF.out]; exact hlt)
            exact (idx_mem this).1
          go_wp2_with (go_at_call 33; refine (indexOf_n ag cg xg ng (sat xf k) _ HNG hlg HG).mono ?_; rintro e w4 ⟨rfl, hw4⟩; cases hw4)
          go_round
          case rel => exact ⟨k + 1, by omega, by go_num⟩
          case measure => simp [intOf]; omega
        · go_wp2
          go_loop [6, 7] (fun p q => ∃ k : Nat, k ≤ ng ∧ q = .int .i64 k ∧ p = .int .i64 (pv xf xg k)) (fun _ q => ng - (intOf q).toNat)
          case atStart => exact ⟨0, Nat.zero_le _, rfl, rfl⟩
          case round =>
            obtain ⟨k2, hk2, rfl, rfl⟩ := hrel
            by_cases hlt2 : k2 < ng
            · obtain ⟨b, off, rfl, hc⟩ := HG.out k2 (by rw [HNG.out]; exact hlt2)
              have hp : pv xf xg k2 < idx xf (sat xg k2) := by
                have := pv_lt xf k2 (by rw [← HD.out, HNG.out]; exact hlt2)
                rw [← HD.out] at this; exact this
              go_wp2_with (go_at_call 33; refine (indexOf_n af cf' xf nf (sat xg k2) _ HNF hlf HF).mono ?_; rintro e w4 ⟨rfl, hw4⟩; cases hw4)
              go_round
              case rel => exact ⟨k2 + 1, by omega, by go_num, rfl⟩
              case measure => simp [intOf]; omega
            · go_wp2
              go_ret
              exact ⟨rfl, hb3'⟩
  · go_wp2
    go_ret
    exact ⟨rfl, Below.refl _ _⟩
end Go.Proofs.Qxb6617226a
