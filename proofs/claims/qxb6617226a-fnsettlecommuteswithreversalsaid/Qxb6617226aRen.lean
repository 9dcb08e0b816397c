/- renamedIdx and afterNames. -/
import Derived.Test.Qxb6617226aAft
import Derived.Test.Qxb6617226aLawC
namespace Go.Proofs.Qxb6617226a
open Go.RowKit

set_option maxRecDepth 100000 in
set_option maxHeartbeats 1000000 in
theorem ren39 (an : Option Addr) (cn : Nat) (v : Value) (cs : List Cm) (n i : Nat) (w : World) (hn : Hid (cs.length = n)) (hr : Hid (SRow w an (names cs))) (hP : Hid (K w v cs)) (hl : n ≤ 4096) (hi : i < n) :
    Calls Try.prog 39 #[v, .slice an n cn, .int .i64 i] w fun e w' => e = .returned (.bool (rn cs i)) ∧ Below w.heap.size w w' := by
  have HNN : Hid ((names cs).length = n) := by show _ = _; rw [names_len]; exact hn.out
  have hK0 := hP.out
  obtain ⟨a0, cap0, hv, _, hk⟩ := hK0
  rw [hn.out] at hv hk
  subst hv
  obtain ⟨b, off, ra, rc, rfl, h5⟩ := hk i hi
  have HK : Hid (∀ j, j < n → w.cell? ⟨b, off + j * 5 + 2, none⟩ = some (.bool (cat cs j).cst)) := fun j hj => by
    obtain ⟨b', off', ra, rc, e, h5⟩ := hk j hj
    cases e
    exact h5.c2
  have f2 := HK.out i hi
  obtain ⟨bn, on, han, hcn⟩ := hr.out i (by rw [HNN.out]; exact hi)
  subst han
  rw [names_at] at hcn
  clear hk h5
  have e1 : (i : Int) < n := by omega
  obtain ⟨l, hll⟩ : ∃ l, top (names cs) (rks cs) (cat cs i).name n = l := ⟨_, rfl⟩
  have HLL : Hid (top (names cs) (rks cs) (cat cs i).name n = l) := hll
  have HRN : Hid (rn cs i = decide (pick cs l = some i)) := by show _ = _; unfold rn; rw [hn.out, hll]
  have HLT : Hid (∀ j ∈ l, j < n) := fun j hj => by rw [← hll] at hj; exact top_lt _ _ _ _ _ hj
  clear hll
  obtain ⟨nl, hnl0⟩ : ∃ z, l.length = z := ⟨_, rfl⟩
  have HNL : Hid (l.length = nl) := hnl0
  clear hnl0
  obtain ⟨ci, hci⟩ : ∃ c, (cat cs i).cst = c := ⟨_, rfl⟩
  rw [hci] at f2
  have HCI : Hid ((cat cs i).cst = ci) := hci
  clear hci
  obtain ⟨s0, hs0⟩ : ∃ c, (cat cs i).name = c := ⟨_, rfl⟩
  rw [hs0] at hcn HLL
  clear hs0
  cases ci with
  | false =>
    have HF : Hid (rn cs i = false) := by
      show _ = _
      rw [HRN.out]
      apply decide_eq_false
      intro h
      unfold pick at h
      split at h
      · rename_i x y
        split at h
        · cases h
        · rename_i hne
          split at h
          · rename_i hx; cases h; rw [HCI.out] at hx; cases hx
          · rename_i hx; cases h; rw [HCI.out] at hne; simp at hx; exact hne hx
      · cases h
    go_enter Try.func39, Try.ntmps39
    go_wp2
    go_ret
    exact ⟨by rw [HF.out]; rfl, Below.refl _ _⟩
  | true =>
    go_enter Try.func39, Try.ntmps39
    go_wp2_with fail
    refine (top15r (some ⟨bn, on, none⟩) cn (names cs) (.slice (some ⟨b, off, none⟩) n cap0) cs s0 n l nl _ hn HNN hr hP hl HLL HNL).mono ?_
    rintro e w1 ⟨a1, c1, rfl, hr1, hb1⟩
    by_cases h2 : nl = 2
    · subst h2
      match l, HNL.out with
      | [x, y], _ =>
        have hx := HLT.out x (by simp)
        have hy := HLT.out y (by simp)
        obtain ⟨b1, o1, ha1, hc0⟩ := hr1.out 0 (by simp)
        obtain ⟨b2, o2, ha2, hc1⟩ := hr1.out 1 (by simp)
        subst ha1
        cases ha2
        have hc0' : w1.cell? ⟨b1, o1, none⟩ = some (.int .i64 (x : Int)) := hc0
        have hc1' : w1.cell? ⟨b1, o1 + 1, none⟩ = some (.int .i64 (y : Int)) := hc1
        clear hc0 hc1
        have gx := cell_later hb1 (HK.out x hx)
        have gy := cell_later hb1 (HK.out y hy)
        have ex : (x : Int) < n := by omega
        have ey : (y : Int) < n := by omega
        have HRN2 : Hid (rn cs i = decide ((if (cat cs x).cst = (cat cs y).cst then none else if (cat cs x).cst = true then some x else some y) = some i)) := HRN.out
        obtain ⟨cx, hcx⟩ : ∃ c, (cat cs x).cst = c := ⟨_, rfl⟩
        obtain ⟨cy, hcy⟩ : ∃ c, (cat cs y).cst = c := ⟨_, rfl⟩
        rw [hcx, hcy] at HRN2
        rw [hcx] at gx
        rw [hcy] at gy
        have HX : Hid ((cat cs x).cst = cx ∧ (cat cs y).cst = cy) := ⟨hcx, hcy⟩
        clear hcx hcy HRN HLT
        by_cases ax : x = i
        · subst ax
          have hcx : cx = true := HX.out.1.symm.trans HCI.out
          subst hcx
          have d1 : ((x : Int) == (x : Int)) = true := by simp
          have HF : Hid (rn cs x = !cy) := by show _ = _; rw [HRN2.out]; cases cy <;> simp
          go_wp2
          go_ret
          exact ⟨by rw [HF.out]; rfl, hb1⟩
        · have d1 : ((x : Int) == (i : Int)) = false := by simp; omega
          by_cases ay : y = i
          · subst ay
            have hcy : cy = true := HX.out.2.symm.trans HCI.out
            subst hcy
            have d2 : ((y : Int) == (y : Int)) = true := by simp
            have HF : Hid (rn cs y = !cx) := by show _ = _; rw [HRN2.out]; cases cx <;> simp
            go_wp2
            go_ret
            exact ⟨by rw [HF.out]; rfl, hb1⟩
          · have d2 : ((y : Int) == (i : Int)) = false := by simp; omega
            have HF : Hid (rn cs i = false) := by
              show _ = _
              rw [HRN2.out]
              apply decide_eq_false
              intro h
              split at h
              · cases h
              · split at h
                · cases h; exact ax rfl
                · cases h; exact ay rfl
            go_wp2
            go_ret
            exact ⟨by rw [HF.out]; rfl, hb1⟩
    · have d0 : ((nl : Int) != 2) = true := by simp; omega
      have HF : Hid (rn cs i = false) := by
        show _ = _
        rw [HRN.out, pick_len (by rw [HNL.out]; exact h2)]
        rfl
      go_wp2
      go_ret
      exact ⟨by rw [HF.out]; rfl, hb1⟩
end Go.Proofs.Qxb6617226a
