/- afterNames. -/
import Derived.Test.Qxb6617226aRen
namespace Go.Proofs.Qxb6617226a
open Go.RowKit

set_option maxRecDepth 100000 in
set_option maxHeartbeats 1000000 in
theorem aft18 (v : Value) (cs : List Cm) (n : Nat) (w : World) (hn : Hid (cs.length = n)) (hP : Hid (K w v cs)) (hl : n ≤ 4096) (hz : Hid (∀ i, i < n → (cat cs i).name.size ≤ 1048576)) :
    Calls Try.prog 18 #[v] w fun e w' => ∃ g, e = .returned (.slice (some ⟨g, 0, none⟩) n n) ∧ Hid (SRow w' (some ⟨g, 0, none⟩) (aft cs)) ∧ Below w.heap.size w w' := by
  go_enter Try.func18, Try.ntmps18
  go_wp2_with fail
  refine (names12 v cs n _ hn hP.out hl).mono ?_
  rintro e w1 ⟨gn, rfl, hrn, hb1⟩
  have HP1 : Hid (K w1 v cs) := hP.out.below hb1
  obtain ⟨a, cap, hv, hl2, hk⟩ := HP1.out
  rw [hn.out] at hv hk
  subst hv
  have HK : Hid (∀ i, i < n → ∃ b off ra rc, a = some ⟨b, off, none⟩ ∧ Five w1 b (off + i * 5) (cat cs i) ra rc) := hk
  clear hk hl2
  have hmk := run_make_row' (P := Try.prog) 28 9 (.string ByteArray.empty) 16 Try.underlying28 Try.info9 rfl .i64 .i64 n (by omega) (by omega)
  have HR0 : Hid ((w1.alloc (.cells (madeCells #[Value.string ByteArray.empty] n) 9)).rowIs w1.heap.size 9 n (fun _ => .string ByteArray.empty)) := World.rowIs_made w1 _ n 9
  go_wp2
  go_loopw [5] (fun i wr => ∃ k : Nat, k ≤ n ∧ i = .int .i64 k ∧ Below w1.heap.size w1 wr ∧ Hid (wr.rowIs w1.heap.size 9 n (fun i => if i < k then .string (sat (aft cs) i) else .string ByteArray.empty))) (fun i _ => n - (intOf i).toNat)
  case atStart => exact ⟨0, Nat.zero_le _, rfl, (Below.refl _ _).alloc (Nat.le_refl _) _, HR0.out.congr fun i _ => by rw [if_neg (by omega)]⟩
  case round =>
    obtain ⟨k, hk, rfl, hb, hR⟩ := hrel
    rename World => wA
    by_cases hlt : k < n
    · obtain ⟨b, off, ra, rc, rfl, h5⟩ := HK.out k hlt
      have hc := cell_later hb h5.c0
      have hbw : b < w1.heap.size := World.block_lt_of_cell? _ _ h5.c0
      have hAT : Hid (sat (aft cs) k = if rn cs k then (cat cs k).name ++ suf else (cat cs k).name) := aft_at (by rw [hn.out]; exact hlt)
      have hzk := hz.out k hlt
      obtain ⟨s0, hs0⟩ : ∃ s, (cat cs k).name = s := ⟨_, rfl⟩
      rw [hs0] at hc hAT hzk
      clear h5 hs0
      have g1 : wA.cell? ⟨w1.heap.size, k, none⟩ = some (.string ByteArray.empty) := by
        rw [hR.out.cell hlt, if_neg (by omega)]
      have g2 : wA.frozen? ⟨w1.heap.size, k, none⟩ = false := hR.out.frozen _
      have e1 : (k : Int) < n := by omega
      have hne : b ≠ w1.heap.size := by omega
      have hb2 : Below w1.heap.size w1 (wA.setCell ⟨w1.heap.size, k, none⟩ (.string s0)) := hb.setCell (p := ⟨w1.heap.size, k, none⟩) (Nat.le_refl _) _
      have HR2 : Hid ((wA.setCell ⟨w1.heap.size, k, none⟩ (.string s0)).rowIs w1.heap.size 9 n (fun i => if i = k then .string s0 else if i < k then .string (sat (aft cs) i) else .string ByteArray.empty)) := hR.out.set k _
      have HSX : Hid (SRow (wA.setCell ⟨w1.heap.size, k, none⟩ (.string s0)) (some ⟨gn, 0, none⟩) (names cs)) := hrn.out.below hb2
      have HKX : Hid (K (wA.setCell ⟨w1.heap.size, k, none⟩ (.string s0)) (.slice (some ⟨b, off, none⟩) n cap) cs) := HP1.out.below hb2
      go_wp2_with fail
      refine (ren39 (some ⟨gn, 0, none⟩) n (.slice (some ⟨b, off, none⟩) n cap) cs n k _ hn (by exact HSX) (by exact HKX) hl hlt).mono ?_
      rintro e w2 ⟨rfl, hb3⟩
      have hrow2 : w2.rowIs w1.heap.size 9 n (fun i => if i = k then .string s0 else if i < k then .string (sat (aft cs) i) else .string ByteArray.empty) := HR2.out.of_block (hb3.block _ HR2.out.lt)
      have hb4 : Below w1.heap.size w1 w2 := hb2.trans (hb3.mono hb2.size)
      have k1 : w2.cell? ⟨w1.heap.size, k, none⟩ = some (.string s0) := by rw [hrow2.cell hlt, if_pos rfl]
      have k2 : w2.frozen? ⟨w1.heap.size, k, none⟩ = false := hrow2.frozen _
      have k3 : w2.cell? ⟨b, off + k * 5, none⟩ = some (.string s0) := cell_later hb3 (by rw [World.cell?_setCell_other _ _ _ _ (fun e => hne (congrArg Addr.block e).symm)]; exact hc)
      have HR3 : Hid (w2.rowIs w1.heap.size 9 n (fun i => if i = k then .string s0 else if i < k then .string (sat (aft cs) i) else .string ByteArray.empty)) := hrow2
      clear hrow2 hc g1 g2 HSX HKX HR2 hR hb3 hb2 hb
      cases hrk : rn cs k with
      | true =>
        have HA : Hid (sat (aft cs) k = s0 ++ suf) := by show _ = _; rw [hAT.out, hrk]; rfl
        have R : Hid ((w2.setCell ⟨w1.heap.size, k, none⟩ (.string (s0 ++ suf))).rowIs w1.heap.size 9 n (fun i => if i < k + 1 then .string (sat (aft cs) i) else .string ByteArray.empty)) := by
          refine (HR3.out.set k _).congr fun i _ => ?_
          by_cases e : i = k
          · subst e; rw [if_pos rfl, if_pos (by omega), HA.out]
          · rw [if_neg e, if_neg e]
            by_cases e2 : i < k
            · rw [if_pos e2, if_pos (by omega)]
            · rw [if_neg e2, if_neg (by omega)]
        have hb5 : Below w1.heap.size w1 (w2.setCell ⟨w1.heap.size, k, none⟩ (.string (s0 ++ suf))) := hb4.setCell (p := ⟨w1.heap.size, k, none⟩) (Nat.le_refl _) _
        clear hrk hAT HA
        go_wp2
        go_roundw
        case rel => exact ⟨k + 1, by omega, by go_num, hb5, R⟩
        case measure => simp [intOf]; omega
      | false =>
        have HA : Hid (sat (aft cs) k = s0) := by show _ = _; rw [hAT.out, hrk]; rfl
        have R : Hid (w2.rowIs w1.heap.size 9 n (fun i => if i < k + 1 then .string (sat (aft cs) i) else .string ByteArray.empty)) := by
          refine HR3.out.congr fun i _ => ?_
          by_cases e : i = k
          · subst e; rw [if_pos rfl, if_pos (by omega), HA.out]
          · rw [if_neg e]
            by_cases e2 : i < k
            · rw [if_pos e2, if_pos (by omega)]
            · rw [if_neg e2, if_neg (by omega)]
        clear hrk hAT HA
        go_wp2
        go_roundw
        case rel => exact ⟨k + 1, by omega, by go_num, hb4, R⟩
        case measure => simp [intOf]; omega
    · have R : Hid (SRow wA (some ⟨w1.heap.size, 0, none⟩) (aft cs)) := by
        intro j hj
        rw [aft_len, hn.out] at hj
        refine ⟨_, _, rfl, ?_⟩
        rw [Nat.zero_add, hR.out.cell hj, if_pos (by omega)]
      go_wp2
      go_ret
      exact ⟨_, rfl, R, hb1.trans (hb.mono hb1.size)⟩
end Go.Proofs.Qxb6617226a
