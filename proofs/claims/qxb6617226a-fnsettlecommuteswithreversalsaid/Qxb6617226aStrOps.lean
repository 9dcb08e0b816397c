/- The laws' own small functions on []string: eqStrings, cloneStrings, distinctCount. -/
import Derived.Test.Qxb6617226aFlat
import Derived.Test.Qxb6617226aPlain
import Derived.Deep.OwnRows
namespace Go.Proofs.Qxb6617226a
open Go.RowKit

theorem SRow.drewN {w : World} {a : Option Addr} {xs : List ByteArray} (h : SRow w a xs) (n : Nat) : SRow (w.drewN n) a xs := h

set_option maxHeartbeats 400000 in
/-- Two slices that hold the same strings are found equal. -/
theorem eqStrings_same (a b : Option Addr) (n ca cb : Nat) (xs : List ByteArray) (w : World) (hn : Hid (xs.length = n)) (hl : n ≤ 1048576) (ha : Hid (SRow w a xs)) (hb : Hid (SRow w b xs)) :
    Calls Try.prog 24 #[.slice a n ca, .slice b n cb] w fun e w' => e = .returned (.bool true) ∧ Below w.heap.size w w' := by
  have d1 : ((n : Int) != (n : Int)) = false := by simp
  go_enter Try.func24, Try.ntmps24
  go_wp2
  go_loopw [5] (fun i wr => ∃ k : Nat, k ≤ n ∧ i = .int .i64 k ∧ Hid (SRow wr a xs) ∧ Hid (SRow wr b xs) ∧ Below w.heap.size w wr) (fun i _ => n - (intOf i).toNat)
  case atStart => exact ⟨0, Nat.zero_le _, rfl, ha, hb, Below.refl _ _⟩
  case round =>
    obtain ⟨k, hk, rfl, hA, hB, hw⟩ := hrel
    by_cases hlt : k < n
    · obtain ⟨b1, o1, rfl, hc1⟩ := hA.out k (by rw [hn.out]; exact hlt)
      obtain ⟨b2, o2, rfl, hc2⟩ := hB.out k (by rw [hn.out]; exact hlt)
      have e1 : (k : Int) < n := by omega
      go_wp2_with fail
      go_quiet (fail)
      go_wp2
      go_roundw
      case rel => exact ⟨k + 1, by omega, by go_num, SRow.drewN hA.out _, SRow.drewN hB.out _, below_drewN hw _⟩
      case measure => simp [intOf]; omega
    · go_wp2
      go_ret
      exact ⟨rfl, hw⟩

theorem indexOf_k (a : Option Addr) (cap : Nat) (xs : List ByteArray) (n : Nat) (x : ByteArray) (w : World) (hn : Hid (xs.length = n)) (hl : n ≤ 1048576) (hr : Hid (SRow w a xs)) :
    Calls Try.prog 33 #[.slice a n cap, .string x] w fun e w' => e = .returned (.int .i64 (idx xs x)) ∧ w' = w := by
  cases hn.out
  exact indexOf_any a cap xs x w (by omega) hr.out

theorem take_sat (xs : List ByteArray) (k : Nat) (h : k < xs.length) : xs.take (k + 1) = xs.take k ++ [sat xs k] := by
  rw [List.take_succ_eq_append_getElem h]
  unfold sat
  rw [List.getD_eq_getElem?_getD, List.getElem?_eq_getElem h]; rfl
theorem SRow.take {w : World} {a : Option Addr} {xs : List ByteArray} (h : SRow w a xs) (k : Nat) (hk : k ≤ xs.length) : SRow w a (xs.take k) := by
  intro j hj
  rw [List.length_take] at hj
  obtain ⟨b, off, ha, hc⟩ := h j (by omega)
  refine ⟨b, off, ha, ?_⟩
  rw [hc]
  unfold sat
  rw [List.getD_eq_getElem?_getD, List.getD_eq_getElem?_getD, List.getElem?_take, if_pos (by omega)]

set_option maxHeartbeats 400000 in
theorem distinct_any (a : Option Addr) (n cap : Nat) (xs : List ByteArray) (w : World) (hn : Hid (xs.length = n)) (hl : n ≤ 1048576) (hcap : n ≤ cap) (ha : Hid (SRow w a xs)) :
    Calls Try.prog 13 #[.slice a n cap] w fun e w' => e = .returned (.int .i64 ((dd xs).length : Nat)) ∧ Below w.heap.size w w' := by
  go_enter Try.func13, Try.ntmps13
  go_wp2
  go_loopw [3, 4] (fun c i wr => ∃ k : Nat, k ≤ n ∧ i = .int .i64 k ∧ c = .int .i64 ((dd (xs.take k)).length : Nat) ∧ (dd (xs.take k)).length ≤ k ∧ Hid (SRow wr a xs) ∧ Below w.heap.size w wr) (fun _ i _ => n - (intOf i).toNat)
  case atStart => exact ⟨0, Nat.zero_le _, rfl, rfl, Nat.le_refl _, ha, Below.refl _ _⟩
  case round =>
    obtain ⟨k, hk, rfl, rfl, hle, hA, hw⟩ := hrel
    by_cases hlt : k < n
    · obtain ⟨b1, o1, rfl, hc1⟩ := hA.out k (by rw [hn.out]; exact hlt)
      have e1 : (k : Int) < n := by omega
      have e2 : (k : Int) ≤ cap := by omega
      have hlen : (xs.take k).length = k := by rw [List.length_take, hn.out]; omega
      have hr : SRow wr (some ⟨b1, o1, none⟩) (xs.take k) := hA.out.take k (by rw [hn.out]; omega)
      have HS : Hid ((dd (xs.take (k + 1))).length = (dd (xs.take k)).length + if idx (xs.take k) (sat xs k) < 0 then 1 else 0) := by
        show _ = _
        rw [take_sat xs k (by rw [hn.out]; exact hlt), dd_len_snoc]
      have HL : Hid ((xs.take k).length = k) := hlen
      have HR : Hid (SRow wr (some ⟨b1, o1, none⟩) (xs.take k)) := hr
      clear hlen hr
      by_cases hi : idx (xs.take k) (sat xs k) < 0
      all_goals
        go_wp2_with fail
        go_quiet ((go_at_call 33; exact Calls.quiet_of_same (indexOf_k _ _ (xs.take k) k (sat xs k) _ HL (by omega) (by exact HR))))
        go_wp2
        go_roundw
        case rel => exact ⟨k + 1, by omega, by go_num, by rw [HS.out]; first | (rw [if_pos hi]; go_num) | (rw [if_neg (by omega)]; go_num), by rw [HS.out]; split <;> omega, SRow.drewN hA.out _, below_drewN hw _⟩
        case measure => simp [intOf]; omega
    · have hke : n = k := by omega
      subst hke
      go_wp2
      go_ret
      exact ⟨ret_i (by rw [← hn.out, List.take_length]), hw⟩

/-- A row told by its index, as an owned list. -/
theorem ownS_of_row {w : World} {B g : Nat} {xs : List ByteArray} {n : Nat} (hn : xs.length = n) (hB : B ≤ g) (hl : n ≤ 1048576) (h : w.rowIs g 9 n (fun i => .string (sat xs i))) : OwnS w B (.slice (some ⟨g, 0, none⟩) n n) xs := by
  subst hn
  obtain ⟨c, hc, hs, hi⟩ := h
  refine ⟨by simp, Or.inr ⟨g, xs.length, c, rfl, hB, hc, Nat.le_refl _, by unfold maxLen; omega, by simpa using hs, ?_⟩⟩
  apply List.ext_getElem?
  intro i
  by_cases h : i < xs.length
  · rw [List.getElem?_take, if_pos (by omega), Array.getElem?_toList, hi i h]
    unfold sat
    simp [List.getD_eq_getElem?_getD, h]
  · rw [List.getElem?_eq_none (by simp; omega), List.getElem?_eq_none (by simp; omega)]

set_option maxHeartbeats 1000000 in
theorem clone_any (a : Option Addr) (n cap : Nat) (xs : List ByteArray) (w : World) (hn : Hid (xs.length = n)) (hl : n ≤ 1048576) (hnil : a = none → cap = 0) (ha : Hid (SRow w a xs)) :
    Calls Try.prog 23 #[.slice a n cap] w fun e w' => ∃ a' c', e = .returned (.slice a' n c') ∧ Hid (OwnS w' w.heap.size (.slice a' n c') xs) ∧ Below w.heap.size w w' := by
  have heq := fun w => Lib.run_eql_slice_nil (P := Try.prog) w 28 9 a n cap 0 0 Try.underlying28
  cases a with
  | none =>
    have hc : cap = 0 := hnil rfl
    have h0 : n = 0 := by
      by_cases h : n = 0
      · exact h
      · obtain ⟨b, off, e, _⟩ := ha.out 0 (by rw [hn.out]; omega)
        cases e
    subst hc h0
    have hxs : xs = [] := List.eq_nil_of_length_eq_zero hn.out
    subst hxs
    go_enter Try.func23, Try.ntmps23
    go_wp2
    go_ret
    exact ⟨none, 0, rfl, World.ownsRow_nil _ _ _ _, Below.refl _ _⟩
  | some x =>
    have hmk := run_make_row' (P := Try.prog) 28 9 (.string ByteArray.empty) 16 Try.underlying28 Try.info9 rfl .i64 .i64 n (by omega) (by omega)
    have HR0 : Hid ((w.alloc (.cells (madeCells #[Value.string ByteArray.empty] n) 9)).rowIs w.heap.size 9 n (fun _ => .string ByteArray.empty)) := World.rowIs_made w _ n 9
    clear hnil
    go_enter Try.func23, Try.ntmps23
    go_wp2
    go_loopw [4] (fun i wr => ∃ k : Nat, k ≤ n ∧ i = .int .i64 k ∧ Below w.heap.size w wr ∧ Hid (wr.rowIs w.heap.size 9 n (fun i => if i < k then .string (sat xs i) else .string ByteArray.empty))) (fun i _ => n - (intOf i).toNat)
    case atStart => exact ⟨0, Nat.zero_le _, rfl, (Below.refl _ _).alloc (Nat.le_refl _) _, HR0.out.congr fun i _ => by rw [if_neg (by omega)]⟩
    case round =>
      obtain ⟨k, hk, rfl, hb, hR⟩ := hrel
      by_cases hlt : k < n
      · obtain ⟨b, off, hx, hc'⟩ := ha.out k (by rw [hn.out]; exact hlt)
        cases hx
        have hc := cell_later hb hc'
        have g1 : wr.cell? ⟨w.heap.size, k, none⟩ = some (.string ByteArray.empty) := by
          rw [hR.out.cell hlt, if_neg (by omega)]
        have g2 : wr.frozen? ⟨w.heap.size, k, none⟩ = false := hR.out.frozen _
        have e1 : (k : Int) < n := by omega
        have R : Hid ((wr.setCell ⟨w.heap.size, k, none⟩ (.string (sat xs k))).rowIs w.heap.size 9 n (fun i => if i < k + 1 then .string (sat xs i) else .string ByteArray.empty)) := by
          refine (hR.out.set k _).congr fun i _ => ?_
          by_cases e : i = k
          · subst e; rw [if_pos rfl, if_pos (by omega)]
          · rw [if_neg e]
            by_cases e2 : i < k
            · rw [if_pos e2, if_pos (by omega)]
            · rw [if_neg e2, if_neg (by omega)]
        have hb2 : Below w.heap.size w (wr.setCell ⟨w.heap.size, k, none⟩ (.string (sat xs k))) := hb.setCell (p := ⟨w.heap.size, k, none⟩) (Nat.le_refl _) _
        go_wp2
        go_roundw
        case rel => exact ⟨k + 1, by omega, by go_num, hb2, R⟩
        case measure => simp [intOf]; omega
      · have R : Hid (OwnS wr w.heap.size (.slice (some ⟨w.heap.size, 0, none⟩) n n) xs) := ownS_of_row hn.out (Nat.le_refl _) hl (hR.out.congr fun i hi => by rw [if_pos (by omega)])
        go_wp2
        go_ret
        exact ⟨_, _, rfl, R, hb⟩
end Go.Proofs.Qxb6617226a
