import Derived.Test.Qxb6617226aCls
import Derived.MapKept
namespace Go.Proofs.Qxb6617226a
open Go.RowKit

def sat (xs : List ByteArray) (j : Nat) : ByteArray := xs.getD j ByteArray.empty
/-- A slice of strings: what it holds. -/
def SRow (w : World) (a : Option Addr) (xs : List ByteArray) : Prop :=
  ∀ j, j < xs.length → ∃ b off, a = some ⟨b, off, none⟩ ∧ w.cell? ⟨b, off + j, none⟩ = some (.string (sat xs j))
def SSl (w : World) (v : Value) (xs : List ByteArray) : Prop := ∃ a cap, v = .slice a xs.length cap ∧ xs.length ≤ 9223372036854775807 ∧ SRow w a xs

theorem SRow.below {w w' : World} {a : Option Addr} {xs : List ByteArray} (h : SRow w a xs) (hb : Below w.heap.size w w') : SRow w' a xs := by
  intro j hj
  obtain ⟨b, off, ha, hc⟩ := h j hj
  exact ⟨b, off, ha, cell_later hb hc⟩
theorem SSl.below {w w' : World} {v : Value} {xs : List ByteArray} (h : SSl w v xs) (hb : Below w.heap.size w w') : SSl w' v xs := by
  obtain ⟨a, cap, hv, hl, hr⟩ := h
  exact ⟨a, cap, hv, hl, hr.below hb⟩

def idxFrom (x : ByteArray) : List ByteArray → Nat → Int
  | [], _ => -1
  | y :: ys, k => if y = x then (k : Int) else idxFrom x ys (k + 1)
def idx (xs : List ByteArray) (x : ByteArray) : Int := idxFrom x xs 0

theorem drop_sat (xs : List ByteArray) (k : Nat) (h : k < xs.length) : xs.drop k = sat xs k :: xs.drop (k + 1) := by
  rw [List.drop_eq_getElem_cons h]
  unfold sat
  rw [List.getD_eq_getElem?_getD, List.getElem?_eq_getElem h]; rfl

theorem ret_i {k : IntKind} {a b : Int} (h : a = b) : Ending.returned (.int k a) = .returned (.int k b) := by rw [h]

theorem idx_hit (xs : List ByteArray) (x : ByteArray) (k : Nat) (h : k < xs.length) (hi : idx xs x = idxFrom x (xs.drop k) k) (he : sat xs k = x) : idx xs x = k := by
  rw [hi, drop_sat xs k h, idxFrom, if_pos he]
theorem idx_step (xs : List ByteArray) (x : ByteArray) (k : Nat) (h : k < xs.length) (hi : idx xs x = idxFrom x (xs.drop k) k) (he : sat xs k ≠ x) : idx xs x = idxFrom x (xs.drop (k + 1)) (k + 1) := by
  rw [hi, drop_sat xs k h, idxFrom, if_neg he]
theorem idx_end (xs : List ByteArray) (x : ByteArray) (hi : idx xs x = idxFrom x (xs.drop xs.length) xs.length) : idx xs x = -1 := by
  rw [hi, List.drop_length]; rfl

theorem str_eq {a b : ByteArray} (h : a = b) : (a.toList == b.toList) = true := by rw [h]; simp
theorem str_ne {a b : ByteArray} (h : a ≠ b) : (a.toList == b.toList) = false := by
  cases hb : (a.toList == b.toList) with
  | false => rfl
  | true =>
    have := eq_of_beq hb
    rw [ByteArray.toList_eq, ByteArray.toList_eq] at this
    exact absurd (Go.WideShapes.bytes_inj this) h

set_option maxHeartbeats 400000 in
theorem indexOf_any (a : Option Addr) (cap : Nat) (xs : List ByteArray) (x : ByteArray) (w : World) (hl : xs.length ≤ 9223372036854775807) (hr : SRow w a xs) :
    Calls Try.prog 33 #[.slice a xs.length cap, .string x] w fun e w' => e = .returned (.int .i64 (idx xs x)) ∧ w' = w := by
  obtain ⟨n, hn⟩ : ∃ n, xs.length = n := ⟨_, rfl⟩
  have HR : Hid (SRow w a xs) := hr
  have HN : Hid (xs.length = n) := hn
  rw [hn] at hl ⊢
  clear hr hn
  go_enter Try.func33, Try.ntmps33
  go_wp2
  go_loop [5] (fun i => ∃ k : Nat, k ≤ n ∧ i = .int .i64 k ∧ Hid (idx xs x = idxFrom x (xs.drop k) k)) (fun i => n - (intOf i).toNat)
  case atStart => exact ⟨0, Nat.zero_le _, rfl, rfl⟩
  case round =>
    obtain ⟨k, hk, rfl, hi⟩ := hrel
    by_cases hlt : k < n
    · obtain ⟨b, off, rfl, hc⟩ := HR.out k (by rw [HN.out]; exact hlt)
      by_cases he : sat xs k = x
      · have he' : ((sat xs k).toList == x.toList) = true := str_eq he
        have HE : Hid (sat xs k = x) := he
        clear he
        go_wp2
        go_ret
        exact ⟨ret_i (idx_hit xs x k (by rw [HN.out]; exact hlt) hi.out HE.out).symm, rfl⟩
      · have he' : ((sat xs k).toList == x.toList) = false := str_ne he
        have HE : Hid (sat xs k ≠ x) := he
        clear he
        go_wp2
        go_round
        case rel => exact ⟨k + 1, by omega, by go_num, idx_step xs x k (by rw [HN.out]; exact hlt) hi.out HE.out⟩
        case measure => simp [intOf]; omega
    · have hke : n = k := by omega
      subst hke
      go_wp2
      go_ret
      exact ⟨ret_i (idx_end xs x (by rw [HN.out]; exact hi.out)).symm, rfl⟩
end Go.Proofs.Qxb6617226a
