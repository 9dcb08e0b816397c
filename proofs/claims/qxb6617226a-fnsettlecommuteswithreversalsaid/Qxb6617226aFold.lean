/- Plain: the flat list of names; the list of distinct names in first order; what the loops hold behind k rounds. -/
import Derived.Test.Qxb6617226aBig
import Derived.Test.Qxb6617226aStrs
namespace Go.Proofs.Qxb6617226a

theorem foldl_take_succ {α β : Type} (f : β → α → β) (a : β) (l : List α) (d : α) (k : Nat) (h : k < l.length) : (l.take (k + 1)).foldl f a = f ((l.take k).foldl f a) (l.getD k d) := by
  rw [List.take_succ_eq_append_getElem h, List.foldl_append, List.getD_eq_getElem?_getD, List.getElem?_eq_getElem h]
  rfl

/-- Three loops, one inside the other, that carry a value. -/
def gL {β : Type} (f : β → Cl → β) (acc : β) (L : List Cl) (k : Nat) : β := (L.take k).foldl f acc
def gM {β : Type} (f : β → Cl → β) (acc : β) (M : List (List Cl)) (j : Nat) : β := (M.take j).foldl (fun acc L => gL f acc L L.length) acc
def gP {β : Type} (f : β → Cl → β) (acc : β) (P : List (List (List Cl))) (i : Nat) : β := (P.take i).foldl (fun acc M => gM f acc M M.length) acc

theorem gL_zero {β : Type} (f : β → Cl → β) (acc : β) (L : List Cl) : gL f acc L 0 = acc := rfl
theorem gM_zero {β : Type} (f : β → Cl → β) (acc : β) (M : List (List Cl)) : gM f acc M 0 = acc := rfl
theorem gP_zero {β : Type} (f : β → Cl → β) (acc : β) (P : List (List (List Cl))) : gP f acc P 0 = acc := rfl
theorem gL_succ {β : Type} (f : β → Cl → β) (acc : β) (L : List Cl) (k : Nat) (h : k < L.length) : gL f acc L (k + 1) = f (gL f acc L k) (nm L k, ns L k) := foldl_take_succ _ _ _ _ _ h
theorem gM_succ {β : Type} (f : β → Cl → β) (acc : β) (M : List (List Cl)) (j : Nat) (h : j < M.length) : gM f acc M (j + 1) = gL f (gM f acc M j) (at1 M j) (at1 M j).length := foldl_take_succ _ _ _ _ _ h
theorem gP_succ {β : Type} (f : β → Cl → β) (acc : β) (P : List (List (List Cl))) (i : Nat) (h : i < P.length) : gP f acc P (i + 1) = gM f (gP f acc P i) (at2 P i) (at2 P i).length := foldl_take_succ _ _ _ _ _ h

theorem gL_whole {β : Type} (f : β → Cl → β) (acc : β) (L : List Cl) : gL f acc L L.length = L.foldl f acc := by unfold gL; rw [List.take_length]
theorem gM_whole {β : Type} (f : β → Cl → β) (acc : β) (M : List (List Cl)) : gM f acc M M.length = M.flatten.foldl f acc := by
  unfold gM
  rw [List.take_length, List.foldl_flatten]
  simp only [gL_whole]
theorem gP_whole {β : Type} (f : β → Cl → β) (acc : β) (P : List (List (List Cl))) : gP f acc P P.length = P.flatten.flatten.foldl f acc := by
  unfold gP
  rw [List.take_length, List.foldl_flatten, List.foldl_flatten]
  simp only [gM_whole, List.foldl_flatten]

/-- The flat list; the list of distinct names. -/
def fstep (acc : List ByteArray) (c : Cl) : List ByteArray := if c.2 then acc else acc ++ [c.1]
def has (acc : List ByteArray) (x : ByteArray) : Bool := acc.any fun y => decide (y = x)
theorem has_iff (acc : List ByteArray) (x : ByteArray) : has acc x = true ↔ x ∈ acc := by
  simp [has]
theorem has_not (acc : List ByteArray) (x : ByteArray) : has acc x = false ↔ ¬ x ∈ acc := by
  rw [← has_iff]; cases has acc x <;> simp
def dstep (acc : List ByteArray) (c : Cl) : List ByteArray := if c.2 then acc else if has acc c.1 then acc else acc ++ [c.1]

theorem fstep_no (acc : List ByteArray) (L : List Cl) (k : Nat) (h : ns L k = true) : fstep acc (nm L k, ns L k) = acc := by simp [fstep, h]
theorem fstep_yes (acc : List ByteArray) (L : List Cl) (k : Nat) (h : ns L k = false) : fstep acc (nm L k, ns L k) = acc ++ [nm L k] := by simp [fstep, h]
theorem dstep_no (acc : List ByteArray) (L : List Cl) (k : Nat) (h : ns L k = true) : dstep acc (nm L k, ns L k) = acc := by simp [dstep, h]
theorem dstep_in (acc : List ByteArray) (L : List Cl) (k : Nat) (h : ns L k = false) (h' : has acc (nm L k) = true) : dstep acc (nm L k, ns L k) = acc := by simp [dstep, h, h']
theorem dstep_yes (acc : List ByteArray) (L : List Cl) (k : Nat) (h : ns L k = false) (h' : has acc (nm L k) = false) : dstep acc (nm L k, ns L k) = acc ++ [nm L k] := by simp [dstep, h, h']

def Slow (f : List ByteArray → Cl → List ByteArray) : Prop := ∀ acc c, (f acc c).length ≤ acc.length + 1
theorem slow_f : Slow fstep := fun acc c => by unfold fstep; split <;> simp
theorem slow_d : Slow dstep := fun acc c => by unfold dstep; split <;> try split
                                               all_goals simp
theorem gL_len {f : List ByteArray → Cl → List ByteArray} (hf : Slow f) (acc : List ByteArray) (L : List Cl) (k : Nat) (h : k ≤ L.length) : (gL f acc L k).length ≤ acc.length + k := by
  induction k with
  | zero => exact Nat.le_refl _
  | succ k ih => have := ih (by omega); have := hf (gL f acc L k) (nm L k, ns L k); rw [gL_succ f acc L k (by omega)]; omega
theorem gM_len {f : List ByteArray → Cl → List ByteArray} (hf : Slow f) (acc : List ByteArray) (M : List (List Cl)) (j : Nat) (h : j ≤ M.length) : (gM f acc M j).length ≤ acc.length + cM M j := by
  induction j with
  | zero => exact Nat.le_refl _
  | succ j ih => have := ih (by omega); have := gL_len hf (gM f acc M j) (at1 M j) _ (Nat.le_refl _); rw [gM_succ f acc M j (by omega), cM_succ M j (by omega)]; omega
theorem gP_len {f : List ByteArray → Cl → List ByteArray} (hf : Slow f) (acc : List ByteArray) (P : List (List (List Cl))) (i : Nat) (h : i ≤ P.length) : (gP f acc P i).length ≤ acc.length + cP P i := by
  induction i with
  | zero => exact Nat.le_refl _
  | succ i ih => have := ih (by omega); have := gM_len hf (gP f acc P i) (at2 P i) _ (Nat.le_refl _); rw [gP_succ f acc P i (by omega), cP_succ P i (by omega)]; omega

theorem cM_mono (M : List (List Cl)) (j d : Nat) (h : j + d ≤ M.length) : cM M j ≤ cM M (j + d) := by
  induction d with
  | zero => exact Nat.le_refl _
  | succ d ih => have := ih (by omega); rw [← Nat.add_assoc, cM_succ M (j + d) (by omega)]; omega
theorem cP_mono (P : List (List (List Cl))) (i d : Nat) (h : i + d ≤ P.length) : cP P i ≤ cP P (i + d) := by
  induction d with
  | zero => exact Nat.le_refl _
  | succ d ih => have := ih (by omega); rw [← Nat.add_assoc, cP_succ P (i + d) (by omega)]; omega

/-- The gathered list stays short: in the middle of all three loops. -/
theorem in_len {f : List ByteArray → Cl → List ByteArray} (hf : Slow f) (P : List (List (List Cl))) (hs : Small P) (i j k : Nat) (hi : i < P.length) (hj : j < (at2 P i).length) (hk : k < (at1 (at2 P i) j).length) :
    (gL f (gM f (gP f [] P i) (at2 P i) j) (at1 (at2 P i) j) k).length + 1 ≤ 4096 := by
  have h1 := gL_len hf (gM f (gP f [] P i) (at2 P i) j) (at1 (at2 P i) j) k (by omega)
  have h2 := gM_len hf (gP f [] P i) (at2 P i) j (by omega)
  have h3 := gP_len hf [] P i (by omega)
  have h4 := cM_succ (at2 P i) j hj
  have h5 := cM_mono (at2 P i) (j + 1) ((at2 P i).length - (j + 1)) (by omega)
  rw [show j + 1 + ((at2 P i).length - (j + 1)) = (at2 P i).length from by omega] at h5
  have h6 := cP_succ P i hi
  have h7 := cP_mono P (i + 1) (P.length - (i + 1)) (by omega)
  rw [show i + 1 + (P.length - (i + 1)) = P.length from by omega] at h7
  have h8 := hs.c
  simp at h3
  omega
theorem end_len {f : List ByteArray → Cl → List ByteArray} (hf : Slow f) (P : List (List (List Cl))) (hs : Small P) : (gP f [] P P.length).length ≤ 4096 := by
  have h3 := gP_len hf [] P P.length (Nat.le_refl _)
  have h8 := hs.c
  simp at h3
  omega
end Go.Proofs.Qxb6617226a
