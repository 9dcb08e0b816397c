/- Plain: what a cut of the modules does. -/
import Derived.Test.Qxb6617226aLawA
import Derived.Test.Qxb6617226aStrOps
namespace Go.Proofs.Qxb6617226a
open Go.RowKit

theorem at2_take (P : List (List (List Cl))) (k i : Nat) (h : i < k) : at2 (P.take k) i = at2 P i := by
  unfold at2
  rw [List.getD_eq_getElem?_getD, List.getD_eq_getElem?_getD, List.getElem?_take, if_pos h]
theorem at2_drop (P : List (List (List Cl))) (k i : Nat) : at2 (P.drop k) i = at2 P (k + i) := by
  unfold at2
  rw [List.getD_eq_getElem?_getD, List.getD_eq_getElem?_getD, List.getElem?_drop]

theorem cP_all (P : List (List (List Cl))) : cP P P.length = (P.map fun M => cM M M.length).sum := by
  unfold cP; rw [List.take_length]
theorem small_take {P : List (List (List Cl))} (h : Small P) (k : Nat) : Small (P.take k) := by
  refine ⟨?_, ?_, ?_⟩
  · have := h.n; rw [List.length_take]; omega
  · intro i hi
    rw [List.length_take] at hi
    rw [at2_take P k i (by omega)]; exact h.m i (by omega)
  · have := h.c
    rw [cP_all] at this ⊢
    have e : (P.map fun M => cM M M.length).sum = ((P.take k).map fun M => cM M M.length).sum + ((P.drop k).map fun M => cM M M.length).sum := by
      rw [← List.sum_append, ← List.map_append, List.take_append_drop]
    omega
theorem small_drop {P : List (List (List Cl))} (h : Small P) (k : Nat) : Small (P.drop k) := by
  refine ⟨?_, ?_, ?_⟩
  · have := h.n; rw [List.length_drop]; omega
  · intro i hi
    rw [List.length_drop] at hi
    rw [at2_drop P k i]; exact h.m (k + i) (by omega)
  · have := h.c
    rw [cP_all] at this ⊢
    have e : (P.map fun M => cM M M.length).sum = ((P.take k).map fun M => cM M M.length).sum + ((P.drop k).map fun M => cM M M.length).sum := by
      rw [← List.sum_append, ← List.map_append, List.take_append_drop]
    omega

theorem PB.take {w : World} {g off cap n : Nat} {P : List (List (List Cl))} (h : PB w (.slice (some ⟨g, off, none⟩) n cap) P) (k : Nat) (hk : k ≤ n) : PB w (.slice (some ⟨g, off, none⟩) k cap) (P.take k) := by
  obtain ⟨g', off', cap', hv, hl, hcap, hi⟩ := h
  simp only [Value.slice.injEq, Option.some.injEq, Addr.mk.injEq, and_true] at hv
  obtain ⟨⟨rfl, rfl⟩, rfl, rfl⟩ := hv
  have e : (P.take k).length = k := by rw [List.length_take]; omega
  refine ⟨g, off, cap, by rw [e], by rw [e]; omega, by rw [e]; omega, fun i h => ?_⟩
  rw [e] at h
  rw [at2_take P k i h]; exact hi i (by omega)
theorem PB.drop {w : World} {g off cap n : Nat} {P : List (List (List Cl))} (h : PB w (.slice (some ⟨g, off, none⟩) n cap) P) (k : Nat) (hk : k ≤ n) : PB w (.slice (some ⟨g, off + k, none⟩) (n - k) (cap - k)) (P.drop k) := by
  obtain ⟨g', off', cap', hv, hl, hcap, hi⟩ := h
  simp only [Value.slice.injEq, Option.some.injEq, Addr.mk.injEq, and_true] at hv
  obtain ⟨⟨rfl, rfl⟩, rfl, rfl⟩ := hv
  have e : (P.drop k).length = P.length - k := by rw [List.length_drop]
  refine ⟨g, off + k, cap - k, by rw [e], by rw [e]; omega, by rw [e]; omega, fun i h => ?_⟩
  rw [e] at h
  rw [at2_drop P k i, Nat.add_assoc]; exact hi (k + i) (by omega)
theorem PB.empty (w : World) (g off cap : Nat) : PB w (.slice (some ⟨g, off, none⟩) 0 cap) [] := ⟨g, off, cap, rfl, by simp, by simp, fun i h => absurd h (Nat.not_lt_zero _)⟩
theorem C2.take {w : World} {a : Option Addr} {cap n : Nat} {P : List (List (List Cl))} (h : C2 w (.slice a n cap) P) (k : Nat) (hk : k ≤ n) : C2 w (.slice a k cap) (P.take k) := by
  obtain ⟨a', cap', hv, hl, hi⟩ := h
  simp only [Value.slice.injEq] at hv
  obtain ⟨rfl, rfl, rfl⟩ := hv
  have e : (P.take k).length = k := by rw [List.length_take]; omega
  refine ⟨a, cap, by rw [e], by rw [e]; omega, fun i h => ?_⟩
  rw [e] at h
  rw [at2_take P k i h]; exact hi i (by omega)
theorem C2.len {w : World} {a : Option Addr} {cap n : Nat} {P : List (List (List Cl))} (h : C2 w (.slice a n cap) P) : P.length = n := by
  obtain ⟨a', cap', hv, hl, hi⟩ := h
  simp only [Value.slice.injEq] at hv
  exact hv.2.1.symm

/-- What the law wants: the left list, then those of the right one that are not in it. -/
def wants (l r : List ByteArray) (t : Nat) : List ByteArray := l ++ (r.take t).filter fun y => !has l y
theorem wants_zero (l r : List ByteArray) : wants l r 0 = l := by simp [wants]
theorem wants_in (l r : List ByteArray) (t : Nat) (h : t < r.length) (hi : ¬ idx l (sat r t) < 0) : wants l r (t + 1) = wants l r t := by
  have hm : has l (sat r t) = true := by
    cases hq : has l (sat r t) with
    | true => rfl
    | false => rw [idx_not ((has_not _ _).1 hq)] at hi; omega
  unfold wants
  rw [take_sat r t h, List.filter_append]; simp [hm]
theorem wants_out (l r : List ByteArray) (t : Nat) (h : t < r.length) (hi : idx l (sat r t) < 0) : wants l r (t + 1) = wants l r t ++ [sat r t] := by
  have hm : has l (sat r t) = false := by
    cases hq : has l (sat r t) with
    | false => rfl
    | true => have := idx_mem ((has_iff _ _).1 hq); omega
  unfold wants
  rw [take_sat r t h, List.filter_append]; simp [hm]
theorem wants_len (l r : List ByteArray) (t : Nat) : (wants l r t).length ≤ l.length + r.length := by
  unfold wants
  rw [List.length_append]
  have h1 := List.length_filter_le (fun y => !has l y) (r.take t)
  have h2 : (r.take t).length ≤ r.length := by rw [List.length_take]; omega
  omega
theorem cut_law (P : List (List (List Cl))) (k : Nat) :
    gP dstep [] P P.length = wants (gP dstep [] (P.take k) (P.take k).length) (gP dstep [] (P.drop k) (P.drop k).length) (gP dstep [] (P.drop k) (P.drop k).length).length := by
  rw [gP_dd, gP_dd, gP_dd, flat_cut P k, dd_app, wants, List.take_length]
end Go.Proofs.Qxb6617226a
