/- Plain laws on lists of names: first places, distinct names in first order. -/
import Derived.Test.Qxb6617226aFold
namespace Go.Proofs.Qxb6617226a

theorem idxFrom_mem (x : ByteArray) : ∀ (xs : List ByteArray) (k : Nat), x ∈ xs → ∃ i : Nat, i < xs.length ∧ idxFrom x xs k = (k : Int) + i
  | [], _, h => by simp at h
  | y :: ys, k, h => by
    by_cases e : y = x
    · exact ⟨0, by simp, by simp [idxFrom, e]⟩
    · have h' : x ∈ ys := by
        rcases List.mem_cons.1 h with h | h
        · exact absurd h.symm e
        · exact h
      obtain ⟨i, hi, he⟩ := idxFrom_mem x ys (k + 1) h'
      exact ⟨i + 1, by simp; omega, by rw [idxFrom, if_neg e, he]; omega⟩
theorem idxFrom_not (x : ByteArray) : ∀ (xs : List ByteArray) (k : Nat), ¬ x ∈ xs → idxFrom x xs k = -1
  | [], _, _ => rfl
  | y :: ys, k, h => by
    have h1 : ¬ y = x := fun e => h (by simp [e])
    rw [idxFrom, if_neg h1]
    exact idxFrom_not x ys (k + 1) (fun h' => h (List.mem_cons_of_mem _ h'))
theorem idxFrom_app_mem (x : ByteArray) : ∀ (xs ys : List ByteArray) (k : Nat), x ∈ xs → idxFrom x (xs ++ ys) k = idxFrom x xs k
  | [], _, _, h => by simp at h
  | z :: zs, ys, k, h => by
    by_cases e : z = x
    · simp [idxFrom, e]
    · have h' : x ∈ zs := by
        rcases List.mem_cons.1 h with h | h
        · exact absurd h.symm e
        · exact h
      simp only [List.cons_append, idxFrom, if_neg e]
      exact idxFrom_app_mem x zs ys (k + 1) h'
theorem idxFrom_app_not (x : ByteArray) : ∀ (xs ys : List ByteArray) (k : Nat), ¬ x ∈ xs → idxFrom x (xs ++ ys) k = idxFrom x ys (k + xs.length)
  | [], _, _, _ => rfl
  | z :: zs, ys, k, h => by
    have h1 : ¬ z = x := fun e => h (by simp [e])
    simp only [List.cons_append, idxFrom, if_neg h1]
    rw [idxFrom_app_not x zs ys (k + 1) (fun h' => h (List.mem_cons_of_mem _ h'))]
    simp only [List.length_cons]
    rw [show k + 1 + zs.length = k + (zs.length + 1) from by omega]

theorem idx_mem {x : ByteArray} {xs : List ByteArray} (h : x ∈ xs) : 0 ≤ idx xs x ∧ idx xs x < xs.length := by
  obtain ⟨i, hi, he⟩ := idxFrom_mem x xs 0 h
  unfold idx; rw [he]; omega
theorem idx_not {x : ByteArray} {xs : List ByteArray} (h : ¬ x ∈ xs) : idx xs x = -1 := idxFrom_not x xs 0 h
theorem idx_app_mem {x : ByteArray} {xs : List ByteArray} (ys : List ByteArray) (h : x ∈ xs) : idx (xs ++ ys) x = idx xs x := idxFrom_app_mem x xs ys 0 h
theorem idx_app_new {x : ByteArray} {xs : List ByteArray} (h : ¬ x ∈ xs) : idx (xs ++ [x]) x = xs.length := by
  unfold idx
  rw [idxFrom_app_not x xs [x] 0 h]; simp [idxFrom]
theorem idx_bd (xs : List ByteArray) (x : ByteArray) : -1 ≤ idx xs x ∧ idx xs x < (xs.length : Int) + 1 := by
  by_cases h : x ∈ xs
  · have := idx_mem h; omega
  · rw [idx_not h]; omega

/-- Distinct names in first order. -/
def uniq (acc : List ByteArray) (x : ByteArray) : List ByteArray := if has acc x then acc else acc ++ [x]
def dd (xs : List ByteArray) : List ByteArray := xs.foldl uniq []
theorem dd_snoc (xs : List ByteArray) (x : ByteArray) : dd (xs ++ [x]) = uniq (dd xs) x := by simp [dd]

theorem uniq_mem (acc : List ByteArray) (x y : ByteArray) : y ∈ uniq acc x ↔ y ∈ acc ∨ y = x := by
  unfold uniq
  cases h : has acc x with
  | true =>
    have := (has_iff acc x).1 h
    simp only [if_true]
    constructor
    · exact fun h => Or.inl h
    · rintro (h | rfl)
      · exact h
      · exact this
  | false => simp
theorem snoc_ind {α : Type} {p : List α → Prop} (h0 : p []) (h1 : ∀ xs x, p xs → p (xs ++ [x])) (xs : List α) : p xs := by
  have key : ∀ l : List α, p l.reverse := by
    intro l
    induction l with
    | nil => exact h0
    | cons a l ih => rw [List.reverse_cons]; exact h1 _ _ ih
  have := key xs.reverse
  rwa [List.reverse_reverse] at this

theorem dd_mem (xs : List ByteArray) (y : ByteArray) : y ∈ dd xs ↔ y ∈ xs := by
  refine snoc_ind (p := fun xs => y ∈ dd xs ↔ y ∈ xs) ?_ ?_ xs
  · simp [dd]
  · intro xs x ih
    rw [dd_snoc, uniq_mem, ih]; simp
theorem dd_has (xs : List ByteArray) (y : ByteArray) : has (dd xs) y = has xs y := by
  rw [Bool.eq_iff_iff, has_iff, has_iff, dd_mem]

theorem sat_mem (xs : List ByteArray) (k : Nat) (h : k < xs.length) : sat xs k ∈ xs := by
  unfold sat
  rw [List.getD_eq_getElem?_getD, List.getElem?_eq_getElem h]
  exact List.getElem_mem h
theorem sat_app_left (xs ys : List ByteArray) (k : Nat) (h : k < xs.length) : sat (xs ++ ys) k = sat xs k := by
  unfold sat
  rw [List.getD_eq_getElem?_getD, List.getD_eq_getElem?_getD, List.getElem?_append_left h]
theorem sat_app_last (xs : List ByteArray) (x : ByteArray) : sat (xs ++ [x]) xs.length = x := by
  unfold sat
  rw [List.getD_eq_getElem?_getD, List.getElem?_append_right (Nat.le_refl _)]; simp
theorem mem_sat {xs : List ByteArray} {x : ByteArray} (h : x ∈ xs) : ∃ k, k < xs.length ∧ sat xs k = x := by
  obtain ⟨k, hk, e⟩ := List.getElem_of_mem h
  refine ⟨k, hk, ?_⟩
  unfold sat
  rw [List.getD_eq_getElem?_getD, List.getElem?_eq_getElem hk]; exact e

/-- The first places of the distinct names rise. -/
theorem rises (xs : List ByteArray) : ∀ k k', k' < k → k < (dd xs).length → idx xs (sat (dd xs) k') < idx xs (sat (dd xs) k) := by
  refine snoc_ind (p := fun xs => ∀ k k', k' < k → k < (dd xs).length → idx xs (sat (dd xs) k') < idx xs (sat (dd xs) k)) ?_ ?_ xs
  · intro k k' _ h; exact absurd h (Nat.not_lt_zero _)
  · intro xs x ih k k' hk hl
    rw [dd_snoc] at hl ⊢
    unfold uniq at hl ⊢
    have old : ∀ j, j < (dd xs).length → sat (dd xs) j ∈ xs := fun j hj => (dd_mem xs _).1 (sat_mem _ _ hj)
    cases h : has (dd xs) x with
    | true =>
      rw [h] at hl
      simp only [if_true] at hl ⊢
      rw [idx_app_mem [x] (old k' (by omega)), idx_app_mem [x] (old k hl)]
      exact ih k k' hk hl
    | false =>
      rw [h] at hl
      have hx : ¬ x ∈ xs := by rw [← dd_mem]; exact (has_not _ _).1 h
      simp only [Bool.false_eq_true, if_false] at hl ⊢
      simp only [List.length_append, List.length_cons, List.length_nil] at hl
      have hk' : k' < (dd xs).length := by omega
      rw [sat_app_left _ _ k' hk', idx_app_mem [x] (old k' hk')]
      by_cases e : k = (dd xs).length
      · subst e
        rw [sat_app_last, idx_app_new hx]
        exact (idx_mem (old k' hk')).2
      · have hk2 : k < (dd xs).length := by omega
        rw [sat_app_left _ _ k hk2, idx_app_mem [x] (old k hk2)]
        exact ih k k' hk hk2

theorem fold_dd (l : List Cl) : l.foldl dstep [] = dd (l.foldl fstep []) := by
  refine snoc_ind (p := fun l => l.foldl dstep [] = dd (l.foldl fstep [])) rfl ?_ l
  intro l c ih
  simp only [List.foldl_append, List.foldl_cons, List.foldl_nil]
  rw [ih]
  unfold dstep fstep
  cases hc : c.2 with
  | true => simp
  | false =>
    simp only [Bool.false_eq_true, if_false]
    rw [dd_snoc]; rfl
theorem gP_dd (P : List (List (List Cl))) : gP dstep [] P P.length = dd (gP fstep [] P P.length) := by
  rw [gP_whole, gP_whole, fold_dd]

/-! ### At a cut -/
theorem fold_f_acc (l : List Cl) (acc : List ByteArray) : l.foldl fstep acc = acc ++ l.foldl fstep [] := by
  refine snoc_ind (p := fun l => l.foldl fstep acc = acc ++ l.foldl fstep []) (by simp) ?_ l
  intro l c ih
  simp only [List.foldl_append, List.foldl_cons, List.foldl_nil]
  rw [ih]
  unfold fstep
  split <;> simp
theorem flat_cut (P : List (List (List Cl))) (k : Nat) : gP fstep [] P P.length = gP fstep [] (P.take k) (P.take k).length ++ gP fstep [] (P.drop k) (P.drop k).length := by
  rw [gP_whole, gP_whole, gP_whole]
  conv => lhs; rw [← List.take_append_drop k P]
  rw [List.flatten_append, List.flatten_append, List.foldl_append, fold_f_acc]
theorem dd_app (xs ys : List ByteArray) : dd (xs ++ ys) = dd xs ++ (dd ys).filter fun y => !has (dd xs) y := by
  refine snoc_ind (p := fun ys => dd (xs ++ ys) = dd xs ++ (dd ys).filter fun y => !has (dd xs) y) (by simp [dd]) ?_ ys
  intro ys y ih
  rw [← List.append_assoc, dd_snoc, dd_snoc, ih]
  unfold uniq
  have hy : has (dd xs ++ (dd ys).filter fun y => !has (dd xs) y) y = (has (dd xs) y || has (dd ys) y) := by
    rw [Bool.eq_iff_iff, has_iff, Bool.or_eq_true, has_iff, has_iff, List.mem_append, List.mem_filter]
    constructor
    · rintro (h | ⟨h, _⟩)
      · exact Or.inl h
      · exact Or.inr h
    · rintro (h | h)
      · exact Or.inl h
      · cases hq : has (dd xs) y with
        | true => exact Or.inl ((has_iff _ _).1 hq)
        | false => exact Or.inr ⟨h, rfl⟩
  rw [hy]
  cases h1 : has (dd xs) y with
  | true =>
    cases h2 : has (dd ys) y with
    | true => simp
    | false => simp [List.filter_append, h1]
  | false =>
    cases h2 : has (dd ys) y with
    | true => simp
    | false => simp [List.filter_append, h1]

/-- How many distinct names there are, as the law counts them. -/
theorem dd_len_snoc (xs : List ByteArray) (x : ByteArray) : (dd (xs ++ [x])).length = (dd xs).length + if idx xs x < 0 then 1 else 0 := by
  rw [dd_snoc]
  unfold uniq
  rw [dd_has]
  cases h : has xs x with
  | true =>
    have := idx_mem ((has_iff _ _).1 h)
    rw [if_pos rfl, if_neg (by omega)]; simp
  | false =>
    rw [idx_not ((has_not _ _).1 h), if_neg (by simp), if_pos (by omega)]; simp
end Go.Proofs.Qxb6617226a
