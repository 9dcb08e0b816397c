/- Plain: settling the reversed list. -/
import Derived.Test.Qxb6617226aAft
namespace Go.Proofs.Qxb6617226a

theorem tops_eq (ns : List ByteArray) (rk : Nat → Int) (x : ByteArray) (b : Int) (n : Nat) : tops ns rk x b n = (List.range n).filter (fun j => decide (sat ns j = x ∧ rk j = b)) := by
  induction n with
  | zero => rfl
  | succ n ih =>
    rw [List.range_succ, List.filter_append, ← ih]
    by_cases h : sat ns n = x ∧ rk n = b
    · rw [tops_hit _ _ _ _ _ h.1 h.2]; simp [h]
    · rw [tops_miss _ _ _ _ _ h]; simp [h]

def tr (n j : Nat) : Nat := n - 1 - j
theorem range_tr (n : Nat) : (List.range n).map (tr n) = (List.range n).reverse := by
  apply List.ext_getElem
  · simp
  · intro i h1 h2
    simp [tr, List.getElem_reverse]
theorem filter_tr (n : Nat) (p p' : Nat → Bool) (h : ∀ j, j < n → p' (tr n j) = p j) : (List.range n).filter p' = (((List.range n).filter p).map (tr n)).reverse := by
  have e : List.range n = ((List.range n).map (tr n)).reverse := by rw [range_tr, List.reverse_reverse]
  have e2 : (List.range n).filter p' = (((List.range n).map (tr n)).reverse).filter p' := by rw [← e]
  rw [e2, List.filter_reverse, List.filter_map]
  congr 2
  exact List.filter_congr fun j hj => h j (List.mem_range.1 hj)
theorem tr_tr {n j : Nat} (h : j < n) : tr n (tr n j) = j := by unfold tr; omega
theorem tr_lt {n j : Nat} (h : j < n) : tr n j < n := by unfold tr; omega
theorem tr_inj {n i j : Nat} (hi : i < n) (hj : j < n) (h : tr n i = tr n j) : i = j := by unfold tr at h; omega

theorem top_tr {ns ns' : List ByteArray} {rk rk' : Nat → Int} {x : ByteArray} {n : Nat} (h1 : ∀ j, j < n → sat ns' (tr n j) = sat ns j) (h2 : ∀ j, j < n → rk' (tr n j) = rk j) : top ns' rk' x n = ((top ns rk x n).map (tr n)).reverse := by
  unfold top
  rw [tops_eq, tops_eq]
  rcases bst_spec ns rk x n with ⟨_, hno⟩ | ⟨_, ⟨a, ha, hax, har⟩, hmax⟩
  · exact filter_tr n _ _ fun j hj => by simp [h1 j hj, hno j hj]
  · rcases bst_spec ns' rk' x n with ⟨_, hno⟩ | ⟨_, ⟨a', ha', hax', har'⟩, hmax'⟩
    · exact absurd ((h1 a ha).trans hax) (hno _ (tr_lt ha))
    · have e : (bst ns' rk' x n).2 = (bst ns rk x n).2 := by
        have k1 := hmax' (tr n a) (tr_lt ha) ((h1 a ha).trans hax)
        have k2 := hmax (tr n a') (tr_lt ha') (by rw [← h1 _ (tr_lt ha'), tr_tr ha']; exact hax')
        rw [h2 a ha, har] at k1
        rw [← h2 _ (tr_lt ha'), tr_tr ha', har'] at k2
        omega
      rw [e]
      exact filter_tr n _ _ fun j hj => by simp [h1 j hj, h2 j hj]

section
variable (cs rv : List Cm) (n : Nat) (hn : cs.length = n) (hv : rv.length = n) (hc : ∀ j, j < n → cat rv (tr n j) = cat cs j)
include hn hv hc

omit hn hv in
theorem pick_tr {l : List Nat} (hl : ∀ j ∈ l, j < n) : pick rv ((l.map (tr n)).reverse) = (pick cs l).map (tr n) := by
  by_cases h : l.length = 2
  · match l, h with
    | [x, y], _ =>
      show pick rv [tr n y, tr n x] = _
      unfold pick
      simp only
      rw [hc x (hl x (by simp)), hc y (hl y (by simp))]
      cases (cat cs x).cst <;> cases (cat cs y).cst <;> rfl
  · rw [pick_len h, pick_len (by simpa using h)]
    rfl
omit hn hv in
theorem names_tr : ∀ j, j < n → sat (names rv) (tr n j) = sat (names cs) j := fun j hj => by rw [names_at, names_at, hc j hj]
omit hn hv in
theorem rks_tr : ∀ j, j < n → rks rv (tr n j) = rks cs j := fun j hj => by unfold rks; rw [hc j hj]
theorem rn_tr {i : Nat} (hi : i < n) : rn rv (tr n i) = rn cs i := by
  unfold rn
  rw [hv, hn, hc i hi, top_tr (names_tr cs rv n hc) (rks_tr cs rv n hc), pick_tr cs rv n hc (fun j hj => top_lt _ _ _ _ _ hj)]
  have hp : ∀ k, pick cs (top (names cs) (rks cs) (cat cs i).name n) = some k → k < n := fun k hk => top_lt _ _ _ _ _ (pick_mem hk)
  cases hk : pick cs (top (names cs) (rks cs) (cat cs i).name n) with
  | none => simp
  | some k =>
    have := hp k hk
    simp only [Option.map_some, Option.some.injEq]
    by_cases e : k = i
    · simp [e]
    · have : tr n k ≠ tr n i := fun h => e (tr_inj this hi h)
      simp [e, this]
theorem aft_tr {i : Nat} (hi : i < n) : sat (aft rv) (tr n i) = sat (aft cs) i := by
  rw [aft_at (by rw [hv]; exact tr_lt hi), aft_at (by rw [hn]; exact hi), rn_tr cs rv n hn hv hc hi, hc i hi]
theorem grp_tr {i : Nat} (hi : i < n) : grp rv (tr n i) = ((grp cs i).map (tr n)).reverse := by
  unfold grp
  rw [hv, hn, aft_tr cs rv n hn hv hc hi]
  exact top_tr (fun j hj => aft_tr cs rv n hn hv hc hj) (rks_tr cs rv n hc)
omit hn hv in
theorem own_tr {i : Nat} (hi : i < n) {l : List Nat} (hl : ∀ j ∈ l, j < n) : own rv (tr n i) ((l.map (tr n)).reverse) = (own cs i l).reverse := by
  unfold own
  rw [List.filter_reverse, List.filter_map, List.map_reverse, List.map_map]
  congr 1
  have e : l.filter ((fun j => j != tr n i) ∘ tr n) = l.filter (fun j => j != i) := by
    apply List.filter_congr
    intro j hj
    by_cases h : j = i
    · simp [h]
    · have h2 : tr n j ≠ tr n i := fun h' => h (tr_inj (hl j hj) hi h')
      show (tr n j != tr n i) = (j != i)
      rw [bne_iff_ne.2 h2, bne_iff_ne.2 h]
  rw [e]
  apply List.map_congr_left
  intro j hj
  show (cat rv (tr n j)).owner = _
  rw [hc j (hl j (List.mem_filter.1 hj).1)]
theorem turn {i : Nat} (hi : i < n) : sat (aft rv) (tr n i) = sat (aft cs) i ∧ own rv (tr n i) (grp rv (tr n i)) = (own cs i (grp cs i)).reverse :=
  ⟨aft_tr cs rv n hn hv hc hi, by rw [grp_tr cs rv n hn hv hc hi]; exact own_tr cs rv n hc hi (fun j hj => by unfold grp at hj; rw [hn] at hj; exact top_lt _ _ _ _ _ hj)⟩
end
end Go.Proofs.Qxb6617226a
