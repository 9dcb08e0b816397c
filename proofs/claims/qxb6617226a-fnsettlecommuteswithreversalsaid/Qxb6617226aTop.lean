/- Plain: the indexes of the highest rank on a name, as the law reckons them and as 'highest' gathers them. -/
import Derived.Test.Qxb6617226aStrOps
namespace Go.Proofs.Qxb6617226a

section
variable (ns : List ByteArray) (rk : Nat → Int) (x : ByteArray)

def bst : Nat → Bool × Int
  | 0 => (false, 0)
  | j + 1 => if sat ns j = x then (if (bst j).1 = false ∨ (bst j).2 < rk j then (true, rk j) else bst j) else bst j
def tops (b : Int) : Nat → List Nat
  | 0 => []
  | j + 1 => if sat ns j = x ∧ rk j = b then tops b j ++ [j] else tops b j
def top (n : Nat) : List Nat := tops ns rk x (bst ns rk x n).2 n

theorem bst_spec (n : Nat) : ((bst ns rk x n).1 = false ∧ ∀ j, j < n → sat ns j ≠ x) ∨
    ((bst ns rk x n).1 = true ∧ (∃ j, j < n ∧ sat ns j = x ∧ rk j = (bst ns rk x n).2) ∧ ∀ j, j < n → sat ns j = x → rk j ≤ (bst ns rk x n).2) := by
  induction n with
  | zero => left; exact ⟨rfl, fun j h => absurd h (Nat.not_lt_zero _)⟩
  | succ n ih =>
    by_cases e : sat ns n = x
    · by_cases c : (bst ns rk x n).1 = false ∨ (bst ns rk x n).2 < rk n
      · have hb : bst ns rk x (n + 1) = (true, rk n) := by simp only [bst, if_pos e, if_pos c]
        right
        rw [hb]
        refine ⟨rfl, ⟨n, by omega, e, rfl⟩, fun j hj hx => ?_⟩
        by_cases hjn : j = n
        · subst hjn; exact Int.le_refl _
        · rcases ih with ⟨_, h2⟩ | ⟨h1, _, h3⟩
          · exact absurd hx (h2 j (by omega))
          · have := h3 j (by omega) hx
            rcases c with c | c
            · rw [h1] at c; cases c
            · show rk j ≤ rk n
              omega
      · have hb : bst ns rk x (n + 1) = bst ns rk x n := by simp only [bst, if_pos e, if_neg c]
        rw [hb]
        rcases ih with ⟨h1, _⟩ | ⟨h1, ⟨j, hj, hx, hr⟩, h3⟩
        · exact absurd (Or.inl h1) c
        · right
          refine ⟨h1, ⟨j, by omega, hx, hr⟩, fun j' hj' hx' => ?_⟩
          by_cases hjn : j' = n
          · subst hjn
            have : ¬ (bst ns rk x j').2 < rk j' := fun h => c (Or.inr h)
            omega
          · exact h3 j' (by omega) hx'
    · have hb : bst ns rk x (n + 1) = bst ns rk x n := by simp only [bst, if_neg e]
      rw [hb]
      rcases ih with ⟨h1, h2⟩ | ⟨h1, ⟨j, hj, hx, hr⟩, h3⟩
      · left
        refine ⟨h1, fun j hj => ?_⟩
        by_cases hjn : j = n
        · subst hjn; exact e
        · exact h2 j (by omega)
      · right
        refine ⟨h1, ⟨j, by omega, hx, hr⟩, fun j' hj' hx' => ?_⟩
        by_cases hjn : j' = n
        · subst hjn; exact absurd hx' e
        · exact h3 j' (by omega) hx'

theorem tops_mem (b : Int) (n j : Nat) : j ∈ tops ns rk x b n ↔ j < n ∧ sat ns j = x ∧ rk j = b := by
  induction n with
  | zero => simp [tops]
  | succ n ih =>
    unfold tops
    by_cases c : sat ns n = x ∧ rk n = b
    · rw [if_pos c, List.mem_append, ih]
      constructor
      · rintro (h | h)
        · exact ⟨by omega, h.2⟩
        · have : j = n := by simpa using h
          subst this; exact ⟨by omega, c⟩
      · rintro ⟨h1, h2⟩
        by_cases e : j = n
        · right; simp [e]
        · left; exact ⟨by omega, h2⟩
    · rw [if_neg c, ih]
      constructor
      · rintro ⟨h1, h2⟩; exact ⟨by omega, h2⟩
      · rintro ⟨h1, h2⟩
        have : j ≠ n := fun e => by subst e; exact c h2
        exact ⟨by omega, h2⟩
theorem tops_nil (b : Int) (n : Nat) (h : ∀ j, j < n → sat ns j = x → rk j ≠ b) : tops ns rk x b n = [] := by
  apply List.eq_nil_iff_forall_not_mem.2
  intro j hj
  obtain ⟨h1, h2, h3⟩ := (tops_mem ns rk x b n j).1 hj
  exact h j h1 h2 h3

/-- A name's list is empty just where the name has not come up; its members bear the highest rank. -/
theorem top_nil_iff (n : Nat) : top ns rk x n = [] ↔ ∀ j, j < n → sat ns j ≠ x := by
  unfold top
  constructor
  · intro h j hj hx
    rcases bst_spec ns rk x n with ⟨_, h2⟩ | ⟨_, ⟨j', h1, h2, h3⟩, _⟩
    · exact h2 j hj hx
    · have : j' ∈ tops ns rk x (bst ns rk x n).2 n := (tops_mem ns rk x _ n j').2 ⟨h1, h2, h3⟩
      rw [h] at this; cases this
  · intro h
    exact tops_nil ns rk x _ n (fun j hj hx => absurd hx (h j hj))
theorem top_rank (n j : Nat) (h : j ∈ top ns rk x n) : j < n ∧ sat ns j = x ∧ rk j = (bst ns rk x n).2 := (tops_mem ns rk x _ n j).1 h

theorem top_other (n : Nat) (h : sat ns n ≠ x) : top ns rk x (n + 1) = top ns rk x n := by
  unfold top
  have hb : bst ns rk x (n + 1) = bst ns rk x n := by simp only [bst, if_neg h]
  rw [hb, tops, if_neg (fun c => h c.1)]
theorem top_new (n : Nat) (h : sat ns n = x) (hn : top ns rk x n = [] ∨ (bst ns rk x n).2 < rk n) : top ns rk x (n + 1) = [n] := by
  have hc : (bst ns rk x n).1 = false ∨ (bst ns rk x n).2 < rk n := by
    rcases hn with hn | hn
    · rcases bst_spec ns rk x n with ⟨h1, _⟩ | ⟨_, ⟨j, h1, h2, _⟩, _⟩
      · exact Or.inl h1
      · exact absurd h2 ((top_nil_iff ns rk x n).1 hn j h1)
    · exact Or.inr hn
  have hb : bst ns rk x (n + 1) = (true, rk n) := by simp only [bst, if_pos h, if_pos hc]
  unfold top
  rw [hb, tops, if_pos ⟨h, rfl⟩, tops_nil]
  · rfl
  · intro j hj hx
    rcases hn with hn | hn
    · exact absurd hx ((top_nil_iff ns rk x n).1 hn j hj)
    · rcases bst_spec ns rk x n with ⟨_, h2⟩ | ⟨_, _, h3⟩
      · exact absurd hx (h2 j hj)
      · have := h3 j hj hx
        show rk j ≠ rk n
        omega
theorem top_same (n : Nat) (h : sat ns n = x) (hf : top ns rk x n ≠ []) (hr : rk n = (bst ns rk x n).2) : top ns rk x (n + 1) = top ns rk x n ++ [n] := by
  have hb : bst ns rk x (n + 1) = bst ns rk x n := by
    simp only [bst, if_pos h]
    rw [if_neg]
    rintro (c | c)
    · rcases bst_spec ns rk x n with ⟨_, h2⟩ | ⟨h1, _, _⟩
      · exact hf ((top_nil_iff ns rk x n).2 h2)
      · rw [h1] at c; cases c
    · omega
  unfold top
  rw [hb, tops, if_pos ⟨h, hr⟩]
theorem top_less (n : Nat) (h : sat ns n = x) (hf : top ns rk x n ≠ []) (hr : rk n < (bst ns rk x n).2) : top ns rk x (n + 1) = top ns rk x n := by
  have hb : bst ns rk x (n + 1) = bst ns rk x n := by
    simp only [bst, if_pos h]
    rw [if_neg]
    rintro (c | c)
    · rcases bst_spec ns rk x n with ⟨_, h2⟩ | ⟨h1, _, _⟩
      · exact hf ((top_nil_iff ns rk x n).2 h2)
      · rw [h1] at c; cases c
    · omega
  unfold top
  rw [hb, tops, if_neg (fun c => by have := c.2; omega)]
end

/-! ### The map that 'highest' builds -/
def hget : List (ByteArray × List Nat) → ByteArray → List Nat
  | [], _ => []
  | p :: m, s => if p.1 = s then p.2 else hget m s
def hput : List (ByteArray × List Nat) → ByteArray → List Nat → List (ByteArray × List Nat)
  | [], s, v => [(s, v)]
  | p :: m, s, v => if p.1 = s then (s, v) :: m else p :: hput m s v
theorem hget_hput (m : List (ByteArray × List Nat)) (s y : ByteArray) (v : List Nat) : hget (hput m s v) y = if s = y then v else hget m y := by
  induction m with
  | nil => simp [hput, hget]
  | cons p m ih =>
    unfold hput
    by_cases e : p.1 = s
    · rw [if_pos e]
      simp only [hget]
      by_cases e2 : s = y
      · simp [e2]
      · rw [if_neg e2, if_neg e2, if_neg (fun h => e2 (e.symm.trans h))]
    · rw [if_neg e]
      simp only [hget, ih]
      by_cases e2 : p.1 = y
      · rw [if_pos e2, if_pos e2, if_neg (fun h => e (e2.trans h.symm))]
      · rw [if_neg e2, if_neg e2]
theorem hput_keys (m : List (ByteArray × List Nat)) (s : ByteArray) (v : List Nat) : (hput m s v).map Prod.fst = uniq (m.map Prod.fst) s := by
  induction m with
  | nil => simp [hput, uniq, has]
  | cons p m ih =>
    unfold hput
    by_cases e : p.1 = s
    · rw [if_pos e]; simp [uniq, has, e]
    · rw [if_neg e, List.map_cons, ih]
      unfold uniq
      have : has (p.1 :: m.map Prod.fst) s = has (m.map Prod.fst) s := by simp [has, e]
      rw [List.map_cons, this]
      split <;> simp

def hi (ns : List ByteArray) (rk : Nat → Int) : Nat → List (ByteArray × List Nat)
  | 0 => []
  | i + 1 =>
    if hget (hi ns rk i) (sat ns i) = [] ∨ rk ((hget (hi ns rk i) (sat ns i)).headD 0) < rk i then hput (hi ns rk i) (sat ns i) [i]
    else if rk i = rk ((hget (hi ns rk i) (sat ns i)).headD 0) then hput (hi ns rk i) (sat ns i) (hget (hi ns rk i) (sat ns i) ++ [i])
    else hi ns rk i

theorem headD_mem {l : List Nat} (h : l ≠ []) : l.headD 0 ∈ l := by
  cases l with
  | nil => exact absurd rfl h
  | cons a l => simp

theorem hi_get (ns : List ByteArray) (rk : Nat → Int) (n : Nat) (x : ByteArray) : hget (hi ns rk n) x = top ns rk x n := by
  induction n generalizing x with
  | zero => rfl
  | succ n ih =>
    have hx := ih (sat ns n)
    unfold hi
    rw [hx]
    have hh : top ns rk (sat ns n) n ≠ [] → rk ((top ns rk (sat ns n) n).headD 0) = (bst ns rk (sat ns n) n).2 := fun h => (top_rank ns rk _ n _ (headD_mem h)).2.2
    by_cases c1 : top ns rk (sat ns n) n = [] ∨ rk ((top ns rk (sat ns n) n).headD 0) < rk n
    · rw [if_pos c1, hget_hput]
      by_cases e : sat ns n = x
      · rw [if_pos e]
        subst e
        refine (top_new ns rk _ n rfl ?_).symm
        by_cases hn : top ns rk (sat ns n) n = []
        · exact Or.inl hn
        · right
          rcases c1 with c1 | c1
          · exact absurd c1 hn
          · rw [← hh hn]; exact c1
      · rw [if_neg e, ih x, top_other ns rk x n e]
    · rw [if_neg c1]
      have hn : top ns rk (sat ns n) n ≠ [] := fun h => c1 (Or.inl h)
      have hr : ¬ (bst ns rk (sat ns n) n).2 < rk n := fun h => c1 (Or.inr (by rw [hh hn]; exact h))
      rw [hh hn]
      by_cases c2 : rk n = (bst ns rk (sat ns n) n).2
      · rw [if_pos c2, hget_hput]
        by_cases e : sat ns n = x
        · rw [if_pos e]; subst e
          exact (top_same ns rk _ n rfl hn c2).symm
        · rw [if_neg e, ih x, top_other ns rk x n e]
      · rw [if_neg c2, ih x]
        by_cases e : sat ns n = x
        · subst e
          exact (top_less ns rk _ n rfl hn (by omega)).symm
        · exact (top_other ns rk x n e).symm

theorem hget_key {m : List (ByteArray × List Nat)} {s : ByteArray} (h : hget m s ≠ []) : has (m.map Prod.fst) s = true := by
  induction m with
  | nil => exact absurd rfl h
  | cons p m ih =>
    unfold hget at h
    by_cases e : p.1 = s
    · simp [has, e]
    · rw [if_neg e] at h
      have := ih h
      simp only [has, List.map_cons, List.any_cons, Bool.or_eq_true] at this ⊢
      exact Or.inr this

theorem hi_keys (ns : List ByteArray) (rk : Nat → Int) (n : Nat) (hn : n ≤ ns.length) : (hi ns rk n).map Prod.fst = dd (ns.take n) := by
  induction n with
  | zero => rfl
  | succ n ih =>
    have ih := ih (by omega)
    rw [take_sat ns n (by omega), dd_snoc]
    unfold hi
    by_cases c1 : hget (hi ns rk n) (sat ns n) = [] ∨ rk ((hget (hi ns rk n) (sat ns n)).headD 0) < rk n
    · rw [if_pos c1, hput_keys, ih]
    · rw [if_neg c1]
      by_cases c2 : rk n = rk ((hget (hi ns rk n) (sat ns n)).headD 0)
      · rw [if_pos c2, hput_keys, ih]
      · rw [if_neg c2, ih]
        have hk := hget_key (m := hi ns rk n) (s := sat ns n) (fun h => c1 (Or.inl h))
        rw [ih] at hk
        unfold uniq
        rw [hk]; rfl
theorem hi_len (ns : List ByteArray) (rk : Nat → Int) : (hi ns rk ns.length).length = (dd ns).length := by
  have := congrArg List.length (hi_keys ns rk ns.length (Nat.le_refl _))
  rw [List.length_map, List.take_length] at this
  exact this
theorem top_lt (ns : List ByteArray) (rk : Nat → Int) (x : ByteArray) (n j : Nat) (h : j ∈ top ns rk x n) : j < n := (top_rank ns rk x n j h).1
end Go.Proofs.Qxb6617226a
