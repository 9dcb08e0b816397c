/- Plain facts: Lagrange's identity for the sums as the law reckons them; the sums of the list turned at k. -/
import Derived.Test.Qxb6623515aJain
namespace Go.Proofs.Qxb6623515a

theorem S_bd2 (z : Nat → Int) (n : Nat) (hz : ∀ j, j < n → -1048576 < z j ∧ z j < 1048576) (k : Nat) (hk : k ≤ n) : -1048575 * (k : Int) ≤ S z k ∧ S z k ≤ 1048575 * (k : Int) := by
  induction k with
  | zero => simp [S]
  | succ k ih =>
    have := ih (by omega)
    have := hz k (by omega)
    simp only [S]; omega

/-- The first m squared differences of number i with those behind it. -/
def Din (z : Nat → Int) (i : Nat) : Nat → Int
  | 0 => 0
  | m + 1 => Din z i m + (z i - z (i + 1 + m)) * (z i - z (i + 1 + m))
def Dout (z : Nat → Int) (n : Nat) : Nat → Int
  | 0 => 0
  | i + 1 => Dout z n i + Din z i (n - (i + 1))

theorem Din_closed (z : Nat → Int) (i m : Nat) : Din z i m = m * (z i * z i) - 2 * (z i * (S z (i + 1 + m) - S z (i + 1))) + (Q z (i + 1 + m) - Q z (i + 1)) := by
  induction m with
  | zero => simp [Din]
  | succ m ih =>
    have e1 : S z (i + 1 + (m + 1)) = S z (i + 1 + m) + z (i + 1 + m) := rfl
    have e2 : Q z (i + 1 + (m + 1)) = Q z (i + 1 + m) + z (i + 1 + m) * z (i + 1 + m) := rfl
    rw [Din, ih, e1, e2, Int.natCast_add]
    generalize S z (i + 1 + m) = a
    generalize S z (i + 1) = b
    generalize Q z (i + 1 + m) = c
    generalize Q z (i + 1) = d
    generalize z (i + 1 + m) = y
    generalize z i = x
    generalize (m : Int) = t
    simp only [Int.mul_add, Int.add_mul, Int.sub_mul, Int.mul_sub, Int.natCast_one, Int.mul_comm, Int.mul_left_comm]
    omega

theorem Dout_closed (z : Nat → Int) (n i : Nat) (h : i ≤ n) : Dout z n i = (n * Q z n - S z n * S z n) - (((n : Int) - i) * (Q z n - Q z i) - (S z n - S z i) * (S z n - S z i)) := by
  induction i with
  | zero => simp [Dout, Q, S]
  | succ i ih =>
    have ih := ih (by omega)
    have e0 : i + 1 + (n - (i + 1)) = n := by omega
    rw [Dout, ih, Din_closed, e0]
    have e1 : S z (i + 1) = S z i + z i := rfl
    have e2 : Q z (i + 1) = Q z i + z i * z i := rfl
    have e3 : ((n - (i + 1) : Nat) : Int) = (n : Int) - i - 1 := by omega
    rw [e1, e2, e3, Int.natCast_add]
    generalize S z n = a
    generalize S z i = b
    generalize Q z n = c
    generalize Q z i = d
    generalize z i = x
    generalize (n : Int) = t
    generalize (i : Int) = u
    simp only [Int.mul_add, Int.add_mul, Int.sub_mul, Int.mul_sub, Int.natCast_one, Int.mul_comm, Int.mul_left_comm]
    omega

/-- Lagrange's identity. -/
theorem lagrange (z : Nat → Int) (n : Nat) : S z n * S z n + Dout z n n = n * Q z n := by
  have := Dout_closed z n n (Nat.le_refl _)
  simp at this
  omega

theorem sq_nn (x : Int) : 0 ≤ x * x := by
  rcases Int.le_total 0 x with h | h
  · exact Int.mul_nonneg h h
  · exact Int.mul_nonneg_of_nonpos_of_nonpos h h

theorem Din_nn (z : Nat → Int) (i m : Nat) : 0 ≤ Din z i m := by
  induction m with
  | zero => simp [Din]
  | succ m ih => rw [Din]; have := sq_nn (z i - z (i + 1 + m)); omega
theorem Din_mono (z : Nat → Int) (i m m' : Nat) (h : m ≤ m') : Din z i m ≤ Din z i m' := by
  induction m' with
  | zero => have : m = 0 := by omega
            subst this; exact Int.le_refl _
  | succ m' ih =>
    by_cases e : m = m' + 1
    · subst e; exact Int.le_refl _
    · have := ih (by omega)
      have := sq_nn (z i - z (i + 1 + m'))
      rw [Din]; omega
theorem Dout_nn (z : Nat → Int) (n i : Nat) : 0 ≤ Dout z n i := by
  induction i with
  | zero => simp [Dout]
  | succ i ih => rw [Dout]; have := Din_nn z i (n - (i + 1)); omega
theorem Dout_mono (z : Nat → Int) (n i i' : Nat) (h : i ≤ i') : Dout z n i ≤ Dout z n i' := by
  induction i' with
  | zero => have : i = 0 := by omega
            subst this; exact Int.le_refl _
  | succ i' ih =>
    by_cases e : i = i' + 1
    · subst e; exact Int.le_refl _
    · have := ih (by omega)
      have := Din_nn z i' (n - (i' + 1))
      rw [Dout]; omega

theorem nQ_bd (z : Nat → Int) (n : Nat) (hn : n ≤ 4096) (hz : ∀ j, j < n → -1048576 < z j ∧ z j < 1048576) : 0 ≤ (n : Int) * Q z n ∧ (n : Int) * Q z n < 18446744073709551616 := by
  have hq := Q_bd z n hz n (Nat.le_refl _)
  have h1 : (n : Int) * Q z n ≤ 4096 * Q z n := Int.mul_le_mul_of_nonneg_right (by omega) hq.1
  have h2 := Int.mul_nonneg (Int.natCast_nonneg n) hq.1
  omega

/-- The gathered sum never leaves 64 bits. -/
theorem D_bd (z : Nat → Int) (n i m : Nat) (hn : n ≤ 4096) (hz : ∀ j, j < n → -1048576 < z j ∧ z j < 1048576) (h : i + 1 + m ≤ n) :
    0 ≤ Dout z n i + Din z i m ∧ Dout z n i + Din z i m < 18446744073709551616 := by
  have h1 := Dout_nn z n i
  have h2 := Din_nn z i m
  have h3 := Din_mono z i m (n - (i + 1)) (by omega)
  have h4 : Dout z n i + Din z i (n - (i + 1)) = Dout z n (i + 1) := rfl
  have h5 := Dout_mono z n (i + 1) n (by omega)
  have h6 := lagrange z n
  have h7 := sq_nn (S z n)
  have h8 := nQ_bd z n hn hz
  omega

theorem SS_bd (z : Nat → Int) (n : Nat) (hn : n ≤ 4096) (hz : ∀ j, j < n → -1048576 < z j ∧ z j < 1048576) : 0 ≤ S z n * S z n ∧ S z n * S z n < 18446744073709551616 ∧ 0 ≤ Dout z n n ∧ S z n * S z n + Dout z n n < 18446744073709551616 := by
  have h1 := lagrange z n
  have h2 := Dout_nn z n n
  have h3 := nQ_bd z n hn hz
  have h4 := sq_nn (S z n)
  omega

/-- The list turned at c. -/
def turn (z : Nat → Int) (n c : Nat) (j : Nat) : Int := if j < n - c then z (c + j) else z (j - (n - c))

theorem S_turn1 (z : Nat → Int) (n c m : Nat) (h : c + m ≤ n) : S (turn z n c) m = S z (c + m) - S z c := by
  induction m with
  | zero => simp [S]
  | succ m ih =>
    have := ih (by omega)
    have e : S z (c + (m + 1)) = S z (c + m) + z (c + m) := rfl
    rw [S, this, e, turn, if_pos (by omega)]; omega
theorem S_turn2 (z : Nat → Int) (n c m : Nat) (hc : c ≤ n) (h : m ≤ c) : S (turn z n c) (n - c + m) = S z n - S z c + S z m := by
  induction m with
  | zero => rw [Nat.add_zero, S_turn1 z n c (n - c) (by omega), show c + (n - c) = n from by omega]; simp [S]
  | succ m ih =>
    have := ih (by omega)
    have e : S (turn z n c) (n - c + (m + 1)) = S (turn z n c) (n - c + m) + turn z n c (n - c + m) := rfl
    rw [e, this, S, turn, if_neg (by omega), show n - c + m - (n - c) = m from by omega]; omega
theorem Q_turn1 (z : Nat → Int) (n c m : Nat) (h : c + m ≤ n) : Q (turn z n c) m = Q z (c + m) - Q z c := by
  induction m with
  | zero => simp [Q]
  | succ m ih =>
    have := ih (by omega)
    have e : Q z (c + (m + 1)) = Q z (c + m) + z (c + m) * z (c + m) := rfl
    rw [Q, this, e, turn, if_pos (by omega)]; omega
theorem Q_turn2 (z : Nat → Int) (n c m : Nat) (hc : c ≤ n) (h : m ≤ c) : Q (turn z n c) (n - c + m) = Q z n - Q z c + Q z m := by
  induction m with
  | zero => rw [Nat.add_zero, Q_turn1 z n c (n - c) (by omega), show c + (n - c) = n from by omega]; simp [Q]
  | succ m ih =>
    have := ih (by omega)
    have e : Q (turn z n c) (n - c + (m + 1)) = Q (turn z n c) (n - c + m) + turn z n c (n - c + m) * turn z n c (n - c + m) := rfl
    rw [e, this, Q, turn, if_neg (by omega), show n - c + m - (n - c) = m from by omega]; omega

theorem jain_turn (z : Nat → Int) (n c r : Nat) (hc : c ≤ n) (h : JainIs z n r) : JainIs (turn z n c) n r := by
  have e1 := S_turn2 z n c c hc (Nat.le_refl _)
  have e2 := Q_turn2 z n c c hc (Nat.le_refl _)
  rw [show n - c + c = n from by omega] at e1 e2
  rw [show S z n - S z c + S z c = S z n from by omega] at e1
  rw [show Q z n - Q z c + Q z c = Q z n from by omega] at e2
  unfold JainIs
  rw [e1, e2]
  exact h
theorem turn_bd (z : Nat → Int) (n c : Nat) (hz : ∀ j, j < n → -1048576 < z j ∧ z j < 1048576) : ∀ j, j < n → -1048576 < turn z n c j ∧ turn z n c j < 1048576 := by
  intro j hj
  unfold turn
  split
  · exact hz _ (by omega)
  · exact hz _ (by omega)
end Go.Proofs.Qxb6623515a
