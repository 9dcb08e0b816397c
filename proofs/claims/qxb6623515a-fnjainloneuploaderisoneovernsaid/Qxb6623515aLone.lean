import Derived.Test.Qxb6623515aJain
import Derived.Deep.OwnRows
namespace Go.Proofs.Qxb6623515a
open Go.RowKit

/-- All nought but x at p. -/
def lone (p : Nat) (x : Int) (j : Nat) : Int := if j = p then x else 0

theorem S_lone (p : Nat) (x : Int) (k : Nat) : S (lone p x) k = if p < k then x else 0 := by
  induction k with
  | zero => simp [S]
  | succ k ih =>
    simp only [S, ih, lone]
    by_cases h1 : p < k
    · rw [if_pos h1, if_neg (by omega), if_pos (by omega)]; omega
    · by_cases h2 : k = p
      · rw [if_neg h1, if_pos h2, if_pos (by omega)]; omega
      · rw [if_neg h1, if_neg h2, if_neg (by omega)]; omega
theorem Q_lone (p : Nat) (x : Int) (k : Nat) : Q (lone p x) k = if p < k then x * x else 0 := by
  induction k with
  | zero => simp [Q]
  | succ k ih =>
    simp only [Q, ih, lone]
    by_cases h1 : p < k
    · rw [if_pos h1, if_neg (by omega), if_pos (by omega)]; simp
    · by_cases h2 : k = p
      · rw [if_neg h1, if_pos h2, if_pos (by omega)]; simp
      · rw [if_neg h1, if_neg h2, if_neg (by omega)]; simp

theorem jain_lone_zero (p n : Nat) : JainIs (lone p 0) n 4607182418800017408 := by
  left; rw [Q_lone]; simp

theorem jain_lone (p n : Nat) (x : Int) (r : Nat) (hp : p < n) (hn : n ≤ 4096) (h0 : x ≠ 0) (h1 : -1048576 < x) (h2 : x < 1048576)
    (hr : floatBits .quo .f64 (F 1) (F n) = some r) : JainIs (lone p x) n r := by
  right
  have hb := sq_bd x h1 h2
  have hx : x * x ≠ 0 := by simp [h0]
  rw [Q_lone, S_lone, if_pos hp, if_pos hp]
  refine ⟨hx, ?_⟩
  obtain ⟨c, hc⟩ : ∃ c : Nat, x * x = (c : Int) := ⟨(x * x).toNat, by omega⟩
  rw [hc] at hb hx ⊢
  rw [← hr, ← Int.natCast_mul]
  refine div_ratio n c (by omega) (by omega) ?_
  have : n * c ≤ 4096 * c := Nat.mul_le_mul_right c hn
  omega

theorem one_over (n : Nat) (h0 : 0 < n) (h : n ≤ 4096) : ∃ r, floatBits .quo .f64 (F 1) (F n) = some r ∧ (FloatKind.f64.format.order r r == some .eq) = true :=
  div_F 1 n (by omega) (by omega) (by omega) (by omega)

theorem Try.info2 : (Try.prog.info? 2).map (fun i => (i.zero, i.size, i.bytes)) = some (some (.int .i64 0), 1, 8) := by kernel_rfl

/-- The row that the law lays. -/
def loneCells (n p : Nat) (x : Int) : Array Value := (madeCells #[.int .i64 0] n).setIfInBounds p (.int .i64 x)

theorem loneCells_get (n p : Nat) (x : Int) (j : Nat) (h : j < n) : (loneCells n p x)[j]? = some (.int .i64 (lone p x j)) := by
  have hs : j < (madeCells #[Value.int .i64 0] n).size := by rw [size_madeCells]; exact h
  unfold loneCells lone
  rw [Array.getElem?_setIfInBounds]
  by_cases e : p = j
  · rw [if_pos e, if_pos e.symm, if_pos (by omega)]
  · rw [if_neg e, if_neg (fun h => e h.symm)]
    simp [madeCells, h, Nat.mod_one]

theorem made_get (n j : Nat) (h : j < n) : (madeCells #[Value.int .i64 0] n)[j]? = some (.int .i64 0) := by
  simp [madeCells, h, Nat.mod_one]

/-- The two rows, read in the world that the law has made. -/
theorem row_a (w : World) (n p q : Nat) (x : Int) : Row ((w.alloc (.cells ((madeCells #[Value.int .i64 0] n).setIfInBounds p (.int .i64 x)) 2)).alloc (.cells ((madeCells #[Value.int .i64 0] n).setIfInBounds q (.int .i64 x)) 2)) (some ⟨w.heap.size, 0, none⟩) n (lone p x) := by
  intro j hj
  refine ⟨_, _, rfl, ?_⟩
  rw [World.cell?_alloc2_first, Nat.zero_add]
  exact loneCells_get n p x j hj
theorem row_b (w : World) (n p q : Nat) (x : Int) : Row ((w.alloc (.cells ((madeCells #[Value.int .i64 0] n).setIfInBounds p (.int .i64 x)) 2)).alloc (.cells ((madeCells #[Value.int .i64 0] n).setIfInBounds q (.int .i64 x)) 2)) (some ⟨w.heap.size + 1, 0, none⟩) n (lone q x) := by
  intro j hj
  refine ⟨_, _, rfl, ?_⟩
  rw [World.cell?_alloc2_new, Nat.zero_add]
  exact loneCells_get n q x j hj

theorem lone_bd (p n : Nat) (x : Int) (h1 : -1048576 < x) (h2 : x < 1048576) : ∀ j, j < n → -1048576 < lone p x j ∧ lone p x j < 1048576 := by
  intro j _; unfold lone; split <;> omega

set_option maxHeartbeats 1000000 in
theorem lone_in (n p q : Nat) (x : Int) (w : World) (hn : n ≤ 4096) (hp : p < n) (hq : q < n) (h1 : -1048576 < x) (h2 : x < 1048576) :
    Calls Try.prog 4 #[.int .i64 n, .int .i64 p, .int .i64 q, .int .i64 x] w fun e w' => e = .returned (.bool true) ∧ Grown w w' := by
  have hmk := run_make_row' (P := Try.prog) 22 2 (.int .i64 0) 8 Try.underlying22 Try.info2 rfl .i64 .i64 n (by omega) (by omega)
  have hn' : (n : Int) ≤ 4096 := by omega
  have hn1 : (1 : Int) ≤ n := by omega
  have hp' : (p : Int) < n := by omega
  have hq' : (q : Int) < n := by omega
  have mp := made_get n p hp
  have mq := made_get n q hq
  have za := lone_bd p n x h1 h2
  have zb := lone_bd q n x h1 h2
  by_cases hx : x = 0
  · subst hx
    have hself : (FloatKind.f64.format.order 4607182418800017408 4607182418800017408 == some .eq) = true := by decide
    go_enter Try.func4, Try.ntmps4
    go_wp2_with fail
    refine (jain_any _ n n (lone p 0) 4607182418800017408 _ hn za (row_a w n p q 0) (jain_lone_zero p n)).mono ?_
    rintro e w' ⟨rfl, hw⟩
    subst hw
    go_wp2_with fail
    refine (jain_any _ n n (lone q 0) 4607182418800017408 _ hn zb (row_b w n p q 0) (jain_lone_zero q n)).mono ?_
    rintro e w' ⟨rfl, hw⟩
    subst hw
    go_wp2
    go_ret
    exact ⟨rfl, by repeat (first | exact Grown.refl _ | apply Grown.drew | apply Grown.alloc)⟩
  · obtain ⟨r, hr, hself⟩ := one_over n (by omega) hn
    have ja := jain_lone p n x r hp hn hx h1 h2 hr
    have jb := jain_lone q n x r hq hn hx h1 h2 hr
    have c1 := fun w => conv_F (n : Int) 3 .i64 (by kernel_rfl) w
    rw [F_one] at hr
    have f3 := fun w => run_float_arith (P := Try.prog) w .quo 24 .f64 _ _ _ hr
    have hx' : (x == 0) = false := by simpa using hx
    have JA : Hid (JainIs (lone p x) n r) := ja
    have JB : Hid (JainIs (lone q x) n r) := jb
    clear ja jb hr hx
    go_enter Try.func4, Try.ntmps4
    go_wp2_with fail
    refine (jain_any _ n n (lone p x) r _ hn za (row_a w n p q x) JA.out).mono ?_
    rintro e w' ⟨rfl, hw⟩
    subst hw
    go_wp2_with fail
    refine (jain_any _ n n (lone q x) r _ hn zb (row_b w n p q x) JB.out).mono ?_
    rintro e w' ⟨rfl, hw⟩
    subst hw
    go_wp2
    go_ret
    exact ⟨rfl, by repeat (first | exact Grown.refl _ | apply Grown.drew | apply Grown.alloc)⟩

set_option maxHeartbeats 1000000 in
theorem lone_out (n p q x : Int) (w : World) (h : n < 1 ∨ 4096 < n ∨ p < 0 ∨ n ≤ p ∨ q < 0 ∨ n ≤ q ∨ x ≤ -1048576 ∨ 1048576 ≤ x) :
    Calls Try.prog 4 #[.int .i64 n, .int .i64 p, .int .i64 q, .int .i64 x] w fun e w' => e = .returned (.bool true) ∧ Grown w w' := by
  by_cases c1 : n < 1
  · clear h; go_enter Try.func4, Try.ntmps4
    go_wp2; go_ret; exact ⟨rfl, Grown.refl _⟩
  by_cases c2 : 4096 < n
  · clear h; go_enter Try.func4, Try.ntmps4
    go_wp2; go_ret; exact ⟨rfl, Grown.refl _⟩
  by_cases c3 : p < 0
  · clear h; go_enter Try.func4, Try.ntmps4
    go_wp2; go_ret; exact ⟨rfl, Grown.refl _⟩
  by_cases c4 : n ≤ p
  · clear h; go_enter Try.func4, Try.ntmps4
    go_wp2; go_ret; exact ⟨rfl, Grown.refl _⟩
  by_cases c5 : q < 0
  · clear h; go_enter Try.func4, Try.ntmps4
    go_wp2; go_ret; exact ⟨rfl, Grown.refl _⟩
  by_cases c6 : n ≤ q
  · clear h; go_enter Try.func4, Try.ntmps4
    go_wp2; go_ret; exact ⟨rfl, Grown.refl _⟩
  by_cases c7 : x ≤ -1048576
  · clear h; go_enter Try.func4, Try.ntmps4
    go_wp2; go_ret; exact ⟨rfl, Grown.refl _⟩
  · have c8 : 1048576 ≤ x := by omega
    clear h; go_enter Try.func4, Try.ntmps4
    go_wp2; go_ret; exact ⟨rfl, Grown.refl _⟩

theorem lone_walk (n p q x : Int) (w : World) :
    Calls Try.prog 4 #[.int .i64 n, .int .i64 p, .int .i64 q, .int .i64 x] w fun e w' => e = .returned (.bool true) ∧ Grown w w' := by
  by_cases h : n < 1 ∨ 4096 < n ∨ p < 0 ∨ n ≤ p ∨ q < 0 ∨ n ≤ q ∨ x ≤ -1048576 ∨ 1048576 ≤ x
  · exact lone_out n p q x w h
  · obtain ⟨n', rfl⟩ := Int.eq_ofNat_of_zero_le (show 0 ≤ n by omega)
    obtain ⟨p', rfl⟩ := Int.eq_ofNat_of_zero_le (show 0 ≤ p by omega)
    obtain ⟨q', rfl⟩ := Int.eq_ofNat_of_zero_le (show 0 ≤ q by omega)
    exact lone_in n' p' q' x w (by omega) (by omega) (by omega) (by omega) (by omega)
end Go.Proofs.Qxb6623515a
