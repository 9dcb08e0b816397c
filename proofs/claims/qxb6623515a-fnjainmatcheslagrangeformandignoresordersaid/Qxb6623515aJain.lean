import Derived.Test.Qxb6623515aRows
import Derived.Test.Qxb6623515aFloat
import Derived.WalkKit
import Derived.WalkSpells
import Derived.WalkLawsBesides
import Derived.Deep.QuietTactic
import Derived.BigQuiet
namespace Go.Proofs.Qxb6623515a
open Go.RowKit

/-- The sum of the first k numbers, and of their squares. -/
def S (z : Nat → Int) : Nat → Int
  | 0 => 0
  | k + 1 => S z k + z k
def Q (z : Nat → Int) : Nat → Int
  | 0 => 0
  | k + 1 => Q z k + z k * z k

theorem sq_bd (x : Int) (h1 : -1048576 < x) (h2 : x < 1048576) : 0 ≤ x * x ∧ x * x ≤ 1099509530625 := by
  obtain ⟨n, hn⟩ : ∃ n : Nat, n = x.natAbs := ⟨_, rfl⟩
  have e : x * x = (n : Int) * n := by rw [hn]; exact (Int.natAbs_mul_self' x).symm
  have hb : n ≤ 1048575 := by omega
  have := Nat.mul_le_mul hb hb
  rw [e]
  have h : ((n * n : Nat) : Int) = (n : Int) * n := by simp
  omega

theorem S_bd (z : Nat → Int) (n : Nat) (hz : ∀ j, j < n → -1048576 < z j ∧ z j < 1048576) (k : Nat) (hk : k ≤ n) : -1048576 * (k : Int) ≤ S z k ∧ S z k ≤ 1048576 * (k : Int) := by
  induction k with
  | zero => simp [S]
  | succ k ih =>
    have := ih (by omega)
    have := hz k (by omega)
    simp only [S]; omega
theorem Q_bd (z : Nat → Int) (n : Nat) (hz : ∀ j, j < n → -1048576 < z j ∧ z j < 1048576) (k : Nat) (hk : k ≤ n) : 0 ≤ Q z k ∧ Q z k ≤ 1099509530625 * (k : Int) := by
  induction k with
  | zero => simp [Q]
  | succ k ih =>
    have := ih (by omega)
    have := hz k (by omega)
    have := sq_bd (z k) this.1 this.2
    simp only [Q]; omega

/-- What Jain comes to. -/
def JainIs (z : Nat → Int) (len : Nat) (r : Nat) : Prop :=
  (Q z len = 0 ∧ r = 4607182418800017408) ∨ (Q z len ≠ 0 ∧ floatBits .quo .f64 (F (S z len * S z len)) (F ((len : Int) * Q z len)) = some r)

def Row (w : World) (a : Option Addr) (len : Nat) (z : Nat → Int) : Prop :=
  ∀ j, j < len → ∃ b off, a = some ⟨b, off, none⟩ ∧ w.cell? ⟨b, off + j, none⟩ = some (.int .i64 (z j))

theorem ret_float {k : FloatKind} {a b : Nat} (h : a = b) : Ending.returned (.float k a) = .returned (.float k b) := by rw [h]

theorem conv_F (n : Int) (src : TypeId) (q : IntKind) (hs : (Try.prog.underlying src).isSome = true) (w : World) : (convert src 24 (.int q n)).run Try.prog w = .ok (.float .f64 (F n)) w :=
  run_convert_int_float w src 24 q .f64 n hs Try.underlying24

set_option maxHeartbeats 1000000 in
theorem jain_any (a : Option Addr) (len cap : Nat) (z : Nat → Int) (r : Nat) (w : World) (hlen : len ≤ 4096) (hz : ∀ j, j < len → -1048576 < z j ∧ z j < 1048576)
    (hrow : Row w a len z) (hr : JainIs z len r) :
    Calls Try.prog 6 #[.slice a len cap] w fun e w' => e = .returned (.float .f64 r) ∧ w' = w := by
  have HZ : Hid (∀ j, j < len → -1048576 < z j ∧ z j < 1048576) := hz
  clear hz
  have hl2 : (len : Int) ≤ 4096 := by omega
  go_enter Try.func6, Try.ntmps6
  go_wp2
  go_loop [3, 4, 9] (fun s q i => ∃ k : Nat, k ≤ len ∧ i = .int .i64 k ∧ s = .float .f64 (F (S z k)) ∧ q = .float .f64 (F (Q z k))) (fun _ _ i => len - (intOf i).toNat)
  case atStart => exact ⟨0, Nat.zero_le _, rfl, by rw [show S z 0 = 0 from rfl, F_zero], by rw [show Q z 0 = 0 from rfl, F_zero]⟩
  case round =>
    obtain ⟨k, hk, rfl, rfl, rfl⟩ := hrel
    have sb := S_bd z len HZ.out k hk
    have qb := Q_bd z len HZ.out k hk
    by_cases hlt : k < len
    · obtain ⟨b, off, rfl, hc⟩ := hrow k hlt
      have zb := HZ.out k hlt
      have zs := sq_bd (z k) zb.1 zb.2
      have c1 := fun w => conv_F (z k) 2 .i64 (by kernel_rfl) w
      have f1 := fun w => run_float_arith (P := Try.prog) w .add 24 .f64 _ _ _ (add_F (S z k) (z k) (by omega) (by omega) (by omega) (by omega))
      have f2 := fun w => run_float_arith (P := Try.prog) w .mul 24 .f64 _ _ _ (sq_F (z k) (by omega) (by omega))
      have f3 := fun w => run_float_arith (P := Try.prog) w .add 24 .f64 _ _ _ (add_F (Q z k) (z k * z k) (by omega) (by omega) (by omega) (by omega))
      clear zb zs
      go_wp2
      go_round
      case rel => exact ⟨k + 1, by omega, by go_num, rfl, rfl⟩
      case measure => simp [intOf]; omega
    · have hkl : k = len := by omega
      subst hkl
      have c1 := fun w => conv_F (k : Int) 3 .i64 (by kernel_rfl) w
      have e1 := eq_zero_F (Q z k) (by omega) (by omega)
      rcases hr with ⟨h0, hr⟩ | ⟨h0, hr⟩
      · have e2 : (FloatKind.f64.format.order (F (Q z k)) 0 == some .eq) = true := by rw [e1]; exact decide_eq_true h0
        clear h0 e1
        go_wp2
        go_ret
        exact ⟨rfl, rfl⟩
      · have e2 : (FloatKind.f64.format.order (F (Q z k)) 0 == some .eq) = false := by rw [e1]; exact decide_eq_false h0
        have f1 := fun w => run_float_arith (P := Try.prog) w .mul 24 .f64 _ _ _ (sq_F (S z k) (by omega) (by omega))
        have f2 := fun w => run_float_arith (P := Try.prog) w .mul 24 .f64 _ _ _ (pos_F (k : Int) (Q z k) (by omega) (by omega) (by omega) (by omega))
        have f3 := fun w => run_float_arith (P := Try.prog) w .quo 24 .f64 _ _ _ hr
        clear h0 e1 hr
        go_wp2
        go_ret
        exact ⟨rfl, rfl⟩
end Go.Proofs.Qxb6623515a
