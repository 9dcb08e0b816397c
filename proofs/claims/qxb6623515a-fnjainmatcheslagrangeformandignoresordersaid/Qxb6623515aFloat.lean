/- Plain facts on binary64 as the model reckons it: integers below 2^53 are kept whole by the reading, sums and products are rounded once, a quotient hangs on the ratio alone. -/
import Derived.Laws.FloatArith
namespace Go.Proofs.Qxb6623515a
open Ieee

/-! ### Constants of the format -/
theorem d_sign : double.signWeight = 9223372036854775808 := by decide
theorem d_bin : double.binade = 4503599627370496 := by decide
theorem d_inf : double.infRung = 9218868437227405312 := by decide
theorem d_least : double.leastPlace = -1074 := by decide
theorem d_frac : double.fractionBits = 52 := rfl

theorem read_word (s : Bool) (r : Nat) (h : r < 9223372036854775808) :
    double.read (double.word s r) =
      if r < 4503599627370496 then .number s r (-1074)
      else if r < 9218868437227405312 then .number s (4503599627370496 + r % 4503599627370496) (-1074 + ((r / 4503599627370496 - 1 : Nat) : Int))
      else if r = 9218868437227405312 then .infinity s else .nan s (r - 9218868437227405312) := by
  have e1 : double.word s r / 9223372036854775808 % 2 = s.toNat := by
    cases s <;> simp [Format.word, d_sign] <;> omega
  have e2 : double.word s r % 9223372036854775808 = r := by
    cases s <;> simp [Format.word, d_sign] <;> omega
  have e3 : (s.toNat == 1) = s := by cases s <;> rfl
  unfold Format.read
  simp only [d_sign, d_bin, d_inf, d_least, e1, e2, e3]

theorem cut_zero (s : Bool) (n : Nat) : Toward.even.cut s n 0 = n := by
  simp [Toward.cut, Nat.mod_one]

theorem log2_mul_pow (m k : Nat) (h : m ≠ 0) : (m * 2 ^ k).log2 = m.log2 + k := by
  induction k with
  | zero => simp
  | succ k ih =>
    have : m * 2 ^ (k + 1) = 2 * (m * 2 ^ k) := by rw [Nat.pow_succ]; ac_rfl
    have hp : 0 < 2 ^ k := Nat.two_pow_pos k
    have h0 : m * 2 ^ k ≠ 0 := Nat.mul_ne_zero h (by omega)
    rw [this, Nat.log2_two_mul h0, ih]; omega

theorem cut_scale (s : Bool) (m k d : Nat) (h : m ≠ 0) : Toward.even.cut s (m * 2 ^ k) (d + k) = Toward.even.cut s m d := by
  have hp : 0 < 2 ^ k := Nat.two_pow_pos k
  have e : min (d + k) (m.log2 + k + 2) = min d (m.log2 + 2) + k := by omega
  simp only [Toward.cut, log2_mul_pow m k h, Nat.one_shiftLeft, e, Nat.pow_add]
  generalize 2 ^ min d (m.log2 + 2) = g
  generalize 2 ^ k = q at *
  rw [Nat.mul_div_mul_right _ _ hp, Nat.mul_mod_mul_right]
  have e1 : decide (g * q < 2 * (m % g * q)) = decide (g < 2 * (m % g)) := by
    rw [decide_eq_decide, ← Nat.mul_assoc]; exact Nat.mul_lt_mul_right hp
  have e2 : (g * q == 2 * (m % g * q)) = (g == 2 * (m % g)) := by
    rw [Bool.eq_iff_iff, beq_iff_eq, beq_iff_eq, ← Nat.mul_assoc]
    exact Nat.mul_left_inj (by omega)
  rw [e1, e2]

theorem cut_whole (s : Bool) (m k d : Nat) (h : m ≠ 0) (hd : d ≤ k) : Toward.even.cut s (m * 2 ^ k) d = m * 2 ^ (k - d) := by
  have hp : 0 < 2 ^ (k - d) := Nat.two_pow_pos _
  have e : m * 2 ^ k = (m * 2 ^ (k - d)) * 2 ^ d := by rw [Nat.mul_assoc, ← Nat.pow_add]; congr 2; omega
  have h0 : m * 2 ^ (k - d) ≠ 0 := Nat.mul_ne_zero h (by omega)
  rw [e]
  have := cut_scale s (m * 2 ^ (k - d)) d 0 h0
  rw [Nat.zero_add, cut_zero] at this
  exact this

theorem nearest_scale (f : Format) (s : Bool) (m k : Nat) (p : Int) (h : m ≠ 0) : f.nearest s (m * 2 ^ k) (p - k) = f.nearest s m p := by
  have hp : 0 < 2 ^ k := Nat.two_pow_pos k
  have h0 : m * 2 ^ k ≠ 0 := Nat.mul_ne_zero h (by omega)
  unfold Format.nearest
  simp only [h, h0, if_false, log2_mul_pow m k h]
  have e : p - (k : Int) + ((m.log2 + k : Nat) : Int) - f.fractionBits = p + (m.log2 : Int) - f.fractionBits := by omega
  rw [e]
  generalize max (p + (m.log2 : Int) - f.fractionBits) f.leastPlace = L
  have key : Toward.even.cut s ((m * 2 ^ k) <<< (p - k - L).toNat) (L - (p - k)).toNat = Toward.even.cut s (m <<< (p - L).toNat) (L - p).toNat := by
    rw [Nat.shiftLeft_eq, Nat.shiftLeft_eq]
    by_cases c1 : p ≤ L
    · have a1 : (p - k - L).toNat = 0 := by omega
      have a2 : (p - L).toNat = 0 := by omega
      have a3 : (L - (p - k)).toNat = (L - p).toNat + k := by omega
      rw [a1, a2, a3, Nat.pow_zero, Nat.mul_one, Nat.mul_one, cut_scale s m k _ h]
    · by_cases c2 : p - k ≤ L
      · have a1 : (p - k - L).toNat = 0 := by omega
        have a2 : (L - p).toNat = 0 := by omega
        rw [a1, a2, Nat.pow_zero, Nat.mul_one, cut_zero, cut_whole s m k _ h (by omega)]
        congr 2; omega
      · have a1 : (L - (p - k)).toNat = 0 := by omega
        have a2 : (L - p).toNat = 0 := by omega
        have a3 : (p - L).toNat = k + (p - k - L).toNat := by omega
        rw [a1, a2, cut_zero, cut_zero, a3, Nat.pow_add, Nat.mul_assoc]
  rw [key]

/-! ### Whole numbers, written and read -/
theorem log2_bounds (m : Nat) (h : m ≠ 0) : 2 ^ m.log2 ≤ m ∧ m < 2 ^ (m.log2 + 1) := ⟨Nat.log2_self_le h, Nat.lt_log2_self⟩

theorem pow_split (a b : Nat) (h : a ≤ b) : 2 ^ b = 2 ^ a * 2 ^ (b - a) := by
  rw [← Nat.pow_add, Nat.add_sub_cancel' h]

/-- A whole number of at most 53 digits is read as it was written. -/
theorem read_small (s : Bool) (m : Nat) (h : m ≠ 0) (hm : m < 9007199254740992) :
    double.read (double.nearest s m 0) = .number s (m * 2 ^ (52 - m.log2)) (-((52 - m.log2 : Nat) : Int)) := by
  have hl : m.log2 < 53 := (Nat.log2_lt h).2 (by omega)
  have hb := log2_bounds m h
  have hk1 : 4503599627370496 ≤ m * 2 ^ (52 - m.log2) := by
    have := pow_split m.log2 52 (by omega)
    have := Nat.mul_le_mul_right (2 ^ (52 - m.log2)) hb.1
    omega
  have hk2 : m * 2 ^ (52 - m.log2) < 9007199254740992 := by
    have e := pow_split (m.log2 + 1) 53 (by omega)
    rw [show 53 - (m.log2 + 1) = 52 - m.log2 from by omega] at e
    have := Nat.mul_lt_mul_of_pos_right hb.2 (Nat.two_pow_pos (52 - m.log2))
    omega
  unfold Format.nearest
  simp only [h, if_false, d_least, d_frac, d_bin, d_inf]
  have e1 : max ((0 : Int) + (m.log2 : Int) - ((52 : Nat) : Int)) (-1074) = (m.log2 : Int) - 52 := by omega
  rw [e1]
  have e2 : ((0 : Int) - ((m.log2 : Int) - 52)).toNat = 52 - m.log2 := by omega
  have e3 : ((m.log2 : Int) - 52 - 0).toNat = 0 := by omega
  have e4 : ((m.log2 : Int) - 52 - -1074).toNat = m.log2 + 1022 := by omega
  rw [e2, e3, e4, cut_zero, Nat.shiftLeft_eq]
  generalize m * 2 ^ (52 - m.log2) = K at *
  clear e1 e2 e3 e4 hb h hm
  generalize m.log2 = l at *
  have hR : (l + 1022) * 4503599627370496 + K < 9218868437227405312 := by omega
  rw [Nat.min_eq_left (Nat.le_of_lt hR), read_word _ _ (by omega), if_neg (by omega), if_pos hR]
  have e6 : 4503599627370496 + ((l + 1022) * 4503599627370496 + K) % 4503599627370496 = K := by omega
  have e7 : (-1074 : Int) + ((((l + 1022) * 4503599627370496 + K) / 4503599627370496 - 1 : Nat) : Int) = -((52 - l : Nat) : Int) := by omega
  rw [e6, e7]

theorem nearest_zero (f : Format) (s : Bool) (p : Int) : f.nearest s 0 p = f.word s 0 := by simp [Format.nearest]

/-- 'float64(n)'. -/
def F (n : Int) : Nat := floatOfInt .f64 n
theorem F_eq (n : Int) : F n = double.nearest (decide (n < 0)) n.natAbs 0 := rfl
theorem F_zero : F 0 = 0 := by decide
theorem F_one : F 1 = 4607182418800017408 := by decide

theorem read_F (n : Int) (h1 : -9007199254740992 < n) (h2 : n < 9007199254740992) :
    ∃ e : Nat, double.read (F n) = .number (decide (n < 0)) (n.natAbs * 2 ^ e) (-(e : Int)) := by
  by_cases h0 : n = 0
  · subst h0
    have h0 : double.read 0 = .number false 0 (-1074) := by decide
    obtain ⟨e, he⟩ : ∃ e : Nat, (e : Int) = 1074 := ⟨1074, rfl⟩
    refine ⟨e, ?_⟩
    rw [F_zero, h0, Int.natAbs_zero, Nat.zero_mul, he]; rfl
  · exact ⟨52 - n.natAbs.log2, by rw [F_eq]; exact read_small _ _ (by omega) (by omega)⟩

theorem signed_eq (n : Int) (e E : Nat) (h : e ≤ E) : signed (decide (n < 0)) (n.natAbs * 2 ^ e) (E - e) = n * 2 ^ E := by
  have e1 : (n.natAbs * 2 ^ e) <<< (E - e) = n.natAbs * 2 ^ E := by
    rw [Nat.shiftLeft_eq, Nat.mul_assoc, ← Nat.pow_add]; congr 2; omega
  unfold signed
  rw [e1]
  by_cases hn : n < 0
  · simp only [hn, decide_true, if_true, Int.natCast_mul]
    rw [show ((n.natAbs : Nat) : Int) = -n from by omega]
    simp [Int.neg_mul]
  · simp only [hn, decide_false, Int.natCast_mul]
    rw [show ((n.natAbs : Nat) : Int) = n from by omega]
    simp

theorem natAbs_pow (n : Int) (E : Nat) : (n * 2 ^ E).natAbs = n.natAbs * 2 ^ E := by
  rw [Int.natAbs_mul, Int.natAbs_pow]; rfl
theorem mul_pow_neg (n : Int) (E : Nat) : n * 2 ^ E < 0 ↔ n < 0 := by
  have hp : (0 : Int) < 2 ^ E := Int.pow_pos (by decide)
  constructor
  · intro h
    by_cases hn : n < 0
    · exact hn
    · exact absurd (Int.mul_nonneg (by omega : 0 ≤ n) (Int.le_of_lt hp)) (by omega)
  · intro h; exact Int.mul_neg_of_neg_of_pos h hp
theorem mul_pow_zero (n : Int) (E : Nat) : n * 2 ^ E = 0 ↔ n = 0 := by
  have hp : (0 : Int) < 2 ^ E := Int.pow_pos (by decide)
  rw [Int.mul_eq_zero]; constructor
  · rintro (h | h)
    · exact h
    · omega
  · intro h; exact Or.inl h

/-- The writing of 'n * 2^E' at place '-E'. -/
theorem write_scaled (n : Int) (E : Nat) : double.nearest (decide (n < 0)) (n.natAbs * 2 ^ E) (-(E : Int)) = F n := by
  by_cases h0 : n = 0
  · subst h0
    rw [F_eq]
    simp [nearest_zero]
  · have := nearest_scale double (decide (n < 0)) n.natAbs E 0 (by omega)
    rw [F_eq, ← this]
    congr 1; omega

theorem add_F (a b : Int) (a1 : -9007199254740992 < a) (a2 : a < 9007199254740992) (b1 : -9007199254740992 < b) (b2 : b < 9007199254740992) :
    floatBits .add .f64 (F a) (F b) = some (F (a + b)) := by
  obtain ⟨e, he⟩ := read_F a a1 a2
  obtain ⟨g, hg⟩ := read_F b b1 b2
  show double.add (F a) (F b) = _
  unfold Format.add
  rw [he, hg]
  simp only [Datum.sum, Option.map_some, Format.write]
  obtain ⟨E, hE⟩ : ∃ E : Nat, E = max e g := ⟨_, rfl⟩
  have m1 : min (-(e : Int)) (-(g : Int)) = -(E : Int) := by omega
  have t1 : (-(e : Int) - -(E : Int)).toNat = E - e := by omega
  have t2 : (-(g : Int) - -(E : Int)).toNat = E - g := by omega
  rw [m1, t1, t2, signed_eq a e E (by omega), signed_eq b g E (by omega), ← Int.add_mul, natAbs_pow]
  have sg : (if (a + b) * 2 ^ E = 0 then decide (a < 0) && decide (b < 0) else decide ((a + b) * 2 ^ E < 0)) = decide (a + b < 0) := by
    by_cases h0 : a + b = 0
    · rw [if_pos ((mul_pow_zero _ _).2 h0)]
      rw [Bool.eq_iff_iff]; simp; omega
    · rw [if_neg (fun h => h0 ((mul_pow_zero _ _).1 h))]
      rw [decide_eq_decide]; exact mul_pow_neg _ _
  rw [sg, write_scaled]

theorem mul_F (a b : Int) (a1 : -9007199254740992 < a) (a2 : a < 9007199254740992) (b1 : -9007199254740992 < b) (b2 : b < 9007199254740992)
    (hs : (decide (a < 0) ^^ decide (b < 0)) = decide (a * b < 0)) :
    floatBits .mul .f64 (F a) (F b) = some (F (a * b)) := by
  obtain ⟨e, he⟩ := read_F a a1 a2
  obtain ⟨g, hg⟩ := read_F b b1 b2
  show double.mul (F a) (F b) = _
  unfold Format.mul
  rw [he, hg]
  simp only [Datum.product, Option.map_some, Format.write]
  have e1 : a.natAbs * 2 ^ e * (b.natAbs * 2 ^ g) = (a * b).natAbs * 2 ^ (e + g) := by
    rw [Int.natAbs_mul, Nat.pow_add]; ac_rfl
  have e2 : -(e : Int) + -(g : Int) = -((e + g : Nat) : Int) := by omega
  rw [hs, e1, e2, write_scaled]

theorem sq_F (a : Int) (a1 : -9007199254740992 < a) (a2 : a < 9007199254740992) : floatBits .mul .f64 (F a) (F a) = some (F (a * a)) := by
  refine mul_F a a a1 a2 a1 a2 ?_
  have : 0 ≤ a * a := by
    rcases Int.le_total 0 a with h | h
    · exact Int.mul_nonneg h h
    · exact Int.mul_nonneg_of_nonpos_of_nonpos h h
  simp only [Bool.xor_self]
  symm; simp; omega

theorem pos_F (a b : Int) (a1 : 0 ≤ a) (a2 : a < 9007199254740992) (b1 : 0 ≤ b) (b2 : b < 9007199254740992) : floatBits .mul .f64 (F a) (F b) = some (F (a * b)) := by
  refine mul_F a b (by omega) a2 (by omega) b2 ?_
  have := Int.mul_nonneg a1 b1
  have h1 : decide (a < 0) = false := decide_eq_false (by omega)
  have h2 : decide (b < 0) = false := decide_eq_false (by omega)
  have h3 : decide (a * b < 0) = false := decide_eq_false (by omega)
  rw [h1, h2, h3]; rfl

/-- '== 0'. -/
theorem eq_zero_F (a : Int) (a1 : -9007199254740992 < a) (a2 : a < 9007199254740992) : (FloatKind.f64.format.order (F a) 0 == some .eq) = decide (a = 0) := by
  obtain ⟨e, he⟩ := read_F a a1 a2
  have h0 : double.read 0 = .number false 0 (-1074) := by decide
  show (double.order (F a) 0 == some .eq) = _
  unfold Format.order
  rw [he, h0]
  simp only [Datum.order]
  obtain ⟨E, hE⟩ : ∃ E : Nat, E = max e 1074 := ⟨_, rfl⟩
  have m1 : min (-(e : Int)) (-1074) = -(E : Int) := by omega
  have t1 : (-(e : Int) - -(E : Int)).toNat = E - e := by omega
  rw [m1, t1, signed_eq a e E (by omega)]
  have z : ∀ k, signed false 0 k = 0 := by intro k; simp [signed]
  rw [z]
  rw [Bool.eq_iff_iff]
  simp only [beq_iff_eq, Option.some.injEq, decide_eq_true_eq]
  rw [Int.compare_eq_eq]
  exact mul_pow_zero _ _

/-! ### What is written is no NaN -/
theorem read_nearest_ok (s : Bool) (m : Nat) (p : Int) : (double.read (double.nearest s m p)).isNaN = false := by
  have key : ∀ r : Nat, r ≤ 9218868437227405312 → (double.read (double.word s r)).isNaN = false := by
    intro r hr
    rw [read_word s r (by omega)]
    split
    · rfl
    · split
      · rfl
      · rw [if_pos (by omega)]; rfl
  unfold Format.nearest
  split
  · exact key 0 (by omega)
  · refine key _ ?_
    rw [d_inf]; exact Nat.min_le_right _ _

theorem order_self (r : Nat) (h : (double.read r).isNaN = false) : (FloatKind.f64.format.order r r == some .eq) = true := by
  show (double.order r r == some .eq) = true
  unfold Format.order
  cases hd : double.read r with
  | number s m i => simp [Datum.order]
  | infinity s => simp [Datum.order]
  | nan s t => rw [hd] at h; cases h

/-- A number of at most 64 digits is written as a number that is no zero. -/
theorem read_big (s : Bool) (m : Nat) (h : m ≠ 0) (hm : m < 18446744073709551616) :
    ∃ M j, double.read (double.nearest s m 0) = .number s M j ∧ M ≠ 0 := by
  have hl : m.log2 < 64 := (Nat.log2_lt h).2 (by omega)
  have hb := log2_bounds m h
  unfold Format.nearest
  simp only [h, if_false, d_least, d_frac, d_bin, d_inf]
  have e1 : max ((0 : Int) + (m.log2 : Int) - ((52 : Nat) : Int)) (-1074) = (m.log2 : Int) - 52 := by omega
  rw [e1]
  have e4 : ((m.log2 : Int) - 52 - -1074).toNat = m.log2 + 1022 := by omega
  rw [e4]
  have hK : ∃ K, Toward.even.cut s (m <<< ((0 : Int) - ((m.log2 : Int) - 52)).toNat) ((m.log2 : Int) - 52 - 0).toNat = K ∧ K ≤ 9007199254740992 := by
    by_cases c : m.log2 ≤ 52
    · have e3 : ((m.log2 : Int) - 52 - 0).toNat = 0 := by omega
      have e2 : ((0 : Int) - ((m.log2 : Int) - 52)).toNat = 52 - m.log2 := by omega
      rw [e3, e2, cut_zero, Nat.shiftLeft_eq]
      refine ⟨_, rfl, ?_⟩
      have e := pow_split (m.log2 + 1) 53 (by omega)
      rw [show 53 - (m.log2 + 1) = 52 - m.log2 from by omega] at e
      have := Nat.mul_lt_mul_of_pos_right hb.2 (Nat.two_pow_pos (52 - m.log2))
      omega
    · have e3 : ((m.log2 : Int) - 52 - 0).toNat = m.log2 - 52 := by omega
      have e2 : ((0 : Int) - ((m.log2 : Int) - 52)).toNat = 0 := by omega
      rw [e3, e2, Nat.shiftLeft_zero]
      refine ⟨_, rfl, ?_⟩
      have e5 : min (m.log2 - 52) (m.log2 + 2) = m.log2 - 52 := by omega
      simp only [Toward.cut, e5, Nat.one_shiftLeft]
      have hlow : m / 2 ^ (m.log2 - 52) < 9007199254740992 := by
        rw [Nat.div_lt_iff_lt_mul (Nat.two_pow_pos _)]
        have e := pow_split 53 (m.log2 + 1) (by omega)
        rw [show m.log2 + 1 - 53 = m.log2 - 52 from by omega] at e
        omega
      have : ∀ b : Bool, b.toNat ≤ 1 := by intro b; cases b <;> decide
      have := this (decide (2 ^ (m.log2 - 52) < 2 * (m % 2 ^ (m.log2 - 52))) || 2 ^ (m.log2 - 52) == 2 * (m % 2 ^ (m.log2 - 52)) && m / 2 ^ (m.log2 - 52) % 2 == 1)
      omega
  obtain ⟨K, hK, hK2⟩ := hK
  rw [hK]
  clear hK e1 e4 hb h hm
  generalize m.log2 = l at *
  have hR : (l + 1022) * 4503599627370496 + K < 9218868437227405312 := by omega
  rw [Nat.min_eq_left (Nat.le_of_lt hR), read_word _ _ (by omega), if_neg (by omega), if_pos hR]
  exact ⟨_, _, rfl, by omega⟩

/-- The quotient of two whole numbers, the second above nought, is a float that equals itself. -/
theorem div_F (a b : Int) (a1 : 0 ≤ a) (a2 : a < 18446744073709551616) (b1 : 0 < b) (b2 : b < 18446744073709551616) :
    ∃ r, floatBits .quo .f64 (F a) (F b) = some r ∧ (FloatKind.f64.format.order r r == some .eq) = true := by
  obtain ⟨M, j, hM, hM0⟩ := read_big (decide (b < 0)) b.natAbs (by omega) (by omega)
  rw [← F_eq] at hM
  have ha : ∃ N i, double.read (F a) = .number (decide (a < 0)) N i := by
    by_cases h0 : a = 0
    · subst h0; exact ⟨0, -1074, by decide⟩
    · obtain ⟨N, i, hN, _⟩ := read_big (decide (a < 0)) a.natAbs (by omega) (by omega)
      exact ⟨N, i, by rw [F_eq]; exact hN⟩
  obtain ⟨N, i, hN⟩ := ha
  have hd : floatBits .quo .f64 (F a) (F b) = some (double.write (.number (decide (a < 0) ^^ decide (b < 0)) (2 * (N <<< (54 + M.log2 - N.log2) / M) + (N <<< (54 + M.log2 - N.log2) % M != 0).toNat) (i - j - (54 + M.log2 - N.log2 : Nat) - 1))) := by
    show double.div (F a) (F b) = some _
    unfold Format.div
    rw [hN, hM]
    simp only [Datum.quotient, hM0, if_false, Option.map_some, d_frac]
  exact ⟨_, hd, order_self _ (read_nearest_ok _ _ _)⟩

/-! ### A quotient hangs on the ratio alone -/
def sticky (D X : Nat) : Nat := 2 * (D / X) + (D % X != 0).toNat

theorem sticky_mul (D X c : Nat) (h : 0 < c) : sticky (D * c) (X * c) = sticky D X := by
  unfold sticky
  rw [Nat.mul_div_mul_right _ _ h, Nat.mul_mod_mul_right]
  have : (D % X * c != 0) = (D % X != 0) := by
    rw [Bool.eq_iff_iff, bne_iff_ne, bne_iff_ne]
    constructor
    · intro q e; rw [e] at q; simp at q
    · intro q; exact Nat.mul_ne_zero q (by omega)
  rw [this]

theorem cut_parts (F o b t G h f : Nat) (ho : o ≤ 1) (hb : b ≤ 1) (ht : t ≤ 1) (hG : 0 < G) (hF : F = 2 * G * h + f) (hf : f < 2 * G) :
    (2 * F + o) / (4 * G) = h ∧ (4 * F + 2 * b + t) / (8 * G) = h ∧ (2 * F + o) % (4 * G) = 2 * f + o ∧ (4 * F + 2 * b + t) % (8 * G) = 4 * f + 2 * b + t := by
  rw [Nat.mul_assoc] at hF
  have e1 : 2 * F + o = 4 * G * h + (2 * f + o) := by rw [Nat.mul_assoc 4 G h]; omega
  have e2 : 4 * F + 2 * b + t = 8 * G * h + (4 * f + 2 * b + t) := by rw [Nat.mul_assoc 8 G h]; omega
  have l1 : 2 * f + o < 4 * G := by omega
  have l2 : 4 * f + 2 * b + t < 8 * G := by omega
  rw [e1, e2]
  refine ⟨?_, ?_, ?_, ?_⟩
  · rw [Nat.mul_add_div (by omega), Nat.div_eq_of_lt l1]; omega
  · rw [Nat.mul_add_div (by omega), Nat.div_eq_of_lt l2]; omega
  · rw [Nat.mul_add_mod, Nat.mod_eq_of_lt l1]
  · rw [Nat.mul_add_mod, Nat.mod_eq_of_lt l2]

theorem log2_half (n : Nat) (h : 2 ≤ n) : n.log2 = (n / 2).log2 + 1 := by
  rw [Nat.log2_def, if_pos h]

theorem step (D X : Nat) (hX : 0 < X) (hbig : 9007199254740992 ≤ D / (2 * X)) (p : Int) :
    double.nearest false (sticky D (2 * X)) p = double.nearest false (sticky D X) (p - 1) := by
  obtain ⟨Q, hQ⟩ : ∃ Q, Q = D / (2 * X) := ⟨_, rfl⟩
  obtain ⟨b, hb⟩ : ∃ b, b = D / X % 2 := ⟨_, rfl⟩
  obtain ⟨t, ht⟩ : ∃ t, t = (D % X != 0).toNat := ⟨_, rfl⟩
  obtain ⟨o, ho⟩ : ∃ o, o = (D % (2 * X) != 0).toNat := ⟨_, rfl⟩
  have hQ2 : D / X / 2 = Q := by rw [hQ, Nat.div_div_eq_div_mul, Nat.mul_comm]
  have hDX : D / X = 2 * Q + b := by omega
  have hb1 : b ≤ 1 := by omega
  have ht1 : t ≤ 1 := by rw [ht]; cases (D % X != 0) <;> decide
  have ho1 : o ≤ 1 := by rw [ho]; cases (D % (2 * X) != 0) <;> decide
  have hrem : D % (2 * X) = b * X + D % X := by
    have a1 := Nat.div_add_mod D X
    have a2 := Nat.div_add_mod D (2 * X)
    rw [hDX] at a1
    rw [← hQ] at a2
    have a3 : X * (2 * Q + b) = 2 * X * Q + b * X := by rw [Nat.mul_add, Nat.mul_comm b X, ← Nat.mul_assoc, Nat.mul_comm X 2]
    omega
  have hi : o = 0 ↔ (b = 0 ∧ t = 0) := by
    have z : ∀ n : Nat, (n != 0).toNat = 0 ↔ n = 0 := by intro n; cases n <;> simp
    rw [ho, ht, z, z, hrem, Nat.add_eq_zero_iff, Nat.mul_eq_zero]
    constructor
    · rintro ⟨h | h, h'⟩
      · exact ⟨h, h'⟩
      · omega
    · rintro ⟨h, h'⟩; exact ⟨Or.inl h, h'⟩
  have s0 : sticky D (2 * X) = 2 * Q + o := by unfold sticky; rw [← hQ, ← ho]
  have s1 : sticky D X = 4 * Q + 2 * b + t := by unfold sticky; rw [hDX, ← ht]; omega
  rw [s0, s1]
  rw [← hQ] at hbig
  clear s0 s1 hrem ho ht hDX hQ2 hb hQ hX
  have l0 : (2 * Q + o).log2 = Q.log2 + 1 := by rw [log2_half _ (by omega), show (2 * Q + o) / 2 = Q from by omega]
  have l1 : (4 * Q + 2 * b + t).log2 = Q.log2 + 2 := by
    rw [log2_half _ (by omega), show (4 * Q + 2 * b + t) / 2 = 2 * Q + b from by omega, log2_half _ (by omega), show (2 * Q + b) / 2 = Q from by omega]
  have hlog : 53 ≤ Q.log2 := (Nat.le_log2 (by omega)).2 (by omega)
  unfold Format.nearest
  rw [if_neg (by omega), if_neg (by omega)]
  simp only [l0, l1]
  have e : p - 1 + ((Q.log2 + 2 : Nat) : Int) - (double.fractionBits : Int) = p + ((Q.log2 + 1 : Nat) : Int) - (double.fractionBits : Int) := by omega
  rw [e]
  obtain ⟨L, hL⟩ : ∃ L, L = max (p + ((Q.log2 + 1 : Nat) : Int) - (double.fractionBits : Int)) double.leastPlace := ⟨_, rfl⟩
  rw [← hL]
  have hfr : (double.fractionBits : Int) = 52 := rfl
  have hLp : p + 2 ≤ L := by omega
  have a1 : (p - L).toNat = 0 := by omega
  have a2 : (p - 1 - L).toNat = 0 := by omega
  have a3 : (L - (p - 1)).toNat = (L - p).toNat + 1 := by omega
  rw [a1, a2, a3, Nat.shiftLeft_zero, Nat.shiftLeft_zero]
  obtain ⟨d, hd⟩ : ∃ d, d = (L - p).toNat := ⟨_, rfl⟩
  rw [← hd]
  have hd2 : 2 ≤ d := by omega
  have key : Toward.even.cut false (2 * Q + o) d = Toward.even.cut false (4 * Q + 2 * b + t) (d + 1) := by
    have g0 : min (d + 1) (Q.log2 + 2 + 2) = min d (Q.log2 + 1 + 2) + 1 := by omega
    simp only [Toward.cut, l0, l1, Nat.one_shiftLeft, g0]
    obtain ⟨u, hu⟩ : ∃ u, min d (Q.log2 + 1 + 2) = u + 2 := ⟨min d (Q.log2 + 1 + 2) - 2, by omega⟩
    rw [hu]
    obtain ⟨G, hG⟩ : ∃ G, G = 2 ^ u := ⟨_, rfl⟩
    have hGp : 0 < G := by rw [hG]; exact Nat.two_pow_pos _
    have p1 : 2 ^ (u + 2) = 4 * G := by rw [Nat.pow_add, hG]; omega
    have p2 : 2 ^ (u + 2 + 1) = 8 * G := by rw [Nat.pow_succ, p1]; omega
    rw [p1, p2]
    obtain ⟨c1, c2, c3, c4⟩ := cut_parts Q o b t G (Q / (2 * G)) (Q % (2 * G)) ho1 hb1 ht1 hGp (Nat.div_add_mod _ _).symm (Nat.mod_lt _ (by omega))
    rw [c1, c2, c3, c4]
    have f1 : decide (4 * G < 2 * (2 * (Q % (2 * G)) + o)) = decide (8 * G < 2 * (4 * (Q % (2 * G)) + 2 * b + t)) := by
      rw [decide_eq_decide]; omega
    have f2 : (4 * G == 2 * (2 * (Q % (2 * G)) + o)) = (8 * G == 2 * (4 * (Q % (2 * G)) + 2 * b + t)) := by
      rw [Bool.eq_iff_iff, beq_iff_eq, beq_iff_eq]; omega
    rw [f1, f2]
  rw [key]

theorem log2_of (m k : Nat) (h1 : 2 ^ k ≤ m) (h2 : m < 2 ^ (k + 1)) : m.log2 = k := by
  have hp : 0 < 2 ^ k := Nat.two_pow_pos k
  have h0 : m ≠ 0 := by omega
  have a := (Nat.log2_lt h0).2 h2
  have b := (Nat.le_log2 h0).2 h1
  omega

theorem log2_norm (m : Nat) (h : m ≠ 0) (hm : m < 9007199254740992) : (m * 2 ^ (52 - m.log2)).log2 = 52 := by
  have hl : m.log2 < 53 := (Nat.log2_lt h).2 (by omega)
  rw [log2_mul_pow _ _ h]; omega

theorem div_read (m n : Nat) (hm : m ≠ 0) (hn : n ≠ 0) (m2 : m < 9007199254740992) (n2 : n < 9007199254740992) :
    floatBits .quo .f64 (F m) (F n) = some (double.nearest false (sticky (m * 2 ^ (52 - m.log2) * 18014398509481984) (n * 2 ^ (52 - n.log2))) (-((52 - m.log2 : Nat) : Int) - -((52 - n.log2 : Nat) : Int) - 55)) := by
  have r1 : double.read (F m) = .number false (m * 2 ^ (52 - m.log2)) (-((52 - m.log2 : Nat) : Int)) := by rw [F_eq, decide_eq_false (by omega), Int.natAbs_natCast]; exact read_small false m hm m2
  have r2 : double.read (F n) = .number false (n * 2 ^ (52 - n.log2)) (-((52 - n.log2 : Nat) : Int)) := by rw [F_eq, decide_eq_false (by omega), Int.natAbs_natCast]; exact read_small false n hn n2
  have hp : 0 < 2 ^ (52 - n.log2) := Nat.two_pow_pos _
  have h0 : n * 2 ^ (52 - n.log2) ≠ 0 := Nat.mul_ne_zero hn (by omega)
  show double.div (F m) (F n) = some _
  unfold Format.div
  rw [r1, r2]
  simp only [Datum.quotient, h0, if_false, Option.map_some, Format.write, d_frac, log2_norm m hm m2, log2_norm n hn n2, Nat.shiftLeft_eq, Bool.xor_self]
  unfold sticky
  congr 2
  omega

/-- One over n, reckoned at c over n*c. -/
theorem div_ratio (n c : Nat) (hn : n ≠ 0) (hc : c ≠ 0) (h : n * c < 9007199254740992) :
    floatBits .quo .f64 (F c) (F ((n * c : Nat) : Int)) = floatBits .quo .f64 (F 1) (F n) := by
  have hnc : n * c ≠ 0 := Nat.mul_ne_zero hn hc
  have hn2 : n < 9007199254740992 := Nat.lt_of_le_of_lt (Nat.le_mul_of_pos_right n (by omega)) h
  have hc2 : c < 9007199254740992 := Nat.lt_of_le_of_lt (Nat.le_mul_of_pos_left c (by omega)) h
  have d1 := div_read c (n * c) hc hnc hc2 h
  have d2 := div_read 1 n (by decide) hn (by omega) hn2
  rw [d1]
  rw [Int.natCast_one] at d2
  rw [d2]
  have bc := log2_bounds c hc
  have bn := log2_bounds n hn
  have lnc : (n * c).log2 < 53 := (Nat.log2_lt hnc).2 (by omega)
  have l1 : (1 : Nat).log2 = 0 := by decide
  rw [l1, Nat.sub_zero, Nat.one_mul]
  refine congrArg some ?_
  have lo : 2 ^ (n.log2 + c.log2) ≤ n * c := by rw [Nat.pow_add]; exact Nat.mul_le_mul bn.1 bc.1
  have hi : n * c < 2 ^ (n.log2 + c.log2 + 2) := by
    have : 2 ^ (n.log2 + c.log2 + 2) = 2 ^ (n.log2 + 1) * 2 ^ (c.log2 + 1) := by rw [← Nat.pow_add, show n.log2 + 1 + (c.log2 + 1) = n.log2 + c.log2 + 2 from by omega]
    rw [this]
    exact Nat.mul_lt_mul'' bn.2 bc.2
  have pc : 0 < 2 ^ c.log2 := Nat.two_pow_pos _
  -- both sides over the dividend c * 2^52 * 2^54
  have eN : c * 2 ^ (52 - c.log2) * 2 ^ c.log2 = 2 ^ 52 * c := by
    have hle : c.log2 ≤ n.log2 + c.log2 := by omega
    have : c.log2 ≤ (n * c).log2 := by
      refine (Nat.le_log2 hnc).2 (Nat.le_trans ?_ lo)
      exact Nat.pow_le_pow_right (by decide) hle
    have := pow_split c.log2 52 (by omega)
    rw [Nat.mul_assoc, Nat.mul_comm (2 ^ (52 - c.log2)), ← this, Nat.mul_comm]
  have left : sticky (c * 2 ^ (52 - c.log2) * 18014398509481984) (n * c * 2 ^ (52 - (n * c).log2)) = sticky (2 ^ 52 * c * 18014398509481984) (n * c * 2 ^ (52 - (n * c).log2) * 2 ^ c.log2) := by
    rw [← sticky_mul _ _ _ pc, ← eN, Nat.mul_assoc _ 18014398509481984, Nat.mul_comm 18014398509481984, ← Nat.mul_assoc]
  have right : sticky (2 ^ 52 * 18014398509481984) (n * 2 ^ (52 - n.log2)) = sticky (2 ^ 52 * c * 18014398509481984) (n * 2 ^ (52 - n.log2) * c) := by
    rw [← sticky_mul _ _ c (by omega), Nat.mul_assoc _ 18014398509481984, Nat.mul_comm 18014398509481984, ← Nat.mul_assoc]
  rw [left, right]
  have ln : n.log2 + c.log2 ≤ (n * c).log2 := (Nat.le_log2 hnc).2 lo
  have ln2 : (n * c).log2 < n.log2 + c.log2 + 2 := (Nat.log2_lt hnc).2 hi
  by_cases cs : (n * c).log2 = n.log2 + c.log2
  · have eX : n * c * 2 ^ (52 - (n * c).log2) * 2 ^ c.log2 = n * 2 ^ (52 - n.log2) * c := by
      rw [Nat.mul_assoc, ← Nat.pow_add, show 52 - (n * c).log2 + c.log2 = 52 - n.log2 from by omega]; ac_rfl
    rw [eX, show -((52 - c.log2 : Nat) : Int) - -((52 - (n * c).log2 : Nat) : Int) - 55 = -((52 : Nat) : Int) - -((52 - n.log2 : Nat) : Int) - 55 from by omega]
  · have eX : n * 2 ^ (52 - n.log2) * c = 2 * (n * c * 2 ^ (52 - (n * c).log2) * 2 ^ c.log2) := by
      have : 2 ^ (52 - n.log2) = 2 * (2 ^ (52 - (n * c).log2) * 2 ^ c.log2) := by
        rw [← Nat.pow_add, ← Nat.pow_succ', show (52 - (n * c).log2 + c.log2).succ = 52 - n.log2 from by omega]
      rw [this]; ac_rfl
    have hX : 0 < n * c * 2 ^ (52 - (n * c).log2) * 2 ^ c.log2 :=
      Nat.mul_pos (Nat.mul_pos (Nat.pos_of_ne_zero hnc) (Nat.two_pow_pos _)) (Nat.two_pow_pos _)
    have hbig : 9007199254740992 ≤ (2 ^ 52 * c * 18014398509481984) / (2 * (n * c * 2 ^ (52 - (n * c).log2) * 2 ^ c.log2)) := by
      rw [Nat.le_div_iff_mul_le (by omega), ← eX]
      have b2 : n * 2 ^ (52 - n.log2) ≤ 9007199254740992 := by
        have e := pow_split (n.log2 + 1) 53 (by omega)
        rw [show 53 - (n.log2 + 1) = 52 - n.log2 from by omega] at e
        have := Nat.mul_le_mul_right (2 ^ (52 - n.log2)) (Nat.le_of_lt bn.2)
        omega
      have b3 := Nat.mul_le_mul_right c b2
      generalize n * 2 ^ (52 - n.log2) * c = Y at *
      omega
    rw [eX, step _ _ hX hbig, show -((52 - c.log2 : Nat) : Int) - -((52 - (n * c).log2 : Nat) : Int) - 55 = -((52 : Nat) : Int) - -((52 - n.log2 : Nat) : Int) - 55 - 1 from by omega]
end Go.Proofs.Qxb6623515a
