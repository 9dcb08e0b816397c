/- The accessors, ZZSettle, and a longer eqStrings. -/
import Derived.Test.Qxb6617226aSettle
namespace Go.Proofs.Qxb6617226a
open Go.RowKit

section
variable (nm ow : ByteArray) (c : Bool) (r : Int) (ra : Option Addr) (n rc : Nat) (w : World)
set_option maxHeartbeats 400000 in
theorem acc19 : Calls Try.prog 19 #[.agg #[.string nm, .string ow, .bool c, .int .i64 r, .slice ra n rc]] w fun e w' => e = .returned (.string nm) ∧ Below w.heap.size w w' := by
  have R : Hid (Below w.heap.size w (w.alloc (.cells #[.string nm, .string ow, .bool c, .int .i64 r, .slice ra n rc] 39))) := (Below.refl _ _).alloc (Nat.le_refl _) _
  go_enter Try.func19, Try.ntmps19
  go_wp2
  go_ret
  exact ⟨rfl, R.out⟩
set_option maxHeartbeats 400000 in
theorem acc20 : Calls Try.prog 20 #[.agg #[.string nm, .string ow, .bool c, .int .i64 r, .slice ra n rc]] w fun e w' => e = .returned (.string ow) ∧ Below w.heap.size w w' := by
  have R : Hid (Below w.heap.size w (w.alloc (.cells #[.string nm, .string ow, .bool c, .int .i64 r, .slice ra n rc] 39))) := (Below.refl _ _).alloc (Nat.le_refl _) _
  go_enter Try.func20, Try.ntmps20
  go_wp2
  go_ret
  exact ⟨rfl, R.out⟩
set_option maxHeartbeats 400000 in
theorem acc21 : Calls Try.prog 21 #[.agg #[.string nm, .string ow, .bool c, .int .i64 r, .slice ra n rc]] w fun e w' => e = .returned (.bool c) ∧ Below w.heap.size w w' := by
  have R : Hid (Below w.heap.size w (w.alloc (.cells #[.string nm, .string ow, .bool c, .int .i64 r, .slice ra n rc] 39))) := (Below.refl _ _).alloc (Nat.le_refl _) _
  go_enter Try.func21, Try.ntmps21
  go_wp2
  go_ret
  exact ⟨rfl, R.out⟩
set_option maxHeartbeats 400000 in
theorem acc22 : Calls Try.prog 22 #[.agg #[.string nm, .string ow, .bool c, .int .i64 r, .slice ra n rc]] w fun e w' => e = .returned (.int .i64 r) ∧ Below w.heap.size w w' := by
  have R : Hid (Below w.heap.size w (w.alloc (.cells #[.string nm, .string ow, .bool c, .int .i64 r, .slice ra n rc] 39))) := (Below.refl _ _).alloc (Nat.le_refl _) _
  go_enter Try.func22, Try.ntmps22
  go_wp2
  go_ret
  exact ⟨rfl, R.out⟩
set_option maxHeartbeats 400000 in
theorem acc25 : Calls Try.prog 25 #[.agg #[.string nm, .string ow, .bool c, .int .i64 r, .slice ra n rc]] w fun e w' => e = .returned (.slice ra n rc) ∧ Below w.heap.size w w' := by
  have R : Hid (Below w.heap.size w (w.alloc (.cells #[.string nm, .string ow, .bool c, .int .i64 r, .slice ra n rc] 39))) := (Below.refl _ _).alloc (Nat.le_refl _) _
  go_enter Try.func25, Try.ntmps25
  go_wp2
  go_ret
  exact ⟨rfl, R.out⟩
end

set_option maxHeartbeats 400000 in
theorem eqStrings_long (a b : Option Addr) (n ca cb : Nat) (xs : List ByteArray) (w : World) (hn : Hid (xs.length = n)) (hl : n ≤ 2097152) (ha : Hid (SRow w a xs)) (hb : Hid (SRow w b xs)) :
    Calls Try.prog 24 #[.slice a n ca, .slice b n cb] w fun e w' => e = .returned (.bool true) ∧ Below w.heap.size w w' := by
  have d1 : ((n : Int) != (n : Int)) = false := by simp
  go_enter Try.func24, Try.ntmps24
  go_wp2
  go_loopw [5] (fun i wr => ∃ k : Nat, k ≤ n ∧ i = .int .i64 k ∧ Hid (SRow wr a xs) ∧ Hid (SRow wr b xs) ∧ Below w.heap.size w wr) (fun i _ => n - (intOf i).toNat)
  case atStart => exact ⟨0, Nat.zero_le _, rfl, ha, hb, Below.refl _ _⟩
  case round =>
    obtain ⟨k, hk, rfl, hA, hB, hw⟩ := hrel
    by_cases hlt : k < n
    · obtain ⟨b1, o1, rfl, hc1⟩ := hA.out k (by rw [hn.out]; exact hlt)
      obtain ⟨b2, o2, rfl, hc2⟩ := hB.out k (by rw [hn.out]; exact hlt)
      have e1 : (k : Int) < n := by omega
      go_wp2_with fail
      go_quiet (fail)
      go_wp2
      go_roundw
      case rel => exact ⟨k + 1, by omega, by go_num, SRow.drewN hA.out _, SRow.drewN hB.out _, below_drewN hw _⟩
      case measure => simp [intOf]; omega
    · go_wp2
      go_ret
      exact ⟨rfl, hw⟩

/-- What settle leaves, told of the settled row. -/
theorem zsettle17 (g : Nat) (cs : List Cm) (F : Nat → Value) (n : Nat) (w : World) (hn : Hid (cs.length = n)) (hl : n ≤ 4096) (hB : Hid (BK w (.slice (some ⟨g, 0, none⟩) n n) cs F))
    (hlo : Hid (∀ i, i < n → -9223372036854775808 ≤ (cat cs i).rank ∧ (cat cs i).rank ≤ 9223372036854775807)) (hz : Hid (∀ i, i < n → (cat cs i).name.size ≤ 1048576)) (hrl : Hid (∀ i, i < n → (cat cs i).rivals.length ≤ 1048576)) :
    Calls Try.prog 17 #[.slice (some ⟨g, 0, none⟩) n n] w fun e w' => e = .returned (.tuple #[]) ∧ Hid (∃ F', BK w' (.slice (some ⟨g, 0, none⟩) n n) (stl cs n) F' ∧ Fr w w' g F n F') := by
  go_enter Try.func17, Try.ntmps17
  go_wp2_with (go_at_call 38; refine (settle38 g cs F n _ hn hl hB hlo hz hrl).mono ?_; rintro e w1 ⟨rfl, hm⟩)
  exact bodyPost_end (results_none rfl _ _ _) rfl ⟨rfl, hm⟩

theorem BK.below {w w' : World} {v : Value} {cs : List Cm} {F : Nat → Value} (h : BK w v cs F) (hb : Below w.heap.size w w') : BK w' v cs F := by
  obtain ⟨g, hv, hr, hk⟩ := h
  exact ⟨g, hv, hr.of_block (hb.block _ hr.lt), hk.kept (fun b _ hlt => hb.block b hlt)⟩
theorem BK.parts {w : World} {g n : Nat} {cs : List Cm} {F : Nat → Value} (h : BK w (.slice (some ⟨g, 0, none⟩) n n) cs F) (hn : cs.length = n) : w.rowIs g 39 (n * 5) (ccell cs F n) ∧ Riv w (g + 1) cs F n := by
  obtain ⟨g', hv, hr, hk⟩ := h
  rw [hn] at hv hr hk
  simp only [Value.slice.injEq, Option.some.injEq, Addr.mk.injEq, and_true] at hv
  rw [hv]; exact ⟨hr, hk⟩
/-- The row's frame, where the row lies behind B. -/
theorem Fr.belowB {w0 w : World} {g n B : Nat} {F F1 : Nat → Value} (h : Fr w0 w g F n F1) (hB : B ≤ g) (hs : B ≤ w0.heap.size) (hF : ∀ i, i < n → ∀ b, (F i).ownBlock = some b → B ≤ b) : Below B w0 w :=
  ⟨h.os, h.tape, h.output, h.size, fun b hb => h.block b (by omega) (by omega) (fun i hi e => by have := hF i hi b e; omega)⟩
theorem Riv.low {w : World} {B : Nat} {cs : List Cm} {F : Nat → Value} {n : Nat} (h : Riv w B cs F n) : ∀ i, i < n → ∀ b, (F i).ownBlock = some b → B ≤ b := fun i hi b hb => (World.ownsRow.lt (h.1 i hi) b hb).1
theorem stl_full {cs : List Cm} {n i : Nat} (hn : cs.length = n) (h : i < n) : cat (stl cs n) i = { name := sat (aft cs) i, owner := (cat cs i).owner, cst := (cat cs i).cst, rank := (cat cs i).rank, rivals := (cat cs i).rivals ++ own cs i (grp cs i) } := by
  subst hn
  rw [stl_at h, if_pos h, aft, names_at]
  have h1 := stl_owner (k := 0) h
  have h2 := ren_cst cs (rn cs) i
  have h3 := ren_rank cs (rn cs) i
  have h4 := ren_riv cs (rn cs) i
  rw [stl_zero] at h1
  unfold withR
  rw [h1, h2, h3, h4]
end Go.Proofs.Qxb6617226a
