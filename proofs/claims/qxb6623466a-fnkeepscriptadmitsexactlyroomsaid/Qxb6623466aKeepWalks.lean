import Derived.Test.Qxb6623466aRows
import Derived.WalkKit
import Derived.WalkSpells
import Derived.WalkLawsBesides
import Derived.Deep.QuietTactic
import Derived.BigQuiet
namespace Go.Proofs.Qxb6623466a
open Go.RowKit

set_option maxHeartbeats 400000 in
theorem bytes_yes (a b c : Int) (s : Option Addr) (len cap : Nat) (w : World) (h : len ≤ 1048576) :
    Calls Try.prog 4 #[.int .i64 a, .int .i64 b, .int .i64 c, .slice s len cap] w fun e w' => e = .returned (.bool true) ∧ w' = w := by
  go_enter Try.func4, Try.ntmps4
  go_wp2
  go_ret
  exact ⟨rfl, rfl⟩

set_option maxHeartbeats 400000 in
theorem bytes_no (a b c : Int) (s : Option Addr) (len cap : Nat) (w : World) (h : 1048576 < len) :
    Calls Try.prog 4 #[.int .i64 a, .int .i64 b, .int .i64 c, .slice s len cap] w fun e w' => e = .returned (.bool false) ∧ w' = w := by
  go_enter Try.func4, Try.ntmps4
  go_wp2
  go_ret
  exact ⟨rfl, rfl⟩

theorem ret_int {k : IntKind} {a b : Int} (h : a = b) : Ending.returned (.int k a) = .returned (.int k b) := by rw [h]
theorem ret_bool {a b : Bool} (h : a = b) : Ending.returned (.bool a) = .returned (.bool b) := by rw [h]

set_option maxHeartbeats 400000 in
theorem min_any (a b : Int) (w : World) :
    Calls Try.prog 8 #[.int .i64 a, .int .i64 b] w fun e w' => e = .returned (.int .i64 (min a b)) ∧ w' = w := by
  by_cases h : a < b
  · go_enter Try.func8, Try.ntmps8
    go_wp2
    go_ret
    exact ⟨ret_int (by omega), rfl⟩
  · go_enter Try.func8, Try.ntmps8
    go_wp2
    go_ret
    exact ⟨ret_int (by omega), rfl⟩

/-- What block b holds: the two counts, both writable. -/
structure Pd (w : World) (b : Nat) (p c : Int) : Prop where
  cp : w.cell? ⟨b, 35, none⟩ = some (.int .i64 p)
  cc : w.cell? ⟨b, 36, none⟩ = some (.int .i64 c)
  fp : w.frozen? ⟨b, 35, none⟩ = false
  fc : w.frozen? ⟨b, 36, none⟩ = false

set_option maxHeartbeats 400000 in
theorem new_any (a b : Int) (w : World) :
    Calls Try.prog 5 #[.int .i64 a, .int .i64 b] w fun e w' => e = .returned (.pointer (some ⟨w.heap.size, 0, none⟩)) ∧ Pd w' w.heap.size a b ∧ Below w.heap.size w w' := by
  go_enter Try.func5, Try.ntmps5
  go_wp2
  go_ret
  refine ⟨rfl, ⟨?_, ?_, ?_, ?_⟩, (Below.refl _ _).alloc (Nat.le_refl _) _⟩
  all_goals (first | simp [World.cell?_alloc_new] | simp [World.cell?, World.frozen?])

theorem pd_setP {w : World} {b : Nat} {p c q : Int} (h : Pd w b p c) : Pd (w.setCell ⟨b, 35, none⟩ (.int .i64 q)) b q c := by
  obtain ⟨h1, h2, h3, h4⟩ := h
  refine ⟨?_, ?_, ?_, ?_⟩
  all_goals (first | (simp [go_sem, *]; done))
theorem pd_setC {w : World} {b : Nat} {p c q : Int} (h : Pd w b p c) : Pd (w.setCell ⟨b, 36, none⟩ (.int .i64 q)) b p q := by
  obtain ⟨h1, h2, h3, h4⟩ := h
  refine ⟨?_, ?_, ?_, ?_⟩
  all_goals (first | (simp [go_sem, *]; done))

def kept (f peers p c : Int) : Bool := if f = -1 then true else if f = -2 then decide (c < 8) else decide (p < 9 * peers)
def nextP (f peers p : Int) : Int := if f = -1 then p else if f = -2 then p else if p < 9 * peers then p + 1 else p
def nextC (f c : Int) : Int := if f = -2 then (if c < 8 then c + 1 else c) else c

set_option maxHeartbeats 400000 in
theorem keep_any (b : Nat) (f peers p c : Int) (w : World) (h0 : 0 ≤ peers) (h1 : peers ≤ 134217728) (hp : 0 ≤ p) (hc : 0 ≤ c) (h : Pd w b p c) :
    Calls Try.prog 9 #[.pointer (some ⟨b, 0, none⟩), .int .i64 f, .int .i64 peers] w fun e w' => e = .returned (.bool (kept f peers p c)) ∧ Pd w' b (nextP f peers p) (nextC f c) ∧ Below b w w' := by
  have hH : Hid (Pd w b p c) := h
  obtain ⟨k1, k2, k3, k4⟩ := h
  by_cases e1 : f = -1
  · subst e1
    go_enter Try.func9, Try.ntmps9
    go_wp2
    go_ret
    exact ⟨rfl, by simpa [nextP, nextC] using hH.out, Below.refl _ _⟩
  · have e1' : (f == -1) = false := by simpa using e1
    by_cases e2 : f = -2
    · subst e2
      by_cases e3 : c < 8
      · go_enter Try.func9, Try.ntmps9
        go_wp2
        go_ret
        refine ⟨ret_bool (by simp [kept, e3]), ?_, (Below.refl b w).setCell (p := ⟨b, 36, none⟩) (Nat.le_refl _) _⟩
        have := pd_setC (q := c + 1) hH.out
        simpa [nextP, nextC, e3] using this
      · go_enter Try.func9, Try.ntmps9
        go_wp2
        go_ret
        have e4 : ¬ c < 8 := by omega
        exact ⟨ret_bool (by simp [kept, e4]), by simpa [nextP, nextC, e4] using hH.out, Below.refl _ _⟩
    · have e2' : (f == -2) = false := by simpa using e2
      by_cases e3 : p < 9 * peers
      · go_enter Try.func9, Try.ntmps9
        go_wp2
        go_ret
        refine ⟨ret_bool (by simp [kept, e1, e2, e3]), ?_, (Below.refl b w).setCell (p := ⟨b, 35, none⟩) (Nat.le_refl _) _⟩
        have := pd_setP (q := p + 1) hH.out
        simpa [nextP, nextC, e1, e2, e3] using this
      · go_enter Try.func9, Try.ntmps9
        go_wp2
        go_ret
        have e4 : ¬ p < 9 * peers := by omega
        exact ⟨ret_bool (by simp [kept, e1, e2, e4]), by simpa [nextP, nextC, e1, e2, e4] using hH.out, Below.refl _ _⟩

set_option maxHeartbeats 400000 in
theorem zkeep_any (b : Nat) (f peers p c : Int) (w : World) (h0 : 0 ≤ peers) (h1 : peers ≤ 134217728) (hp : 0 ≤ p) (hc : 0 ≤ c) (h : Pd w b p c) :
    Calls Try.prog 6 #[.pointer (some ⟨b, 0, none⟩), .int .i64 f, .int .i64 peers] w fun e w' => e = .returned (.bool (kept f peers p c)) ∧ Pd w' b (nextP f peers p) (nextC f c) ∧ Below b w w' := by
  go_enter Try.func6, Try.ntmps6
  go_wp2_with (go_at_call 9; refine (keep_any b f peers p c _ h0 h1 hp hc h).mono ?_; rintro e w' ⟨rfl, hpd, hb⟩)
  go_ret
  exact ⟨rfl, hpd, hb⟩

set_option maxHeartbeats 400000 in
theorem counts_any (b : Nat) (p c : Int) (w : World) (h : Pd w b p c) :
    Calls Try.prog 7 #[.pointer (some ⟨b, 0, none⟩)] w fun e w' => e = .returned (.tuple #[.int .i64 p, .int .i64 c]) ∧ ∃ n, w' = w.drewN n := by
  obtain ⟨k1, k2, k3, k4⟩ := h
  go_enter Try.func7, Try.ntmps7
  go_wp2
  go_quiet (fail)
  go_wp2
  go_ret2
  exact ⟨rfl, _, rfl⟩

end Go.Proofs.Qxb6623466a
