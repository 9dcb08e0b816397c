/- From the reading of the argument to what it holds. -/
import Derived.Test.Qxb6617226aCls
import Derived.ProofKit
import Derived.Deep.Slices
import Derived.Deep.SlicePairs
namespace Go.Proofs.Qxb6617226a
open Go.ChangeShapes Go.WideShapes Go.RowKit

section
variable {H : Type} {enc : TypeId × Value → H} {w : World} {spare : Nat → Bool} {held : Bool}

theorem cells_plain {a : Addr} {n : Nat} {V : Nat → Value} (h : ∀ i, i < n → w.cell? (a.add i) = some (V i)) : ∀ i, i < n → ∃ b off, some a = some (⟨b, off, none⟩ : Addr) ∧ w.cell? ⟨b, off + i, none⟩ = some (V i) := by
  intro i hi
  obtain ⟨b, off, spot⟩ := a
  have hspot : spot = none := by simpa [Addr.add] using World.cell?_spot (h 0 (by omega))
  subst hspot
  exact ⟨b, off, rfl, by rw [← add_plain]; exact h i hi⟩

theorem open_C0 {fuel : Nat} {cs : List Value} {x : DataW H × List MemPlace} (h : DataW.trod enc Try.prog w 0 spare held fuel 58 cs = some x) : ∃ v L, cs = [v] ∧ C0 w v L := by
  rcases Deep.open_slice_pairs Try.underlying58 Try.underlying60 (by kernel_rfl) rfl rfl (by kernel_rfl) (by kernel_rfl) h with ⟨rfl, _⟩ | ⟨a, len, cap, m, n, V0, V1, D0, D1, P0, P1, rfl, _, hl, hm, hmm, _, hx⟩
  · exact ⟨_, [], rfl, none, 0, rfl, by simp, fun k hk => absurd hk (Nat.not_lt_zero _)⟩
  · have hlm : len ≤ m := by rw [hmm]; split <;> omega
    obtain ⟨f, hf⟩ := Deep.choose_lt (α := Cl) (n := len) (p := fun i c => V0 i = .string c.1 ∧ V1 i = .bool c.2 ∧ c.1.size ≤ maxLen) (fun i hi => by
      obtain ⟨_, _, h3, h4⟩ := hx i (by omega)
      obtain ⟨s, hs, _, hsz⟩ := DataW.trod_string Try.underlying9 h3
      obtain ⟨b, hb, _⟩ := DataW.trod_bool Try.underlying4 h4
      exact ⟨(s, b), by simpa using hs, by simpa using hb, hsz⟩)
    refine ⟨_, (List.range len).map f, rfl, some a, cap, by simp, by simp; unfold maxLen at hm; omega, fun k hk => ?_⟩
    have hk' : k < len := by simpa using hk
    have e : ((List.range len).map f).getD k (ByteArray.empty, false) = f k := by simp [List.getD_eq_getElem?_getD, hk']
    obtain ⟨f1, f2, f3⟩ := hf k hk'
    obtain ⟨b, off, spot⟩ := a
    have hspot : spot = none := by simpa [Addr.add] using World.cell?_spot (hx 0 (by omega)).1
    subst hspot
    refine ⟨b, off, rfl, ?_, ?_, ?_⟩
    · unfold nm; rw [e, ← f1, ← add_plain]; exact (hx k (by omega)).1
    · unfold ns; rw [e, ← f2, Nat.add_assoc, ← add_plain]; exact (hx k (by omega)).2.1
    · unfold nm; rw [e]; unfold maxLen at f3; omega

theorem open_C1 {fuel : Nat} {cs : List Value} {x : DataW H × List MemPlace} (h : DataW.trod enc Try.prog w 0 spare held fuel 57 cs = some x) : ∃ v M, cs = [v] ∧ C1 w v M := by
  rcases Deep.open_slice1 Try.underlying57 (by kernel_rfl) h with ⟨rfl, _⟩ | ⟨a, len, cap, m, n, V, D, Pl, rfl, _, hl, hm, hmm, _, hx⟩
  · exact ⟨_, [], rfl, none, 0, rfl, by simp, fun k hk => absurd hk (Nat.not_lt_zero _)⟩
  · have hlm : len ≤ m := by rw [hmm]; split <;> omega
    obtain ⟨f, hf⟩ := Deep.choose_lt (α := List Cl) (n := len) (p := fun i L => C0 w (V i) L) (fun i hi => by
      obtain ⟨_, h2⟩ := hx i (by omega)
      obtain ⟨v, L, hv, hL⟩ := open_C0 h2
      have : V i = v := by simpa using hv
      exact ⟨L, by rw [this]; exact hL⟩)
    refine ⟨_, (List.range len).map f, rfl, some a, cap, by simp, by simp; unfold maxLen at hm; omega, fun k hk => ?_⟩
    have hk' : k < len := by simpa using hk
    have e : at1 ((List.range len).map f) k = f k := by unfold at1; simp [List.getD_eq_getElem?_getD, hk']
    obtain ⟨b, off, ha, hc⟩ := cells_plain (n := len) (fun i hi => (hx i (by omega)).1) k hk'
    exact ⟨b, off, V k, ha, hc, by rw [e]; exact hf k hk'⟩

theorem open_C2 {fuel : Nat} {cs : List Value} {x : DataW H × List MemPlace} (h : DataW.trod enc Try.prog w 0 spare held fuel 46 cs = some x) : ∃ v P, cs = [v] ∧ C2 w v P := by
  rcases Deep.open_slice1 Try.underlying46 (by kernel_rfl) h with ⟨rfl, _⟩ | ⟨a, len, cap, m, n, V, D, Pl, rfl, _, hl, hm, hmm, _, hx⟩
  · exact ⟨_, [], rfl, none, 0, rfl, by simp, fun k hk => absurd hk (Nat.not_lt_zero _)⟩
  · have hlm : len ≤ m := by rw [hmm]; split <;> omega
    obtain ⟨f, hf⟩ := Deep.choose_lt (α := List (List Cl)) (n := len) (p := fun i L => C1 w (V i) L) (fun i hi => by
      obtain ⟨_, h2⟩ := hx i (by omega)
      obtain ⟨v, L, hv, hL⟩ := open_C1 h2
      have : V i = v := by simpa using hv
      exact ⟨L, by rw [this]; exact hL⟩)
    refine ⟨_, (List.range len).map f, rfl, some a, cap, by simp, by simp; unfold maxLen at hm; omega, fun k hk => ?_⟩
    have hk' : k < len := by simpa using hk
    have e : at2 ((List.range len).map f) k = f k := by unfold at2; simp [List.getD_eq_getElem?_getD, hk']
    obtain ⟨b, off, ha, hc⟩ := cells_plain (n := len) (fun i hi => (hx i (by omega)).1) k hk'
    exact ⟨b, off, V k, ha, hc, by rw [e]; exact hf k hk'⟩
end
end Go.Proofs.Qxb6617226a
