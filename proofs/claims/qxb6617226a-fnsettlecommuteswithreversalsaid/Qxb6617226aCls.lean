/- What the argument [][][]Cls holds, and plain facts on it. -/
import Derived.Test.Qxb6617226aRows
import Derived.WalkKit
import Derived.WalkSpells
import Derived.WalkLawsBesides
import Derived.Deep.QuietTactic
import Derived.BigQuiet
namespace Go.Proofs.Qxb6617226a
open Go.RowKit

abbrev Cl := ByteArray × Bool
def at2 (P : List (List (List Cl))) (i : Nat) : List (List Cl) := P.getD i []
def at1 (M : List (List Cl)) (j : Nat) : List Cl := M.getD j []
def nm (L : List Cl) (k : Nat) : ByteArray := (L.getD k (ByteArray.empty, false)).1
def ns (L : List Cl) (k : Nat) : Bool := (L.getD k (ByteArray.empty, false)).2

def C0 (w : World) (v : Value) (L : List Cl) : Prop :=
  ∃ a cap, v = .slice a L.length cap ∧ L.length ≤ 9223372036854775807 ∧ ∀ k, k < L.length → ∃ b off, a = some ⟨b, off, none⟩ ∧
    w.cell? ⟨b, off + k * 2, none⟩ = some (.string (nm L k)) ∧ w.cell? ⟨b, off + k * 2 + 1, none⟩ = some (.bool (ns L k)) ∧ (nm L k).size ≤ 9223372036854775807
def C1 (w : World) (v : Value) (M : List (List Cl)) : Prop :=
  ∃ a cap, v = .slice a M.length cap ∧ M.length ≤ 9223372036854775807 ∧ ∀ j, j < M.length → ∃ b off u, a = some ⟨b, off, none⟩ ∧
    w.cell? ⟨b, off + j, none⟩ = some u ∧ C0 w u (at1 M j)
def C2 (w : World) (v : Value) (P : List (List (List Cl))) : Prop :=
  ∃ a cap, v = .slice a P.length cap ∧ P.length ≤ 9223372036854775807 ∧ ∀ i, i < P.length → ∃ b off u, a = some ⟨b, off, none⟩ ∧
    w.cell? ⟨b, off + i, none⟩ = some u ∧ C1 w u (at2 P i)

theorem C0.below {w w' : World} {v : Value} {L : List Cl} (h : C0 w v L) (hb : Below w.heap.size w w') : C0 w' v L := by
  obtain ⟨a, cap, hv, hl, hk⟩ := h
  refine ⟨a, cap, hv, hl, fun k h => ?_⟩
  obtain ⟨b, off, ha, h1, h2, h3⟩ := hk k h
  exact ⟨b, off, ha, cell_later hb h1, cell_later hb h2, h3⟩
theorem C1.below {w w' : World} {v : Value} {M : List (List Cl)} (h : C1 w v M) (hb : Below w.heap.size w w') : C1 w' v M := by
  obtain ⟨a, cap, hv, hl, hk⟩ := h
  refine ⟨a, cap, hv, hl, fun k h => ?_⟩
  obtain ⟨b, off, u, ha, h1, h2⟩ := hk k h
  exact ⟨b, off, u, ha, cell_later hb h1, h2.below hb⟩
theorem C2.below {w w' : World} {v : Value} {P : List (List (List Cl))} (h : C2 w v P) (hb : Below w.heap.size w w') : C2 w' v P := by
  obtain ⟨a, cap, hv, hl, hk⟩ := h
  refine ⟨a, cap, hv, hl, fun k h => ?_⟩
  obtain ⟨b, off, u, ha, h1, h2⟩ := hk k h
  exact ⟨b, off, u, ha, cell_later hb h1, h2.below hb⟩

end Go.Proofs.Qxb6617226a
