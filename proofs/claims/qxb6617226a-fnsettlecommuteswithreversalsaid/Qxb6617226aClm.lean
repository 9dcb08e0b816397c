/- What the argument []Claim holds. -/
import Derived.Test.Qxb6617226aStrOps
namespace Go.Proofs.Qxb6617226a
open Go.RowKit

structure Cm where
  name : ByteArray
  owner : ByteArray
  cst : Bool
  rank : Int
  rivals : List ByteArray
def Cm.nil : Cm := ⟨ByteArray.empty, ByteArray.empty, false, 0, []⟩
def cat (cs : List Cm) (i : Nat) : Cm := cs.getD i Cm.nil

/-- The five cells of one claim, and what its rivals lead to. -/
structure Five (w : World) (b o : Nat) (c : Cm) (ra : Option Addr) (rc : Nat) : Prop where
  c0 : w.cell? ⟨b, o, none⟩ = some (.string c.name)
  c1 : w.cell? ⟨b, o + 1, none⟩ = some (.string c.owner)
  c2 : w.cell? ⟨b, o + 2, none⟩ = some (.bool c.cst)
  c3 : w.cell? ⟨b, o + 3, none⟩ = some (.int .i64 c.rank)
  c4 : w.cell? ⟨b, o + 4, none⟩ = some (.slice ra c.rivals.length rc)
  nil : ra = none → rc = 0
  row : SRow w ra c.rivals
  s0 : c.name.size ≤ 9223372036854775807
  s1 : c.owner.size ≤ 9223372036854775807
  lo : -9223372036854775808 ≤ c.rank
  hi : c.rank ≤ 9223372036854775807
  len : c.rivals.length ≤ 9223372036854775807
  each : ∀ j, j < c.rivals.length → (sat c.rivals j).size ≤ 9223372036854775807

def K (w : World) (v : Value) (cs : List Cm) : Prop :=
  ∃ a cap, v = .slice a cs.length cap ∧ cs.length ≤ 9223372036854775807 ∧ ∀ i, i < cs.length → ∃ b off ra rc, a = some ⟨b, off, none⟩ ∧ Five w b (off + i * 5) (cat cs i) ra rc

theorem Five.below {w w' : World} {b o : Nat} {c : Cm} {ra : Option Addr} {rc : Nat} (h : Five w b o c ra rc) (hb : Below w.heap.size w w') : Five w' b o c ra rc :=
  ⟨cell_later hb h.c0, cell_later hb h.c1, cell_later hb h.c2, cell_later hb h.c3, cell_later hb h.c4, h.nil, h.row.below hb, h.s0, h.s1, h.lo, h.hi, h.len, h.each⟩
theorem K.below {w w' : World} {v : Value} {cs : List Cm} (h : K w v cs) (hb : Below w.heap.size w w') : K w' v cs := by
  obtain ⟨a, cap, hv, hl, hk⟩ := h
  refine ⟨a, cap, hv, hl, fun k h => ?_⟩
  obtain ⟨b, off, ra, rc, ha, h5⟩ := hk k h
  exact ⟨b, off, ra, rc, ha, h5.below hb⟩

/-- What a 'false' of claimsTooBig tells. -/
structure SmallC (cs : List Cm) : Prop where
  n : cs.length ≤ 4096
  r : ∀ i, i < cs.length → (cat cs i).rivals.length ≤ 1048576
end Go.Proofs.Qxb6617226a
