/-
  No cell of these rows narrows 'for every input' (looked for: loops, veiled, ifaces, maps, wideKeys, modest, calm, conditions, laid).
  DERIVED. THE GIVEN ROWS OF THIS SEAT. 5 by the template 'for every input the law returns true; each argument reads behind the call as it read before'; 0 by the template 'total and deterministic' (their statements: Qxb6617226aTotals.lean).
  GIVEN WITH THE SEED: the statements are not yours to turn. If you find one false, say at which input.
  Laid BY PROGRAM, IN A SANDBOX (cutbox-rows.mjs): the forced cells as the released guide's own fill.sh prints them over the translation 6b802c8e732bf215… (all of the seat's roots in one cut). By AI agents, Wed Nov 11 2026. No macro, syntax, notation, axiom, sorry.
-/
import Derived.Test.Qxb6617226aChecked
import GoSem.Claim
import GoSem.ClaimJoined
import GoSem.ClaimMapViews
import Derived.JoinedTies
import Derived.KernelRfl
namespace Go.Proofs.Qxb6617226a
/- THE CELL 'sum', in the pinned program and in every row, IS THE sha256 OF THE DUMP (.gsa) THAT Qxb6617226aProg.lean LOADS. Nothing in Lean hashes anything: it is a label: what it is worth is what the hold of that sum in a sandbox is worth. -/
noncomputable def Try.pinned : Pinned := { name := "qxb6617226a", sum := "6b802c8e732bf215dd4222d7261e8771618349b202b5c6b33a56ede5e1ebb9f0", checked := Try.checked }
namespace Rows
def none {H : Type} : Left H := { results := [], args := [] }

/-- 'zzlaws_internal_cface_b1.FnHighestIsTopRankIndexesByName': WHATEVER THE INPUT: true; the input reads as it did. -/
def fnHighestIsTopRankIndexesByNameSpec : ChangeSpec := { name := "fnHighestIsTopRankIndexesByName", fn := fun _ => fun
  | [d] => { results := [.lit (.bool true)], args := [d] }
  | _ => none }
def fnHighestIsTopRankIndexesByNameRow : OpenClaim := { program := "qxb6617226a", sum := "6b802c8e732bf215dd4222d7261e8771618349b202b5c6b33a56ede5e1ebb9f0", func := "example.com/glazebar/glazebar/zzlaws_internal_cface_b1.FnHighestIsTopRankIndexesByName", spec := "fnHighestIsTopRankIndexesByName", apart := false }
def FnHighestIsTopRankIndexesByNameSaid : Prop := fnHighestIsTopRankIndexesByNameRow.holds Try.pinned (OpenSpec.ofChange fnHighestIsTopRankIndexesByNameSpec)

/-- ITS FALSE NEIGHBOUR: 'it returns false'. Refute it at one input. -/
def fnHighestIsTopRankIndexesByNameWrong : ChangeSpec := { name := "fnHighestIsTopRankIndexesByName", fn := fun _ => fun
  | [d] => { results := [.lit (.bool false)], args := [d] }
  | _ => none }
def FnHighestIsTopRankIndexesByNameWrongFalsely : Prop := fnHighestIsTopRankIndexesByNameRow.holds Try.pinned (OpenSpec.ofChange fnHighestIsTopRankIndexesByNameWrong)

/-- 'zzlaws_internal_cface_b1.FnSettleSuffixesConstTwinsAndListsTopRivals': WHATEVER THE INPUT: true; the input reads as it did. -/
def fnSettleSuffixesConstTwinsAndListsTopRivalsSpec : ChangeSpec := { name := "fnSettleSuffixesConstTwinsAndListsTopRivals", fn := fun _ => fun
  | [d] => { results := [.lit (.bool true)], args := [d] }
  | _ => none }
def fnSettleSuffixesConstTwinsAndListsTopRivalsRow : OpenClaim := { program := "qxb6617226a", sum := "6b802c8e732bf215dd4222d7261e8771618349b202b5c6b33a56ede5e1ebb9f0", func := "example.com/glazebar/glazebar/zzlaws_internal_cface_b1.FnSettleSuffixesConstTwinsAndListsTopRivals", spec := "fnSettleSuffixesConstTwinsAndListsTopRivals", apart := false }
def FnSettleSuffixesConstTwinsAndListsTopRivalsSaid : Prop := fnSettleSuffixesConstTwinsAndListsTopRivalsRow.holds Try.pinned (OpenSpec.ofChange fnSettleSuffixesConstTwinsAndListsTopRivalsSpec)

/-- ITS FALSE NEIGHBOUR: 'it returns false'. Refute it at one input. -/
def fnSettleSuffixesConstTwinsAndListsTopRivalsWrong : ChangeSpec := { name := "fnSettleSuffixesConstTwinsAndListsTopRivals", fn := fun _ => fun
  | [d] => { results := [.lit (.bool false)], args := [d] }
  | _ => none }
def FnSettleSuffixesConstTwinsAndListsTopRivalsWrongFalsely : Prop := fnSettleSuffixesConstTwinsAndListsTopRivalsRow.holds Try.pinned (OpenSpec.ofChange fnSettleSuffixesConstTwinsAndListsTopRivalsWrong)

/-- 'zzlaws_internal_cface_b1.FnSettleCommutesWithReversal': WHATEVER THE INPUT: true; the input reads as it did. -/
def fnSettleCommutesWithReversalSpec : ChangeSpec := { name := "fnSettleCommutesWithReversal", fn := fun _ => fun
  | [d] => { results := [.lit (.bool true)], args := [d] }
  | _ => none }
def fnSettleCommutesWithReversalRow : OpenClaim := { program := "qxb6617226a", sum := "6b802c8e732bf215dd4222d7261e8771618349b202b5c6b33a56ede5e1ebb9f0", func := "example.com/glazebar/glazebar/zzlaws_internal_cface_b1.FnSettleCommutesWithReversal", spec := "fnSettleCommutesWithReversal", apart := false }
def FnSettleCommutesWithReversalSaid : Prop := fnSettleCommutesWithReversalRow.holds Try.pinned (OpenSpec.ofChange fnSettleCommutesWithReversalSpec)

/-- ITS FALSE NEIGHBOUR: 'it returns false'. Refute it at one input. -/
def fnSettleCommutesWithReversalWrong : ChangeSpec := { name := "fnSettleCommutesWithReversal", fn := fun _ => fun
  | [d] => { results := [.lit (.bool false)], args := [d] }
  | _ => none }
def FnSettleCommutesWithReversalWrongFalsely : Prop := fnSettleCommutesWithReversalRow.holds Try.pinned (OpenSpec.ofChange fnSettleCommutesWithReversalWrong)

/-- 'zzlaws_internal_cface_b1.FnRunClassesAreDistinctTopLevelInFirstOrder': WHATEVER THE INPUT: true; the input reads as it did. -/
def fnRunClassesAreDistinctTopLevelInFirstOrderSpec : ChangeSpec := { name := "fnRunClassesAreDistinctTopLevelInFirstOrder", fn := fun _ => fun
  | [d] => { results := [.lit (.bool true)], args := [d] }
  | _ => none }
def fnRunClassesAreDistinctTopLevelInFirstOrderRow : OpenClaim := { program := "qxb6617226a", sum := "6b802c8e732bf215dd4222d7261e8771618349b202b5c6b33a56ede5e1ebb9f0", func := "example.com/glazebar/glazebar/zzlaws_internal_cface_b1.FnRunClassesAreDistinctTopLevelInFirstOrder", spec := "fnRunClassesAreDistinctTopLevelInFirstOrder", apart := false }
def FnRunClassesAreDistinctTopLevelInFirstOrderSaid : Prop := fnRunClassesAreDistinctTopLevelInFirstOrderRow.holds Try.pinned (OpenSpec.ofChange fnRunClassesAreDistinctTopLevelInFirstOrderSpec)

/-- ITS FALSE NEIGHBOUR: 'it returns false'. Refute it at one input. -/
def fnRunClassesAreDistinctTopLevelInFirstOrderWrong : ChangeSpec := { name := "fnRunClassesAreDistinctTopLevelInFirstOrder", fn := fun _ => fun
  | [d] => { results := [.lit (.bool false)], args := [d] }
  | _ => none }
def FnRunClassesAreDistinctTopLevelInFirstOrderWrongFalsely : Prop := fnRunClassesAreDistinctTopLevelInFirstOrderRow.holds Try.pinned (OpenSpec.ofChange fnRunClassesAreDistinctTopLevelInFirstOrderWrong)

/-- 'zzlaws_internal_cface_b1.FnRunClassesSplitsAtAnyCut': WHATEVER THE INPUT: true; the input reads as it did. -/
def fnRunClassesSplitsAtAnyCutSpec : ChangeSpec := { name := "fnRunClassesSplitsAtAnyCut", fn := fun _ => fun
  | [d1, d2] => { results := [.lit (.bool true)], args := [d1, d2] }
  | _ => none }
def fnRunClassesSplitsAtAnyCutRow : OpenClaim := { program := "qxb6617226a", sum := "6b802c8e732bf215dd4222d7261e8771618349b202b5c6b33a56ede5e1ebb9f0", func := "example.com/glazebar/glazebar/zzlaws_internal_cface_b1.FnRunClassesSplitsAtAnyCut", spec := "fnRunClassesSplitsAtAnyCut", apart := false }
def FnRunClassesSplitsAtAnyCutSaid : Prop := fnRunClassesSplitsAtAnyCutRow.holds Try.pinned (OpenSpec.ofChange fnRunClassesSplitsAtAnyCutSpec)

/-- ITS FALSE NEIGHBOUR: 'it returns false'. Refute it at one input. -/
def fnRunClassesSplitsAtAnyCutWrong : ChangeSpec := { name := "fnRunClassesSplitsAtAnyCut", fn := fun _ => fun
  | [d1, d2] => { results := [.lit (.bool false)], args := [d1, d2] }
  | _ => none }
def FnRunClassesSplitsAtAnyCutWrongFalsely : Prop := fnRunClassesSplitsAtAnyCutRow.holds Try.pinned (OpenSpec.ofChange fnRunClassesSplitsAtAnyCutWrong)

end Rows
end Go.Proofs.Qxb6617226a
