/-
  No cell of these rows narrows 'for every input' (looked for: loops, veiled, ifaces, maps, wideKeys, modest, calm, conditions, laid).
  DERIVED. THE GIVEN ROWS OF THIS SEAT. 2 by the template 'for every input the law returns true; each argument reads behind the call as it read before'; 0 by the template 'total and deterministic' (their statements: Qxb6623515aTotals.lean).
  GIVEN WITH THE SEED: the statements are not yours to turn. If you find one false, say at which input.
  Laid BY PROGRAM, IN A SANDBOX (cutbox-rows.mjs): the forced cells as the released guide's own fill.sh prints them over the translation d2033b1a83f357ca… (all of the seat's roots in one cut). By AI agents, Wed Nov 11 2026. No macro, syntax, notation, axiom, sorry.
-/
import Derived.Test.Qxb6623515aChecked
import GoSem.Claim
import GoSem.ClaimJoined
import GoSem.ClaimMapViews
import Derived.JoinedTies
import Derived.KernelRfl
namespace Go.Proofs.Qxb6623515a
/- THE CELL 'sum', in the pinned program and in every row, IS THE sha256 OF THE DUMP (.gsa) THAT Qxb6623515aProg.lean LOADS. Nothing in Lean hashes anything: it is a label: what it is worth is what the hold of that sum in a sandbox is worth. -/
noncomputable def Try.pinned : Pinned := { name := "qxb6623515a", sum := "d2033b1a83f357cadd217fd925d7118fff4aa48b40560d66cabcca02bd72cd21", checked := Try.checked }
namespace Rows
def none {H : Type} : Left H := { results := [], args := [] }

/-- 'zzlaws_internal_fairness_b1.FnJainMatchesLagrangeFormAndIgnoresOrder': WHATEVER THE INPUT: true; the input reads as it did. -/
def fnJainMatchesLagrangeFormAndIgnoresOrderSpec : ChangeSpec := { name := "fnJainMatchesLagrangeFormAndIgnoresOrder", fn := fun _ => fun
  | [d1, d2] => { results := [.lit (.bool true)], args := [d1, d2] }
  | _ => none }
def fnJainMatchesLagrangeFormAndIgnoresOrderRow : OpenClaim := { program := "qxb6623515a", sum := "d2033b1a83f357cadd217fd925d7118fff4aa48b40560d66cabcca02bd72cd21", func := "example.com/tideswarm/tideswarm/zzlaws_internal_fairness_b1.FnJainMatchesLagrangeFormAndIgnoresOrder", spec := "fnJainMatchesLagrangeFormAndIgnoresOrder", apart := false }
def FnJainMatchesLagrangeFormAndIgnoresOrderSaid : Prop := fnJainMatchesLagrangeFormAndIgnoresOrderRow.holds Try.pinned (OpenSpec.ofChange fnJainMatchesLagrangeFormAndIgnoresOrderSpec)

/-- ITS FALSE NEIGHBOUR: 'it returns false'. Refute it at one input. -/
def fnJainMatchesLagrangeFormAndIgnoresOrderWrong : ChangeSpec := { name := "fnJainMatchesLagrangeFormAndIgnoresOrder", fn := fun _ => fun
  | [d1, d2] => { results := [.lit (.bool false)], args := [d1, d2] }
  | _ => none }
def FnJainMatchesLagrangeFormAndIgnoresOrderWrongFalsely : Prop := fnJainMatchesLagrangeFormAndIgnoresOrderRow.holds Try.pinned (OpenSpec.ofChange fnJainMatchesLagrangeFormAndIgnoresOrderWrong)

/-- 'zzlaws_internal_fairness_b1.FnJainLoneUploaderIsOneOverN': WHATEVER THE INPUT: true; the input reads as it did. -/
def fnJainLoneUploaderIsOneOverNSpec : ChangeSpec := { name := "fnJainLoneUploaderIsOneOverN", fn := fun _ => fun
  | [d1, d2, d3, d4] => { results := [.lit (.bool true)], args := [d1, d2, d3, d4] }
  | _ => none }
def fnJainLoneUploaderIsOneOverNRow : OpenClaim := { program := "qxb6623515a", sum := "d2033b1a83f357cadd217fd925d7118fff4aa48b40560d66cabcca02bd72cd21", func := "example.com/tideswarm/tideswarm/zzlaws_internal_fairness_b1.FnJainLoneUploaderIsOneOverN", spec := "fnJainLoneUploaderIsOneOverN", apart := false }
def FnJainLoneUploaderIsOneOverNSaid : Prop := fnJainLoneUploaderIsOneOverNRow.holds Try.pinned (OpenSpec.ofChange fnJainLoneUploaderIsOneOverNSpec)

/-- ITS FALSE NEIGHBOUR: 'it returns false'. Refute it at one input. -/
def fnJainLoneUploaderIsOneOverNWrong : ChangeSpec := { name := "fnJainLoneUploaderIsOneOverN", fn := fun _ => fun
  | [d1, d2, d3, d4] => { results := [.lit (.bool false)], args := [d1, d2, d3, d4] }
  | _ => none }
def FnJainLoneUploaderIsOneOverNWrongFalsely : Prop := fnJainLoneUploaderIsOneOverNRow.holds Try.pinned (OpenSpec.ofChange fnJainLoneUploaderIsOneOverNWrong)

end Rows
end Go.Proofs.Qxb6623515a
