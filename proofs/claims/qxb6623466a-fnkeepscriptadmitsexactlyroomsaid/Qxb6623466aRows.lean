/-
  No cell of these rows narrows 'for every input' (looked for: loops, veiled, ifaces, maps, wideKeys, modest, calm, conditions, laid).
  DERIVED. THE GIVEN ROWS OF THIS SEAT. 1 by the template 'for every input the law returns true; each argument reads behind the call as it read before'; 0 by the template 'total and deterministic' (their statements: Qxb6623466aTotals.lean).
  GIVEN WITH THE SEED: the statements are not yours to turn. If you find one false, say at which input.
  Laid BY PROGRAM, IN A SANDBOX (cutbox-rows.mjs): the forced cells as the released guide's own fill.sh prints them over the translation d999875d3b3db4c3… (all of the seat's roots in one cut). By AI agents, Wed Nov 11 2026. No macro, syntax, notation, axiom, sorry.
-/
import Derived.Test.Qxb6623466aChecked
import GoSem.Claim
import GoSem.ClaimJoined
import GoSem.ClaimMapViews
import Derived.JoinedTies
import Derived.KernelRfl
namespace Go.Proofs.Qxb6623466a
/- THE CELL 'sum', in the pinned program and in every row, IS THE sha256 OF THE DUMP (.gsa) THAT Qxb6623466aProg.lean LOADS. Nothing in Lean hashes anything: it is a label: what it is worth is what the hold of that sum in a sandbox is worth. -/
noncomputable def Try.pinned : Pinned := { name := "qxb6623466a", sum := "d999875d3b3db4c3a8d57cee3be6c1f7499ff98fa80ab6c77f602ee4633b1207", checked := Try.checked }
namespace Rows
def none {H : Type} : Left H := { results := [], args := [] }

/-- 'zzlaws_node_b1.FnKeepScriptAdmitsExactlyRoom': WHATEVER THE INPUT: true; the input reads as it did. -/
def fnKeepScriptAdmitsExactlyRoomSpec : ChangeSpec := { name := "fnKeepScriptAdmitsExactlyRoom", fn := fun _ => fun
  | [d1, d2, d3, d4] => { results := [.lit (.bool true)], args := [d1, d2, d3, d4] }
  | _ => none }
def fnKeepScriptAdmitsExactlyRoomRow : OpenClaim := { program := "qxb6623466a", sum := "d999875d3b3db4c3a8d57cee3be6c1f7499ff98fa80ab6c77f602ee4633b1207", func := "example.com/hoarfrost/hoarfrost/zzlaws_node_b1.FnKeepScriptAdmitsExactlyRoom", spec := "fnKeepScriptAdmitsExactlyRoom", plainKeys := false, apart := false }
def FnKeepScriptAdmitsExactlyRoomSaid : Prop := fnKeepScriptAdmitsExactlyRoomRow.holds Try.pinned (OpenSpec.ofChange fnKeepScriptAdmitsExactlyRoomSpec)

/-- ITS FALSE NEIGHBOUR: 'it returns false'. Refute it at one input. -/
def fnKeepScriptAdmitsExactlyRoomWrong : ChangeSpec := { name := "fnKeepScriptAdmitsExactlyRoom", fn := fun _ => fun
  | [d1, d2, d3, d4] => { results := [.lit (.bool false)], args := [d1, d2, d3, d4] }
  | _ => none }
def FnKeepScriptAdmitsExactlyRoomWrongFalsely : Prop := fnKeepScriptAdmitsExactlyRoomRow.holds Try.pinned (OpenSpec.ofChange fnKeepScriptAdmitsExactlyRoomWrong)

end Rows
end Go.Proofs.Qxb6623466a
