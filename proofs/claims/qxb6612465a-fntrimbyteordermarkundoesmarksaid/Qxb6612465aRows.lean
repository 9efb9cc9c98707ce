/-
  No cell of these rows narrows 'for every input' (looked for: loops, veiled, ifaces, maps, wideKeys, modest, calm, conditions, laid).
  DERIVED. THE GIVEN ROWS OF THIS SEAT. 1 by the template 'for every input the law returns true; each argument reads behind the call as it read before'; 0 by the template 'total and deterministic' (their statements: Qxb6612465aTotals.lean).
  GIVEN WITH THE SEED: the statements are not yours to turn. If you find one false, say at which input.
  Laid BY PROGRAM, IN A SANDBOX (cutbox-rows.mjs): the forced cells as the released guide's own fill.sh prints them over the translation a9d36ef7d3f2ae3e… (all of the seat's roots in one cut). By AI agents, Wed Nov 11 2026. No macro, syntax, notation, axiom, sorry.
-/
import Derived.Test.Qxb6612465aChecked
import GoSem.Claim
import GoSem.ClaimJoined
import GoSem.ClaimMapViews
import Derived.JoinedTies
import Derived.KernelRfl
namespace Go.Proofs.Qxb6612465a
/- THE CELL 'sum', in the pinned program and in every row, IS THE sha256 OF THE DUMP (.gsa) THAT Qxb6612465aProg.lean LOADS. Nothing in Lean hashes anything: it is a label: what it is worth is what the hold of that sum in a sandbox is worth. -/
noncomputable def Try.pinned : Pinned := { name := "qxb6612465a", sum := "a9d36ef7d3f2ae3e78b784aa34642546468779f8445fe9fcb8cb4b744dda3a44", checked := Try.checked }
namespace Rows
def none {H : Type} : Left H := { results := [], args := [] }

/-- 'zzlaws_plan_b1.FnTrimByteOrderMarkUndoesMark': WHATEVER THE INPUT: true; the input reads as it did. -/
def fnTrimByteOrderMarkUndoesMarkSpec : ChangeSpec := { name := "fnTrimByteOrderMarkUndoesMark", fn := fun _ => fun
  | [d] => { results := [.lit (.bool true)], args := [d] }
  | _ => none }
def fnTrimByteOrderMarkUndoesMarkRow : OpenClaim := { program := "qxb6612465a", sum := "a9d36ef7d3f2ae3e78b784aa34642546468779f8445fe9fcb8cb4b744dda3a44", func := "example.com/planwright/planwright/zzlaws_plan_b1.FnTrimByteOrderMarkUndoesMark", spec := "fnTrimByteOrderMarkUndoesMark", apart := false }
def FnTrimByteOrderMarkUndoesMarkSaid : Prop := fnTrimByteOrderMarkUndoesMarkRow.holds Try.pinned (OpenSpec.ofChange fnTrimByteOrderMarkUndoesMarkSpec)

/-- ITS FALSE NEIGHBOUR: 'it returns false'. Refute it at one input. -/
def fnTrimByteOrderMarkUndoesMarkWrong : ChangeSpec := { name := "fnTrimByteOrderMarkUndoesMark", fn := fun _ => fun
  | [d] => { results := [.lit (.bool false)], args := [d] }
  | _ => none }
def FnTrimByteOrderMarkUndoesMarkWrongFalsely : Prop := fnTrimByteOrderMarkUndoesMarkRow.holds Try.pinned (OpenSpec.ofChange fnTrimByteOrderMarkUndoesMarkWrong)

end Rows
end Go.Proofs.Qxb6612465a
