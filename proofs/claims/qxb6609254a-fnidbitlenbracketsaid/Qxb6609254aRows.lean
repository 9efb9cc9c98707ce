/-
  No cell of these rows narrows 'for every input' (looked for: loops, veiled, ifaces, maps, wideKeys, modest, calm, conditions, laid).
  DERIVED. THE GIVEN ROWS OF THIS SEAT. 2 by the template 'for every input the law returns true; each argument reads behind the call as it read before'; 0 by the template 'total and deterministic' (their statements: Qxb6609254aTotals.lean).
  GIVEN WITH THE SEED: the statements are not yours to turn. If you find one false, say at which input.
  Laid BY PROGRAM, IN A SANDBOX (cutbox-rows.mjs): the forced cells as the released guide's own fill.sh prints them over the translation 51e5c49f6ab7fb87… (all of the seat's roots in one cut). By AI agents, Wed Nov 11 2026. No macro, syntax, notation, axiom, sorry.
-/
import Derived.Test.Qxb6609254aChecked
import GoSem.Claim
import GoSem.ClaimJoined
import GoSem.ClaimMapViews
import Derived.JoinedTies
import Derived.KernelRfl
namespace Go.Proofs.Qxb6609254a
/- THE CELL 'sum', in the pinned program and in every row, IS THE sha256 OF THE DUMP (.gsa) THAT Qxb6609254aProg.lean LOADS. Nothing in Lean hashes anything: it is a label: what it is worth is what the hold of that sum in a sandbox is worth. -/
noncomputable def Try.pinned : Pinned := { name := "qxb6609254a", sum := "51e5c49f6ab7fb87ecfe6ad6ee64ea57f7f003f4e0a3216f524163ed489ad542", checked := Try.checked }
namespace Rows
def none {H : Type} : Left H := { results := [], args := [] }

/-- 'zzlaws_root_b1.FnIDBitLenByteScan': WHATEVER THE INPUT: true; the input reads as it did. -/
def fnIDBitLenByteScanSpec : ChangeSpec := { name := "fnIDBitLenByteScan", fn := fun _ => fun
  | [d] => { results := [.lit (.bool true)], args := [d] }
  | _ => none }
def fnIDBitLenByteScanRow : OpenClaim := { program := "qxb6609254a", sum := "51e5c49f6ab7fb87ecfe6ad6ee64ea57f7f003f4e0a3216f524163ed489ad542", func := "example.com/ringwright/ringwright/zzlaws_root_b1.FnIDBitLenByteScan", spec := "fnIDBitLenByteScan", named := ["encoding/binary.BigEndian"], apart := false }
def FnIDBitLenByteScanSaid : Prop := fnIDBitLenByteScanRow.holds Try.pinned (OpenSpec.ofChange fnIDBitLenByteScanSpec)

/-- ITS FALSE NEIGHBOUR: 'it returns false'. Refute it at one input. -/
def fnIDBitLenByteScanWrong : ChangeSpec := { name := "fnIDBitLenByteScan", fn := fun _ => fun
  | [d] => { results := [.lit (.bool false)], args := [d] }
  | _ => none }
def FnIDBitLenByteScanWrongFalsely : Prop := fnIDBitLenByteScanRow.holds Try.pinned (OpenSpec.ofChange fnIDBitLenByteScanWrong)

/-- 'zzlaws_root_b1.FnIDBitLenBracket': WHATEVER THE INPUT: true; the input reads as it did. -/
def fnIDBitLenBracketSpec : ChangeSpec := { name := "fnIDBitLenBracket", fn := fun _ => fun
  | [d] => { results := [.lit (.bool true)], args := [d] }
  | _ => none }
def fnIDBitLenBracketRow : OpenClaim := { program := "qxb6609254a", sum := "51e5c49f6ab7fb87ecfe6ad6ee64ea57f7f003f4e0a3216f524163ed489ad542", func := "example.com/ringwright/ringwright/zzlaws_root_b1.FnIDBitLenBracket", spec := "fnIDBitLenBracket", inPlace := ["math/bits.Sub64"], named := ["encoding/binary.BigEndian"], apart := false }
def FnIDBitLenBracketSaid : Prop := fnIDBitLenBracketRow.holds Try.pinned (OpenSpec.ofChange fnIDBitLenBracketSpec)

/-- ITS FALSE NEIGHBOUR: 'it returns false'. Refute it at one input. -/
def fnIDBitLenBracketWrong : ChangeSpec := { name := "fnIDBitLenBracket", fn := fun _ => fun
  | [d] => { results := [.lit (.bool false)], args := [d] }
  | _ => none }
def FnIDBitLenBracketWrongFalsely : Prop := fnIDBitLenBracketRow.holds Try.pinned (OpenSpec.ofChange fnIDBitLenBracketWrong)

end Rows
end Go.Proofs.Qxb6609254a
