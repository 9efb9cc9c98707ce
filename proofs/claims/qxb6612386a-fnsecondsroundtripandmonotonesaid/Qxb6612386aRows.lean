/-
  No cell of these rows narrows 'for every input' (looked for: loops, veiled, ifaces, maps, wideKeys, modest, calm, conditions, laid).
  DERIVED. THE GIVEN ROWS OF THIS SEAT. 2 by the template 'for every input the law returns true; each argument reads behind the call as it read before'; 0 by the template 'total and deterministic' (their statements: Qxb6612386aTotals.lean).
  GIVEN WITH THE SEED: the statements are not yours to turn. If you find one false, say at which input.
  Laid BY PROGRAM, IN A SANDBOX (cutbox-rows.mjs): the forced cells as the released guide's own fill.sh prints them over the translation 313aa707ee932294… (all of the seat's roots in one cut). By AI agents, Wed Nov 11 2026. No macro, syntax, notation, axiom, sorry.
-/
import Derived.Test.Qxb6612386aChecked
import GoSem.Claim
import GoSem.ClaimJoined
import GoSem.ClaimMapViews
import Derived.JoinedTies
import Derived.KernelRfl
namespace Go.Proofs.Qxb6612386a
/- THE CELL 'sum', in the pinned program and in every row, IS THE sha256 OF THE DUMP (.gsa) THAT Qxb6612386aProg.lean LOADS. Nothing in Lean hashes anything: it is a label: what it is worth is what the hold of that sum in a sandbox is worth. -/
noncomputable def Try.pinned : Pinned := { name := "qxb6612386a", sum := "313aa707ee9322945491a7e53360bbeed5d411fd145380a938571763cf1a1c36", checked := Try.checked }
namespace Rows
def none {H : Type} : Left H := { results := [], args := [] }

/-- 'zzlaws_internal_job_b1.FnSecondsExactSaturatingProduct': WHATEVER THE INPUT: true; the input reads as it did. -/
def fnSecondsExactSaturatingProductSpec : ChangeSpec := { name := "fnSecondsExactSaturatingProduct", fn := fun _ => fun
  | [d] => { results := [.lit (.bool true)], args := [d] }
  | _ => none }
def fnSecondsExactSaturatingProductRow : OpenClaim := { program := "qxb6612386a", sum := "313aa707ee9322945491a7e53360bbeed5d411fd145380a938571763cf1a1c36", func := "example.com/jobstead/jobstead/zzlaws_internal_job_b1.FnSecondsExactSaturatingProduct", spec := "fnSecondsExactSaturatingProduct", apart := false }
def FnSecondsExactSaturatingProductSaid : Prop := fnSecondsExactSaturatingProductRow.holds Try.pinned (OpenSpec.ofChange fnSecondsExactSaturatingProductSpec)

/-- ITS FALSE NEIGHBOUR: 'it returns false'. Refute it at one input. -/
def fnSecondsExactSaturatingProductWrong : ChangeSpec := { name := "fnSecondsExactSaturatingProduct", fn := fun _ => fun
  | [d] => { results := [.lit (.bool false)], args := [d] }
  | _ => none }
def FnSecondsExactSaturatingProductWrongFalsely : Prop := fnSecondsExactSaturatingProductRow.holds Try.pinned (OpenSpec.ofChange fnSecondsExactSaturatingProductWrong)

/-- 'zzlaws_internal_job_b1.FnSecondsRoundTripAndMonotone': WHATEVER THE INPUT: true; the input reads as it did. -/
def fnSecondsRoundTripAndMonotoneSpec : ChangeSpec := { name := "fnSecondsRoundTripAndMonotone", fn := fun _ => fun
  | [d1, d2] => { results := [.lit (.bool true)], args := [d1, d2] }
  | _ => none }
def fnSecondsRoundTripAndMonotoneRow : OpenClaim := { program := "qxb6612386a", sum := "313aa707ee9322945491a7e53360bbeed5d411fd145380a938571763cf1a1c36", func := "example.com/jobstead/jobstead/zzlaws_internal_job_b1.FnSecondsRoundTripAndMonotone", spec := "fnSecondsRoundTripAndMonotone", apart := false }
def FnSecondsRoundTripAndMonotoneSaid : Prop := fnSecondsRoundTripAndMonotoneRow.holds Try.pinned (OpenSpec.ofChange fnSecondsRoundTripAndMonotoneSpec)

/-- ITS FALSE NEIGHBOUR: 'it returns false'. Refute it at one input. -/
def fnSecondsRoundTripAndMonotoneWrong : ChangeSpec := { name := "fnSecondsRoundTripAndMonotone", fn := fun _ => fun
  | [d1, d2] => { results := [.lit (.bool false)], args := [d1, d2] }
  | _ => none }
def FnSecondsRoundTripAndMonotoneWrongFalsely : Prop := fnSecondsRoundTripAndMonotoneRow.holds Try.pinned (OpenSpec.ofChange fnSecondsRoundTripAndMonotoneWrong)

end Rows
end Go.Proofs.Qxb6612386a
