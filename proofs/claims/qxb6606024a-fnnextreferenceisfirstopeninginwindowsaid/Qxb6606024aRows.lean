/-
  No cell of these rows narrows 'for every input' (looked for: loops, veiled, ifaces, maps, wideKeys, modest, calm, conditions, laid).
  DERIVED. THE GIVEN ROWS OF THIS SEAT. 2 by the template 'for every input the law returns true; each argument reads behind the call as it read before'; 0 by the template 'total and deterministic' (their statements: Qxb6606024aTotals.lean).
  GIVEN WITH THE SEED: the statements are not yours to turn. If you find one false, say at which input.
  Laid BY PROGRAM, IN A SANDBOX (cutbox-rows.mjs): the forced cells as the released guide's own fill.sh prints them over the translation 9b3146e51a6919a1… (all of the seat's roots in one cut). By AI agents, Wed Nov 11 2026. No macro, syntax, notation, axiom, sorry.
-/
import Derived.Test.Qxb6606024aChecked
import GoSem.Claim
import GoSem.ClaimJoined
import GoSem.ClaimMapViews
import Derived.JoinedTies
import Derived.KernelRfl
namespace Go.Proofs.Qxb6606024a
/- THE CELL 'sum', in the pinned program and in every row, IS THE sha256 OF THE DUMP (.gsa) THAT Qxb6606024aProg.lean LOADS. Nothing in Lean hashes anything: it is a label: what it is worth is what the hold of that sum in a sandbox is worth. -/
noncomputable def Try.pinned : Pinned := { name := "qxb6606024a", sum := "9b3146e51a6919a19788c3910b1a11f24d25ebeca89cf1ac898b00aa69350b23", checked := Try.checked }
namespace Rows
def none {H : Type} : Left H := { results := [], args := [] }

/-- 'zzlaws_internal_eval_b1.FnNextReferenceIsFirstOpeningInWindow': WHATEVER THE INPUT: true; the input reads as it did. -/
def fnNextReferenceIsFirstOpeningInWindowSpec : ChangeSpec := { name := "fnNextReferenceIsFirstOpeningInWindow", fn := fun _ => fun
  | [d1, d2, d3] => { results := [.lit (.bool true)], args := [d1, d2, d3] }
  | _ => none }
def fnNextReferenceIsFirstOpeningInWindowRow : OpenClaim := { program := "qxb6606024a", sum := "9b3146e51a6919a19788c3910b1a11f24d25ebeca89cf1ac898b00aa69350b23", func := "example.com/fama/fama/zzlaws_internal_eval_b1.FnNextReferenceIsFirstOpeningInWindow", spec := "fnNextReferenceIsFirstOpeningInWindow", inPlace := ["internal/bytealg.IndexByteString"], apart := false }
def FnNextReferenceIsFirstOpeningInWindowSaid : Prop := fnNextReferenceIsFirstOpeningInWindowRow.holds Try.pinned (OpenSpec.ofChange fnNextReferenceIsFirstOpeningInWindowSpec)

/-- ITS FALSE NEIGHBOUR: 'it returns false'. Refute it at one input. -/
def fnNextReferenceIsFirstOpeningInWindowWrong : ChangeSpec := { name := "fnNextReferenceIsFirstOpeningInWindow", fn := fun _ => fun
  | [d1, d2, d3] => { results := [.lit (.bool false)], args := [d1, d2, d3] }
  | _ => none }
def FnNextReferenceIsFirstOpeningInWindowWrongFalsely : Prop := fnNextReferenceIsFirstOpeningInWindowRow.holds Try.pinned (OpenSpec.ofChange fnNextReferenceIsFirstOpeningInWindowWrong)

/-- 'zzlaws_internal_eval_b1.FnNextReferenceStepsFindEveryOpening': WHATEVER THE INPUT: true; the input reads as it did. -/
def fnNextReferenceStepsFindEveryOpeningSpec : ChangeSpec := { name := "fnNextReferenceStepsFindEveryOpening", fn := fun _ => fun
  | [d1, d2, d3] => { results := [.lit (.bool true)], args := [d1, d2, d3] }
  | _ => none }
def fnNextReferenceStepsFindEveryOpeningRow : OpenClaim := { program := "qxb6606024a", sum := "9b3146e51a6919a19788c3910b1a11f24d25ebeca89cf1ac898b00aa69350b23", func := "example.com/fama/fama/zzlaws_internal_eval_b1.FnNextReferenceStepsFindEveryOpening", spec := "fnNextReferenceStepsFindEveryOpening", inPlace := ["internal/bytealg.IndexByteString"], apart := false }
def FnNextReferenceStepsFindEveryOpeningSaid : Prop := fnNextReferenceStepsFindEveryOpeningRow.holds Try.pinned (OpenSpec.ofChange fnNextReferenceStepsFindEveryOpeningSpec)

/-- ITS FALSE NEIGHBOUR: 'it returns false'. Refute it at one input. -/
def fnNextReferenceStepsFindEveryOpeningWrong : ChangeSpec := { name := "fnNextReferenceStepsFindEveryOpening", fn := fun _ => fun
  | [d1, d2, d3] => { results := [.lit (.bool false)], args := [d1, d2, d3] }
  | _ => none }
def FnNextReferenceStepsFindEveryOpeningWrongFalsely : Prop := fnNextReferenceStepsFindEveryOpeningRow.holds Try.pinned (OpenSpec.ofChange fnNextReferenceStepsFindEveryOpeningWrong)

end Rows
end Go.Proofs.Qxb6606024a
