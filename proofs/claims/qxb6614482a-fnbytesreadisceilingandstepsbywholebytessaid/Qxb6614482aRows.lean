/-
  No cell of these rows narrows 'for every input' (looked for: loops, veiled, ifaces, maps, wideKeys, modest, calm, conditions, laid).
  DERIVED. THE GIVEN ROWS OF THIS SEAT. 1 by the template 'for every input the law returns true; each argument reads behind the call as it read before'; 0 by the template 'total and deterministic' (their statements: Qxb6614482aTotals.lean).
  GIVEN WITH THE SEED: the statements are not yours to turn. If you find one false, say at which input.
  Laid BY PROGRAM, IN A SANDBOX (cutbox-rows.mjs): the forced cells as the released guide's own fill.sh prints them over the translation 5870013a7d4db074… (all of the seat's roots in one cut). By AI agents, Wed Nov 11 2026. No macro, syntax, notation, axiom, sorry.
-/
import Derived.Test.Qxb6614482aChecked
import GoSem.Claim
import GoSem.ClaimJoined
import GoSem.ClaimMapViews
import Derived.JoinedTies
import Derived.KernelRfl
namespace Go.Proofs.Qxb6614482a
/- THE CELL 'sum', in the pinned program and in every row, IS THE sha256 OF THE DUMP (.gsa) THAT Qxb6614482aProg.lean LOADS. Nothing in Lean hashes anything: it is a label: what it is worth is what the hold of that sum in a sandbox is worth. -/
noncomputable def Try.pinned : Pinned := { name := "qxb6614482a", sum := "5870013a7d4db0746767c92fa28546a95973939ee2de7ba1d50c06152cf8cf4b", checked := Try.checked }
namespace Rows
def none {H : Type} : Left H := { results := [], args := [] }

/-- 'zzlaws_internal_zstd_b1.FnBytesReadIsCeilingAndStepsByWholeBytes': WHATEVER THE INPUT: true; the input reads as it did. -/
def fnBytesReadIsCeilingAndStepsByWholeBytesSpec : ChangeSpec := { name := "fnBytesReadIsCeilingAndStepsByWholeBytes", fn := fun _ => fun
  | [d1, d2, d3] => { results := [.lit (.bool true)], args := [d1, d2, d3] }
  | _ => none }
def fnBytesReadIsCeilingAndStepsByWholeBytesRow : OpenClaim := { program := "qxb6614482a", sum := "5870013a7d4db0746767c92fa28546a95973939ee2de7ba1d50c06152cf8cf4b", func := "example.com/heliograph/heliograph/zzlaws_internal_zstd_b1.FnBytesReadIsCeilingAndStepsByWholeBytes", spec := "fnBytesReadIsCeilingAndStepsByWholeBytes", apart := false }
def FnBytesReadIsCeilingAndStepsByWholeBytesSaid : Prop := fnBytesReadIsCeilingAndStepsByWholeBytesRow.holds Try.pinned (OpenSpec.ofChange fnBytesReadIsCeilingAndStepsByWholeBytesSpec)

/-- ITS FALSE NEIGHBOUR: 'it returns false'. Refute it at one input. -/
def fnBytesReadIsCeilingAndStepsByWholeBytesWrong : ChangeSpec := { name := "fnBytesReadIsCeilingAndStepsByWholeBytes", fn := fun _ => fun
  | [d1, d2, d3] => { results := [.lit (.bool false)], args := [d1, d2, d3] }
  | _ => none }
def FnBytesReadIsCeilingAndStepsByWholeBytesWrongFalsely : Prop := fnBytesReadIsCeilingAndStepsByWholeBytesRow.holds Try.pinned (OpenSpec.ofChange fnBytesReadIsCeilingAndStepsByWholeBytesWrong)

end Rows
end Go.Proofs.Qxb6614482a
