/-
  No cell of these rows narrows 'for every input' (looked for: loops, veiled, ifaces, maps, wideKeys, modest, calm, conditions, laid).
  DERIVED. THE GIVEN ROWS OF THIS SEAT. 2 by the template 'for every input the law returns true; each argument reads behind the call as it read before'; 0 by the template 'total and deterministic' (their statements: Qxb6614345aTotals.lean).
  GIVEN WITH THE SEED: the statements are not yours to turn. If you find one false, say at which input.
  Laid BY PROGRAM, IN A SANDBOX (cutbox-rows.mjs): the forced cells as the released guide's own fill.sh prints them over the translation 09074bc75b746611… (all of the seat's roots in one cut). By AI agents, Wed Nov 11 2026. No macro, syntax, notation, axiom, sorry.
-/
import Derived.Test.Qxb6614345aChecked
import GoSem.Claim
import GoSem.ClaimJoined
import GoSem.ClaimMapViews
import Derived.JoinedTies
import Derived.KernelRfl
namespace Go.Proofs.Qxb6614345a
/- THE CELL 'sum', in the pinned program and in every row, IS THE sha256 OF THE DUMP (.gsa) THAT Qxb6614345aProg.lean LOADS. Nothing in Lean hashes anything: it is a label: what it is worth is what the hold of that sum in a sandbox is worth. -/
noncomputable def Try.pinned : Pinned := { name := "qxb6614345a", sum := "09074bc75b7466111b00fb4c8dd388c0b195874fd28a5cf9483cf8a8b24a2f07", checked := Try.checked }
namespace Rows
def none {H : Type} : Left H := { results := [], args := [] }

/-- 'zzlaws_root_b1.FnYieldsToExactlyOneOfTwoDistinct': WHATEVER THE INPUT: true; the input reads as it did. -/
def fnYieldsToExactlyOneOfTwoDistinctSpec : ChangeSpec := { name := "fnYieldsToExactlyOneOfTwoDistinct", fn := fun _ => fun
  | [d1, d2, d3] => { results := [.lit (.bool true)], args := [d1, d2, d3] }
  | _ => none }
def fnYieldsToExactlyOneOfTwoDistinctRow : OpenClaim := { program := "qxb6614345a", sum := "09074bc75b7466111b00fb4c8dd388c0b195874fd28a5cf9483cf8a8b24a2f07", func := "example.com/caucus/caucus/zzlaws_root_b1.FnYieldsToExactlyOneOfTwoDistinct", spec := "fnYieldsToExactlyOneOfTwoDistinct", apart := false }
def FnYieldsToExactlyOneOfTwoDistinctSaid : Prop := fnYieldsToExactlyOneOfTwoDistinctRow.holds Try.pinned (OpenSpec.ofChange fnYieldsToExactlyOneOfTwoDistinctSpec)

/-- ITS FALSE NEIGHBOUR: 'it returns false'. Refute it at one input. -/
def fnYieldsToExactlyOneOfTwoDistinctWrong : ChangeSpec := { name := "fnYieldsToExactlyOneOfTwoDistinct", fn := fun _ => fun
  | [d1, d2, d3] => { results := [.lit (.bool false)], args := [d1, d2, d3] }
  | _ => none }
def FnYieldsToExactlyOneOfTwoDistinctWrongFalsely : Prop := fnYieldsToExactlyOneOfTwoDistinctRow.holds Try.pinned (OpenSpec.ofChange fnYieldsToExactlyOneOfTwoDistinctWrong)

/-- 'zzlaws_root_b1.FnYieldsToCountsHigherPlaces': WHATEVER THE INPUT: true; the input reads as it did. -/
def fnYieldsToCountsHigherPlacesSpec : ChangeSpec := { name := "fnYieldsToCountsHigherPlaces", fn := fun _ => fun
  | [d1, d2, d3] => { results := [.lit (.bool true)], args := [d1, d2, d3] }
  | _ => none }
def fnYieldsToCountsHigherPlacesRow : OpenClaim := { program := "qxb6614345a", sum := "09074bc75b7466111b00fb4c8dd388c0b195874fd28a5cf9483cf8a8b24a2f07", func := "example.com/caucus/caucus/zzlaws_root_b1.FnYieldsToCountsHigherPlaces", spec := "fnYieldsToCountsHigherPlaces", apart := false }
def FnYieldsToCountsHigherPlacesSaid : Prop := fnYieldsToCountsHigherPlacesRow.holds Try.pinned (OpenSpec.ofChange fnYieldsToCountsHigherPlacesSpec)

/-- ITS FALSE NEIGHBOUR: 'it returns false'. Refute it at one input. -/
def fnYieldsToCountsHigherPlacesWrong : ChangeSpec := { name := "fnYieldsToCountsHigherPlaces", fn := fun _ => fun
  | [d1, d2, d3] => { results := [.lit (.bool false)], args := [d1, d2, d3] }
  | _ => none }
def FnYieldsToCountsHigherPlacesWrongFalsely : Prop := fnYieldsToCountsHigherPlacesRow.holds Try.pinned (OpenSpec.ofChange fnYieldsToCountsHigherPlacesWrong)

end Rows
end Go.Proofs.Qxb6614345a
