/-
  NARROWER THAN 'FOR EVERY INPUT', by the rows' own cells (each row's printed sentence says how): FnKeepsOutSplitsAndTwoInGoneModeKeepOut: laid · FnKeepsOutOneHolderIsAsNone: laid.
  DERIVED. THE GIVEN ROWS OF THIS SEAT. 2 by the template 'for every input the law returns true; each argument reads behind the call as it read before'; 0 by the template 'total and deterministic' (their statements: Qxb6614373aDoorTotals.lean).
  GIVEN WITH THE SEED: the statements are not yours to turn. If you find one false, say at which input.
  Laid BY PROGRAM, IN A SANDBOX (cutbox-rows.mjs): the forced cells as the released guide's own fill.sh prints them over the translation 66a4551ab71514a7… (all of the seat's roots in one cut). By AI agents, Wed Nov 11 2026. No macro, syntax, notation, axiom, sorry.
-/
import Derived.Test.Qxb6614373aDoorChecked
import GoSem.Claim
import GoSem.ClaimJoined
import GoSem.ClaimMapViews
import Derived.JoinedTies
import Derived.KernelRfl
namespace Go.Proofs.Qxb6614373aDoor
/- THE CELL 'sum', in the pinned program and in every row, IS THE sha256 OF THE DUMP (.gsa) THAT Qxb6614373aDoorProg.lean LOADS. Nothing in Lean hashes anything: it is a label: what it is worth is what the hold of that sum in a sandbox is worth. -/
noncomputable def Tryd.pinned : Pinned := { name := "qxb6614373adoor", sum := "66a4551ab71514a7cfda24c04258cd04cc07bc66bf11ab0271061de3e6a7bfb9", checked := Tryd.checked }
namespace Rows
def none {H : Type} : Left H := { results := [], args := [] }

/- WHAT THE LISTED PACKAGE-LEVEL VARIABLES READ AS WHEN THE CALL BEGINS. Each datum BY PROGRAM (the guide's laid-datum.mjs) off the statement by which the dump's own 'gosem.cut.vars' lays the variable. In a bare row this is a premise. The card (Qxb6614373aDoorCards.lean) ties it to the program's text. -/
def laid_example_com_pawl_pawl_modes {H : Type} : DataW H := .agg [.agg [.lit (.string []), .lit (.int .u16 0), .lit (.int .u16 0), .lit (.int .u8 0)], .agg [.lit (.string [83]), .lit (.int .u16 26), .lit (.int .u16 18), .lit (.int .u8 4)], .agg [.lit (.string [88]), .lit (.int .u16 0), .lit (.int .u16 126), .lit (.int .u8 5)], .agg [.lit (.string [85]), .lit (.int .u16 18), .lit (.int .u16 26), .lit (.int .u8 5)], .agg [.lit (.string [73, 83]), .lit (.int .u16 122), .lit (.int .u16 16), .lit (.int .u8 4)], .agg [.lit (.string [73, 88]), .lit (.int .u16 48), .lit (.int .u16 48), .lit (.int .u8 5)], .agg [.lit (.string [83, 73, 88]), .lit (.int .u16 16), .lit (.int .u16 122), .lit (.int .u8 5)]]

/-- 'zzlaws_root_b1.FnKeepsOutSplitsAndTwoInGoneModeKeepOut': WHATEVER THE INPUT: true; the input reads as it did. -/
def fnKeepsOutSplitsAndTwoInGoneModeKeepOutSpec : ChangeSpec := { name := "fnKeepsOutSplitsAndTwoInGoneModeKeepOut", vars := ["example.com/pawl/pawl.modes"], fn := fun _ => fun
  | [d1, d2, d3, d4, g1] => { results := [.lit (.bool true)], args := [d1, d2, d3, d4], vars := [g1] }
  | _ => none }
def fnKeepsOutSplitsAndTwoInGoneModeKeepOutRow : OpenClaim := { program := "qxb6614373adoor", sum := "66a4551ab71514a7cfda24c04258cd04cc07bc66bf11ab0271061de3e6a7bfb9", func := "example.com/pawl/pawl/zzlaws_root_b1.FnKeepsOutSplitsAndTwoInGoneModeKeepOut", spec := "fnKeepsOutSplitsAndTwoInGoneModeKeepOut", named := ["example.com/pawl/pawl.modes"], apart := false, laid := [("example.com/pawl/pawl.modes", laid_example_com_pawl_pawl_modes)] }
def FnKeepsOutSplitsAndTwoInGoneModeKeepOutSaid : Prop := fnKeepsOutSplitsAndTwoInGoneModeKeepOutRow.holds Tryd.pinned (OpenSpec.ofChange fnKeepsOutSplitsAndTwoInGoneModeKeepOutSpec)

/-- ITS FALSE NEIGHBOUR: 'it returns false'. Refute it at one input. -/
def fnKeepsOutSplitsAndTwoInGoneModeKeepOutWrong : ChangeSpec := { name := "fnKeepsOutSplitsAndTwoInGoneModeKeepOut", vars := ["example.com/pawl/pawl.modes"], fn := fun _ => fun
  | [d1, d2, d3, d4, g1] => { results := [.lit (.bool false)], args := [d1, d2, d3, d4], vars := [g1] }
  | _ => none }
def FnKeepsOutSplitsAndTwoInGoneModeKeepOutWrongFalsely : Prop := fnKeepsOutSplitsAndTwoInGoneModeKeepOutRow.holds Tryd.pinned (OpenSpec.ofChange fnKeepsOutSplitsAndTwoInGoneModeKeepOutWrong)

/-- 'zzlaws_root_b1.FnKeepsOutOneHolderIsAsNone': WHATEVER THE INPUT: true; the input reads as it did. -/
def fnKeepsOutOneHolderIsAsNoneSpec : ChangeSpec := { name := "fnKeepsOutOneHolderIsAsNone", vars := ["example.com/pawl/pawl.modes"], fn := fun _ => fun
  | [d1, d2, d3, g1] => { results := [.lit (.bool true)], args := [d1, d2, d3], vars := [g1] }
  | _ => none }
def fnKeepsOutOneHolderIsAsNoneRow : OpenClaim := { program := "qxb6614373adoor", sum := "66a4551ab71514a7cfda24c04258cd04cc07bc66bf11ab0271061de3e6a7bfb9", func := "example.com/pawl/pawl/zzlaws_root_b1.FnKeepsOutOneHolderIsAsNone", spec := "fnKeepsOutOneHolderIsAsNone", named := ["example.com/pawl/pawl.modes"], apart := false, laid := [("example.com/pawl/pawl.modes", laid_example_com_pawl_pawl_modes)] }
def FnKeepsOutOneHolderIsAsNoneSaid : Prop := fnKeepsOutOneHolderIsAsNoneRow.holds Tryd.pinned (OpenSpec.ofChange fnKeepsOutOneHolderIsAsNoneSpec)

/-- ITS FALSE NEIGHBOUR: 'it returns false'. Refute it at one input. -/
def fnKeepsOutOneHolderIsAsNoneWrong : ChangeSpec := { name := "fnKeepsOutOneHolderIsAsNone", vars := ["example.com/pawl/pawl.modes"], fn := fun _ => fun
  | [d1, d2, d3, g1] => { results := [.lit (.bool false)], args := [d1, d2, d3], vars := [g1] }
  | _ => none }
def FnKeepsOutOneHolderIsAsNoneWrongFalsely : Prop := fnKeepsOutOneHolderIsAsNoneRow.holds Tryd.pinned (OpenSpec.ofChange fnKeepsOutOneHolderIsAsNoneWrong)

end Rows
end Go.Proofs.Qxb6614373aDoor
