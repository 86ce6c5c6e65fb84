/-
  DERIVED. GIVEN WITH THE SEED: THE CARDS: each row of Qxb6614373aDoorRows.lean that lists a variable, with what it lists TIED to the program's text (the seventh form; the later family's looks); each row that meets fmt, with fmt's text TOLD by the authors' own Lean function (tested against real Go, not proved from fmt's source: count such statements apart). THE CARD IS WHAT COUNTS. Prove the row's statement (the work); the ties are given (Qxb6614373aDoorTie.lean); close each card by the builder's one call (the guide's Derived/Test/ToyasCard.lean, 'card_holds'). Laid BY PROGRAM, IN A SANDBOX (cutbox-door.mjs). By AI agents, Wed Nov 11 2026. No macro, syntax, notation, axiom, sorry.
-/
import Derived.Test.Qxb6614373aDoorRows
import GoSem.ClaimSeven
namespace Go.Proofs.Qxb6614373aDoor
namespace Rows

/-- THE TIED CARD OF 'zzlaws_root_b1.FnKeepsOutSplitsAndTwoInGoneModeKeepOut'. -/
def fnKeepsOutSplitsAndTwoInGoneModeKeepOutCard : Claim7 := { stood := { row := fnKeepsOutSplitsAndTwoInGoneModeKeepOutRow, standIns := [], harness := (true, "b32c3b883e77eec1dd2c24c07af5ea21cc5bf13f77d4f1a48072530b47de615f"), looks := false }, kinds := [], alts := [], laidByText := true, laidKinds := [.calledDeep], laidTests := true, laidLooks := .later }
def FnKeepsOutSplitsAndTwoInGoneModeKeepOutCardSaid : Prop := Claim7.holds Tryd.pinned (.plain (OpenSpec.ofChange fnKeepsOutSplitsAndTwoInGoneModeKeepOutSpec)) fnKeepsOutSplitsAndTwoInGoneModeKeepOutCard

/-- THE TIED CARD OF 'zzlaws_root_b1.FnKeepsOutOneHolderIsAsNone'. -/
def fnKeepsOutOneHolderIsAsNoneCard : Claim7 := { stood := { row := fnKeepsOutOneHolderIsAsNoneRow, standIns := [], harness := (true, "b32c3b883e77eec1dd2c24c07af5ea21cc5bf13f77d4f1a48072530b47de615f"), looks := false }, kinds := [], alts := [], laidByText := true, laidKinds := [.calledDeep], laidTests := true, laidLooks := .later }
def FnKeepsOutOneHolderIsAsNoneCardSaid : Prop := Claim7.holds Tryd.pinned (.plain (OpenSpec.ofChange fnKeepsOutOneHolderIsAsNoneSpec)) fnKeepsOutOneHolderIsAsNoneCard
end Rows
end Go.Proofs.Qxb6614373aDoor
