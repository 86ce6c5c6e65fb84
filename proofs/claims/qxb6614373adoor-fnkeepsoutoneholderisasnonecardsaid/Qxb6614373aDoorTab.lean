/-
  FROM THE READING OF THE VARIABLE 'modes' TO WHAT THE WALKS ASK; the argument 'held', opened.
-/
import Derived.Test.Qxb6614373aDoorCopy
import Derived.ProofKit
import Derived.OpenShut
import Derived.Lib.SmallJoins
import Derived.WalkSmall
namespace Go.Proofs.Qxb6614373aDoor.W
open Go.RowKit Go.Joins

theorem cells81 : Tryd.prog.cellsOf 81 = 4 := by kernel_rfl
theorem cells39 : Tryd.prog.cellsOf 39 = 1 := by kernel_rfl

/-- the field 'compatible' of row m, off the variable's cells. -/
def compOf (cs : Array Value) (m : Nat) : Int :=
  match cs[m * 4 + 1]? with
  | some (.int _ n) => n
  | _ => 0

theorem tab_of_var {H : Type} {enc : TypeId × Value → H} {W : World} {name : String} {cs : Array Value} {spare : Nat → Bool} {held : Bool} {fuel : Nat} {x : DataW H × List MemPlace}
    (hg : Tryd.prog.globalNamed name = some 0) (hv : W.var? Tryd.prog name = some cs) (hd : DataW.trod enc Tryd.prog W 0 spare held fuel 82 cs.toList = some x) : Tab (compOf cs) W := by
  obtain ⟨xs, m1, _, _, hlen, hn, hel⟩ := DataW.trod_array Tryd.underlying82 hd
  intro m hm
  have h := hel m hm
  rw [List.getElem?_eq_getElem (show m < xs.length by omega)] at h
  obtain ⟨y0, y1, y2, y3, k, _, _, _, h1, _, _⟩ := trod_struct4 Tryd.underlying81 h
  obtain ⟨n, e1, _, _⟩ := DataW.trod_int Tryd.underlying39 h1
  rw [cells81, cells39] at e1
  have hc : cs[m * 4 + 1]? = some (.int .u16 n) := by
    have := congrArg (fun l : List Value => l[0]?) e1
    simpa [List.getElem?_take, List.getElem?_drop] using this
  rw [World.var?_cell hg hv, hc]
  simp [compOf, hc]

/-- the argument 'held', opened: nil, or a row. -/
theorem row_of {w : World} {x : Addr} {len cap : Nat} {z : List Int} (hl : len ≤ cap) (hz : z.length = cap) (hcell : ∀ i, i < z.length → w.cell? (x.add i) = some (.int .i32 (z.getD i 0))) :
    Row (some x) len (z.take len) w := by
  refine ⟨by simp; omega, fun h0 => ?_⟩
  obtain ⟨b, off, rfl, hc⟩ := ints_at hcell (by omega)
  refine ⟨b, off, rfl, fun i hi => ?_⟩
  rw [hc i (by omega)]
  simp [heldN, List.getD, hi]

end Go.Proofs.Qxb6614373aDoor.W
