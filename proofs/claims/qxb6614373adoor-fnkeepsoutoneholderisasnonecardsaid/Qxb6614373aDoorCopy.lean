/-
  WHAT BOTH LAWS SHARE: the argument 'held' as the walks are told of it, and the copy that each law makes of it.
-/
import Derived.Test.Qxb6614373aDoorZz
import Derived.Test.Qxb6614373aDoorSide
import Derived.Laws.CopyOwn
namespace Go.Proofs.Qxb6614373aDoor.W
open Go.RowKit
set_option linter.unusedVariables false

theorem info21 : (Tryd.prog.info? 21).map (fun i => (i.zero, i.size, i.bytes)) = some (some (.int .i32 0), 1, 4) := by kernel_rfl
theorem size21 : (Tryd.prog.info? 21).map (·.size) = some 1 := by kernel_rfl

/-- WHAT IS KNOWN OF THE SLICE 'held' THAT CAME IN: zs are its elements. -/
def Row (ao : Option Addr) (len : Nat) (zs : List Int) (w : World) : Prop :=
  zs.length = len ∧ (0 < len → ∃ b off, ao = some ⟨b, off, none⟩ ∧ ∀ i, i < len → w.cell? ⟨b, off + i, none⟩ = some (.int .i32 (heldN zs i)))

theorem heldok_all (ao : Option Addr) (len cap : Nat) (zs : List Int) (hm : len ≤ maxLen) (w : World) (hr : Row ao len zs w) :
    Calls Tryd.prog 6 #[.slice ao len cap] w fun e w' => OkSaid zs len w e w' := by
  rcases Nat.eq_zero_or_pos len with rfl | hl
  · exact (heldok_empty ao cap w).mono fun e w' ⟨he, hw⟩ => by subst hw; exact OkSaid.any true he (by omega) (fun i hi => by omega)
  · obtain ⟨b, off, rfl, hc⟩ := hr.2 hl
    exact heldok b off len cap zs hr.1 hl hm w hc

/-- the bounds at every mode, out of those at the elements. -/
theorem bounds_all {zs : List Int} {len : Nat} (hz : zs.length = len) (h : ∀ i, i < len → 0 ≤ heldN zs i ∧ heldN zs i ≤ 1048576) (i : Nat) : 0 ≤ heldN zs i ∧ heldN zs i ≤ 1048576 := by
  by_cases hi : i < len
  · exact h i hi
  · rw [heldN_past (by omega)]; omega

/-- the copy that the law makes of 'held': block B holds zs. -/
theorem copied {w2 : World} {B len : Nat} {cur : List Value} {zs : List Int} {t : TypeId} (hz : zs.length = len) (hcur : cur.length = len)
    (h : w2.heap[B]? = some (.cells (splice cur 0 (zs.map (Value.int .i32))).toArray t (0, 0))) : ∀ i, i < len → w2.cell? ⟨B, i, none⟩ = some (.int .i32 (heldN zs i)) := by
  intro i hi
  have e : splice cur 0 (zs.map (Value.int .i32)) = zs.map (Value.int .i32) := by
    simp [splice, List.drop_eq_nil_of_le (show cur.length ≤ zs.length by omega)]
  rw [e] at h
  rw [cell_of_row w2 B i _ t (0, 0) h]
  simp [heldN, List.getD, show i < zs.length by omega]

theorem hidden {p : Prop} (h : p) : Hid p := h
theorem own_block {w : World} {base g n : Nat} {e : TypeId} {xs : List Value} (h : w.ownsRow base e 1 (.slice (some ⟨g, 0, none⟩) n n) n xs) : ∃ cur : List Value, cur.length = n ∧ w.heap[g]? = some (.cells cur.toArray e (0, 0)) := by
  rcases h.2 with ⟨h', _⟩ | ⟨g', cap', cur, h', _, hg, _, _, hsz, _⟩
  · simp at h'
  · simp only [Value.slice.injEq, Option.some.injEq, Addr.mk.injEq, and_true, true_and] at h'
    obtain ⟨rfl, rfl⟩ := h'
    exact ⟨cur.toList, by simpa using hsz, by simpa using hg⟩
theorem copy_src {x : Addr} {len : Nat} {zs : List Int} {w w1 : World} (hr : Row (some x) len zs w) (hb : Below w.heap.size w w1) (B : Nat) :
    0 < (zs.map (Value.int .i32)).length → (some (⟨B, 0, none⟩ : Addr)) = some ⟨B, 0, none⟩ ∧ ∃ ad, some x = some ad ∧ ∀ j v, (zs.map (Value.int .i32))[j]? = some v → w1.cell? (ad.add j) = some v := by
  intro hp
  obtain ⟨hz, hrow⟩ := hr
  simp only [List.length_map] at hp
  obtain ⟨b, off, hx, hc⟩ := hrow (by omega)
  cases hx
  refine ⟨rfl, _, rfl, fun j v hv => ?_⟩
  rw [List.getElem?_map, Option.map_eq_some_iff] at hv
  obtain ⟨z, hz', rfl⟩ := hv
  have hj : j < zs.length := (List.getElem?_eq_some_iff.1 hz').1
  have h := hc j (by omega)
  rw [Go.WideShapes.add_plain, hb.cell (World.block_lt_of_cell? w _ h), h]
  simp [heldN, List.getD, hz']

end Go.Proofs.Qxb6614373aDoor.W
