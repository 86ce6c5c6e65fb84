/-
  THE WALKS OF THE SMALL CALLEES of this seat's two laws: has (18), valid (15), incompatibleIn (20), compatibleWith (16), modesOf (17), Compatible (13).
-/
import Derived.Test.Qxb6614373aDoorRows
import Derived.Test.Qxb6614373aDoorPlain
import Derived.WalkKit
import Derived.WalkSpells
import Derived.WalkLawsBesides
import Derived.OwnWalk
import Derived.Below
import Derived.Laws.BitsAllLaws
import Derived.KernelRfl
namespace Go.Proofs.Qxb6614373aDoor.W
open Go.RowKit
set_option linter.unusedVariables false

/-- THE TABLE 'modes' (block 0) holds c m as mode m's field 'compatible'. -/
def Tab (c : Nat → Int) (w : World) : Prop := ∀ m, m < 7 → w.cell? ⟨0, m * 4 + 1, none⟩ = some (.int .u16 (c m))
theorem Tab.lt {c : Nat → Int} {w : World} (h : Tab c w) : 0 < w.heap.size := World.block_lt_of_cell? w _ (h 0 (by omega))
theorem Tab.below {c : Nat → Int} {w w' : World} {B : Nat} (h : Tab c w) (hB : 0 < B) (hb : Below B w w') : Tab c w' := fun m hm => (hb.cell (p := ⟨0, m * 4 + 1, none⟩) hB).trans (h m hm)
theorem Tab.drew {c : Nat → Int} {w : World} (h : Tab c w) : Tab c w.drew := h.below h.lt (Below.refl w.heap.size w).drew
theorem Tab.alloc {c : Nat → Int} {w : World} (h : Tab c w) (o : Obj) : Tab c (w.alloc o) := h.below h.lt ((Below.refl w.heap.size w).alloc (Nat.le_refl _) o)

theorem has_any (s : Int) (m : Nat) (hm : m < 7) (w : World) :
    Calls Tryd.prog 18 #[.int .u16 s, .int .u8 m] w fun e w' => e = .returned (.bool (hasM s m)) ∧ w' = w := by
  go_enter Tryd.func18, Tryd.ntmps18
  go_wp2
  go_ret
  exact ⟨rfl, rfl⟩

theorem valid_yes (m : Nat) (h0 : 0 < m) (h1 : m < 7) (w : World) :
    Calls Tryd.prog 15 #[.int .u8 m] w fun e w' => e = .returned (.bool true) ∧ w' = w := by
  have d1 : decide ((m : Int) < 7) = true := by simp; omega
  go_enter Tryd.func15, Tryd.ntmps15
  go_wp2
  go_ret
  exact ⟨rfl, rfl⟩

theorem valid_no (m : Nat) (h : m = 0 ∨ 7 ≤ m) (h2 : m ≤ 255) (w : World) :
    Calls Tryd.prog 15 #[.int .u8 m] w fun e w' => e = .returned (.bool false) ∧ w' = w := by
  rcases h with rfl | h
  · go_enter Tryd.func15, Tryd.ntmps15
    go_wp2
    go_ret
    exact ⟨rfl, rfl⟩
  · have d1 : decide ((m : Int) < 7) = false := by simp; omega
    go_enter Tryd.func15, Tryd.ntmps15
    go_wp2
    go_ret
    exact ⟨rfl, rfl⟩

/-- 'm.compatibleWith(s)' -/
theorem cwith (m : Nat) (s c : Int) (h1 : m < 7) (w : World) (hc : w.cell? ⟨0, m * 4 + 1, none⟩ = some (.int .u16 c)) :
    Calls Tryd.prog 16 #[.int .u8 m, .int .u16 s] w fun e w' => e = .returned (.bool (bits .andNot .u16 s c == 0)) ∧ w' = w := by
  have i0 : (0 : Int) ≤ (m : Int) := Int.natCast_nonneg _
  have i1 : (m : Int) < 7 := by omega
  go_enter Tryd.func16, Tryd.ntmps16
  go_wp2
  go_ret
  exact ⟨rfl, rfl⟩

/-- 'modesOf(h)' -/
theorem modesOf1 (h g : Nat) (hh : h < 7) (w : World) (hc : w.cell? ⟨g, 0, none⟩ = some (.int .u8 h)) :
    Calls Tryd.prog 17 #[.slice (some ⟨g, 0, none⟩) 1 1] w fun e w' => e = .returned (.int .u16 (bits .or .u16 0 (IntKind.u16.wrap (2 ^ h)))) ∧ w' = w := by
  go_enter Tryd.func17, Tryd.ntmps17
  go_wp2
  refine wp_loop_rounds 2 ?_
  rw [rounds_succ]
  go_wp2
  rw [rounds_succ]
  go_wp2
  go_ret
  exact ⟨rfl, rfl⟩

/-- 'm.Compatible(h)' -/
theorem compat (c : Nat → Int) (m h : Nat) (hm : m ≤ 255) (hh : h ≤ 255) (w : World) (T : Tab c w) :
    Calls Tryd.prog 13 #[.int .u8 m, .int .u8 h] w fun e w' => e = .returned (.bool (comp c m h)) ∧ Below w.heap.size w w' := by
  by_cases vm : 0 < m ∧ m < 7
  · by_cases vh : 0 < h ∧ h < 7
    · have hcm := T m vm.2
      have H : Hid (comp c m h = (bits .andNot .u16 (bits .or .u16 0 (IntKind.u16.wrap (2 ^ h))) (c m) == 0)) := comp_valid vm.1 vm.2 vh.1 vh.2
      have T1 : ∀ o : Obj, (w.alloc o).cell? ⟨0, m * 4 + 1, none⟩ = some (.int .u16 (c m)) := fun o => T.alloc o m vm.2
      go_enter Tryd.func13, Tryd.ntmps13
      go_wp2_with fail
      refine (valid_yes m vm.1 vm.2 _).mono ?_
      rintro e w1 ⟨rfl, rfl⟩
      go_wp2_with fail
      refine (valid_yes h vh.1 vh.2 _).mono ?_
      rintro e w1 ⟨rfl, rfl⟩
      go_wp2_with fail
      refine (modesOf1 h _ vh.2 _ (by simp)).mono ?_
      rintro e w1 ⟨rfl, rfl⟩
      go_wp2_with fail
      refine (cwith m _ _ vm.2 _ (T1 _)).mono ?_
      rintro e w1 ⟨rfl, rfl⟩
      go_wp2
      go_ret
      exact ⟨by rw [H.out]; rfl, (Below.refl _ _).alloc (Nat.le_refl _) _⟩
    · have H : Hid (comp c m h = false) := by
        show comp c m h = false
        have : (decide (0 < h) && decide (h < 7)) = false := by simp; omega
        simp [comp, this]
      go_enter Tryd.func13, Tryd.ntmps13
      go_wp2_with fail
      refine (valid_yes m vm.1 vm.2 _).mono ?_
      rintro e w1 ⟨rfl, rfl⟩
      go_wp2_with fail
      refine (valid_no h (by omega) hh _).mono ?_
      rintro e w1 ⟨rfl, rfl⟩
      go_wp2
      go_ret
      exact ⟨by rw [H.out]; rfl, Below.refl _ _⟩
  · have H : Hid (comp c m h = false) := by
      show comp c m h = false
      have : (decide (0 < m) && decide (m < 7)) = false := by simp; omega
      simp [comp, this]
    go_enter Tryd.func13, Tryd.ntmps13
    go_wp2_with fail
    refine (valid_no m (by omega) hm _).mono ?_
    rintro e w1 ⟨rfl, rfl⟩
    go_wp2
    go_ret
    exact ⟨by rw [H.out]; rfl, Below.refl _ _⟩

end Go.Proofs.Qxb6614373aDoor.W
