/-
  THE WALKS OF zzHeldOK (6), zzHolders (11), zzValid (9), zzBit (12).
-/
import Derived.Test.Qxb6614373aDoorKeep
namespace Go.Proofs.Qxb6614373aDoor.W
open Go.RowKit
set_option linter.unusedVariables false

/-- 'it answers some bool; where it says yes, the bounds hold; the world stands'. -/
def OkSaid (zs : List Int) (len : Nat) (w : World) (e : Ending) (w' : World) : Prop := ∃ r : Bool, e = .returned (.bool r) ∧ w' = w ∧ (r = true → len ≤ 4096 ∧ ∀ i, i < len → 0 ≤ heldN zs i ∧ heldN zs i ≤ 1048576)
theorem OkSaid.no {zs : List Int} {len : Nat} {w : World} {e : Ending} (he : e = .returned (.bool false)) : OkSaid zs len w e w := ⟨false, he, rfl, fun h => by cases h⟩
theorem OkSaid.any {zs : List Int} {len : Nat} {w : World} {e : Ending} (r : Bool) (he : e = .returned (.bool r)) (h : len ≤ 4096) (h2 : ∀ i, i < len → 0 ≤ heldN zs i ∧ heldN zs i ≤ 1048576) : OkSaid zs len w e w := ⟨r, he, rfl, fun _ => ⟨h, h2⟩⟩

set_option maxRecDepth 100000 in
set_option maxHeartbeats 1000000 in
/-- 'zzHeldOK(held)': whatever it answers; where it says yes, the bounds hold. -/
theorem heldok (b off len cap : Nat) (zs : List Int) (hz : zs.length = len) (hl0 : 0 < len) (hm : len ≤ maxLen) (w : World)
    (hc : ∀ i, i < len → w.cell? ⟨b, off + i, none⟩ = some (.int .i32 (heldN zs i))) :
    Calls Tryd.prog 6 #[.slice (some ⟨b, off, none⟩) len cap] w fun e w' => OkSaid zs len w e w' := by
  have HC : Hid (∀ i, i < len → w.cell? ⟨b, off + i, none⟩ = some (.int .i32 (heldN zs i))) := hc
  have HZ : Hid (zs.length = len) := hz
  unfold maxLen at hm
  clear hc hz
  by_cases hbig : 4096 < len
  · go_enter Tryd.func6, Tryd.ntmps6
    go_wp2
    go_ret
    exact OkSaid.no rfl
  · have hle : len ≤ 4096 := by omega
    have e0 : ((len : Int) == 0) = false := by simp; omega
    clear hbig
    go_enter Tryd.func6, Tryd.ntmps6
    go_wp2
    go_loop [3] (fun i => ∃ k : Nat, k ≤ len ∧ i = .int .i64 k ∧ Hid (∀ j, j < k → 0 ≤ heldN zs j ∧ heldN zs j ≤ 1048576)) (fun i => len - (intOf i).toNat)
    case atStart => exact ⟨0, by omega, rfl, fun j hj => by omega⟩
    case round =>
      obtain ⟨k, hk, rfl, hall⟩ := hrel
      by_cases hlt : k < len
      · have hcell := HC.out k hlt
        by_cases h1 : heldN zs k < 0
        · go_wp2
          go_ret
          exact OkSaid.no rfl
        · by_cases h2 : 1048576 < heldN zs k
          · go_wp2
            go_ret
            exact OkSaid.no rfl
          · have HA : Hid (∀ j, j < k + 1 → 0 ≤ heldN zs j ∧ heldN zs j ≤ 1048576) := fun j hj => by
              by_cases e : j = k
              · subst e; omega
              · exact hall j (by omega)
            have d1 : decide (heldN zs k < 0) = false := by simp; omega
            have d2 : decide ((1048576 : Int) < heldN zs k) = false := by simp; omega
            go_wp2
            go_round
            case rel => exact ⟨k + 1, by omega, by go_num, HA⟩
            case measure => simp [intOf]; omega
      · obtain rfl : k = len := by omega
        have hcell : w.cell? ⟨b, off, none⟩ = some (.int .i32 (heldN zs 0)) := HC.out 0 hl0
        go_wp2
        go_ret
        exact OkSaid.any _ rfl hle hall

theorem heldok_empty (ao : Option Addr) (cap : Nat) (w : World) :
    Calls Tryd.prog 6 #[.slice ao 0 cap] w fun e w' => e = .returned (.bool true) ∧ w' = w := by
  go_enter Tryd.func6, Tryd.ntmps6
  go_wp2
  refine wp_loop_rounds 1 ?_
  rw [rounds_succ]
  go_wp2
  go_ret
  exact ⟨rfl, rfl⟩

theorem sumTo_succ (N : Nat → Int) (j : Nat) (h : 1 ≤ j) : sumTo N j = sumTo N (j - 1) + N j := by
  obtain ⟨k, rfl⟩ : ∃ k, j = k + 1 := ⟨j - 1, by omega⟩
  rfl
theorem sumTo_nonneg (N : Nat → Int) (h : ∀ m, 0 ≤ N m) : ∀ k, 0 ≤ sumTo N k
  | 0 => by simp [sumTo]
  | k + 1 => by have := sumTo_nonneg N h k; have := h (k + 1); simp only [sumTo]; omega
theorem sumTo_le (N : Nat → Int) (h : ∀ m, N m ≤ 1048576) : ∀ k : Nat, sumTo N k ≤ k * 1048576
  | 0 => by simp [sumTo]
  | k + 1 => by have := sumTo_le N h k; have := h (k + 1); simp only [sumTo]; omega
theorem sumTo_past (N : Nat → Int) (k : Nat) (h : ∀ m, k < m → N m = 0) : ∀ n, k ≤ n → sumTo N n = sumTo N k
  | 0, hn => by obtain rfl : k = 0 := by omega
                rfl
  | n + 1, hn => by
    rcases Nat.lt_or_ge n k with hlt | hge
    · obtain rfl : k = n + 1 := by omega
      rfl
    · simp only [sumTo, sumTo_past N k h n hge, h (n + 1) (by omega)]; omega

set_option maxRecDepth 100000 in
set_option maxHeartbeats 1000000 in
/-- 'zzHolders(held, 7)' -/
theorem holders (b len cap : Nat) (zs : List Int) (hz : zs.length = len) (hle : len ≤ 4096) (hz0 : ∀ i, 0 ≤ heldN zs i) (hz1 : ∀ i, heldN zs i ≤ 1048576) (w : World)
    (hc : ∀ i, i < len → w.cell? ⟨b, i, none⟩ = some (.int .i32 (heldN zs i))) :
    Calls Tryd.prog 11 #[.slice (some ⟨b, 0, none⟩) len cap, .int .i64 7] w fun e w' => e = .returned (.int .i64 (sumTo (heldN zs) 6)) ∧ w' = w := by
  have HC : Hid (∀ i, i < len → w.cell? ⟨b, i, none⟩ = some (.int .i32 (heldN zs i))) := hc
  have HZ : Hid (zs.length = len) := hz
  have H0 : Hid (∀ i, 0 ≤ heldN zs i) := hz0
  have H1 : Hid (∀ i, heldN zs i ≤ 1048576) := hz1
  clear hc hz hz0 hz1
  go_enter Tryd.func11, Tryd.ntmps11
  go_wp2
  go_loop [5, 6] (fun t i => ∃ j : Nat, 1 ≤ j ∧ j ≤ 7 ∧ (j = 1 ∨ j ≤ len) ∧ i = .int .i64 j ∧ t = .int .i64 (sumTo (heldN zs) (j - 1))) (fun _ i => 7 - (intOf i).toNat)
  case atStart => exact ⟨1, by omega, by omega, .inl rfl, rfl, rfl⟩
  case round =>
    obtain ⟨j, hj1, hj7, hjl, rfl, rfl⟩ := hrel
    have s0 := sumTo_nonneg _ H0.out (j - 1)
    have s1 := sumTo_le _ H1.out (j - 1)
    have n0 := H0.out j
    have n1 := H1.out j
    by_cases h7 : j < 7
    · by_cases hl : j < len
      · have hcell := HC.out j hl
        have HS : Hid (sumTo (heldN zs) j = sumTo (heldN zs) (j - 1) + heldN zs j) := sumTo_succ _ j hj1
        clear hjl
        go_wp2
        go_round
        case rel => exact ⟨j + 1, by omega, by omega, .inr (by omega), by go_num, by rw [Nat.add_sub_cancel, HS.out]⟩
        case measure => simp [intOf]; omega
      · have HE : Hid (sumTo (heldN zs) 6 = sumTo (heldN zs) (j - 1)) := sumTo_past _ (j - 1) (fun m hm => by have := HZ.out; simp [heldN, List.getD, List.getElem?_eq_none (show zs.length ≤ m by omega)]) 6 (by omega)
        clear hjl
        go_wp2
        go_ret
        exact ⟨by rw [HE.out]; rfl, rfl⟩
    · obtain rfl : j = 7 := by omega
      clear hjl
      go_wp2
      go_ret
      exact ⟨rfl, rfl⟩

theorem holders_nil (w : World) : Calls Tryd.prog 11 #[.slice none 0 0, .int .i64 7] w fun e w' => e = .returned (.int .i64 0) ∧ w' = w := by
  go_enter Tryd.func11, Tryd.ntmps11
  go_wp2
  refine wp_loop_rounds 1 ?_
  rw [rounds_succ]
  go_wp2
  go_ret
  exact ⟨rfl, rfl⟩

/-- 'zzValid(7)': the bits 1 .. 6. -/
theorem valid7 (w : World) : Calls Tryd.prog 9 #[.int .i64 7] w fun e w' => e = .returned (.int .u16 126) ∧ w' = w := by
  go_enter Tryd.func9, Tryd.ntmps9
  go_wp2
  go_loop [3, 4] (fun t i => (t = .int .u16 0 ∧ i = .int .i64 1) ∨ (t = .int .u16 2 ∧ i = .int .i64 2) ∨ (t = .int .u16 6 ∧ i = .int .i64 3) ∨ (t = .int .u16 14 ∧ i = .int .i64 4) ∨ (t = .int .u16 30 ∧ i = .int .i64 5) ∨ (t = .int .u16 62 ∧ i = .int .i64 6) ∨ (t = .int .u16 126 ∧ i = .int .i64 7)) (fun _ i => 7 - (intOf i).toNat)
  case atStart => exact .inl ⟨rfl, rfl⟩
  case round =>
    have b1 : bits .or .u16 0 2 = 2 := by decide
    have b2 : bits .or .u16 2 4 = 6 := by decide
    have b3 : bits .or .u16 6 8 = 14 := by decide
    have b4 : bits .or .u16 14 16 = 30 := by decide
    have b5 : bits .or .u16 30 32 = 62 := by decide
    have b6 : bits .or .u16 62 64 = 126 := by decide
    rcases hrel with ⟨rfl, rfl⟩ | ⟨rfl, rfl⟩ | ⟨rfl, rfl⟩ | ⟨rfl, rfl⟩ | ⟨rfl, rfl⟩ | ⟨rfl, rfl⟩ | ⟨rfl, rfl⟩
    · go_wp2
      go_round
      case rel => simp
      case measure => simp [intOf]
    · go_wp2
      go_round
      case rel => simp
      case measure => simp [intOf]
    · go_wp2
      go_round
      case rel => simp
      case measure => simp [intOf]
    · go_wp2
      go_round
      case rel => simp
      case measure => simp [intOf]
    · go_wp2
      go_round
      case rel => simp
      case measure => simp [intOf]
    · go_wp2
      go_round
      case rel => simp
      case measure => simp [intOf]
    · go_wp2
      go_ret
      exact ⟨rfl, rfl⟩

/-- 'zzBit(s, m)' at a valid mode. -/
theorem bit_any (s : Int) (m : Nat) (hm : m < 7) (w : World) :
    Calls Tryd.prog 12 #[.int .u16 s, .int .i64 m] w fun e w' => e = .returned (.bool (hasM s m)) ∧ w' = w := by
  have d1 : decide ((m : Int) < 0) = false := by simp
  have d2 : decide ((16 : Int) ≤ (m : Int)) = false := by simp; omega
  go_enter Tryd.func12, Tryd.ntmps12
  go_wp2
  go_ret
  exact ⟨rfl, rfl⟩

end Go.Proofs.Qxb6614373aDoor.W
