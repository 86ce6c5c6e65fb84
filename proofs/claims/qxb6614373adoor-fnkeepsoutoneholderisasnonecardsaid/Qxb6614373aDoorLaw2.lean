/-
  THE WALK OF FnKeepsOutOneHolderIsAsNone (function 4), out of its callees' contracts.
-/
import Derived.Test.Qxb6614373aDoorCopy
namespace Go.Proofs.Qxb6614373aDoor.W
open Go.RowKit
set_option linter.unusedVariables false

theorem law2_long (s : Int) (ao : Option Addr) (len cap : Nat) (g : Int) (w : World) (hbig : 1048576 < len) :
    Calls Tryd.prog 4 #[.int .u16 s, .slice ao len cap, .int .u8 g] w fun e w' => e = .returned (.bool true) ∧ Below w.heap.size w w' := by
  go_enter Tryd.func4, Tryd.ntmps4
  go_wp2
  go_ret
  exact ⟨rfl, Below.refl _ _⟩

theorem wantTo_succ (c : Nat → Int) (s : Int) (g j : Nat) (h : 1 ≤ j) : wantTo c s g j = (wantTo c s g (j - 1) && (!hasM s j || comp c j g)) := by
  obtain ⟨k, rfl⟩ : ∃ k, j = k + 1 := ⟨j - 1, by omega⟩
  rfl

set_option maxRecDepth 100000 in
set_option maxHeartbeats 2000000 in
theorem law2_some (c : Nat → Int) (s : Int) (x : Addr) (len cap g : Nat) (zs : List Int) (hs0 : 0 ≤ s) (hs1 : s ≤ 65535) (hg : g ≤ 255) (hlen : len ≤ 1048576) (w : World) (T : Tab c w)
    (hr : Row (some x) len zs w) :
    Calls Tryd.prog 4 #[.int .u16 s, .slice (some x) len cap, .int .u8 g] w fun e w' => e = .returned (.bool true) ∧ Below w.heap.size w w' := by
  have HT : Hid (Tab c w) := T
  have HR : Hid (Row (some x) len zs w) := hr
  have hm : len ≤ maxLen := by unfold maxLen; omega
  obtain ⟨i0, hi, hz0, hz1, hz2⟩ := info_parts info21
  have hneq := fun w => run_neq_slice_nil_any (P := Tryd.prog) w 23 21 (some x) len cap 0 0 Tryd.underlying23
  clear T hr
  go_enter Tryd.func4, Tryd.ntmps4
  go_wp2_with (go_at_call 10; go_in)
  refine (heldok_all (some x) len cap zs hm _ HR.out).mono ?_
  rintro e w ⟨r, rfl, rfl, hok⟩
  cases r
  · go_wp2
    go_ret
    exact ⟨rfl, Below.refl _ _⟩
  · obtain ⟨hle, hbd⟩ := hok rfl
    have HB : Hid (∀ i, 0 ≤ heldN zs i ∧ heldN zs i ≤ 1048576) := bounds_all HR.out.1 hbd
    clear hok hbd
    have hlz : (zs.map (Value.int .i32)).length = Nat.min len len := by simp [HR.out.1]
    have hone : ∀ v ∈ zs.map (Value.int .i32), v.oneCell' = true := by intro v hv; simp at hv; obtain ⟨z, _, rfl⟩ := hv; rfl
    have HLZ : Hid ((zs.map (Value.int .i32)).length = Nat.min len len) := hlz
    have HONE : Hid (∀ v ∈ zs.map (Value.int .i32), v.oneCell' = true) := hone
    clear hlz hone
    go_wp2_with (first
      | (at_make; refine wpList_make_full _ rfl _ _ 23 rfl w.heap.size 21 i0 (.int .i32 0) 1 Tryd.underlying23 hi hz0 hz1 _ _ _ _ len rfl rfl rfl rfl (by rw [hz2]; omega) hm (Nat.le_refl _) ?_; intro w1 hown hgrow; have hb1 : Below w.heap.size w w1 := (Below.refl _ _).grown hgrow (Nat.le_refl _) (fun k hk => by cases hk); obtain ⟨cur, hcl, hblk⟩ := own_block hown; have HP := hidden (copy_src HR.out hb1 w.heap.size); have HCL : Hid (cur.length = len) := hcl; clear hown hgrow hcl)
      | (refine wpList_copy_splice rfl (.tmp 26) (.tmp 27) 23 23 rfl 21 Tryd.underlying23 size21 _ _ _ _ _ _ rfl rfl w.heap.size 0 cur 21 hblk (zs.map (Value.int .i32)) HLZ.out HP.out (by have := HLZ.out; have := HCL.out; simp at *; omega) HONE.out w.heap.size w hb1 (Nat.le_refl _) ?_; intro w2 hblk2 hb2)
      | (go_at_call 7; go_in))
    have hc2 := copied HR.out.1 HCL.out hblk2.out
    have hB : w.heap.size < w2.heap.size := lt_of_block hblk2.out
    have HC2 : Hid (∀ i, i < len → w2.cell? ⟨w.heap.size, i, none⟩ = some (.int .i32 (heldN zs i))) := hc2
    clear hc2 hblk hblk2 HP hb1 HLZ HONE hneq
    refine (holders w.heap.size len len zs HR.out.1 hle (fun i => (HB.out i).1) (fun i => (HB.out i).2) _ HC2.out).mono ?_
    rintro e w2 ⟨rfl, rfl⟩
    by_cases hfew : 1 < sumTo (heldN zs) 6
    · go_wp2
      go_ret
      exact ⟨rfl, hb2⟩
    · have hfew' : sumTo (heldN zs) 6 ≤ 1 := by omega
      have HZ1 : Hid (Calls Tryd.prog 8 #[.int .u16 s, .slice (some ⟨w.heap.size, 0, none⟩) len len, .int .u8 g] w2 fun e w' => e = .returned (.bool (wantTo c s g 6)) ∧ Below w2.heap.size w2 w') := by
        show Calls _ _ _ _ _
        rw [← keep_few c (heldN zs) s g (fun i => (HB.out i).1) hfew']
        exact zz_some c s g w.heap.size len len zs hg HR.out.1 hle (fun i => (HB.out i).1) (fun i => (HB.out i).2) w2 (HT.out.below HT.out.lt hb2) HC2.out hB
      have HZ2 : Hid (∀ W : World, Below w2.heap.size w2 W → Calls Tryd.prog 8 #[.int .u16 s, .slice none 0 0, .int .u8 g] W fun e w' => e = .returned (.bool (wantTo c s g 6)) ∧ Below W.heap.size W w') := by
        intro W hW
        rw [← keep_few c (heldN []) s g (fun i => by rw [heldN_nil]; omega) (by rw [sumTo_nil]; omega)]
        exact zz_nil c s g hg W ((HT.out.below HT.out.lt hb2).below (by omega) hW)
      have d0 : decide (1 < sumTo (heldN zs) 6) = false := by simp; omega
      clear hfew hfew'
      go_wp2_with fail
      refine HZ1.out.mono ?_
      rintro e w3 ⟨rfl, hb3⟩
      go_wp2_with fail
      refine (HZ2.out _ hb3).mono ?_
      rintro e w4 ⟨rfl, hb4⟩
      have hb4' := hb3.trans (hb4.mono hb3.size)
      have hfin : Below w.heap.size w w4 := hb2.trans (hb4'.mono hb2.size)
      have HT4 : Hid (Tab c w4) := HT.out.below HT.out.lt hfin
      clear hb3 hb4 hb4' hb2 HZ1 HZ2 HC2
      go_wp2_with fail
      go_loopw [11, 12] (fun t i wr => ∃ j : Nat, 1 ≤ j ∧ j ≤ 7 ∧ i = .int .i64 j ∧ t = .bool (wantTo c s g (j - 1)) ∧ Below w.heap.size w wr) (fun _ i _ => 7 - (intOf i).toNat)
      case atStart => exact ⟨1, by omega, by omega, rfl, rfl, hfin⟩
      case round =>
        obtain ⟨j, hj1, hj7, rfl, rfl, hbel⟩ := hrel
        by_cases hlt : j < 7
        · have HTr : Hid (Tab c wr) := HT.out.below HT.out.lt hbel
          have hs := hbel.size
          have HS : Hid (wantTo c s g j = (wantTo c s g (j - 1) && (!hasM s j || comp c j g))) := wantTo_succ c s g j hj1
          go_wp2_with fail
          refine (bit_any s j hlt _).mono ?_
          rintro e w5 ⟨rfl, rfl⟩
          cases hh : hasM s j
          · have HK : Hid (wantTo c s g j = wantTo c s g (j - 1)) := by show _ = _; rw [HS.out, hh]; simp
            go_wp2
            go_roundw
            case rel => exact ⟨j + 1, by omega, by omega, by go_num, by rw [Nat.add_sub_cancel, HK.out], hbel⟩
            case measure => simp [intOf]; omega
          · go_wp2_with fail
            refine (compat c j g (by omega) hg _ HTr.out).mono ?_
            rintro e w6 ⟨rfl, hb6⟩
            have hbel6 := hbel.trans (hb6.mono hs)
            clear hb6 hbel
            cases hc : comp c j g
            · have HK : Hid (wantTo c s g j = false) := by show _ = _; rw [HS.out, hh, hc]; simp
              go_wp2
              go_roundw
              case rel => exact ⟨j + 1, by omega, by omega, by go_num, by rw [Nat.add_sub_cancel, HK.out], hbel6⟩
              case measure => simp [intOf]; omega
            · have HK : Hid (wantTo c s g j = wantTo c s g (j - 1)) := by show _ = _; rw [HS.out, hh, hc]; simp
              go_wp2
              go_roundw
              case rel => exact ⟨j + 1, by omega, by omega, by go_num, by rw [Nat.add_sub_cancel, HK.out], hbel6⟩
              case measure => simp [intOf]; omega
        · obtain rfl : j = 7 := by omega
          go_wp2
          go_ret
          exact ⟨rfl, hbel⟩

set_option maxRecDepth 100000 in
set_option maxHeartbeats 2000000 in
theorem law2_nil (c : Nat → Int) (s : Int) (g : Nat) (hs0 : 0 ≤ s) (hs1 : s ≤ 65535) (hg : g ≤ 255) (w : World) (T : Tab c w) :
    Calls Tryd.prog 4 #[.int .u16 s, .slice none 0 0, .int .u8 g] w fun e w' => e = .returned (.bool true) ∧ Below w.heap.size w w' := by
  have HT : Hid (Tab c w) := T
  have hneq := fun w => run_neq_slice_nil_any (P := Tryd.prog) w 23 21 none 0 0 0 0 Tryd.underlying23
  have HZ2 : Hid (∀ W : World, Below w.heap.size w W → Calls Tryd.prog 8 #[.int .u16 s, .slice none 0 0, .int .u8 g] W fun e w' => e = .returned (.bool (wantTo c s g 6)) ∧ Below W.heap.size W w') := by
    intro W hW
    rw [← keep_few c (heldN []) s g (fun i => by rw [heldN_nil]; omega) (by rw [sumTo_nil]; omega)]
    exact zz_nil c s g hg W (HT.out.below HT.out.lt hW)
  clear T
  go_enter Tryd.func4, Tryd.ntmps4
  go_wp2_with (go_at_call 10; go_in)
  refine (heldok_empty none 0 _).mono ?_
  rintro e w ⟨rfl, rfl⟩
  go_wp2_with (go_at_call 7; go_in)
  refine (holders_nil _).mono ?_
  rintro e w ⟨rfl, rfl⟩
  go_wp2_with fail
  refine (HZ2.out _ (Below.refl _ _)).mono ?_
  rintro e w3 ⟨rfl, hb3⟩
  go_wp2_with fail
  refine (HZ2.out _ hb3).mono ?_
  rintro e w4 ⟨rfl, hb4⟩
  have hfin : Below w.heap.size w w4 := hb3.trans (hb4.mono hb3.size)
  clear hb3 hb4 HZ2 hneq
  go_wp2_with fail
  go_loopw [11, 12] (fun t i wr => ∃ j : Nat, 1 ≤ j ∧ j ≤ 7 ∧ i = .int .i64 j ∧ t = .bool (wantTo c s g (j - 1)) ∧ Below w.heap.size w wr) (fun _ i _ => 7 - (intOf i).toNat)
  case atStart => exact ⟨1, by omega, by omega, rfl, rfl, hfin⟩
  case round =>
    obtain ⟨j, hj1, hj7, rfl, rfl, hbel⟩ := hrel
    by_cases hlt : j < 7
    · have HTr : Hid (Tab c wr) := HT.out.below HT.out.lt hbel
      have hs := hbel.size
      have HS : Hid (wantTo c s g j = (wantTo c s g (j - 1) && (!hasM s j || comp c j g))) := wantTo_succ c s g j hj1
      go_wp2_with fail
      refine (bit_any s j hlt _).mono ?_
      rintro e w5 ⟨rfl, rfl⟩
      cases hh : hasM s j
      · have HK : Hid (wantTo c s g j = wantTo c s g (j - 1)) := by show _ = _; rw [HS.out, hh]; simp
        go_wp2
        go_roundw
        case rel => exact ⟨j + 1, by omega, by omega, by go_num, by rw [Nat.add_sub_cancel, HK.out], hbel⟩
        case measure => simp [intOf]; omega
      · go_wp2_with fail
        refine (compat c j g (by omega) hg _ HTr.out).mono ?_
        rintro e w6 ⟨rfl, hb6⟩
        have hbel6 := hbel.trans (hb6.mono hs)
        clear hb6 hbel
        cases hc : comp c j g
        · have HK : Hid (wantTo c s g j = false) := by show _ = _; rw [HS.out, hh, hc]; simp
          go_wp2
          go_roundw
          case rel => exact ⟨j + 1, by omega, by omega, by go_num, by rw [Nat.add_sub_cancel, HK.out], hbel6⟩
          case measure => simp [intOf]; omega
        · have HK : Hid (wantTo c s g j = wantTo c s g (j - 1)) := by show _ = _; rw [HS.out, hh, hc]; simp
          go_wp2
          go_roundw
          case rel => exact ⟨j + 1, by omega, by omega, by go_num, by rw [Nat.add_sub_cancel, HK.out], hbel6⟩
          case measure => simp [intOf]; omega
    · obtain rfl : j = 7 := by omega
      go_wp2
      go_ret
      exact ⟨rfl, hbel⟩

end Go.Proofs.Qxb6614373aDoor.W
