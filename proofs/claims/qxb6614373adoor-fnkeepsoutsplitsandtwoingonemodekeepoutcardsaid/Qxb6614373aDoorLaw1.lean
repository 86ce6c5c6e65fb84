/-
  THE WALK OF FnKeepsOutSplitsAndTwoInGoneModeKeepOut (function 3), out of its callees' contracts.
-/
import Derived.Test.Qxb6614373aDoorCopy
namespace Go.Proofs.Qxb6614373aDoor.W
open Go.RowKit
set_option linter.unusedVariables false

theorem law1_long (s : Int) (ao : Option Addr) (len cap : Nat) (g cut : Int) (w : World) (hbig : 1048576 < len) :
    Calls Tryd.prog 3 #[.int .u16 s, .slice ao len cap, .int .u8 g, .int .u16 cut] w fun e w' => e = .returned (.bool true) ∧ Below w.heap.size w w' := by
  go_enter Tryd.func3, Tryd.ntmps3
  go_wp2
  go_ret
  exact ⟨rfl, Below.refl _ _⟩

set_option maxRecDepth 100000 in
set_option maxHeartbeats 2000000 in
theorem law1_some (c : Nat → Int) (s : Int) (x : Addr) (len cap g : Nat) (cut : Int) (zs : List Int) (hs0 : 0 ≤ s) (hs1 : s ≤ 65535) (ht0 : 0 ≤ cut) (ht1 : cut ≤ 65535) (hg : g ≤ 255) (hlen : len ≤ 1048576) (w : World) (T : Tab c w)
    (hr : Row (some x) len zs w) :
    Calls Tryd.prog 3 #[.int .u16 s, .slice (some x) len cap, .int .u8 g, .int .u16 cut] w fun e w' => e = .returned (.bool true) ∧ Below w.heap.size w w' := by
  have HT : Hid (Tab c w) := T
  have HR : Hid (Row (some x) len zs w) := hr
  have hm : len ≤ maxLen := by unfold maxLen; omega
  obtain ⟨i0, hi, hz0, hz1, hz2⟩ := info_parts info21
  have hneq := fun w => run_neq_slice_nil_any (P := Tryd.prog) w 23 21 (some x) len cap 0 0 Tryd.underlying23
  clear T hr
  go_enter Tryd.func3, Tryd.ntmps3
  go_wp2_with (go_at_call 5; go_in)
  refine (heldok_all (some x) len cap zs hm _ HR.out).mono ?_
  rintro e w ⟨r, rfl, rfl, hok⟩
  cases r
  · go_wp2
    go_ret
    exact ⟨rfl, Below.refl _ _⟩
  · obtain ⟨hle, hbd⟩ := hok rfl
    have HB : Hid (∀ i, 0 ≤ heldN zs i ∧ heldN zs i ≤ 1048576) := bounds_all HR.out.1 hbd
    clear hok hbd
    have hlz : (zs.map (Value.int .i32)).length = Nat.min len len := by simp [HR.out.1]
    have hone : ∀ v ∈ zs.map (Value.int .i32), v.oneCell' = true := by intro v hv; simp at hv; obtain ⟨z, _, rfl⟩ := hv; rfl
    have HLZ : Hid ((zs.map (Value.int .i32)).length = Nat.min len len) := hlz
    have HONE : Hid (∀ v ∈ zs.map (Value.int .i32), v.oneCell' = true) := hone
    clear hlz hone
    go_wp2_with (first
      | (at_make; refine wpList_make_full _ rfl _ _ 23 rfl w.heap.size 21 i0 (.int .i32 0) 1 Tryd.underlying23 hi hz0 hz1 _ _ _ _ len rfl rfl rfl rfl (by rw [hz2]; omega) hm (Nat.le_refl _) ?_; intro w1 hown hgrow; have hb1 : Below w.heap.size w w1 := (Below.refl _ _).grown hgrow (Nat.le_refl _) (fun k hk => by cases hk); obtain ⟨cur, hcl, hblk⟩ := own_block hown; have HP := hidden (copy_src HR.out hb1 w.heap.size); have HCL : Hid (cur.length = len) := hcl; clear hown hgrow hcl)
      | (refine wpList_copy_splice rfl (.tmp 29) (.tmp 30) 23 23 rfl 21 Tryd.underlying23 size21 _ _ _ _ _ _ rfl rfl w.heap.size 0 cur 21 hblk (zs.map (Value.int .i32)) HLZ.out HP.out (by have := HLZ.out; have := HCL.out; simp at *; omega) HONE.out w.heap.size w hb1 (Nat.le_refl _) ?_; intro w2 hblk2 hb2)
      | (go_at_call 7; go_in))
    have hc2 := copied HR.out.1 HCL.out hblk2.out
    have hB : w.heap.size < w2.heap.size := lt_of_block hblk2.out
    have HZK : Hid (∀ (W : World) (t : Int), Below w2.heap.size w2 W → Calls Tryd.prog 8 #[.int .u16 t, .slice (some ⟨w.heap.size, 0, none⟩) len len, .int .u8 g] W fun e w' => e = .returned (.bool (keep c (heldN zs) t g)) ∧ Below W.heap.size W w') := by
      intro W t hW
      exact zz_some c t g w.heap.size len len zs hg HR.out.1 hle (fun i => (HB.out i).1) (fun i => (HB.out i).2) W ((HT.out.below HT.out.lt hb2).below (by omega) hW) (fun i hi => (hW.cell (p := ⟨w.heap.size, i, none⟩) hB).trans (hc2 i hi)) (by have := hW.size; omega)
    have HC2 : Hid (∀ i, i < len → w2.cell? ⟨w.heap.size, i, none⟩ = some (.int .i32 (heldN zs i))) := hc2
    clear hc2 hblk hblk2 HP hb1 HLZ HONE hneq
    refine (HZK.out _ s (Below.refl _ _)).mono ?_
    rintro e w3 ⟨rfl, hb3⟩
    go_wp2_with fail
    refine (HZK.out _ _ hb3).mono ?_
    rintro e w4 ⟨rfl, hb4⟩
    have hb4' := hb3.trans (hb4.mono hb3.size)
    go_wp2_with fail
    refine (HZK.out _ _ hb4').mono ?_
    rintro e w5 ⟨rfl, hb5⟩
    have hb5' := hb4'.trans (hb5.mono hb4'.size)
    have hfin : Below w.heap.size w w5 := hb2.trans (hb5'.mono hb2.size)
    clear hb3 hb4 hb5 hb4'
    have hA := keep_splits c (heldN zs) s cut hs0 hs1 ht0 ht1 g
    have hA2 : 0 < g → g < 7 → 2 ≤ heldN zs g → keep c (heldN zs) s g = true := fun h1 h2 h3 => keep_two c (heldN zs) s g (fun i => (HB.out i).1) h1 h2 h3
    have hA3 : bits .and .u16 s 126 = 0 → keep c (heldN zs) s g = true := keep_none c (heldN zs) s g hs0 hs1
    generalize keep c (heldN zs) s g = A at *
    generalize keep c (heldN zs) (bits .and .u16 s cut) g = Bb at *
    generalize keep c (heldN zs) (bits .andNot .u16 s cut) g = D at *
    have HA2 : Hid (0 < g → g < 7 → 2 ≤ heldN zs g → A = true) := hA2
    have HA3 : Hid (bits .and .u16 s 126 = 0 → A = true) := hA3
    clear hA2 hA3
    have hcg : g < len → w5.cell? ⟨w.heap.size, g, none⟩ = some (.int .i32 (heldN zs g)) := fun h => (hb5'.cell (p := ⟨w.heap.size, g, none⟩) hB).trans (HC2.out g h)
    have HCG : Hid (g < len → w5.cell? ⟨w.heap.size, g, none⟩ = some (.int .i32 (heldN zs g))) := hcg
    clear hcg HC2 hb5'
    have hcase : g < 1 ∨ (1 ≤ g ∧ 7 ≤ g) ∨ (1 ≤ g ∧ g < 7 ∧ len ≤ g) ∨ (1 ≤ g ∧ g < 7 ∧ g < len ∧ heldN zs g < 2) ∨ (1 ≤ g ∧ g < 7 ∧ g < len ∧ 2 ≤ heldN zs g) := by omega
    cases Bb
    · obtain rfl : A = false := by simpa using hA
      clear hA
      rcases hcase with h1 | ⟨h1, h2⟩ | ⟨h1, h2, h3⟩ | ⟨h1, h2, h3, h4⟩ | ⟨h1, h2, h3, h4⟩
      · have d1 : decide ((1 : Int) ≤ (g : Int)) = false := by simp <;> omega
        go_wp2_with fail
        refine (valid7 _).mono ?_
        rintro e w6 ⟨rfl, rfl⟩
        by_cases hq : bits .and .u16 s 126 = 0
        · exact absurd (HA3.out hq) (by simp)
        · have q0 : (bits .and .u16 s 126 == 0) = false := by simp [hq]
          clear hq
          go_wp2
          go_ret
          exact ⟨rfl, hfin⟩
      · have d1 : decide ((1 : Int) ≤ (g : Int)) = true := by simp <;> omega
        have d2 : decide ((g : Int) < 7) = false := by simp <;> omega
        go_wp2_with fail
        refine (valid7 _).mono ?_
        rintro e w6 ⟨rfl, rfl⟩
        by_cases hq : bits .and .u16 s 126 = 0
        · exact absurd (HA3.out hq) (by simp)
        · have q0 : (bits .and .u16 s 126 == 0) = false := by simp [hq]
          clear hq
          go_wp2
          go_ret
          exact ⟨rfl, hfin⟩
      · have d1 : decide ((1 : Int) ≤ (g : Int)) = true := by simp <;> omega
        have d2 : decide ((g : Int) < 7) = true := by simp <;> omega
        have d3 : decide ((g : Int) < (len : Int)) = false := by simp <;> omega
        go_wp2_with fail
        refine (valid7 _).mono ?_
        rintro e w6 ⟨rfl, rfl⟩
        by_cases hq : bits .and .u16 s 126 = 0
        · exact absurd (HA3.out hq) (by simp)
        · have q0 : (bits .and .u16 s 126 == 0) = false := by simp [hq]
          clear hq
          go_wp2
          go_ret
          exact ⟨rfl, hfin⟩
      · have hcell := HCG.out h3
        have d1 : decide ((1 : Int) ≤ (g : Int)) = true := by simp <;> omega
        have d2 : decide ((g : Int) < 7) = true := by simp <;> omega
        have d3 : decide ((g : Int) < (len : Int)) = true := by simp <;> omega
        have d4 : decide ((2 : Int) ≤ heldN zs g) = false := by simp <;> omega
        go_wp2_with fail
        refine (valid7 _).mono ?_
        rintro e w6 ⟨rfl, rfl⟩
        by_cases hq : bits .and .u16 s 126 = 0
        · exact absurd (HA3.out hq) (by simp)
        · have q0 : (bits .and .u16 s 126 == 0) = false := by simp [hq]
          clear hq
          go_wp2
          go_ret
          exact ⟨rfl, hfin⟩
      · exact absurd (HA2.out (by omega) h2 h4) (by simp)
    · obtain rfl : A = D := by simpa using hA
      clear hA
      rcases hcase with h1 | ⟨h1, h2⟩ | ⟨h1, h2, h3⟩ | ⟨h1, h2, h3, h4⟩ | ⟨h1, h2, h3, h4⟩
      · have d1 : decide ((1 : Int) ≤ (g : Int)) = false := by simp <;> omega
        go_wp2_with fail
        refine (valid7 _).mono ?_
        rintro e w6 ⟨rfl, rfl⟩
        by_cases hq : bits .and .u16 s 126 = 0
        · obtain rfl : A = true := HA3.out hq
          have q0 : (bits .and .u16 s 126 == 0) = true := by simp [hq]
          clear hq
          go_wp2
          go_ret
          exact ⟨rfl, hfin⟩
        · have q0 : (bits .and .u16 s 126 == 0) = false := by simp [hq]
          clear hq
          go_wp2
          go_ret
          exact ⟨rfl, hfin⟩
      · have d1 : decide ((1 : Int) ≤ (g : Int)) = true := by simp <;> omega
        have d2 : decide ((g : Int) < 7) = false := by simp <;> omega
        go_wp2_with fail
        refine (valid7 _).mono ?_
        rintro e w6 ⟨rfl, rfl⟩
        by_cases hq : bits .and .u16 s 126 = 0
        · obtain rfl : A = true := HA3.out hq
          have q0 : (bits .and .u16 s 126 == 0) = true := by simp [hq]
          clear hq
          go_wp2
          go_ret
          exact ⟨rfl, hfin⟩
        · have q0 : (bits .and .u16 s 126 == 0) = false := by simp [hq]
          clear hq
          go_wp2
          go_ret
          exact ⟨rfl, hfin⟩
      · have d1 : decide ((1 : Int) ≤ (g : Int)) = true := by simp <;> omega
        have d2 : decide ((g : Int) < 7) = true := by simp <;> omega
        have d3 : decide ((g : Int) < (len : Int)) = false := by simp <;> omega
        go_wp2_with fail
        refine (valid7 _).mono ?_
        rintro e w6 ⟨rfl, rfl⟩
        by_cases hq : bits .and .u16 s 126 = 0
        · obtain rfl : A = true := HA3.out hq
          have q0 : (bits .and .u16 s 126 == 0) = true := by simp [hq]
          clear hq
          go_wp2
          go_ret
          exact ⟨rfl, hfin⟩
        · have q0 : (bits .and .u16 s 126 == 0) = false := by simp [hq]
          clear hq
          go_wp2
          go_ret
          exact ⟨rfl, hfin⟩
      · have hcell := HCG.out h3
        have d1 : decide ((1 : Int) ≤ (g : Int)) = true := by simp <;> omega
        have d2 : decide ((g : Int) < 7) = true := by simp <;> omega
        have d3 : decide ((g : Int) < (len : Int)) = true := by simp <;> omega
        have d4 : decide ((2 : Int) ≤ heldN zs g) = false := by simp <;> omega
        go_wp2_with fail
        refine (valid7 _).mono ?_
        rintro e w6 ⟨rfl, rfl⟩
        by_cases hq : bits .and .u16 s 126 = 0
        · obtain rfl : A = true := HA3.out hq
          have q0 : (bits .and .u16 s 126 == 0) = true := by simp [hq]
          clear hq
          go_wp2
          go_ret
          exact ⟨rfl, hfin⟩
        · have q0 : (bits .and .u16 s 126 == 0) = false := by simp [hq]
          clear hq
          go_wp2
          go_ret
          exact ⟨rfl, hfin⟩
      · obtain rfl : A = true := HA2.out (by omega) h2 h4
        have hcell := HCG.out h3
        have d1 : decide ((1 : Int) ≤ (g : Int)) = true := by simp <;> omega
        have d2 : decide ((g : Int) < 7) = true := by simp <;> omega
        have d3 : decide ((g : Int) < (len : Int)) = true := by simp <;> omega
        have d4 : decide ((2 : Int) ≤ heldN zs g) = true := by simp <;> omega
        go_wp2_with fail
        refine (valid7 _).mono ?_
        rintro e w6 ⟨rfl, rfl⟩
        by_cases hq : bits .and .u16 s 126 = 0
        · have q0 : (bits .and .u16 s 126 == 0) = true := by simp [hq]
          clear hq
          go_wp2
          go_ret
          exact ⟨rfl, hfin⟩
        · have q0 : (bits .and .u16 s 126 == 0) = false := by simp [hq]
          clear hq
          go_wp2
          go_ret
          exact ⟨rfl, hfin⟩

set_option maxRecDepth 100000 in
set_option maxHeartbeats 2000000 in
theorem law1_nil (c : Nat → Int) (s : Int) (g : Nat) (cut : Int) (hs0 : 0 ≤ s) (hs1 : s ≤ 65535) (ht0 : 0 ≤ cut) (ht1 : cut ≤ 65535) (hg : g ≤ 255) (w : World) (T : Tab c w) :
    Calls Tryd.prog 3 #[.int .u16 s, .slice none 0 0, .int .u8 g, .int .u16 cut] w fun e w' => e = .returned (.bool true) ∧ Below w.heap.size w w' := by
  have HT : Hid (Tab c w) := T
  have hneq := fun w => run_neq_slice_nil_any (P := Tryd.prog) w 23 21 none 0 0 0 0 Tryd.underlying23
  have HZK : Hid (∀ (W : World) (t : Int), Below w.heap.size w W → Calls Tryd.prog 8 #[.int .u16 t, .slice none 0 0, .int .u8 g] W fun e w' => e = .returned (.bool (keep c (heldN []) t g)) ∧ Below W.heap.size W w') := by
    intro W t hW
    exact zz_nil c t g hg W (HT.out.below HT.out.lt hW)
  clear T
  go_enter Tryd.func3, Tryd.ntmps3
  go_wp2_with (go_at_call 5; go_in)
  refine (heldok_empty none 0 _).mono ?_
  rintro e w ⟨rfl, rfl⟩
  go_wp2_with (go_at_call 7; go_in)
  refine (HZK.out _ s (Below.refl _ _)).mono ?_
  rintro e w3 ⟨rfl, hb3⟩
  go_wp2_with fail
  refine (HZK.out _ _ hb3).mono ?_
  rintro e w4 ⟨rfl, hb4⟩
  have hb4' := hb3.trans (hb4.mono hb3.size)
  go_wp2_with fail
  refine (HZK.out _ _ hb4').mono ?_
  rintro e w5 ⟨rfl, hb5⟩
  have hfin : Below w.heap.size w w5 := hb4'.trans (hb5.mono hb4'.size)
  clear hb3 hb4 hb5 hb4' hneq
  have hA := keep_splits c (heldN []) s cut hs0 hs1 ht0 ht1 g
  have hA3 : bits .and .u16 s 126 = 0 → keep c (heldN []) s g = true := keep_none c (heldN []) s g hs0 hs1
  generalize keep c (heldN []) s g = A at *
  generalize keep c (heldN []) (bits .and .u16 s cut) g = Bb at *
  generalize keep c (heldN []) (bits .andNot .u16 s cut) g = D at *
  have HA3 : Hid (bits .and .u16 s 126 = 0 → A = true) := hA3
  clear hA3
  have hcase : g < 1 ∨ (1 ≤ g ∧ 7 ≤ g) ∨ (1 ≤ g ∧ g < 7) := by omega
  cases Bb
  · obtain rfl : A = false := by simpa using hA
    clear hA
    rcases hcase with h1 | ⟨h1, h2⟩ | ⟨h1, h2⟩
    · have d1 : decide ((1 : Int) ≤ (g : Int)) = false := by simp <;> omega
      go_wp2_with fail
      refine (valid7 _).mono ?_
      rintro e w6 ⟨rfl, rfl⟩
      by_cases hq : bits .and .u16 s 126 = 0
      · exact absurd (HA3.out hq) (by simp)
      · have q0 : (bits .and .u16 s 126 == 0) = false := by simp [hq]
        clear hq
        go_wp2
        go_ret
        exact ⟨rfl, hfin⟩
    · have d1 : decide ((1 : Int) ≤ (g : Int)) = true := by simp <;> omega
      have d2 : decide ((g : Int) < 7) = false := by simp <;> omega
      go_wp2_with fail
      refine (valid7 _).mono ?_
      rintro e w6 ⟨rfl, rfl⟩
      by_cases hq : bits .and .u16 s 126 = 0
      · exact absurd (HA3.out hq) (by simp)
      · have q0 : (bits .and .u16 s 126 == 0) = false := by simp [hq]
        clear hq
        go_wp2
        go_ret
        exact ⟨rfl, hfin⟩
    · have d1 : decide ((1 : Int) ≤ (g : Int)) = true := by simp <;> omega
      have d2 : decide ((g : Int) < 7) = true := by simp <;> omega
      have d3 : decide ((g : Int) < 0) = false := by simp <;> omega
      go_wp2_with fail
      refine (valid7 _).mono ?_
      rintro e w6 ⟨rfl, rfl⟩
      by_cases hq : bits .and .u16 s 126 = 0
      · exact absurd (HA3.out hq) (by simp)
      · have q0 : (bits .and .u16 s 126 == 0) = false := by simp [hq]
        clear hq
        go_wp2
        go_ret
        exact ⟨rfl, hfin⟩
  · obtain rfl : A = D := by simpa using hA
    clear hA
    rcases hcase with h1 | ⟨h1, h2⟩ | ⟨h1, h2⟩
    · have d1 : decide ((1 : Int) ≤ (g : Int)) = false := by simp <;> omega
      go_wp2_with fail
      refine (valid7 _).mono ?_
      rintro e w6 ⟨rfl, rfl⟩
      by_cases hq : bits .and .u16 s 126 = 0
      · obtain rfl : A = true := HA3.out hq
        have q0 : (bits .and .u16 s 126 == 0) = true := by simp [hq]
        clear hq
        go_wp2
        go_ret
        exact ⟨rfl, hfin⟩
      · have q0 : (bits .and .u16 s 126 == 0) = false := by simp [hq]
        clear hq
        go_wp2
        go_ret
        exact ⟨rfl, hfin⟩
    · have d1 : decide ((1 : Int) ≤ (g : Int)) = true := by simp <;> omega
      have d2 : decide ((g : Int) < 7) = false := by simp <;> omega
      go_wp2_with fail
      refine (valid7 _).mono ?_
      rintro e w6 ⟨rfl, rfl⟩
      by_cases hq : bits .and .u16 s 126 = 0
      · obtain rfl : A = true := HA3.out hq
        have q0 : (bits .and .u16 s 126 == 0) = true := by simp [hq]
        clear hq
        go_wp2
        go_ret
        exact ⟨rfl, hfin⟩
      · have q0 : (bits .and .u16 s 126 == 0) = false := by simp [hq]
        clear hq
        go_wp2
        go_ret
        exact ⟨rfl, hfin⟩
    · have d1 : decide ((1 : Int) ≤ (g : Int)) = true := by simp <;> omega
      have d2 : decide ((g : Int) < 7) = true := by simp <;> omega
      have d3 : decide ((g : Int) < 0) = false := by simp <;> omega
      go_wp2_with fail
      refine (valid7 _).mono ?_
      rintro e w6 ⟨rfl, rfl⟩
      by_cases hq : bits .and .u16 s 126 = 0
      · obtain rfl : A = true := HA3.out hq
        have q0 : (bits .and .u16 s 126 == 0) = true := by simp [hq]
        clear hq
        go_wp2
        go_ret
        exact ⟨rfl, hfin⟩
      · have q0 : (bits .and .u16 s 126 == 0) = false := by simp [hq]
        clear hq
        go_wp2
        go_ret
        exact ⟨rfl, hfin⟩

end Go.Proofs.Qxb6614373aDoor.W
