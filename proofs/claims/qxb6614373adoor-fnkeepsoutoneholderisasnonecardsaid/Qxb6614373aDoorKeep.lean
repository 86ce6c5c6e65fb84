/-
  THE WALKS OF holdersAgainst (19) AND keepsOut (14).
-/
import Derived.Test.Qxb6614373aDoorSmall
namespace Go.Proofs.Qxb6614373aDoor.W
open Go.RowKit
set_option linter.unusedVariables false

theorem against_succ (c N : Nat → Int) (q j : Nat) (h : 1 ≤ j) : against c N q j = against c N q (j - 1) + if comp c q j = true then 0 else N j := by
  obtain ⟨k, rfl⟩ : ∃ k, j = k + 1 := ⟨j - 1, by omega⟩
  rfl
theorem keepTo_succ (c N : Nat → Int) (s : Int) (g j : Nat) (h : 1 ≤ j) : keepTo c N s g j = (keepTo c N s g (j - 1) && keepAt c N s g j) := by
  obtain ⟨k, rfl⟩ : ∃ k, j = k + 1 := ⟨j - 1, by omega⟩
  rfl

set_option maxRecDepth 100000 in
set_option maxHeartbeats 1000000 in
/-- 'l.holdersAgainst(q)' -/
theorem hold (c N : Nat → Int) (hN0 : ∀ m, 0 ≤ N m) (hN1 : ∀ m, N m ≤ 1048576) (b q : Nat) (hq : q ≤ 255) (w : World) (T : Tab c w) (hb : b < w.heap.size)
    (hn : ∀ m, m < 7 → w.cell? ⟨b, 12 + m, none⟩ = some (.int .i32 (N m))) :
    Calls Tryd.prog 19 #[.pointer (some ⟨b, 0, none⟩), .int .u8 q] w fun e w' => e = .returned (.int .i64 (against c N q 6)) ∧ Below w.heap.size w w' := by
  have HT : Hid (Tab c w) := T
  have HN : Hid (∀ m, m < 7 → w.cell? ⟨b, 12 + m, none⟩ = some (.int .i32 (N m))) := hn
  have H0 : Hid (∀ m, 0 ≤ N m) := hN0
  have H1 : Hid (∀ m, N m ≤ 1048576) := hN1
  clear T hn hN0 hN1
  go_enter Tryd.func19, Tryd.ntmps19
  go_wp2
  go_loopw [5, 6] (fun n m wr => ∃ j : Nat, 1 ≤ j ∧ j ≤ 7 ∧ m = .int .u8 j ∧ n = .int .i64 (against c N q (j - 1)) ∧ Below w.heap.size w wr) (fun _ m _ => 7 - (intOf m).toNat)
  case atStart => exact ⟨1, by omega, by omega, rfl, rfl, Below.refl _ _⟩
  case round =>
    obtain ⟨j, hj1, hj7, rfl, rfl, hbel⟩ := hrel
    have a0 := against_nonneg c N q H0.out (j - 1)
    have a1 := against_le c N q H1.out H0.out (j - 1)
    have n0 := H0.out j
    have n1 := H1.out j
    by_cases hlt : j < 7
    · have hT := HT.out.below HT.out.lt hbel
      have hs := hbel.size
      have HS : Hid (against c N q j = against c N q (j - 1) + if comp c q j = true then 0 else N j) := against_succ c N q j hj1
      have hcell : wr.cell? ⟨b, 12 + j, none⟩ = some (.int .i32 (N j)) := (hbel.cell (p := ⟨b, 12 + j, none⟩) hb).trans (HN.out j hlt)
      go_wp2_with fail
      refine (valid_yes j hj1 hlt _).mono ?_
      rintro e w1 ⟨rfl, rfl⟩
      go_wp2_with fail
      refine (compat c q j hq (by omega) _ hT).mono ?_
      rintro e w1 ⟨rfl, hb1⟩
      have hcell1 : w1.cell? ⟨b, 12 + j, none⟩ = some (.int .i32 (N j)) := (hb1.cell (p := ⟨b, 12 + j, none⟩) (show b < _ by omega)).trans hcell
      have hbel1 := hbel.trans (hb1.mono hs)
      clear hT hcell hb1 hbel
      cases hc : comp c q j
      · have HS' : Hid (against c N q j = against c N q (j - 1) + N j) := by show _ = _; rw [HS.out, hc]; simp
        go_wp2
        go_roundw
        case rel => exact ⟨j + 1, by omega, by omega, by go_num, by rw [Nat.add_sub_cancel, HS'.out], hbel1⟩
        case measure => simp [intOf]; omega
      · have HS' : Hid (against c N q j = against c N q (j - 1)) := by show _ = _; rw [HS.out, hc]; simp
        go_wp2
        go_roundw
        case rel => exact ⟨j + 1, by omega, by omega, by go_num, by rw [Nat.add_sub_cancel, HS'.out], hbel1⟩
        case measure => simp [intOf]; omega
    · obtain rfl : j = 7 := by omega
      go_wp2_with fail
      refine (valid_no 7 (by omega) (by omega) _).mono ?_
      rintro e w1 ⟨rfl, rfl⟩
      go_wp2
      go_ret
      exact ⟨rfl, hbel⟩

/-- WHAT keepsOut READS: the lock at block b, its key lock at kb, its space at sb, the queued modes s; N m holders in mode m. -/
structure Lock (N : Nat → Int) (s : Int) (b kb sb : Nat) (w : World) : Prop where
  keys : w.cell? ⟨b, 28, none⟩ = some (.pointer (some ⟨kb, 0, none⟩))
  space : w.cell? ⟨kb, 0, none⟩ = some (.pointer (some ⟨sb, 0, none⟩))
  queued : w.cell? ⟨sb, 12, none⟩ = some (.int .u16 s)
  held : ∀ m, m < 7 → w.cell? ⟨b, 12 + m, none⟩ = some (.int .i32 (N m))
theorem Lock.below {N : Nat → Int} {s : Int} {b kb sb : Nat} {w w' : World} (h : Lock N s b kb sb w) (hb : Below w.heap.size w w') : Lock N s b kb sb w' where
  keys := (hb.cell (World.block_lt_of_cell? w _ h.keys)).trans h.keys
  space := (hb.cell (World.block_lt_of_cell? w _ h.space)).trans h.space
  queued := (hb.cell (World.block_lt_of_cell? w _ h.queued)).trans h.queued
  held := fun m hm => (hb.cell (World.block_lt_of_cell? w _ (h.held m hm))).trans (h.held m hm)

theorem keepTo_false (c N : Nat → Int) (s : Int) (g j : Nat) (h : 1 ≤ j) (hf : keepAt c N s g j = false) : ∀ k, j ≤ k → keepTo c N s g k = false
  | 0, hk => by omega
  | k + 1, hk => by
    simp only [keepTo]
    rcases Nat.lt_or_ge k j with hlt | hge
    · obtain rfl : j = k + 1 := by omega
      rw [hf, Bool.and_false]
    · rw [keepTo_false c N s g j h hf k hge, Bool.false_and]

set_option maxRecDepth 100000 in
set_option maxHeartbeats 1000000 in
/-- 'l.keepsOut(g)' -/
theorem keeps (c N : Nat → Int) (hN0 : ∀ m, 0 ≤ N m) (hN1 : ∀ m, N m ≤ 1048576) (s : Int) (b kb sb g : Nat) (hg : g ≤ 255) (w : World) (T : Tab c w) (L : Lock N s b kb sb w) :
    Calls Tryd.prog 14 #[.pointer (some ⟨b, 0, none⟩), .int .u8 g] w fun e w' => e = .returned (.bool (keep c N s g)) ∧ Below w.heap.size w w' := by
  have HT : Hid (Tab c w) := T
  have HL : Hid (Lock N s b kb sb w) := L
  have H0 : Hid (∀ m, 0 ≤ N m) := hN0
  have H1 : Hid (∀ m, N m ≤ 1048576) := hN1
  clear T L hN0 hN1
  go_enter Tryd.func14, Tryd.ntmps14
  go_wp2
  go_loopw [5] (fun m wr => ∃ j : Nat, 1 ≤ j ∧ j ≤ 7 ∧ m = .int .u8 j ∧ Hid (keepTo c N s g (j - 1) = true) ∧ Below w.heap.size w wr) (fun m _ => 7 - (intOf m).toNat)
  case atStart => exact ⟨1, by omega, by omega, rfl, rfl, Below.refl _ _⟩
  case round =>
    obtain ⟨j, hj1, hj7, rfl, hk, hbel⟩ := hrel
    by_cases hlt : j < 7
    · have hT := HT.out.below HT.out.lt hbel
      have hs := hbel.size
      have hL := HL.out.below hbel
      have hk0 := hL.keys
      have hk1 := hL.space
      have hk2 := hL.queued
      have HTr : Hid (Tab c wr) := hT
      have HLr : Hid (Lock N s b kb sb wr) := hL
      clear hT hL
      go_wp2_with fail
      refine (valid_yes j hj1 hlt _).mono ?_
      rintro e w1 ⟨rfl, rfl⟩
      go_wp2_with fail
      refine (has_any s j hlt _).mono ?_
      rintro e w1 ⟨rfl, rfl⟩
      cases hh : hasM s j
      · have HK : Hid (keepTo c N s g j = true) := by show _ = _; rw [keepTo_succ c N s g j hj1, hk.out]; simp [keepAt, hh]
        go_wp2
        go_roundw
        case rel => exact ⟨j + 1, by omega, by omega, by go_num, HK, hbel⟩
        case measure => simp [intOf]; omega
      · go_wp2_with fail
        refine (compat c j g (by omega) hg _ HTr.out).mono ?_
        rintro e w2 ⟨rfl, hb2⟩
        have hbel2 := hbel.trans (hb2.mono hs)
        have HL2 : Hid (Lock N s b kb sb w2) := HLr.out.below hb2
        have HT2 : Hid (Tab c w2) := HTr.out.below HTr.out.lt hb2
        clear hb2 hbel hk0 hk1 hk2
        cases hc : comp c j g
        · go_wp2_with fail
          refine (hold c N H0.out H1.out b j (by omega) _ HT2.out (World.block_lt_of_cell? _ _ HL2.out.keys) HL2.out.held).mono ?_
          rintro e w3 ⟨rfl, hb3⟩
          have hbel3 := hbel2.trans (hb3.mono hbel2.size)
          clear hb3
          by_cases h2 : against c N j 6 < 2
          · have HF : Hid (keep c N s g = false) := by
              show _ = _
              exact keepTo_false c N s g j hj1 (by simp [keepAt, hh, hc, h2]) 6 (by omega)
            go_wp2
            go_ret
            exact ⟨by rw [HF.out]; rfl, hbel3⟩
          · have HK : Hid (keepTo c N s g j = true) := by show _ = _; rw [keepTo_succ c N s g j hj1, hk.out]; simp [keepAt, hh, hc, h2]
            go_wp2
            go_roundw
            case rel => exact ⟨j + 1, by omega, by omega, by go_num, HK, hbel3⟩
            case measure => simp [intOf]; omega
        · have HK : Hid (keepTo c N s g j = true) := by show _ = _; rw [keepTo_succ c N s g j hj1, hk.out]; simp [keepAt, hh, hc]
          go_wp2
          go_roundw
          case rel => exact ⟨j + 1, by omega, by omega, by go_num, HK, hbel2⟩
          case measure => simp [intOf]; omega
    · obtain rfl : j = 7 := by omega
      go_wp2_with fail
      refine (valid_no 7 (by omega) (by omega) _).mono ?_
      rintro e w1 ⟨rfl, rfl⟩
      go_wp2
      go_ret
      exact ⟨by rw [show keep c N s g = true from hk]; rfl, hbel⟩

end Go.Proofs.Qxb6614373aDoor.W
