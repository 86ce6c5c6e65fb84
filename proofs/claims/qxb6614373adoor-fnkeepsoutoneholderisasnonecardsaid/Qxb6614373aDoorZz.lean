/-
  THE WALK OF ZZKeepsOut (8): it builds a lock in a key space and asks keepsOut.
-/
import Derived.Test.Qxb6614373aDoorKeep
import Derived.Deep.RegionHeld3
namespace Go.Proofs.Qxb6614373aDoor.W
open Go.RowKit
set_option linter.unusedVariables false

theorem heldN_past {zs : List Int} {m : Nat} (h : zs.length ≤ m) : heldN zs m = 0 := by simp [heldN, List.getD, List.getElem?_eq_none h]

/-- THE LOCK BEING BUILT, k modes' counts laid in: its blocks are B (the key space), B + 1 (the key lock), B + 2 (the lock). -/
structure Mid (N : Nat → Int) (s : Int) (B k : Nat) (w : World) : Prop where
  keys : w.cell? ⟨B + 1 + 1, 28, none⟩ = some (.pointer (some ⟨B + 1, 0, none⟩))
  space : w.cell? ⟨B + 1, 0, none⟩ = some (.pointer (some ⟨B, 0, none⟩))
  queued : w.cell? ⟨B, 12, none⟩ = some (.int .u16 s)
  held : ∀ m, m < 7 → w.cell? ⟨B + 1 + 1, 12 + m, none⟩ = some (.int .i32 (if m < k then N m else 0))
  inn : ∃ x, w.cell? ⟨B + 1 + 1, 19, none⟩ = some (.int .u16 x)
  free : ∀ m, m < 39 → w.frozen? ⟨B + 1 + 1, m, none⟩ = false

theorem Mid.drew {N : Nat → Int} {s : Int} {B k : Nat} {w : World} (h : Mid N s B k w) : Mid N s B k w.drew := ⟨h.keys, h.space, h.queued, h.held, h.inn, h.free⟩
theorem Mid.store {N : Nat → Int} {s : Int} {B k : Nat} {w : World} (h : Mid N s B k w) (hk : k < 7) : Mid N s B (k + 1) (w.setCell ⟨B + 1 + 1, 12 + k, none⟩ (.int .i32 (N k))) where
  keys := by rw [World.cell?_setCell_other _ _ _ _ (by simp <;> omega)]; exact h.keys
  space := by rw [World.cell?_setCell_other _ _ _ _ (by simp)]; exact h.space
  queued := by rw [World.cell?_setCell_other _ _ _ _ (by simp <;> omega)]; exact h.queued
  held := fun m hm => by
    by_cases e : m = k
    · subst e
      rw [World.cell?_setCell_same _ _ _ (h.held m hm), if_pos (by omega)]
    · rw [World.cell?_setCell_other _ _ _ _ (by simp <;> omega), h.held m hm]
      by_cases h1 : m < k
      · rw [if_pos h1, if_pos (by omega)]
      · rw [if_neg h1, if_neg (by omega)]
  inn := by obtain ⟨x, hx⟩ := h.inn; exact ⟨x, by rw [World.cell?_setCell_other _ _ _ _ (by simp <;> omega)]; exact hx⟩
  free := fun m hm => by rw [World.frozen?_setCell]; exact h.free m hm
theorem Mid.mark {N : Nat → Int} {s : Int} {B k : Nat} {w : World} (h : Mid N s B k w) (y : Int) : Mid N s B k (w.setCell ⟨B + 1 + 1, 19, none⟩ (.int .u16 y)) where
  keys := by rw [World.cell?_setCell_other _ _ _ _ (by simp)]; exact h.keys
  space := by rw [World.cell?_setCell_other _ _ _ _ (by simp)]; exact h.space
  queued := by rw [World.cell?_setCell_other _ _ _ _ (by simp <;> omega)]; exact h.queued
  held := fun m hm => by rw [World.cell?_setCell_other _ _ _ _ (by simp <;> omega)]; exact h.held m hm
  inn := by obtain ⟨x, hx⟩ := h.inn; exact ⟨y, World.cell?_setCell_same _ _ _ hx⟩
  free := fun m hm => by rw [World.frozen?_setCell]; exact h.free m hm
/-- the three blocks as they are made. -/
theorem Mid.start (N : Nat → Int) (s : Int) (w : World) (C0 C1 C2 : Array Value) (t0 t1 t2 : TypeId) (h0 : C0[12]? = some (.int .u16 s)) (h1 : C1[0]? = some (.pointer (some ⟨w.heap.size, 0, none⟩)))
    (h2 : C2[28]? = some (.pointer (some ⟨w.heap.size + 1, 0, none⟩))) (h3 : ∀ m, m < 7 → C2[12 + m]? = some (.int .i32 0)) (h4 : C2[19]? = some (.int .u16 0)) :
    Mid N s w.heap.size 0 (((w.alloc (.cells C0 t0)).alloc (.cells C1 t1)).alloc (.cells C2 t2)) where
  keys := by rw [World.cell?_alloc_at _ _ _ _ (by simp)]; exact h2
  space := by rw [World.cell?_alloc_past _ _ _ (by simp), World.cell?_alloc_at _ _ _ _ (by simp)]; exact h1
  queued := by rw [World.cell?_alloc_past _ _ _ (by simp <;> omega), World.cell?_alloc_past _ _ _ (by simp), World.cell?_alloc_at _ _ _ _ rfl]; exact h0
  held := fun m hm => by rw [World.cell?_alloc_at _ _ _ _ (by simp), if_neg (by omega)]; exact h3 m hm
  inn := ⟨0, by rw [World.cell?_alloc_at _ _ _ _ (by simp)]; exact h4⟩
  free := fun m hm => World.frozen?_alloc_at _ _ _ _ (by simp)
/-- all that is known is in: the lock that keepsOut reads. -/
theorem Mid.lock {zs : List Int} {s : Int} {B k : Nat} {w : World} (h : Mid (heldN zs) s B k w) (hk : ∀ m, k ≤ m → m < 7 → heldN zs m = 0) : Lock (heldN zs) s (B + 1 + 1) (B + 1) B w where
  keys := h.keys
  space := h.space
  queued := h.queued
  held := fun m hm => by
    rw [h.held m hm]
    by_cases h1 : m < k
    · rw [if_pos h1]
    · rw [if_neg h1, hk m (by omega) hm]

set_option maxRecDepth 100000 in
set_option maxHeartbeats 1000000 in
theorem zz_some (c : Nat → Int) (s : Int) (g hb len cap : Nat) (zs : List Int) (hg : g ≤ 255) (hz : zs.length = len) (hlen : len ≤ 4096) (hz0 : ∀ i, 0 ≤ heldN zs i) (hz1 : ∀ i, heldN zs i ≤ 1048576) (w : World) (T : Tab c w)
    (hc : ∀ i, i < len → w.cell? ⟨hb, i, none⟩ = some (.int .i32 (heldN zs i))) (hbl : hb < w.heap.size) :
    Calls Tryd.prog 8 #[.int .u16 s, .slice (some ⟨hb, 0, none⟩) len cap, .int .u8 g] w fun e w' => e = .returned (.bool (keep c (heldN zs) s g)) ∧ Below w.heap.size w w' := by
  have HT : Hid (Tab c w) := T
  have HC : Hid (∀ i, i < len → w.cell? ⟨hb, i, none⟩ = some (.int .i32 (heldN zs i))) := hc
  have HZ : Hid (zs.length = len) := hz
  have H0 : Hid (∀ m, 0 ≤ heldN zs m) := hz0
  have H1 : Hid (∀ m, heldN zs m ≤ 1048576) := hz1
  clear T hc hz hz0 hz1
  go_enter Tryd.func8, Tryd.ntmps8
  go_wp2
  go_loopw [9] (fun i wr => ∃ k : Nat, k ≤ 7 ∧ k ≤ len ∧ i = .int .i64 k ∧ Mid (heldN zs) s w.heap.size k wr ∧ Below w.heap.size w wr) (fun i _ => 7 - (intOf i).toNat)
  case atStart =>
    refine ⟨0, by omega, by omega, rfl, ?_, (((Below.refl _ _).alloc (Nat.le_refl _) _).alloc (by simp) _).alloc (by simp <;> omega) _⟩
    refine Mid.start _ _ _ _ _ _ _ _ _ rfl rfl rfl (fun m hm => ?_) rfl
    have hm' : m = 0 ∨ m = 1 ∨ m = 2 ∨ m = 3 ∨ m = 4 ∨ m = 5 ∨ m = 6 := by omega
    rcases hm' with rfl | rfl | rfl | rfl | rfl | rfl | rfl <;> rfl
  case round =>
    obtain ⟨k, hk7, hkl, rfl, hM, hbel⟩ := hrel
    by_cases hlt : k < 7 ∧ k < len
    · obtain ⟨h7, hl⟩ := hlt
      have HM : Hid (Mid (heldN zs) s w.heap.size k wr) := hM
      have hcell : wr.cell? ⟨hb, k, none⟩ = some (.int .i32 (heldN zs k)) := (hbel.cell (p := ⟨hb, k, none⟩) hbl).trans (HC.out k hl)
      have hst := hM.held k h7
      have hfr := hM.free (12 + k) (by omega)
      have i0 : (0 : Int) ≤ (k : Int) := Int.natCast_nonneg _
      have i1 : (k : Int) < 7 := by omega
      have i2 : (k : Int) < (len : Int) := by omega
      have hne : (⟨w.heap.size + 1 + 1, 12 + k, none⟩ : Addr) ≠ ⟨hb, k, none⟩ := by simp <;> omega
      rw [if_neg (by omega)] at hst
      have hkeep : (wr.setCell ⟨w.heap.size + 1 + 1, 12 + k, none⟩ (.int .i32 (heldN zs k))).drew.cell? ⟨hb, k, none⟩ = some (.int .i32 (heldN zs k)) := (World.cell?_setCell_other _ _ _ _ hne).trans hcell
      clear hM
      go_wp2_with fail
      go_region_held3 (fun w' => w'.cell? ⟨hb, k, none⟩ = some (.int .i32 (heldN zs k))) (first | go_keep | exact hkeep) (fail)
      have hM1 : Mid (heldN zs) s w.heap.size (k + 1) ((wr.setCell ⟨w.heap.size + 1 + 1, 12 + k, none⟩ (.int .i32 (heldN zs k))).drew) := (HM.out.store h7).drew
      have hbel1 : Below w.heap.size w ((wr.setCell ⟨w.heap.size + 1 + 1, 12 + k, none⟩ (.int .i32 (heldN zs k))).drew) := (hbel.setCell (by simp <;> omega) _).drew
      clear HM hbel hst hfr hne hcell
      generalize (wr.setCell ⟨w.heap.size + 1 + 1, 12 + k, none⟩ (.int .i32 (heldN zs k))).drew = W1 at *
      have HM1 : Hid (Mid (heldN zs) s w.heap.size (k + 1) W1) := hM1
      clear hM1
      by_cases hnz : heldN zs k = 0
      · have b0 : (heldN zs k != 0) = false := by simp [hnz]
        clear hnz
        go_wp2
        go_roundw
        case rel => exact ⟨k + 1, by omega, by omega, by go_num, HM1, hbel1⟩
        case measure => simp [intOf]; omega
      · have b0 : (heldN zs k != 0) = true := by simp [hnz]
        clear hnz
        obtain ⟨x, hx⟩ := HM1.out.inn
        have hfx := HM1.out.free 19 (by omega)
        go_wp2_with fail
        go_region
        have HM2 : ∀ y : Int, Hid (Mid (heldN zs) s w.heap.size (k + 1) (W1.setCell ⟨w.heap.size + 1 + 1, 19, none⟩ (.int .u16 y)).drew) := fun y => (HM1.out.mark y).drew
        have hbel2 : ∀ y : Int, Below w.heap.size w (W1.setCell ⟨w.heap.size + 1 + 1, 19, none⟩ (.int .u16 y)).drew := fun y => (hbel1.setCell (by simp <;> omega) _).drew
        go_wp2
        go_roundw
        case rel => exact ⟨k + 1, by omega, by omega, by go_num, HM2 _, hbel2 _⟩
        case measure => simp [intOf]; omega
    · have hT := HT.out.below HT.out.lt hbel
      have hL := hM.lock (fun m h1 h2 => heldN_past (by have := HZ.out; omega))
      have HTr : Hid (Tab c wr) := hT
      have HLr : Hid (Lock (heldN zs) s (w.heap.size + 1 + 1) (w.heap.size + 1) w.heap.size wr) := hL
      have hs := hbel.size
      clear hT hL hM
      by_cases h7 : k < 7
      · have hkn : ¬ k < len := by omega
        clear hlt
        go_wp2_with fail
        refine (keeps c (heldN zs) H0.out H1.out s _ _ _ g hg _ HTr.out HLr.out).mono ?_
        rintro e w3 ⟨rfl, hb3⟩
        go_wp2
        go_ret
        exact ⟨rfl, hbel.trans (hb3.mono hs)⟩
      · obtain rfl : k = 7 := by omega
        clear hlt
        go_wp2_with fail
        refine (keeps c (heldN zs) H0.out H1.out s _ _ _ g hg _ HTr.out HLr.out).mono ?_
        rintro e w3 ⟨rfl, hb3⟩
        go_wp2
        go_ret
        exact ⟨rfl, hbel.trans (hb3.mono hs)⟩

set_option maxRecDepth 100000 in
set_option maxHeartbeats 1000000 in
theorem zz_nil (c : Nat → Int) (s : Int) (g : Nat) (hg : g ≤ 255) (w : World) (T : Tab c w) :
    Calls Tryd.prog 8 #[.int .u16 s, .slice none 0 0, .int .u8 g] w fun e w' => e = .returned (.bool (keep c (heldN []) s g)) ∧ Below w.heap.size w w' := by
  have HT : Hid (Tab c w) := T
  clear T
  go_enter Tryd.func8, Tryd.ntmps8
  go_wp2
  refine wp_loop_rounds 1 ?_
  rw [rounds_succ]
  go_wp2_with fail
  have HM := fun C0 C1 C2 t0 t1 t2 h0 h1 h2 h3 h4 => (Mid.start (heldN []) s w C0 C1 C2 t0 t1 t2 h0 h1 h2 h3 h4).lock (fun m _ _ => heldN_nil m)
  refine (keeps c (heldN []) (fun m => by rw [heldN_nil]; omega) (fun m => by rw [heldN_nil]; omega) s _ _ _ g hg _ (((HT.out.alloc _).alloc _).alloc _) (HM _ _ _ _ _ _ rfl rfl rfl (fun m hm => ?_) rfl)).mono ?_
  · have hm' : m = 0 ∨ m = 1 ∨ m = 2 ∨ m = 3 ∨ m = 4 ∨ m = 5 ∨ m = 6 := by omega
    rcases hm' with rfl | rfl | rfl | rfl | rfl | rfl | rfl <;> rfl
  rintro e w3 ⟨rfl, hb3⟩
  go_wp2
  go_ret
  exact ⟨rfl, ((((Below.refl _ _).alloc (Nat.le_refl _) _).alloc (by simp) _).alloc (by simp <;> omega) _).trans (hb3.mono (by simp <;> omega))⟩

end Go.Proofs.Qxb6614373aDoor.W
