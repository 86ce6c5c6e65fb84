/-
  THE WALK OF FnSecureEntryPointAgreesWithTheWireForm (function 4), out of its callees' contracts.
-/
import Derived.Test.Qxb6614277aRdata
namespace Go.Proofs.Qxb6614277a.Rd
open Go.RowKit
set_option linter.unusedVariables false

theorem law_long (a0 a1 a2 : Int) (ao : Option Addr) (len cap : Nat) (w : World) (hbig : 1048576 < len) :
    Calls Try.prog 4 #[.int .u16 a0, .int .u8 a1, .int .u8 a2, .slice ao len cap] w fun e w' => e = .returned (.bool true) ∧ Below w.heap.size w w' := by
  go_enter Try.func4, Try.ntmps4
  go_wp2
  go_ret
  exact ⟨rfl, Below.refl _ _⟩

set_option maxRecDepth 100000 in
set_option maxHeartbeats 2000000 in
theorem law_short (f p q : Int) (hf0 : 0 ≤ f) (hf1 : f ≤ 65535) (ao : Option Addr) (len cap : Nat) (zs : List Int) (w : World)
    (hlen : len ≤ 1048576) (hz : zs.length = len) (hnone : ao = none → len = 0 ∧ cap = 0)
    (hc : ∀ x, ao = some x → ∀ i, i < zs.length → w.cell? (x.add i) = some (.int .u8 (zs.getD i 0))) :
    Calls Try.prog 4 #[.int .u16 f, .int .u8 p, .int .u8 q, .slice ao len cap] w fun e w' => e = .returned (.bool true) ∧ Below w.heap.size w w' := by
  have hc' : ∀ o : Obj, ∀ x, ao = some x → ∀ i, i < zs.length → (w.alloc o).cell? (x.add i) = some (.int .u8 (zs.getD i 0)) := by
    intro o x hx i hi
    have h := hc x hx i hi
    rw [((Below.refl w.heap.size w).alloc (Nat.le_refl _) o).cell (World.block_lt_of_cell? w _ h), h]
  have HC : Hid (∀ o : Obj, ∀ x, ao = some x → ∀ i, i < zs.length → (w.alloc o).cell? (x.add i) = some (.int .u8 (zs.getD i 0))) := hc'
  have HN : Hid (ao = none → len = 0 ∧ cap = 0) := hnone
  have HZ : Hid (zs.length = len) := hz
  clear hc hc' hnone hz
  have ew : bits .or .u16 (f / 256 * 256) (f % 256) = f := back_u16 f hf0 hf1
  go_enter Try.func4, Try.ntmps4
  go_wp2_with (go_at_call 9; go_in)
  refine (rdata w.heap.size f p q hf0 hf1 ao len cap zs _ (by simp) (by simp) (by simp) (by simp) (by simp) hlen HZ.out HN.out (HC.out _)).mono ?_
  rintro e w1 ⟨g, c, rfl, c0, c1, hg, hlt, hbel⟩
  have hsz := hbel.size
  simp only [World.size_alloc] at hg hsz hbel
  have F1 : w1.cell? ⟨w.heap.size, 1, none⟩ = some (.int .u16 f) := by rw [hbel.cell (by simp)]; simp
  have hb1 : Below w.heap.size w w1 := ((Below.refl _ _).alloc (Nat.le_refl _) _).trans (hbel.mono (by omega))
  clear hbel
  have i0 : (0 : Int) < 4 + (len : Int) := by omega
  have i1 : (1 : Int) < 4 + (len : Int) := by omega
  go_wp2_with fail
  go_region_held3 (fun w' => w'.cell? ⟨g, 0, none⟩ = some (.int .u8 (f / 256)) ∧ w'.cell? ⟨g, 1, none⟩ = some (.int .u8 (f % 256))) (go_keep) (fail)
  go_wp2_with fail
  have hw1 : w.heap.size < w1.heap.size := by omega
  have keep : ∀ (o : Obj) (x : Addr), x.block < w1.heap.size → (w1.alloc o).drew.cell? x = w1.cell? x := fun o x hx => (((Below.refl w1.heap.size w1).alloc (Nat.le_refl _) o).drew).cell hx
  have F2 : ∀ o : Obj, (w1.alloc o).drew.cell? ⟨w.heap.size, 1, none⟩ = some (.int .u16 f) := fun o => (keep o _ hw1).trans F1
  have C2 : ∀ o : Obj, (w1.alloc o).drew.cell? ⟨g, 1, none⟩ = some (.int .u8 (f % 256)) := fun o => (keep o _ hlt).trans c1
  have hB2 : ∀ o : Obj, Below w.heap.size w (w1.alloc o).drew := fun o => (hb1.alloc (by omega) o).drew
  clear keep c0 c1 F1 ew
  have h2 : f % 2 = 1 ∨ f % 2 = 0 := by omega
  rcases h2 with h2 | h2
  · have H2 : Hid (f % 2 = 1) := h2
    have ha : bits .and .u8 (f % 256) 1 = 1 := by rw [and1_u8 _ (by omega) (by omega)]; omega
    clear h2
    refine (sep1 w.heap.size f _ (F2 _) hf0 hf1 H2.out).mono ?_
    rintro e w2 ⟨rfl, rfl⟩
    go_wp2_with fail
    refine (sep1 w1.heap.size f _ (by simp) hf0 hf1 H2.out).mono ?_
    rintro e w3 ⟨rfl, rfl⟩
    go_wp2
    go_ret
    exact ⟨rfl, hB2 _⟩
  · have H2 : Hid (f % 2 = 0) := h2
    have ha : bits .and .u8 (f % 256) 1 = 0 := by rw [and1_u8 _ (by omega) (by omega)]; omega
    clear h2
    refine (sep0 w.heap.size f _ (F2 _) hf0 hf1 H2.out).mono ?_
    rintro e w2 ⟨rfl, rfl⟩
    go_wp2_with fail
    refine (sep0 w1.heap.size f _ (by simp) hf0 hf1 H2.out).mono ?_
    rintro e w3 ⟨rfl, rfl⟩
    go_wp2
    go_ret
    exact ⟨rfl, hB2 _⟩

end Go.Proofs.Qxb6614277a.Rd
