/-
  THE WALK OF FnBytesReadIsCeilingAndStepsByWholeBytes (function 3): a copy of 'in', two readers, two answers.
-/
import Derived.Test.Qxb6614482aRows
import Derived.WalkKit
import Derived.WalkSpells
import Derived.WalkLawsBesides
import Derived.OwnWalk
import Derived.Below
import Derived.Laws.CopyOwn
import Derived.KernelRfl
namespace Go.Proofs.Qxb6614482a.Rd
open Go.RowKit
set_option linter.unusedVariables false

theorem info5 : (Try.prog.info? 5).map (fun i => (i.zero, i.size, i.bytes)) = some (some (.int .u8 0), 1, 1) := by kernel_rfl
theorem size5 : (Try.prog.info? 5).map (·.size) = some 1 := by kernel_rfl

/-- 'r.bytesRead()': the least q with 8 * q at or past the position. -/
theorem read7 (b : Nat) (pos q : Int) (w : World) (h0 : -9223372036854775808 ≤ pos) (h1 : pos ≤ 9223372036854775800) (hq0 : pos ≤ 8 * q) (hq1 : 8 * q ≤ pos + 7) (hc : w.cell? ⟨b, 1, none⟩ = some (.int .i64 pos)) :
    Calls Try.prog 5 #[.pointer (some ⟨b, 0, none⟩)] w fun e w' => e = .returned (.int .i64 q) ∧ w' = w := by
  have HQ : Hid (q = (pos + 7) / 8) := by show q = _; omega
  clear hq0 hq1
  go_enter Try.func5, Try.ntmps5
  go_wp2
  go_ret
  exact ⟨by rw [HQ.out]; rfl, rfl⟩

theorem law_long (ao : Option Addr) (len cap : Nat) (pos k : Int) (w : World) (hbig : 1048576 < len) :
    Calls Try.prog 3 #[.slice ao len cap, .int .i64 pos, .int .i64 k] w fun e w' => e = .returned (.bool true) ∧ Below w.heap.size w w' := by
  go_enter Try.func3, Try.ntmps3
  go_wp2
  go_ret
  exact ⟨rfl, Below.refl _ _⟩
theorem law_klow (ao : Option Addr) (len cap : Nat) (pos k : Int) (w : World) (hlen : len ≤ 1048576) (hk : k < 0) :
    Calls Try.prog 3 #[.slice ao len cap, .int .i64 pos, .int .i64 k] w fun e w' => e = .returned (.bool true) ∧ Below w.heap.size w w' := by
  have d1 : decide (k < 0) = true := by simp; omega
  go_enter Try.func3, Try.ntmps3
  go_wp2
  go_ret
  exact ⟨rfl, Below.refl _ _⟩
theorem law_khigh (ao : Option Addr) (len cap : Nat) (pos k : Int) (w : World) (hlen : len ≤ 1048576) (hk : 65536 < k) :
    Calls Try.prog 3 #[.slice ao len cap, .int .i64 pos, .int .i64 k] w fun e w' => e = .returned (.bool true) ∧ Below w.heap.size w w' := by
  have d1 : decide (k < 0) = false := by simp; omega
  have d2 : decide ((65536 : Int) < k) = true := by simp; omega
  go_enter Try.func3, Try.ntmps3
  go_wp2
  go_ret
  exact ⟨rfl, Below.refl _ _⟩
theorem law_phigh (ao : Option Addr) (len cap : Nat) (pos k : Int) (w : World) (hlen : len ≤ 1048576) (hk0 : 0 ≤ k) (hk1 : k ≤ 65536) (hp : 9223372036854251503 < pos) :
    Calls Try.prog 3 #[.slice ao len cap, .int .i64 pos, .int .i64 k] w fun e w' => e = .returned (.bool true) ∧ Below w.heap.size w w' := by
  have d1 : decide (k < 0) = false := by simp; omega
  have d2 : decide ((65536 : Int) < k) = false := by simp; omega
  go_enter Try.func3, Try.ntmps3
  go_wp2
  go_ret
  exact ⟨rfl, Below.refl _ _⟩

theorem own_block {w : World} {base g n : Nat} {e : TypeId} {xs : List Value} (h : w.ownsRow base e 1 (.slice (some ⟨g, 0, none⟩) n n) n xs) : ∃ cur : List Value, cur.length = n ∧ w.heap[g]? = some (.cells cur.toArray e (0, 0)) := by
  rcases h.2 with ⟨h', _⟩ | ⟨g', cap', cur, h', _, hg, _, _, hsz, _⟩
  · simp at h'
  · simp only [Value.slice.injEq, Option.some.injEq, Addr.mk.injEq, and_true, true_and] at h'
    obtain ⟨rfl, rfl⟩ := h'
    exact ⟨cur.toList, by simpa using hsz, by simpa using hg⟩
theorem hidden {p : Prop} (h : p) : Hid p := h
/-- what copy reads of 'in' lies there still behind the make. -/
theorem copy_src {x : Addr} {zs : List Int} {w w1 : World} (hr : ∀ i, i < zs.length → w.cell? (x.add i) = some (.int .u8 (zs.getD i 0))) (hb : Below w.heap.size w w1) (B : Nat) :
    0 < (zs.map (Value.int .u8)).length → (some (⟨B, 0, none⟩ : Addr)) = some ⟨B, 0, none⟩ ∧ ∃ ad, some x = some ad ∧ ∀ j v, (zs.map (Value.int .u8))[j]? = some v → w1.cell? (ad.add j) = some v := by
  intro _
  refine ⟨rfl, _, rfl, fun j v hv => ?_⟩
  rw [List.getElem?_map, Option.map_eq_some_iff] at hv
  obtain ⟨z, hz', rfl⟩ := hv
  have hj : j < zs.length := (List.getElem?_eq_some_iff.1 hz').1
  have h := hr j hj
  rw [hb.cell (World.block_lt_of_cell? w _ h), h]
  simp [List.getD, hz']

set_option maxRecDepth 100000 in
set_option maxHeartbeats 2000000 in
theorem law_some (x : Addr) (len cap : Nat) (zs : List Int) (pos k q : Int) (w : World) (hlen : len ≤ 1048576) (hz : zs.length = len) (hk0 : 0 ≤ k) (hk1 : k ≤ 65536) (hp0 : -9223372036854775808 ≤ pos) (hp1 : pos ≤ 9223372036854251503)
    (hq0 : pos ≤ 8 * q) (hq1 : 8 * q ≤ pos + 7) (hr : ∀ i, i < zs.length → w.cell? (x.add i) = some (.int .u8 (zs.getD i 0))) :
    Calls Try.prog 3 #[.slice (some x) len cap, .int .i64 pos, .int .i64 k] w fun e w' => e = .returned (.bool true) ∧ Below w.heap.size w w' := by
  have hm : len ≤ maxLen := by unfold maxLen; omega
  obtain ⟨i0, hi, hz0, hz1, hz2⟩ := info_parts info5
  have hneq := fun w => run_neq_slice_nil_any (P := Try.prog) w 22 5 (some x) len cap 0 0 Try.underlying22
  have HR : Hid (∀ i, i < zs.length → w.cell? (x.add i) = some (.int .u8 (zs.getD i 0))) := hr
  have HLZ : Hid ((zs.map (Value.int .u8)).length = Nat.min len len) := by show _ = _; simp [hz]
  have HONE : Hid (∀ v ∈ zs.map (Value.int .u8), v.oneCell' = true) := by intro v hv; simp at hv; obtain ⟨z, _, rfl⟩ := hv; rfl
  have d1 : decide (k < 0) = false := by simp; omega
  have d2 : decide ((65536 : Int) < k) = false := by simp; omega
  clear hr hz
  go_enter Try.func3, Try.ntmps3
  go_wp2_with (first
    | (at_make; refine wpList_make_full _ rfl _ _ 22 rfl w.heap.size 5 i0 (.int .u8 0) 1 Try.underlying22 hi hz0 hz1 _ _ _ _ len rfl rfl rfl rfl (by rw [hz2]; omega) hm (Nat.le_refl _) ?_; intro w1 hown hgrow; have hb1 : Below w.heap.size w w1 := (Below.refl _ _).grown hgrow (Nat.le_refl _) (fun k hk => by cases hk); obtain ⟨cur, hcl, hblk⟩ := own_block hown; have HP := hidden (copy_src HR.out hb1 w.heap.size); have HCL : Hid (cur.length = len) := hcl; clear hown hgrow hcl)
    | (refine wpList_copy_splice rfl (.tmp 32) (.tmp 33) 22 22 rfl 5 Try.underlying22 size5 _ _ _ _ _ _ rfl rfl w.heap.size 0 cur 5 hblk (zs.map (Value.int .u8)) HLZ.out HP.out (by have := HLZ.out; have := HCL.out; simp at *; omega) HONE.out w.heap.size w hb1 (Nat.le_refl _) ?_; intro w2 hblk2 hb2)
    | (go_at_call 4; go_in) | (go_at_call 6; go_in))
  refine (read7 _ pos q _ hp0 (by omega) hq0 hq1 (by simp)).mono ?_
  rintro e w3 ⟨rfl, rfl⟩
  have e1 : decide ((0 : Int) ≤ 8 * q - pos) = true := by simp; omega
  have e2 : decide (8 * q - pos < 8) = true := by simp; omega
  go_wp2_with (go_at_call 6; go_in)
  refine (read7 _ (pos + 8 * k) (q + k) _ (by omega) (by omega) (by omega) (by omega) (by simp)).mono ?_
  rintro e w4 ⟨rfl, rfl⟩
  go_wp2
  go_ret
  exact ⟨rfl, (hb2.alloc hb2.size _).alloc (by have := hb2.size; simp; omega) _⟩

set_option maxRecDepth 100000 in
set_option maxHeartbeats 2000000 in
theorem law_nil (pos k q : Int) (w : World) (hk0 : 0 ≤ k) (hk1 : k ≤ 65536) (hp0 : -9223372036854775808 ≤ pos) (hp1 : pos ≤ 9223372036854251503) (hq0 : pos ≤ 8 * q) (hq1 : 8 * q ≤ pos + 7) :
    Calls Try.prog 3 #[.slice none 0 0, .int .i64 pos, .int .i64 k] w fun e w' => e = .returned (.bool true) ∧ Below w.heap.size w w' := by
  have hneq := fun w => run_neq_slice_nil_any (P := Try.prog) w 22 5 none 0 0 0 0 Try.underlying22
  have d1 : decide (k < 0) = false := by simp; omega
  have d2 : decide ((65536 : Int) < k) = false := by simp; omega
  go_enter Try.func3, Try.ntmps3
  go_wp2_with (first | (go_at_call 4; go_in) | (go_at_call 6; go_in))
  refine (read7 _ pos q _ hp0 (by omega) hq0 hq1 (by simp)).mono ?_
  rintro e w3 ⟨rfl, rfl⟩
  have e1 : decide ((0 : Int) ≤ 8 * q - pos) = true := by simp; omega
  have e2 : decide (8 * q - pos < 8) = true := by simp; omega
  go_wp2_with (go_at_call 6; go_in)
  refine (read7 _ (pos + 8 * k) (q + k) _ (by omega) (by omega) (by omega) (by omega) (by simp)).mono ?_
  rintro e w4 ⟨rfl, rfl⟩
  go_wp2
  go_ret
  exact ⟨rfl, ((Below.refl _ _).alloc (Nat.le_refl _) _).alloc (by simp) _⟩

end Go.Proofs.Qxb6614482a.Rd
