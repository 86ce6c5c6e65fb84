/-
  THE WALKS OF THE CALLEES on the road of FnSecureEntryPointAgreesWithTheWireForm: AppendUint16 (function 20), RDATA (10), SecureEntryPoint (8), the guard on lengths (9).
-/
import Derived.Test.Qxb6614277aRows
import Derived.WalkKit
import Derived.WalkSpells
import Derived.WalkLawsBesides
import Derived.OwnWalk
import Derived.Below
import Derived.Laws.AppendOwnNone
import Derived.Deep.RegionHeld3
import Derived.Deep.AppendLies
import Derived.Laws.BitsAllLaws
import Derived.KernelRfl
namespace Go.Proofs.Qxb6614277a.Rd
open Go.RowKit
set_option linter.unusedVariables false

theorem info5 : (Try.prog.info? 5).map (fun i => (i.zero, i.size, i.bytes)) = some (some (.int .u8 0), 1, 1) := by kernel_rfl

set_option maxRecDepth 100000 in
set_option maxHeartbeats 1000000 in
/-- 'AppendUint16(nil, f)': a row of its own with f's two bytes, the greater first. -/
theorem au16 (f : Int) (h0 : 0 ≤ f) (h1 : f ≤ 65535) (B : Nat) (w : World) (hB : w.heap.size = B) :
    Calls Try.prog 20 #[.agg #[], .slice none 0 0, .int .u16 f] w fun e w' => ∃ g cap, e = .returned (.slice (some ⟨g, 0, none⟩) 2 cap) ∧
      w'.ownsRow B 5 1 (.slice (some ⟨g, 0, none⟩) 2 cap) 2 [.int .u8 (f / 256), .int .u8 (f % 256)] ∧ B ≤ g ∧ g < w'.heap.size ∧ Below B w w' := by
  subst hB
  obtain ⟨i0, hi, hz0, hz1, hz2⟩ := info_parts info5
  go_enter Try.func20, Try.ntmps20
  go_wp2_with (at_builtin; refine wpList_append_own _ rfl _ _ 23 rfl w.heap.size 5 i0 (.int .u8 0) 1 1 Try.underlying23 hi hz0 hz1 hz2 rfl (by decide) _ _ _ rfl (World.ownsRow_nil _ _ _ _) _ 2 2 [Value.int .u8 (f / 256), Value.int .u8 (f % 256)] rfl rfl ?c1 ?c2 ?c3 ?c4 ?c5 ?_)
  case c1 =>
    intro j u hj
    match j, hj with
    | 0, hj => simp at hj; subst hj; simp [Addr.add]
    | 1, hj => simp at hj; subst hj; simp [Addr.add]
  case c2 => intro u hu; simp at hu; rcases hu with rfl | rfl <;> rfl
  case c3 => unfold maxLen; omega
  case c4 => omega
  case c5 => simp; omega
  intro v' w2 hown' hgrow _
  obtain ⟨g, cap, hv, hBg, hlt⟩ := hown'.form (by omega)
  rw [hv] at hown' ⊢
  go_wp2
  go_ret
  refine ⟨g, cap, rfl, hown', hBg, hlt, ?_⟩
  exact (((Below.refl w.heap.size w).alloc (by omega) _).alloc (by simp) _).grown hgrow (by simp; omega) (fun k hk => by simp [Value.ownBlock] at hk)

set_option maxRecDepth 100000 in
set_option maxHeartbeats 2000000 in
/-- 'k.RDATA()', the key's four fields behind the pointer known: a new slice of 4 + len bytes that begins with the two bytes of the flags; nothing old has turned. -/
theorem rdata (b : Nat) (f p q : Int) (hf0 : 0 ≤ f) (hf1 : f ≤ 65535) (ao : Option Addr) (len cap : Nat) (zs : List Int) (w : World)
    (hF : w.cell? ⟨b, 1, none⟩ = some (.int .u16 f)) (hP : w.cell? ⟨b, 2, none⟩ = some (.int .u8 p)) (hQ : w.cell? ⟨b, 3, none⟩ = some (.int .u8 q)) (hS : w.cell? ⟨b, 4, none⟩ = some (.slice ao len cap))
    (hb : b < w.heap.size) (hlen : len ≤ 1048576) (hz : zs.length = len) (hnone : ao = none → len = 0 ∧ cap = 0)
    (hc : ∀ x, ao = some x → ∀ i, i < zs.length → w.cell? (x.add i) = some (.int .u8 (zs.getD i 0))) :
    Calls Try.prog 10 #[.pointer (some ⟨b, 0, none⟩)] w fun e w' => ∃ g c, e = .returned (.slice (some ⟨g, 0, none⟩) (4 + len) c) ∧
      w'.cell? ⟨g, 0, none⟩ = some (.int .u8 (f / 256)) ∧ w'.cell? ⟨g, 1, none⟩ = some (.int .u8 (f % 256)) ∧ w.heap.size ≤ g ∧ g < w'.heap.size ∧ Below w.heap.size w w' := by
  obtain ⟨i0, hi, hz0, hz1, hz2⟩ := info_parts info5
  go_enter Try.func10, Try.ntmps10
  go_wp2_with fail
  go_region_held3 (fun w' => w'.cell? ⟨b, 1, none⟩ = some (.int .u16 f)) (go_keep)
    (first | (go_at_call 20; refine (au16 f hf0 hf1 w.heap.size _ (by simp)).mono ?_; rintro e w1 ⟨g, cp, rfl, hown, hBg, hlt, hbel⟩; have F1 := (hbel.cell (p := ⟨b, 1, none⟩) hb).trans hF))
  have hbel1 : Below w.heap.size w w1 := (Below.refl _ _).drew.trans hbel
  have P1 := (hbel1.cell (p := ⟨b, 2, none⟩) hb).trans hP
  have Q1 := (hbel1.cell (p := ⟨b, 3, none⟩) hb).trans hQ
  have sz1 := hbel1.size
  have hb1 : b < w1.heap.size := by omega
  have hne : some b ≠ some g := by intro h; simp at h; omega
  clear hbel F1
  go_wp2_with fail
  go_region_held3 (fun w' => w'.cell? ⟨b, 2, none⟩ = some (.int .u8 p) ∧ w'.cell? ⟨b, 3, none⟩ = some (.int .u8 q))
    (first
      | go_keep
      | (go_split_ands
         refine ⟨?_, ?_⟩
         · (rw [hgrow.cell_far _ (by simp; omega) hne]; assumption)
         · (rw [hgrow.cell_far _ (by simp; omega) hne]; assumption)))
    ((refine step_append_lies _ (by rfl) _ _ _ (by rfl) w.heap.size 5 i0 _ 1 1 Try.underlying23 hi hz0 hz1 hz2 rfl (by omega) _ 2 _ (by rfl) ((hown.alloc _).drew)
        ⟨w1.heap.size, 0, none⟩ 2 2 [.int .u8 p, .int .u8 q] (by rfl) (by rfl) (World.news_of_block (cs := #[.int .u8 p, .int .u8 q]) (t := 5) (fr := (0, 0)) (heap_alloc_new w1 _)) (by simp [Value.oneCell'])
        (by omega) (by unfold maxLen; omega) (by omega) (by simp; omega) (w1.heap.size + 1) (by simp) ?_; intro g2 cap2 w2 hown2 hgrow hat hlt2))
  have hbel2 : Below w.heap.size w w2 := ((hbel1.alloc sz1 _).drew).grown hgrow (by simp; omega) (fun k hk => by simp [Value.ownBlock] at hk; omega)
  have S2 := (hbel2.cell (p := ⟨b, 4, none⟩) hb).trans hS
  have sz2 := hbel2.size
  simp only [List.cons_append, List.nil_append, Nat.reduceAdd] at hown2
  have hc2 : ∀ x, ao = some x → ∀ j u, (zs.map (Value.int .u8))[j]? = some u → w2.cell? (x.add j) = some u := by
    intro x hx j u hu
    rw [List.getElem?_map, Option.map_eq_some_iff] at hu
    obtain ⟨z, hz', rfl⟩ := hu
    have hj : j < zs.length := (List.getElem?_eq_some_iff.1 hz').1
    have h := hc x hx j hj
    rw [hbel2.cell (World.block_lt_of_cell? w _ h), h]
    simp [List.getD, hz']
  clear hgrow hat hown hF hP hQ hS hbel1 P1 Q1 hne hc
  rcases ao with _ | x
  · obtain ⟨rfl, rfl⟩ := hnone rfl
    clear hnone hc2
    go_wp2_with (at_builtin; refine wpList_append_own_none rfl _ _ 23 rfl w.heap.size 5 i0 1 Try.underlying23 hi _ _ _ rfl hown2 rfl ?_)
    go_ret
    refine ⟨g2, cap2, rfl, ?_, ?_, (hown2.lt g2 rfl).1, hlt2, hbel2⟩
    · rw [hown2.cellAt 0 (by omega)]; rfl
    · rw [hown2.cellAt 1 (by omega)]; rfl
  · have hc3 := hc2 x rfl
    clear hnone hc2
    go_wp2_with (at_builtin; refine wpList_append_own _ rfl _ _ 23 rfl w.heap.size 5 i0 (.int .u8 0) 1 1 Try.underlying23 hi hz0 hz1 hz2 rfl (by decide) _ _ _ rfl hown2 x _ _ (zs.map (Value.int .u8)) rfl ?c1 ?c2 ?c3 ?c4 ?c5 ?c6 ?_)
    case c1 => simp; omega
    case c2 => exact hc3
    case c3 => intro u hu; simp at hu; obtain ⟨z, _, rfl⟩ := hu; rfl
    case c4 => unfold maxLen; omega
    case c5 => omega
    case c6 => omega
    intro v3 w3 hown3 hgrow3 _
    obtain ⟨g3, cap3, hv, hB3, hlt3⟩ := hown3.form (by omega)
    rw [hv] at hown3 ⊢
    have hbel3 : Below w.heap.size w w3 := hbel2.grown hgrow3 sz2 (fun k hk => (hown2.lt k hk).1)
    go_wp2
    go_ret
    refine ⟨g3, cap3, rfl, ?_, ?_, hB3, hlt3, hbel3⟩
    · rw [hown3.cellAt 0 (by omega)]; rfl
    · rw [hown3.cellAt 1 (by omega)]; rfl

theorem and1_u16 (f : Int) (h0 : 0 ≤ f) (h1 : f ≤ 65535) : bits .and .u16 f 1 = f % 2 := by
  rw [u16_and f 1 h0 (by omega) (by omega) (by omega), show (1 : Int).toNat = 1 from rfl, nat_mask1]; omega
theorem and1_u8 (f : Int) (h0 : 0 ≤ f) (h1 : f ≤ 255) : bits .and .u8 f 1 = f % 2 := by
  rw [u8_and f 1 h0 (by omega) (by omega) (by omega), show (1 : Int).toNat = 1 from rfl, nat_mask1]; omega
/-- the flags read back off their two bytes are the flags. -/
theorem back_u16 (f : Int) (h0 : 0 ≤ f) (h1 : f ≤ 65535) : bits .or .u16 (f / 256 * 256) (f % 256) = f := by
  rw [u16_or _ _ (by omega) (by omega) (by omega) (by omega), nat_join 8 _ _ (by show _ % 256 = 0; omega) (by show _ < 256; omega)]; omega

/-- 'k.SecureEntryPoint()' where the flags' low bit is set. -/
theorem sep1 (b : Nat) (f : Int) (w : World) (hF : w.cell? ⟨b, 1, none⟩ = some (.int .u16 f)) (h0 : 0 ≤ f) (h1 : f ≤ 65535) (h2 : f % 2 = 1) :
    Calls Try.prog 8 #[.pointer (some ⟨b, 0, none⟩)] w fun e w' => e = .returned (.bool true) ∧ w' = w := by
  have ha : bits .and .u16 f 1 = 1 := by rw [and1_u16 f h0 h1, h2]
  clear h2
  go_enter Try.func8, Try.ntmps8
  go_wp2
  go_ret
  exact ⟨rfl, rfl⟩
/-- .. where it is not. -/
theorem sep0 (b : Nat) (f : Int) (w : World) (hF : w.cell? ⟨b, 1, none⟩ = some (.int .u16 f)) (h0 : 0 ≤ f) (h1 : f ≤ 65535) (h2 : f % 2 = 0) :
    Calls Try.prog 8 #[.pointer (some ⟨b, 0, none⟩)] w fun e w' => e = .returned (.bool false) ∧ w' = w := by
  have ha : bits .and .u16 f 1 = 0 := by rw [and1_u16 f h0 h1, h2]
  clear h2
  go_enter Try.func8, Try.ntmps8
  go_wp2
  go_ret
  exact ⟨rfl, rfl⟩

end Go.Proofs.Qxb6614277a.Rd
