/-
  THE ROW OF FnKeepsOutOneHolderIsAsNone PROVED, AND ITS TIED CARD (after the guide's MapyProofs, MapyCard and the seats' shells).
-/
import Derived.Test.Qxb6614373aDoorRows
import Derived.Test.Qxb6614373aDoorTie
import Derived.Test.Qxb6614373aDoorCards
import Derived.Test.Qxb6614373aDoorLaw2
import Derived.Test.Qxb6614373aDoorTab
import Derived.WalkKit
import Derived.ProofKit
import Derived.OpenShut
import Derived.ChangeOld
import Derived.Below
import Derived.LaidMore
import Derived.Stop.Joined
import Derived.SevenTiedAt
namespace Go.Proofs.Qxb6614373aDoor.oneHolderCard
open Go.ChangeShapes Go.WideShapes Go.ChangeAt Go.RowKit
set_option linter.unusedVariables false

theorem own : ownKnob Tryd.prog.godebug = none := by kernel_rfl
theorem laidOut : laidOutB Tryd.prog = true := by kernel_rfl

/-- what the walk is told of the slice that came in. -/
def IsRow (k : IntKind) (w : World) (a : Option Addr) (len cap : Nat) (zs : List Int) : Prop :=
  (a = none ∧ len = 0 ∧ cap = 0 ∧ zs = []) ∨
  ∃ x, a = some x ∧ len ≤ cap ∧ cap ≤ maxLen ∧ zs.length = cap ∧ (∀ i, i < zs.length → w.cell? (x.add i) = some (.int k (zs.getD i 0))) ∧ ∀ n ∈ zs, (Lit.int k n).wf = true

/-- THE WALK, all cases joined. -/
theorem walk {c : Nat → Int} (a0 : Int) (a1 : Option Addr) (len1 cap1 : Nat) (z1 : List Int) (a2 : Int) (w : World) (T : W.Tab c w) (w0 : (Lit.int .u16 a0).wf = true) (w1 : IsRow .i32 w a1 len1 cap1 z1) (w2 : (Lit.int .u8 a2).wf = true) :
    Calls Tryd.prog 4 #[.int .u16 a0, .slice a1 len1 cap1, .int .u8 a2] w fun e w' => e = .returned (.bool true) ∧ Below w.heap.size w w' := by
  have b0 := bounds_u16 w0
  have b2 := bounds_u8 w2
  obtain ⟨g, rfl⟩ := Int.eq_ofNat_of_zero_le b2.1
  by_cases hbig : 1048576 < len1
  · exact W.law2_long a0 a1 len1 cap1 _ w hbig
  · rcases w1 with ⟨rfl, rfl, rfl, rfl⟩ | ⟨x, rfl, hl, hm, hz, hcell, hwz⟩
    · exact W.law2_nil c a0 g b0.1 b0.2 (by omega) w T
    · exact W.law2_some c a0 x len1 cap1 g (z1.take len1) b0.1 b0.2 (by omega) (by omega) w T (W.row_of hl hz hcell)

/-- The door's own heap meets the condition: three closed facts. -/
theorem door_met (os : Os) (args : Array Value) : laidMetH Tryd.prog Rows.fnKeepsOutOneHolderIsAsNoneRow.laid ((World.doorLaid Tryd.prog 1311 os).forCall (fun _ _ => 0) ⟨#[], args, []⟩).memory :=
  laidMetH_of_parts3 (fuel := 8) (laidMet_of_run' 8 (by kernel_rfl) (by kernel_rfl)) (by kernel_rfl) (by kernel_rfl)

set_option maxRecDepth 100000 in
theorem lifted (os : Os) (started : os.Started) (H : Type) (enc : TypeId × Value → H) :
    ReturnsInHanded {} Tryd.checked os 4 .any (fun w args => (Rows.fnKeepsOutOneHolderIsAsNoneSpec.pre enc Tryd.prog Tryd.f4 [] false w args ∧ laidMetH Tryd.prog Rows.fnKeepsOutOneHolderIsAsNoneRow.laid w) ∧ sizedMet enc Tryd.prog Tryd.f4 (OpenSpec.ofChange Rows.fnKeepsOutOneHolderIsAsNoneSpec) false w args)
      (Rows.fnKeepsOutOneHolderIsAsNoneSpec.post enc Tryd.prog Tryd.f4 false true false false) := by
  refine returnsInHanded_of_change_and (C := Tryd.checked) (X := fun w _ => laidMetH Tryd.prog Rows.fnKeepsOutOneHolderIsAsNoneRow.laid w) (fun _ _ _ hh h => h.of_heap hh) own started (by kernel_rfl) Tryd.func4
    (ChangeSpec.witness_shaped (enc := enc) (C := Tryd.checked) (os := os) (X := fun w _ => laidMetH Tryd.prog Rows.fnKeepsOutOneHolderIsAsNoneRow.laid w) false (World.doorLaid Tryd.prog 1311 os) #[.int .u16 0, .slice none 0 0, .int .u8 0] 8 rfl (World.shaped_of_RefB (by kernel_rfl) (by kernel_rfl)) (by kernel_rfl) (by kernel_rfl) (by kernel_rfl) (door_met os _)) ?_
  intro W base args ds gs before hval0 hW _ _ hL _
  have hval : ∀ (j : Nat) t v, Tryd.f4.params[j]? = some t → args[j]? = some v → Value.okWide Tryd.prog W .any base t v := hval0
  have hW' := hW
  obtain ⟨p, q, hA0, hV, rfl, hfz, hnd⟩ := hW
  have hA : DataW.TrodAll enc Tryd.prog W 0 (fun _ => true) true Tryd.f4.params.toList args.toList ds p := hA0
  rw [Tryd.params4] at hA hval
  obtain ⟨v0, vs0, d0, ds0, p0, q0, hargs, rfl, rfl, h0, r0⟩ := trodAll_cons hA
  obtain ⟨v1, vs1, d1, ds1, p1, q1, rfl, rfl, rfl, h1, r1⟩ := trodAll_cons r0
  obtain ⟨v2, vs2, d2, ds2, p2, q2, rfl, rfl, rfl, h2, r2⟩ := trodAll_cons r1
  obtain ⟨rfl, rfl, rfl⟩ := trodAll_nil r2
  obtain rfl : args = #[v0, v1, v2] := by cases args; simp_all
  obtain ⟨gv, tv, cs, fv, dv, pv, rfl, hgv, htv, hvar, hdv, rfl⟩ := trodVars_one hV
  obtain rfl : gv = 0 := Option.some.inj (hgv.symm.trans (by kernel_rfl))
  obtain rfl : tv = 82 := Option.some.inj (htv.symm.trans (by kernel_rfl))
  have T := Go.Proofs.Qxb6614373aDoor.W.tab_of_var hgv hvar hdv
  obtain ⟨a0, rfl, rfl, rfl, w0⟩ := open_int Tryd.underlying22 (hval 0 22 v0 rfl rfl) h0
  obtain ⟨a1, len1, cap1, rfl⟩ := okWide_slice Tryd.underlying23 (hval 1 23 v1 rfl rfl)
  have k1 := h1
  have lt1 : ∀ x ∈ p1, x.block < W.heap.size := by obtain ⟨m, hm⟩ := k1; exact DataW.trod_lt m _ _ _ hm
  obtain ⟨z1, w1⟩ : ∃ zs, IsRow .i32 W a1 len1 cap1 zs := by
    obtain ⟨fuel, hf⟩ := h1
    rcases open_ints Tryd.underlying23 Tryd.underlying21 (by kernel_rfl) hf with ⟨hcs, _⟩ | ⟨x, l, c, zs, hcs, _, hl, hm, hz, _, hcell, hwz⟩
    · simp [Value.cells] at hcs
      obtain ⟨rfl, rfl, rfl⟩ := hcs
      exact ⟨[], .inl ⟨rfl, rfl, rfl, rfl⟩⟩
    · simp [Value.cells] at hcs
      obtain ⟨rfl, rfl, rfl⟩ := hcs
      exact ⟨zs, .inr ⟨_, rfl, hl, hm, by simpa using hz, hcell, hwz⟩⟩
  obtain ⟨a2, rfl, rfl, rfl, w2⟩ := open_int Tryd.underlying5 (hval 2 5 v2 rfl rfl) h2
  clear hA0 hval0
  have ltv : ∀ x ∈ pv, x.block < W.heap.size := DataW.trod_lt fv _ _ _ hdv
  have hdv1 : DataW.trod enc Tryd.prog W 0 (fun _ => true) true fv 82 cs.toList = some (dv, pv) := hdv
  have hv0 : DataW.Trod enc Tryd.prog W 0 (fun _ => true) true 82 (.agg cs) dv pv := ⟨fv, by simpa [Value.cells] using hdv1⟩
  refine (walk a0 a1 len1 cap1 z1 a2 W T w0 w1 w2).mono fun e W' ⟨he, bel⟩ => ?_
  subst he
  obtain ⟨fv', hdv'⟩ := Below.trod laidOut (by kernel_rfl) (of_decide_eq_true (by kernel_rfl)) hv0 bel ltv
  have hdv2 : DataW.trod enc Tryd.prog W' 0 (fun b => decide (b < W.heap.size)) true fv' 82 cs.toList = some (dv, pv) := by simpa [Value.cells] using hdv'
  exact ⟨_, rfl, _, _, _, [], _, _, hW', trodAll_mk1 (shut_bool Tryd.underlying4 _), (trodAll_cons_mk (shut_int Tryd.underlying22 w0) (trodAll_cons_mk (Below.trod laidOut (by kernel_rfl) (of_decide_eq_true (by kernel_rfl)) k1 bel lt1) (trodAll_cons_mk (shut_int Tryd.underlying5 w2) trodAll_mk0))), trodVars_mk1 hgv htv (var?_below bel hgv T.lt hvar) hdv2, bel.frame _, fun h => by cases h⟩

theorem over : Rows.FnKeepsOutOneHolderIsAsNoneSaid :=
  OpenClaim.holds_of_wide 4 Tryd.f4 rfl rfl rfl rfl rfl rfl rfl ⟨rfl, rfl, rfl, rfl, rfl⟩ rfl rfl rfl rfl rfl (by kernel_rfl) Tryd.func4 (by kernel_rfl)
    (of_decide_eq_true (by kernel_rfl)) (by unfold Func.isWrapper; first | (rw [if_pos (by decide +kernel)]; kernel_rfl) | (rw [if_neg (by decide +kernel)]; exact ⟨rfl, rfl⟩))
    (fun os started H enc _ => lifted os started H enc)

/-- ████ THE STATEMENT: THE TIED CARD ████ -/
theorem proved : Rows.FnKeepsOutOneHolderIsAsNoneCardSaid :=
  Claim7.holds_tied_plain_at .later [] [.calledDeep] true _ false
    over (fun _ h => by cases h) (by kernel_rfl) (fun _ h => by cases h) fnKeepsOutOneHolderIsAsNone_row_tie rfl ⟨rfl, rfl⟩ (by kernel_rfl) rfl
    (fun f fn hf hfn => by
      obtain rfl : f = 4 := Option.some.inj ((show Tryd.prog.funcNamed Rows.fnKeepsOutOneHolderIsAsNoneRow.func = some 4 by kernel_rfl).symm.trans hf) |>.symm
      obtain rfl : fn = Tryd.f4 := (Option.some.inj (Tryd.func4.symm.trans hfn)).symm
      exact ⟨by kernel_rfl, fun j t ht => by
        rw [Tryd.params4] at ht
        have hm : t ∈ [22, 23, 5] := by simpa using Array.mem_of_getElem? ht
        have hall : ([22, 23, 5].all fun u => !Tryd.prog.wantsStandIn u) = true := by kernel_rfl
        exact (show Tryd.prog.wantsStandIn t = false by simpa using List.all_eq_true.1 hall t hm)⟩)
    (by kernel_rfl)
#print axioms proved
end Go.Proofs.Qxb6614373aDoor.oneHolderCard
