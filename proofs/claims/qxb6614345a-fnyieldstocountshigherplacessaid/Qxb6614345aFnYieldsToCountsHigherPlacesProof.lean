/-
  THE SHELL OF A PROOF OF 'Rows.FnYieldsToCountsHigherPlacesSaid' ('example.com/caucus/caucus/zzlaws_root_b1.FnYieldsToCountsHigherPlaces'), WRITTEN BY PROGRAM (proof-skeleton.mjs) off the guide's own print for that function.
  The hole (the walk) is filled by hand.
-/
import Derived.Test.Qxb6614345aRows
import Derived.WalkKit
import Derived.ProofKit
import Derived.OpenShut
import Derived.ShutString
namespace Go.Proofs.Qxb6614345a.fnYieldsToCountsHigherPlaces
open Go.ChangeShapes Go.WideShapes Go.ChangeAt Go.RowKit
open Go.ChangeMaps (open_string shut_string)
set_option linter.unusedVariables false      -- a walk need not use every 'w<i>' (that an integer argument fits its kind)

theorem own : ownKnob Try.prog.godebug = none := by kernel_rfl

/-! ### THE PLAIN LAW: no Go in sight: how many of the places 0 .. k-1 stand before 'asker' -/
def cnt (asker : Int) (leading : Bool) (k : Nat) : Int := if leading then 0 else if asker < 0 then 0 else if asker < k then asker else k

theorem cnt_bounds (asker : Int) (leading : Bool) (k : Nat) : 0 ≤ cnt asker leading k ∧ cnt asker leading k ≤ k := by
  unfold cnt; split
  · omega
  · split
    · omega
    · split <;> omega

theorem cnt_yes (asker : Int) (k : Nat) (h : (k : Int) < asker) : cnt asker false (k + 1) = cnt asker false k + 1 := by
  simp only [cnt, Bool.false_eq_true, if_false]
  rw [if_neg (by omega), if_neg (by omega), if_neg (by omega), if_neg (by omega)]; omega

theorem cnt_no (asker : Int) (k : Nat) (h : ¬ (k : Int) < asker) : cnt asker false (k + 1) = cnt asker false k := by
  simp only [cnt, Bool.false_eq_true, if_false]
  by_cases h0 : asker < 0
  · rw [if_pos h0, if_pos h0]
  · rw [if_neg h0, if_neg h0, if_pos (by omega)]
    by_cases h1 : asker < k
    · rw [if_pos h1]
    · rw [if_neg h1]; omega

theorem cnt_led (asker : Int) (k : Nat) : cnt asker true k = 0 := by simp [cnt]

theorem cnt_low (asker : Int) (k : Nat) (h : asker < 0) : cnt asker false k = 0 := by simp [cnt, h]
theorem cnt_mid (asker : Int) (k : Nat) (h : ¬ asker < 0) (h1 : asker < k) : cnt asker false k = asker := by simp [cnt, h, h1]
theorem cnt_top (asker : Int) (k : Nat) (h : ¬ asker < 0) (h1 : ¬ asker < k) : cnt asker false k = k := by simp [cnt, h, h1]

/-! ### STEP 1: THE WALK: the Go text returns true. 'Grown w w'': the world has at most new blocks (Derived/RowKit3.lean). Part the cases AHEAD of 'go_enter' where a test parts the walk; take each callee by a contract of your own. -/
theorem walk (a0 : Int) (a1 : Int) (a2 : Bool) (w0 : (Lit.int .i64 a0).wf = true) (w1 : (Lit.int .i64 a1).wf = true) (w : World) :
    Calls Try.prog 4 #[.int .i64 a0, .int .i64 a1, .bool a2] w fun e w' => e = .returned (.bool true) ∧ Grown w w' := by
  by_cases h1 : a1 < 0
  · go_enter Try.func4, Try.ntmps4
    go_wp2
    go_ret
    exact ⟨rfl, Grown.refl _⟩
  · by_cases h2 : 65536 < a1
    · go_enter Try.func4, Try.ntmps4
      go_wp2
      go_ret
      exact ⟨rfl, Grown.refl _⟩
    · obtain ⟨n, rfl⟩ := Int.eq_ofNat_of_zero_le (show 0 ≤ a1 by omega)
      have d1 : decide ((n : Int) < 0) = false := by simp
      have d2 : decide ((65536 : Int) < (n : Int)) = false := by simp; omega
      go_enter Try.func4, Try.ntmps4
      go_wp2
      go_loop [7, 8] (fun c i => ∃ k : Nat, k ≤ n ∧ i = .int .i64 k ∧ c = .int .i64 (cnt a0 a2 k)) (fun _ i => n - (intOf i).toNat)
      case atStart => exact ⟨0, Nat.zero_le _, rfl, by cases a2 <;> simp [cnt]; omega⟩
      case round =>
        obtain ⟨k, hk, rfl, rfl⟩ := hrel
        have hb := cnt_bounds a0 a2 k
        by_cases hlt : k < n
        · cases a2
          · by_cases hy : (k : Int) < a0
            · have HS : Hid (cnt a0 false (k + 1) = cnt a0 false k + 1) := cnt_yes a0 k hy
              go_wp2
              go_round
              case rel => exact ⟨k + 1, by omega, by go_num, by rw [HS.out]⟩
              case measure => simp [intOf]; omega
            · have HS : Hid (cnt a0 false (k + 1) = cnt a0 false k) := cnt_no a0 k hy
              go_wp2
              go_round
              case rel => exact ⟨k + 1, by omega, by go_num, by rw [HS.out]⟩
              case measure => simp [intOf]; omega
          · go_wp2
            go_round
            case rel => exact ⟨k + 1, by omega, by go_num, by rw [cnt_led, cnt_led]⟩
            case measure => simp [intOf]; omega
        · obtain rfl : k = n := by omega
          cases a2
          · by_cases h3 : a0 < 0
            · rw [cnt_low a0 k h3]
              go_wp2
              go_ret
              exact ⟨rfl, Grown.refl _⟩
            · by_cases h4 : a0 < (k : Int)
              · rw [cnt_mid a0 k h3 h4]
                go_wp2
                go_ret
                exact ⟨by simp, Grown.refl _⟩
              · rw [cnt_top a0 k h3 h4]
                by_cases h5 : (k : Int) < a0
                · go_wp2
                  go_ret
                  exact ⟨by simp, Grown.refl _⟩
                · obtain rfl : a0 = (k : Int) := by omega
                  go_wp2
                  go_ret
                  exact ⟨by simp, Grown.refl _⟩
          · rw [cnt_led]
            go_wp2
            go_ret
            exact ⟨rfl, Grown.refl _⟩

/-! ### THE ROW's STEP: WRITTEN OUT: LEAVE IT -/
set_option maxRecDepth 100000 in
theorem lifted (os : Os) (started : os.Started) (H : Type) (enc : TypeId × Value → H) :
    ReturnsInHanded {} Try.checked os 4 .any (Rows.fnYieldsToCountsHigherPlacesSpec.pre6 enc Try.prog Try.f4 Rows.fnYieldsToCountsHigherPlacesRow.domain false) (Rows.fnYieldsToCountsHigherPlacesSpec.post enc Try.prog Try.f4 false true false false) := by
  refine returnsInHanded_of_change (C := Try.checked) own started (by kernel_rfl) Try.func4
    (ChangeSpec.witness6 (enc := enc) (C := Try.checked) false ⟨#[], #[.int .i64 0, .int .i64 0, .bool false], []⟩ 8 (by kernel_rfl) (by kernel_rfl) (by kernel_rfl) (by kernel_rfl)) ?_
  intro W base args ds gs before hval0 hW hcnd _
  have hval : ∀ (j : Nat) t v, Try.f4.params[j]? = some t → args[j]? = some v → Value.okWide Try.prog W .any base t v := hval0
  have hW' := hW
  obtain ⟨p, q, hA0, hV, rfl, hfz, hnd⟩ := hW
  have hA : DataW.TrodAll enc Try.prog W 0 (fun _ => true) true Try.f4.params.toList args.toList ds p := hA0
  rw [Try.params4] at hA hval
  obtain ⟨v0, vs0, d0, ds0, p0, q0, hargs, rfl, rfl, h0, r0⟩ := trodAll_cons hA
  obtain ⟨v1, vs1, d1, ds1, p1, q1, rfl, rfl, rfl, h1, r1⟩ := trodAll_cons r0
  obtain ⟨v2, vs2, d2, ds2, p2, q2, rfl, rfl, rfl, h2, r2⟩ := trodAll_cons r1
  obtain ⟨rfl, rfl, rfl⟩ := trodAll_nil r2
  obtain rfl : args = #[v0, v1, v2] := by cases args; simp_all
  obtain ⟨rfl, rfl⟩ := trodVars_none hV
  obtain ⟨a0, rfl, rfl, rfl, w0⟩ := open_int Try.underlying3 (hval 0 3 v0 rfl rfl) h0
  obtain ⟨a1, rfl, rfl, rfl, w1⟩ := open_int Try.underlying3 (hval 1 3 v1 rfl rfl) h1
  obtain ⟨a2, rfl, rfl, rfl⟩ := open_bool Try.underlying4 (hval 2 4 v2 rfl rfl) h2
  clear hA0 hval0
  simp only [List.append_nil] at hW'
  refine (walk a0 a1 a2 w0 w1 W).mono fun e W' ⟨he, hg⟩ => ?_
  subst he
  exact ⟨_, rfl, post_of_same (pa := []) (pv := []) hW' (fun _ _ _ => (trodAll_cons_mk (shut_bool Try.underlying4 _) trodAll_mk0)) (fun sp _ => (trodAll_cons_mk (shut_int Try.underlying3 w0) (trodAll_cons_mk (shut_int Try.underlying3 w1) (trodAll_cons_mk (shut_bool Try.underlying4 _) trodAll_mk0)))) (fun _ _ => rfl) rfl
    (hg.frame _) hg.2.1 (ok_one (by kernel_rfl) rfl (okWide_bool_mk Try.underlying4 _))⟩

theorem over : Rows.fnYieldsToCountsHigherPlacesRow.holds Try.pinned (OpenSpec.ofChange Rows.fnYieldsToCountsHigherPlacesSpec) :=
  OpenClaim.holds_of_wide 4 Try.f4 rfl rfl rfl rfl rfl rfl rfl ⟨rfl, rfl, rfl, rfl, rfl⟩ rfl rfl rfl rfl rfl (by kernel_rfl) Try.func4 (by kernel_rfl)
    (of_decide_eq_true (by kernel_rfl)) (by unfold Func.isWrapper; first | (rw [if_pos (by decide +kernel)]; kernel_rfl) | (rw [if_neg (by decide +kernel)]; exact ⟨rfl, rfl⟩))
    (fun os started H enc _ => lifted os started H enc)

/-- ████ THE STATEMENT ████ -/
theorem proved : Rows.FnYieldsToCountsHigherPlacesSaid :=
  over
#print axioms proved
end Go.Proofs.Qxb6614345a.fnYieldsToCountsHigherPlaces
