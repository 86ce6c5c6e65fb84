/-
  THE PLAIN SIDE of both laws of this seat: no walk in sight. 'c m': the table's field 'compatible' at mode m (whatever it holds); 'N m': how many hold in mode m.
-/
import Derived.Laws.BitsAllLaws
import Derived.Below
namespace Go.Proofs.Qxb6614373aDoor.W
open Go.RowKit

/-- 's.has(m)': bit m of s. -/
def hasM (s : Int) (m : Nat) : Bool := bits .and .u16 s (IntKind.u16.wrap (2 ^ m)) != 0
/-- 'm.Compatible(h)' of two valid modes. -/
def fits (c : Nat → Int) (m h : Nat) : Bool := bits .andNot .u16 (bits .or .u16 0 (IntKind.u16.wrap (2 ^ h))) (c m) == 0
/-- 'm.Compatible(h)'. -/
def comp (c : Nat → Int) (m h : Nat) : Bool := (decide (0 < m) && decide (m < 7)) && (decide (0 < h) && decide (h < 7)) && fits c m h
/-- how many hold in modes 1 .. k that q is not compatible with. -/
def against (c N : Nat → Int) (q : Nat) : Nat → Int
  | 0 => 0
  | k + 1 => against c N q k + if comp c q (k + 1) = true then 0 else N (k + 1)
/-- is mode q, where it is queued and not compatible with g, kept out by two holders at the least? -/
def keepAt (c N : Nat → Int) (s : Int) (g q : Nat) : Bool := !hasM s q || comp c q g || !decide (against c N q 6 < 2)
def keepTo (c N : Nat → Int) (s : Int) (g : Nat) : Nat → Bool
  | 0 => true
  | k + 1 => keepTo c N s g k && keepAt c N s g (k + 1)
/-- 'l.keepsOut(g)'. -/
def keep (c N : Nat → Int) (s : Int) (g : Nat) : Bool := keepTo c N s g 6

theorem comp_valid {c : Nat → Int} {m h : Nat} (h1 : 0 < m) (h2 : m < 7) (h3 : 0 < h) (h4 : h < 7) : comp c m h = fits c m h := by simp [comp, h1, h2, h3, h4]

theorem against_nonneg (c N : Nat → Int) (q : Nat) (hN : ∀ m, 0 ≤ N m) : ∀ k, 0 ≤ against c N q k
  | 0 => by simp [against]
  | k + 1 => by
    have := against_nonneg c N q hN k
    have := hN (k + 1)
    simp only [against]; split <;> omega
theorem against_le (c N : Nat → Int) (q : Nat) (hN : ∀ m, N m ≤ 1048576) (hN0 : ∀ m, 0 ≤ N m) : ∀ k : Nat, against c N q k ≤ k * 1048576
  | 0 => by simp [against]
  | k + 1 => by
    have := against_le c N q hN hN0 k
    have := hN (k + 1)
    have := hN0 (k + 1)
    simp only [against]; split <;> omega
/-- one mode's holders are among those counted. -/
theorem le_against (c N : Nat → Int) (q m : Nat) (hN0 : ∀ m, 0 ≤ N m) (h0 : 0 < m) (hm : comp c q m = false) : ∀ k, m ≤ k → N m ≤ against c N q k
  | 0, h => by omega
  | k + 1, h => by
    have h1 := against_nonneg c N q hN0 k
    have h2 := hN0 (k + 1)
    simp only [against]
    rcases Nat.lt_or_ge k m with hk | hk
    · obtain rfl : m = k + 1 := by omega
      rw [hm, if_neg (by simp)]; omega
    · have := le_against c N q m hN0 h0 hm k hk
      split <;> omega

/-! ### bits -/
theorem hasM_testBit (s : Int) (h0 : 0 ≤ s) (h1 : s ≤ 65535) (m : Nat) (hm : m < 16) : hasM s m = s.toNat.testBit m := by
  have hp : (2 : Nat) ^ m < 65536 := by
    have := Nat.pow_lt_pow_right (a := 2) (by omega) hm
    simpa using this
  have hw : IntKind.u16.wrap ((2 : Int) ^ m) = ((2 ^ m : Nat) : Int) := by
    rw [IntKind.wrap_u16, show ((2 : Int) ^ m) = ((2 ^ m : Nat) : Int) by simp]
    generalize 2 ^ m = p at hp
    omega
  have hpos : 0 < 2 ^ m := Nat.two_pow_pos m
  unfold hasM
  rw [hw, u16_and s _ h0 (by omega) (Int.natCast_nonneg _) (show ((2 ^ m : Nat) : Int) < 65536 from by generalize 2 ^ m = p at hp; omega), Int.toNat_natCast, nat_bit, Nat.testBit_eq_decide_div_mod_eq]
  generalize 2 ^ m = p at hpos
  rcases Nat.mod_two_eq_zero_or_one (s.toNat / p) with h | h
  · simp [h]
  · simp only [h, Nat.one_mul, decide_true, bne_iff_ne]
    omega
theorem and_bounds (s t : Int) (h0 : 0 ≤ s) (h1 : s ≤ 65535) (h2 : 0 ≤ t) (h3 : t ≤ 65535) : 0 ≤ bits .and .u16 s t ∧ bits .and .u16 s t ≤ 65535 := by
  rw [u16_and s t h0 (by omega) h2 (by omega)]
  have := @Nat.and_le_left s.toNat t.toNat
  omega
theorem andNot_bounds (s t : Int) (h0 : 0 ≤ s) (h1 : s ≤ 65535) (h2 : 0 ≤ t) (h3 : t ≤ 65535) : 0 ≤ bits .andNot .u16 s t ∧ bits .andNot .u16 s t ≤ 65535 := by
  rw [u16_andNot s t h0 (by omega) h2 (by omega)]
  have := @Nat.and_le_left s.toNat (65535 - t.toNat)
  omega
theorem hasM_and (s t : Int) (h0 : 0 ≤ s) (h1 : s ≤ 65535) (h2 : 0 ≤ t) (h3 : t ≤ 65535) (m : Nat) (hm : m < 16) : hasM (bits .and .u16 s t) m = (hasM s m && hasM t m) := by
  have hb := and_bounds s t h0 h1 h2 h3
  rw [hasM_testBit _ hb.1 hb.2 m hm, hasM_testBit s h0 h1 m hm, hasM_testBit t h2 h3 m hm, u16_and s t h0 (by omega) h2 (by omega), Int.toNat_natCast, Nat.testBit_and]
theorem hasM_andNot (s t : Int) (h0 : 0 ≤ s) (h1 : s ≤ 65535) (h2 : 0 ≤ t) (h3 : t ≤ 65535) (m : Nat) (hm : m < 16) : hasM (bits .andNot .u16 s t) m = (hasM s m && !hasM t m) := by
  have hb := andNot_bounds s t h0 h1 h2 h3
  rw [hasM_testBit _ hb.1 hb.2 m hm, hasM_testBit s h0 h1 m hm, hasM_testBit t h2 h3 m hm, u16_andNot s t h0 (by omega) h2 (by omega), Int.toNat_natCast, Nat.testBit_and,
    show 65535 - t.toNat = 2 ^ 16 - (t.toNat + 1) by omega, Nat.testBit_two_pow_sub_succ (by omega)]
  simp [hm]

/-! ### the laws -/
/-- keepsOut over the queued modes is keepsOut over those inside any cut and those outside it. -/
theorem keepTo_splits (c N : Nat → Int) (s t : Int) (h0 : 0 ≤ s) (h1 : s ≤ 65535) (h2 : 0 ≤ t) (h3 : t ≤ 65535) (g : Nat) : ∀ k, k < 16 →
    keepTo c N s g k = (keepTo c N (bits .and .u16 s t) g k && keepTo c N (bits .andNot .u16 s t) g k)
  | 0, _ => rfl
  | k + 1, hk => by
    simp only [keepTo, keepTo_splits c N s t h0 h1 h2 h3 g k (by omega), keepAt, hasM_and s t h0 h1 h2 h3 (k + 1) hk, hasM_andNot s t h0 h1 h2 h3 (k + 1) hk]
    cases keepTo c N (bits .and .u16 s t) g k <;> cases keepTo c N (bits .andNot .u16 s t) g k <;> cases hasM s (k + 1) <;> cases hasM t (k + 1) <;> simp
theorem keep_splits (c N : Nat → Int) (s t : Int) (h0 : 0 ≤ s) (h1 : s ≤ 65535) (h2 : 0 ≤ t) (h3 : t ≤ 65535) (g : Nat) :
    keep c N s g = (keep c N (bits .and .u16 s t) g && keep c N (bits .andNot .u16 s t) g) := keepTo_splits c N s t h0 h1 h2 h3 g 6 (by omega)

theorem keepTo_of (c N : Nat → Int) (s : Int) (g : Nat) : ∀ k, (∀ q, 0 < q → q ≤ k → keepAt c N s g q = true) → keepTo c N s g k = true
  | 0, _ => rfl
  | k + 1, h => by
    simp only [keepTo, keepTo_of c N s g k (fun q h0 h1 => h q h0 (by omega)), h (k + 1) (by omega) (by omega), Bool.and_self]
/-- two holders in the very mode that left keep out. -/
theorem keep_two (c N : Nat → Int) (s : Int) (g : Nat) (hN0 : ∀ m, 0 ≤ N m) (h0 : 0 < g) (h1 : g < 7) (h2 : 2 ≤ N g) : keep c N s g = true := by
  refine keepTo_of c N s g 6 fun q hq0 hq6 => ?_
  unfold keepAt
  cases hc : comp c q g
  · have := le_against c N q g hN0 h0 hc 6 (by omega)
    simp only [Bool.or_false, Bool.or_eq_true, Bool.not_eq_true', decide_eq_false_iff_not]
    right; omega
  · simp
/-- no valid mode queued: yes. -/
theorem keep_none (c N : Nat → Int) (s : Int) (g : Nat) (h0 : 0 ≤ s) (h1 : s ≤ 65535) (h : bits .and .u16 s 126 = 0) : keep c N s g = true := by
  refine keepTo_of c N s g 6 fun q hq0 hq6 => ?_
  have h2 : hasM (bits .and .u16 s 126) q = false := by
    rw [h, hasM_testBit 0 (by omega) (by omega) q (by omega)]; simp
  rw [hasM_and s 126 h0 h1 (by omega) (by omega) q (by omega)] at h2
  have h3 : hasM 126 q = true := by
    rw [hasM_testBit 126 (by omega) (by omega) q (by omega)]
    have hq : q = 1 ∨ q = 2 ∨ q = 3 ∨ q = 4 ∨ q = 5 ∨ q = 6 := by omega
    rcases hq with rfl | rfl | rfl | rfl | rfl | rfl <;> decide
  rw [h3, Bool.and_true] at h2
  simp [keepAt, h2]

/-- the sum of N over 1 .. k. -/
def sumTo (N : Nat → Int) : Nat → Int
  | 0 => 0
  | k + 1 => sumTo N k + N (k + 1)
theorem against_le_sum (c N : Nat → Int) (q : Nat) (hN0 : ∀ m, 0 ≤ N m) : ∀ k, against c N q k ≤ sumTo N k
  | 0 => by simp [against, sumTo]
  | k + 1 => by
    have := against_le_sum c N q hN0 k
    have := hN0 (k + 1)
    simp only [against, sumTo]; split <;> omega
/-- every valid mode queued in s up to k is compatible with g. -/
def wantTo (c : Nat → Int) (s : Int) (g : Nat) : Nat → Bool
  | 0 => true
  | k + 1 => wantTo c s g k && (!hasM s (k + 1) || comp c (k + 1) g)
theorem keepTo_few (c N : Nat → Int) (s : Int) (g : Nat) (hN0 : ∀ m, 0 ≤ N m) (hs : sumTo N 6 ≤ 1) : ∀ k, keepTo c N s g k = wantTo c s g k
  | 0 => rfl
  | k + 1 => by
    have := against_le_sum c N (k + 1) hN0 6
    have h2 : against c N (k + 1) 6 < 2 := by omega
    simp only [keepTo, wantTo, keepTo_few c N s g hN0 hs k, keepAt, h2, decide_true, Bool.not_true, Bool.or_false]
theorem keep_few (c N : Nat → Int) (s : Int) (g : Nat) (hN0 : ∀ m, 0 ≤ N m) (hs : sumTo N 6 ≤ 1) : keep c N s g = wantTo c s g 6 := keepTo_few c N s g hN0 hs 6

/-- the holders as the slice 'held' tells them. -/
def heldN (zs : List Int) (m : Nat) : Int := zs.getD m 0
theorem heldN_nil (m : Nat) : heldN [] m = 0 := by simp [heldN]
theorem sumTo_nil : sumTo (heldN []) 6 = 0 := by simp [sumTo, heldN]

end Go.Proofs.Qxb6614373aDoor.W
