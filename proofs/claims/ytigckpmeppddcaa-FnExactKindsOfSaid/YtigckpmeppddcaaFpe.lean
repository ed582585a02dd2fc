/- Order, opposite, kinds and whole numbers of doubles. Plain: no program in sight. -/
import Derived.Test.YtigckpmeppddcaaFpd
import Derived.Laws.FloatArith
set_option linter.unusedVariables false
set_option linter.unusedSimpArgs false
namespace Cx
open Ieee

/-! ### Kinds of words -/
theorem sign_of (x : Nat) (h : x < 18446744073709551616) : (x / 9223372036854775808 % 2 == 1) = decide (9223372036854775808 ≤ x) := by
  by_cases hx : 9223372036854775808 ≤ x
  · simp [hx]; omega
  · simp [hx]; omega

theorem read_eq (x : Nat) (h : x < 18446744073709551616) : double.read x =
    if x % 9223372036854775808 < 4503599627370496 then .number (decide (9223372036854775808 ≤ x)) (x % 9223372036854775808) (-1074)
    else if x % 9223372036854775808 < 9218868437227405312 then
      .number (decide (9223372036854775808 ≤ x)) (4503599627370496 + x % 9223372036854775808 % 4503599627370496) (-1074 + (x % 9223372036854775808 / 4503599627370496 - 1 : Nat))
    else if x % 9223372036854775808 = 9218868437227405312 then .infinity (decide (9223372036854775808 ≤ x))
    else .nan (decide (9223372036854775808 ≤ x)) (x % 9223372036854775808 - 9218868437227405312) := by
  unfold Format.read
  simp only [double_leastPlace, double_binade, double_infRung, double_signWeight, sign_of x h]

theorem fin_iff (x : Nat) (h : x < 18446744073709551616) : fin x ↔ x % 9223372036854775808 < 9218868437227405312 := by
  unfold fin
  rw [read_eq x h]
  constructor
  · rintro ⟨_, s, m, p, h1⟩
    split at h1
    · omega
    · split at h1
      · omega
      · split at h1 <;> cases h1
  · intro h1
    refine ⟨h, ?_⟩
    split
    · exact ⟨_, _, _, rfl⟩
    · exact ⟨_, _, _, rfl⟩

theorem neg_eq {x : Nat} (h : x < 18446744073709551616) : neg x = decide (9223372036854775808 ≤ x) := by
  unfold neg
  rw [read_eq x h]
  split
  · rfl
  · split
    · rfl
    · split <;> rfl

theorem fin_of (x : Nat) (h : (decide (x < 18446744073709551616) && decide (x % 9223372036854775808 < 9218868437227405312)) = true) : fin x := by
  simp at h
  exact (fin_iff x h.1).2 h.2

/-! ### The opposite -/
theorem xor_top (x : Nat) (h : x < 18446744073709551616) : x ^^^ 9223372036854775808 = if 9223372036854775808 ≤ x then x - 9223372036854775808 else x + 9223372036854775808 := by
  have key : ∀ y : Nat, y < 9223372036854775808 → y ^^^ 9223372036854775808 = y + 9223372036854775808 := by
    intro y hy
    rw [Nat.xor_comm]
    apply Nat.eq_of_testBit_eq
    intro i
    rw [Nat.testBit_xor, show 9223372036854775808 = 2 ^ 63 from rfl, Nat.testBit_two_pow, Nat.add_comm]
    rcases Nat.lt_trichotomy i 63 with hi | hi | hi
    · rw [Nat.testBit_two_pow_add_gt hi, decide_eq_false (show ¬ 63 = i by omega), Bool.false_xor]
    · subst hi
      rw [Nat.testBit_two_pow_add_eq]
      simp
    · have h1 : (2 ^ 63 + y).testBit i = false := by
        apply Nat.testBit_lt_two_pow
        exact Nat.lt_of_lt_of_le (show 2 ^ 63 + y < 2 ^ 64 by omega) (Nat.pow_le_pow_right (by decide) (by omega))
      have h2 : y.testBit i = false := by
        apply Nat.testBit_lt_two_pow
        exact Nat.lt_of_lt_of_le (show y < 2 ^ 64 by omega) (Nat.pow_le_pow_right (by decide) (by omega))
      rw [h1, h2, decide_eq_false (show ¬ 63 = i by omega)]
      rfl
  by_cases hx : 9223372036854775808 ≤ x
  · rw [if_pos hx]
    have h1 := key (x - 9223372036854775808) (by omega)
    rw [show x - 9223372036854775808 + 9223372036854775808 = x by omega] at h1
    conv => lhs; rw [← h1]
    rw [Nat.xor_assoc, Nat.xor_self, Nat.xor_zero]
  · rw [if_neg hx, key x (by omega)]

def fneg (x : Nat) : Nat := Go.Op.negFloat .f64 x
theorem fneg_eq (x : Nat) : Go.Op.negFloat .f64 x = fneg x := rfl
theorem fneg_val0 (x : Nat) (h : x < 18446744073709551616) : fneg x = if 9223372036854775808 ≤ x then x - 9223372036854775808 else x + 9223372036854775808 := by
  rw [← xor_top x h]; rfl
theorem fneg_lt {x : Nat} (h : x < 18446744073709551616) : fneg x < 18446744073709551616 := by
  rw [fneg_val0 x h]; split <;> omega
theorem fneg_mod {x : Nat} (h : x < 18446744073709551616) : fneg x % 9223372036854775808 = x % 9223372036854775808 := by
  rw [fneg_val0 x h]; split <;> omega
theorem fneg_sign {x : Nat} (h : x < 18446744073709551616) : decide (9223372036854775808 ≤ fneg x) = !decide (9223372036854775808 ≤ x) := by
  rw [fneg_val0 x h]; split
  · rw [decide_eq_false (by omega), decide_eq_true (by omega)]; rfl
  · rw [decide_eq_true (by omega), decide_eq_false (by omega)]; rfl
theorem fneg_read {x : Nat} (h : x < 18446744073709551616) : double.read (fneg x) = (double.read x).opposite := by
  rw [read_eq x h, read_eq _ (fneg_lt h), fneg_mod h, fneg_sign h]
  split
  · rfl
  · split
    · rfl
    · split <;> rfl
theorem fneg_spec {x : Nat} (h : fin x) : fin (fneg x) ∧ val (fneg x) = - val x ∧ neg (fneg x) = !neg x := by
  obtain ⟨s, m, p, r1, v1, n1⟩ := fin_val h
  have hr := fneg_read h.1
  rw [r1] at hr
  refine ⟨⟨fneg_lt h.1, _, _, _, hr⟩, ?_, ?_⟩
  · rw [v1, ← mval_opp]; unfold val; rw [hr]; rfl
  · rw [n1]; unfold neg; rw [hr]; rfl

/-! ### The magnitude -/
def fabs (x : Nat) : Nat := x % 9223372036854775808
theorem fabs_spec {x : Nat} (h : fin x) : fin (fabs x) ∧ val (fabs x) = ab (val x) ∧ neg (fabs x) = false := by
  have hlt := h.1
  have hl : fabs x < 18446744073709551616 := by unfold fabs; omega
  have hm : fabs x % 9223372036854775808 = x % 9223372036854775808 := by unfold fabs; omega
  have hs : decide (9223372036854775808 ≤ fabs x) = false := by unfold fabs; simp; omega
  have hf := (fin_iff x hlt).1 h
  refine ⟨(fin_iff _ hl).2 (by rw [hm]; exact hf), ?_, by rw [neg_eq hl, hs]⟩
  unfold val
  rw [read_eq x hlt, read_eq _ hl, hm, hs]
  split
  · show mval _ _ _ = ab (mval _ _ _); rw [ab_mval]; unfold mval sgn; simp
  · show mval _ _ _ = ab (mval _ _ _); rw [ab_mval]; unfold mval sgn; simp

theorem mval_neg_nonpos (m : Nat) (p : Int) : mval true m p ≤ 0 := by
  have := mval_nonneg_mag m p; unfold mval sgn; simp; grind
theorem mval_pos_nonneg (m : Nat) (p : Int) : 0 ≤ mval false m p := by
  have := mval_nonneg_mag m p; unfold mval sgn; simp; exact this
theorem val_nonpos_of_neg {x : Nat} (h : fin x) (hn : neg x = true) : val x ≤ 0 := by
  obtain ⟨s, m, p, r1, v1, n1⟩ := fin_val h
  rw [v1]; rw [hn] at n1; subst n1; exact mval_neg_nonpos m p
theorem val_nonneg_of_pos {x : Nat} (h : fin x) (hn : neg x = false) : 0 ≤ val x := by
  obtain ⟨s, m, p, r1, v1, n1⟩ := fin_val h
  rw [v1]; rw [hn] at n1; subst n1; exact mval_pos_nonneg m p
theorem neg_of_pos {x : Nat} (h : fin x) (hv : 0 < val x) : neg x = false := by
  cases hn : neg x
  · rfl
  · have := val_nonpos_of_neg h hn; grind
theorem neg_of_neg {x : Nat} (h : fin x) (hv : val x < 0) : neg x = true := by
  cases hn : neg x
  · have := val_nonneg_of_pos h hn; grind
  · rfl
/-- A word of value zero is one of the two zeros. -/
theorem zero_word {x : Nat} (h : fin x) (hv : val x = 0) : x % 9223372036854775808 = 0 := by
  have hlt := h.1
  have hf := (fin_iff x hlt).1 h
  unfold val at hv
  rw [read_eq x hlt] at hv
  have key : ∀ (s : Bool) (m : Nat) (p : Int), mval s m p = 0 → m = 0 := by
    intro s m p h0
    have h1 := ab_mval s m p
    rw [h0, ab_zero] at h1
    rcases Rat.mul_eq_zero.1 h1.symm with h2 | h2
    · exact Rat.natCast_eq_zero_iff.1 h2
    · have := p2_pos p; grind
  split at hv
  · exact key _ _ _ hv
  · have := key _ _ _ hv
    omega

/-! ### Order -/
theorem order_fin {x y : Nat} (hx : fin x) (hy : fin y) : double.order x y = some (if val x < val y then .lt else if val x = val y then .eq else .gt) := by
  obtain ⟨s, m, i, r1, v1, _⟩ := fin_val hx
  obtain ⟨t, n, j, r2, v2, _⟩ := fin_val hy
  unfold Format.order
  rw [r1, r2]
  show some (compare _ _) = _
  have e1 : ((signed s m (i - min i j).toNat : Int) : Rat) * p2 (min i j) = val x := by
    rw [v1, signed_rat]; unfold mval; rw [Rat.mul_assoc, Rat.mul_assoc, ← p2_add]; congr 3; omega
  have e2 : ((signed t n (j - min i j).toNat : Int) : Rat) * p2 (min i j) = val y := by
    rw [v2, signed_rat]; unfold mval; rw [Rat.mul_assoc, Rat.mul_assoc, ← p2_add]; congr 3; omega
  generalize signed s m (i - min i j).toNat = A at *
  generalize signed t n (j - min i j).toNat = B at *
  have hp := p2_pos (min i j)
  congr 1
  show (if A < B then Ordering.lt else if A = B then Ordering.eq else Ordering.gt) = _
  have c1 : A < B ↔ val x < val y := by
    rw [← e1, ← e2, Rat.mul_lt_mul_right hp, Rat.intCast_lt_intCast]
  have c2 : A = B ↔ val x = val y := by
    constructor
    · intro h; rw [← e1, ← e2, h]
    · intro h
      rw [← e1, ← e2] at h
      have := congrArg (· * (p2 (min i j))⁻¹) h
      simp only [Rat.mul_assoc, Rat.mul_inv_cancel _ (Rat.ne_of_lt hp).symm, Rat.mul_one] at this
      exact Rat.intCast_inj.1 this
  by_cases h1 : A < B
  · rw [if_pos h1, if_pos (c1.1 h1)]
  · rw [if_neg h1, if_neg (fun h => h1 (c1.2 h))]
    by_cases h2 : A = B
    · rw [if_pos h2, if_pos (c2.1 h2)]
    · rw [if_neg h2, if_neg (fun h => h2 (c2.2 h))]

section
open Go
theorem ord_lt {x y : Nat} (hx : fin x) (hy : fin y) : (FloatKind.f64.format.order x y == some .lt) = decide (val x < val y) := by
  show (double.order x y == _) = _
  rw [order_fin hx hy]
  by_cases h : val x < val y
  · simp [h]
  · by_cases h2 : val x = val y <;> simp [h, h2]
theorem ord_gt {x y : Nat} (hx : fin x) (hy : fin y) : (FloatKind.f64.format.order x y == some .gt) = decide (val y < val x) := by
  show (double.order x y == _) = _
  rw [order_fin hx hy]
  by_cases h : val x < val y
  · have : ¬ val y < val x := by grind
    simp [h, this]
  · by_cases h2 : val x = val y
    · have : ¬ val y < val x := by grind
      simp [h, h2]
    · have : val y < val x := by grind
      simp [h, h2, this]
theorem ord_eq {x y : Nat} (hx : fin x) (hy : fin y) : (FloatKind.f64.format.order x y == some .eq) = decide (val x = val y) := by
  show (double.order x y == _) = _
  rw [order_fin hx hy]
  by_cases h : val x < val y
  · have : ¬ val x = val y := by grind
    simp [h, this]
  · by_cases h2 : val x = val y <;> simp [h, h2]
theorem ord_ne {x y : Nat} (hx : fin x) (hy : fin y) : (FloatKind.f64.format.order x y != some .eq) = decide (val x ≠ val y) := by
  rw [bne, ord_eq hx hy]; simp
theorem ord_le {x y : Nat} (hx : fin x) (hy : fin y) : (FloatKind.f64.format.order x y == some .lt || FloatKind.f64.format.order x y == some .eq) = decide (val x ≤ val y) := by
  rw [ord_lt hx hy, ord_eq hx hy]
  by_cases h : val x ≤ val y
  · by_cases h2 : val x = val y
    · simp [h2, Rat.le_refl]
    · have : val x < val y := by grind
      simp [h, this]
  · have h1 : ¬ val x < val y := by grind
    have h2 : ¬ val x = val y := by grind
    simp [h, h1, h2]
theorem ord_ge {x y : Nat} (hx : fin x) (hy : fin y) : (FloatKind.f64.format.order x y == some .gt || FloatKind.f64.format.order x y == some .eq) = decide (val y ≤ val x) := by
  rw [ord_gt hx hy, ord_eq hx hy]
  by_cases h : val y ≤ val x
  · by_cases h2 : val x = val y
    · simp [h2, Rat.le_refl]
    · have : val y < val x := by grind
      simp [h, this]
  · have h1 : ¬ val y < val x := by grind
    have h2 : ¬ val x = val y := by grind
    simp [h, h1, h2]

/-! ### Whole numbers -/
theorem cut_zero (b : Bool) (n drop : Nat) : Toward.zero.cut b n drop = n / 2 ^ drop := by
  unfold Toward.cut
  simp only [Nat.one_shiftLeft, Bool.toNat_false, Nat.add_zero]
  by_cases h : drop ≤ n.log2 + 2
  · rw [Nat.min_eq_left h]
  · rw [Nat.min_eq_right (by omega)]
    have hlt : n < 2 ^ (n.log2 + 1) := Nat.lt_log2_self
    have h1 : 2 ^ (n.log2 + 1) ≤ 2 ^ (n.log2 + 2) := Nat.pow_le_pow_right (by decide) (by omega)
    have h2 : 2 ^ (n.log2 + 1) ≤ 2 ^ drop := Nat.pow_le_pow_right (by decide) (by omega)
    rw [Nat.div_eq_of_lt (by omega), Nat.div_eq_of_lt (by omega)]

/-- int64(x) of a number of at most 2^62 in size: a whole number not beyond it; x itself where x is whole. -/
theorem toInt_spec {x : Nat} (hx : fin x) (h : ab (val x) ≤ 4611686018427387904) :
    ∃ n : Int, floatToIntVal .f64 x .i64 = some n ∧ ((n.natAbs : Nat) : Rat) ≤ ab (val x) ∧ (∀ k : Int, val x = k → n = k) := by
  obtain ⟨s, m, i, r1, v1, _⟩ := fin_val hx
  have hd : (FloatKind.f64.decode x) = .number s m i := r1
  have e1 : (FloatKind.f64.decode x).toInt .zero = some (signed s ((m <<< i.toNat) / 2 ^ (-i).toNat) 0) := by
    rw [hd]; unfold Datum.toInt Datum.integral; simp only [cut_zero]
  generalize hq : (m <<< i.toNat) / 2 ^ (-i).toNat = q at e1
  have hval : ab (val x) = (m : Rat) * p2 i := by rw [v1, ab_mval]
  have hqm : q * 2 ^ (-i).toNat ≤ m <<< i.toNat := by rw [← hq]; exact Nat.div_mul_le_self _ _
  have hqr : (q : Rat) ≤ ab (val x) := by
    have h1 := Rat.natCast_le_natCast.2 hqm
    rw [Rat.natCast_mul, ← p2_nat, shl_rat] at h1
    have h2 := Rat.mul_le_mul_of_nonneg_right h1 (Rat.le_of_lt (p2_pos (-((-i).toNat : Int))))
    rw [Rat.mul_assoc, Rat.mul_assoc, ← p2_add, ← p2_add] at h2
    rw [show ((-i).toNat : Int) + -((-i).toNat : Int) = 0 by omega, p2_zero, Rat.mul_one, show (i.toNat : Int) + -((-i).toNat : Int) = i by omega] at h2
    rw [hval]; exact h2
  have hqn : q ≤ 4611686018427387904 := by
    have : (q : Rat) ≤ ((4611686018427387904 : Nat) : Rat) := Rat.le_trans hqr h
    exact Rat.natCast_le_natCast.1 this
  have hsg : (signed s q 0).natAbs = q := by unfold signed; cases s <;> simp
  refine ⟨signed s q 0, ?_, by rw [hsg]; exact hqr, ?_⟩
  · unfold floatToIntVal
    rw [e1]
    have hmin : IntKind.i64.min = -9223372036854775808 := by decide
    have hmax : IntKind.i64.max = 9223372036854775807 := by decide
    show (if _ then _ else _) = _
    rw [if_pos]
    rw [hmin, hmax]
    omega
  · intro k hk
    -- |k| = m 2^i, so the cut is exact
    have h1 : ((k.natAbs : Nat) : Rat) = (m : Rat) * p2 i := by rw [natAbs_rat, ← hk, hval]
    have h2 : k.natAbs * 2 ^ (-i).toNat = m <<< i.toNat := by
      apply Rat.natCast_inj.1
      rw [Rat.natCast_mul, ← p2_nat, shl_rat, h1, Rat.mul_assoc, ← p2_add]; congr 2; omega
    have h3 : q = k.natAbs := by rw [← hq, ← h2]; exact Nat.mul_div_cancel _ (Nat.two_pow_pos _)
    have h4 : ((signed s q 0 : Int) : Rat) = (k : Rat) := by
      rw [signed_rat, h3, h1, ← hk, v1]; unfold mval
      rw [show ((0 : Nat) : Int) = 0 from rfl, p2_zero]; grind
    exact Rat.intCast_inj.1 h4

/-- float64(n), of a whole number of at most 2^53 in size. -/
theorem ofInt_spec (n : Int) (h : n.natAbs ≤ 9007199254740992) : fin (floatOfInt .f64 n) ∧ val (floatOfInt .f64 n) = n := by
  have hv : mval (decide (n < 0)) n.natAbs 0 = n := by
    rw [mval_natAbs n _ 0 (fun _ => rfl), p2_zero]; grind
  have hb : ab (mval (decide (n < 0)) n.natAbs 0) < p2 1023 := by
    rw [ab_mval, p2_zero]
    have h1 : ((n.natAbs : Nat) : Rat) ≤ ((9007199254740992 : Nat) : Rat) := Rat.natCast_le_natCast.2 h
    have h2 : ((9007199254740992 : Nat) : Rat) = p2 53 := by decide +kernel
    have h3 := p2_lt (show 53 < 1023 by decide)
    grind
  obtain ⟨h1, _, h2⟩ := nearest_rd _ _ _ hb
  have he : floatOfInt .f64 n = double.nearest (decide (n < 0)) n.natAbs 0 := rfl
  rw [he]
  refine ⟨h1, ?_⟩
  rw [hv] at h2
  exact h2.int n rfl h
end
end Cx
