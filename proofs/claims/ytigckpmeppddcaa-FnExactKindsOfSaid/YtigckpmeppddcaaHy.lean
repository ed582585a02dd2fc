/- The hypotenuse as the library's assembly reckons it (greater part times the root of 1 and the square of the quotient), as a function of words, and how near it is. Plain: no program in sight. -/
import Derived.Test.YtigckpmeppddcaaFpf
set_option linter.unusedVariables false
namespace Cx
open Ieee

def one : Nat := 4607182418800017408
theorem fin_one : fin one := fin_of _ (by decide)
theorem val_one : val one = 1 := by decide +kernel

def hbig (p q : Nat) : Nat := if double.order (fabs p) (fabs q) == some .lt then fabs q else fabs p
def hsmall (p q : Nat) : Nat := if double.order (fabs p) (fabs q) == some .lt then fabs p else fabs q
def hr (p q : Nat) : Nat := fdiv (hsmall p q) (hbig p q)
def ht (p q : Nat) : Nat := fadd (fmul (hr p q) (hr p q)) one
def fhyp (p q : Nat) : Nat := fmul (fsqrt (ht p q)) (hbig p q)

theorem ab_sq (x : Rat) : ab x * ab x = x * x := by unfold ab; split <;> grind

theorem hparts {p q : Nat} (hp : fin p) (hq : fin q) : fin (hbig p q) ∧ fin (hsmall p q) ∧ 0 ≤ val (hsmall p q) ∧ val (hsmall p q) ≤ val (hbig p q) ∧
    val (hbig p q) * val (hbig p q) + val (hsmall p q) * val (hsmall p q) = val p * val p + val q * val q ∧
    ab (val p) ≤ val (hbig p q) ∧ ab (val q) ≤ val (hbig p q) ∧ (val (hbig p q) = ab (val p) ∨ val (hbig p q) = ab (val q)) ∧ neg (hbig p q) = false ∧ neg (hsmall p q) = false := by
  obtain ⟨a1, a2, a3⟩ := fabs_spec hp
  obtain ⟨b1, b2, b3⟩ := fabs_spec hq
  have ha := ab_nonneg (val p)
  have hb := ab_nonneg (val q)
  have e := ord_lt a1 b1
  have e' : (double.order (fabs p) (fabs q) == some .lt) = decide (val (fabs p) < val (fabs q)) := e
  have s1 := ab_sq (val p)
  have s2 := ab_sq (val q)
  unfold hbig hsmall
  rw [e']
  by_cases h : val (fabs p) < val (fabs q)
  · simp only [h, decide_true, if_true]
    rw [a2, b2] at h
    rw [a2, b2]
    exact ⟨b1, a1, ha, by grind, by rw [s1, s2]; grind, by grind, by grind, Or.inr rfl, b3, a3⟩
  · simp only [h, decide_false, Bool.false_eq_true, if_false]
    rw [a2, b2] at h
    rw [a2, b2]
    exact ⟨a1, b1, hb, by grind, by rw [s1, s2], by grind, by grind, Or.inl rfl, a3, b3⟩

/-- 1 + a and 1 + b, where a and b are not negative and differ by at most d. -/
theorem Rl.one_add {a b d : Rat} (ha : 0 ≤ a) (hb : 0 ≤ b) (h1 : a - b ≤ d) (h2 : b - a ≤ d) (hd : d < 1) (hd0 : 0 ≤ d) : Rl d (a + 1) (b + 1) := by
  have e1 := Rat.mul_nonneg ha hd0
  have e2 := Rat.mul_nonneg hb hd0
  exact ⟨hd0, hd, by grind, by grind, by grind⟩

theorem div_le_one {a b : Rat} (hb : 0 < b) (h : a ≤ b) : a / b ≤ 1 := by
  have : ¬ (1 < a / b) := by rw [Rat.lt_div_iff hb]; grind
  grind
theorem div_nonneg {a b : Rat} (ha : 0 ≤ a) (hb : 0 < b) : 0 ≤ a / b := by
  rw [Rat.div_def]; exact Rat.mul_nonneg ha (Rat.le_of_lt (Rat.inv_pos.2 hb))
theorem small_lt_1022 {x : Rat} (h : x ≤ 4) : x < p2 1022 := by
  have h1 : p2 3 = 8 := by decide +kernel
  have h2 := p2_lt (show 3 < 1022 by decide)
  grind
theorem small_lt_1023 {x : Rat} (h : x ≤ 4) : x < p2 1023 := by
  have := small_lt_1022 h
  have := p2_lt (show 1022 < 1023 by decide)
  grind

theorem aux_lo {T Y : Rat} (h1 : Y + 1 ≤ 2 * T) (h : 0 ≤ Y) : 1 / 2 ≤ T := by grind
theorem aux_hi {T Y : Rat} (h1 : T ≤ 2 * (Y + 1)) (h : Y ≤ 1) : T ≤ 4 := by grind
theorem half_p2 : (1 : Rat) / 2 = p2 (-1) := by decide +kernel
theorem four_p2 : (4 : Rat) = p2 2 := by decide +kernel

/-- The hypotenuse of two finite numbers, the greater of which is neither tiny nor huge. -/
theorem hyp_spec {p q : Nat} (hp : fin p) (hq : fin q) (hlo : p2 (-500) ≤ val (hbig p q)) (hhi : val (hbig p q) ≤ p2 500) :
    double.div (hsmall p q) (hbig p q) = some (hr p q) ∧ fin (hr p q) ∧ fin (fmul (hr p q) (hr p q)) ∧ fin (ht p q) ∧ double.sqrt (ht p q) = some (fsqrt (ht p q)) ∧ fin (fsqrt (ht p q)) ∧
      fin (fhyp p q) ∧ 0 < val (fhyp p q) ∧ Rl (10 * eps) (val (fhyp p q) * val (fhyp p q)) (val p * val p + val q * val q) := by
  obtain ⟨f1, f2, s0, sb, hsum, _⟩ := hparts hp hq
  have hbp : 0 < val (hbig p q) := by have := p2_pos (-500); grind
  have hbne : val (hbig p q) ≠ 0 := (Rat.ne_of_lt hbp).symm
  have he := eps_val
  -- the quotient
  have x0 := div_nonneg s0 hbp
  have x1 := div_le_one hbp sb
  generalize hX : val (hsmall p q) / val (hbig p q) = X at *
  obtain ⟨g1, g2, g3, g4⟩ := div_rd f2 f1 hbne (by rw [hX, ab_of_nonneg x0]; exact small_lt_1022 (by grind))
  rw [hX] at g4
  have tiny : p2 (-1022) ≤ 1 := by rw [← p2_zero]; exact p2_mono (by decide)
  have r0 := g4.nonneg x0
  have rab := g4.abs (B := 1) (by rw [ab_of_nonneg x0]; exact x1) tiny
  rw [ab_le] at rab
  obtain ⟨ra, rb⟩ := rab
  have e1 : fdiv (hsmall p q) (hbig p q) = hr p q := rfl
  rw [e1] at g1 g2 g3 g4 r0 ra rb
  generalize hR : val (hr p q) = R at *
  -- its square
  have rle : R ≤ 1 + eps := by grind
  have rsq0 := Rat.mul_nonneg r0 r0
  have rsq : R * R ≤ 1 + 3 * eps := by
    have := mul_le_mul_nn rle rle r0 (by rw [he]; decide +kernel)
    rw [he] at *
    grind
  have hm := mul_rd g2 g2 (by rw [hR, ab_of_nonneg rsq0]; exact small_lt_1023 (by rw [he] at rsq; grind))
  rw [hR] at hm
  obtain ⟨m1, m2, m3⟩ := hm
  have m0 := m3.nonneg rsq0
  have mab := m3.abs (B := 2) (by rw [ab_of_nonneg rsq0]; rw [he] at rsq; grind) (by grind)
  rw [ab_le] at mab
  obtain ⟨ma, mb⟩ := mab
  generalize hM : val (fmul (hr p q) (hr p q)) = M at *
  -- 1 more
  have hM2 : M ≤ 2 := by rw [he] at *; grind
  have ha := add_rd m1 fin_one (by rw [hM, val_one, ab_of_nonneg (by grind)]; exact small_lt_1023 (by grind))
  rw [hM, val_one] at ha
  obtain ⟨t1, t2⟩ := ha
  have e2 : fadd (fmul (hr p q) (hr p q)) one = ht p q := rfl
  rw [e2] at t1 t2
  have trl := t2.rl (by grind)
  -- the distance of M from X * X
  have hXX := Rat.mul_nonneg x0 x0
  have hX1 : X * X ≤ 1 := Rat.le_trans (mul_le_mul_nn x1 x1 x0 (by decide)) (by decide +kernel)
  have hdx : ab (R * R - X * X) ≤ 3 * eps := by
    have e3 : R * R - X * X = (R - X) * (R + X) := by grind
    rw [e3, ab_mul, ab_of_nonneg (show 0 ≤ R + X by grind)]
    have h1 : ab (R - X) ≤ eps := by rw [ab_le]; constructor <;> grind
    have h2 := Rat.mul_le_mul_of_nonneg_left (show R + X ≤ 3 by rw [he] at *; grind) (ab_nonneg (R - X))
    grind
  rw [ab_le] at hdx
  have hone : Rl (5 * eps) (M + 1) (X * X + 1) := Rl.one_add m0 hXX (by grind) (by grind) (by rw [he]; decide +kernel) (by rw [he]; decide +kernel)
  have hT : Rl (eps + 5 * eps) (val (ht p q)) (X * X + 1) := trl.trans hone (by rw [he]; decide +kernel)
  -- the root
  have tlo : p2 (-1000) ≤ val (ht p q) := by
    have h1 := aux_lo (hT.half (by rw [he]; decide +kernel)).1 hXX
    rw [half_p2] at h1
    exact Rat.le_trans (p2_mono (by decide)) h1
  have thi : val (ht p q) ≤ p2 1000 := by
    have h1 := aux_hi (hT.half (by rw [he]; decide +kernel)).2 hX1
    rw [four_p2] at h1
    exact Rat.le_trans h1 (p2_mono (by decide))
  obtain ⟨q1, q2, q3, q4, q5⟩ := sqrt_rl t1 tlo thi
  generalize hS : val (fsqrt (ht p q)) = S at *
  have hSX : Rl (2 * eps + (eps + 5 * eps)) (S * S) (X * X + 1) := q5.trans hT (by rw [he]; decide +kernel)
  have hS2 : S ≤ 2 := by
    refine le_of_sq_le (by decide) ?_
    have h1 := aux_hi (hSX.half (by rw [he]; decide +kernel)).2 hX1
    exact Rat.le_trans h1 (by decide +kernel)
  have hS1 : 1 / 2 ≤ S := by
    refine le_of_sq_le (Rat.le_of_lt q3) ?_
    have h1 := aux_lo (hSX.half (by rw [he]; decide +kernel)).1 hXX
    exact Rat.le_trans (by decide +kernel) h1
  -- the product
  have hp0 : 0 < S * val (hbig p q) := Rat.mul_pos q3 hbp
  have hpu : S * val (hbig p q) ≤ p2 501 := by
    have := mul_le_mul_nn hS2 hhi (Rat.le_of_lt q3) (Rat.le_of_lt (p2_pos 500))
    rw [show (501 : Int) = 500 + 1 from rfl, p2_succ]
    grind
  have hpl : p2 (-501) ≤ S * val (hbig p q) := by
    have := mul_le_mul_nn hS1 hlo (by decide +kernel) (Rat.le_of_lt hbp)
    have h3 : p2 (-501) * 2 = p2 (-500) := by rw [← p2_succ]; rfl
    grind
  have hb23 : ab (S * val (hbig p q)) < p2 1023 := by
    rw [ab_of_nonneg (Rat.le_of_lt hp0)]
    have := p2_lt (show 501 < 1023 by decide)
    grind
  have hfin := mul_rd q2 f1 (by rw [hS]; exact hb23)
  rw [hS] at hfin
  obtain ⟨z1, z2, z3⟩ := hfin
  have e4 : fmul (fsqrt (ht p q)) (hbig p q) = fhyp p q := rfl
  rw [e4] at z1 z3
  have zrl := z3.rl (by have := p2_mono (show -1022 ≤ -501 by decide); grind)
  refine ⟨g1, g2, m1, t1, q1, q2, z1, zrl.apos, ?_⟩
  have zsq := zrl.sq (by rw [he]; decide +kernel)
  have e5 : S * val (hbig p q) * (S * val (hbig p q)) = S * S * (val (hbig p q) * val (hbig p q)) := by grind
  have hsc := hSX.scale (Rat.mul_pos hbp hbp)
  rw [e5] at zsq
  have e6 : (X * X + 1) * (val (hbig p q) * val (hbig p q)) = val p * val p + val q * val q := by
    rw [← hsum, ← hX]
    have := Rat.div_mul_cancel (a := val (hsmall p q)) hbne
    grind
  rw [e6] at hsc
  have := zsq.trans hsc (by rw [he]; decide +kernel)
  refine this.mono ?_ ?_
  · rw [he]; decide +kernel
  · rw [he]; decide +kernel

end Cx
