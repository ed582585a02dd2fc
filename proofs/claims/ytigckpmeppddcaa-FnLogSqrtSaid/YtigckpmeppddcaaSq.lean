/- The complex square root as the library reckons it, as a function of words: finite, signs, and how near its square is. Plain: no program in sight. -/
import Derived.Test.YtigckpmeppddcaaCn
set_option linter.unusedVariables false
namespace Cx
open Ieee

def wh : Nat := 4602678819172646912
def wnh : Nat := 13826050856027422720
def wq4 : Nat := 4598175219545276416
def w54 : Nat := 4850376798678024192
def ws2 : Nat := 4611686018427387904
def ws27 : Nat := 4485585228861014016
def w4 : Nat := 4616189618054758400
theorem fin_wh : fin wh := fin_of _ (by decide)
theorem fin_wnh : fin wnh := fin_of _ (by decide)
theorem fin_wq4 : fin wq4 := fin_of _ (by decide)
theorem fin_w54 : fin w54 := fin_of _ (by decide)
theorem fin_ws2 : fin ws2 := fin_of _ (by decide)
theorem fin_ws27 : fin ws27 := fin_of _ (by decide)
theorem fin_w4 : fin w4 := fin_of _ (by decide)
theorem val_wh : val wh = 1 / 2 := by decide +kernel
theorem val_wnh : val wnh = -(1 / 2) := by decide +kernel
theorem val_wq4 : val wq4 = p2 (-2) := by decide +kernel
theorem val_w54 : val w54 = p2 54 := by decide +kernel
theorem val_ws2 : val ws2 = p2 1 := by decide +kernel
theorem val_ws27 : val ws27 = p2 (-27) := by decide +kernel
theorem ab_wh : ab (val wh) = p2 (-1) := by decide +kernel
theorem ab_wnh : ab (val wnh) = p2 (-1) := by decide +kernel
theorem ab_p2 (k : Int) : ab (p2 k) = p2 k := ab_of_nonneg (Rat.le_of_lt (p2_pos k))

/-- The core: a and b are not zero. -/
def sqH (a b : Nat) : Nat := if val 0 < val a then fadd (fmul wh (fhypt a b)) (fmul wh a) else fsub (fmul wh (fhypt a b)) (fmul wh a)
def sqT (a b : Nat) : Nat := fsqrt (sqH a b)
def sqD (a b : Nat) : Nat := fdiv (fmul wh b) (sqT a b)
def sqO (a b : Nat) : Nat := fabs (sqD a b)

theorem core_num {S A B2 T2 R2 : Rat} (hS : 0 < S) (hA : 0 < A) (hB : 0 < B2) (f1 : Rl (3 * eps) T2 ((S + A) / 2)) (f2 : Rl (2 * eps) (R2 * T2) (B2 / 4)) (f3 : Rl (10 * eps) (S * S) (A * A + B2)) :
    ab (T2 - R2 - A) ≤ 24 * eps * S ∧ A ≤ S * (11 / 10) ∧ B2 ≤ S * S * (121 / 100) ∧ S * S ≤ (A * A + B2) * (101 / 100) := by
  have hT := f1.apos
  have hK0 := f2.div f1 (by rw [eps_val]; decide +kernel)
  have e1 : R2 * T2 / T2 = R2 := by
    rw [Rat.div_def, Rat.mul_assoc, Rat.mul_inv_cancel _ (Rat.ne_of_lt hT).symm, Rat.mul_one]
  rw [e1] at hK0
  have hM : 0 < (S + A) / 2 := f1.pos
  have eK : B2 / 4 / ((S + A) / 2) * ((S + A) / 2) = B2 / 4 := Rat.div_mul_cancel (Rat.ne_of_lt hM).symm
  generalize B2 / 4 / ((S + A) / 2) = K at *
  have hKp := hK0.pos
  have hSS : 0 < S * S := Rat.mul_pos hS hS
  have n3 := f3.near
  have h3 := f3.half (by rw [eps_val]; decide +kernel)
  rw [eps_val] at n3
  have hAA : 0 < A * A := Rat.mul_pos hA hA
  have hA2 : A * A ≤ S * S * (121 / 100) := by grind
  have hB2 : B2 ≤ S * S * (121 / 100) := by grind
  have hS2 : S * S ≤ (A * A + B2) * (101 / 100) := by grind
  have hA1 : A ≤ S * (11 / 10) := le_of_sq_le (by grind) (by grind)
  have dd : ab (A * A + B2 - S * S) ≤ S * S * (20 / 4503599627370496) := by rw [ab_le]; constructor <;> grind
  have kd : (K - (S - A) / 2) * (2 * (S + A)) = A * A + B2 - S * S := by grind
  have hd : ab (K - (S - A) / 2) * (2 * S) ≤ S * (10 / 4503599627370496) * (2 * S) := by
    have t1 := Rat.mul_le_mul_of_nonneg_left (show 2 * S ≤ 2 * (S + A) by grind) (ab_nonneg (K - (S - A) / 2))
    have t2 : ab (K - (S - A) / 2) * (2 * (S + A)) = ab (A * A + B2 - S * S) := by
      rw [← kd, ab_mul, ab_of_nonneg (show 0 ≤ 2 * (S + A) by grind)]
    rw [t2] at t1
    grind
  have hd2 := ab_le.1 (Rat.le_of_mul_le_mul_right hd (show 0 < 2 * S by grind))
  have n1 := f1.near
  have g1 := f1.half (by rw [eps_val]; decide +kernel)
  have n2 := hK0.near
  have g2 := hK0.half (by rw [eps_val]; decide +kernel)
  rw [eps_val] at n1 n2
  refine ⟨?_, hA1, hB2, hS2⟩
  rw [eps_val, ab_le]
  constructor <;> grind

/-- What the core's words are. -/
structure CoreIs (a b : Nat) : Prop where
  ok : p2 (-500) ≤ val (hbig a b) ∧ val (hbig a b) ≤ p2 500
  fr : fin (fhypt a b)
  f1 : fin (fmul wh (fhypt a b))
  f2 : fin (fmul wh a)
  f3 : fin (fmul wh b)
  fh : fin (sqH a b)
  sq : double.sqrt (sqH a b) = some (sqT a b)
  ft : fin (sqT a b)
  dv : double.div (fmul wh b) (sqT a b) = some (sqD a b)
  fd : fin (sqD a b)
  fo : fin (sqO a b)
  tp : 0 < val (sqT a b)
  op : 0 < val (sqO a b)
  tr : p2 (-150) ≤ val (sqT a b) ∧ val (sqT a b) ≤ p2 150
  or : p2 (-290) ≤ val (sqO a b) ∧ val (sqO a b) ≤ p2 290
  im : Rl eps (val (sqO a b) * val (sqT a b)) (ab (val b) / 2)
  re : ∃ d, ab (val (sqT a b) * val (sqT a b) - val (sqO a b) * val (sqO a b) - ab (val a)) ≤ d ∧ ab (val b) * (2 * eps) ≤ d ∧ d * (ab (val a) + ab (val b)) ≤ 40 * eps * (val a * val a + val b * val b)

theorem p2_sq (k : Int) : p2 k * p2 k = p2 (2 * k) := by rw [← p2_add]; congr 1; omega
theorem half_mul (x : Rat) : 1 / 2 * x = x / 2 := by grind

theorem core_is {a b : Nat} (fa : fin a) (fb : fin b) (a1 : p2 (-130) ≤ ab (val a)) (a2 : ab (val a) ≤ p2 130) (b1 : p2 (-130) ≤ ab (val b)) (b2 : ab (val b) ≤ p2 130) : CoreIs a b := by
  have pa : 0 < ab (val a) := by have := p2_pos (-130); grind
  have pb : 0 < ab (val b) := by have := p2_pos (-130); grind
  have na : val a ≠ 0 := by intro h; rw [h, ab_zero] at pa; exact absurd pa (by decide)
  have nb : val b ≠ 0 := by intro h; rw [h, ab_zero] at pb; exact absurd pb (by decide)
  obtain ⟨hb1, hb2, hs0, hsb, hsum, hpa, hpb, hor, _⟩ := hparts fa fb
  have hbu : val (hbig a b) ≤ p2 130 := by rcases hor with h | h <;> rw [h] <;> assumption
  have hbl : p2 (-130) ≤ val (hbig a b) := Rat.le_trans a1 hpa
  have ok : p2 (-500) ≤ val (hbig a b) ∧ val (hbig a b) ≤ p2 500 := ⟨Rat.le_trans (p2_mono (by decide)) hbl, Rat.le_trans hbu (p2_mono (by decide))⟩
  obtain ⟨_, _, _, _, _, _, z1, z0, zr⟩ := hyp_spec fa fb ok.1 ok.2
  have hz : ¬ (fabs a = 0 ∧ fabs b = 0) := by
    rintro ⟨h1, _⟩
    have := (fabs_spec fa).2.1
    rw [h1, val_z] at this
    grind
  have e : fhypt a b = fhyp a b := by unfold fhypt; rw [if_neg hz]
  rw [← e] at z1 z0 zr
  have hab : val a * val a = ab (val a) * ab (val a) := (ab_sq _).symm
  have hbb : val b * val b = ab (val b) * ab (val b) := (ab_sq _).symm
  rw [hab, hbb] at zr
  generalize hS : val (fhypt a b) = S at *
  -- the size of S
  have k1 : p2 (-130) * p2 (-130) = p2 (-260) := p2_sq _
  have k2 : p2 130 * p2 130 = p2 260 := p2_sq _
  have sa := mul_le_mul_nn a1 a1 (Rat.le_of_lt (p2_pos _)) (Rat.le_of_lt pa)
  have sa' := mul_le_mul_nn a2 a2 (Rat.le_of_lt pa) (Rat.le_of_lt (p2_pos _))
  have sb' := mul_le_mul_nn b2 b2 (Rat.le_of_lt pb) (Rat.le_of_lt (p2_pos _))
  have sb := mul_le_mul_nn b1 b1 (Rat.le_of_lt (p2_pos _)) (Rat.le_of_lt pb)
  have hh := zr.half (by rw [eps_val]; decide +kernel)
  have S1 : p2 (-131) ≤ S := by
    refine le_of_sq_le (Rat.le_of_lt z0) ?_
    rw [p2_sq]
    have t1 := p2_mono (show (2 * -131 : Int) ≤ -261 by decide)
    have t2 : p2 (-261) * 2 = p2 (-260) := by rw [← p2_succ]; rfl
    grind
  have S2 : S ≤ p2 132 := by
    refine le_of_sq_le (Rat.le_of_lt (p2_pos _)) ?_
    rw [p2_sq]
    have t1 := p2_mono (show (262 : Int) ≤ 2 * 132 by decide)
    have t2 : p2 262 = p2 260 * 2 * 2 := by rw [← p2_succ, ← p2_succ]; rfl
    have := p2_pos 260
    grind
  -- the halves
  have rgS : val (fhypt a b) = 0 ∨ (p2 (-300) ≤ ab (val (fhypt a b)) ∧ ab (val (fhypt a b)) ≤ p2 300) := by
    right; rw [hS, ab_of_nonneg (Rat.le_of_lt z0)]
    exact ⟨Rat.le_trans (p2_mono (by decide)) S1, Rat.le_trans S2 (p2_mono (by decide))⟩
  have rga : val a = 0 ∨ (p2 (-300) ≤ ab (val a) ∧ ab (val a) ≤ p2 300) := Or.inr ⟨Rat.le_trans (p2_mono (by decide)) a1, Rat.le_trans a2 (p2_mono (by decide))⟩
  have rgb : val b = 0 ∨ (p2 (-300) ≤ ab (val b) ∧ ab (val b) ≤ p2 300) := Or.inr ⟨Rat.le_trans (p2_mono (by decide)) b1, Rat.le_trans b2 (p2_mono (by decide))⟩
  obtain ⟨u1, v1, _⟩ := fmul_exact' z1 fin_wh ab_wh rgS (by decide)
  obtain ⟨u2, v2, _⟩ := fmul_exact' fa fin_wh ab_wh rga (by decide)
  obtain ⟨u3, v3, _⟩ := fmul_exact' fb fin_wh ab_wh rgb (by decide)
  rw [val_wh, half_mul] at v1 v2 v3
  rw [hS] at v1
  -- the sum
  have hsumv : 0 < (S + ab (val a)) / 2 := by grind
  have hl : p2 (-131) ≤ (S + ab (val a)) / 2 * 2 := by grind
  have up : (S + ab (val a)) / 2 ≤ p2 132 := by
    have := p2_mono (show (130 : Int) ≤ 132 by decide)
    grind
  have lo : p2 (-132) ≤ (S + ab (val a)) / 2 := by
    have t2 : p2 (-132) * 2 = p2 (-131) := by rw [← p2_succ]; rfl
    grind
  have lt23 : (S + ab (val a)) / 2 < p2 1023 := by have := p2_lt (show 132 < 1023 by decide); grind
  have hH : fin (sqH a b) ∧ Rd ((S + ab (val a)) / 2) (val (sqH a b)) := by
    unfold sqH
    by_cases hpos : val 0 < val a
    · rw [if_pos hpos]
      rw [val_z] at hpos
      have ea : val (fmul wh (fhypt a b)) + val (fmul wh a) = (S + ab (val a)) / 2 := by rw [v1, v2, ab_of_nonneg (Rat.le_of_lt hpos)]; grind
      have := add_rd u1 u2 (by rw [ea, ab_of_nonneg (Rat.le_of_lt hsumv)]; exact lt23)
      rw [ea] at this; exact this
    · rw [if_neg hpos]
      rw [val_z] at hpos
      have ea : val (fmul wh (fhypt a b)) - val (fmul wh a) = (S + ab (val a)) / 2 := by rw [v1, v2, ab_of_neg (show val a ≤ 0 by grind)]; grind
      have := sub_rd u1 u2 (by rw [ea, ab_of_nonneg (Rat.le_of_lt hsumv)]; exact lt23)
      rw [ea] at this; exact this
  obtain ⟨fh, rh⟩ := hH
  have rl := rh.rl (Rat.le_trans (p2_mono (by decide)) lo)
  have hlh := rl.half (by rw [eps_val]; decide +kernel)
  have t133 : p2 (-133) * 2 = p2 (-132) := by rw [← p2_succ]; rfl
  have t132 : p2 133 = p2 132 * 2 := by rw [← p2_succ]; rfl
  obtain ⟨q1, q2, q3, q4, q5⟩ := sqrt_rl fh (Rat.le_trans (p2_mono (show (-1000 : Int) ≤ -133 by decide)) (by grind)) (Rat.le_trans (show val (sqH a b) ≤ p2 133 by grind) (p2_mono (by decide)))
  have eT : fsqrt (sqH a b) = sqT a b := rfl
  rw [eT] at q1 q2 q3 q4 q5
  have T2 : Rl (3 * eps) (val (sqT a b) * val (sqT a b)) ((S + ab (val a)) / 2) := (q5.trans rl (by rw [eps_val]; decide +kernel)).mono (by grind) (by rw [eps_val]; decide +kernel)
  have hT2 := T2.half (by rw [eps_val]; decide +kernel)
  have tlo : p2 (-150) ≤ val (sqT a b) := by
    refine le_of_sq_le (Rat.le_of_lt q3) ?_
    rw [p2_sq]
    have := p2_mono (show (2 * -150 : Int) ≤ -133 by decide)
    grind
  have thi : val (sqT a b) ≤ p2 150 := by
    refine le_of_sq_le (Rat.le_of_lt (p2_pos _)) ?_
    rw [p2_sq]
    have := p2_mono (show (133 : Int) ≤ 2 * 150 by decide)
    grind
  -- the quotient
  have tne : val (sqT a b) ≠ 0 := (Rat.ne_of_lt q3).symm
  generalize hT : val (sqT a b) = T at *
  have hq : ab (val b / 2 / T) * T = ab (val b) / 2 := by
    have e1 : ab (val b / 2 / T) * ab T = ab (val b / 2) := by rw [← ab_mul, Rat.div_mul_cancel tne]
    rw [ab_of_nonneg (Rat.le_of_lt q3)] at e1
    rw [e1, show val b / 2 = val b * (1 / 2) by grind, ab_mul, show ab (1 / 2) = 1 / 2 by decide +kernel]; grind
  have qlo : p2 (-289) ≤ ab (val b / 2 / T) := by
    refine Rat.le_of_mul_le_mul_right (c := T) ?_ q3
    rw [hq]
    have t1 := Rat.mul_le_mul_of_nonneg_left thi (Rat.le_of_lt (p2_pos (-289)))
    rw [← p2_add] at t1
    have t2 := p2_mono (show (-289 + 150 : Int) ≤ -131 by decide)
    have t3 : p2 (-131) * 2 = p2 (-130) := by rw [← p2_succ]; rfl
    grind
  have qhi : ab (val b / 2 / T) ≤ p2 289 := by
    refine Rat.le_of_mul_le_mul_right (c := T) ?_ q3
    rw [hq]
    have t1 := Rat.mul_le_mul_of_nonneg_left tlo (Rat.le_of_lt (p2_pos 289))
    rw [← p2_add] at t1
    have t2 := p2_mono (show (130 : Int) ≤ 289 + -150 by decide)
    grind
  have dr := div_rd u3 q2 (by rw [hT]; exact tne) (by rw [v3, hT]; have := p2_lt (show 289 < 1022 by decide); grind)
  rw [v3, hT] at dr
  have eD : fdiv (fmul wh b) (sqT a b) = sqD a b := rfl
  rw [eD] at dr
  obtain ⟨d1, d2, _, d4⟩ := dr
  obtain ⟨o1, o2, _⟩ := fabs_spec d2
  have eO : fabs (sqD a b) = sqO a b := rfl
  rw [eO] at o1 o2
  have orl : Rl eps (val (sqO a b)) (ab (val b / 2 / T)) := by
    rw [o2]
    by_cases hp : 0 ≤ val b / 2 / T
    · rw [ab_of_nonneg hp, ab_of_nonneg (d4.nonneg hp)]
      rw [ab_of_nonneg hp] at qlo
      exact d4.rl (Rat.le_trans (p2_mono (by decide)) qlo)
    · have hn : val b / 2 / T ≤ 0 := by grind
      rw [ab_of_neg hn, ab_of_neg (d4.nonpos hn)]
      rw [ab_of_neg hn] at qlo
      exact d4.neg.rl (Rat.le_trans (p2_mono (by decide)) qlo)
  have op := orl.apos
  have him : Rl eps (val (sqO a b) * T) (ab (val b) / 2) := by
    have := orl.scale q3
    rw [hq] at this; exact this
  have ho := orl.half (by rw [eps_val]; decide +kernel)
  have him2 : Rl (2 * eps) (val (sqO a b) * val (sqO a b) * (T * T)) (ab (val b) * ab (val b) / 4) := by
    have := him.sq (by rw [eps_val]; decide +kernel)
    rw [show val (sqO a b) * T * (val (sqO a b) * T) = val (sqO a b) * val (sqO a b) * (T * T) by grind, show ab (val b) / 2 * (ab (val b) / 2) = ab (val b) * ab (val b) / 4 by grind] at this
    exact this
  obtain ⟨c1, c2, c3, c4⟩ := core_num z0 pa (Rat.mul_pos pb pb) T2 him2 zr
  refine ⟨ok, z1, u1, u2, u3, fh, q1, q2, d1, d2, o1, by rw [hT]; exact q3, op, by rw [hT]; exact ⟨tlo, thi⟩, ⟨?_, ?_⟩, by rw [hT]; exact him, ?_⟩
  · have t3 : p2 (-290) * 2 = p2 (-289) := by rw [← p2_succ]; rfl
    grind
  · have t3 : p2 290 = p2 289 * 2 := by rw [← p2_succ]; rfl
    grind
  · refine ⟨24 * eps * S, by rw [hT]; exact c1, ?_, ?_⟩
    · have bS : ab (val b) ≤ S * (11 / 10) := le_of_sq_le (by grind) (by grind)
      have := Rat.mul_le_mul_of_nonneg_right bS (Rat.le_of_lt eps_pos)
      have := Rat.mul_nonneg (Rat.le_of_lt z0) (Rat.le_of_lt eps_pos)
      grind
    · rw [hab, hbb]
      generalize ab (val a) = A at *
      generalize ab (val b) = B at *
      have hD : 0 < A * A + B * B := by have := Rat.mul_pos pa pa; have := Rat.mul_pos pb pb; grind
      have hsq : S * (A + B) ≤ (A * A + B * B) * (3 / 2) := by
        refine le_of_sq_le (by grind) ?_
        have w1 : (A + B) * (A + B) ≤ 2 * (A * A + B * B) := by have := sq_nonneg (A - B); grind
        have w2 := mul_le_mul_nn c4 w1 (Rat.le_of_lt (Rat.mul_pos z0 z0)) (by grind)
        have w3 := Rat.mul_pos hD hD
        grind
      have := Rat.mul_le_mul_of_nonneg_left hsq (Rat.le_of_lt eps_pos)
      have := Rat.mul_pos hD eps_pos
      grind
end Cx
