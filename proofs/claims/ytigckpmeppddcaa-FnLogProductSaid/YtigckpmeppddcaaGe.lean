/- The library's rational function gives the angle of 1 + i t; pi; what satan and the phase give: the angle of their number. Plain: no program in sight. -/
import Derived.Test.YtigckpmeppddcaaGd
import Derived.Test.YtigckpmeppddcaaAtc
set_option linter.unusedVariables false
namespace Cx
open Cq

/-! ### The rational function against the Taylor polynomial -/
def pl : List Rat := [cP4, cP3, cP2, cP1, cP0]
def ql : List Rat := [cQ4, cQ3, cQ2, cQ1, cQ0, 1]
theorem ev_pl (z : Rat) : ev pl z = pn z := by simp only [pl, ev, pn]; grind
theorem ev_ql (z : Rat) : ev ql z = qn z := by simp only [ql, ev, qn]; grind
def DL : List Rat := padd (padd (0 :: pl) ql) (psc (-1) (pmul SL ql))
theorem ev_DL (z : Rat) : ev DL z = z * pn z + qn z - ev SL z * qn z := by
  unfold DL
  rw [ev_padd, ev_padd, ev_psc, ev_pmul, ev_ql]
  simp only [ev]
  rw [ev_pl]; grind
/-- The bound on pieces of length 1/20. -/
def chk (D : List Rat) (e : Rat) : Nat → Bool
  | 0 => true
  | n + 1 => chk D e n && decide (bnd (sh D ((2 * (n : Rat) + 1) / 40)) (1 / 40) ≤ e)
theorem chk_sound {D : List Rat} {e z : Rat} : ∀ n : Nat, chk D e n = true → 0 ≤ z → z ≤ (n : Rat) / 20 → 0 < n → ab (ev D z) ≤ e
  | 0, _, _, _, hn => absurd hn (by omega)
  | n + 1, h, h0, h1, _ => by
    simp only [chk, Bool.and_eq_true, decide_eq_true_eq] at h
    have ek : ((n + 1 : Nat) : Rat) = (n : Rat) + 1 := by rw [Rat.natCast_add]; rfl
    rw [ek] at h1
    by_cases hc : z ≤ (n : Rat) / 20 ∧ 0 < n
    · exact chk_sound n h.1 h0 hc.1 hc.2
    · have hlow : (n : Rat) / 20 ≤ z := by
        rcases Nat.eq_zero_or_pos n with h2 | h2
        · rw [h2, show ((0 : Nat) : Rat) / 20 = 0 from by decide +kernel]; exact h0
        · grind
      have hd : ab (z - (2 * (n : Rat) + 1) / 40) ≤ 1 / 40 := by rw [ab_le]; constructor <;> grind
      have := ev_bnd hd (sh D ((2 * (n : Rat) + 1) / 40))
      rw [ev_sh, show z - (2 * (n : Rat) + 1) / 40 + (2 * (n : Rat) + 1) / 40 = z by grind] at this
      exact Rat.le_trans this h.2
theorem DL_chk : chk DL (1 / 17592186044416) 9 = true := by decide +kernel
theorem DL_small {z : Rat} (h0 : 0 ≤ z) (h1 : z ≤ 45 / 100) : ab (ev DL z) ≤ 1 / 17592186044416 :=
  chk_sound 9 DL_chk h0 (Rat.le_trans h1 (by decide +kernel)) (by decide)

theorem Rt_near {t : Rat} (h0 : 0 ≤ t) (h1 : t ≤ 67 / 100) : ab (Rt t - ev TL t) ≤ 1 / 1125899906842624 := by
  have hz0 := sq_nonneg t
  have hz1 : t * t ≤ 45 / 100 := Rat.le_trans (mul_le_mul_nn h1 h1 h0 (by decide +kernel)) (by decide +kernel)
  have hD := DL_small hz0 hz1
  rw [ev_DL] at hD
  have hq := qn_ge hz0
  have hqp : 0 < qn (t * t) := by grind
  have hqne : qn (t * t) ≠ 0 := (Rat.ne_of_lt hqp).symm
  have eT : ev TL t = t * ev SL (t * t) := ev_atl t 46 0 1
  rw [eT]
  unfold Rt
  generalize pn (t * t) = p at *
  generalize ev SL (t * t) = s at *
  have e1 : t * t * p / qn (t * t) * qn (t * t) = t * t * p := Rat.div_mul_cancel hqne
  generalize t * t * p / qn (t * t) = w at *
  generalize qn (t * t) = q at *
  have e2 : (t * w + t - t * s) * q = t * (t * t * p + q - s * q) := by
    have : (t * w + t - t * s) * q = t * (w * q) + t * q - t * s * q := by grind
    rw [this, e1]; grind
  have e3 : ab (t * w + t - t * s) * q ≤ 67 / 100 * (1 / 17592186044416) := by
    have : ab (t * w + t - t * s) * q = ab ((t * w + t - t * s) * q) := by rw [ab_mul, ab_of_nonneg (Rat.le_of_lt hqp)]
    rw [this, e2]
    exact ab_mul_le (by rw [ab_of_nonneg h0]; exact h1) hD
  have e4 := Rat.mul_le_mul_of_nonneg_left hq (ab_nonneg (t * w + t - t * s))
  have e5 : ab (t * w + t - t * s) * 194 ≤ 1 / 1125899906842624 * 194 := Rat.le_trans e4 (Rat.le_trans e3 (by decide +kernel))
  exact Rat.le_of_mul_le_mul_right e5 (by decide)

/-- 2^-47. -/
def ea : Rat := 1 / 140737488355328
theorem Rt_bound {t : Rat} (h0 : 0 ≤ t) (h1 : t ≤ 67 / 100) : ab (ev TL t) ≤ 60 := atan_like.le t h0 h1
theorem ang_Rt_pos {t : Rat} (h0 : 0 ≤ t) (h1 : t ≤ 67 / 100) : Ang ⟨1, t⟩ (Rt t) ea := by
  have h := ang_of_like atan_like (by decide +kernel) (by decide) h0 h1
  have hn := Rt_near h0 h1
  have hle := Rt_bound h0 h1
  exact h.to (Rat.le_trans hle (by decide)) hn (by decide +kernel) (by decide +kernel)
theorem Rt_neg (t : Rat) : Rt (-t) = -Rt t := by
  unfold Rt
  rw [show -t * -t = t * t by grind]; grind
theorem ang_Rt {t : Rat} (h : ab t ≤ 67 / 100) : Ang ⟨1, t⟩ (Rt t) ea := by
  by_cases h0 : 0 ≤ t
  · rw [ab_of_nonneg h0] at h; exact ang_Rt_pos h0 h
  · have hn : t ≤ 0 := by grind
    rw [ab_of_neg hn] at h
    have := (ang_Rt_pos (t := -t) (by grind) h).conj
    have e : Cq.conj ⟨1, -t⟩ = ⟨1, t⟩ := by apply Cq.ext' <;> simp only [Cq.conj]; grind
    rw [e, Rt_neg, show -(-Rt t) = Rt t by grind] at this
    exact this

/-! ### pi -/
theorem pi4_near : ab (PI / 4 - (Rt (1 / 2) + Rt (1 / 3))) ≤ 1 / 1125899906842624 := by decide +kernel
theorem Rt_half_le : ab (Rt (1 / 2)) ≤ 1 ∧ ab (Rt (1 / 3)) ≤ 1 ∧ ab (Rt (1 / 2) + Rt (1 / 3)) ≤ 2 := by refine ⟨?_, ?_, ?_⟩ <;> decide +kernel
/-- The angle of 1 + i. -/
theorem ang_pi4 : Ang ⟨1, 1⟩ (PI / 4) (3 * ea) := by
  obtain ⟨b1, b2, b3⟩ := Rt_half_le
  have h := (ang_Rt (t := 1 / 2) (by decide +kernel)).mul (ang_Rt (t := 1 / 3) (by decide +kernel)) (Rat.le_trans b1 (by decide)) (Rat.le_trans b2 (by decide)) (by decide +kernel)
  have e : (⟨1, 1 / 2⟩ : Cq).mul ⟨1, 1 / 3⟩ = Cq.smul (5 / 6) ⟨1, 1⟩ := by apply Cq.ext' <;> simp only [Cq.mul, Cq.smul] <;> decide +kernel
  rw [e] at h
  exact (h.of_smul (by decide +kernel)).to (Rat.le_trans b3 (by decide)) pi4_near (by decide +kernel) (by decide +kernel)
/-- The angle of i. -/
theorem ang_i : Ang ⟨0, 1⟩ (PI / 2) (7 * ea) := by
  have h := ang_pi4.mul ang_pi4 (by decide +kernel) (by decide +kernel) (by decide +kernel)
  have e : (⟨1, 1⟩ : Cq).mul ⟨1, 1⟩ = Cq.smul 2 ⟨0, 1⟩ := by apply Cq.ext' <;> simp only [Cq.mul, Cq.smul] <;> decide +kernel
  rw [e, show PI / 4 + PI / 4 = PI / 2 by grind] at h
  exact (h.of_smul (by decide)).mono (by decide +kernel) (by decide +kernel)
/-- The angle of -1. -/
theorem ang_neg : Ang ⟨-1, 0⟩ PI (15 * ea) := by
  have h := ang_i.mul ang_i (by decide +kernel) (by decide +kernel) (by decide +kernel)
  have e : (⟨0, 1⟩ : Cq).mul ⟨0, 1⟩ = ⟨-1, 0⟩ := by apply Cq.ext' <;> simp only [Cq.mul] <;> decide +kernel
  rw [e, show PI / 2 + PI / 2 = PI by grind] at h
  exact h.mono (by decide +kernel) (by decide +kernel)
/-- A whole turn. -/
theorem ang_turn : Ang ⟨1, 0⟩ (2 * PI) (31 * ea) := by
  have h := ang_neg.mul ang_neg (by decide +kernel) (by decide +kernel) (by decide +kernel)
  have e : (⟨-1, 0⟩ : Cq).mul ⟨-1, 0⟩ = ⟨1, 0⟩ := by apply Cq.ext' <;> simp only [Cq.mul] <;> decide +kernel
  rw [e, show PI + PI = 2 * PI by grind] at h
  exact h.mono (by decide +kernel) (by decide +kernel)
end Cx
