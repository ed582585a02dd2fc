/- An angle of 1 is near a whole number of turns; gaps of whole directions. Plain: no program in sight. -/
import Derived.Test.YtigckpmeppddcaaGf
set_option linter.unusedVariables false
namespace Cx
open Cq

theorem cis_zero_ang {z : Cq} {u : Rat} (h : Ang z 0 u) : Small u z := by
  have e : cis (-0) = ⟨1, 0⟩ := by
    have key : ∀ n : Nat, Cq.pow ⟨1, 0⟩ n = ⟨1, 0⟩ := by
      intro n
      induction n with
      | zero => rfl
      | succ n ih => simp only [Cq.pow]; rw [ih]; exact Cq.mul_one _
    unfold cis
    rw [show (-0 : Rat) / ((NN : Nat) : Rat) = 0 by rw [Rat.div_def]; grind]
    exact key NN
  unfold Ang at h
  rw [e, Cq.mul_one] at h
  exact h

/-- A direction near the imaginary axis is not near the angle 0, nor is one to the left. -/
theorem not_up {d u : Rat} (hd : ab d ≤ 1) (hu : u ≤ 1 / 10) (h : Ang ⟨0, -1⟩ d u) : False := by
  have hs := cis_small (c := -d) (by rw [ab_neg]; exact hd)
  have him := ab_le.1 hs.im
  have hX := hs.re
  rw [ab_neg] at him
  have hg := g_le (ab_nonneg d) hd
  have h2 := Small.im h
  have h3 := Small.re h
  have e1 : ((⟨0, -1⟩ : Cq).mul (cis (-d))).re = (cis (-d)).im := by simp only [Cq.mul]; grind
  have e2 : ((⟨0, -1⟩ : Cq).mul (cis (-d))).im = -(cis (-d)).re := by simp only [Cq.mul]; grind
  rw [e1, e2, ab_neg, ab_of_nonneg (Rat.le_of_lt hX)] at h2
  rw [e1] at h3
  have hgu := g_le h.nonneg h.le_one
  have hgu0 := g_nonneg h.nonneg h.le_one
  generalize (cis (-d)).re = X at *
  generalize (cis (-d)).im = Y at *
  have k1 : Y ≤ 2 * X := by
    have := Rat.mul_le_mul_of_nonneg_right (show g (ab d) ≤ 2 by grind) (Rat.le_of_lt hX); grind
  have k2 := Rat.mul_le_mul_of_nonneg_right (show g u ≤ 1 / 5 by grind) (Rat.le_of_lt h3)
  grind
theorem not_left {d u : Rat} (hd : ab d ≤ 1) (h : Ang ⟨-1, 0⟩ d u) : False := by
  have hs := cis_small (c := -d) (by rw [ab_neg]; exact hd)
  have hX := hs.re
  have h3 := Small.re h
  have e1 : ((⟨-1, 0⟩ : Cq).mul (cis (-d))).re = -(cis (-d)).re := by simp only [Cq.mul]; grind
  rw [e1] at h3
  grind

theorem one_conj : Cq.conj ⟨1, 0⟩ = ⟨1, 0⟩ := by apply Cq.ext' <;> simp only [Cq.conj]; decide

/-- An angle of 1 of at most 3.2 in size is small. -/
theorem one_angle {c u : Rat} (h : Ang ⟨1, 0⟩ c u) (hc : ab c ≤ 32 / 10) (hu : u ≤ 1 / 1000) : ab c ≤ 2 * u := by
  have key : ∀ {c : Rat}, Ang ⟨1, 0⟩ c u → 0 ≤ c → c ≤ 32 / 10 → c ≤ 2 * u := by
    intro c h h0 h1
    have hPI := PI_val
    by_cases ha : c ≤ 1
    · have := h.of_one (by rw [ab_of_nonneg h0]; exact ha)
      rw [ab_of_nonneg h0] at this
      exact Rat.le_trans this (g_le h.nonneg h.le_one)
    · exfalso
      by_cases hb : c ≤ 25 / 10
      · have b := h.mul ang_i.conj (by rw [ab_of_nonneg h0]; grind) (by rw [ab_neg]; exact Rat.le_trans PI_le.1 (by decide)) (by
          have : 7 * ea + mu ≤ 1 / 1000 := by decide +kernel
          grind)
        have e : (⟨1, 0⟩ : Cq).mul (Cq.conj ⟨0, 1⟩) = ⟨0, -1⟩ := by apply Cq.ext' <;> simp only [Cq.mul, Cq.conj] <;> decide +kernel
        rw [e] at b
        refine not_up ?_ ?_ b
        · rw [ab_le, hPI]; constructor <;> grind
        · have : 7 * ea + mu ≤ 1 / 1000 := by decide +kernel
          grind
      · have b := h.mul ang_neg.conj (by rw [ab_of_nonneg h0]; grind) (by rw [ab_neg]; exact Rat.le_trans PI_le.2.2 (by decide)) (by
          have : 15 * ea + mu ≤ 1 / 1000 := by decide +kernel
          grind)
        have e : (⟨1, 0⟩ : Cq).mul (Cq.conj ⟨-1, 0⟩) = ⟨-1, 0⟩ := by apply Cq.ext' <;> simp only [Cq.mul, Cq.conj] <;> decide +kernel
        rw [e] at b
        refine not_left ?_ b
        rw [ab_le, hPI]; constructor <;> grind
  by_cases h0 : 0 ≤ c
  · rw [ab_of_nonneg h0] at hc ⊢; exact key h h0 hc
  · have hn : c ≤ 0 := by grind
    rw [ab_of_neg hn] at hc ⊢
    have b := h.conj
    rw [one_conj] at b
    exact key b (by grind) hc

/-- An angle of 1 of at most 9.4 in size is near 0 or near a turn. -/
theorem one_angle2 {c u : Rat} (h : Ang ⟨1, 0⟩ c u) (hc : ab c ≤ 948 / 100) (hu : u ≤ 1 / 2000) : ab c ≤ 2 * (u + 32 * ea) ∨ ab (c - 2 * PI) ≤ 2 * (u + 32 * ea) ∨ ab (c + 2 * PI) ≤ 2 * (u + 32 * ea) := by
  have hPI := PI_val
  have hc' := ab_le.1 hc
  have e32 : 32 * ea ≤ 1 / 2000 := by decide +kernel
  have e320 : 0 ≤ 32 * ea := by decide +kernel
  have hmu : 31 * ea + mu ≤ 32 * ea := by decide +kernel
  by_cases h1 : ab c ≤ 32 / 10
  · left
    have := one_angle h h1 (by grind)
    grind
  · by_cases h0 : 0 ≤ c
    · right; left
      have hc3 : 32 / 10 < c := by
        by_cases hx : 32 / 10 < c
        · exact hx
        · exact absurd (by rw [ab_of_nonneg h0]; grind) h1
      have b := h.mul ang_turn.conj (Rat.le_trans hc (by decide +kernel)) (by rw [ab_neg]; decide +kernel) (by grind)
      rw [Cq.one_mul, one_conj] at b
      have b2 := b.mono (show u + 31 * ea + mu ≤ u + 32 * ea by grind) (by grind)
      rw [show c + -(2 * PI) = c - 2 * PI by grind] at b2
      exact one_angle b2 (by rw [ab_le, hPI]; constructor <;> grind) (by grind)
    · right; right
      have hc3 : c < -(32 / 10) := by
        by_cases hx : c < -(32 / 10)
        · exact hx
        · exact absurd (by rw [ab_of_neg (by grind)]; grind) h1
      have b := h.mul ang_turn (Rat.le_trans hc (by decide +kernel)) (by decide +kernel) (by grind)
      rw [Cq.one_mul] at b
      have b2 := b.mono (show u + 31 * ea + mu ≤ u + 32 * ea by grind) (by grind)
      exact one_angle b2 (by rw [ab_le, hPI]; constructor <;> grind) (by grind)

/-- A direction with a second part of at least 1 and a first part of at most 2^22 has no tiny angle. -/
theorem gap_zero {z : Cq} {a u : Rat} (h : Ang z a u) (hu : u ≤ 1 / 67108864) (h1 : 1 ≤ ab z.im) (h2 : ab z.re ≤ 4194304) (ha : ab a ≤ 1 / 33554432) : False := by
  have hmu := mu_le
  have b := h.to (b := 0) (d := 1 / 33554432) (v := 1 / 16777216) (Rat.le_trans ha (by decide +kernel)) (by rw [show 0 - a = -a by grind, ab_neg]; exact ha) (by
    have : (1 : Rat) / 67108864 + 1 / 33554432 + 1 / 1152921504606846976 ≤ 1 / 16777216 := by decide +kernel
    grind) (by decide +kernel)
  have hs := cis_zero_ang b
  have hg := g_le (show (0 : Rat) ≤ 1 / 16777216 by decide +kernel) (by decide +kernel)
  have hre := hs.re
  have him := hs.im
  rw [ab_of_nonneg (Rat.le_of_lt hre)] at h2
  have := mul_le_mul_nn hg h2 (g_nonneg (by decide +kernel) (by decide +kernel)) (by decide)
  have : (2 : Rat) * (1 / 16777216) * 4194304 < 1 := by decide +kernel
  grind
theorem gap_pi {z : Cq} {a u : Rat} (h : Ang z a u) (hu : u ≤ 1 / 134217728) (h1 : 1 ≤ ab z.im) (h2 : ab z.re ≤ 4194304) (ha : ab a ≤ 60) : 1 / 33554432 ≤ ab (a - PI) ∧ 1 / 33554432 ≤ ab (a + PI) ∧ 1 / 33554432 ≤ ab a := by
  have e15 : 15 * ea + mu ≤ 1 / 134217728 := by decide +kernel
  have e15' : 0 ≤ 15 * ea := by decide +kernel
  have hsum : u + 15 * ea + mu ≤ 1 / 67108864 := by
    have : (1 : Rat) / 134217728 + 1 / 134217728 ≤ 1 / 67108864 := by decide +kernel
    grind
  have hone : (1 : Rat) / 67108864 ≤ 1 := by decide +kernel
  have e : ∀ z : Cq, z.mul ⟨-1, 0⟩ = ⟨-z.re, -z.im⟩ := by intro z; apply Cq.ext' <;> simp only [Cq.mul] <;> grind
  have ec : Cq.conj ⟨-1, 0⟩ = ⟨-1, 0⟩ := by apply Cq.ext' <;> simp only [Cq.conj]; decide
  refine ⟨?_, ?_, ?_⟩
  · by_cases hc : 1 / 33554432 ≤ ab (a - PI)
    · exact hc
    · exfalso
      have b := h.mul ang_neg.conj (Rat.le_trans ha (by decide)) (by rw [ab_neg]; exact Rat.le_trans PI_le.2.2 (by decide)) (Rat.le_trans hsum hone)
      rw [ec, e, show a + -PI = a - PI by grind] at b
      exact gap_zero b hsum (by show 1 ≤ ab (-z.im); rw [ab_neg]; exact h1) (by show ab (-z.re) ≤ _; rw [ab_neg]; exact h2) (by grind)
  · by_cases hc : 1 / 33554432 ≤ ab (a + PI)
    · exact hc
    · exfalso
      have b := h.mul ang_neg (Rat.le_trans ha (by decide)) (Rat.le_trans PI_le.2.2 (by decide)) (Rat.le_trans hsum hone)
      rw [e] at b
      exact gap_zero b hsum (by show 1 ≤ ab (-z.im); rw [ab_neg]; exact h1) (by show ab (-z.re) ≤ _; rw [ab_neg]; exact h2) (by grind)
  · by_cases hc : 1 / 33554432 ≤ ab a
    · exact hc
    · exfalso
      exact gap_zero h (Rat.le_trans hu (by decide +kernel)) h1 h2 (by grind)
end Cx
