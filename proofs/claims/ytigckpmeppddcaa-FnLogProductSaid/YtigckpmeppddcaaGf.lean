/- The library's phase of a number is its angle; an angle of 1 is near a whole number of turns; gaps. Plain: no program in sight. -/
import Derived.Test.YtigckpmeppddcaaGe
set_option linter.unusedVariables false
namespace Cx
open Cq

theorem ab_quot_le {n d c : Rat} (hd : 0 < d) (h : ab n ≤ c * d) : ab (n / d) ≤ c := by
  have e : ab (n / d) * d = ab n := by
    have := ab_mul (n / d) d
    rw [Rat.div_mul_cancel (Rat.ne_of_lt hd).symm, ab_of_nonneg (Rat.le_of_lt hd)] at this
    exact this.symm
  exact Rat.le_of_mul_le_mul_right (by rw [e]; exact h) hd

/-- Another slope near by. -/
theorem Ang.move {s t a u d : Rat} (h : Ang ⟨1, s⟩ a u) (hp : 0 < 1 + s * t) (hd : ab (t - s) ≤ d * (1 + s * t)) (hs : u + d ≤ 1) : Ang ⟨1, t⟩ a (u + d) := by
  have hq := ab_quot_le hp hd
  have hne : 1 + s * t ≠ 0 := (Rat.ne_of_lt hp).symm
  have eq : (t - s) / (1 + s * t) * (1 + s * t) = t - s := Rat.div_mul_cancel hne
  generalize (t - s) / (1 + s * t) = q at *
  have d0 : 0 ≤ d := Rat.le_trans (ab_nonneg q) hq
  have u0 := h.nonneg
  have hsm : Small d (⟨1, q⟩ : Cq) := Small.of_slope d0 (by grind) (show (0 : Rat) < 1 by decide) (by show ab q ≤ d * 1; grind)
  have h2 := h.turn hsm hs
  have hc : 0 < (1 + s * s) / (1 + s * t) := by
    rw [Rat.div_def]; exact Rat.mul_pos (by have := sq_nonneg s; grind) (Rat.inv_pos.2 hp)
  have e : (⟨1, s⟩ : Cq).mul ⟨1, q⟩ = Cq.smul ((1 + s * s) / (1 + s * t)) ⟨1, t⟩ := by
    have hk : (1 + s * s) / (1 + s * t) * (1 + s * t) = 1 + s * s := Rat.div_mul_cancel hne
    generalize (1 + s * s) / (1 + s * t) = k at *
    have cancel : ∀ {x y : Rat}, x * (1 + s * t) = y * (1 + s * t) → x = y := by
      intro x y hxy
      have := congrArg (· * (1 + s * t)⁻¹) hxy
      simp only [Rat.mul_assoc, Rat.mul_inv_cancel _ hne, Rat.mul_one] at this
      exact this
    apply Cq.ext' <;> simp only [Cq.mul, Cq.smul]
    · apply cancel; grind
    · apply cancel; grind
  rw [e] at h2
  exact h2.of_smul hc

theorem ea_val : ea = 1 / 140737488355328 := rfl
theorem es_val : es = 1 / 281474976710656 := rfl
theorem TL_bnd2 : bnd TL (67 / 100) ≤ 1 := by decide +kernel
theorem Rt_le {t : Rat} (h : ab t ≤ 67 / 100) : ab (Rt t) ≤ 2 := by
  have key : ∀ {t : Rat}, 0 ≤ t → t ≤ 67 / 100 → ab (Rt t) ≤ 2 := by
    intro t h0 h1
    have a := Rt_near h0 h1
    have b := Rat.le_trans (ev_bnd (x := t) (r := 67 / 100) (by rw [ab_of_nonneg h0]; exact h1) TL) TL_bnd2
    have e : Rt t = (Rt t - ev TL t) + ev TL t := by grind
    have c := ab_add (Rt t - ev TL t) (ev TL t)
    rw [← e] at c
    have : (1 : Rat) / 1125899906842624 ≤ 1 := by decide +kernel
    grind
  by_cases h0 : 0 ≤ t
  · rw [ab_of_nonneg h0] at h; exact key h0 h
  · have hn : t ≤ 0 := by grind
    rw [ab_of_neg hn] at h
    have := key (t := -t) (by grind) h
    rw [Rt_neg, ab_neg] at this; exact this
theorem PI_le : ab (PI / 2) ≤ 2 ∧ ab (PI / 4) ≤ 1 ∧ ab PI ≤ 4 := by refine ⟨?_, ?_, ?_⟩ <;> decide +kernel
theorem PI_val : PI = 884279719003555 / 281474976710656 := rfl

theorem mu_le : mu ≤ 1 / 1152921504606846976 := by decide +kernel

/-- satan's value is the angle. -/
theorem sat_ang {X v : Rat} (hX : 0 < X) (h : SatNear X v) : Ang ⟨1, X⟩ v (16 * ea) := by
  have hmu := mu_le
  have mp := mu_pos
  rcases h with ⟨h1, h2⟩ | ⟨u, h1, h2, h3, h4, h5⟩ | ⟨u, h1, h2, h3, h4, h5⟩
  · have hb : ab X ≤ 67 / 100 := by rw [ab_of_nonneg (Rat.le_of_lt hX)]; exact h1
    exact (ang_Rt hb).to (Rat.le_trans (Rt_le hb) (by decide)) h2 (by decide +kernel) (by decide +kernel)
  · have hb : ab u ≤ 67 / 100 := by rw [ab_of_nonneg (Rat.le_of_lt h2)]; exact h3
    have a := ang_i.mul (ang_Rt hb).conj (Rat.le_trans PI_le.1 (by decide)) (by rw [ab_neg]; exact Rat.le_trans (Rt_le hb) (by decide)) (by decide +kernel)
    have e : (⟨0, 1⟩ : Cq).mul (Cq.conj ⟨1, u⟩) = Cq.smul u ⟨1, 1 / u⟩ := by
      have hu : 1 / u * u = 1 := Rat.div_mul_cancel (Rat.ne_of_lt h2).symm
      apply Cq.ext' <;> simp only [Cq.mul, Cq.smul, Cq.conj]
      · grind
      · rw [Rat.mul_comm u (1 / u), hu]; grind
    rw [e] at a
    have a2 := a.of_smul h2
    -- from 1/u to X
    have hu : 1 / u * u = 1 := Rat.div_mul_cancel (Rat.ne_of_lt h2).symm
    have hx : 1 / X * X = 1 := Rat.div_mul_cancel (Rat.ne_of_lt hX).symm
    have hup : 0 < 1 / u := by rw [Rat.div_def, Rat.one_mul]; exact Rat.inv_pos.2 h2
    have hp : 0 < 1 + 1 / u * X := by have := Rat.mul_pos hup hX; grind
    have hmv : ab (X - 1 / u) ≤ 64 * eps * (1 + 1 / u * X) := by
      have e2 : X - 1 / u = (u - 1 / X) * (1 / u * X) := by
        have : (u - 1 / X) * (1 / u * X) = (1 / u * u) * X - (1 / X * X) * (1 / u) := by grind
        rw [this, hu, hx]; grind
      have hux := Rat.mul_pos hup hX
      rw [e2, ab_mul, ab_of_nonneg (Rat.le_of_lt hux)]
      have := Rat.mul_le_mul_of_nonneg_right h4 (Rat.le_of_lt hux)
      have h64 : 0 ≤ 64 * eps := by rw [eps_val]; decide +kernel
      grind
    have a3 := a2.move hp hmv (by rw [eps_val]; decide +kernel)
    have hpr : PI / 2 + -Rt u = PI / 2 - Rt u := by grind
    rw [hpr] at a3
    have hle : ab (PI / 2 - Rt u) ≤ 64 := by
      have b1 := ab_le.1 PI_le.1
      have b2 := ab_le.1 (Rt_le hb)
      rw [ab_le]; constructor <;> grind
    exact a3.to hle h5 (by rw [eps_val]; decide +kernel) (by decide +kernel)
  · have a := ang_Rt h3
    have hxp : 0 < X + 1 := by grind
    have hxne : X + 1 ≠ 0 := (Rat.ne_of_lt hxp).symm
    have hU : (X - 1) / (X + 1) * (X + 1) = X - 1 := Rat.div_mul_cancel hxne
    generalize (X - 1) / (X + 1) = U at *
    have b3 := ab_le.1 h3
    have b4 := ab_le.1 h4
    have hUb : ab U ≤ 1 := by
      have : 64 * eps ≤ 1 / 4 := by rw [eps_val]; decide +kernel
      rw [ab_le]; constructor <;> grind
    have huU := ab_le.1 (ab_mul_le h3 hUb)
    have hp : 0 < 1 + u * U := by grind
    have a2 := a.move (t := U) (d := 256 * eps) hp (by
      rw [ab_sub_comm]
      have h33 : 1 / 4 ≤ 1 + u * U := by grind
      have := Rat.mul_le_mul_of_nonneg_left h33 (show 0 ≤ 256 * eps by rw [eps_val]; decide +kernel)
      grind) (by rw [eps_val]; decide +kernel)
    have a3 := ang_pi4.mul a2 (Rat.le_trans PI_le.2.1 (by decide)) (Rat.le_trans (Rt_le h3) (by decide)) (by rw [eps_val]; decide +kernel)
    have e : (⟨1, 1⟩ : Cq).mul ⟨1, U⟩ = Cq.smul (1 - U) ⟨1, X⟩ := by
      apply Cq.ext' <;> simp only [Cq.mul, Cq.smul] <;> grind
    have hU1 : 0 < 1 - U := by
      have : (1 - U) * (X + 1) = 2 := by grind
      by_cases hc : 0 < 1 - U
      · exact hc
      · have := Rat.mul_nonneg (show 0 ≤ -(1 - U) by grind) (Rat.le_of_lt hxp); grind
    rw [e] at a3
    have hle : ab (PI / 4 + Rt u) ≤ 64 := by
      have b1 := ab_le.1 PI_le.2.1
      have b2 := ab_le.1 (Rt_le h3)
      rw [ab_le]; constructor <;> grind
    exact (a3.of_smul hU1).to hle h5 (by rw [eps_val]; decide +kernel) (by decide +kernel)

theorem sgn_ab {q : Rat} : (0 < q → ab q = q) ∧ (q < 0 → ab q = -q) := ⟨fun h => ab_of_nonneg (Rat.le_of_lt h), fun h => ab_of_neg (Rat.le_of_lt h)⟩
theorem SatNear.le {X v : Rat} (hX : 0 < X) (h : SatNear X v) : ab v ≤ 5 := by
  have hes : es ≤ 1 / 2 := by decide +kernel
  have p2 := ab_le.1 PI_le.1
  have p4 := ab_le.1 PI_le.2.1
  rcases h with ⟨h1, h2⟩ | ⟨u, h1, h2, h3, h4, h5⟩ | ⟨u, h1, h2, h3, h4, h5⟩
  · have b := ab_le.1 (Rt_le (t := X) (by rw [ab_of_nonneg (Rat.le_of_lt hX)]; exact h1))
    have h2 := ab_le.1 h2
    rw [ab_le]; constructor <;> grind
  · have b := ab_le.1 (Rt_le (t := u) (by rw [ab_of_nonneg (Rat.le_of_lt h2)]; exact h3))
    have h5 := ab_le.1 h5
    rw [ab_le]; constructor <;> grind
  · have b := ab_le.1 (Rt_le h3)
    have h5 := ab_le.1 h5
    rw [ab_le]; constructor <;> grind

/-- satan's value at a rounded quotient is the angle of the exact one. -/
theorem sat_ang' {t T v : Rat} (hr : Rl eps t T) (h : SatNear t v) : Ang ⟨1, T⟩ v (17 * ea) := by
  have ht := hr.apos
  have hT := hr.pos
  have a := sat_ang ht h
  have tT := Rat.mul_pos ht hT
  have n1 := hr.near
  have ep := eps_pos
  have hmv : ab (T - t) ≤ 4 * eps * (1 + t * T) := by
    have hh := hr.half (by rw [eps_val]; decide +kernel)
    -- |T - t| <= 2 eps t, and t <= 2 (1 + t T)
    have k : t ≤ 2 * (1 + t * T) := by
      by_cases hc : t ≤ 2
      · grind
      · have := mul_le_mul_nn (show 2 ≤ t by grind) (show 1 ≤ T by grind) (by decide) (Rat.le_of_lt hT)
        have h2 := Rat.mul_le_mul_of_nonneg_left (show 1 ≤ T by grind) (Rat.le_of_lt ht)
        grind
    have k2 := Rat.mul_le_mul_of_nonneg_right k (Rat.le_of_lt ep)
    have k3 := Rat.mul_le_mul_of_nonneg_right hh.1 (Rat.le_of_lt ep)
    rw [ab_le]
    generalize t * T = z at *
    constructor <;> grind
  exact (a.move (t := T) (by grind) hmv (by rw [eps_val]; decide +kernel)).mono (by rw [eps_val]; decide +kernel) (by decide +kernel)

theorem pi_sum {q P : Rat} (h : q ≤ 5 ∧ -q ≤ 5) (h' : P ≤ 4 ∧ -P ≤ 4) : ab (q + P) ≤ 64 := by rw [ab_le]; constructor <;> grind
theorem pi_diff {q P : Rat} (h : q ≤ 5 ∧ -q ≤ 5) (h' : P ≤ 4 ∧ -P ≤ 4) : ab (q - P) ≤ 64 := by rw [ab_le]; constructor <;> grind

/-- THE PHASE IS THE ANGLE. -/
theorem ph_ang {X Y p : Rat} (h : PhNear X Y p) : Ang ⟨X, Y⟩ p (64 * ea) := by
  have e64 : 64 * ea ≤ 1 := by decide +kernel
  rcases h with ⟨hY, hX, hp⟩ | ⟨hY, hX, hp⟩ | ⟨hX, hY, hp⟩ | ⟨hX, hY, hp⟩ | ⟨t, q, hX, hY, hr, hs, hp, s1, s2⟩ | ⟨t, q, hX, hY, hr, hs, s1, s2⟩
  · have a := (ang_one (d := 0) (by decide +kernel)).smul hX
    rw [ab_zero] at a
    have e : Cq.smul X ⟨1, 0⟩ = ⟨X, Y⟩ := by apply Cq.ext' <;> simp only [Cq.smul] <;> grind
    rw [e] at a
    rw [hp]; exact a.mono (by decide +kernel) e64
  · have a := ang_neg.smul (show 0 < -X by grind)
    have e : Cq.smul (-X) ⟨-1, 0⟩ = ⟨X, Y⟩ := by apply Cq.ext' <;> simp only [Cq.smul] <;> grind
    have b := ang_neg.conj.smul (show 0 < -X by grind)
    have e2 : Cq.smul (-X) (Cq.conj ⟨-1, 0⟩) = ⟨X, Y⟩ := by apply Cq.ext' <;> simp only [Cq.smul, Cq.conj] <;> grind
    rw [e] at a
    rw [e2] at b
    rcases hp with hp | hp
    · rw [hp]; exact a.mono (by decide +kernel) e64
    · rw [hp]; exact b.mono (by decide +kernel) e64
  · have a := ang_i.smul hY
    have e : Cq.smul Y ⟨0, 1⟩ = ⟨X, Y⟩ := by apply Cq.ext' <;> simp only [Cq.smul] <;> grind
    rw [e] at a
    rw [hp]; exact a.mono (by decide +kernel) e64
  · have a := ang_i.conj.smul (show 0 < -Y by grind)
    have e : Cq.smul (-Y) (Cq.conj ⟨0, 1⟩) = ⟨X, Y⟩ := by apply Cq.ext' <;> simp only [Cq.smul, Cq.conj] <;> grind
    rw [e] at a
    rw [hp]; exact a.mono (by decide +kernel) e64
  · have a := sat_ang' hr hs
    have hne : X ≠ 0 := (Rat.ne_of_lt hX).symm
    have eT : Y / X * X = Y := Rat.div_mul_cancel hne
    obtain ⟨g1, g2, g3, g4⟩ := div_sign hY hne
    rw [hp]
    by_cases hpos : 0 < Y
    · rw [ab_of_nonneg (Rat.le_of_lt (g1 hpos hX)), sgn_ab.1 (s1 hpos)] at a
      have b := a.smul hX
      have e : Cq.smul X ⟨1, Y / X⟩ = ⟨X, Y⟩ := by
        apply Cq.ext' <;> simp only [Cq.smul]
        · grind
        · rw [Rat.mul_comm]; exact eT
      rw [e] at b
      exact b.mono (by decide +kernel) e64
    · have hneg : Y < 0 := by grind
      rw [ab_of_neg (Rat.le_of_lt (g3 hneg hX)), sgn_ab.2 (s2 hneg)] at a
      have b := a.conj.smul hX
      have e : Cq.smul X (Cq.conj ⟨1, -(Y / X)⟩) = ⟨X, Y⟩ := by
        apply Cq.ext' <;> simp only [Cq.smul, Cq.conj]
        · grind
        · rw [show -(-(Y / X)) = Y / X by grind, Rat.mul_comm]; exact eT
      rw [e, show -(-q) = q by grind] at b
      exact b.mono (by decide +kernel) e64
  · have a := sat_ang' hr hs
    have hne : X ≠ 0 := Rat.ne_of_lt hX
    have eT : Y / X * X = Y := Rat.div_mul_cancel hne
    obtain ⟨g1, g2, g3, g4⟩ := div_sign hY hne
    have hql := SatNear.le hr.apos hs
    rw [ab_of_nonneg (ab_nonneg q)] at hql
    have hq2 := ab_le.1 hql
    have hPI := ab_le.1 PI_le.2.2
    have hX' : 0 < -X := by grind
    by_cases hpos : 0 < Y
    · obtain ⟨q0, hd⟩ := s1 hpos
      rw [ab_of_neg (Rat.le_of_lt (g4 hpos hX)), sgn_ab.2 q0] at a
      have b := a.conj.mul ang_neg (by rw [ab_neg, ab_neg]; exact Rat.le_trans hql (by decide)) (Rat.le_trans PI_le.2.2 (by decide)) (by decide +kernel)
      have e : (Cq.conj ⟨1, -(Y / X)⟩).mul ⟨-1, 0⟩ = ⟨-1, -(Y / X)⟩ := by apply Cq.ext' <;> simp only [Cq.mul, Cq.conj] <;> grind
      rw [e] at b
      have c := b.smul hX'
      have e2 : Cq.smul (-X) ⟨-1, -(Y / X)⟩ = ⟨X, Y⟩ := by
        apply Cq.ext' <;> simp only [Cq.smul]
        · grind
        · rw [show -X * -(Y / X) = Y / X * X by grind]; exact eT
      rw [e2, show -(-q) + PI = q + PI by grind] at c
      refine c.to ?_ hd (by rw [eps_val]; decide +kernel) e64
      exact pi_sum hq2 hPI
    · have hneg : Y < 0 := by grind
      obtain ⟨q0, hd⟩ := s2 hneg
      rw [ab_of_nonneg (Rat.le_of_lt (g2 hneg hX)), sgn_ab.1 q0] at a
      have b := a.mul ang_neg.conj (Rat.le_trans hql (by decide)) (by rw [ab_neg]; exact Rat.le_trans PI_le.2.2 (by decide)) (by decide +kernel)
      have e : (⟨1, Y / X⟩ : Cq).mul (Cq.conj ⟨-1, 0⟩) = ⟨-1, -(Y / X)⟩ := by apply Cq.ext' <;> simp only [Cq.mul, Cq.conj] <;> grind
      rw [e] at b
      have c := b.smul hX'
      have e2 : Cq.smul (-X) ⟨-1, -(Y / X)⟩ = ⟨X, Y⟩ := by
        apply Cq.ext' <;> simp only [Cq.smul]
        · grind
        · rw [show -X * -(Y / X) = Y / X * X by grind]; exact eT
      rw [e2, show q + -PI = q - PI by grind] at c
      refine c.to ?_ hd (by rw [eps_val]; decide +kernel) e64
      exact pi_diff hq2 hPI
end Cx
