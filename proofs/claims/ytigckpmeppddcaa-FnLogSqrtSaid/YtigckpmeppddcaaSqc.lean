/- The complex root's range, its norm and its phase: half of the phase. Plain: no program in sight. -/
import Derived.Test.YtigckpmeppddcaaSqb
set_option linter.unusedVariables false
namespace Cx
open Ieee

theorem nrm_eq (x y : Nat) : (⟨val x, val y⟩ : Cq).norm = nrm x y := rfl

theorem SqIs.norm {x y : Nat} {Q : Rat} (h : SqIn x y Q) (s : SqIs x y) : Rl (120 * eps) (nrm (cre x y) (cim x y) * nrm (cre x y) (cim x y)) (nrm x y) := by
  have hp : 0 < (⟨val x, val y⟩ : Cq).norm := by rw [nrm_eq]; have := h.lo; grind
  have := s.sq.norm (by rw [eps_val]; decide +kernel) hp
  rw [norm_mul, nrm_eq, nrm_eq] at this
  exact this.mono (by grind) (by rw [eps_val]; decide +kernel)

theorem nrm_nonneg (x y : Nat) : 0 ≤ nrm x y := by
  unfold nrm; have := sq_nonneg (val x); have := sq_nonneg (val y); grind

theorem comp_aux {n N y p q Q : Rat} (hn : 0 < n) (h1 : n * n ≤ 2 * N) (h2 : N ≤ Q * (y * y)) (h3 : y * y ≤ 16 * (p * p * (q * q))) (hq : q * q ≤ n) (hQ : 0 ≤ Q) : n ≤ 32 * Q * (p * p) := by
  have pp := sq_nonneg p
  have t1 := Rat.mul_le_mul_of_nonneg_left h3 hQ
  have t2 := Rat.mul_le_mul_of_nonneg_left hq (Rat.mul_nonneg hQ pp)
  refine Rat.le_of_mul_le_mul_right (c := n) ?_ hn
  grind

/-- The root stays in range. -/
theorem SqIs.range {x y : Nat} {Q : Rat} (h : SqIn x y Q) (s : SqIs x y) (hQ : 32 * Q ≤ p2 240) : SqIn (cre x y) (cim x y) (32 * Q) := by
  have hn := s.norm h
  have hh := hn.half (by rw [eps_val]; decide +kernel)
  have n0 := nrm_nonneg (cre x y) (cim x y)
  have hlo := h.lo
  have hhi := h.hi
  have hq0 := h.q0
  have hl : 1 / 2 ≤ nrm (cre x y) (cim x y) := le_of_sq_le n0 (by grind)
  have hu : nrm (cre x y) (cim x y) ≤ 1152921504606846976 := le_of_sq_le (by decide) (by grind)
  have np : 0 < nrm (cre x y) (cim x y) := by grind
  have s1 := sq_nonneg (val (cre x y))
  have s2 := sq_nonneg (val (cim x y))
  refine ⟨s.fp, s.fq, hl, hu, by grind, hQ, ?_, ?_⟩
  · by_cases hy : val y = 0
    · by_cases hx : 0 < val x
      · right
        have := (s.z1 hy hx).1
        unfold nrm
        rw [this, hy]
        have t := Rat.mul_le_mul_of_nonneg_right (show 1 ≤ 32 * Q by grind) s1
        grind
      · left
        have hx2 : val x < 0 := by
          have := h.nz
          rcases Rat.le_total (a := val x) (b := 0) with h1 | h1
          · have : val x ≠ 0 := fun h0 => this ⟨h0, hy⟩
            grind
          · have : val x ≠ 0 := fun h0 => this ⟨h0, hy⟩
            grind
        rw [(s.z2 hy hx2).1, val_z]
    · right
      exact comp_aux np hh.2 (h.cy.resolve_left hy) (s.pq hy) (by unfold nrm; grind) (by grind)
  · by_cases hy : val y = 0
    · by_cases hx : 0 < val x
      · left
        rw [(s.z1 hy hx).1, hy]
      · right
        have hx2 : val x < 0 := by
          have := h.nz
          rcases Rat.le_total (a := val x) (b := 0) with h1 | h1
          · have : val x ≠ 0 := fun h0 => this ⟨h0, hy⟩
            grind
          · have : val x ≠ 0 := fun h0 => this ⟨h0, hy⟩
            grind
        have := (s.z2 hy hx2).1
        unfold nrm
        rw [this, val_z]
        have t := Rat.mul_le_mul_of_nonneg_right (show 1 ≤ 32 * Q by grind) s2
        grind
    · right
      exact comp_aux (q := val (cre x y)) np hh.2 (h.cy.resolve_left hy) (by have := s.pq hy; grind) (by unfold nrm; grind) (by grind)

theorem ratio_aux {x y n Q : Rat} (hx : x ≠ 0) (h1 : y * y ≤ n) (h2 : n ≤ Q * (x * x)) (hQ : Q ≤ p2 240) : ab y ≤ p2 120 * ab x := by
  refine le_of_sq_le (Rat.mul_nonneg (Rat.le_of_lt (p2_pos _)) (ab_nonneg _)) ?_
  rw [ab_sq, show p2 120 * ab x * (p2 120 * ab x) = p2 120 * p2 120 * (ab x * ab x) by grind, ab_sq, p2_sq]
  have := Rat.mul_le_mul_of_nonneg_right hQ (sq_nonneg x)
  exact Rat.le_trans h1 (Rat.le_trans h2 this)

/-- The phase of a number in range. -/
theorem SqIn.ph {x y : Nat} {Q : Rat} (h : SqIn x y Q) : PhOk x y := by
  refine ⟨h.fx, h.fy, by rw [val_z]; exact h.nz, ?_⟩
  intro hx hy
  rw [val_z] at hx hy
  have c1 := h.cx.resolve_left hx
  have c2 := h.cy.resolve_left hy
  have sx := sq_nonneg (val x)
  have sy := sq_nonneg (val y)
  have r1 := ratio_aux hx (show val y * val y ≤ nrm x y by unfold nrm; grind) c1 h.q1
  have r2 := ratio_aux hy (show val x * val x ≤ nrm x y by unfold nrm; grind) c2 h.q1
  have px : 0 < ab (val x) := by
    have := ab_nonneg (val x)
    have : ab (val x) ≠ 0 := fun h0 => hx (ab_eq_zero.1 h0)
    grind
  have e : ab (val y / val x) * ab (val x) = ab (val y) := by rw [← ab_mul, Rat.div_mul_cancel hx]
  have k1 : p2 (-300) ≤ p2 (-120) := p2_mono (by decide)
  have k2 : p2 120 ≤ p2 300 := p2_mono (by decide)
  constructor
  · refine Rat.le_trans k1 (Rat.le_of_mul_le_mul_right (c := ab (val x)) ?_ px)
    rw [e]
    have t := Rat.mul_le_mul_of_nonneg_left r2 (Rat.le_of_lt (p2_pos (-120)))
    have t2 : p2 (-120) * p2 120 = 1 := by rw [← p2_add]; exact p2_zero
    rw [← Rat.mul_assoc, t2, Rat.one_mul] at t
    exact t
  · refine Rat.le_trans (Rat.le_of_mul_le_mul_right (c := ab (val x)) ?_ px) k2
    rw [e]; exact r1

/-- The hypotenuse of a number in range. -/
theorem SqIn.hyp {x y : Nat} {Q : Rat} (h : SqIn x y Q) : p2 (-500) ≤ val (hbig x y) ∧ val (hbig x y) ≤ p2 500 ∧ fhypt x y = fhyp x y ∧ fin (fhypt x y) ∧ 0 < val (fhypt x y) ∧ Rl (10 * eps) (val (fhypt x y) * val (fhypt x y)) (nrm x y) := by
  obtain ⟨f1, f2, s0, sb, hsum, ap, aq, hor, _⟩ := hparts h.fx h.fy
  have hlo := h.lo
  have hhi := h.hi
  unfold nrm at hlo hhi
  have ss := mul_le_mul_nn sb sb s0 (Rat.le_trans s0 sb)
  have s00 := Rat.mul_nonneg s0 s0
  have b0 := Rat.le_trans s0 sb
  have l : 1 / 2 ≤ val (hbig x y) := le_of_sq_le b0 (by grind)
  have u : val (hbig x y) ≤ 1073741824 := le_of_sq_le (by decide) (by grind)
  have l' : p2 (-500) ≤ val (hbig x y) := Rat.le_trans (p2_mono (show (-500 : Int) ≤ -1 by decide)) (by rw [← half_p2]; exact l)
  have u' : val (hbig x y) ≤ p2 500 := Rat.le_trans u (Rat.le_trans (show (1073741824 : Rat) ≤ p2 30 by decide +kernel) (p2_mono (by decide)))
  obtain ⟨_, _, _, _, _, _, z1, z0, zr⟩ := hyp_spec h.fx h.fy l' u'
  have hz : ¬ (fabs x = 0 ∧ fabs y = 0) := by
    rintro ⟨h1, h2⟩
    have t1 := (fabs_spec h.fx).2.1
    have t2 := (fabs_spec h.fy).2.1
    rw [h1, val_z] at t1
    rw [h2, val_z] at t2
    exact h.nz ⟨ab_eq_zero.1 t1.symm, ab_eq_zero.1 t2.symm⟩
  have e : fhypt x y = fhyp x y := by unfold fhypt; rw [if_neg hz]
  rw [← e] at z1 z0 zr
  exact ⟨l', u', e, z1, z0, zr⟩

/-- The phase of a number to the right. -/
theorem ph_right {x y : Nat} (h : PhOk x y) (hx : 0 ≤ val x) (hn : val y = 0 → 0 < val x) : ab (val (phw x y)) ≤ 15708 / 10000 := by
  unfold phw
  by_cases hy : val y = val 0
  · have hp := hn (by rw [hy, val_z])
    rw [if_pos hy, if_pos ⟨by rw [val_z]; exact hx, neg_of_pos h.fx hp⟩, (fcopy_spec fin_z h.fy.1).2.2, val_z, ab_zero, Rat.mul_zero, ab_zero]
    decide +kernel
  · rw [if_neg hy]
    by_cases hx0 : val x = val 0
    · rw [if_pos hx0, (fcopy_spec fin_pio2 h.fy.1).2.2, ab_sgn, val_pio2]
      decide +kernel
    · rw [if_neg hx0, if_neg (by rw [val_z]; grind)]
      obtain ⟨_, _, A, _⟩ := ph_quot h hx0 hy
      exact A.le

/-- Twice the root's phase is an angle of the number. -/
theorem root_ang {x y : Nat} {Q a u : Rat} (h : SqIn x y Q) (s : SqIs x y) (hQ : 32 * Q ≤ p2 240) (ha : Ang ⟨val x, val y⟩ a u) (hu : u ≤ 1 / 2) (hb : ab a ≤ 64) :
    Ang ⟨1, 0⟩ (2 * val (phw (cre x y) (cim x y)) - a) (u + 132 * ea) := by
  have r := s.range h hQ
  have P := ph_is r.ph
  have A := ph_ang P.near
  have b1 : ab (val (phw (cre x y) (cim x y))) ≤ 64 := Rat.le_trans P.le (by decide +kernel)
  have A2 := A.mul A b1 b1 (by decide +kernel)
  have B := ha.cn s.sq (by rw [eps_val]; decide +kernel) (by rw [eps_val]; grind)
  have t := ab_le.1 P.le
  have k0 : 64 * ea + 64 * ea + mu + mu + 2 * (40 * eps) ≤ 1 / 2 := by decide +kernel
  have D := A2.diff B (by rw [ab_le]; constructor <;> grind) hb (by grind)
  have e : val (phw (cre x y) (cim x y)) + val (phw (cre x y) (cim x y)) - a = 2 * val (phw (cre x y) (cim x y)) - a := by grind
  rw [e] at D
  have k : 64 * ea + 64 * ea + mu + mu + 2 * (40 * eps) ≤ 132 * ea := by decide +kernel
  have k2 : 132 * ea ≤ 1 / 2 := by decide +kernel
  exact D.mono (by grind) (by grind)

/-- The root's phase is half of the phase. -/
theorem half_phase {x y : Nat} {Q : Rat} (h : SqIn x y Q) (s : SqIs x y) (hQ : 32 * Q ≤ p2 240) : ab (2 * val (phw (cre x y) (cim x y)) - val (phw x y)) ≤ 400 * ea := by
  have P := ph_is h.ph
  have r := s.range h hQ
  have P' := ph_is r.ph
  have A := ph_ang P.near
  have D := root_ang h s hQ A (by decide +kernel) (Rat.le_trans P.le (by decide +kernel))
  have rt : ab (val (phw (cre x y) (cim x y))) ≤ 15708 / 10000 := by
    refine ph_right r.ph s.re fun hc => ?_
    by_cases hy : val y = 0
    · by_cases hx : 0 < val x
      · exact (s.z1 hy hx).2
      · have hx2 : val x < 0 := by
          have n1 : val x ≠ 0 := fun h0 => h.nz ⟨h0, hy⟩
          rcases Rat.le_total (a := val x) (b := 0) with h1 | h1 <;> grind
        exact absurd hc (s.z2 hy hx2).2.2
    · exact s.rp hy
  have near : ab (2 * val (phw (cre x y) (cim x y)) - val (phw x y)) ≤ 32 / 10 := by
    have t1 := ab_le.1 rt
    have t2 := ab_le.1 P.le
    by_cases hy : val y = 0
    · by_cases hx : 0 < val x
      · have e1 := P.zero.2 ⟨hy, hx⟩
        rw [e1, ab_le]; constructor <;> grind
      · have hx2 : val x < 0 := by
          have n1 : val x ≠ 0 := fun h0 => h.nz ⟨h0, hy⟩
          rcases Rat.le_total (a := val x) (b := 0) with h1 | h1 <;> grind
        obtain ⟨z1, z2, z3⟩ := s.z2 hy hx2
        have e1 : phw x y = fcopy wpi y := by unfold phw; rw [if_pos (by rw [val_z]; exact hy), if_neg (by rw [val_z]; grind)]
        have e2 : phw (cre x y) (cim x y) = fcopy wpio2 (cim x y) := by unfold phw; rw [if_neg (by rw [val_z]; exact z3), if_pos (by rw [z1])]
        rw [e1, e2, (fcopy_spec fin_pi h.fy.1).2.2, (fcopy_spec fin_pio2 s.fq.1).2.2, z2, val_pi, val_pio2]
        cases neg y <;> decide +kernel
    · by_cases hyp : 0 < val y
      · have u1 := P.up hyp
        have u2 := P'.up (s.up hyp)
        rw [ab_le]; constructor <;> grind
      · have hyn : val y < 0 := by grind
        have u1 := P.down hyn
        have u2 := P'.down (s.dn hyn)
        rw [ab_le]; constructor <;> grind
  have := one_angle D near (by decide +kernel)
  exact Rat.le_trans this (by decide +kernel)

/-- Whole parts. -/
theorem sqin_int {x y : Nat} {a b : Int} (fx : fin x) (fy : fin y) (vx : val x = a) (vy : val y = b) (h : ¬ (a = 0 ∧ b = 0)) (ba : a.natAbs ≤ 536870912) (bb : b.natAbs ≤ 536870912) : SqIn x y 1152921504606846976 := by
  have s1 : a * a ≤ 288230376151711744 := by
    have h5 : a.natAbs * a.natAbs ≤ 536870912 * 536870912 := Nat.mul_le_mul ba ba
    have h6 := Int.natAbs_mul_self (a := a)
    omega
  have s2 : b * b ≤ 288230376151711744 := by
    have h5 : b.natAbs * b.natAbs ≤ 536870912 * 536870912 := Nat.mul_le_mul bb bb
    have h6 := Int.natAbs_mul_self (a := b)
    omega
  have e : nrm x y = ((a * a + b * b : Int) : Rat) := by unfold nrm; rw [vx, vy, Rat.intCast_add, Rat.intCast_mul, Rat.intCast_mul]
  have hone : (1 : Rat) ≤ ((a * a + b * b : Int) : Rat) := by
    have := Rat.intCast_le_intCast.2 (one_le_sq h)
    exact this
  have hup : ((a * a + b * b : Int) : Rat) ≤ 1152921504606846976 := by
    have := Rat.intCast_le_intCast.2 (show a * a + b * b ≤ 1152921504606846976 by omega)
    exact this
  have key : ∀ c : Int, c ≠ 0 → (1 : Rat) ≤ (c : Rat) * (c : Rat) := by
    intro c hc
    have := one_le_sq (a := c) (b := 0) (fun h => hc h.1)
    have := Rat.intCast_le_intCast.2 (show 1 ≤ c * c by omega)
    rw [Rat.intCast_mul] at this
    exact this
  refine ⟨fx, fy, by rw [e]; grind, by rw [e]; exact hup, by decide, by decide +kernel, ?_, ?_⟩
  · by_cases h0 : a = 0
    · left; rw [vx, h0]; rfl
    · right; rw [e, vx]; have := key a h0; grind
  · by_cases h0 : b = 0
    · left; rw [vy, h0]; rfl
    · right; rw [e, vy]; have := key b h0; grind
end Cx
