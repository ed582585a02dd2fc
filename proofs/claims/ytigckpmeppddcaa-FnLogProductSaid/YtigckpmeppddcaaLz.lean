/- The logarithm of a number with whole parts: its word's facts; its sign. -/
import Derived.Test.YtigckpmeppddcaaWl
import Derived.Test.YtigckpmeppddcaaPhaseSum
set_option linter.unusedVariables false
namespace Go.Proofs.Ytigckpmeppddcaa
open Go.RowKit Cx

/-- A number with whole parts of at most 2^42. -/
structure LnOk (x y : Nat) (a b : Int) : Prop where
  D : DirOk x y a b
  H : HyptIs x y a b
  hyp : HypOk x y
  lo : LogOk (fhypt x y)
  rl : Rl (10 * eps) (val (fhypt x y) * val (fhypt x y)) ((a * a + b * b : Int) : Rat)

theorem sq42 {a : Int} (h : a.natAbs ≤ 4398046511104) : a * a ≤ 19342813113834066795298816 := by
  have h5 : a.natAbs * a.natAbs ≤ 4398046511104 * 4398046511104 := Nat.mul_le_mul h h
  have h6 := Int.natAbs_mul_self (a := a)
  omega

theorem ln_ok {x y : Nat} {a b : Int} (fx : fin x) (fy : fin y) (vx : val x = a) (vy : val y = b) (h : ¬ (a = 0 ∧ b = 0)) (ba : a.natAbs ≤ 4398046511104) (bb : b.natAbs ≤ 4398046511104) : LnOk x y a b := by
  have D := dir_ok fx fy vx vy h (by omega) (by omega)
  have H := hypt_int fx fy vx vy (by omega) (by omega)
  have hone : (0 : Rat) < ((a * a + b * b : Int) : Rat) := Rat.intCast_pos.2 (by have := one_le_sq h; omega)
  have rl := H.near.rl hone
  have hh := rl.half (by rw [eps_val]; decide +kernel)
  have hN : ((a * a + b * b : Int) : Rat) ≤ 38685626227668133590597632 := by
    have t1 := sq42 ba
    have t2 := sq42 bb
    have := Rat.intCast_le_intCast.2 (show a * a + b * b ≤ 38685626227668133590597632 by omega)
    exact this
  have hu : val (fhypt x y) ≤ 17592186044416 := le_of_sq_le (by decide) (Rat.le_trans hh.2 (by grind))
  exact ⟨D, H, ⟨fx, fy, H.ok⟩, ⟨H.fh, Rat.le_trans (Rat.le_trans (p2_mono (show (-60 : Int) ≤ -1 by decide)) (by rw [← half_p2]; exact Rat.le_refl)) (H.ge h),
    Rat.le_trans hu (Rat.le_trans (show (17592186044416 : Rat) ≤ Cx.p2 44 by decide +kernel) (p2_mono (by decide)))⟩, rl⟩

/-- The absolute value of a unit is 1. -/
theorem hyp_unit {x y : Nat} {a b : Int} (fx : fin x) (fy : fin y) (vx : val x = a) (vy : val y = b) (h : a * a + b * b = 1) : fhypt x y = one := by
  obtain ⟨a1, a2, _⟩ := fabs_spec fx
  obtain ⟨b1, b2, _⟩ := fabs_spec fy
  have sa := sq_int_nonneg a
  have sb := sq_int_nonneg b
  have key : ∀ {c : Int} {z : Nat}, fin z → val z = c → (c * c = 0 → fabs z = 0) ∧ (c * c = 1 → fabs z = one) := by
    intro c z fz vz
    obtain ⟨z1, z2, _⟩ := fabs_spec fz
    constructor
    · intro hc
      have : c = 0 := by rcases Int.mul_eq_zero.1 hc with h | h <;> exact h
      exact zero_word fz (by rw [vz, this]; rfl)
    · intro hc
      refine word_one z1 ?_
      rw [z2, vz, ← natAbs_rat]
      have h6 := Int.natAbs_mul_self (a := c)
      have : c.natAbs * c.natAbs = 1 := by omega
      have : c.natAbs = 1 := Nat.eq_one_of_mul_eq_one_right this
      rw [this]; rfl
  rcases (show a * a = 0 ∧ b * b = 1 ∨ a * a = 1 ∧ b * b = 0 by omega) with ⟨h1, h2⟩ | ⟨h1, h2⟩
  · have e1 := (key fx vx).1 h1
    have e2 := (key fy vy).2 h2
    unfold fhypt fhyp ht hr hbig hsmall
    rw [e1, e2]
    decide +kernel
  · have e1 := (key fx vx).2 h1
    have e2 := (key fy vy).1 h2
    unfold fhypt fhyp ht hr hbig hsmall
    rw [e1, e2]
    decide +kernel

/-- The sign of the logarithm against the sum of the squares. -/
structure SgOk (x y : Nat) : Prop where
  m1 : fin (fmul x x)
  m2 : fin (fmul y y)
  fs : fin (fadd (fmul x x) (fmul y y))
  sg : (decide (val 0 < val (lgw (fhypt x y))) = true ∧ decide (val one < val (fadd (fmul x x) (fmul y y))) = true) ∨ (decide (val 0 < val (lgw (fhypt x y))) = false ∧ decide (val one < val (fadd (fmul x x) (fmul y y))) = false)

theorem above_num {v : Rat} {N : Rat} (hv : 0 < v) (h : Rl (10 * eps) (v * v) N) (hN : 2 ≤ N) : 7 / 5 ≤ v := by
  have lo := h.lo
  rw [eps_val] at lo
  exact le_of_sq_le (Rat.le_of_lt hv) (by grind)

theorem sg_ok {x y : Nat} {a b : Int} (L : LnOk x y a b) (h : ¬ (a = 0 ∧ b = 0)) (ba : a.natAbs ≤ 1048576) (bb : b.natAbs ≤ 1048576) : SgOk x y := by
  have fx := L.hyp.fp
  have fy := L.hyp.fq
  have vx := L.D.vx
  have vy := L.D.vy
  have c1 := mul_natAbs_le ba ba
  have c2 := mul_natAbs_le bb bb
  obtain ⟨m1, w1⟩ := fmul_int fx fx vx vx (by omega)
  obtain ⟨m2, w2⟩ := fmul_int fy fy vy vy (by omega)
  obtain ⟨s1, z1⟩ := fadd_int m1 m2 w1 w2 (by omega)
  refine ⟨m1, m2, s1, ?_⟩
  rw [z1, val_one, val_zero]
  have I := L.lo.is
  have hN := one_le_sq h
  by_cases hn : a * a + b * b = 1
  · right
    rw [hyp_unit fx fy vx vy hn, log_one, hn]
    exact ⟨by decide, by decide⟩
  · left
    have h2 : (2 : Rat) ≤ ((a * a + b * b : Int) : Rat) := by
      have := Rat.intCast_le_intCast.2 (show 2 ≤ a * a + b * b by omega)
      exact this
    have hv : 0 < val (fhypt x y) := by have := L.H.ge h; grind
    have := I.lg.above (Rat.le_trans I.le (by decide +kernel)) (above_num hv L.rl h2) (by decide +kernel)
    exact ⟨decide_eq_true this, decide_eq_true (by grind)⟩

theorem whl_ln {x y : Nat} {M : Int} (hM : M ≤ 1048576) (hx : Whl x M) (hy : Whl y M) (h : ¬ (val x = val 0 ∧ val y = val 0)) : LnOk x y (iv x) (iv y) ∧ SgOk x y := by
  obtain ⟨fx, vx, bx⟩ := hx.iv
  obtain ⟨fy, vy, by'⟩ := hy.iv
  have nz : ¬ (iv x = 0 ∧ iv y = 0) := by
    rintro ⟨h1, h2⟩
    apply h
    rw [vx, vy, h1, h2, val_zero]
    exact ⟨rfl, rfl⟩
  have L := ln_ok fx fy vx vy nz (by omega) (by omega)
  exact ⟨L, sg_ok L nz (by omega) (by omega)⟩

/-- Half of a word. -/
theorem fdiv2 {a : Nat} {B : Rat} (fa : fin a) (hB : ab (val a) ≤ B) (h1 : 1 ≤ B) (h2 : B ≤ 1152921504606846976) :
    Ieee.double.div a 4611686018427387904 = some (fdiv a 4611686018427387904) ∧ fin (fdiv a 4611686018427387904) ∧ ab (val (fdiv a 4611686018427387904) - val a / 2) ≤ B * (1 / 4503599627370496) := by
  have f2 : fin 4611686018427387904 := fin_of _ (by decide)
  have v2 : val 4611686018427387904 = 2 := by decide +kernel
  have hh : ab (val a / 2) ≤ B := by
    rw [ab_le] at hB ⊢; constructor <;> grind
  have := div_rd fa f2 (by rw [v2]; decide) (by rw [v2]; exact mid_lt (Rat.le_trans hh h2))
  rw [v2] at this
  refine ⟨this.1, this.2.1, ?_⟩
  have h3 := this.2.2.2.abs hh (low_le (by grind))
  rw [eps_val] at h3
  exact h3
end Go.Proofs.Ytigckpmeppddcaa
