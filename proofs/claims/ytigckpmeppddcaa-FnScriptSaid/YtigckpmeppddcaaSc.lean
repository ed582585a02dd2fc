/- FnScript: the law over the words: what each step keeps. -/
import Derived.Test.YtigckpmeppddcaaSt
set_option linter.unusedVariables false
namespace Go.Proofs.Ytigckpmeppddcaa
open Go.RowKit Cx

def QS (k : Nat) : Rat := 4194304 * ((32 ^ k : Nat) : Rat)
theorem QS_succ (k : Nat) : QS (k + 1) = 32 * QS k := by
  unfold QS; rw [Nat.pow_succ, Rat.natCast_mul]
  have : ((32 : Nat) : Rat) = 32 := rfl
  rw [this]; grind
theorem QS_le (k : Nat) (h : k ≤ 41) : 32 * QS k ≤ Cx.p2 240 := by
  unfold QS
  have h1 : 32 ^ k ≤ 32 ^ 41 := Nat.pow_le_pow_right (by decide) h
  have h2 := Rat.natCast_le_natCast.2 h1
  have h3 : 32 * (4194304 * ((32 ^ 41 : Nat) : Rat)) ≤ Cx.p2 240 := by decide +kernel
  grind
theorem QS_pos (k : Nat) : 1 ≤ QS k := by
  unfold QS
  have h3 : 1 ≤ 32 ^ k := Nat.pow_pos (by decide)
  have h4 := Rat.natCast_le_natCast.2 h3
  have h6 : ((1 : Nat) : Rat) = 1 := rfl
  grind

theorem sqin_mono {x y : Nat} {Q R : Rat} (h : SqIn x y Q) (hQ : Q ≤ R) (hR : R ≤ Cx.p2 240) : SqIn x y R := by
  have q0 := h.q0
  have t1 := Rat.mul_le_mul_of_nonneg_right hQ (sq_nonneg (val x))
  have t2 := Rat.mul_le_mul_of_nonneg_right hQ (sq_nonneg (val y))
  refine ⟨h.fx, h.fy, h.lo, h.hi, by grind, hR, ?_, ?_⟩
  · rcases h.cx with h1 | h1
    · exact Or.inl h1
    · exact Or.inr (Rat.le_trans h1 t1)
  · rcases h.cy with h1 | h1
    · exact Or.inl h1
    · exact Or.inr (Rat.le_trans h1 t2)

theorem neg_sq (a : Rat) : -a * -a = a * a := by grind
theorem nrm_neg_im {x y : Nat} (fy : fin y) : nrm x (fneg y) = nrm x y := by unfold nrm; rw [(fneg_spec fy).2.1, neg_sq]
theorem nrm_neg_re {x y : Nat} (fx : fin x) : nrm (fneg x) y = nrm x y := by unfold nrm; rw [(fneg_spec fx).2.1, neg_sq]
theorem nrm_swap (x y : Nat) : nrm y x = nrm x y := by unfold nrm; grind
theorem sqin_conj {x y : Nat} {Q : Rat} (h : SqIn x y Q) : SqIn x (fneg y) Q := by
  obtain ⟨n1, n2, _⟩ := fneg_spec h.fy
  refine ⟨h.fx, n1, by rw [nrm_neg_im h.fy]; exact h.lo, by rw [nrm_neg_im h.fy]; exact h.hi, h.q0, h.q1, by rw [nrm_neg_im h.fy]; exact h.cx, ?_⟩
  rw [nrm_neg_im h.fy, n2, neg_sq]
  rcases h.cy with h1 | h1
  · left; rw [h1]; decide +kernel
  · exact Or.inr h1
theorem sqin_swap {x y : Nat} {Q : Rat} (h : SqIn x y Q) : SqIn y x Q :=
  ⟨h.fy, h.fx, by rw [nrm_swap]; exact h.lo, by rw [nrm_swap]; exact h.hi, h.q0, h.q1, by rw [nrm_swap]; exact h.cy, by rw [nrm_swap]; exact h.cx⟩

def UJ (k : Nat) : Rat := 10 * eps + 240 * eps * (k : Rat)
def VJ (k : Nat) : Rat := 64 * ea + 300 * ea * (k : Rat)
theorem UJ_succ (k : Nat) : UJ (k + 1) = UJ k + 240 * eps := by unfold UJ; rw [cast_succ]; grind
theorem VJ_succ (k : Nat) : VJ (k + 1) = VJ k + 300 * ea := by unfold VJ; rw [cast_succ]; grind
theorem UJ_le (k : Nat) (h : k ≤ 41) : UJ k ≤ 9850 / 4503599627370496 ∧ 0 ≤ UJ k := by
  unfold UJ
  have h2 : ((k : Nat) : Rat) ≤ ((41 : Nat) : Rat) := Rat.natCast_le_natCast.2 h
  have h3 : ((41 : Nat) : Rat) = 41 := rfl
  have h4 := cast_nn k
  rw [eps_val]; constructor <;> grind
theorem VJ_le (k : Nat) (h : k ≤ 41) : VJ k ≤ 12364 / 140737488355328 ∧ 0 ≤ VJ k := by
  unfold VJ
  have h2 : ((k : Nat) : Rat) ≤ ((41 : Nat) : Rat) := Rat.natCast_le_natCast.2 h
  have h3 : ((41 : Nat) : Rat) = 41 := rfl
  have h4 := cast_nn k
  rw [ea_val]; constructor <;> grind

structure ScI (j x y s a : Nat) : Prop where
  i : SqIn x y (QS j)
  lo : 9 / 10 ≤ nrm x y
  hi : nrm x y ≤ 4194304
  fs : fin s
  sp : 0 < val s
  sr : Rl (UJ j) (val s * val s) (nrm x y)
  fa : fin a
  al : ab (val a) ≤ 32 / 10
  an : Ang ⟨val x, val y⟩ (val a) (VJ j)

theorem Rl.UJ {j : Nat} {a b : Rat} (h : Rl (UJ j) a b) (hj : j ≤ 40) : Rl (UJ (j + 1)) a b := by
  have h1 := UJ_le (j + 1) (by omega)
  have h2 := UJ_succ j
  have := eps_pos
  exact h.mono (by grind) (by grind)
theorem Ang.VJ {j : Nat} {z : Cq} {a u : Rat} (h : Ang z a u) (hu : u ≤ VJ j + 300 * ea) (hj : j ≤ 40) : Ang z a (VJ (j + 1)) := by
  have h1 := VJ_le (j + 1) (by omega)
  have h2 := VJ_succ j
  exact h.mono (by grind) (by grind)

theorem sc_conj {j x y s a : Nat} (h : ScI j x y s a) (hj : j ≤ 40) : ScI (j + 1) x (fneg y) s (fneg a) := by
  have fy := h.i.fy
  obtain ⟨n1, n2, _⟩ := fneg_spec fy
  obtain ⟨m1, m2, _⟩ := fneg_spec h.fa
  have hp := QS_pos j
  have hs := QS_succ j
  have A := h.an.conj
  refine ⟨sqin_mono (sqin_conj h.i) (by grind) (by have := QS_le j (by omega); grind), by rw [nrm_neg_im fy]; exact h.lo, by rw [nrm_neg_im fy]; exact h.hi, h.fs, h.sp, by rw [nrm_neg_im fy]; exact Rl.UJ h.sr hj, m1, by rw [m2, ab_neg]; exact h.al, ?_⟩
  have e : (⟨val x, val y⟩ : Cq).conj = ⟨val x, val (fneg y)⟩ := by rw [n2]; rfl
  rw [e, ← m2] at A
  exact Ang.VJ A (by rw [ea_val]; grind) hj

/-- An angle more, turned. -/
theorem turn_more {a c : Nat} {C u : Rat} {z : Cq} (fa : fin a) (fc : fin c) (al : ab (val a) ≤ 32 / 10) (vc : val c = C) (cl : ab C ≤ 32 / 10) (h : Ang z (val a + C) u) (hu : u ≤ 1 / 1000) :
    fin (fadd a c) ∧ ab (val (fadd a c)) ≤ 44 ∧ fin (tn (fadd a c) 100) ∧ ab (val (tn (fadd a c) 100)) ≤ 32 / 10 ∧ Ang z (val (tn (fadd a c) 100)) (u + 100 * ea) := by
  have t1 := ab_le.1 al
  have t2 := ab_le.1 cl
  obtain ⟨f, r⟩ := fadd_near (B := 7) fa fc (by rw [vc, ab_le]; constructor <;> grind) (by decide +kernel) (by decide +kernel)
  rw [vc] at r
  have r' := ab_le.1 r
  have l : ab (val (fadd a c)) ≤ 65 / 10 := by rw [ab_le]; constructor <;> grind
  have l44 : ab (val (fadd a c)) ≤ 44 := Rat.le_trans l (by decide +kernel)
  have T := turned_is f l44
  have he := ea_val
  have hm := mu_le
  have k1 : 7 * (1 / 4503599627370496) + mu ≤ 2 * ea := by decide +kernel
  have k2 : 200 * ea ≤ 1 / 2 := by decide +kernel
  have k3 : 32 * ea * ((1 : Nat) : Rat) = 32 * ea := by rw [show ((1 : Nat) : Rat) = 1 from rfl, Rat.mul_one]
  have ep := show (0 : Rat) ≤ ea by decide +kernel
  have A1 := h.to (b := val (fadd a c)) (d := 7 * (1 / 4503599627370496)) (v := u + 2 * ea) (by rw [ab_le]; constructor <;> grind) r (by grind) (by grind)
  have A2 := T.ang A1 l (by decide +kernel) (K := 1) (by decide +kernel) (by decide) (by rw [k3]; grind)
  rw [k3] at A2
  refine ⟨f, l44, T.f, Rat.le_trans T.le (by decide +kernel), A2.mono (by grind) (by grind)⟩

theorem sc_quarter {j x y s a : Nat} (h : ScI j x y s a) (hj : j ≤ 40) : fin (fadd a wpio2) ∧ ab (val (fadd a wpio2)) ≤ 44 ∧ ScI (j + 1) (fneg y) x s (tn (fadd a wpio2) 100) := by
  have fy := h.i.fy
  obtain ⟨n1, n2, _⟩ := fneg_spec fy
  have hp := QS_pos j
  have hs := QS_succ j
  have v := VJ_le j (by omega)
  have k : ea + mu ≤ 2 * ea := by decide +kernel
  have A := h.an.mul ang_i (Rat.le_trans h.al (by decide +kernel)) (by decide +kernel) (by rw [ea_val] at *; grind)
  have e : (⟨val x, val y⟩ : Cq).mul ⟨0, 1⟩ = ⟨val (fneg y), val x⟩ := by
    rw [n2]; apply Cq.ext' <;> simp only [Cq.mul] <;> grind
  rw [e] at A
  obtain ⟨t1, t2, t3, t4, t5⟩ := turn_more h.fa fin_pio2 h.al val_pio2 (by decide +kernel) A (by rw [ea_val] at *; grind)
  have en : nrm (fneg y) x = nrm x y := by rw [nrm_neg_re fy, nrm_swap]
  refine ⟨t1, t2, sqin_mono (sqin_swap (sqin_conj h.i)) (by grind) (by have := QS_le j (by omega); grind), by rw [en]; exact h.lo, by rw [en]; exact h.hi, h.fs, h.sp, by rw [en]; exact Rl.UJ h.sr hj, t3, t4, ?_⟩
  exact Ang.VJ t5 (by rw [ea_val] at *; grind) hj

theorem sc_half {j x y s a : Nat} (h : ScI j x y s a) (hj : j ≤ 40) : fin (fadd a wpi) ∧ ab (val (fadd a wpi)) ≤ 44 ∧ ScI (j + 1) (fneg x) (fneg y) s (tn (fadd a wpi) 100) := by
  have fx := h.i.fx
  have fy := h.i.fy
  obtain ⟨n1, n2, _⟩ := fneg_spec fy
  obtain ⟨m1, m2, _⟩ := fneg_spec fx
  have hp := QS_pos j
  have hs := QS_succ j
  have v := VJ_le j (by omega)
  have k : ea + mu ≤ 2 * ea := by decide +kernel
  have A := h.an.mul ang_neg (Rat.le_trans h.al (by decide +kernel)) (by decide +kernel) (by rw [ea_val] at *; grind)
  have e : (⟨val x, val y⟩ : Cq).mul ⟨-1, 0⟩ = ⟨val (fneg x), val (fneg y)⟩ := by
    rw [n2, m2]; apply Cq.ext' <;> simp only [Cq.mul] <;> grind
  rw [e] at A
  obtain ⟨t1, t2, t3, t4, t5⟩ := turn_more h.fa fin_pi h.al val_pi (by decide +kernel) A (by rw [ea_val] at *; grind)
  have en : nrm (fneg x) (fneg y) = nrm x y := by rw [nrm_neg_re fx, nrm_neg_im fy]
  refine ⟨t1, t2, sqin_mono (sqin_swap (sqin_conj (sqin_swap (sqin_conj h.i)))) (by grind) (by have := QS_le j (by omega); grind), by rw [en]; exact h.lo, by rw [en]; exact h.hi, h.fs, h.sp, by rw [en]; exact Rl.UJ h.sr hj, t3, t4, ?_⟩
  exact Ang.VJ t5 (by rw [ea_val] at *; grind) hj

def w31 : Nat := 4614162998222441677
def wn31 : Nat := 13837535035077217485
theorem fin_w31 : fin w31 := fin_of _ (by decide)
theorem fin_wn31 : fin wn31 := fin_of _ (by decide)
theorem val_w31 : val w31 ≤ 311 / 100 := by decide +kernel
theorem val_wn31 : -(311 / 100) ≤ val wn31 := by decide +kernel

/-- The size's own number. -/
theorem ScI.size {j x y s a : Nat} (h : ScI j x y s a) (hj : j ≤ 40) : SqIn s 0 4194304 := by
  have u := UJ_le j (by omega)
  have n := h.sr.near
  have hh := h.sr.half (by grind)
  have lo := h.lo
  have hi := h.hi
  have e : nrm s 0 = val s * val s := by unfold nrm; rw [val_zero]; grind
  have t := Rat.mul_le_mul_of_nonneg_left u.1 (show 0 ≤ nrm x y by grind)
  refine ⟨h.fs, fin_zero, by rw [e]; grind, by rw [e]; grind, by decide, by decide +kernel, ?_, Or.inl val_zero⟩
  right; rw [e]; grind

theorem root_half {b A v : Rat} (h : Ang ⟨1, 0⟩ (2 * b - A) (v + 132 * ea)) (hb : ab b ≤ 15708 / 10000) (hA : ab A ≤ 311 / 100) (hv : v ≤ 12364 / 140737488355328) : ab (b - A / 2) ≤ v + 164 * ea := by
  have he := ea_val
  have hP := PI_val
  rw [ab_le] at hb hA
  rcases one_angle2 h (by rw [ab_le]; constructor <;> grind) (by rw [he]; grind) with hc | hc | hc
  · rw [ab_le] at hc ⊢; constructor <;> grind
  · exfalso
    rw [ab_le, he] at hc; grind
  · exfalso
    rw [ab_le, he] at hc; grind

theorem sc_root {j x y s a : Nat} (h : ScI j x y s a) (hj : j ≤ 40) (h1 : ¬ val w31 < val a) (h2 : ¬ val a < val wn31) :
    Ieee.double.div a two = some (fdiv a two) ∧ SqIn s 0 4194304 ∧ ScI (j + 1) (cre x y) (cim x y) (cre s 0) (fdiv a two) := by
  have Z := h.size hj
  have sz := sq_is Z
  have S := sq_is h.i
  have hQ := QS_le j (by omega)
  have r := S.range h.i hQ
  rw [← QS_succ] at r
  have v := VJ_le j (by omega)
  have u := UJ_le j (by omega)
  have hA : ab (val a) ≤ 311 / 100 := by
    have := val_w31; have := val_wn31
    rw [ab_le]; constructor <;> grind
  obtain ⟨d1, d2, d3⟩ := fdiv_two h.fa (B := 4) (Rat.le_trans h.al (by decide +kernel)) (by decide +kernel) (by decide +kernel)
  have n := S.norm h.i
  have nn := n.near
  have hh := n.half (by rw [eps_val]; decide +kernel)
  rw [eps_val] at nn
  have l := h.lo
  have hi := h.hi
  have n0 := nrm_nonneg (cre x y) (cim x y)
  have lo' : 9 / 10 ≤ nrm (cre x y) (cim x y) := le_of_sq_le n0 (by grind)
  have hi' : nrm (cre x y) (cim x y) ≤ 4194304 := le_of_sq_le (by decide) (by grind)
  -- the size
  have nz := sz.norm Z
  have ec : cim s 0 = 0 := (sz.z1 val_zero h.sp).1
  have pz := (sz.z1 val_zero h.sp).2
  have e1 : nrm (cre s 0) (cim s 0) = val (cre s 0) * val (cre s 0) := by unfold nrm; rw [ec, val_zero]; grind
  have e2 : nrm s 0 = val s * val s := by unfold nrm; rw [val_zero]; grind
  rw [e1, e2] at nz
  have hs := (nz.trans h.sr (by rw [eps_val]; grind)).trans n.symm (by rw [eps_val]; grind)
  have hr := hs.of_sq (Rat.mul_pos pz pz) (by grind)
  -- the angle
  have R := root_ang h.i S hQ h.an (by grind) (Rat.le_trans h.al (by decide +kernel))
  have P := ph_is r.ph
  have rt : ab (val (phw (cre x y) (cim x y))) ≤ 15708 / 10000 := by
    refine ph_right r.ph S.re fun hc => ?_
    by_cases hy : val y = 0
    · by_cases hx : 0 < val x
      · exact (S.z1 hy hx).2
      · have hx2 : val x < 0 := by
          have n1 : val x ≠ 0 := fun h0 => h.i.nz ⟨h0, hy⟩
          rcases Rat.le_total (a := val x) (b := 0) with h1 | h1 <;> grind
        exact absurd hc (S.z2 hy hx2).2.2
    · exact S.rp hy
  have D := root_half R rt hA v.1
  have A := ph_ang P.near
  have al := ab_le.1 h.al
  have d3' := ab_le.1 d3
  have D' := ab_le.1 D
  have km : mu + 4 * (1 / 4503599627370496) ≤ ea := by decide +kernel
  have ep : (0 : Rat) ≤ ea := by decide +kernel
  have A' := A.to (b := val (fdiv a two)) (d := VJ j + 164 * ea + 4 * (1 / 4503599627370496)) (v := VJ j + 300 * ea) (Rat.le_trans P.le (by decide +kernel)) (by rw [ab_le]; constructor <;> grind) (by grind) (by rw [ea_val]; grind)
  have UU := UJ_succ j
  have UL := UJ_le (j + 1) (by omega)
  refine ⟨d1, Z, r, lo', hi', sz.fp, pz, hr.mono (by rw [UU]; grind) (by grind), d2, by rw [ab_le]; constructor <;> grind, ?_⟩
  exact Ang.VJ A' Rat.le_refl hj

/-- The start. -/
theorem sc_start {x y : Nat} (qx : Whl x 1024) (qy : Whl y 1024) (hz : ¬ (val x = val 0 ∧ val y = val 0)) : ScI 0 x y (fhypt x y) (phw x y) := by
  have nz1 := nz_iv qx qy hz
  obtain ⟨fx, vx, bx⟩ := qx.iv
  obtain ⟨fy, vy, by'⟩ := qy.iv
  have bx : (iv x).natAbs ≤ 1024 := bx
  have by' : (iv y).natAbs ≤ 1024 := by'
  generalize iv x = a at *
  generalize iv y = b at *
  have i := sqin_int fx fy vx vy nz1 (by omega) (by omega)
  have en : nrm x y = ((a * a + b * b : Int) : Rat) := by unfold nrm; rw [vx, vy, Rat.intCast_add, Rat.intCast_mul, Rat.intCast_mul]
  have l1 : (1 : Rat) ≤ nrm x y := by
    rw [en]
    have := Rat.intCast_le_intCast.2 (one_le_sq nz1)
    exact this
  have u1 : nrm x y ≤ 4194304 := by
    rw [en]
    have t1 := sq_nat bx
    have t2 := sq_nat by'
    have := Rat.intCast_le_intCast.2 (show a * a + b * b ≤ 4194304 by omega)
    exact this
  have key : ∀ c : Int, c ≠ 0 → (1 : Rat) ≤ (c : Rat) * (c : Rat) := by
    intro c hc
    have := one_le_sq (a := c) (b := 0) (fun h => hc h.1)
    have := Rat.intCast_le_intCast.2 (show 1 ≤ c * c by omega)
    rw [Rat.intCast_mul] at this
    exact this
  have Q0 : QS 0 = 4194304 := by decide +kernel
  have i' : SqIn x y (QS 0) := by
    rw [Q0]
    refine ⟨fx, fy, i.lo, i.hi, by decide, by decide +kernel, ?_, ?_⟩
    · by_cases h0 : a = 0
      · left; rw [vx, h0]; rfl
      · right; rw [vx]; have := key a h0; grind
    · by_cases h0 : b = 0
      · left; rw [vy, h0]; rfl
      · right; rw [vy]; have := key b h0; grind
  obtain ⟨h1, h2, _, h4, h5, h6⟩ := i.hyp
  have P := ph_is i.ph
  have U0 : UJ 0 = 10 * eps := by unfold UJ; rw [show ((0 : Nat) : Rat) = 0 from rfl]; grind
  have V0 : VJ 0 = 64 * ea := by unfold VJ; rw [show ((0 : Nat) : Rat) = 0 from rfl]; grind
  exact ⟨i', by grind, u1, h4, h5, by rw [U0]; exact h6, P.f, Rat.le_trans P.le (by decide +kernel), by rw [V0]; exact ph_ang P.near⟩

structure ScEnd (x y s a : Nat) : Prop where
  hyp : HypOk x y
  ph : PhOk x y
  fh : fin (fhypt x y)
  fp : fin (phw x y)
  fS : fin (fmul thousand s)
  n1 : NearOk (fhypt x y) s (fmul thousand s)
  fd : fin (fsub (phw x y) a)
  ld : ab (val (fsub (phw x y) a)) ≤ 44
  ft : fin (tn (fsub (phw x y) a) 100)
  n2 : NearOk (tn (fsub (phw x y) a) 100) 0 thousand

theorem sc_end {j x y s a : Nat} (h : ScI j x y s a) (hj : j ≤ 40) : ScEnd x y s a := by
  obtain ⟨h1, h2, _, h4, h5, h6⟩ := h.i.hyp
  have P := ph_is h.i.ph
  have A := ph_ang P.near
  have v := VJ_le j (by omega)
  have u := UJ_le j (by omega)
  have R := (h6.trans h.sr.symm (by rw [eps_val]; grind)).of_sq h5 h.sp
  have Rn := R.near
  have Rh := R.half (by rw [eps_val]; grind)
  have sh := h.sr.half (by grind)
  have lo := h.lo
  have hi := h.hi
  have slo : 1 / 2 ≤ val s := le_of_sq_le (Rat.le_of_lt h.sp) (by grind)
  have shi : val s ≤ 4096 := le_of_sq_le (by decide) (by grind)
  have hS := fmul_near (B := 4096000) fin_thousand h.fs (by rw [val_thousand, ab_of_nonneg (by grind)]; grind) (by decide +kernel) (by decide +kernel)
  rw [val_thousand] at hS
  obtain ⟨fS, eS⟩ := hS
  rw [ab_le] at eS
  have u1 := Rat.mul_le_mul_of_nonneg_left u.1 (Rat.le_of_lt h.sp)
  have u2 := Rat.mul_le_mul_of_nonneg_left u.1 (Rat.le_of_lt h5)
  rw [eps_val] at Rn
  have n1 : NearOk (fhypt x y) s (fmul thousand s) := by
    refine near_of h4 h.fs fS (le_1000 (by rw [ab_of_nonneg (Rat.le_of_lt h5)]; grind)) (le_1000 (by rw [ab_of_nonneg (Rat.le_of_lt h.sp)]; grind)) ?_ (le_1000 (by grind)) ?_
    · refine Rat.le_trans (Rat.le_trans (p2_mono (show (-900 : Int) ≤ 0 by decide)) (by rw [p2_zero]; exact Rat.le_refl)) (show (1 : Rat) ≤ _ by grind)
    · rw [show Cx.p2 (-41) = 1 / 2199023255552 from by decide +kernel, ab_le]
      constructor <;> grind
  have t1 := ab_le.1 P.le
  have t2 := ab_le.1 h.al
  obtain ⟨fd, r⟩ := fsub_near (B := 7) P.f h.fa (by rw [ab_le]; constructor <;> grind) (by decide +kernel) (by decide +kernel)
  have r' := ab_le.1 r
  have l : ab (val (fsub (phw x y) a)) ≤ 65 / 10 := by rw [ab_le]; constructor <;> grind
  have l44 : ab (val (fsub (phw x y) a)) ≤ 44 := Rat.le_trans l (by decide +kernel)
  have T := turned_is fd l44
  have k1 : 7 * (1 / 4503599627370496) + mu + mu ≤ 2 * ea := by decide +kernel
  have k3 : 32 * ea * ((1 : Nat) : Rat) = 32 * ea := by rw [show ((1 : Nat) : Rat) = 1 from rfl, Rat.mul_one]
  have k2 : 200 * ea + 12364 / 140737488355328 ≤ 1 / 2000 := by decide +kernel
  have ep := show (0 : Rat) ≤ ea by decide +kernel
  have m0 := mu_pos
  have D := A.diff h.an (Rat.le_trans P.le (by decide +kernel)) (Rat.le_trans h.al (by decide +kernel)) (by grind)
  have D1 := D.to (b := val (fsub (phw x y) a)) (d := 7 * (1 / 4503599627370496)) (v := VJ j + 66 * ea) (by rw [ab_le]; constructor <;> grind) r (by grind) (by grind)
  have D2 := T.ang D1 l (by decide +kernel) (K := 1) (by decide +kernel) (by decide) (by rw [k3]; grind)
  rw [k3] at D2
  have O := one_angle D2 (Rat.le_trans T.le (by decide +kernel)) (by grind)
  refine ⟨⟨h.i.fx, h.i.fy, fun _ => ⟨h1, h2⟩⟩, h.i.ph, h4, P.f, fS, n1, fd, l44, T.f, ?_⟩
  refine near_c T.f fin_zero fin_thousand val_thousand (by decide +kernel) (by decide +kernel) (Rat.le_trans T.le (by decide +kernel)) (by rw [val_zero]; decide +kernel) ?_
  rw [val_zero, show ∀ z : Rat, z - 0 = z from fun z => by grind]
  refine Rat.le_trans O ?_
  have := v.1
  have k5 : 2 * (12364 / 140737488355328 + 200 * ea) ≤ 1000 * (1 / 2199023255552) := by decide +kernel
  grind
end Go.Proofs.Ytigckpmeppddcaa
