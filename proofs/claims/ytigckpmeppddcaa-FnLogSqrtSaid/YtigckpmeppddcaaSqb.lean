/- The complex square root as the library reckons it: all its cases; its square is near the number; its parts stay in range. Plain: no program in sight. -/
import Derived.Test.YtigckpmeppddcaaSq
set_option linter.unusedVariables false
namespace Cx
open Ieee

def sqBig (x y : Nat) : Prop := val w4 < val (fabs x) ∨ val w4 < val (fabs y)
instance (x y : Nat) : Decidable (sqBig x y) := by unfold sqBig; exact inferInstance
def sqM (x y : Nat) : Nat := if sqBig x y then wq4 else w54
def sqS (x y : Nat) : Nat := if sqBig x y then ws2 else ws27
def sqa (x y : Nat) : Nat := fmul x (sqM x y)
def sqb (x y : Nat) : Nat := fmul y (sqM x y)

/-- The first part of the root. -/
def cre (x y : Nat) : Nat :=
  if val y = val 0 then (if val x = val 0 then 0 else if val x < val 0 then 0 else fsqrt x)
  else if val x = val 0 then (if val y < val 0 then fsqrt (fmul wnh y) else fsqrt (fmul wh y))
  else if val 0 < val (sqa x y) then fmul (sqT (sqa x y) (sqb x y)) (sqS x y) else fmul (sqS x y) (sqO (sqa x y) (sqb x y))
def cio (x y : Nat) : Nat := if val 0 < val (sqa x y) then fmul (sqS x y) (sqO (sqa x y) (sqb x y)) else fmul (sqT (sqa x y) (sqb x y)) (sqS x y)
/-- The second part of the root. -/
def cim (x y : Nat) : Nat :=
  if val y = val 0 then (if val x = val 0 then y else if val x < val 0 then fcopy (fsqrt (fneg x)) y else y)
  else if val x = val 0 then (if val y < val 0 then fneg (fsqrt (fmul wnh y)) else fsqrt (fmul wh y))
  else if val (sqb x y) < val 0 then fneg (cio x y) else cio x y

/-- The sum of the squares of both parts. -/
def nrm (x y : Nat) : Rat := val x * val x + val y * val y

/-- A number whose root is taken: neither tiny nor huge; no part is tiny against the other. -/
structure SqIn (x y : Nat) (Q : Rat) : Prop where
  fx : fin x
  fy : fin y
  lo : 1 / 2 ≤ nrm x y
  hi : nrm x y ≤ 1152921504606846976
  q0 : 1 ≤ Q
  q1 : Q ≤ p2 240
  cx : val x = 0 ∨ nrm x y ≤ Q * (val x * val x)
  cy : val y = 0 ∨ nrm x y ≤ Q * (val y * val y)

theorem comp_lo {c n Q : Rat} (h : 1 / 2 ≤ n) (hQ : Q ≤ p2 240) (h1 : n ≤ Q * (c * c)) : p2 (-121) ≤ ab c := by
  refine le_of_sq_le (ab_nonneg _) ?_
  rw [ab_sq, p2_sq]
  have t1 := Rat.mul_le_mul_of_nonneg_right hQ (sq_nonneg c)
  have t2 : p2 (2 * -121) * (p2 240 * 4) = 1 := by
    rw [show (4 : Rat) = p2 2 by decide +kernel, ← p2_add, ← p2_add, show (2 * -121 + (240 + 2) : Int) = 0 by decide, p2_zero]
  have t3 : p2 (2 * -121) * (p2 240 * 4) ≤ c * c * (p2 240 * 4) := by rw [t2]; grind
  exact Rat.le_of_mul_le_mul_right t3 (by have := p2_pos 240; grind)
theorem comp_hi {c n : Rat} (h : n ≤ 1152921504606846976) (h1 : c * c ≤ n) : ab c ≤ p2 30 := by
  refine le_of_sq_le (Rat.le_of_lt (p2_pos _)) ?_
  rw [ab_sq, p2_sq, show p2 (2 * 30) = 1152921504606846976 by decide +kernel]
  grind
theorem SqIn.rx {x y : Nat} {Q : Rat} (h : SqIn x y Q) : val x = 0 ∨ (p2 (-121) ≤ ab (val x) ∧ ab (val x) ≤ p2 30) := by
  rcases h.cx with h1 | h1
  · exact Or.inl h1
  · have := sq_nonneg (val y)
    exact Or.inr ⟨comp_lo h.lo h.q1 h1, comp_hi h.hi (by unfold nrm; grind)⟩
theorem SqIn.ry {x y : Nat} {Q : Rat} (h : SqIn x y Q) : val y = 0 ∨ (p2 (-121) ≤ ab (val y) ∧ ab (val y) ≤ p2 30) := by
  rcases h.cy with h1 | h1
  · exact Or.inl h1
  · have := sq_nonneg (val x)
    exact Or.inr ⟨comp_lo h.lo h.q1 h1, comp_hi h.hi (by unfold nrm; grind)⟩
theorem SqIn.nz {x y : Nat} {Q : Rat} (h : SqIn x y Q) : ¬ (val x = 0 ∧ val y = 0) := by
  rintro ⟨h1, h2⟩
  have := h.lo
  unfold nrm at this
  rw [h1, h2] at this
  exact absurd this (by decide +kernel)

theorem rg300 {c : Rat} (h : p2 (-121) ≤ ab c ∧ ab c ≤ p2 30) : c = 0 ∨ (p2 (-300) ≤ ab c ∧ ab c ≤ p2 300) :=
  Or.inr ⟨Rat.le_trans (p2_mono (by decide)) h.1, Rat.le_trans h.2 (p2_mono (by decide))⟩

/-- Where neither part is zero. -/
structure SqGen (x y : Nat) : Prop where
  f1 : fin (sqa x y)
  f2 : fin (sqb x y)
  core : CoreIs (sqa x y) (sqb x y)
  g1 : fin (fmul (sqT (sqa x y) (sqb x y)) (sqS x y))
  g2 : fin (fmul (sqS x y) (sqO (sqa x y) (sqb x y)))
  s : ∃ s, 0 < s ∧ val (fmul (sqT (sqa x y) (sqb x y)) (sqS x y)) = val (sqT (sqa x y) (sqb x y)) * s ∧ val (fmul (sqS x y) (sqO (sqa x y) (sqb x y))) = val (sqO (sqa x y) (sqb x y)) * s ∧
    val x = val (sqa x y) * (s * s) ∧ val y = val (sqb x y) * (s * s)

theorem sq_gen {x y : Nat} {Q : Rat} (h : SqIn x y Q) (hx : val x ≠ 0) (hy : val y ≠ 0) : SqGen x y := by
  have rx := h.rx.resolve_left hx
  have ry := h.ry.resolve_left hy
  have key : ∃ k j : Int, -100 ≤ k ∧ k ≤ 100 ∧ -100 ≤ j ∧ j ≤ 100 ∧ -9 ≤ k ∧ k ≤ 54 ∧ j + j + k = 0 ∧ fin (sqM x y) ∧ fin (sqS x y) ∧ val (sqM x y) = p2 k ∧ val (sqS x y) = p2 j := by
    unfold sqM sqS
    by_cases hb : sqBig x y
    · rw [if_pos hb, if_pos hb]
      exact ⟨-2, 1, by decide, by decide, by decide, by decide, by decide, by decide, by decide, fin_wq4, fin_ws2, val_wq4, val_ws2⟩
    · rw [if_neg hb, if_neg hb]
      exact ⟨54, -27, by decide, by decide, by decide, by decide, by decide, by decide, by decide, fin_w54, fin_ws27, val_w54, val_ws27⟩
  obtain ⟨k, j, k1, k2, j1, j2, k3, k4, hjk, fM, fS, vM, vS⟩ := key
  obtain ⟨u1, v1, _⟩ := fmul_exact h.fx fM (by rw [vM, ab_p2]) (rg300 rx) ⟨k1, k2⟩
  obtain ⟨u2, v2, _⟩ := fmul_exact h.fy fM (by rw [vM, ab_p2]) (rg300 ry) ⟨k1, k2⟩
  have ea : fmul x (sqM x y) = sqa x y := rfl
  have eb : fmul y (sqM x y) = sqb x y := rfl
  rw [ea] at u1
  rw [ea, vM] at v1
  rw [eb] at u2
  rw [eb, vM] at v2
  have bnd : ∀ c : Rat, (p2 (-121) ≤ ab c ∧ ab c ≤ p2 30) → p2 (-130) ≤ ab (c * p2 k) ∧ ab (c * p2 k) ≤ p2 130 := by
    intro c hc
    rw [ab_mul, ab_p2]
    have t1 := Rat.mul_le_mul_of_nonneg_right hc.1 (Rat.le_of_lt (p2_pos k))
    have t2 := Rat.mul_le_mul_of_nonneg_right hc.2 (Rat.le_of_lt (p2_pos k))
    rw [← p2_add] at t1 t2
    exact ⟨Rat.le_trans (p2_mono (by omega)) t1, Rat.le_trans t2 (p2_mono (by omega))⟩
  have ba := bnd _ rx
  have bb := bnd _ ry
  rw [← v1] at ba
  rw [← v2] at bb
  have core := core_is u1 u2 ba.1 ba.2 bb.1 bb.2
  have hss : p2 j * p2 j * p2 k = 1 := by rw [← p2_add, ← p2_add, hjk, p2_zero]
  obtain ⟨g1, w1, _⟩ := fmul_exact core.ft fS (by rw [vS, ab_p2]) (Or.inr ⟨by rw [ab_of_nonneg (Rat.le_of_lt core.tp)]; exact Rat.le_trans (p2_mono (by decide)) core.tr.1, by rw [ab_of_nonneg (Rat.le_of_lt core.tp)]; exact Rat.le_trans core.tr.2 (p2_mono (by decide))⟩) ⟨j1, j2⟩
  obtain ⟨g2, w2, _⟩ := fmul_exact' core.fo fS (by rw [vS, ab_p2]) (Or.inr ⟨by rw [ab_of_nonneg (Rat.le_of_lt core.op)]; exact Rat.le_trans (p2_mono (by decide)) core.or.1, by rw [ab_of_nonneg (Rat.le_of_lt core.op)]; exact Rat.le_trans core.or.2 (p2_mono (by decide))⟩) ⟨j1, j2⟩
  refine ⟨u1, u2, core, g1, g2, p2 j, p2_pos j, by rw [w1, vS], by rw [w2, vS, Rat.mul_comm], ?_, ?_⟩
  · rw [v1]; grind
  · rw [v2]; grind

theorem cn_core {a b P R d s : Rat} (h1 : ab (P * P - R * R - a) ≤ d) (h2 : ab (2 * (P * R) - b) ≤ d) (hd : d * (ab a + ab b) ≤ 40 * eps * (a * a + b * b)) (hn : 0 < a * a + b * b) :
    Cn (40 * eps) ((⟨P * s, R * s⟩ : Cq).mul ⟨P * s, R * s⟩) ⟨a * (s * s), b * (s * s)⟩ := by
  have h : Cn (40 * eps) ((⟨P, R⟩ : Cq).mul ⟨P, R⟩) ⟨a, b⟩ := by
    refine Cn.of_close (d := d) ?_ ?_ hn hd
    · simp only [Cq.mul]; exact h1
    · simp only [Cq.mul]; rw [show P * R + R * P = 2 * (P * R) by grind]; exact h2
  refine h.smul_eq (c := s * s) ?_ ?_
  · apply Cq.ext' <;> simp only [Cq.mul, Cq.smul] <;> grind
  · apply Cq.ext' <;> simp only [Cq.smul] <;> grind

structure SqIs (x y : Nat) : Prop where
  fp : fin (cre x y)
  fq : fin (cim x y)
  re : 0 ≤ val (cre x y)
  up : 0 < val y → 0 < val (cim x y)
  dn : val y < 0 → val (cim x y) < 0
  rp : val y ≠ 0 → 0 < val (cre x y)
  z1 : val y = 0 → 0 < val x → cim x y = y ∧ 0 < val (cre x y)
  z2 : val y = 0 → val x < 0 → cre x y = 0 ∧ neg (cim x y) = neg y ∧ val (cim x y) ≠ 0
  sq : Cn (40 * eps) ((⟨val (cre x y), val (cim x y)⟩ : Cq).mul ⟨val (cre x y), val (cim x y)⟩) ⟨val x, val y⟩
  pq : val y ≠ 0 → val y * val y ≤ 16 * (val (cre x y) * val (cre x y) * (val (cim x y) * val (cim x y)))

theorem im_near {b O T : Rat} (h : Rl eps (O * T) (ab b / 2)) : ab (2 * (O * T) - ab b) ≤ ab b * (2 * eps) ∧ b * b ≤ 16 * (O * O * (T * T)) := by
  have n := h.near
  have g := h.half (by rw [eps_val]; decide +kernel)
  have hp := h.apos
  constructor
  · have t := Rat.mul_le_mul_of_nonneg_right g.2 (Rat.le_of_lt eps_pos)
    have t2 := Rat.mul_nonneg (ab_nonneg b) (Rat.le_of_lt eps_pos)
    rw [ab_le]; constructor <;> grind
  · rw [← ab_sq]
    have t := mul_le_mul_nn (show ab b ≤ 4 * (O * T) by grind) (show ab b ≤ 4 * (O * T) by grind) (ab_nonneg b) (by grind)
    grind

theorem sqrt_ok {x : Nat} (fx : fin x) (h1 : p2 (-200) ≤ val x) (h2 : val x ≤ p2 200) :
    double.sqrt x = some (fsqrt x) ∧ fin (fsqrt x) ∧ 0 < val (fsqrt x) ∧ neg (fsqrt x) = false ∧ Rl (2 * eps) (val (fsqrt x) * val (fsqrt x)) (val x) :=
  sqrt_rl fx (Rat.le_trans (p2_mono (by decide)) h1) (Rat.le_trans h2 (p2_mono (by decide)))

/-- The words of the halves, where the first part is zero. -/
theorem half_ok {y : Nat} (fy : fin y) (ry : p2 (-121) ≤ ab (val y) ∧ ab (val y) ≤ p2 30) :
    (val y < 0 → fin (fmul wnh y) ∧ val (fmul wnh y) = ab (val y) / 2) ∧ (0 < val y → fin (fmul wh y) ∧ val (fmul wh y) = ab (val y) / 2) ∧ p2 (-200) ≤ ab (val y) / 2 ∧ ab (val y) / 2 ≤ p2 200 := by
  obtain ⟨u1, v1, _⟩ := fmul_exact' fy fin_wnh ab_wnh (rg300 ry) (by decide)
  obtain ⟨u2, v2, _⟩ := fmul_exact' fy fin_wh ab_wh (rg300 ry) (by decide)
  rw [val_wnh] at v1
  rw [val_wh] at v2
  refine ⟨fun h => ⟨u1, by rw [v1, ab_of_neg (Rat.le_of_lt h)]; grind⟩, fun h => ⟨u2, by rw [v2, ab_of_nonneg (Rat.le_of_lt h)]; grind⟩, ?_, ?_⟩
  · have t1 := p2_mono (show (-200 : Int) ≤ -122 by decide)
    have t2 : p2 (-122) * 2 = p2 (-121) := by rw [← p2_succ]; rfl
    grind
  · have t1 := p2_mono (show (30 : Int) ≤ 200 by decide)
    have t2 := p2_pos 30
    grind

/-- The square of a root of one part against that part. -/
theorem root_dist {s X : Rat} (h : Rl (2 * eps) (s * s) X) : ab (s * s - X) ≤ 5 * eps * X := by
  have n := h.near
  have g := h.half (by rw [eps_val]; decide +kernel)
  have t := Rat.mul_le_mul_of_nonneg_right g.2 (Rat.le_of_lt eps_pos)
  have t2 := Rat.mul_nonneg (Rat.le_of_lt h.pos) (Rat.le_of_lt eps_pos)
  rw [ab_le]; constructor <;> grind

theorem sq_is {x y : Nat} {Q : Rat} (h : SqIn x y Q) : SqIs x y := by
  have nz := h.nz
  have fx := h.fx
  have fy := h.fy
  have v0 := val_z
  by_cases hy : val y = 0
  · have hy' : val y = val 0 := by rw [v0]; exact hy
    have hx : val x ≠ 0 := fun hx => nz ⟨hx, hy⟩
    have hx' : ¬ val x = val 0 := by rw [v0]; exact hx
    have rx := h.rx.resolve_left hx
    by_cases hn : val x < 0
    · have hn' : val x < val 0 := by rw [v0]; exact hn
      have e1 : cre x y = 0 := by unfold cre; rw [if_pos hy', if_neg hx', if_pos hn']
      have e2 : cim x y = fcopy (fsqrt (fneg x)) y := by unfold cim; rw [if_pos hy', if_neg hx', if_pos hn']
      obtain ⟨n1, n2, _⟩ := fneg_spec fx
      rw [ab_of_neg (Rat.le_of_lt hn), ← n2] at rx
      obtain ⟨_, s2, s3, _, s5⟩ := sqrt_ok n1 (Rat.le_trans (p2_mono (by decide)) rx.1) (Rat.le_trans rx.2 (p2_mono (by decide)))
      obtain ⟨c1, c2, c3⟩ := fcopy_spec s2 fy.1
      rw [ab_of_nonneg (Rat.le_of_lt s3)] at c3
      rw [n2] at s5
      have d := root_dist s5
      have hsq : val (cim x y) * val (cim x y) = val (fsqrt (fneg x)) * val (fsqrt (fneg x)) := by
        rw [e2, c3]
        have := sgn_mul_self (neg y)
        grind
      have hnz : val (cim x y) ≠ 0 := by
        intro h0
        rw [h0] at hsq
        have := Rat.mul_pos s3 s3
        grind
      refine ⟨by rw [e1]; exact fin_z, by rw [e2]; exact c1, by rw [e1, v0]; exact Rat.le_refl, fun h => by grind, fun h => by grind, fun h => absurd hy h, fun _ h => by grind, fun _ _ => ⟨e1, by rw [e2]; exact c2, hnz⟩, ?_, fun h => absurd hy h⟩
      refine Cn.of_close (d := 5 * eps * -val x) ?_ ?_ ?_ ?_
      · simp only [Cq.mul]; rw [e1, v0, hsq, show (0 : Rat) * 0 - val (fsqrt (fneg x)) * val (fsqrt (fneg x)) - val x = -(val (fsqrt (fneg x)) * val (fsqrt (fneg x)) - -val x) by grind, ab_neg]; exact d
      · simp only [Cq.mul]; rw [e1, v0, hy, show (0 : Rat) * val (cim x y) + val (cim x y) * 0 - 0 = 0 by grind, ab_zero]
        have := Rat.mul_nonneg (Rat.le_of_lt eps_pos) (show 0 ≤ -val x by grind)
        grind
      · simp only [Cq.norm]; rw [hy]; have := Rat.mul_pos (show 0 < -val x by grind) (show 0 < -val x by grind); grind
      · simp only [Cq.norm]; rw [hy, ab_zero, ab_of_neg (Rat.le_of_lt hn)]
        have := Rat.mul_nonneg (Rat.le_of_lt eps_pos) (Rat.le_of_lt (Rat.mul_pos (show 0 < -val x by grind) (show 0 < -val x by grind)))
        grind
    · have hp : 0 < val x := by grind
      have hn' : ¬ val x < val 0 := by rw [v0]; exact hn
      have e1 : cre x y = fsqrt x := by unfold cre; rw [if_pos hy', if_neg hx', if_neg hn']
      have e2 : cim x y = y := by unfold cim; rw [if_pos hy', if_neg hx', if_neg hn']
      rw [ab_of_nonneg (Rat.le_of_lt hp)] at rx
      obtain ⟨_, s2, s3, _, s5⟩ := sqrt_ok fx (Rat.le_trans (p2_mono (by decide)) rx.1) (Rat.le_trans rx.2 (p2_mono (by decide)))
      have d := root_dist s5
      rw [← e1] at s2 s3 d
      refine ⟨s2, by rw [e2]; exact fy, Rat.le_of_lt s3, fun h => by grind, fun h => by grind, fun h => absurd hy h, fun _ _ => ⟨e2, s3⟩, fun _ h => by grind, ?_, fun h => absurd hy h⟩
      rw [e2, hy]
      refine Cn.of_close (d := 5 * eps * val x) ?_ ?_ ?_ ?_
      · simp only [Cq.mul]; rw [show val (cre x y) * val (cre x y) - 0 * 0 - val x = val (cre x y) * val (cre x y) - val x by grind]; exact d
      · simp only [Cq.mul]; rw [show val (cre x y) * 0 + 0 * val (cre x y) - 0 = 0 by grind, ab_zero]
        have := Rat.mul_nonneg (Rat.le_of_lt eps_pos) (Rat.le_of_lt hp)
        grind
      · simp only [Cq.norm]; have := Rat.mul_pos hp hp; grind
      · simp only [Cq.norm]; rw [ab_zero, ab_of_nonneg (Rat.le_of_lt hp)]
        have := Rat.mul_nonneg (Rat.le_of_lt eps_pos) (Rat.le_of_lt (Rat.mul_pos hp hp))
        grind
  · have hy' : ¬ val y = val 0 := by rw [v0]; exact hy
    have ry := h.ry.resolve_left hy
    by_cases hx : val x = 0
    · have hx' : val x = val 0 := by rw [v0]; exact hx
      obtain ⟨ha, hb, hc, hd⟩ := half_ok fy ry
      have key : ∃ r, fin r ∧ 0 < val r ∧ Rl (2 * eps) (val r * val r) (ab (val y) / 2) ∧ cre x y = r ∧ ((val y < 0 ∧ cim x y = fneg r) ∨ (0 < val y ∧ cim x y = r)) := by
        by_cases hn : val y < 0
        · have hn' : val y < val 0 := by rw [v0]; exact hn
          obtain ⟨u, v⟩ := ha hn
          obtain ⟨_, s2, s3, _, s5⟩ := sqrt_ok u (by rw [v]; exact hc) (by rw [v]; exact hd)
          rw [v] at s5
          exact ⟨_, s2, s3, s5, by unfold cre; rw [if_neg hy', if_pos hx', if_pos hn'], Or.inl ⟨hn, by unfold cim; rw [if_neg hy', if_pos hx', if_pos hn']⟩⟩
        · have hp : 0 < val y := by grind
          have hn' : ¬ val y < val 0 := by rw [v0]; exact hn
          obtain ⟨u, v⟩ := hb hp
          obtain ⟨_, s2, s3, _, s5⟩ := sqrt_ok u (by rw [v]; exact hc) (by rw [v]; exact hd)
          rw [v] at s5
          exact ⟨_, s2, s3, s5, by unfold cre; rw [if_neg hy', if_pos hx', if_neg hn'], Or.inr ⟨hp, by unfold cim; rw [if_neg hy', if_pos hx', if_neg hn']⟩⟩
      obtain ⟨r, fr, pr, rl, e1, hor⟩ := key
      obtain ⟨n1, n2, _⟩ := fneg_spec fr
      have d := root_dist rl
      have g := rl.half (by rw [eps_val]; decide +kernel)
      have ya : 0 < ab (val y) := by have := rl.pos; grind
      have hyy : val y * val y = ab (val y) * ab (val y) := (ab_sq _).symm
      have hpq : val y * val y ≤ 16 * (val r * val r * (val r * val r)) := by
        rw [hyy]
        have t := mul_le_mul_nn (show ab (val y) ≤ 4 * (val r * val r) by grind) (show ab (val y) ≤ 4 * (val r * val r) by grind) (ab_nonneg _) (by have := Rat.mul_pos pr pr; grind)
        grind
      have hnum : 10 * eps * (ab (val y) / 2) * 2 * (ab 0 + ab (val y)) ≤ 40 * eps * (0 * 0 + val y * val y) := by
        rw [hyy, ab_zero]
        have := Rat.mul_nonneg (Rat.le_of_lt eps_pos) (Rat.le_of_lt (Rat.mul_pos ya ya))
        grind
      have hz : ab (0 : Rat) ≤ 10 * eps * (ab (val y) / 2) * 2 := by
        rw [ab_zero]
        have := Rat.mul_nonneg (Rat.le_of_lt eps_pos) (Rat.le_of_lt ya)
        grind
      have hnn : 0 < (0 : Rat) * 0 + val y * val y := by rw [hyy]; have := Rat.mul_pos ya ya; grind
      have e0 := Rat.mul_nonneg (Rat.le_of_lt eps_pos) (Rat.le_of_lt ya)
      rw [ab_le] at d
      rcases hor with ⟨hn, e2⟩ | ⟨hp, e2⟩
      · have hab := ab_of_neg (Rat.le_of_lt hn)
        rw [hab] at d hnum hz e0
        refine ⟨by rw [e1]; exact fr, by rw [e2]; exact n1, by rw [e1]; exact Rat.le_of_lt pr, fun h => by grind, fun _ => by rw [e2, n2]; grind, fun _ => by rw [e1]; exact pr, fun h => absurd h hy, fun h => absurd h hy, ?_, fun _ => by rw [e1, e2, n2]; grind⟩
        rw [e1, e2, n2, hx]
        refine Cn.of_close (d := 10 * eps * (-val y / 2) * 2) ?_ ?_ (by simp only [Cq.norm]; exact hnn) (by simp only [Cq.norm]; rw [hab]; exact hnum)
        · simp only [Cq.mul]; rw [show val r * val r - -val r * -val r - 0 = 0 by grind]; exact hz
        · simp only [Cq.mul]; rw [ab_le]; constructor <;> grind
      · have hab := ab_of_nonneg (Rat.le_of_lt hp)
        rw [hab] at d hnum hz e0
        refine ⟨by rw [e1]; exact fr, by rw [e2]; exact fr, by rw [e1]; exact Rat.le_of_lt pr, fun _ => by rw [e2]; exact pr, fun h => by grind, fun _ => by rw [e1]; exact pr, fun h => absurd h hy, fun h => absurd h hy, ?_, fun _ => by rw [e1, e2]; exact hpq⟩
        rw [e1, e2, hx]
        refine Cn.of_close (d := 10 * eps * (val y / 2) * 2) ?_ ?_ (by simp only [Cq.norm]; exact hnn) (by simp only [Cq.norm]; rw [hab]; exact hnum)
        · simp only [Cq.mul]; rw [show val r * val r - val r * val r - 0 = 0 by grind]; exact hz
        · simp only [Cq.mul]; rw [ab_le]; constructor <;> grind
    · have hx' : ¬ val x = val 0 := by rw [v0]; exact hx
      have G := sq_gen h hx hy
      have C := G.core
      obtain ⟨s, sp, wT, wO, ex, ey⟩ := G.s
      have ssp := Rat.mul_pos sp sp
      have tp := C.tp
      have op := C.op
      obtain ⟨i1, i2⟩ := im_near C.im
      obtain ⟨d, r1, r2, r3⟩ := C.re
      have i1 := Rat.le_trans i1 r2
      have e1 : cre x y = if val 0 < val (sqa x y) then fmul (sqT (sqa x y) (sqb x y)) (sqS x y) else fmul (sqS x y) (sqO (sqa x y) (sqb x y)) := by unfold cre; rw [if_neg hy', if_neg hx']
      have e2 : cim x y = if val (sqb x y) < val 0 then fneg (cio x y) else cio x y := by unfold cim; rw [if_neg hy', if_neg hx']
      have na : val (sqa x y) ≠ 0 := by intro h0; rw [h0] at ex; apply hx; rw [ex]; grind
      have nb : val (sqb x y) ≠ 0 := by intro h0; rw [h0] at ey; apply hy; rw [ey]; grind
      have hn : 0 < val (sqa x y) * val (sqa x y) + val (sqb x y) * val (sqb x y) := by
        have := sq_nonneg (val (sqa x y))
        have := sq_nonneg (val (sqb x y))
        have h3 : val (sqa x y) * val (sqa x y) ≠ 0 := fun h => by rcases Rat.mul_eq_zero.1 h with h | h <;> exact na h
        grind
      have fcio : fin (cio x y) := by unfold cio; split; exact G.g2; exact G.g1
      obtain ⟨n1, n2, _⟩ := fneg_spec fcio
      have pos : ∀ c : Rat, 0 < c → 0 < c * (s * s) := fun c hc => Rat.mul_pos hc ssp
      have posn : ∀ c : Rat, c < 0 → c * (s * s) < 0 := fun c hc => by have := pos (-c) (by grind); grind
      have To := Rat.mul_pos tp sp
      have Oo := Rat.mul_pos op sp
      by_cases ha : 0 < val (sqa x y)
      · have ha' : val 0 < val (sqa x y) := by rw [v0]; exact ha
        rw [if_pos ha'] at e1
        have ec : cio x y = fmul (sqS x y) (sqO (sqa x y) (sqb x y)) := by unfold cio; rw [if_pos ha']
        rw [ab_of_nonneg (Rat.le_of_lt ha)] at r1
        by_cases hb : val (sqb x y) < 0
        · have hb' : val (sqb x y) < val 0 := by rw [v0]; exact hb
          rw [if_pos hb'] at e2
          have hyn : val y < 0 := by rw [ey]; exact posn _ hb
          have ev : val (cim x y) = -val (sqO (sqa x y) (sqb x y)) * s := by rw [e2, n2, ec, wO]; grind
          rw [ab_of_neg (Rat.le_of_lt hb)] at i1
          refine ⟨by rw [e1]; exact G.g1, by rw [e2]; exact n1, by rw [e1, wT]; exact Rat.le_of_lt To, fun h => by grind, fun _ => by rw [ev]; grind, fun _ => by rw [e1, wT]; exact To, fun h => absurd h hy, fun h => absurd h hy, ?_, fun _ => ?_⟩
          · rw [e1, wT, ev, ex, ey]
            refine cn_core (by rw [show -val (sqO (sqa x y) (sqb x y)) * -val (sqO (sqa x y) (sqb x y)) = val (sqO (sqa x y) (sqb x y)) * val (sqO (sqa x y) (sqb x y)) by grind]; exact r1) ?_ r3 hn
            rw [show 2 * (val (sqT (sqa x y) (sqb x y)) * -val (sqO (sqa x y) (sqb x y))) - val (sqb x y) = -(2 * (val (sqO (sqa x y) (sqb x y)) * val (sqT (sqa x y) (sqb x y))) - -val (sqb x y)) by grind, ab_neg]
            exact i1
          · rw [e1, wT, ev, ey]
            have := Rat.mul_le_mul_of_nonneg_right i2 (Rat.le_of_lt (Rat.mul_pos ssp ssp))
            grind
        · have hb' : ¬ val (sqb x y) < val 0 := by rw [v0]; exact hb
          rw [if_neg hb'] at e2
          have hbp : 0 < val (sqb x y) := by grind
          have hyp : 0 < val y := by rw [ey]; exact pos _ hbp
          have ev : val (cim x y) = val (sqO (sqa x y) (sqb x y)) * s := by rw [e2, ec, wO]
          rw [ab_of_nonneg (Rat.le_of_lt hbp)] at i1
          refine ⟨by rw [e1]; exact G.g1, by rw [e2]; exact fcio, by rw [e1, wT]; exact Rat.le_of_lt To, fun _ => by rw [ev]; exact Oo, fun h => by grind, fun _ => by rw [e1, wT]; exact To, fun h => absurd h hy, fun h => absurd h hy, ?_, fun _ => ?_⟩
          · rw [e1, wT, ev, ex, ey]
            refine cn_core r1 ?_ r3 hn
            rw [show 2 * (val (sqT (sqa x y) (sqb x y)) * val (sqO (sqa x y) (sqb x y))) - val (sqb x y) = 2 * (val (sqO (sqa x y) (sqb x y)) * val (sqT (sqa x y) (sqb x y))) - val (sqb x y) by grind]
            exact i1
          · rw [e1, wT, ev, ey]
            have := Rat.mul_le_mul_of_nonneg_right i2 (Rat.le_of_lt (Rat.mul_pos ssp ssp))
            grind
      · have ha' : ¬ val 0 < val (sqa x y) := by rw [v0]; exact ha
        rw [if_neg ha'] at e1
        have ec : cio x y = fmul (sqT (sqa x y) (sqb x y)) (sqS x y) := by unfold cio; rw [if_neg ha']
        rw [ab_of_neg (show val (sqa x y) ≤ 0 by grind)] at r1
        have r1' : ab (val (sqO (sqa x y) (sqb x y)) * val (sqO (sqa x y) (sqb x y)) - val (sqT (sqa x y) (sqb x y)) * val (sqT (sqa x y) (sqb x y)) - val (sqa x y)) ≤ d := by
          rw [← ab_neg, show -(val (sqO (sqa x y) (sqb x y)) * val (sqO (sqa x y) (sqb x y)) - val (sqT (sqa x y) (sqb x y)) * val (sqT (sqa x y) (sqb x y)) - val (sqa x y)) = val (sqT (sqa x y) (sqb x y)) * val (sqT (sqa x y) (sqb x y)) - val (sqO (sqa x y) (sqb x y)) * val (sqO (sqa x y) (sqb x y)) - -val (sqa x y) by grind]
          exact r1
        by_cases hb : val (sqb x y) < 0
        · have hb' : val (sqb x y) < val 0 := by rw [v0]; exact hb
          rw [if_pos hb'] at e2
          have hyn : val y < 0 := by rw [ey]; exact posn _ hb
          have ev : val (cim x y) = -val (sqT (sqa x y) (sqb x y)) * s := by rw [e2, n2, ec, wT]; grind
          rw [ab_of_neg (Rat.le_of_lt hb)] at i1
          refine ⟨by rw [e1]; exact G.g2, by rw [e2]; exact n1, by rw [e1, wO]; exact Rat.le_of_lt Oo, fun h => by grind, fun _ => by rw [ev]; grind, fun _ => by rw [e1, wO]; exact Oo, fun h => absurd h hy, fun h => absurd h hy, ?_, fun _ => ?_⟩
          · rw [e1, wO, ev, ex, ey]
            refine cn_core (by rw [show -val (sqT (sqa x y) (sqb x y)) * -val (sqT (sqa x y) (sqb x y)) = val (sqT (sqa x y) (sqb x y)) * val (sqT (sqa x y) (sqb x y)) by grind]; exact r1') ?_ r3 hn
            rw [show 2 * (val (sqO (sqa x y) (sqb x y)) * -val (sqT (sqa x y) (sqb x y))) - val (sqb x y) = -(2 * (val (sqO (sqa x y) (sqb x y)) * val (sqT (sqa x y) (sqb x y))) - -val (sqb x y)) by grind, ab_neg]
            exact i1
          · rw [e1, wO, ev, ey]
            have := Rat.mul_le_mul_of_nonneg_right i2 (Rat.le_of_lt (Rat.mul_pos ssp ssp))
            grind
        · have hb' : ¬ val (sqb x y) < val 0 := by rw [v0]; exact hb
          rw [if_neg hb'] at e2
          have hbp : 0 < val (sqb x y) := by grind
          have hyp : 0 < val y := by rw [ey]; exact pos _ hbp
          have ev : val (cim x y) = val (sqT (sqa x y) (sqb x y)) * s := by rw [e2, ec, wT]
          rw [ab_of_nonneg (Rat.le_of_lt hbp)] at i1
          refine ⟨by rw [e1]; exact G.g2, by rw [e2]; exact fcio, by rw [e1, wO]; exact Rat.le_of_lt Oo, fun _ => by rw [ev]; exact To, fun h => by grind, fun _ => by rw [e1, wO]; exact Oo, fun h => absurd h hy, fun h => absurd h hy, ?_, fun _ => ?_⟩
          · rw [e1, wO, ev, ex, ey]
            exact cn_core r1' i1 r3 hn
          · rw [e1, wO, ev, ey]
            have := Rat.mul_le_mul_of_nonneg_right i2 (Rat.le_of_lt (Rat.mul_pos ssp ssp))
            grind
end Cx
