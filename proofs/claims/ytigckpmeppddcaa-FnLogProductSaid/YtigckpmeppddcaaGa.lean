/- Angles without real numbers: complex rationals; 'Small u w': w lies in the cone of angle at most u about the positive axis (exactly additive under products); 'cis a', a high power of 1 + i a/n; 'Ang z a u': z has the angle a up to u. Plain: no program in sight. -/
import Derived.Test.YtigckpmeppddcaaNr
set_option linter.unusedVariables false
namespace Cx

structure Cq where
  re : Rat
  im : Rat

namespace Cq
def mul (a b : Cq) : Cq := ⟨a.re * b.re - a.im * b.im, a.re * b.im + a.im * b.re⟩
def conj (a : Cq) : Cq := ⟨a.re, -a.im⟩
def smul (c : Rat) (a : Cq) : Cq := ⟨c * a.re, c * a.im⟩
def pow (a : Cq) : Nat → Cq
  | 0 => ⟨1, 0⟩
  | n + 1 => (pow a n).mul a
def norm (a : Cq) : Rat := a.re * a.re + a.im * a.im

theorem ext' {a b : Cq} (h1 : a.re = b.re) (h2 : a.im = b.im) : a = b := by cases a; cases b; simp_all
theorem mul_comm (a b : Cq) : a.mul b = b.mul a := by apply ext' <;> simp only [mul] <;> grind
theorem mul_assoc (a b c : Cq) : (a.mul b).mul c = a.mul (b.mul c) := by apply ext' <;> simp only [mul] <;> grind
theorem one_mul (a : Cq) : mul ⟨1, 0⟩ a = a := by apply ext' <;> simp only [mul] <;> grind
theorem mul_one (a : Cq) : a.mul ⟨1, 0⟩ = a := by apply ext' <;> simp only [mul] <;> grind
theorem conj_mul (a b : Cq) : (a.mul b).conj = a.conj.mul b.conj := by apply ext' <;> simp only [mul, conj] <;> grind
theorem conj_conj (a : Cq) : a.conj.conj = a := by apply ext' <;> simp only [conj]; grind
theorem mul_conj (a : Cq) : a.mul a.conj = ⟨a.norm, 0⟩ := by apply ext' <;> simp only [mul, conj, norm] <;> grind
theorem mul_mul_mul (a b c d : Cq) : (a.mul b).mul (c.mul d) = (a.mul c).mul (b.mul d) := by apply ext' <;> simp only [mul] <;> grind
theorem pow_mul (a b : Cq) : ∀ n, (a.mul b).pow n = (a.pow n).mul (b.pow n)
  | 0 => by simp only [pow]; exact (one_mul _).symm
  | n + 1 => by simp only [pow]; rw [pow_mul a b n, mul_mul_mul]
theorem conj_pow (a : Cq) : ∀ n, (a.pow n).conj = a.conj.pow n
  | 0 => by apply ext' <;> simp only [pow, conj]; grind
  | n + 1 => by simp only [pow]; rw [conj_mul, conj_pow a n]
theorem norm_pos {a : Cq} (h : a.re ≠ 0 ∨ a.im ≠ 0) : 0 < a.norm := by
  have h1 := sq_nonneg a.re
  have h2 := sq_nonneg a.im
  have key : ∀ x : Rat, x ≠ 0 → 0 < x * x := by
    intro x hx
    have := sq_nonneg x
    have : x * x ≠ 0 := fun h => by rcases Rat.mul_eq_zero.1 h with h | h <;> exact hx h
    grind
  unfold norm
  rcases h with h | h
  · have := key _ h; grind
  · have := key _ h; grind
end Cq
open Cq

/-- The slope of the angle u: at least tan u. -/
def g (u : Rat) : Rat := 2 * u / (2 - u * u)
theorem sq_le_one {u : Rat} (h0 : 0 ≤ u) (h1 : u ≤ 1) : u * u ≤ 1 := by
  have := mul_le_mul_nn h1 h1 h0 (by decide); grind
theorem g_eq {u : Rat} (h0 : 0 ≤ u) (h1 : u ≤ 1) : g u * (2 - u * u) = 2 * u := by
  have := sq_le_one h0 h1
  exact Rat.div_mul_cancel (by grind)
theorem g_nonneg {u : Rat} (h0 : 0 ≤ u) (h1 : u ≤ 1) : 0 ≤ g u := by
  have := sq_le_one h0 h1
  exact div_nonneg (by grind) (by grind)
theorem g_le {u : Rat} (h0 : 0 ≤ u) (h1 : u ≤ 1) : g u ≤ 2 * u := by
  have h2 := sq_le_one h0 h1
  have h3 := g_eq h0 h1
  have h4 := g_nonneg h0 h1
  have h5 := Rat.mul_le_mul_of_nonneg_left (show 1 ≤ 2 - u * u by grind) h4
  grind
theorem le_g {u : Rat} (h0 : 0 ≤ u) (h1 : u ≤ 1) : u ≤ g u := by
  have h2 := sq_le_one h0 h1
  have h3 := g_eq h0 h1
  have h4 := g_nonneg h0 h1
  have h5 := Rat.mul_nonneg h4 (sq_nonneg u)
  grind
/-- The slopes add up. -/
theorem g_super {u v : Rat} (hu : 0 ≤ u) (hv : 0 ≤ v) (h : u + v ≤ 1) : g u * g v < 1 ∧ g u + g v ≤ g (u + v) * (1 - g u * g v) := by
  have a := g_eq hu (show u ≤ 1 by grind)
  have b := g_eq hv (show v ≤ 1 by grind)
  have c := g_eq (show 0 ≤ u + v by grind) h
  have a0 := g_nonneg hu (show u ≤ 1 by grind)
  have b0 := g_nonneg hv (show v ≤ 1 by grind)
  have c0 := g_nonneg (show 0 ≤ u + v by grind) h
  have su := sq_le_one hu (show u ≤ 1 by grind)
  have sv := sq_le_one hv (show v ≤ 1 by grind)
  have ss := sq_le_one (show 0 ≤ u + v by grind) h
  have uv := Rat.mul_nonneg hu hv
  have uv2 := sq_nonneg (u * v)
  generalize g u = x at *
  generalize g v = y at *
  generalize g (u + v) = z at *
  have P : 1 ≤ (2 - u * u) * (2 - v * v) := by
    have := mul_le_mul_nn (show 1 ≤ 2 - u * u by grind) (show 1 ≤ 2 - v * v by grind) (by decide) (by grind); grind
  have e1 : x * y * ((2 - u * u) * (2 - v * v)) = 4 * (u * v) := by
    have : x * y * ((2 - u * u) * (2 - v * v)) = (x * (2 - u * u)) * (y * (2 - v * v)) := by grind
    rw [this, a, b]; grind
  have e2 : (x + y) * ((2 - u * u) * (2 - v * v)) = 2 * (u + v) * (2 - u * v) := by
    have : (x + y) * ((2 - u * u) * (2 - v * v)) = (x * (2 - u * u)) * (2 - v * v) + (y * (2 - v * v)) * (2 - u * u) := by grind
    rw [this, a, b]; grind
  have k1 : 4 * (u * v) < (2 - u * u) * (2 - v * v) := by
    -- (2-u²)(2-v²) - 4uv = 4 - 2(u+v)² + u²v²
    have : (2 - u * u) * (2 - v * v) - 4 * (u * v) = 4 - 2 * ((u + v) * (u + v)) + (u * v) * (u * v) := by grind
    grind
  have xy1 : x * y < 1 := by
    have hlt : x * y * ((2 - u * u) * (2 - v * v)) < 1 * ((2 - u * u) * (2 - v * v)) := by rw [e1, Rat.one_mul]; exact k1
    exact Rat.lt_of_mul_lt_mul_right hlt (by grind)
  refine ⟨xy1, ?_⟩
  -- multiply by P and by 2 - (u+v)²
  have s0 : 0 < 2 - (u + v) * (u + v) := by grind
  have k2 : (2 - u * v) * (2 - (u + v) * (u + v)) ≤ (2 - u * u) * (2 - v * v) - 4 * (u * v) := by
    have e : (2 - u * u) * (2 - v * v) - 4 * (u * v) - (2 - u * v) * (2 - (u + v) * (u + v)) = (u * v) * (u * v) + u * v * (2 - (u + v) * (u + v)) := by grind
    have := Rat.mul_nonneg uv (Rat.le_of_lt s0)
    grind
  have k3 := Rat.mul_le_mul_of_nonneg_left k2 (show 0 ≤ 2 * (u + v) by grind)
  have L : (x + y) * (((2 - u * u) * (2 - v * v)) * (2 - (u + v) * (u + v))) = 2 * (u + v) * ((2 - u * v) * (2 - (u + v) * (u + v))) := by
    rw [← Rat.mul_assoc, e2]; grind
  have R : z * (1 - x * y) * (((2 - u * u) * (2 - v * v)) * (2 - (u + v) * (u + v))) = 2 * (u + v) * ((2 - u * u) * (2 - v * v) - 4 * (u * v)) := by
    have : z * (1 - x * y) * (((2 - u * u) * (2 - v * v)) * (2 - (u + v) * (u + v))) = (z * (2 - (u + v) * (u + v))) * ((2 - u * u) * (2 - v * v) - x * y * ((2 - u * u) * (2 - v * v))) := by grind
    rw [this, c, e1]
  have fin : (x + y) * (((2 - u * u) * (2 - v * v)) * (2 - (u + v) * (u + v))) ≤ z * (1 - x * y) * (((2 - u * u) * (2 - v * v)) * (2 - (u + v) * (u + v))) := by rw [L, R]; exact k3
  exact Rat.le_of_mul_le_mul_right fin (Rat.mul_pos (by grind) s0)
theorem g_mono {u v : Rat} (hu : 0 ≤ u) (huv : u ≤ v) (hv : v ≤ 1) : g u ≤ g v := by
  obtain ⟨h1, h2⟩ := g_super hu (show 0 ≤ v - u by grind) (show u + (v - u) ≤ 1 by grind)
  have e : u + (v - u) = v := by grind
  rw [e] at h2
  have a0 := g_nonneg hu (show u ≤ 1 by grind)
  have b0 := g_nonneg (show 0 ≤ v - u by grind) (show v - u ≤ 1 by grind)
  have c0 := g_nonneg (show 0 ≤ v by grind) hv
  have := Rat.mul_nonneg c0 (Rat.mul_nonneg a0 b0)
  grind

/-- The angle of w is at most u. -/
structure Small (u : Rat) (w : Cq) : Prop where
  u0 : 0 ≤ u
  u1 : u ≤ 1
  re : 0 < w.re
  im : ab w.im ≤ g u * w.re

theorem Small.mono {u v : Rat} {w : Cq} (h : Small u w) (huv : u ≤ v) (hv : v ≤ 1) : Small v w := by
  refine ⟨by have := h.u0; grind, hv, h.re, ?_⟩
  have := Rat.mul_le_mul_of_nonneg_right (g_mono h.u0 huv hv) (Rat.le_of_lt h.re)
  exact Rat.le_trans h.im this
theorem Small.mul {u v : Rat} {a b : Cq} (h : Small u a) (h' : Small v b) (huv : u + v ≤ 1) : Small (u + v) (a.mul b) := by
  obtain ⟨g1, g2⟩ := g_super h.u0 h'.u0 huv
  have x0 := g_nonneg h.u0 h.u1
  have y0 := g_nonneg h'.u0 h'.u1
  have z0 := g_nonneg (show 0 ≤ u + v by have := h.u0; have := h'.u0; grind) huv
  have hre := h.re
  have hre' := h'.re
  have him := h.im
  have him' := h'.im
  generalize g u = x at *
  generalize g v = y at *
  generalize hz : g (u + v) = z at *
  have AB := Rat.mul_pos hre hre'
  have p := mul_le_mul_nn him him' (ab_nonneg _) (Rat.mul_nonneg y0 (Rat.le_of_lt hre'))
  rw [← ab_mul] at p
  have p' := ab_le.1 p
  have q1 : ab (a.re * b.im) ≤ a.re * (y * b.re) := by
    rw [ab_mul, ab_of_nonneg (Rat.le_of_lt hre)]; exact Rat.mul_le_mul_of_nonneg_left him' (Rat.le_of_lt hre)
  have q2 : ab (a.im * b.re) ≤ x * a.re * b.re := by
    rw [ab_mul, ab_of_nonneg (Rat.le_of_lt hre')]; exact Rat.mul_le_mul_of_nonneg_right him (Rat.le_of_lt hre')
  have q3 := ab_add (a.re * b.im) (a.im * b.re)
  have e1 : x * a.re * (y * b.re) = x * y * (a.re * b.re) := by grind
  rw [e1] at p'
  have relow : (1 - x * y) * (a.re * b.re) ≤ a.re * b.re - a.im * b.im := by grind
  have repos : 0 < (1 - x * y) * (a.re * b.re) := Rat.mul_pos (by grind) AB
  refine ⟨by have := h.u0; have := h'.u0; grind, huv, ?_, ?_⟩
  · simp only [Cq.mul]; grind
  · simp only [Cq.mul]
    have r1 := Rat.mul_le_mul_of_nonneg_right g2 (Rat.le_of_lt AB)
    have r2 := Rat.mul_le_mul_of_nonneg_left relow z0
    have e2 : z * (1 - x * y) * (a.re * b.re) = z * ((1 - x * y) * (a.re * b.re)) := by grind
    have e3 : (x + y) * (a.re * b.re) = a.re * (y * b.re) + x * a.re * b.re := by grind
    rw [e2, e3] at r1
    rw [hz]
    have q4 : ab (a.re * b.im) + ab (a.im * b.re) ≤ a.re * (y * b.re) + x * a.re * b.re := by
      generalize ab (a.re * b.im) = s1 at *
      generalize ab (a.im * b.re) = s2 at *
      generalize a.re * (y * b.re) = s3 at *
      generalize x * a.re * b.re = s4 at *
      clear e1 e2 e3 r1 r2 relow repos p p'
      grind
    exact Rat.le_trans q3 (Rat.le_trans q4 (Rat.le_trans r1 r2))
theorem Small.conj {u : Rat} {a : Cq} (h : Small u a) : Small u a.conj := ⟨h.u0, h.u1, h.re, by simp only [Cq.conj]; rw [ab_neg]; exact h.im⟩
theorem Small.smul {u c : Rat} {a : Cq} (h : Small u a) (hc : 0 < c) : Small u (Cq.smul c a) := by
  refine ⟨h.u0, h.u1, Rat.mul_pos hc h.re, ?_⟩
  simp only [Cq.smul]
  rw [ab_mul, ab_of_nonneg (Rat.le_of_lt hc)]
  have := Rat.mul_le_mul_of_nonneg_left h.im (Rat.le_of_lt hc)
  grind
theorem Small.of_smul {u c : Rat} {a : Cq} (h : Small u (Cq.smul c a)) (hc : 0 < c) : Small u a := by
  have := h.smul (Rat.inv_pos.2 hc)
  have e : Cq.smul c⁻¹ (Cq.smul c a) = a := by
    have := Rat.inv_mul_cancel c (Rat.ne_of_lt hc).symm
    apply Cq.ext' <;> simp only [Cq.smul] <;> grind
  rw [e] at this; exact this
theorem Small.one : Small 0 ⟨1, 0⟩ := ⟨by decide, by decide, by decide, by decide +kernel⟩
theorem Small.pow {u : Rat} {a : Cq} (h : Small u a) : ∀ n : Nat, (n : Rat) * u ≤ 1 → Small ((n : Rat) * u) (a.pow n)
  | 0, _ => by
    have e : ((0 : Nat) : Rat) * u = 0 := by rw [show ((0 : Nat) : Rat) = 0 from rfl]; grind
    rw [e]; exact Small.one
  | n + 1, hn => by
    have e : ((n + 1 : Nat) : Rat) = (n : Rat) + 1 := by rw [Rat.natCast_add]; rfl
    have u0 := h.u0
    rw [e] at hn ⊢
    have e2 : ((n : Rat) + 1) * u = (n : Rat) * u + u := by grind
    rw [e2] at hn ⊢
    exact (Small.pow h n (by grind)).mul h hn
/-- A cone of small slope. -/
theorem Small.of_slope {u : Rat} {a : Cq} (h0 : 0 ≤ u) (h1 : u ≤ 1) (hre : 0 < a.re) (h : ab a.im ≤ u * a.re) : Small u a := by
  refine ⟨h0, h1, hre, Rat.le_trans h ?_⟩
  exact Rat.mul_le_mul_of_nonneg_right (le_g h0 h1) (Rat.le_of_lt hre)
end Cx
