/- Polynomials by their coefficients: value, derivative, remainder, bound, shift; the arctangent's Taylor polynomial gives the angle of 1 + i t; so does the library's rational function. Plain: no program in sight. -/
import Derived.Test.YtigckpmeppddcaaGb
import Derived.Test.YtigckpmeppddcaaAt
set_option linter.unusedVariables false
namespace Cx
open Cq

def ev : List Rat → Rat → Rat
  | [], _ => 0
  | c :: p, x => c + x * ev p x
def padd : List Rat → List Rat → List Rat
  | [], q => q
  | p, [] => p
  | a :: p, b :: q => (a + b) :: padd p q
def psc (c : Rat) : List Rat → List Rat
  | [] => []
  | a :: p => c * a :: psc c p
def pmul : List Rat → List Rat → List Rat
  | [], _ => []
  | a :: p, q => padd (psc a q) (0 :: pmul p q)
def dv : List Rat → List Rat
  | [] => []
  | _ :: p => padd p (0 :: dv p)
/-- A bound on |x| at most r. -/
def bnd : List Rat → Rat → Rat
  | [], _ => 0
  | c :: p, r => ab c + r * bnd p r
def sh : List Rat → Rat → List Rat
  | [], _ => []
  | a :: p, c => padd (a :: sh p c) (psc c (sh p c))

theorem ev_padd (x : Rat) : ∀ p q : List Rat, ev (padd p q) x = ev p x + ev q x
  | [], q => by simp only [padd, ev]; grind
  | a :: p, [] => by simp only [padd, ev]; grind
  | a :: p, b :: q => by simp only [padd, ev]; rw [ev_padd x p q]; grind
theorem ev_psc (c x : Rat) : ∀ p : List Rat, ev (psc c p) x = c * ev p x
  | [] => by simp only [psc, ev]; grind
  | a :: p => by simp only [psc, ev]; rw [ev_psc c x p]; grind
theorem ev_pmul (x : Rat) : ∀ p q : List Rat, ev (pmul p q) x = ev p x * ev q x
  | [], q => by simp only [pmul, ev]; grind
  | a :: p, q => by simp only [pmul, ev]; rw [ev_padd, ev_psc]; simp only [ev]; rw [ev_pmul x p q]; grind
theorem ev_sh (c x : Rat) : ∀ p : List Rat, ev (sh p c) x = ev p (x + c)
  | [] => by simp only [sh, ev]
  | a :: p => by simp only [sh, ev]; rw [ev_padd, ev_psc]; simp only [ev]; rw [ev_sh c x p]; grind
theorem bnd_nonneg {r : Rat} (hr : 0 ≤ r) : ∀ p : List Rat, 0 ≤ bnd p r
  | [] => by simp only [bnd]; decide
  | c :: p => by
    simp only [bnd]
    have := ab_nonneg c
    have := Rat.mul_nonneg hr (bnd_nonneg hr p)
    grind
theorem ev_bnd {x r : Rat} (hx : ab x ≤ r) : ∀ p : List Rat, ab (ev p x) ≤ bnd p r
  | [] => by simp only [ev, bnd]; decide +kernel
  | c :: p => by
    simp only [ev, bnd]
    have h1 := ab_add c (x * ev p x)
    have h2 := ab_mul_le hx (ev_bnd hx p)
    grind

/-- The remainder's bound on [-1, 1]. -/
def mv : List Rat → Rat
  | [] => 0
  | _ :: p => mv p + bnd (dv p) 1
theorem rem_le {s t : Rat} (hs : ab s ≤ 1) (ht : ab t ≤ 1) : ∀ p : List Rat, ab (ev p t - ev p s - (t - s) * ev (dv p) s) ≤ mv p * ((t - s) * (t - s))
  | [] => by simp only [ev, dv, mv]; rw [show (0 : Rat) - 0 - (t - s) * 0 = 0 by grind, ab_zero]; grind
  | c :: p => by
    have ih := rem_le hs ht p
    simp only [ev, dv, mv]
    rw [ev_padd]
    simp only [ev]
    have e : c + t * ev p t - (c + s * ev p s) - (t - s) * (ev p s + (0 + s * ev (dv p) s)) = t * (ev p t - ev p s - (t - s) * ev (dv p) s) + (t - s) * (t - s) * ev (dv p) s := by grind
    rw [e]
    have h1 := ab_add (t * (ev p t - ev p s - (t - s) * ev (dv p) s)) ((t - s) * (t - s) * ev (dv p) s)
    have h2 := ab_mul_le ht ih
    have h3 : ab ((t - s) * (t - s) * ev (dv p) s) ≤ (t - s) * (t - s) * bnd (dv p) 1 := by
      rw [ab_mul, ab_of_nonneg (sq_nonneg (t - s))]
      exact Rat.mul_le_mul_of_nonneg_left (ev_bnd hs (dv p)) (sq_nonneg (t - s))
    generalize ab (t * (ev p t - ev p s - (t - s) * ev (dv p) s) + (t - s) * (t - s) * ev (dv p) s) = z1 at *
    generalize ab (t * (ev p t - ev p s - (t - s) * ev (dv p) s)) = z2 at *
    generalize ab ((t - s) * (t - s) * ev (dv p) s) = z3 at *
    generalize (t - s) * (t - s) = z4 at *
    clear e ih
    grind

/-! ### The angle of 1 + i t by small steps -/
theorem ang_tiny {h : Rat} (h1 : ab h ≤ 1) : Ang ⟨1, h⟩ h (ab h * (h * h)) := by
  have hh0 := sq_nonneg h
  have hle : ab h * (h * h) ≤ 1 := by
    have a1 : h * h ≤ 1 := by have := sq_le_one (ab_nonneg h) h1; rw [ab_sq] at this; exact this
    have := mul_le_mul_nn h1 a1 (ab_nonneg h) (by decide)
    exact Rat.le_trans this (by decide +kernel)
  have key : ∀ {h : Rat}, 0 ≤ h → h ≤ 1 → Ang ⟨1, h⟩ h (h * (h * h)) := by
    intro h h0 h1
    have hs := cis_small (c := h) (by rw [ab_of_nonneg h0]; exact h1)
    rw [ab_of_nonneg h0] at hs
    have hl := cis_low h0 h1
    have hu := (ab_le.1 hs.im).1
    have hg := g_eq h0 h1
    have hg0 := g_nonneg h0 h1
    have hsq := sq_le_one h0 h1
    have hX := hs.re
    unfold Ang
    rw [← conj_cis]
    have e1 : ((⟨1, h⟩ : Cq).mul (cis h).conj).re = (cis h).re + h * (cis h).im := by simp only [Cq.mul, Cq.conj]; grind
    have e2 : ((⟨1, h⟩ : Cq).mul (cis h).conj).im = h * (cis h).re - (cis h).im := by simp only [Cq.mul, Cq.conj]; grind
    generalize (cis h).re = X at *
    generalize (cis h).im = Y at *
    have Y0 : 0 ≤ Y := by have := Rat.mul_nonneg h0 (Rat.le_of_lt hX); grind
    have hY := Rat.mul_nonneg h0 Y0
    have h3 := Rat.mul_nonneg h0 (Rat.mul_nonneg h0 h0)
    -- g h - h <= h^3
    have hg3 : g h - h ≤ h * (h * h) := by
      have e3 : (g h - h) * (2 - h * h) = h * (h * h) := by rw [show (g h - h) * (2 - h * h) = g h * (2 - h * h) - h * (2 - h * h) by grind, hg]; grind
      have hd : 0 ≤ g h - h := by have := le_g h0 h1; grind
      have := Rat.mul_le_mul_of_nonneg_left (show 1 ≤ 2 - h * h by grind) hd
      grind
    have hh1 : h * (h * h) ≤ 1 := by
      have := mul_le_mul_nn h1 hsq h0 (by decide); grind
    refine Small.of_slope h3 hh1 (by rw [e1]; grind) ?_
    rw [e1, e2, ab_le]
    have t1 := Rat.mul_le_mul_of_nonneg_right hg3 (Rat.le_of_lt hX)
    have t2 := Rat.mul_nonneg h3 hY
    constructor
    · have := Rat.mul_nonneg h3 (Rat.le_of_lt hX)
      grind
    · grind
  by_cases h0 : 0 ≤ h
  · rw [ab_of_nonneg h0] at h1 ⊢; exact key h0 h1
  · have hneg : h ≤ 0 := by grind
    rw [ab_of_neg hneg] at h1 ⊢
    have := (key (h := -h) (by grind) h1).conj
    have e : Cq.conj ⟨1, -h⟩ = ⟨1, h⟩ := by apply Cq.ext' <;> simp only [Cq.conj]; grind
    rw [e, show -(-h) = h by grind, show -h * (-h * -h) = -h * (h * h) by grind] at this
    exact this

/-- One step from s to t. -/
theorem ang_step {s t a b u q : Rat} (h : Ang ⟨1, s⟩ a u) (hst : 0 < 1 + s * t) (hq : q * (1 + s * t) = t - s) (hq1 : ab q ≤ 1) (ha : ab a ≤ 60) (hd : ab (b - a - q) ≤ 1)
    (hs : u + ab q * (q * q) + ab (b - a - q) + 2 * mu ≤ 1) : Ang ⟨1, t⟩ b (u + ab q * (q * q) + ab (b - a - q) + 2 * mu) := by
  have mp := mu_pos
  have d0 := ab_nonneg (b - a - q)
  have h1 := h.mul (ang_tiny hq1) (Rat.le_trans ha (by decide)) (Rat.le_trans hq1 (by decide)) (by grind)
  have hc : 0 < (1 + s * s) / (1 + s * t) := by
    rw [Rat.div_def]; exact Rat.mul_pos (by have := sq_nonneg s; grind) (Rat.inv_pos.2 hst)
  have e : (⟨1, s⟩ : Cq).mul ⟨1, q⟩ = Cq.smul ((1 + s * s) / (1 + s * t)) ⟨1, t⟩ := by
    have hne : 1 + s * t ≠ 0 := (Rat.ne_of_lt hst).symm
    have hk : (1 + s * s) / (1 + s * t) * (1 + s * t) = 1 + s * s := Rat.div_mul_cancel hne
    generalize (1 + s * s) / (1 + s * t) = k at *
    have cancel : ∀ {x y : Rat}, x * (1 + s * t) = y * (1 + s * t) → x = y := by
      intro x y hxy
      have := congrArg (· * (1 + s * t)⁻¹) hxy
      simp only [Rat.mul_assoc, Rat.mul_inv_cancel _ hne, Rat.mul_one] at this
      exact this
    apply Cq.ext' <;> simp only [Cq.mul, Cq.smul]
    · apply cancel; grind
    · apply cancel; grind
  rw [e] at h1
  have h2 := h1.of_smul hc
  have hab : ab (a + q) ≤ 64 := by
    have := ab_add a q
    grind
  have e2 : b - (a + q) = b - a - q := by grind
  have h3 := h2.near (b := b) hab (by rw [e2]; exact hd) (by rw [e2]; grind)
  rw [e2] at h3
  exact h3.mono (by grind) hs
end Cx
