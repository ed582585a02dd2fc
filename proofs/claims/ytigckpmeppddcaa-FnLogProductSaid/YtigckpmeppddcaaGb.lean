/- 'cis a' and 'Ang z a u': angles of complex rationals, multiplicative; small perturbations; angles below 1 are known. Plain: no program in sight. -/
import Derived.Test.YtigckpmeppddcaaGa
set_option linter.unusedVariables false
namespace Cx
open Cq

/-- The number of factors. -/
def NN : Nat := 1606938044258990275541962092341162602522202993782792835301376
theorem NN_val : NN = 1606938044258990275541962092341162602522202993782792835301376 := rfl
theorem NN_rat : ((NN : Nat) : Rat) = 1606938044258990275541962092341162602522202993782792835301376 := rfl
attribute [irreducible] NN
def cis (a : Rat) : Cq := Cq.pow ⟨1, a / (NN : Rat)⟩ NN
theorem NN_pos : (0 : Rat) < ((NN : Nat) : Rat) := by rw [NN_rat]; decide

theorem conj_cis (a : Rat) : (cis a).conj = cis (-a) := by
  unfold cis
  rw [conj_pow]
  have : Cq.conj ⟨1, a / (NN : Rat)⟩ = ⟨1, -a / (NN : Rat)⟩ := by
    apply Cq.ext' <;> simp only [Cq.conj]
    rw [Rat.div_def, Rat.div_def]; grind
  rw [this]

/-- 2^-300: what a product of two costs. -/
def mu : Rat := 1 / 2037035976334486086268445688409378161051468393665936250636140449354381299763336706183397376
theorem mu_pos : 0 < mu := by decide +kernel

theorem small_tri {x y : Rat} (h : ab (x * y * (x + y)) ≤ 1) : Small (ab (x * y * (x + y))) (((⟨1, x⟩ : Cq).mul ⟨1, y⟩).mul ⟨1, -(x + y)⟩) := by
  have hre : 1 ≤ 1 - x * y + (x + y) * (x + y) := by
    have h1 := sq_nonneg (x + y)
    have h2 := sq_nonneg x
    have h3 := sq_nonneg y
    grind
  have e1 : (((⟨1, x⟩ : Cq).mul ⟨1, y⟩).mul ⟨1, -(x + y)⟩).re = 1 - x * y + (x + y) * (x + y) := by simp only [Cq.mul]; grind
  have e2 : (((⟨1, x⟩ : Cq).mul ⟨1, y⟩).mul ⟨1, -(x + y)⟩).im = x * y * (x + y) := by simp only [Cq.mul]; grind
  refine Small.of_slope (ab_nonneg _) h (by rw [e1]; grind) ?_
  rw [e1, e2]
  have := Rat.mul_le_mul_of_nonneg_left hre (ab_nonneg (x * y * (x + y)))
  grind

theorem cis_mul {a b : Rat} (ha : ab a ≤ 64) (hb : ab b ≤ 64) : Small mu (((cis a).mul (cis b)).mul (cis (-(a + b)))) := by
  unfold cis
  rw [← pow_mul, ← pow_mul]
  have hN := NN_pos
  have hne : ((NN : Nat) : Rat) ≠ 0 := (Rat.ne_of_lt hN).symm
  have ex : a / (NN : Rat) * (NN : Rat) = a := Rat.div_mul_cancel hne
  have ey : b / (NN : Rat) * (NN : Rat) = b := Rat.div_mul_cancel hne
  have ez : -(a + b) / (NN : Rat) = -(a / (NN : Rat) + b / (NN : Rat)) := by rw [Rat.div_def, Rat.div_def, Rat.div_def]; grind
  rw [ez]
  generalize a / (NN : Rat) = x at *
  generalize b / (NN : Rat) = y at *
  -- |x|, |y| <= 64 / NN
  have key : ∀ {t c : Rat}, t * (NN : Rat) = c → ab c ≤ 64 → ab t * (NN : Rat) ≤ 64 := by
    intro t c h1 h2
    rw [← h1, ab_mul, ab_of_nonneg (Rat.le_of_lt hN)] at h2; exact h2
  have bx := key ex ha
  have by' := key ey hb
  have bs : ab (x + y) * (NN : Rat) ≤ 128 := by
    have := Rat.mul_le_mul_of_nonneg_right (ab_add x y) (Rat.le_of_lt hN)
    grind
  -- NN * |x y (x+y)| * NN * NN <= 64 * 64 * 128
  have p1 := mul_le_mul_nn bx by' (Rat.mul_nonneg (ab_nonneg x) (Rat.le_of_lt hN)) (by decide)
  have p2 := mul_le_mul_nn p1 bs (Rat.mul_nonneg (Rat.mul_nonneg (ab_nonneg x) (Rat.le_of_lt hN)) (Rat.mul_nonneg (ab_nonneg y) (Rat.le_of_lt hN))) (by decide +kernel)
  have e : ab x * (NN : Rat) * (ab y * (NN : Rat)) * (ab (x + y) * (NN : Rat)) = ((NN : Rat) * ab (x * y * (x + y))) * ((NN : Rat) * (NN : Rat)) := by
    rw [ab_mul, ab_mul]; grind
  rw [e] at p2
  have hmu : (64 : Rat) * 64 * 128 ≤ mu * ((NN : Rat) * (NN : Rat)) := by rw [NN_rat]; decide +kernel
  have p3 : (NN : Rat) * ab (x * y * (x + y)) ≤ mu := Rat.le_of_mul_le_mul_right (Rat.le_trans p2 hmu) (Rat.mul_pos hN hN)
  have hmu1 : mu ≤ 1 := by decide +kernel
  have hone : ab (x * y * (x + y)) ≤ 1 := by
    have h1 : (1 : Rat) ≤ (NN : Rat) := by rw [NN_rat]; decide +kernel
    have h2 := Rat.mul_le_mul_of_nonneg_right h1 (ab_nonneg (x * y * (x + y)))
    grind
  have := (small_tri hone).pow NN (Rat.le_trans p3 hmu1)
  exact this.mono p3 hmu1

/-- Small angles: what cis is. -/
theorem pow_low {x : Rat} (hx : 0 ≤ x) (hx1 : x ≤ 1) : ∀ n : Nat, (n : Rat) * x ≤ 1 → 0 < (Cq.pow ⟨1, x⟩ n).re ∧ (n : Rat) * x * (Cq.pow ⟨1, x⟩ n).re ≤ (Cq.pow ⟨1, x⟩ n).im
  | 0, _ => by
    have z : ((0 : Nat) : Rat) = 0 := rfl
    rw [z]
    simp only [Cq.pow]
    exact ⟨by decide, by grind⟩
  | n + 1, hn => by
    have e : ((n + 1 : Nat) : Rat) = (n : Rat) + 1 := by rw [Rat.natCast_add]; rfl
    have n0 : (0 : Rat) ≤ n := Rat.natCast_nonneg
    have hs : Small x (⟨1, x⟩ : Cq) := Small.of_slope hx hx1 (show (0 : Rat) < 1 by decide) (by rw [ab_of_nonneg hx]; grind)
    have hS := hs.pow (n + 1) hn
    rw [e] at hn ⊢
    obtain ⟨h1, h2⟩ := pow_low hx hx1 n (by grind)
    refine ⟨hS.re, ?_⟩
    simp only [Cq.pow, Cq.mul]
    generalize (Cq.pow ⟨1, x⟩ n).re = X at *
    generalize (Cq.pow ⟨1, x⟩ n).im = Y at *
    have nx := Rat.mul_nonneg n0 hx
    have Y0 : 0 ≤ Y := by have := Rat.mul_nonneg nx (Rat.le_of_lt h1); grind
    have t := Rat.mul_nonneg (Rat.mul_nonneg (show 0 ≤ (n : Rat) + 1 by grind) (Rat.mul_nonneg hx hx)) Y0
    grind

theorem cis_small {c : Rat} (h : ab c ≤ 1) : Small (ab c) (cis c) := by
  have hN := NN_pos
  have hne : ((NN : Nat) : Rat) ≠ 0 := (Rat.ne_of_lt hN).symm
  have ex : c / (NN : Rat) * (NN : Rat) = c := Rat.div_mul_cancel hne
  unfold cis
  generalize c / (NN : Rat) = x at *
  have hx : (NN : Rat) * ab x = ab c := by rw [← ex, ab_mul, ab_of_nonneg (Rat.le_of_lt hN)]; grind
  have hx1 : ab x ≤ 1 := by
    have h1 : (1 : Rat) ≤ (NN : Rat) := by rw [NN_rat]; decide +kernel
    have h2 := Rat.mul_le_mul_of_nonneg_right h1 (ab_nonneg x)
    grind
  have hs : Small (ab x) (⟨1, x⟩ : Cq) := Small.of_slope (ab_nonneg x) hx1 (show (0 : Rat) < 1 by decide) (by show ab x ≤ ab x * 1; grind)
  have := hs.pow NN (by rw [hx]; exact h)
  rw [hx] at this; exact this
theorem cis_low {c : Rat} (h0 : 0 ≤ c) (h : c ≤ 1) : c * (cis c).re ≤ (cis c).im := by
  have hN := NN_pos
  have hne : ((NN : Nat) : Rat) ≠ 0 := (Rat.ne_of_lt hN).symm
  have ex : c / (NN : Rat) * (NN : Rat) = c := Rat.div_mul_cancel hne
  have x0 : 0 ≤ c / (NN : Rat) := div_nonneg h0 hN
  unfold cis
  generalize c / (NN : Rat) = x at *
  have hx : (NN : Rat) * x = c := by rw [← ex]; grind
  have hx1 : x ≤ 1 := by
    have h1 : (1 : Rat) ≤ (NN : Rat) := by rw [NN_rat]; decide +kernel
    have h2 := Rat.mul_le_mul_of_nonneg_right h1 x0
    grind
  have := (pow_low x0 hx1 NN (by rw [hx]; exact h)).2
  rw [hx] at this; exact this
theorem cis_norm_pos (a : Rat) : 0 < (cis a).norm := by
  have key : ∀ (x : Rat) (n : Nat), 0 < (Cq.pow ⟨1, x⟩ n).norm := by
    intro x n
    induction n with
    | zero => simp only [Cq.pow, Cq.norm]; decide +kernel
    | succ n ih =>
      have e : (Cq.pow ⟨1, x⟩ (n + 1)).norm = (Cq.pow ⟨1, x⟩ n).norm * (1 + x * x) := by simp only [Cq.pow, Cq.norm, Cq.mul]; grind
      rw [e]
      exact Rat.mul_pos ih (by have := sq_nonneg x; grind)
  exact key _ _

/-- z has the angle a, up to u. -/
def Ang (z : Cq) (a u : Rat) : Prop := Small u (z.mul (cis (-a)))

theorem Ang.mono {z : Cq} {a u v : Rat} (h : Ang z a u) (huv : u ≤ v) (hv : v ≤ 1) : Ang z a v := Small.mono h huv hv
theorem Ang.mul {z w : Cq} {a b u v : Rat} (h : Ang z a u) (h' : Ang w b v) (ha : ab a ≤ 64) (hb : ab b ≤ 64) (hs : u + v + mu ≤ 1) : Ang (z.mul w) (a + b) (u + v + mu) := by
  have mp := mu_pos
  have hab := Small.mul h h' (by grind)
  have hM := hab.mul (cis_mul ha hb) hs
  have e : ((z.mul (cis (-a))).mul (w.mul (cis (-b)))).mul (((cis a).mul (cis b)).mul (cis (-(a + b)))) = Cq.smul ((cis a).norm * (cis b).norm) ((z.mul w).mul (cis (-(a + b)))) := by
    have e1 : cis (-a) = (cis a).conj := (conj_cis a).symm
    have e2 : cis (-b) = (cis b).conj := (conj_cis b).symm
    rw [e1, e2]
    apply Cq.ext' <;> simp only [Cq.mul, Cq.conj, Cq.smul, Cq.norm] <;> grind
  rw [e] at hM
  exact hM.of_smul (Rat.mul_pos (cis_norm_pos a) (cis_norm_pos b))
theorem Ang.conj {z : Cq} {a u : Rat} (h : Ang z a u) : Ang z.conj (-a) u := by
  have := Small.conj h
  rw [conj_mul, conj_cis] at this
  exact this
theorem Ang.smul {z : Cq} {a u c : Rat} (h : Ang z a u) (hc : 0 < c) : Ang (Cq.smul c z) a u := by
  have := Small.smul h hc
  have e : Cq.smul c (z.mul (cis (-a))) = (Cq.smul c z).mul (cis (-a)) := by apply Cq.ext' <;> simp only [Cq.mul, Cq.smul] <;> grind
  rw [e] at this; exact this
theorem Ang.of_smul {z : Cq} {a u c : Rat} (h : Ang (Cq.smul c z) a u) (hc : 0 < c) : Ang z a u := by
  have e : Cq.smul c (z.mul (cis (-a))) = (Cq.smul c z).mul (cis (-a)) := by apply Cq.ext' <;> simp only [Cq.mul, Cq.smul] <;> grind
  unfold Ang at h
  rw [← e] at h
  exact Small.of_smul h hc
/-- Turned by a small factor. -/
theorem Ang.turn {z w : Cq} {a u v : Rat} (h : Ang z a u) (h' : Small v w) (hs : u + v ≤ 1) : Ang (z.mul w) a (u + v) := by
  have := Small.mul h h' hs
  have e : (z.mul (cis (-a))).mul w = (z.mul w).mul (cis (-a)) := by apply Cq.ext' <;> simp only [Cq.mul] <;> grind
  rw [e] at this; exact this
theorem ang_one {d : Rat} (h : ab d ≤ 1) : Ang ⟨1, 0⟩ d (ab d) := by
  unfold Ang
  rw [one_mul, ← ab_neg d]
  exact cis_small (by rw [ab_neg]; exact h)
/-- Another angle near by. -/
theorem Ang.near {z : Cq} {a b u : Rat} (h : Ang z a u) (ha : ab a ≤ 64) (hd : ab (b - a) ≤ 1) (hs : u + ab (b - a) + mu ≤ 1) : Ang z b (u + ab (b - a) + mu) := by
  have := h.mul (ang_one hd) ha (Rat.le_trans hd (by decide)) hs
  rw [Cq.mul_one, show a + (b - a) = b by grind] at this
  exact this
theorem Ang.to {z : Cq} {a b u d v : Rat} (h : Ang z a u) (ha : ab a ≤ 64) (hd : ab (b - a) ≤ d) (hv : u + d + mu ≤ v) (hv1 : v ≤ 1) : Ang z b v := by
  have mp := mu_pos
  have h0 := Small.u0 h
  have hle : u + ab (b - a) + mu ≤ v := by grind
  exact (h.near ha (by grind) (Rat.le_trans hle hv1)).mono hle hv1
theorem Ang.le_one {z : Cq} {a u : Rat} (h : Ang z a u) : u ≤ 1 := Small.u1 h
theorem Ang.nonneg {z : Cq} {a u : Rat} (h : Ang z a u) : 0 ≤ u := Small.u0 h
theorem Ang.nz {z : Cq} {a u : Rat} (h : Ang z a u) : z.re ≠ 0 ∨ z.im ≠ 0 := by
  by_cases h1 : z.re = 0
  · by_cases h2 : z.im = 0
    · have := Small.re h
      simp only [Cq.mul, h1, h2] at this
      grind
    · exact Or.inr h2
  · exact Or.inl h1
/-- Two angles of one number: their difference is an angle of 1. -/
theorem Ang.diff {z : Cq} {a b u v : Rat} (h : Ang z a u) (h' : Ang z b v) (ha : ab a ≤ 64) (hb : ab b ≤ 64) (hs : u + v + mu ≤ 1) : Ang ⟨1, 0⟩ (a - b) (u + v + mu) := by
  have h2 := h.mul h'.conj ha (by rw [ab_neg]; exact hb) hs
  rw [Cq.mul_conj] at h2
  have hn := Cq.norm_pos h.nz
  have e : (⟨z.norm, 0⟩ : Cq) = Cq.smul z.norm ⟨1, 0⟩ := by apply Cq.ext' <;> simp only [Cq.smul] <;> grind
  rw [e] at h2
  have := h2.of_smul hn
  rw [show a + -b = a - b by grind] at this
  exact this
/-- An angle of 1 that is at most 1 in size is small. -/
theorem Ang.of_one {c u : Rat} (h : Ang ⟨1, 0⟩ c u) (hc : ab c ≤ 1) : ab c ≤ g u := by
  have key : ∀ {d : Rat}, Ang ⟨1, 0⟩ d u → 0 ≤ d → d ≤ 1 → d ≤ g u := by
    intro d hd h0 h1
    have h2 := hd.conj
    have e : Cq.conj ⟨1, 0⟩ = ⟨1, 0⟩ := by apply Cq.ext' <;> simp only [Cq.conj]; decide
    unfold Ang at h2
    rw [e, one_mul, show -(-d) = d by grind] at h2
    have h3 := cis_low h0 h1
    have h4 := (ab_le.1 h2.im).1
    exact Rat.le_of_mul_le_mul_right (Rat.le_trans h3 h4) h2.re
  by_cases h0 : 0 ≤ c
  · rw [ab_of_nonneg h0] at hc ⊢; exact key h h0 hc
  · have hneg : c ≤ 0 := by grind
    rw [ab_of_neg hneg] at hc ⊢
    have h2 := h.conj
    have e : Cq.conj ⟨1, 0⟩ = ⟨1, 0⟩ := by apply Cq.ext' <;> simp only [Cq.conj]; decide
    rw [e] at h2
    exact key h2 (by grind) hc
end Cx
