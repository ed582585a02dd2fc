/- Words with a bound of their distance from an exact value ('Tr'), through + - * /. Plain: no program in sight. -/
import Derived.Test.YtigckpmeppddcaaNr
set_option linter.unusedVariables false
namespace Cx
open Ieee

/-- The word's value is within e of A, which is at most B in size. -/
structure Tr (w : Nat) (A B e : Rat) : Prop where
  f : fin w
  err : ab (val w - A) ≤ e
  bd : ab A ≤ B

theorem Tr.e0 {w : Nat} {A B e : Rat} (h : Tr w A B e) : 0 ≤ e := Rat.le_trans (ab_nonneg _) h.err
theorem Tr.B0 {w : Nat} {A B e : Rat} (h : Tr w A B e) : 0 ≤ B := Rat.le_trans (ab_nonneg _) h.bd
theorem Tr.val_le {w : Nat} {A B e : Rat} (h : Tr w A B e) : ab (val w) ≤ B + e := by
  have h1 := ab_le.1 h.err
  have h2 := ab_le.1 h.bd
  rw [ab_le]; constructor <;> grind
theorem Tr.mono {w : Nat} {A B e C d : Rat} (h : Tr w A B e) (hC : B ≤ C) (hd : e ≤ d) : Tr w A C d := ⟨h.f, Rat.le_trans h.err hd, Rat.le_trans h.bd hC⟩
theorem Tr.of_eq {w : Nat} {A B : Rat} (hf : fin w) (h : val w = A) (hB : ab A ≤ B) : Tr w A B 0 := ⟨hf, by rw [h, Rat.sub_self]; exact Rat.le_refl, hB⟩

theorem mid_lt {x : Rat} (h : x ≤ 1152921504606846976) : x < p2 1022 := by
  have h1 : p2 60 = 1152921504606846976 := by decide +kernel
  have h2 := p2_lt (show 60 < 1022 by decide)
  grind
theorem mid_lt' {x : Rat} (h : x ≤ 1152921504606846976) : x < p2 1023 := by
  have := mid_lt h
  have := p2_lt (show 1022 < 1023 by decide)
  grind
theorem low_le {x : Rat} (h : 1 / 1267650600228229401496703205376 ≤ x) : p2 (-1022) ≤ x := by
  have h1 : p2 (-100) = 1 / 1267650600228229401496703205376 := by decide +kernel
  have h2 := p2_mono (show (-1022 : Int) ≤ -100 by decide)
  grind

theorem Tr.add {w w' : Nat} {A B e A' B' e' C d : Rat} (h : Tr w A B e) (h' : Tr w' A' B' e') (hC : B + B' ≤ C) (hd : e + e' + (B + B' + e + e') * (1 / 4503599627370496) ≤ d)
    (h1 : B + B' + e + e' ≤ 1152921504606846976) (h2 : 1 / 1267650600228229401496703205376 ≤ B + B' + e + e') : Tr (fadd w w') (A + A') C d := by
  have a1 := ab_le.1 h.err
  have a2 := ab_le.1 h.bd
  have a3 := ab_le.1 h'.err
  have a4 := ab_le.1 h'.bd
  have hS : ab (val w + val w') ≤ B + B' + e + e' := by rw [ab_le]; constructor <;> grind
  obtain ⟨f1, r⟩ := add_rd h.f h'.f (mid_lt' (Rat.le_trans hS h1))
  have hr := ab_le.1 (r.abs hS (low_le h2))
  rw [eps_val] at hr
  refine ⟨f1, ?_, ?_⟩
  · rw [ab_le]; constructor <;> grind
  · rw [ab_le]; constructor <;> grind
theorem Tr.sub {w w' : Nat} {A B e A' B' e' C d : Rat} (h : Tr w A B e) (h' : Tr w' A' B' e') (hC : B + B' ≤ C) (hd : e + e' + (B + B' + e + e') * (1 / 4503599627370496) ≤ d)
    (h1 : B + B' + e + e' ≤ 1152921504606846976) (h2 : 1 / 1267650600228229401496703205376 ≤ B + B' + e + e') : Tr (fsub w w') (A - A') C d := by
  have a1 := ab_le.1 h.err
  have a2 := ab_le.1 h.bd
  have a3 := ab_le.1 h'.err
  have a4 := ab_le.1 h'.bd
  have hS : ab (val w - val w') ≤ B + B' + e + e' := by rw [ab_le]; constructor <;> grind
  obtain ⟨f1, r⟩ := sub_rd h.f h'.f (mid_lt' (Rat.le_trans hS h1))
  have hr := ab_le.1 (r.abs hS (low_le h2))
  rw [eps_val] at hr
  refine ⟨f1, ?_, ?_⟩
  · rw [ab_le]; constructor <;> grind
  · rw [ab_le]; constructor <;> grind
theorem ab_mul_le {x y a b : Rat} (h1 : ab x ≤ a) (h2 : ab y ≤ b) : ab (x * y) ≤ a * b := by
  rw [ab_mul]; exact mul_le_mul_nn h1 h2 (ab_nonneg _) (Rat.le_trans (ab_nonneg _) h2)
theorem Tr.mul {w w' : Nat} {A B e A' B' e' C d : Rat} (h : Tr w A B e) (h' : Tr w' A' B' e') (hC : B * B' ≤ C) (hd : e * B' + e' * B + e * e' + (B + e) * (B' + e') * (1 / 4503599627370496) ≤ d)
    (h1 : (B + e) * (B' + e') ≤ 1152921504606846976) (h2 : 1 / 1267650600228229401496703205376 ≤ (B + e) * (B' + e')) : Tr (fmul w w') (A * A') C d := by
  have hS := ab_mul_le h.val_le h'.val_le
  obtain ⟨f1, _, r⟩ := mul_rd h.f h'.f (mid_lt' (Rat.le_trans hS h1))
  have hr := r.abs hS (low_le h2)
  rw [eps_val] at hr
  have t1 := ab_mul_le h.err h'.bd
  have t2 := ab_mul_le h'.err h.bd
  have t3 := ab_mul_le h.err h'.err
  rw [ab_le] at t1 t2 t3 hr
  refine ⟨f1, ?_, Rat.le_trans (ab_mul_le h.bd h'.bd) hC⟩
  rw [ab_le]
  constructor <;> grind
/-- Over a denominator of at least L. -/
theorem Tr.div {w w' : Nat} {A B e A' B' e' L C d : Rat} (h : Tr w A B e) (h' : Tr w' A' B' e') (hL : L ≤ A') (hL0 : 0 < L) (hM : 2 * e' ≤ L)
    (hC : B ≤ C * L) (hd : (e + C * e') * 2 + (2 * (B + e)) * (1 / 4503599627370496) ≤ d * L)
    (h1 : 2 * (B + e) ≤ 1152921504606846976 * L) (h2 : L * (1 / 1267650600228229401496703205376) ≤ 2 * (B + e)) : Tr (fdiv w w') (A / A') C d := by
  have a1 := ab_le.1 h.err
  have a2 := ab_le.1 h.bd
  have a3 := ab_le.1 h'.err
  have pA : 0 < A' := by grind
  have hv : L ≤ 2 * val w' := by grind
  have pv : 0 < val w' := by grind
  have nv : val w' ≠ 0 := (Rat.ne_of_lt pv).symm
  have nA : A' ≠ 0 := (Rat.ne_of_lt pA).symm
  have hqv : val w / val w' * val w' = val w := Rat.div_mul_cancel nv
  have hqA : A / A' * A' = A := Rat.div_mul_cancel nA
  have hSL : 2 * (B + e) / L * L = 2 * (B + e) := Rat.div_mul_cancel (Rat.ne_of_lt hL0).symm
  have hdr := div_rd h.f h'.f nv
  generalize val w / val w' = q at *
  generalize A / A' = q' at *
  generalize 2 * (B + e) / L = S at *
  have e1 : ab q * val w' = ab (val w) := by
    have := ab_mul q (val w')
    rw [hqv, ab_of_nonneg (Rat.le_of_lt pv)] at this
    exact this.symm
  have hq : ab q * L ≤ S * L := by
    rw [hSL]
    have e2 := h.val_le
    have e3 := Rat.mul_le_mul_of_nonneg_left hv (ab_nonneg q)
    have e4 : ab q * (2 * val w') = 2 * (ab q * val w') := by grind
    rw [e4, e1] at e3
    grind
  have hS := Rat.le_of_mul_le_mul_right hq hL0
  have hb1 : S ≤ 1152921504606846976 := Rat.le_of_mul_le_mul_right (by rw [hSL]; exact h1) hL0
  have hb2 : 1 / 1267650600228229401496703205376 ≤ S := Rat.le_of_mul_le_mul_right (by rw [hSL, Rat.mul_comm]; exact h2) hL0
  obtain ⟨_, f1, _, r⟩ := hdr (mid_lt (Rat.le_trans hS hb1))
  have hr := r.abs hS (low_le hb2)
  rw [eps_val] at hr
  have hrL : ab (val (fdiv w w') - q) * L ≤ (2 * (B + e)) * (1 / 4503599627370496) := by
    have := Rat.mul_le_mul_of_nonneg_right hr (Rat.le_of_lt hL0)
    have e2 : S * (1 / 4503599627370496) * L = (S * L) * (1 / 4503599627370496) := by grind
    rw [e2, hSL] at this; exact this
  have hAq : ab q' ≤ C := by
    have e2 : ab q' * A' = ab A := by
      have := ab_mul q' A'
      rw [hqA, ab_of_nonneg (Rat.le_of_lt pA)] at this
      exact this.symm
    have e3 := Rat.mul_le_mul_of_nonneg_left hL (ab_nonneg q')
    rw [e2] at e3
    exact Rat.le_of_mul_le_mul_right (Rat.le_trans e3 (Rat.le_trans h.bd hC)) hL0
  have hdist : ab (q - q') * L ≤ (e + C * e') * 2 := by
    have e2 : (q - q') * val w' = (val w - A) - q' * (val w' - A') := by grind
    have e3 : ab (q - q') * val w' = ab ((val w - A) - q' * (val w' - A')) := by
      rw [← e2, ab_mul, ab_of_nonneg (Rat.le_of_lt pv)]
    have e4 := ab_mul_le hAq h'.err
    have e5 : ab ((val w - A) - q' * (val w' - A')) ≤ e + C * e' := by
      rw [ab_le] at e4 ⊢
      constructor <;> grind
    have e6 := Rat.mul_le_mul_of_nonneg_left hv (ab_nonneg (q - q'))
    have e7 : ab (q - q') * (2 * val w') = 2 * (ab (q - q') * val w') := by grind
    rw [e7, e3] at e6
    grind
  refine ⟨f1, ?_, hAq⟩
  have e8 : val (fdiv w w') - q' = (val (fdiv w w') - q) + (q - q') := by grind
  have e9 := ab_add (val (fdiv w w') - q) (q - q')
  rw [← e8] at e9
  have e10 := Rat.mul_le_mul_of_nonneg_right e9 (Rat.le_of_lt hL0)
  rw [Rat.add_mul] at e10
  refine Rat.le_of_mul_le_mul_right (Rat.le_trans e10 (Rat.le_trans ?_ hd)) hL0
  generalize ab (val (fdiv w w') - q) * L = z1 at *
  generalize ab (q - q') * L = z2 at *
  grind
theorem Tr.neg {w : Nat} {A B e : Rat} (h : Tr w A B e) : Tr (fneg w) (-A) B e := by
  obtain ⟨n1, n2, _⟩ := fneg_spec h.f
  refine ⟨n1, ?_, by rw [ab_neg]; exact h.bd⟩
  rw [n2]
  have : -val w - -A = -(val w - A) := by grind
  rw [this, ab_neg]; exact h.err
end Cx
