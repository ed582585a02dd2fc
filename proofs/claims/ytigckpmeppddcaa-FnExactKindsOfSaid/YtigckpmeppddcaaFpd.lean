/- Relative nearness of positive rationals ('Rl'), additive under products; the square root of a double. Plain: no program in sight. -/
import Derived.Test.YtigckpmeppddcaaFpc
set_option linter.unusedVariables false
namespace Cx
open Ieee

theorem mul_le_mul_nn {a b c d : Rat} (h1 : a ≤ b) (h2 : c ≤ d) (ha : 0 ≤ a) (hd : 0 ≤ d) : a * c ≤ b * d := by
  have e1 := Rat.mul_le_mul_of_nonneg_left h2 ha
  have e2 := Rat.mul_le_mul_of_nonneg_right h1 hd
  exact Rat.le_trans e1 e2
theorem sq_nonneg (a : Rat) : 0 ≤ a * a := by
  rcases Rat.le_total (a := 0) (b := a) with h | h
  · exact Rat.mul_nonneg h h
  · have := Rat.mul_nonneg (a := -a) (b := -a) (by grind) (by grind); grind
theorem le_of_sq_le {a b : Rat} (hb : 0 ≤ b) (h : a * a ≤ b * b) : a ≤ b := by
  rcases Rat.le_total (a := a) (b := b) with h1 | h1
  · exact h1
  · by_cases he : a = b
    · rw [he]; exact Rat.le_refl
    · exfalso
      have h2 : b < a := by grind
      have h3 := Rat.mul_le_mul_of_nonneg_left (Rat.le_of_lt h2) hb
      have h4 := Rat.mul_lt_mul_of_pos_right h2 (by grind : 0 < a)
      grind
theorem lt_of_sq_lt {a b : Rat} (hb : 0 ≤ b) (h : a * a < b * b) : a < b := by
  by_cases hc : b ≤ a
  · exfalso
    have := mul_le_mul_nn hc hc hb (by grind)
    grind
  · grind

/-- a and A are positive and near by the ratio: within 1 - u and 1 / (1 - u). -/
structure Rl (u a A : Rat) : Prop where
  u0 : 0 ≤ u
  u1 : u < 1
  pos : 0 < A
  lo : A * (1 - u) ≤ a
  hi : a * (1 - u) ≤ A

theorem Rl.apos {u a A : Rat} (h : Rl u a A) : 0 < a := by
  have := Rat.mul_pos h.pos (show 0 < 1 - u by have := h.u1; grind)
  have := h.lo
  grind
theorem Rl.refl {A : Rat} (h : 0 < A) : Rl 0 A A := ⟨Rat.le_refl, by decide, h, by grind, by grind⟩
theorem Rl.symm {u a A : Rat} (h : Rl u a A) : Rl u A a := ⟨h.u0, h.u1, h.apos, h.hi, h.lo⟩
theorem Rl.mono {u v a A : Rat} (h : Rl u a A) (huv : u ≤ v) (hv : v < 1) : Rl v a A := by
  have hp := h.pos
  have hp2 := h.apos
  have h1 := Rat.mul_le_mul_of_nonneg_left huv (Rat.le_of_lt hp)
  have h2 := Rat.mul_le_mul_of_nonneg_left huv (Rat.le_of_lt hp2)
  have := h.lo
  have := h.hi
  have := h.u0
  exact ⟨by grind, hv, hp, by grind, by grind⟩
theorem Rl.mul {u v a A b B : Rat} (h : Rl u a A) (h' : Rl v b B) (huv : u + v < 1) : Rl (u + v) (a * b) (A * B) := by
  have hA := h.pos
  have hB := h'.pos
  have ha := h.apos
  have hb := h'.apos
  have hu := h.u0
  have hv := h'.u0
  have hu1 := h.u1
  have hv1 := h'.u1
  have huv' := Rat.mul_nonneg hu hv
  refine ⟨by grind, huv, Rat.mul_pos hA hB, ?_, ?_⟩
  · have h1 := mul_le_mul_nn h.lo h'.lo (Rat.mul_nonneg (Rat.le_of_lt hA) (by grind)) (Rat.le_of_lt hb)
    have h2 := Rat.mul_nonneg (Rat.le_of_lt (Rat.mul_pos hA hB)) huv'
    grind
  · have h1 := mul_le_mul_nn h.hi h'.hi (Rat.mul_nonneg (Rat.le_of_lt ha) (by grind)) (Rat.le_of_lt hB)
    have h2 := Rat.mul_nonneg (Rat.le_of_lt (Rat.mul_pos ha hb)) huv'
    grind
theorem Rl.trans {u v a b c : Rat} (h : Rl u a b) (h' : Rl v b c) (huv : u + v < 1) : Rl (u + v) a c := by
  have hc := h'.pos
  have hb := h.pos
  have ha := h.apos
  have hu := h.u0
  have hv := h'.u0
  have hu1 := h.u1
  have hv1 := h'.u1
  have huv' := Rat.mul_nonneg hu hv
  refine ⟨by grind, huv, hc, ?_, ?_⟩
  · have h1 := Rat.mul_le_mul_of_nonneg_right h'.lo (show 0 ≤ 1 - u by grind)
    have := h.lo
    have h2 := Rat.mul_nonneg (Rat.le_of_lt hc) huv'
    grind
  · have h1 := Rat.mul_le_mul_of_nonneg_right h.hi (show 0 ≤ 1 - v by grind)
    have := h'.hi
    have h2 := Rat.mul_nonneg (Rat.le_of_lt ha) huv'
    grind
theorem Rl.inv {u a A : Rat} (h : Rl u a A) : Rl u a⁻¹ A⁻¹ := by
  have hA := h.pos
  have ha := h.apos
  have iA := Rat.inv_pos.2 hA
  have ia := Rat.inv_pos.2 ha
  have eA : A * A⁻¹ = 1 := Rat.mul_inv_cancel _ (Rat.ne_of_lt hA).symm
  have ea : a * a⁻¹ = 1 := Rat.mul_inv_cancel _ (Rat.ne_of_lt ha).symm
  have hp := Rat.le_of_lt (Rat.mul_pos iA ia)
  refine ⟨h.u0, h.u1, iA, ?_, ?_⟩
  · have := Rat.mul_le_mul_of_nonneg_right h.hi hp
    have e1 : a * (1 - u) * (A⁻¹ * a⁻¹) = A⁻¹ * (1 - u) := by grind
    have e2 : A * (A⁻¹ * a⁻¹) = a⁻¹ := by grind
    rw [e1, e2] at this; exact this
  · have := Rat.mul_le_mul_of_nonneg_right h.lo hp
    have e1 : A * (1 - u) * (A⁻¹ * a⁻¹) = a⁻¹ * (1 - u) := by grind
    have e2 : a * (A⁻¹ * a⁻¹) = A⁻¹ := by grind
    rw [e1, e2] at this; exact this
theorem Rl.div {u v a A b B : Rat} (h : Rl u a A) (h' : Rl v b B) (huv : u + v < 1) : Rl (u + v) (a / b) (A / B) := by
  rw [Rat.div_def, Rat.div_def]; exact h.mul h'.inv huv
theorem Rl.add {u a A b B : Rat} (h : Rl u a A) (h' : Rl u b B) : Rl u (a + b) (A + B) := by
  have := h.pos; have := h'.pos; have := h.lo; have := h.hi; have := h'.lo; have := h'.hi
  exact ⟨h.u0, h.u1, by grind, by grind, by grind⟩
/-- Beside an exact part that is not negative. -/
theorem Rl.add_nn {u a A B : Rat} (h : Rl u a A) (hB : 0 ≤ B) : Rl u (a + B) (A + B) := by
  have := h.pos; have := h.lo; have := h.hi
  have h2 := Rat.mul_nonneg hB h.u0
  exact ⟨h.u0, h.u1, by grind, by grind, by grind⟩
theorem Rl.sq {u a A : Rat} (h : Rl u a A) (hu : 2 * u < 1) : Rl (2 * u) (a * a) (A * A) := by
  have := h.mul h (by grind)
  have e : u + u = 2 * u := by grind
  rw [e] at this; exact this
theorem Rl.of_sq {u a A : Rat} (h : Rl u (a * a) (A * A)) (ha : 0 < a) (hA : 0 < A) : Rl u a A := by
  have h0 := h.u0
  have h1 := h.u1
  have hlo := h.lo
  have hhi := h.hi
  have key : ∀ x : Rat, 0 < x → (x * (1 - u)) * (x * (1 - u)) ≤ x * x * (1 - u) := by
    intro x hx
    have : 0 ≤ x * x * (1 - u) * u := Rat.mul_nonneg (Rat.mul_nonneg (Rat.le_of_lt (Rat.mul_pos hx hx)) (by grind)) h0
    grind
  refine ⟨h0, h1, hA, ?_, ?_⟩
  · refine le_of_sq_le (Rat.le_of_lt ha) ?_
    have := key A hA
    grind
  · refine le_of_sq_le (Rat.le_of_lt hA) ?_
    have := key a ha
    grind
theorem Rl.scale {u a A c : Rat} (h : Rl u a A) (hc : 0 < c) : Rl u (a * c) (A * c) := by
  have h1 := Rat.mul_le_mul_of_nonneg_right h.lo (Rat.le_of_lt hc)
  have h2 := Rat.mul_le_mul_of_nonneg_right h.hi (Rat.le_of_lt hc)
  exact ⟨h.u0, h.u1, Rat.mul_pos h.pos hc, by grind, by grind⟩
theorem Rl.near {u a A : Rat} (h : Rl u a A) : a - A ≤ a * u ∧ A - a ≤ A * u := by
  have := h.lo; have := h.hi; constructor <;> grind

/-- Coarse bounds. -/
theorem Rl.half {u a A : Rat} (h : Rl u a A) (hu : u ≤ 1 / 2) : A ≤ 2 * a ∧ a ≤ 2 * A := by
  have h1 := h.lo
  have h2 := h.hi
  have e1 := Rat.mul_le_mul_of_nonneg_left hu (Rat.le_of_lt h.pos)
  have e2 := Rat.mul_le_mul_of_nonneg_left hu (Rat.le_of_lt h.apos)
  constructor <;> grind

theorem Rd.rl {X v : Rat} (h : Rd X v) (hX : p2 (-1022) ≤ X) : Rl eps v X := by
  have hp := p2_pos (-1022)
  have hXp : 0 < X := by grind
  have he : eps = 1 / 4503599627370496 := eps_val
  rcases h.near with h1 | h1
  · rw [ab_of_nonneg (Rat.le_of_lt hXp), ab_le] at h1
    obtain ⟨h2, h3⟩ := h1
    refine ⟨Rat.le_of_lt eps_pos, by rw [he]; decide +kernel, hXp, by grind, ?_⟩
    rw [he] at *
    grind
  · rw [ab_of_nonneg (Rat.le_of_lt hXp)] at h1
    grind
/-- The absolute error, under any bound of the exact value. -/
theorem Rd.abs {X v B : Rat} (h : Rd X v) (hB : ab X ≤ B) (hB2 : p2 (-1022) ≤ B) : ab (v - X) ≤ B * eps := by
  rcases h.near with h1 | h1
  · have := Rat.mul_le_mul_of_nonneg_right hB (Rat.le_of_lt eps_pos)
    grind
  · have h2 := Rat.mul_le_mul_of_nonneg_right hB2 (Rat.le_of_lt eps_pos)
    have h3 : p2 (-1022) * eps = p2 (-1074) := by unfold eps; rw [← p2_add]; rfl
    grind
theorem Rd.neg {X v : Rat} (h : Rd X v) : Rd (-X) (-v) := by
  constructor
  · rw [ab_neg]
    have : -v - -X = -(v - X) := by grind
    rw [this, ab_neg]; exact h.near
  · intro k e hk h1 h2; rw [ab_neg] at hk; rw [h.exact k e hk h1 h2]
  · intro hX; have := h.nonpos (by grind); grind
  · intro hX; have := h.nonneg (by grind); grind
/-- Whole numbers of at most 2^53 in size, times a power of two, are exact. -/
theorem Rd.whole {X v : Rat} (h : Rd X v) (n : Int) (e : Int) (hX : X = (n : Rat) * p2 e) (hn : n.natAbs ≤ 9007199254740992) (he : -1074 ≤ e) : v = X := by
  refine h.exact n.natAbs e ?_ hn he
  rw [hX, ab_mul, natAbs_rat, ab_of_nonneg (Rat.le_of_lt (p2_pos e))]
theorem Rd.int {X v : Rat} (h : Rd X v) (n : Int) (hX : X = (n : Rat)) (hn : n.natAbs ≤ 9007199254740992) : v = (n : Rat) := by
  rw [h.whole n 0 (by rw [hX, p2_zero]; grind) hn (by decide), hX]

/-! ### The square root -/
theorem rootFrom_spec (n : Nat) : ∀ (todo r : Nat), r * r ≤ n → n < (r + 2 ^ todo) * (r + 2 ^ todo) →
    Datum.rootFrom n todo r * Datum.rootFrom n todo r ≤ n ∧ n < (Datum.rootFrom n todo r + 1) * (Datum.rootFrom n todo r + 1)
  | 0, r, h1, h2 => ⟨h1, by show n < (r + 1) * (r + 1); simpa using h2⟩
  | todo + 1, r, h1, h2 => by
    unfold Datum.rootFrom
    simp only [Nat.one_shiftLeft]
    by_cases h : (r + 2 ^ todo) * (r + 2 ^ todo) ≤ n
    · rw [if_pos h]
      refine rootFrom_spec n todo _ h ?_
      have e : r + 2 ^ todo + 2 ^ todo = r + 2 ^ (todo + 1) := by rw [Nat.pow_succ]; omega
      rw [e]; exact h2
    · rw [if_neg h]
      exact rootFrom_spec n todo r h1 (by omega)

theorem isqrt_spec (n : Nat) : let w := Datum.rootFrom n (n.log2 / 2 + 1) 0; w * w ≤ n ∧ n < (w + 1) * (w + 1) := by
  refine rootFrom_spec n _ 0 (by omega) ?_
  have h1 : n < 2 ^ (n.log2 + 1) := Nat.lt_log2_self
  have h2 : 2 ^ (n.log2 + 1) ≤ 2 ^ ((n.log2 / 2 + 1) + (n.log2 / 2 + 1)) := Nat.pow_le_pow_right (by decide) (by omega)
  rw [Nat.pow_add 2 (n.log2 / 2 + 1)] at h2
  simp only [Nat.zero_add]
  exact Nat.lt_of_lt_of_le h1 h2

theorem sqrt_rl {x : Nat} (hx : fin x) (hlo : p2 (-1000) ≤ val x) (hhi : val x ≤ p2 1000) :
    double.sqrt x = some (fsqrt x) ∧ fin (fsqrt x) ∧ 0 < val (fsqrt x) ∧ neg (fsqrt x) = false ∧ Rl (2 * eps) (val (fsqrt x) * val (fsqrt x)) (val x) := by
  obtain ⟨s, m, i, r1, v1, n1⟩ := fin_val hx
  have hvp : 0 < val x := by have := p2_pos (-1000); grind
  have hs : s = false := by
    cases s
    · rfl
    · exfalso
      rw [v1] at hvp
      have := mval_nonneg_mag m i
      unfold mval sgn at hvp
      simp at hvp
      grind
  subst hs
  have hv : val x = (m : Rat) * p2 i := by rw [v1]; unfold mval sgn; simp
  have hm : m ≠ 0 := by
    intro h0; rw [hv, h0] at hvp; grind
  generalize hmore0 : 2 * 54 - m.log2 = more0
  generalize hmore : more0 + ((i - more0) % 2).toNat = more
  have hpar : ∃ h : Int, i - more = 2 * h := ⟨(i - more) / 2, by omega⟩
  obtain ⟨h, hh⟩ := hpar
  generalize hn : m <<< more = n
  have hnlow : 2 ^ 108 ≤ n := by
    rw [← hn, Nat.shiftLeft_eq]
    refine Nat.le_trans ?_ (Nat.mul_le_mul_right _ (Nat.log2_self_le hm))
    rw [← Nat.pow_add]
    exact Nat.pow_le_pow_right (by decide) (by omega)
  obtain ⟨hw1, hw2⟩ := isqrt_spec n
  generalize hw : Datum.rootFrom n (n.log2 / 2 + 1) 0 = w at *
  have hwb : 2 ^ 54 ≤ w := by
    rcases Nat.lt_or_ge w (2 ^ 54) with hlt | hge
    · exfalso
      have h1 := Nat.mul_le_mul hlt hlt
      have h2 : (w + 1) * (w + 1) ≤ 2 ^ 54 * 2 ^ 54 := h1
      have h3 : 2 ^ 54 * 2 ^ 54 = 2 ^ 108 := by decide
      omega
    · exact hge
  -- the sticky digit
  have hst : ∃ d : Nat, (w * w != n).toNat = d ∧ (d = 0 ∧ w * w = n ∨ d = 1) := by
    refine ⟨_, rfl, ?_⟩
    by_cases h : w * w = n
    · left; simp [h]
    · right; simp [h]
  obtain ⟨d, hd, hd2⟩ := hst
  have eroot : Datum.root 54 (.number false m i) = some (.number false (2 * w + d) (h - 1)) := by
    simp only [Datum.root, if_neg hm, Bool.false_eq_true, if_false, hmore0, hmore, hn, hw, hd]
    congr 2
    omega
  have h1 : double.sqrt x = some (double.nearest false (2 * w + d) (h - 1)) := by
    unfold Format.sqrt; rw [r1]; show Option.map _ (Datum.root 54 _) = _; rw [eroot]; rfl
  have h2 : fsqrt x = double.nearest false (2 * w + d) (h - 1) := by unfold fsqrt; rw [h1]; rfl
  -- over rationals
  generalize hu : p2 (h - 1) = u
  have hup : 0 < u := by rw [← hu]; exact p2_pos _
  have eN : val x = (n : Rat) * (u * u * 4) := by
    rw [hv, ← hn, shl_rat, ← hu]
    have : p2 i = p2 (more : Int) * (p2 (h - 1) * p2 (h - 1) * 4) := by
      rw [show (4 : Rat) = p2 2 from by decide +kernel, ← p2_add, ← p2_add, ← p2_add]; congr 1; omega
    rw [this]; grind
  have w1 : (w : Rat) * w ≤ n := by rw [← Rat.natCast_mul]; exact Rat.natCast_le_natCast.2 hw1
  have w2 : (n : Rat) ≤ (w + 1) * (w + 1) := by
    have : ((w + 1 : Nat) : Rat) = (w : Rat) + 1 := by rw [Rat.natCast_add]; rfl
    rw [← this, ← Rat.natCast_mul]; exact Rat.natCast_le_natCast.2 (Nat.le_of_lt hw2)
  have w3 : (18014398509481984 : Rat) ≤ w := by have := Rat.natCast_le_natCast.2 hwb; exact this
  have hu2 : 0 < u * u * 4 := by have := Rat.mul_pos hup hup; grind
  have eY : ((2 * w + d : Nat) : Rat) * u = (2 * (w : Rat) + d) * u := by rw [Rat.natCast_add, Rat.natCast_mul]; rfl
  generalize hY : (2 * (w : Rat) + d) * u = Y at *
  have d01 : (0 : Rat) ≤ d ∧ (d : Rat) ≤ 1 := by
    rcases hd2 with ⟨rfl, _⟩ | rfl
    · constructor <;> decide
    · constructor <;> decide
  -- Y*Y is near N: N (1 - 2^-53) ≤ Y*Y, Y*Y (1 - 2^-54) ≤ N
  have hww : (18014398509481984 : Rat) * w ≤ w * w := Rat.mul_le_mul_of_nonneg_right w3 (by grind)
  have y1 : (n : Rat) * (1 - 1 / 4503599627370496) ≤ w * w := by grind
  have y2 : (w + 1 / 2) * (w + 1 / 2) * (1 - 1 / 9007199254740992) ≤ (w : Rat) * w := by grind
  have eYY : Y * Y = (w + d / 2) * (w + d / 2) * (u * u * 4) := by rw [← hY]; grind
  have nY : Rl (1 / 4503599627370496) (Y * Y) (val x) := by
    rw [eYY, eN]
    have c1 : (w : Rat) * w ≤ (w + d / 2) * (w + d / 2) := by
      have := mul_le_mul_nn (show (w : Rat) ≤ w + d / 2 by grind) (show (w : Rat) ≤ w + d / 2 by grind) (by grind) (by grind)
      exact this
    have c2 : (w + (d : Rat) / 2) * (w + d / 2) * (1 - 1 / 9007199254740992) ≤ n := by
      have := mul_le_mul_nn (show (w : Rat) + d / 2 ≤ w + 1 / 2 by grind) (show (w : Rat) + d / 2 ≤ w + 1 / 2 by grind) (by grind) (by grind)
      grind
    have base : Rl (1 / 4503599627370496) ((w + (d : Rat) / 2) * (w + d / 2)) n := by
      refine ⟨by decide +kernel, by decide +kernel, by grind, by grind, by grind⟩
    exact base.scale hu2
  -- Y in range
  have hYp : 0 < Y := by rw [← hY]; exact Rat.mul_pos (by grind) hup
  have nYlo := nY.lo
  have nYhi := nY.hi
  have hY1 : p2 (-1022) ≤ Y := by
    refine le_of_sq_le (Rat.le_of_lt hYp) ?_
    rw [← p2_add]
    have a1 := p2_mono (show -1022 + -1022 ≤ -1001 by decide)
    have a2 : p2 (-1001) * 2 = p2 (-1000) := by rw [← p2_succ]; rfl
    grind
  have hY2 : Y < p2 1023 := by
    refine lt_of_sq_lt (Rat.le_of_lt (p2_pos _)) ?_
    rw [← p2_add]
    have a1 := p2_lt (show 1001 < 1023 + 1023 by decide)
    have a2 : p2 1000 * 2 = p2 1001 := by rw [← p2_succ]; rfl
    grind
  obtain ⟨f1, f2, v, fv, fv0, fr⟩ := nearest_spec false (2 * w + d) (h - 1) (by rw [hu, eY]; exact hY2)
  rw [hu, eY] at fr
  have ev : val (double.nearest false (2 * w + d) (h - 1)) = v := by rw [fv]; unfold sgn; simp
  have hr : Rl (1 / 9007199254740992) v Y := by
    rcases fr.near with q | q
    · have e53 : p2 (-53) = 1 / 9007199254740992 := by decide +kernel
      rw [e53] at q
      refine ⟨by decide +kernel, by decide +kernel, hYp, by grind, by grind⟩
    · grind
  rw [h2, ev]
  refine ⟨h1, f1, hr.apos, f2, ?_⟩
  have := (hr.sq (by decide +kernel)).trans nY (by decide +kernel)
  refine this.mono ?_ ?_
  · rw [eps_val]; decide +kernel
  · rw [eps_val]; decide +kernel

end Cx
