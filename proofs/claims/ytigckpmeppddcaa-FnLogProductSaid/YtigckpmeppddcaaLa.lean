/- The exponential as (1 + a/N)^N over the rationals, N = 2^200, and logarithms by it: exactly additive up to tiny errors; a logarithm is unique. Plain: no program in sight. -/
import Derived.Test.YtigckpmeppddcaaGg
set_option linter.unusedVariables false
namespace Cx

def rpow (x : Rat) : Nat → Rat
  | 0 => 1
  | n + 1 => rpow x n * x

theorem rpow_pos {x : Rat} (h : 0 < x) : ∀ n, 0 < rpow x n
  | 0 => by simp only [rpow]; decide
  | n + 1 => Rat.mul_pos (rpow_pos h n) h
theorem rpow_mul (x y : Rat) : ∀ n, rpow (x * y) n = rpow x n * rpow y n
  | 0 => by simp only [rpow]; decide +kernel
  | n + 1 => by simp only [rpow]; rw [rpow_mul x y n]; grind
theorem rpow_one : ∀ n, rpow 1 n = 1
  | 0 => rfl
  | n + 1 => by simp only [rpow]; rw [rpow_one n]; decide +kernel
theorem rpow_le_one {x : Rat} (h0 : 0 < x) (h1 : x ≤ 1) : ∀ n, rpow x n ≤ 1
  | 0 => by simp only [rpow]; decide
  | n + 1 => by
    simp only [rpow]
    have := mul_le_mul_nn (rpow_le_one h0 h1 n) h1 (Rat.le_of_lt (rpow_pos h0 n)) (by decide)
    grind
/-- Bernoulli. -/
theorem rpow_ge {x : Rat} (h : -1 < x) : ∀ n : Nat, 1 + (n : Rat) * x ≤ rpow (1 + x) n
  | 0 => by simp only [rpow]; rw [show ((0 : Nat) : Rat) = 0 from rfl]; grind
  | n + 1 => by
    simp only [rpow]
    have ih := rpow_ge h n
    have e : ((n + 1 : Nat) : Rat) = (n : Rat) + 1 := by rw [Rat.natCast_add]; rfl
    rw [e]
    have h1 := Rat.mul_le_mul_of_nonneg_right ih (show 0 ≤ 1 + x by grind)
    have h2 := Rat.mul_nonneg (Rat.natCast_nonneg (a := n)) (sq_nonneg x)
    grind
theorem Rl.rpow {u a A : Rat} (h : Rl u a A) : ∀ n : Nat, (n : Rat) * u < 1 → Rl ((n : Rat) * u) (rpow a n) (rpow A n)
  | 0, _ => by
    have e : ((0 : Nat) : Rat) * u = 0 := by rw [show ((0 : Nat) : Rat) = 0 from rfl]; grind
    rw [e]; exact Rl.refl (by simp only [Cx.rpow]; decide)
  | n + 1, hn => by
    have e : ((n + 1 : Nat) : Rat) * u = (n : Rat) * u + u := by rw [Rat.natCast_add, show ((1 : Nat) : Rat) = 1 from rfl]; grind
    rw [e] at hn ⊢
    have := h.u0
    exact (Rl.rpow h n (by grind)).mul h hn

theorem Rl.of_close {a A d : Rat} (ha : 1 / 2 ≤ a) (hA : 1 / 2 ≤ A) (h : ab (a - A) ≤ d) (hd : 2 * d < 1) : Rl (2 * d) a A := by
  have d0 := Rat.le_trans (ab_nonneg _) h
  rw [ab_le] at h
  have t1 := Rat.mul_le_mul_of_nonneg_left ha d0
  have t2 := Rat.mul_le_mul_of_nonneg_left hA d0
  exact ⟨by grind, hd, by grind, by grind, by grind⟩

def ex (a : Rat) : Rat := rpow (1 + a / (NN : Rat)) NN

theorem NN_ge : (1267650600228229401496703205376 : Rat) ≤ ((NN : Nat) : Rat) := by rw [NN_rat]; decide
theorem divN {a : Rat} : a / ((NN : Nat) : Rat) * ((NN : Nat) : Rat) = a := Rat.div_mul_cancel (Rat.ne_of_lt NN_pos).symm
theorem divN_small {a : Rat} (h : ab a ≤ 1000) : ab (a / ((NN : Nat) : Rat)) ≤ 1 / 1000 := by
  refine ab_quot_le NN_pos ?_
  have := NN_ge
  grind

theorem ex_pos {a : Rat} (h : ab a ≤ 1000) : 0 < ex a := by
  have := divN_small h
  rw [ab_le] at this
  exact rpow_pos (by grind) _
theorem ex_zero : ex 0 = 1 := by
  unfold ex
  rw [show 1 + (0 : Rat) / ((NN : Nat) : Rat) = 1 by rw [Rat.div_def, Rat.zero_mul]; decide +kernel, rpow_one]
theorem ex_ge {a : Rat} (h : ab a ≤ 1000) : 1 + a ≤ ex a := by
  have h1 := divN_small h
  rw [ab_le] at h1
  have h2 := rpow_ge (x := a / ((NN : Nat) : Rat)) (by grind) NN
  have h3 := divN (a := a)
  rw [Rat.mul_comm] at h3
  rw [h3] at h2
  exact h2
theorem ex_le {a : Rat} (h : ab a ≤ 1 / 2) : ex a ≤ 1 + a + 2 * (a * a) := by
  have hb : ab a ≤ 1000 := Rat.le_trans h (by decide +kernel)
  have h1 := divN_small hb
  have h2 := ab_le.1 h
  have hn : ab (-a) ≤ 1000 := by rw [ab_neg]; exact hb
  have g := ex_ge hn
  have e : ex a * ex (-a) ≤ 1 := by
    unfold ex
    rw [← rpow_mul]
    have e1 : -a / ((NN : Nat) : Rat) = -(a / ((NN : Nat) : Rat)) := by rw [Rat.div_def, Rat.div_def]; grind
    rw [e1]
    generalize a / ((NN : Nat) : Rat) = x at *
    rw [ab_le] at h1
    have t := ab_mul_le (x := x) (y := x) (a := 1 / 1000) (b := 1 / 1000) (by rw [ab_le]; exact h1) (by rw [ab_le]; exact h1)
    rw [ab_le] at t
    have t2 := sq_nonneg x
    exact rpow_le_one (by grind) (by grind) _
  have p := ex_pos hb
  have h4 := Rat.mul_le_mul_of_nonneg_left g (Rat.le_of_lt p)
  have h5 : ex a * (1 - a) ≤ (1 + a + 2 * (a * a)) * (1 - a) := by
    have h6 : (1 + a + 2 * (a * a)) * (1 - a) = 1 + a * a * (1 - 2 * a) := by grind
    have h7 := Rat.mul_nonneg (sq_nonneg a) (show 0 ≤ 1 - 2 * a by grind)
    grind
  exact Rat.le_of_mul_le_mul_right h5 (by grind)

theorem ex_mul {a b : Rat} (ha : ab a ≤ 500) (hb : ab b ≤ 500) : Rl (2 * (ab a * ab b) / ((NN : Nat) : Rat)) (ex a * ex b) (ex (a + b)) := by
  have sa := divN_small (a := a) (Rat.le_trans ha (by decide +kernel))
  have sb := divN_small (a := b) (Rat.le_trans hb (by decide +kernel))
  have hN := NN_pos
  have hNi : 0 < ((NN : Nat) : Rat)⁻¹ := Rat.inv_pos.2 hN
  have hNN : ((NN : Nat) : Rat) * ((NN : Nat) : Rat)⁻¹ = 1 := Rat.mul_inv_cancel _ (Rat.ne_of_lt hN).symm
  have hge := NN_ge
  have hsmall : 2 * (ab a * ab b) / ((NN : Nat) : Rat) < 1 := by
    rw [Rat.div_lt_iff hN]
    have := mul_le_mul_nn ha hb (ab_nonneg a) (by decide)
    grind
  have base : Rl (2 * (ab (a / ((NN : Nat) : Rat)) * ab (b / ((NN : Nat) : Rat)))) ((1 + a / ((NN : Nat) : Rat)) * (1 + b / ((NN : Nat) : Rat))) (1 + (a + b) / ((NN : Nat) : Rat)) := by
    have e : (a + b) / ((NN : Nat) : Rat) = a / ((NN : Nat) : Rat) + b / ((NN : Nat) : Rat) := by rw [Rat.div_def, Rat.div_def, Rat.div_def]; grind
    rw [e]
    generalize a / ((NN : Nat) : Rat) = x at *
    generalize b / ((NN : Nat) : Rat) = y at *
    have t := ab_mul_le sa sb
    have t0 := ab_mul x y
    have t1 := ab_nonneg (x * y)
    rw [← t0]
    rw [ab_le] at sa sb
    have t2 := ab_le.1 t
    refine Rl.of_close (d := ab (x * y)) (by grind) (by grind) ?_ (by grind)
    rw [show (1 + x) * (1 + y) - (1 + (x + y)) = x * y by grind]
    exact Rat.le_refl
  have ev : ((NN : Nat) : Rat) * (2 * (ab (a / ((NN : Nat) : Rat)) * ab (b / ((NN : Nat) : Rat)))) = 2 * (ab a * ab b) / ((NN : Nat) : Rat) := by
    rw [Rat.div_def, Rat.div_def, Rat.div_def, ab_mul, ab_mul, ab_of_nonneg (Rat.le_of_lt hNi)]
    generalize ((NN : Nat) : Rat)⁻¹ = i at *
    have : ((NN : Nat) : Rat) * (2 * (ab a * i * (ab b * i))) = 2 * (ab a * ab b) * i * (((NN : Nat) : Rat) * i) := by grind
    rw [this, hNN, Rat.mul_one]
  have := base.rpow NN (by rw [ev]; exact hsmall)
  rw [ev, rpow_mul] at this
  exact this

theorem ex_one {d : Rat} (h : ab d < 1) : Rl (ab d) (ex d) 1 := by
  have hN := NN_pos
  have hd := divN_small (a := d) (Rat.le_of_lt (by grind))
  have base : Rl (ab (d / ((NN : Nat) : Rat))) (1 + d / ((NN : Nat) : Rat)) 1 := by
    generalize d / ((NN : Nat) : Rat) = x at *
    have h1 := ab_le.1 hd
    have h2 := le_ab x
    have h3 := neg_le_ab x
    have h4 := ab_nonneg x
    refine ⟨h4, by grind, by decide, by grind, ?_⟩
    by_cases hx : 0 ≤ x
    · rw [ab_of_nonneg hx]; have := sq_nonneg x; grind
    · rw [ab_of_neg (by grind)]
      have := Rat.mul_nonneg (show 0 ≤ -x by grind) (show 0 ≤ 2 + x by grind)
      grind
  have e : ((NN : Nat) : Rat) * ab (d / ((NN : Nat) : Rat)) = ab d := by
    have : ab (d / ((NN : Nat) : Rat)) * ab ((NN : Nat) : Rat) = ab d := by rw [← ab_mul, divN]
    rw [ab_of_nonneg (Rat.le_of_lt hN)] at this
    rw [Rat.mul_comm]; exact this
  have := base.rpow NN (by rw [e]; exact h)
  rw [e, rpow_one] at this
  exact this

/-! ### Logarithms -/
/-- The tiny error of a sum. -/
def nu : Rat := 1 / 1237940039285380274899124224
theorem nu_pos : 0 < nu := by decide +kernel
theorem nu_val : nu = 1 / 1237940039285380274899124224 := rfl
theorem nu_of {a b : Rat} (ha : ab a ≤ 500) (hb : ab b ≤ 500) : 2 * (ab a * ab b) / ((NN : Nat) : Rat) ≤ nu := by
  have hN := NN_pos
  have : ¬ (nu < 2 * (ab a * ab b) / ((NN : Nat) : Rat)) := by
    rw [Rat.lt_div_iff hN, nu_val, NN_rat]
    have := mul_le_mul_nn ha hb (ab_nonneg a) (by decide)
    grind
  grind
theorem ex_mul' {a b : Rat} (ha : ab a ≤ 500) (hb : ab b ≤ 500) : Rl nu (ex a * ex b) (ex (a + b)) := (ex_mul ha hb).mono (nu_of ha hb) (by rw [nu_val]; decide +kernel)

/-- a is the logarithm of X, up to u. -/
def Lg (X a u : Rat) : Prop := Rl u X (ex a)
theorem Lg.mono {X a u v : Rat} (h : Lg X a u) (huv : u ≤ v) (hv : v < 1) : Lg X a v := Rl.mono h huv hv
theorem Lg.mul {X Y a b u v : Rat} (h : Lg X a u) (h' : Lg Y b v) (ha : ab a ≤ 500) (hb : ab b ≤ 500) (hs : u + v + nu < 1) : Lg (X * Y) (a + b) (u + v + nu) :=
  (Rl.mul h h' (by have := nu_pos; grind)).trans (ex_mul' ha hb) hs
theorem Lg.to {X a b u d : Rat} (h : Lg X a u) (ha : ab a ≤ 500) (hd : ab (b - a) ≤ d) (hd1 : d < 1) (hs : u + d + nu < 1) : Lg X b (u + d + nu) := by
  have h1 := (ex_one (d := b - a) (by grind)).mono hd hd1
  have h2 := ex_mul' ha (b := b - a) (Rat.le_trans hd (by grind))
  rw [show a + (b - a) = b by grind] at h2
  have h3 := h1.scale (ex_pos (Rat.le_trans ha (by decide +kernel)))
  rw [Rat.one_mul, Rat.mul_comm] at h3
  have n0 := nu_pos
  have u0 := Rl.u0 h
  have d0 := h1.u0
  exact (Rl.trans h h3.symm (by grind)).trans h2 hs
theorem Lg.near {X Y a u v : Rat} (h : Lg X a u) (h' : Rl v Y X) (hs : v + u < 1) : Lg Y a (v + u) := h'.trans h hs
theorem Lg.inv {X a u : Rat} (h : Lg X a u) (ha : ab a ≤ 500) (hs : u + nu < 1) : Lg X⁻¹ (-a) (u + nu) := by
  have h1 := Rl.inv h
  have h2 := ex_mul' (b := -a) ha (by rw [ab_neg]; exact ha)
  rw [show a + -a = 0 by grind, ex_zero] at h2
  have p := ex_pos (Rat.le_trans ha (show (500 : Rat) ≤ 1000 by decide +kernel))
  have h3 := h2.scale (Rat.inv_pos.2 p)
  have hi := Rat.mul_inv_cancel _ (Rat.ne_of_lt p).symm
  rw [show ex a * ex (-a) * (ex a)⁻¹ = ex (-a) * (ex a * (ex a)⁻¹) by grind, hi, Rat.mul_one, Rat.one_mul] at h3
  exact h1.trans h3.symm hs
theorem Lg.pos {X a u : Rat} (h : Lg X a u) : 0 < X := Rl.apos h

theorem uniq_aux {a b w : Rat} (h : Rl w (ex a) (ex b)) (ha : ab a ≤ 500) (hb : ab b ≤ 500) (hw : w + 2 * nu ≤ 1 / 2) : a - b ≤ 2 * (w + 2 * nu) := by
  have n0 := nu_pos
  have hbn : ab (-b) ≤ 500 := by rw [ab_neg]; exact hb
  have p := ex_pos (Rat.le_trans hbn (show (500 : Rat) ≤ 1000 by decide +kernel))
  have h1 := h.scale p
  have h2 := ex_mul' ha hbn
  have h3 := ex_mul' hb hbn
  rw [show b + -b = 0 by grind, ex_zero] at h3
  have h4 := (h2.symm.trans (h1.trans h3 (by grind)) (by grind))
  rw [show a + -b = a - b by grind] at h4
  have ha' := ab_le.1 ha
  have hb' := ab_le.1 hb
  have g := ex_ge (a := a - b) (by rw [ab_le]; constructor <;> grind)
  have hi := h4.hi
  have h5 := Rat.mul_le_mul_of_nonneg_right g (show 0 ≤ 1 - (nu + (w + nu)) by grind)
  by_cases hc : a - b ≤ 0
  · have := h.u0
    grind
  · have h6 := Rat.mul_le_mul_of_nonneg_left (show nu + (w + nu) ≤ 1 / 2 by grind) (show 0 ≤ a - b by grind)
    grind
/-- A number has one logarithm. -/
theorem Lg.uniq {X a b u v : Rat} (h : Lg X a u) (h' : Lg X b v) (ha : ab a ≤ 500) (hb : ab b ≤ 500) (hw : u + v + 2 * nu ≤ 1 / 2) : ab (a - b) ≤ 2 * (u + v + 2 * nu) := by
  have n0 := nu_pos
  have h1 := Rl.trans (Rl.symm h) h' (by grind)
  have h2 := uniq_aux h1 ha hb hw
  have h3 := uniq_aux h1.symm hb ha hw
  rw [ab_le]; constructor <;> grind
/-- The logarithm of a number above 1. -/
theorem Lg.above {X a u : Rat} (h : Lg X a u) (ha : ab a ≤ 500) (hX : 7 / 5 ≤ X) (hu : u ≤ 1 / 10) : 0 < a := by
  rcases Rat.le_total (a := a) (b := 0) with h0 | h0
  · exfalso
    have hi := Rl.hi h
    have n := Lg.inv h ha (by have : nu ≤ 1 / 10 := by decide +kernel
                              grind)
    have g := ex_ge (a := -a) (by rw [ab_neg]; exact Rat.le_trans ha (by decide +kernel))
    have h2 := ex_mul' (a := a) (b := -a) ha (by rw [ab_neg]; exact ha)
    rw [show a + -a = 0 by grind, ex_zero] at h2
    have h3 := h2.near.1
    have p := ex_pos (Rat.le_trans ha (show (500 : Rat) ≤ 1000 by decide +kernel))
    have h4 := Rat.mul_le_mul_of_nonneg_left (show 1 ≤ ex (-a) by grind) (Rat.le_of_lt p)
    have h5 := h2.half (by decide +kernel)
    have h6 : ex a * ex (-a) ≤ 1 + 2 * nu := by
      have := Rat.mul_le_mul_of_nonneg_right h5.2 (Rat.le_of_lt nu_pos)
      grind
    have h7 : nu ≤ 1 / 100 := by decide +kernel
    have h8 := mul_le_mul_nn hX (show 9 / 10 ≤ 1 - u by grind) (by decide +kernel) (by grind)
    grind
  · by_cases hz : a = 0
    · exfalso
      rw [hz] at h
      have hi := Rl.hi h
      rw [ex_zero] at hi
      have h8 := mul_le_mul_nn hX (show 9 / 10 ≤ 1 - u by grind) (by decide +kernel) (by grind)
      grind
    · grind
end Cx
