/- The operations on doubles as total functions of words, and their values as rationals: +, -, *, /, square root, opposite, order, whole numbers. Plain: no program in sight. -/
import Derived.Test.YtigckpmeppddcaaFpa
set_option linter.unusedVariables false
namespace Cx
open Ieee

/-- The absolute value of a rational. -/
def ab (x : Rat) : Rat := if 0 ≤ x then x else -x
theorem ab_of_nonneg {x : Rat} (h : 0 ≤ x) : ab x = x := by unfold ab; rw [if_pos h]
theorem ab_of_neg {x : Rat} (h : x ≤ 0) : ab x = -x := by unfold ab; split <;> grind
theorem ab_nonneg (x : Rat) : 0 ≤ ab x := by unfold ab; split <;> grind
theorem ab_neg (x : Rat) : ab (-x) = ab x := by unfold ab; split <;> split <;> grind
theorem ab_le {x c : Rat} : ab x ≤ c ↔ (x ≤ c ∧ -x ≤ c) := by unfold ab; split <;> constructor <;> grind
theorem ab_lt {x c : Rat} : ab x < c ↔ (x < c ∧ -x < c) := by unfold ab; split <;> constructor <;> grind
theorem le_ab (x : Rat) : x ≤ ab x := by unfold ab; split <;> grind
theorem neg_le_ab (x : Rat) : -x ≤ ab x := by unfold ab; split <;> grind
theorem ab_add (x y : Rat) : ab (x + y) ≤ ab x + ab y := by unfold ab; split <;> split <;> split <;> grind
theorem ab_sub_comm (x y : Rat) : ab (x - y) = ab (y - x) := by rw [← ab_neg]; congr 1; grind
theorem ab_zero : ab 0 = 0 := rfl
theorem ab_eq_zero {x : Rat} : ab x = 0 ↔ x = 0 := by unfold ab; split <;> constructor <;> grind
theorem ab_mul (x y : Rat) : ab (x * y) = ab x * ab y := by
  unfold ab
  by_cases hx : 0 ≤ x <;> by_cases hy : 0 ≤ y
  · rw [if_pos hx, if_pos hy, if_pos (Rat.mul_nonneg hx hy)]
  · rw [if_pos hx, if_neg hy]
    have : 0 ≤ x * (-y) := Rat.mul_nonneg hx (by grind)
    split <;> grind
  · rw [if_neg hx, if_pos hy]
    have : 0 ≤ (-x) * y := Rat.mul_nonneg (by grind) hy
    split <;> grind
  · rw [if_neg hx, if_neg hy]
    have : 0 ≤ (-x) * (-y) := Rat.mul_nonneg (by grind) (by grind)
    split <;> grind

theorem sgn_mul_self (s : Bool) : sgn s * sgn s = 1 := by cases s <;> decide +kernel
theorem ab_sgn (s : Bool) (x : Rat) : ab (sgn s * x) = ab x := by
  cases s
  · unfold sgn; simp
  · unfold sgn; simp; rw [Rat.neg_mul, Rat.one_mul, ab_neg]
theorem mval_nonneg_mag (m : Nat) (p : Int) : 0 ≤ (m : Rat) * p2 p := Rat.mul_nonneg Rat.natCast_nonneg (Rat.le_of_lt (p2_pos p))
theorem ab_mval (s : Bool) (m : Nat) (p : Int) : ab (mval s m p) = (m : Rat) * p2 p := by
  unfold mval; rw [ab_sgn, ab_of_nonneg (mval_nonneg_mag m p)]

/-- 2^-52. -/
def eps : Rat := p2 (-52)
theorem eps_pos : 0 < eps := p2_pos _
theorem eps_val : eps = 1 / 4503599627370496 := by decide +kernel

/-- v is the rounding of X. -/
structure Rd (X v : Rat) : Prop where
  near : ab (v - X) ≤ ab X * eps ∨ (ab X < p2 (-1022) ∧ ab (v - X) ≤ p2 (-1074))
  exact : ∀ (k : Nat) (e : Int), ab X = k * p2 e → k ≤ 9007199254740992 → -1074 ≤ e → v = X
  nonneg : 0 ≤ X → 0 ≤ v
  nonpos : X ≤ 0 → v ≤ 0

theorem Rnd.signed {X v : Rat} (s : Bool) (hX : 0 ≤ X) (hv : 0 ≤ v) (h : Rnd X v) : Rd (sgn s * X) (sgn s * v) := by
  have e1 : sgn s * v - sgn s * X = sgn s * (v - X) := by grind
  have he : p2 (-53) * 2 = eps := by unfold eps; rw [← p2_succ]; rfl
  have he2 : p2 (-1075) * 2 = p2 (-1074) := by rw [← p2_succ]; rfl
  have hp := p2_pos (-53)
  have hp2 := p2_pos (-1075)
  have h9 := Rat.mul_nonneg hX (Rat.le_of_lt hp)
  constructor
  · rw [e1, ab_sgn, ab_sgn, ab_of_nonneg hX]
    rcases h.near with h1 | h1
    · left; rw [ab_le, ← he]; constructor <;> grind
    · right; refine ⟨h1.1, ?_⟩; rw [ab_le]; constructor <;> grind
  · intro k e hk h1 h2
    rw [ab_sgn, ab_of_nonneg hX] at hk
    rw [h.exact k e hk h1 h2]
  · intro h1
    cases s
    · unfold sgn; simp; exact hv
    · have h0 : X = 0 := by unfold sgn at h1; simp at h1; grind
      have := h.exact 0 0 (by rw [h0]; grind) (by decide) (by decide)
      rw [this, h0]; grind
  · intro h1
    cases s
    · have h0 : X = 0 := by unfold sgn at h1; simp at h1; grind
      have := h.exact 0 0 (by rw [h0]; grind) (by decide) (by decide)
      rw [this, h0]; grind
    · unfold sgn; simp; grind

theorem nearest_rd (s : Bool) (m : Nat) (p : Int) (h : ab (mval s m p) < p2 1023) :
    fin (double.nearest s m p) ∧ neg (double.nearest s m p) = s ∧ Rd (mval s m p) (val (double.nearest s m p)) := by
  rw [ab_mval] at h
  obtain ⟨h1, h2, v, hv, hv0, hr⟩ := nearest_spec s m p h
  refine ⟨h1, h2, ?_⟩
  rw [hv]
  exact hr.signed s (mval_nonneg_mag m p) hv0

/-! ### The parts of a finite word -/
theorem fin_val {x : Nat} (h : fin x) : ∃ s m p, double.read x = .number s m p ∧ val x = mval s m p ∧ neg x = s := by
  obtain ⟨_, s, m, p, h⟩ := h
  exact ⟨s, m, p, h, by unfold val; rw [h]; rfl, by unfold neg; rw [h]; rfl⟩

theorem signed_rat (s : Bool) (m up : Nat) : ((signed s m up : Int) : Rat) = sgn s * ((m : Rat) * p2 (up : Int)) := by
  unfold signed sgn
  cases s
  · simp only [Bool.false_eq_true, if_false]
    rw [Rat.intCast_natCast, shl_rat, Rat.one_mul]
  · simp only [if_true]
    rw [Rat.intCast_neg, Rat.intCast_natCast, shl_rat]; grind

theorem natAbs_rat (t : Int) : ((t.natAbs : Nat) : Rat) = ab (t : Rat) := by
  rcases Int.natAbs_eq t with h | h
  · rw [ab_of_nonneg (by rw [h, Rat.intCast_natCast]; exact Rat.natCast_nonneg)]
    conv => rhs; rw [h]
    rw [Rat.intCast_natCast]
  · have : (t : Rat) = -((t.natAbs : Nat) : Rat) := by
      conv => lhs; rw [h]
      rw [Rat.intCast_neg, Rat.intCast_natCast]
    have h2 : (0 : Rat) ≤ ((t.natAbs : Nat) : Rat) := Rat.natCast_nonneg
    rw [this, ab_neg, ab_of_nonneg h2]

theorem mval_natAbs (t : Int) (b : Bool) (base : Int) (hb : t ≠ 0 → b = decide (t < 0)) : mval b t.natAbs base = (t : Rat) * p2 base := by
  unfold mval
  rw [natAbs_rat, ← Rat.mul_assoc]
  congr 1
  by_cases h0 : t = 0
  · subst h0; cases b <;> decide +kernel
  · rw [hb h0]
    by_cases hn : t < 0
    · have : (t : Rat) < 0 := Rat.intCast_neg_iff.2 hn
      simp only [hn, decide_true]; unfold sgn; rw [ab_of_neg (Rat.le_of_lt this)]; simp; grind
    · have : (0 : Rat) ≤ t := Rat.intCast_nonneg.2 (by omega)
      simp only [hn, decide_false]; unfold sgn; rw [ab_of_nonneg this]; simp

def fadd (x y : Nat) : Nat := (double.add x y).getD 0
def fsub (x y : Nat) : Nat := (double.sub x y).getD 0
def fmul (x y : Nat) : Nat := (double.mul x y).getD 0
def fdiv (x y : Nat) : Nat := (double.div x y).getD 0
def fsqrt (x : Nat) : Nat := (double.sqrt x).getD 0

theorem sum_num (s t : Bool) (m n : Nat) (i j : Int) : ∃ b c k, Datum.sum (.number s m i) (.number t n j) = some (.number b c k) ∧ mval b c k = mval s m i + mval t n j := by
  refine ⟨_, _, _, rfl, ?_⟩
  have e : ∀ (s : Bool) (m : Nat) (i : Int), min i j ≤ i → ((signed s m (i - min i j).toNat : Int) : Rat) * p2 (min i j) = mval s m i := by
    intro s m i hi
    rw [signed_rat]; unfold mval
    rw [Rat.mul_assoc, Rat.mul_assoc, ← p2_add]; congr 3; omega
  have e' : ∀ (s : Bool) (m : Nat) (j : Int), min i j ≤ j → ((signed s m (j - min i j).toNat : Int) : Rat) * p2 (min i j) = mval s m j := by
    intro s m j hj
    rw [signed_rat]; unfold mval
    rw [Rat.mul_assoc, Rat.mul_assoc, ← p2_add]; congr 3; omega
  rw [mval_natAbs]
  · rw [Rat.intCast_add, Rat.add_mul]
    congr 1
    · rw [signed_rat]; unfold mval; rw [Rat.mul_assoc, Rat.mul_assoc, ← p2_add]; congr 3; omega
    · rw [signed_rat]; unfold mval; rw [Rat.mul_assoc, Rat.mul_assoc, ← p2_add]; congr 3; omega
  · intro h; simp [h]

theorem mval_opp (s : Bool) (m : Nat) (p : Int) : mval (!s) m p = - mval s m p := by
  unfold mval sgn; cases s <;> simp <;> grind

theorem add_eq {x y : Nat} (hx : fin x) (hy : fin y) : double.add x y = some (fadd x y) ∧ ∃ b c k, fadd x y = double.nearest b c k ∧ mval b c k = val x + val y := by
  obtain ⟨s, m, i, r1, v1, _⟩ := fin_val hx
  obtain ⟨t, n, j, r2, v2, _⟩ := fin_val hy
  obtain ⟨b, c, k, e, ev⟩ := sum_num s t m n i j
  have h : double.add x y = some (double.nearest b c k) := by
    unfold Format.add; rw [r1, r2, e]; rfl
  have h2 : fadd x y = double.nearest b c k := by unfold fadd; rw [h]; rfl
  exact ⟨by rw [h, h2], b, c, k, h2, by rw [ev, v1, v2]⟩
theorem sub_eq {x y : Nat} (hx : fin x) (hy : fin y) : double.sub x y = some (fsub x y) ∧ ∃ b c k, fsub x y = double.nearest b c k ∧ mval b c k = val x - val y := by
  obtain ⟨s, m, i, r1, v1, _⟩ := fin_val hx
  obtain ⟨t, n, j, r2, v2, _⟩ := fin_val hy
  obtain ⟨b, c, k, e, ev⟩ := sum_num s (!t) m n i j
  have h : double.sub x y = some (double.nearest b c k) := by
    unfold Format.sub; rw [r1, r2]; show Option.map _ (Datum.sum _ (.number (!t) n j)) = _; rw [e]; rfl
  have h2 : fsub x y = double.nearest b c k := by unfold fsub; rw [h]; rfl
  exact ⟨by rw [h, h2], b, c, k, h2, by rw [ev, v1, v2, mval_opp]; grind⟩
theorem sgn_xor (s t : Bool) : sgn (s ^^ t) = sgn s * sgn t := by cases s <;> cases t <;> decide +kernel
theorem mul_eq {x y : Nat} (hx : fin x) (hy : fin y) : double.mul x y = some (fmul x y) ∧ ∃ c k, fmul x y = double.nearest (neg x ^^ neg y) c k ∧ mval (neg x ^^ neg y) c k = val x * val y := by
  obtain ⟨s, m, i, r1, v1, n1⟩ := fin_val hx
  obtain ⟨t, n, j, r2, v2, n2⟩ := fin_val hy
  have h : double.mul x y = some (double.nearest (s ^^ t) (m * n) (i + j)) := by
    unfold Format.mul; rw [r1, r2]; rfl
  have h2 : fmul x y = double.nearest (s ^^ t) (m * n) (i + j) := by unfold fmul; rw [h]; rfl
  refine ⟨by rw [h, h2], m * n, i + j, by rw [n1, n2]; exact h2, ?_⟩
  rw [n1, n2, v1, v2]; unfold mval; rw [sgn_xor, Rat.natCast_mul, p2_add]; grind

theorem add_rd {x y : Nat} (hx : fin x) (hy : fin y) (h : ab (val x + val y) < p2 1023) : fin (fadd x y) ∧ Rd (val x + val y) (val (fadd x y)) := by
  obtain ⟨_, b, c, k, e, ev⟩ := add_eq hx hy
  rw [← ev] at h ⊢
  have := nearest_rd b c k h
  rw [e]; exact ⟨this.1, this.2.2⟩
theorem sub_rd {x y : Nat} (hx : fin x) (hy : fin y) (h : ab (val x - val y) < p2 1023) : fin (fsub x y) ∧ Rd (val x - val y) (val (fsub x y)) := by
  obtain ⟨_, b, c, k, e, ev⟩ := sub_eq hx hy
  rw [← ev] at h ⊢
  have := nearest_rd b c k h
  rw [e]; exact ⟨this.1, this.2.2⟩
theorem mul_rd {x y : Nat} (hx : fin x) (hy : fin y) (h : ab (val x * val y) < p2 1023) : fin (fmul x y) ∧ neg (fmul x y) = (neg x ^^ neg y) ∧ Rd (val x * val y) (val (fmul x y)) := by
  obtain ⟨_, c, k, e, ev⟩ := mul_eq hx hy
  rw [← ev] at h ⊢
  have := nearest_rd _ c k h
  rw [e]; exact this

end Cx
