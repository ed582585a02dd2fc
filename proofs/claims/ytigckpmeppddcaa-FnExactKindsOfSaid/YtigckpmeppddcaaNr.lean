/- 'near': the difference of two numbers is at most a 2^40th part of a size; the hypotenuse of whole numbers, zero among them; nearness of numbers that are not negative ('Rz'). Plain: no program in sight. -/
import Derived.Test.YtigckpmeppddcaaHy
set_option linter.unusedVariables false
namespace Cx
open Ieee

/-! ### Rz: as Rl, zero allowed -/
structure Rz (u a A : Rat) : Prop where
  u0 : 0 ≤ u
  u1 : u < 1
  pos : 0 ≤ A
  lo : A * (1 - u) ≤ a
  hi : a * (1 - u) ≤ A
theorem Rl.z {u a A : Rat} (h : Rl u a A) : Rz u a A := ⟨h.u0, h.u1, Rat.le_of_lt h.pos, h.lo, h.hi⟩
theorem Rz.apos {u a A : Rat} (h : Rz u a A) : 0 ≤ a := by
  have := Rat.mul_nonneg h.pos (show 0 ≤ 1 - u by have := h.u1; grind)
  have := h.lo
  grind
theorem Rz.zero {u : Rat} (h0 : 0 ≤ u) (h1 : u < 1) : Rz u 0 0 := ⟨h0, h1, Rat.le_refl, by grind, by grind⟩
theorem Rz.mono {u v a A : Rat} (h : Rz u a A) (huv : u ≤ v) (hv : v < 1) : Rz v a A := by
  have hp := h.pos
  have hp2 := h.apos
  have h1 := Rat.mul_le_mul_of_nonneg_left huv hp
  have h2 := Rat.mul_le_mul_of_nonneg_left huv hp2
  have := h.lo
  have := h.hi
  have := h.u0
  exact ⟨by grind, hv, hp, by grind, by grind⟩
theorem Rz.mul {u v a A b B : Rat} (h : Rz u a A) (h' : Rz v b B) (huv : u + v < 1) : Rz (u + v) (a * b) (A * B) := by
  have hA := h.pos
  have hB := h'.pos
  have ha := h.apos
  have hb := h'.apos
  have hu := h.u0
  have hv := h'.u0
  have hu1 := h.u1
  have hv1 := h'.u1
  have huv' := Rat.mul_nonneg hu hv
  refine ⟨by grind, huv, Rat.mul_nonneg hA hB, ?_, ?_⟩
  · have h1 := mul_le_mul_nn h.lo h'.lo (Rat.mul_nonneg hA (by grind)) hb
    have h2 := Rat.mul_nonneg (Rat.mul_nonneg hA hB) huv'
    grind
  · have h1 := mul_le_mul_nn h.hi h'.hi (Rat.mul_nonneg ha (by grind)) hB
    have h2 := Rat.mul_nonneg (Rat.mul_nonneg ha hb) huv'
    grind
theorem Rz.trans {u v a b c : Rat} (h : Rz u a b) (h' : Rz v b c) (huv : u + v < 1) : Rz (u + v) a c := by
  have hc := h'.pos
  have hb := h.pos
  have ha := h.apos
  have hu := h.u0
  have hv := h'.u0
  have hu1 := h.u1
  have hv1 := h'.u1
  have huv' := Rat.mul_nonneg hu hv
  refine ⟨by grind, huv, hc, ?_, ?_⟩
  · have h1 := Rat.mul_le_mul_of_nonneg_right h'.lo (show 0 ≤ 1 - u by grind)
    have := h.lo
    have h2 := Rat.mul_nonneg hc huv'
    grind
  · have h1 := Rat.mul_le_mul_of_nonneg_right h.hi (show 0 ≤ 1 - v by grind)
    have := h'.hi
    have h2 := Rat.mul_nonneg ha huv'
    grind
theorem Rz.add {u a A b B : Rat} (h : Rz u a A) (h' : Rz u b B) : Rz u (a + b) (A + B) := by
  have := h.pos; have := h'.pos; have := h.lo; have := h.hi; have := h'.lo; have := h'.hi
  exact ⟨h.u0, h.u1, by grind, by grind, by grind⟩
theorem Rz.rl {u a A : Rat} (h : Rz u a A) (hA : 0 < A) : Rl u a A := ⟨h.u0, h.u1, hA, h.lo, h.hi⟩
theorem Rz.half {u a A : Rat} (h : Rz u a A) (hu : u ≤ 1 / 2) : A ≤ 2 * a ∧ a ≤ 2 * A := by
  have h1 := h.lo
  have h2 := h.hi
  have e1 := Rat.mul_le_mul_of_nonneg_left hu h.pos
  have e2 := Rat.mul_le_mul_of_nonneg_left hu h.apos
  constructor <;> grind
theorem eps_lt_one : eps < 1 := by rw [eps_val]; decide +kernel
theorem Rd.rz {X v : Rat} (h : Rd X v) (hX : X = 0 ∨ p2 (-1022) ≤ X) : Rz eps v X := by
  rcases hX with h0 | h1
  · have : v = X := h.exact 0 0 (by rw [h0]; decide +kernel) (by decide) (by decide)
    rw [this, h0]; exact Rz.zero (Rat.le_of_lt eps_pos) eps_lt_one
  · exact (h.rl h1).z

/-! ### near -/
/-- 2^-40. -/
def part : Nat := 4427038433705197568
theorem fin_part : fin part := fin_of _ (by decide)
theorem val_part : val part = p2 (-40) := by decide +kernel

structure NearFin (a b s : Nat) : Prop where
  fd : fin (fsub a b)
  f1 : fin (fmul s part)
  f2 : fin (fneg s)
  f3 : fin (fmul (fneg s) part)
structure NearOk (a b s : Nat) : Prop where
  nf : NearFin a b s
  le : val (fsub a b) ≤ val (fmul s part)
  ge : val (fmul (fneg s) part) ≤ val (fsub a b)

theorem near_fin {a b s : Nat} (ha : fin a) (hb : fin b) (hs : fin s) (ba : ab (val a) ≤ p2 1000) (bb : ab (val b) ≤ p2 1000) (bs : ab (val s) ≤ p2 1000) : NearFin a b s := by
  have k1 : p2 1000 * 2 = p2 1001 := by rw [← p2_succ]; rfl
  have k2 := p2_lt (show 1001 < 1023 by decide)
  have k3 := p2_pos 1000
  rw [ab_le] at ba bb
  have d := sub_rd ha hb (by rw [ab_lt]; constructor <;> grind)
  obtain ⟨n1, n2, n3⟩ := fneg_spec hs
  have hsm : ab (val s) * p2 (-40) < p2 1023 := by
    have h1 := Rat.mul_le_mul_of_nonneg_right bs (Rat.le_of_lt (p2_pos (-40)))
    rw [← p2_add] at h1
    have h2 := p2_lt (show (1000 + -40 : Int) < 1023 by decide)
    grind
  have hpa : ab (p2 (-40)) = p2 (-40) := ab_of_nonneg (Rat.le_of_lt (p2_pos _))
  have m1 := mul_rd hs fin_part (by rw [val_part, ab_mul, hpa]; exact hsm)
  have m2 := mul_rd n1 fin_part (by rw [val_part, ab_mul, hpa, n2, ab_neg]; exact hsm)
  exact ⟨d.1, m1.1, n1, m2.1⟩

theorem near_aux {D X T B : Rat} (h1 : D - X ≤ B * (1 / 4503599627370496)) (h2 : -(D - X) ≤ B * (1 / 4503599627370496)) (hX1 : X ≤ B) (hX2 : -X ≤ B) (hT : 2 * B * (1 - 1 / 4503599627370496) ≤ T) (hB : 0 ≤ B) : D ≤ T ∧ -D ≤ T := by
  constructor <;> grind

/-- Near, where the difference is at most half of what is let. -/
theorem near_of {a b s : Nat} (ha : fin a) (hb : fin b) (hs : fin s) (ba : ab (val a) ≤ p2 1000) (bb : ab (val b) ≤ p2 1000) (slo : p2 (-900) ≤ val s) (shi : val s ≤ p2 1000)
    (h : ab (val a - val b) ≤ val s * p2 (-41)) : NearOk a b s := by
  have hs0 : 0 < val s := by have := p2_pos (-900); grind
  have nf := near_fin ha hb hs ba bb (by rw [ab_of_nonneg (Rat.le_of_lt hs0)]; exact shi)
  have k1 : p2 1000 * 2 = p2 1001 := by rw [← p2_succ]; rfl
  have k2 := p2_lt (show 1001 < 1023 by decide)
  have k3 := p2_pos 1000
  have ba' := ab_le.1 ba
  have bb' := ab_le.1 bb
  have d := (sub_rd ha hb (by rw [ab_lt]; constructor <;> grind)).2
  obtain ⟨n1, n2, n3⟩ := fneg_spec hs
  have hB : p2 (-1022) ≤ val s * p2 (-41) := by
    have h1 := Rat.mul_le_mul_of_nonneg_right slo (Rat.le_of_lt (p2_pos (-41)))
    rw [← p2_add] at h1
    exact Rat.le_trans (p2_mono (by decide)) h1
  have dab := d.abs h hB
  rw [ab_le, eps_val] at dab
  have h' := ab_le.1 h
  have hB0 : 0 ≤ val s * p2 (-41) := Rat.le_trans (Rat.le_of_lt (p2_pos (-1022))) hB
  have e40 : val s * p2 (-40) = 2 * (val s * p2 (-41)) := by
    rw [show (-40 : Int) = -41 + 1 from rfl, p2_succ]; grind
  have hsm : ab (val s) * p2 (-40) < p2 1023 := by
    have h1 := Rat.mul_le_mul_of_nonneg_right shi (Rat.le_of_lt (p2_pos (-40)))
    rw [← p2_add] at h1
    have h2 := p2_lt (show (1000 + -40 : Int) < 1023 by decide)
    rw [ab_of_nonneg (Rat.le_of_lt hs0)]
    grind
  have hpa : ab (p2 (-40)) = p2 (-40) := ab_of_nonneg (Rat.le_of_lt (p2_pos _))
  have m1 := (mul_rd hs fin_part (by rw [val_part, ab_mul, hpa]; exact hsm)).2.2
  have m2 := (mul_rd n1 fin_part (by rw [val_part, ab_mul, hpa, n2, ab_neg]; exact hsm)).2.2
  rw [val_part] at m1 m2
  rw [n2] at m2
  have m2' := m2.neg
  rw [show -(-val s * p2 (-40)) = val s * p2 (-40) by grind] at m2'
  have hlo : p2 (-1022) ≤ val s * p2 (-40) := by rw [e40]; grind
  have r1 := (m1.rl hlo).lo
  have r2 := (m2'.rl hlo).lo
  rw [e40, eps_val] at r1 r2
  have c1 := near_aux dab.1 dab.2 h'.1 h'.2 r1 hB0
  have c2 := near_aux dab.1 dab.2 h'.1 h'.2 r2 hB0
  exact ⟨nf, c1.1, by grind⟩

/-! ### The hypotenuse of whole numbers -/
def fhypt (p q : Nat) : Nat := if fabs p = 0 ∧ fabs q = 0 then 0 else fhyp p q

theorem ge_one_of_int {n : Int} (h : n ≠ 0) : 1 ≤ ab (n : Rat) := by
  rw [← natAbs_rat]
  have : 1 ≤ n.natAbs := by omega
  have := Rat.natCast_le_natCast.2 this
  exact this

theorem hbig_int {p q : Nat} {a b : Int} (hp : fin p) (hq : fin q) (ha : val p = a) (hb : val q = b) (ba : a.natAbs ≤ 1152921504606846976) (bb : b.natAbs ≤ 1152921504606846976) (h : ¬ (a = 0 ∧ b = 0)) :
    1 ≤ val (hbig p q) ∧ val (hbig p q) ≤ 1152921504606846976 := by
  obtain ⟨f1, f2, s0, sb, hsum, h1, h2, h3, _⟩ := hparts hp hq
  have u1 : ab (a : Rat) ≤ 1152921504606846976 := by
    rw [← natAbs_rat]; have := Rat.natCast_le_natCast.2 ba; exact this
  have u2 : ab (b : Rat) ≤ 1152921504606846976 := by
    rw [← natAbs_rat]; have := Rat.natCast_le_natCast.2 bb; exact this
  rw [ha] at h1 h3
  rw [hb] at h2 h3
  constructor
  · by_cases h0 : a = 0
    · have := ge_one_of_int (show b ≠ 0 from fun hb => h ⟨h0, hb⟩)
      grind
    · have := ge_one_of_int h0
      grind
  · rcases h3 with h3 | h3 <;> grind

structure HyptIs (p q : Nat) (a b : Int) : Prop where
  ok : ¬ (fabs p = 0 ∧ fabs q = 0) → (p2 (-500) ≤ val (hbig p q) ∧ val (hbig p q) ≤ p2 500)
  fh : fin (fhypt p q)
  nn : 0 ≤ val (fhypt p q)
  near : Rz (10 * eps) (val (fhypt p q) * val (fhypt p q)) ((a * a + b * b : Int) : Rat)
  le : val (fhypt p q) ≤ 4611686018427387904
  ge : ¬ (a = 0 ∧ b = 0) → 1 / 2 ≤ val (fhypt p q)
  zero : a = 0 ∧ b = 0 → val (fhypt p q) = 0

theorem sq_int_nonneg (a : Int) : 0 ≤ a * a := by
  have := Int.natAbs_mul_self (a := a); omega

theorem one_le_sq {a b : Int} (h : ¬ (a = 0 ∧ b = 0)) : 1 ≤ a * a + b * b := by
  have h1 := sq_int_nonneg a
  have h2 := sq_int_nonneg b
  rcases Int.lt_or_le (a * a + b * b) 1 with h3 | h3
  · exfalso
    have ha : a * a = 0 := by omega
    have hb : b * b = 0 := by omega
    exact h ⟨by rcases Int.mul_eq_zero.1 ha with h | h <;> exact h, by rcases Int.mul_eq_zero.1 hb with h | h <;> exact h⟩
  · exact h3

theorem hypt_int {p q : Nat} {a b : Int} (hp : fin p) (hq : fin q) (ha : val p = a) (hb : val q = b) (ba : a.natAbs ≤ 1152921504606846976) (bb : b.natAbs ≤ 1152921504606846976) : HyptIs p q a b := by
  have e10 : 10 * eps < 1 := by rw [eps_val]; decide +kernel
  have e100 : 0 ≤ 10 * eps := by rw [eps_val]; decide +kernel
  by_cases h : a = 0 ∧ b = 0
  · have z1 : fabs p = 0 := zero_word hp (by rw [ha, h.1]; rfl)
    have z2 : fabs q = 0 := zero_word hq (by rw [hb, h.2]; rfl)
    have e : fhypt p q = 0 := by unfold fhypt; rw [if_pos ⟨z1, z2⟩]
    have v0 : val 0 = 0 := by decide +kernel
    have f0 : fin 0 := fin_of 0 (by decide)
    refine ⟨fun hn => absurd ⟨z1, z2⟩ hn, by rw [e]; exact f0, by rw [e, v0]; exact Rat.le_refl, ?_, by rw [e, v0]; decide +kernel, fun hn => absurd h hn, fun _ => by rw [e, v0]⟩
    have z0 : ((0 * 0 + 0 * 0 : Int) : Rat) = 0 := by decide
    rw [e, v0, h.1, h.2, z0, Rat.zero_mul]
    exact Rz.zero e100 e10
  · obtain ⟨b1, b2⟩ := hbig_int hp hq ha hb ba bb h
    have ok : p2 (-500) ≤ val (hbig p q) ∧ val (hbig p q) ≤ p2 500 := by
      have t1 := p2_mono (show (-500 : Int) ≤ 0 by decide)
      have t2 := p2_mono (show (60 : Int) ≤ 500 by decide)
      have t3 : p2 60 = 1152921504606846976 := by decide +kernel
      rw [p2_zero] at t1
      constructor <;> grind
    have hz : ¬ (fabs p = 0 ∧ fabs q = 0) := by
      rintro ⟨z1, z2⟩
      apply h
      have f1 := (fabs_spec hp).2.1
      have f2 := (fabs_spec hq).2.1
      have v0 : val 0 = 0 := by decide +kernel
      rw [z1, v0, ha] at f1
      rw [z2, v0, hb] at f2
      exact ⟨Rat.intCast_eq_zero_iff.1 (ab_eq_zero.1 f1.symm), Rat.intCast_eq_zero_iff.1 (ab_eq_zero.1 f2.symm)⟩
    have e : fhypt p q = fhyp p q := by unfold fhypt; rw [if_neg hz]
    obtain ⟨_, _, _, _, _, _, z1, z0, zr⟩ := hyp_spec hp hq ok.1 ok.2
    have eX : val p * val p + val q * val q = ((a * a + b * b : Int) : Rat) := by rw [ha, hb, Rat.intCast_add, Rat.intCast_mul, Rat.intCast_mul]
    rw [eX] at zr
    rw [← e] at z1 z0 zr
    have hone : (1 : Rat) ≤ ((a * a + b * b : Int) : Rat) := by
      have := Rat.intCast_le_intCast.2 (one_le_sq h)
      exact this
    have hh := zr.half (by rw [eps_val]; decide +kernel)
    refine ⟨fun _ => ok, z1, Rat.le_of_lt z0, zr.z, ?_, fun _ => ?_, fun hn => absurd hn h⟩
    · refine le_of_sq_le (by decide) ?_
      have s1 : a * a ≤ 1152921504606846976 * 1152921504606846976 := by
        have h5 : a.natAbs * a.natAbs ≤ 1152921504606846976 * 1152921504606846976 := Nat.mul_le_mul ba ba
        have h6 := Int.natAbs_mul_self (a := a)
        omega
      have s2 : b * b ≤ 1152921504606846976 * 1152921504606846976 := by
        have h5 : b.natAbs * b.natAbs ≤ 1152921504606846976 * 1152921504606846976 := Nat.mul_le_mul bb bb
        have h6 := Int.natAbs_mul_self (a := b)
        omega
      have s3 : ((a * a + b * b : Int) : Rat) ≤ ((1152921504606846976 * 1152921504606846976 + 1152921504606846976 * 1152921504606846976 : Int) : Rat) := Rat.intCast_le_intCast.2 (by omega)
      have s4 : ((1152921504606846976 * 1152921504606846976 + 1152921504606846976 * 1152921504606846976 : Int) : Rat) * 2 ≤ 4611686018427387904 * 4611686018427387904 := by decide +kernel
      have := hh.2
      grind
    · refine le_of_sq_le (Rat.le_of_lt z0) ?_
      have := hh.1
      grind

end Cx
