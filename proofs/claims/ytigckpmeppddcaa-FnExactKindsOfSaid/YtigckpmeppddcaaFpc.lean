/- Division and square root of doubles as rationals. Plain: no program in sight. -/
import Derived.Test.YtigckpmeppddcaaFpb
set_option linter.unusedVariables false
namespace Cx
open Ieee

/-- As Rd, of magnitudes. -/
structure Rm (X v : Rat) : Prop where
  near : (v - X ≤ X * eps ∧ X - v ≤ X * eps) ∨ (X < p2 (-1022) ∧ v - X ≤ p2 (-1074) ∧ X - v ≤ p2 (-1074))
  exact : ∀ (k : Nat) (e : Int), X = k * p2 e → k ≤ 9007199254740992 → -1074 ≤ e → v = X

theorem Rm.signed {X v : Rat} (s : Bool) (hX : 0 ≤ X) (hv : 0 ≤ v) (h : Rm X v) : Rd (sgn s * X) (sgn s * v) := by
  have e1 : sgn s * v - sgn s * X = sgn s * (v - X) := by grind
  constructor
  · rw [e1, ab_sgn, ab_sgn, ab_of_nonneg hX]
    rcases h.near with h1 | h1
    · left; rw [ab_le]; constructor <;> grind
    · right; refine ⟨h1.1, ?_⟩; rw [ab_le]; constructor <;> grind
  · intro k e hk h1 h2
    rw [ab_sgn, ab_of_nonneg hX] at hk
    rw [h.exact k e hk h1 h2]
  · intro h1
    cases s
    · unfold sgn; simp; exact hv
    · have h0 : X = 0 := by unfold sgn at h1; simp at h1; grind
      have := h.exact 0 0 (by rw [h0]; grind) (by decide) (by decide)
      rw [this, h0]; grind
  · intro h1
    cases s
    · have h0 : X = 0 := by unfold sgn at h1; simp at h1; grind
      have := h.exact 0 0 (by rw [h0]; grind) (by decide) (by decide)
      rw [this, h0]; grind
    · unfold sgn; simp; grind

/-- A stand-in within a 2^53rd of 2^-1 of X rounds as X does, by eps. -/
theorem near_of_stand {X Y u v : Rat} (hu : 0 ≤ u) (hY1 : Y - X ≤ u) (hY2 : X - Y ≤ u) (hX : u * p2 54 ≤ X) (h : Rnd Y v) :
    (v - X ≤ X * eps ∧ X - v ≤ X * eps) ∨ (X < p2 (-1022) ∧ v - X ≤ p2 (-1074) ∧ X - v ≤ p2 (-1074)) := by
  have e54 : p2 54 = 18014398509481984 := by decide +kernel
  have e53 : p2 (-53) = 1 / 9007199254740992 := by decide +kernel
  rw [e54] at hX
  rcases h.near with h1 | h1
  · left
    rw [e53] at h1
    rw [eps_val]
    constructor <;> grind
  · obtain ⟨h2, h3, h4⟩ := h1
    have t1 : p2 (-1075) * 2 = p2 (-1074) := by rw [← p2_succ]; rfl
    have t2 : p2 (-1022) = p2 (-1075) * 9007199254740992 := by
      rw [show ((9007199254740992 : Rat)) = p2 53 from by decide +kernel, ← p2_add]; rfl
    have tp := p2_pos (-1075)
    rcases Rat.le_total (a := p2 (-1022)) (b := X) with hc | hc
    · left; rw [eps_val]; constructor <;> grind
    · by_cases hlt : X < p2 (-1022)
      · right; refine ⟨hlt, ?_, ?_⟩ <;> grind
      · left; rw [eps_val]; constructor <;> grind

theorem rat_div_mul {a b : Rat} (hb : b ≠ 0) : a / b * b = a := Rat.div_mul_cancel hb

/-- The quotient's stand-in. -/
theorem quot_core (s t : Bool) (m n : Nat) (i j : Int) (hn : n ≠ 0) (hX : (m : Rat) * p2 i / ((n : Rat) * p2 j) < p2 1022) :
    ∃ q k, Datum.quotient 54 (.number s m i) (.number t n j) = some (.number (s ^^ t) q k) ∧ (q : Rat) * p2 k < p2 1023 ∧
      ∀ v, Rnd ((q : Rat) * p2 k) v → Rm ((m : Rat) * p2 i / ((n : Rat) * p2 j)) v := by
  generalize hmore : 54 + n.log2 - m.log2 = more
  refine ⟨2 * ((m <<< more) / n) + ((m <<< more) % n != 0).toNat, i - j - more - 1, ?_, ?_⟩
  · simp only [Datum.quotient, if_neg hn, hmore]
  · have hnr : (0 : Rat) < n := Rat.natCast_pos.2 (Nat.pos_of_ne_zero hn)
    have hpj := p2_pos j
    have hpi := p2_pos i
    have hden : 0 < (n : Rat) * p2 j := Rat.mul_pos hnr hpj
    have hdne : (n : Rat) * p2 j ≠ 0 := (Rat.ne_of_lt hden).symm
    have hD := Nat.div_add_mod (m <<< more) n
    have hM := Nat.mod_lt (m <<< more) (Nat.pos_of_ne_zero hn)
    have hDr : ((m <<< more : Nat) : Rat) = m * p2 (more : Int) := shl_rat m more
    generalize hX' : (m : Rat) * p2 i / ((n : Rat) * p2 j) = X at *
    have eX : X * ((n : Rat) * p2 j) = (m : Rat) * p2 i := by rw [← hX']; exact Rat.div_mul_cancel hdne
    generalize hu : p2 (i - j - more - 1) = u
    have hup : 0 < u := by rw [← hu]; exact p2_pos _
    -- X * n = D * 2u
    have e2 : p2 i = u * 2 * p2 (more : Int) * p2 j := by
      rw [← hu, ← p2_succ, ← p2_add, ← p2_add]; congr 1; omega
    have eXn : X * n = ((m <<< more : Nat) : Rat) * (u * 2) := by
      rw [hDr]
      have h1 : X * n * p2 j = (m : Rat) * p2 (more : Int) * (u * 2) * p2 j := by rw [Rat.mul_assoc, eX, e2]; grind
      have := congrArg (· * (p2 j)⁻¹) h1
      simp only [Rat.mul_assoc, Rat.mul_inv_cancel _ (Rat.ne_of_lt hpj).symm, Rat.mul_one] at this
      rw [this]; grind
    generalize hQ : (m <<< more) / n = Q at *
    generalize hR : (m <<< more) % n = R at *
    have hDQ : ((m <<< more : Nat) : Rat) = (n : Rat) * Q + R := by
      rw [← hD, Rat.natCast_add, Rat.natCast_mul]
    have hR1 : (R : Rat) < n := Rat.natCast_lt_natCast.2 hM
    have hR0 : (0 : Rat) ≤ R := Rat.natCast_nonneg
    -- 2Q u ≤ X < (2Q + 2) u
    have b1 : 2 * (Q : Rat) * u ≤ X := by
      have : (2 * (Q : Rat) * u) * n ≤ X * n := by
        rw [eXn, hDQ]
        have := Rat.mul_nonneg hR0 (Rat.le_of_lt hup)
        grind
      exact Rat.le_of_mul_le_mul_right this hnr
    have b2 : X ≤ (2 * (Q : Rat) + 2) * u := by
      have : X * n ≤ ((2 * (Q : Rat) + 2) * u) * n := by
        rw [eXn, hDQ]
        have := Rat.mul_le_mul_of_nonneg_right (Rat.le_of_lt hR1) (Rat.le_of_lt hup)
        grind
      exact Rat.le_of_mul_le_mul_right this hnr
    have hX0 : 0 ≤ X := by
      have : (0 : Rat) ≤ Q := Rat.natCast_nonneg
      have := Rat.mul_nonneg this (Rat.le_of_lt hup)
      grind
    by_cases hm : m = 0
    · -- zero
      have hD0 : m <<< more = 0 := by rw [hm]; exact Nat.zero_shiftLeft _
      rw [hD0] at hD hDQ eXn
      have hQ0 : Q = 0 := by rw [← hQ, hD0]; exact Nat.zero_div _
      have hR00 : R = 0 := by rw [← hR, hD0]; exact Nat.zero_mod _
      have hXz : X = 0 := by
        have : X * n = 0 := by rw [eXn]; grind
        rcases Rat.mul_eq_zero.1 this with h | h
        · exact h
        · exact absurd h (Rat.ne_of_lt hnr).symm
      subst hQ0 hR00
      constructor
      · have := p2_pos 1023
        simp
        exact this
      · intro v hv
        have hz : v = 0 := by
          have := hv.exact 0 0 (by simp) (by decide) (by decide)
          rw [this]; simp
        rw [hXz, hz]
        constructor
        · left; constructor <;> grind
        · intros; rfl
    · have hQb : 9007199254740992 ≤ Q := by
        rw [← hQ, Nat.le_div_iff_mul_le (Nat.pos_of_ne_zero hn)]
        have h1 := Nat.log2_self_le hm
        have h2 : n < 2 ^ (n.log2 + 1) := Nat.lt_log2_self
        have h3 : 2 ^ (54 + n.log2) ≤ m <<< more := by
          rw [Nat.shiftLeft_eq]
          refine Nat.le_trans ?_ (Nat.mul_le_mul_right _ h1)
          rw [← Nat.pow_add]
          exact Nat.pow_le_pow_right (by decide) (by omega)
        have h4 : 2 ^ (54 + n.log2) = 9007199254740992 * 2 ^ (n.log2 + 1) := by
          rw [show 54 + n.log2 = 53 + (n.log2 + 1) by omega, Nat.pow_add]
        have h5 : 9007199254740992 * n ≤ 9007199254740992 * 2 ^ (n.log2 + 1) := Nat.mul_le_mul_left _ (Nat.le_of_lt h2)
        omega
      have hQr : (9007199254740992 : Rat) ≤ Q := by
        have := Rat.natCast_le_natCast.2 hQb
        exact this
      have hbig : u * p2 54 ≤ X := by
        rw [show p2 54 = 18014398509481984 from by decide +kernel]
        have := Rat.mul_le_mul_of_nonneg_right hQr (Rat.le_of_lt hup)
        grind
      -- the sticky digit
      have hst : ∃ d : Nat, (R != 0).toNat = d ∧ (d = 0 ∧ R = 0 ∨ d = 1) := by
        refine ⟨_, rfl, ?_⟩
        by_cases h : R = 0
        · left; simp [h]
        · right; simp [h]
      obtain ⟨d, hd, hd2⟩ := hst
      rw [hd]
      have eY : ((2 * Q + d : Nat) : Rat) = 2 * (Q : Rat) + d := by rw [Rat.natCast_add, Rat.natCast_mul]; rfl
      rw [eY]
      have near : ((2 * (Q : Rat) + d) * u - X ≤ u ∧ X - (2 * (Q : Rat) + d) * u ≤ u) := by
        rcases hd2 with ⟨rfl, hR00⟩ | rfl
        · have : X = 2 * (Q : Rat) * u := by
            have h1 : X * n = (2 * (Q : Rat) * u) * n := by rw [eXn, hDQ, hR00]; grind
            have := congrArg (· * (n : Rat)⁻¹) h1
            simp only [Rat.mul_assoc, Rat.mul_inv_cancel _ (Rat.ne_of_lt hnr).symm, Rat.mul_one] at this
            rw [this]; grind
          have z : ((0 : Nat) : Rat) = 0 := rfl
          rw [z]
          constructor <;> grind
        · have z : ((1 : Nat) : Rat) = 1 := rfl
          rw [z]
          constructor <;> grind
      constructor
      · have t1 : p2 1023 = p2 1022 * 2 := by rw [← p2_succ]; rfl
        have t2 : u ≤ X := by
          have : (1 : Rat) ≤ p2 54 := by decide +kernel
          have := Rat.mul_le_mul_of_nonneg_left this (Rat.le_of_lt hup)
          grind
        have := near.1
        grind
      · intro v hv
        constructor
        · exact near_of_stand (Rat.le_of_lt hup) near.1 near.2 hbig hv
        · intro k e hXe hk he
          -- then nothing is left over
          have hkX : (k : Rat) * p2 e * n = ((m <<< more : Nat) : Rat) * (u * 2) := by rw [← hXe, eXn]
          have hEn : 0 ≤ e - (i - j - more) := by
            rcases Int.lt_or_le (e - (i - j - more)) 0 with hlt | hle
            · exfalso
              have h1 : p2 e * 2 ≤ u * 2 := by
                rw [← p2_succ, ← hu, ← p2_succ]; exact p2_mono (by omega)
              have h2 : (k : Rat) ≤ 9007199254740992 := by have := Rat.natCast_le_natCast.2 hk; exact this
              have h3 : X ≤ 9007199254740992 * p2 e := by
                rw [hXe]; exact Rat.mul_le_mul_of_nonneg_right h2 (Rat.le_of_lt (p2_pos e))
              have h4 := Rat.mul_le_mul_of_nonneg_right hQr (Rat.le_of_lt hup)
              have h5 := p2_pos e
              grind
            · exact hle
          obtain ⟨E, hE⟩ : ∃ E : Nat, e = (i - j - more) + E := ⟨(e - (i - j - more)).toNat, by omega⟩
          have h6 : p2 e = u * 2 * p2 (E : Int) := by rw [← hu, ← p2_succ, ← p2_add]; congr 1; omega
          rw [h6, p2_nat] at hkX
          have hu2 : u * 2 ≠ 0 := by grind
          have h7 : ((k * 2 ^ E * n : Nat) : Rat) = ((m <<< more : Nat) : Rat) := by
            rw [Rat.natCast_mul, Rat.natCast_mul]
            have h8 : ((k : Rat) * ((2 ^ E : Nat) : Rat) * n) * (u * 2) = ((m <<< more : Nat) : Rat) * (u * 2) := by rw [← hkX]; grind
            have := congrArg (· * (u * 2)⁻¹) h8
            simp only [Rat.mul_assoc] at this
            simp only [← Rat.mul_assoc (u) 2, Rat.mul_inv_cancel _ hu2, Rat.mul_one] at this
            rw [← Rat.mul_assoc] at this
            exact this
          have h8 := Rat.natCast_inj.1 h7
          have hR00 : R = 0 := by rw [← hR, ← h8]; exact Nat.mul_mod_left _ _
          have hd0 : d = 0 := by rw [← hd, hR00]; rfl
          have hXY : (2 * (Q : Rat) + d) * u = X := by
            have h1 : X * n = (2 * (Q : Rat) * u) * n := by rw [eXn, hDQ, hR00]; grind
            have := congrArg (· * (n : Rat)⁻¹) h1
            simp only [Rat.mul_assoc, Rat.mul_inv_cancel _ (Rat.ne_of_lt hnr).symm, Rat.mul_one] at this
            rw [this, hd0]; grind
          rw [hXY] at hv
          exact hv.exact k e hXe hk he

theorem div_mval (s t : Bool) (m n : Nat) (i j : Int) (hn : n ≠ 0) : mval s m i / mval t n j = sgn (s ^^ t) * ((m : Rat) * p2 i / ((n : Rat) * p2 j)) := by
  unfold mval
  rw [sgn_xor, Rat.div_def, Rat.div_def, Rat.inv_mul_rev]
  have : (sgn t)⁻¹ = sgn t := Rat.inv_eq_of_mul_eq_one (sgn_mul_self t)
  rw [this]; grind

theorem div_rd {x y : Nat} (hx : fin x) (hy : fin y) (hy0 : val y ≠ 0) (h : ab (val x / val y) < p2 1022) :
    double.div x y = some (fdiv x y) ∧ fin (fdiv x y) ∧ neg (fdiv x y) = (neg x ^^ neg y) ∧ Rd (val x / val y) (val (fdiv x y)) := by
  obtain ⟨s, m, i, r1, v1, n1⟩ := fin_val hx
  obtain ⟨t, n, j, r2, v2, n2⟩ := fin_val hy
  have hn : n ≠ 0 := by
    intro h0; apply hy0; rw [v2, h0]; unfold mval; grind
  have hnr : (0 : Rat) < n := Rat.natCast_pos.2 (Nat.pos_of_ne_zero hn)
  have hq0 : 0 ≤ (m : Rat) * p2 i / ((n : Rat) * p2 j) := by
    rw [Rat.div_def]
    exact Rat.mul_nonneg (mval_nonneg_mag m i) (Rat.le_of_lt (Rat.inv_pos.2 (Rat.mul_pos hnr (p2_pos j))))
  rw [v1, v2, div_mval s t m n i j hn] at h ⊢
  rw [ab_sgn, ab_of_nonneg hq0] at h
  obtain ⟨q, k, e, hb, hv⟩ := quot_core s t m n i j hn h
  have h1 : double.div x y = some (double.nearest (s ^^ t) q k) := by
    unfold Format.div; rw [r1, r2]; show Option.map _ (Datum.quotient 54 _ _) = _; rw [e]; rfl
  have h2 : fdiv x y = double.nearest (s ^^ t) q k := by unfold fdiv; rw [h1]; rfl
  obtain ⟨f1, f2, v, fv, fv0, fr⟩ := nearest_spec (s ^^ t) q k hb
  rw [h2, n1, n2, fv]
  exact ⟨h1, f1, f2, (hv v fr).signed (s ^^ t) hq0 fv0⟩

end Cx
