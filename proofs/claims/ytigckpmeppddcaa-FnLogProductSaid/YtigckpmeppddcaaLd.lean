/- The library's logarithm as a function of words: it is the logarithm, up to 2^-41; it is 0 at 1. Plain: no program in sight. -/
import Derived.Test.YtigckpmeppddcaaLb
import Derived.Test.YtigckpmeppddcaaLc
import Derived.Test.YtigckpmeppddcaaCn
set_option linter.unusedVariables false
namespace Cx
open Ieee Go

/-! ### The logarithms of powers of two -/
def LN : Rat := cHI + cLO
theorem LN_near : ab (LN - ev TG (1 / 3)) ≤ 1 / 1000000000000000000000 := by decide +kernel
theorem lg_two : Lg 2 LN (3 * e56) := by
  have h := lg_ra (t := 1 / 3) (by decide +kernel)
  rw [show ra (1 / 3) = 2 by decide +kernel] at h
  exact (h.to (by decide +kernel) LN_near (by decide +kernel) (by decide +kernel)).mono (by decide +kernel) (by decide +kernel)
theorem LN_le : 0 ≤ LN ∧ LN ≤ 7 / 10 := by decide +kernel
theorem ln_aux {n L : Rat} (kn : 0 ≤ n) (k64 : n ≤ 64) (l0 : 0 ≤ L) (l1 : L ≤ 7 / 10) : ab (n * L) ≤ 500 := by
  rw [ab_of_nonneg (Rat.mul_nonneg kn l0)]
  have := mul_le_mul_nn k64 l1 kn (by decide +kernel)
  grind
theorem exp_lo {m P X L : Rat} (h : X = m * P) (hm : m ≤ 1) (hP : 0 < P) (hL : L ≤ X) : L ≤ P := by
  have := Rat.mul_le_mul_of_nonneg_right hm (Rat.le_of_lt hP)
  grind
theorem exp_hi {m P X Q : Rat} (h : X = m * P) (hm : 1 / 2 ≤ m) (hP : 0 < P) (hQ : X ≤ Q) : P ≤ Q * 2 := by
  have := Rat.mul_le_mul_of_nonneg_right hm (Rat.le_of_lt hP)
  grind
theorem sum_lt {a b c d e n : Rat} (h1 : n * (4 * e) ≤ 64 * (4 * e)) (h2 : 65 * (4 * e) + d < 1) (h3 : 0 ≤ e) (h4 : 0 < d) (h5 : 3 * e + d ≤ 4 * e) : n * (4 * e) + 3 * e + d < 1 ∧ n * (4 * e) + 3 * e + d ≤ (n + 1) * (4 * e) ∧ (n + 1) * (4 * e) < 1 ∧ n * (4 * e) ≤ 300 * e ∧ n * (4 * e) + d < 1 ∧ n * (4 * e) + d ≤ 300 * e := by
  refine ⟨?_, ?_, ?_, ?_, ?_, ?_⟩ <;> grind
theorem lg_p2_nat : ∀ n : Nat, n ≤ 64 → Lg (p2 (n : Int)) ((n : Rat) * LN) ((n : Rat) * (4 * e56))
  | 0, _ => by
    show Rl _ _ _
    rw [show ((0 : Nat) : Int) = 0 from rfl, p2_zero, show ((0 : Nat) : Rat) = 0 from rfl, Rat.zero_mul, Rat.zero_mul, ex_zero]
    exact Rl.refl (by decide)
  | n + 1, hn => by
    have ih := lg_p2_nat n (by omega)
    have ek : ((n + 1 : Nat) : Rat) = (n : Rat) + 1 := by rw [Rat.natCast_add]; rfl
    have kn : (0 : Rat) ≤ (n : Rat) := Rat.natCast_nonneg
    have k64 : (n : Rat) ≤ 64 := by have := Rat.natCast_le_natCast.2 (show n ≤ 64 by omega); exact this
    have hl := LN_le
    have b1 : ab ((n : Rat) * LN) ≤ 500 := ln_aux kn k64 hl.1 hl.2
    have k0 : 65 * (4 * e56) + nu < 1 := by decide +kernel
    have k1 : 3 * e56 + nu ≤ 4 * e56 := by decide +kernel
    have e0 : 0 ≤ e56 := by decide +kernel
    have hne := Rat.mul_le_mul_of_nonneg_right k64 (show 0 ≤ 4 * e56 by decide +kernel)
    have q := sum_lt (a := 0) (b := 0) (c := 0) hne k0 e0 nu_pos k1
    have := ih.mul lg_two b1 (by decide +kernel) q.1
    rw [show ((n + 1 : Nat) : Int) = (n : Int) + 1 by omega, p2_succ, ek, Rat.add_mul (n : Rat) 1 LN, Rat.one_mul]
    exact this.mono q.2.1 q.2.2.1
theorem lg_p2 {K : Int} (h : K.natAbs ≤ 64) : Lg (p2 K) ((K : Rat) * LN) (300 * e56) := by
  have hl := LN_le
  have e0 : 0 ≤ e56 := by decide +kernel
  have k2 : 300 * e56 < 1 := by decide +kernel
  have k0 : 65 * (4 * e56) + nu < 1 := by decide +kernel
  have k1 : 3 * e56 + nu ≤ 4 * e56 := by decide +kernel
  rcases Int.le_total 0 K with h0 | h0
  · obtain ⟨n, rfl⟩ := Int.eq_ofNat_of_zero_le h0
    have := lg_p2_nat n (by omega)
    have k64 : (n : Rat) ≤ 64 := by have := Rat.natCast_le_natCast.2 (show n ≤ 64 by omega); exact this
    have hne := Rat.mul_le_mul_of_nonneg_right k64 (show 0 ≤ 4 * e56 by decide +kernel)
    have q := sum_lt (a := 0) (b := 0) (c := 0) hne k0 e0 nu_pos k1
    exact this.mono q.2.2.2.1 k2
  · obtain ⟨n, hn⟩ := Int.eq_ofNat_of_zero_le (show 0 ≤ -K by omega)
    obtain rfl : K = -(n : Int) := by omega
    have L := lg_p2_nat n (by omega)
    have kn : (0 : Rat) ≤ (n : Rat) := Rat.natCast_nonneg
    have k64 : (n : Rat) ≤ 64 := by have := Rat.natCast_le_natCast.2 (show n ≤ 64 by omega); exact this
    have hne := Rat.mul_le_mul_of_nonneg_right k64 (show 0 ≤ 4 * e56 by decide +kernel)
    have q := sum_lt (a := 0) (b := 0) (c := 0) hne k0 e0 nu_pos k1
    have b1 : ab ((n : Rat) * LN) ≤ 500 := ln_aux kn k64 hl.1 hl.2
    have := L.inv b1 q.2.2.2.2.1
    have e1 : (p2 (n : Int))⁻¹ = p2 (-(n : Int)) := by
      have hp := p2_pos (n : Int)
      refine cancel_right hp ?_
      rw [Rat.inv_mul_cancel _ (Rat.ne_of_lt hp).symm, Rat.mul_comm, p2_inv]
    rw [e1] at this
    rw [Rat.intCast_neg, Rat.intCast_natCast, Rat.neg_mul]
    exact this.mono q.2.2.2.2.2 k2

/-! ### The reduction -/
def lgm (x : Nat) : Nat := x % 4503599627370496 + 4602678819172646912
def lge (x : Nat) : Int := ((x / 4503599627370496 : Nat) : Int) - 1022
def w707 : Nat := 4604544271217802189
def lsm (x : Nat) : Nat := if val w707 < val (lgm x) then 0 else one
def lgk (x : Nat) : Nat := fsub (floatOfInt .f64 (lge x)) (lsm x)
def lgg (x : Nat) : Nat := fmul (lgm x) (fadd (lsm x) one)
def lgf (x : Nat) : Nat := fsub (lgg x) one
/-- math.Log. -/
def lgw (x : Nat) : Nat := lout (lgf x) (lgk x)

theorem fin_w707 : fin w707 := fin_of _ (by decide)
theorem val_w707 : 7071 / 10000 ≤ val w707 ∧ val w707 ≤ 70711 / 100000 := by constructor <;> decide +kernel

theorem normal_parts {x : Nat} (fx : fin x) (h1 : p2 (-60) ≤ val x) : 4503599627370496 ≤ x ∧ x < 9218868437227405312 ∧ val x = ((4503599627370496 + x % 4503599627370496 : Nat) : Rat) * p2 (-1074 + (x / 4503599627370496 - 1 : Nat)) := by
  have hp : 0 < val x := by have := p2_pos (-60); grind
  have hn := neg_of_pos fx hp
  have hlt := fx.1
  rw [neg_eq hlt] at hn
  have hx : ¬ 9223372036854775808 ≤ x := of_decide_eq_false hn
  have hf := (fin_iff x hlt).1 fx
  have em : x % 9223372036854775808 = x := Nat.mod_eq_of_lt (by omega)
  rw [em] at hf
  have hv : val x = dval (double.read x) := rfl
  rw [read_eq x hlt, em, hn] at hv
  by_cases hs : x < 4503599627370496
  · exfalso
    rw [if_pos hs] at hv
    have hv2 : val x = (x : Rat) * p2 (-1074) := by rw [hv]; show mval false x (-1074) = _; unfold mval sgn; simp
    have h3 : (x : Rat) ≤ p2 52 := by
      have e52 : p2 52 = ((4503599627370496 : Nat) : Rat) := by rw [show (52 : Int) = ((52 : Nat) : Int) from rfl, p2_nat]
      rw [e52]; exact Rat.natCast_le_natCast.2 (by omega)
    have h4 := Rat.mul_le_mul_of_nonneg_right h3 (Rat.le_of_lt (p2_pos (-1074)))
    rw [← p2_add] at h4
    have h5 := p2_lt (show (52 + -1074 : Int) < -60 by decide)
    grind
  · rw [if_neg hs, if_pos hf] at hv
    refine ⟨by omega, hf, ?_⟩
    rw [hv]
    show mval false _ _ = _
    unfold mval sgn; simp

theorem lgm_ok {x : Nat} (h1 : 4503599627370496 ≤ x) (h2 : x < 9218868437227405312) : fin (lgm x) ∧ val (lgm x) = ((4503599627370496 + x % 4503599627370496 : Nat) : Rat) * p2 (-53) := by
  have hl : lgm x < 18446744073709551616 := by unfold lgm; omega
  have em : lgm x % 9223372036854775808 = lgm x := by unfold lgm; omega
  have f : fin (lgm x) := (fin_iff _ hl).2 (by rw [em]; unfold lgm; omega)
  refine ⟨f, ?_⟩
  have hv : val (lgm x) = dval (double.read (lgm x)) := rfl
  have hd : decide (9223372036854775808 ≤ lgm x) = false := by apply decide_eq_false; unfold lgm; omega
  have e1 : lgm x % 4503599627370496 = x % 4503599627370496 := by unfold lgm; omega
  have e2 : lgm x / 4503599627370496 = 1022 := by unfold lgm; omega
  rw [read_eq _ hl, em, hd, if_neg (by unfold lgm; omega), if_pos (by unfold lgm; omega), e1, e2] at hv
  rw [hv]
  show mval false _ _ = _
  unfold mval sgn; simp

structure Red (x : Nat) (G : Rat) (K : Int) : Prop where
  fm : fin (lgm x)
  fe : fin (floatOfInt .f64 (lge x))
  fl : fin (lsm x)
  fk : fin (lgk x)
  fa : fin (fadd (lsm x) one)
  fg : fin (lgg x)
  vk : val (lgk x) = K
  vg : val (lgg x) = G
  vx : val x = G * p2 K
  g1 : 7071 / 10000 ≤ G
  g2 : G ≤ 14143 / 10000
  k : K.natAbs ≤ 64

theorem dbl_lo {m : Rat} (h : 1 / 2 ≤ m) : 7071 / 10000 ≤ m * 2 := by grind
theorem dbl_hi {m : Rat} (h : m ≤ 70711 / 100000) : m * 2 ≤ 14143 / 10000 := by grind
theorem mul_two_comm (a b : Rat) : a * (b * 2) = a * 2 * b := by grind
theorem red_ok {x : Nat} (fx : fin x) (h1 : p2 (-60) ≤ val x) (h2 : val x ≤ p2 60) : ∃ G K, Red x G K := by
  obtain ⟨n1, n2, vx⟩ := normal_parts fx h1
  obtain ⟨fm, vm⟩ := lgm_ok n1 n2
  have hxe : val x = val (lgm x) * p2 (lge x) := by
    have e : -53 + lge x = -1074 + ((x / 4503599627370496 - 1 : Nat) : Int) := by unfold lge; omega
    rw [vx, vm, Rat.mul_assoc, ← p2_add, e]
  have mlo : 1 / 2 ≤ val (lgm x) := by
    rw [vm]
    have := Rat.natCast_le_natCast.2 (show 4503599627370496 ≤ 4503599627370496 + x % 4503599627370496 by omega)
    have h3 := Rat.mul_le_mul_of_nonneg_right this (Rat.le_of_lt (p2_pos (-53)))
    refine Rat.le_trans ?_ h3
    decide +kernel
  have mhi : val (lgm x) ≤ 1 := by
    rw [vm]
    have := Rat.natCast_le_natCast.2 (show 4503599627370496 + x % 4503599627370496 ≤ 9007199254740992 by omega)
    have h3 := Rat.mul_le_mul_of_nonneg_right this (Rat.le_of_lt (p2_pos (-53)))
    refine Rat.le_trans h3 ?_
    decide +kernel
  -- the exponent
  have hpe := p2_pos (lge x)
  have elo : -60 ≤ lge x := by
    apply le_of_p2_le
    exact exp_lo hxe mhi hpe h1
  have ehi : lge x ≤ 61 := by
    apply le_of_p2_le
    rw [show (61 : Int) = 60 + 1 from rfl, p2_succ]
    exact exp_hi hxe mlo hpe h2
  clear vx vm
  obtain ⟨fe, ve⟩ := ofInt_spec (lge x) (by omega)
  have w := val_w707
  have rg : val (lgm x) = 0 ∨ (p2 (-300) ≤ ab (val (lgm x)) ∧ ab (val (lgm x)) ≤ p2 300) := by
    right
    rw [ab_of_nonneg (Rat.le_trans (by decide +kernel) mlo)]
    exact ⟨Rat.le_trans (p2_mono (show (-300 : Int) ≤ -1 by decide)) (by rw [← half_p2]; exact mlo), Rat.le_trans mhi (by rw [← p2_zero]; exact p2_mono (by decide))⟩
  by_cases hs : val w707 < val (lgm x)
  · have es : lsm x = 0 := by unfold lsm; rw [if_pos hs]
    have ek : lgk x = fsub (floatOfInt .f64 (lge x)) 0 := by unfold lgk; rw [es]
    have eg : lgg x = fmul (lgm x) (fadd 0 one) := by unfold lgg; rw [es]
    obtain ⟨k1, k2⟩ := fsub_int (b := 0) fe fin_z ve val_z (by omega)
    obtain ⟨a1, a2⟩ := fadd_int (a := 0) (b := 1) fin_z fin_one val_z val_one (by decide)
    have a3 : ab (val (fadd 0 one)) = p2 0 := by rw [a2, p2_zero]; decide +kernel
    obtain ⟨g1, g2, _⟩ := fmul_exact fm a1 a3 rg (by decide)
    refine ⟨val (lgm x), lge x, fm, fe, by rw [es]; exact fin_z, by rw [ek]; exact k1, by rw [es]; exact a1, by rw [eg]; exact g1, by rw [ek, k2, Int.sub_zero], ?_, hxe, Rat.le_trans w.1 (Rat.le_of_lt hs), Rat.le_trans mhi (by decide +kernel), by omega⟩
    rw [eg, g2, a2, show (((0 : Int) + 1 : Int) : Rat) = 1 from rfl, Rat.mul_one]
  · have es : lsm x = one := by unfold lsm; rw [if_neg hs]
    have ek : lgk x = fsub (floatOfInt .f64 (lge x)) one := by unfold lgk; rw [es]
    have eg : lgg x = fmul (lgm x) (fadd one one) := by unfold lgg; rw [es]
    obtain ⟨k1, k2⟩ := fsub_int (b := 1) fe fin_one ve val_one (by omega)
    obtain ⟨a1, a2⟩ := fadd_int (a := 1) (b := 1) fin_one fin_one val_one val_one (by decide)
    have a3 : ab (val (fadd one one)) = p2 1 := by rw [a2]; decide +kernel
    obtain ⟨g1, g2, _⟩ := fmul_exact fm a1 a3 rg (by decide)
    have e2 : (((1 : Int) + 1 : Int) : Rat) = 2 := rfl
    refine ⟨val (lgm x) * 2, lge x - 1, fm, fe, by rw [es]; exact fin_one, by rw [ek]; exact k1, by rw [es]; exact a1, by rw [eg]; exact g1, by rw [ek, k2], ?_, ?_, dbl_lo mlo, dbl_hi (Rat.le_trans (Rat.not_lt.1 hs) w.2), by omega⟩
    · rw [eg, g2, a2, e2]
    · rw [hxe, show lge x = lge x - 1 + 1 by omega, p2_succ, show lge x - 1 + 1 - 1 = lge x - 1 by omega]; exact mul_two_comm _ _

/-! ### The polynomial -/
def PG : List Rat := [0, 2, 0, cL1, 0, cL2, 0, cL3, 0, cL4, 0, cL5, 0, cL6, 0, cL7]
theorem ev_PG (S : Rat) : ev PG S = 2 * S + S * lR S := by unfold PG lR; simp only [ev]; grind
def DG : List Rat := padd PG (psc (-1) TG)
theorem DG_bnd : bnd DG (1717 / 10000) ≤ 1 / 4000000000000 := by decide +kernel
theorem PG_near {S : Rat} (h : ab S ≤ 1717 / 10000) : ab (2 * S + S * lR S - ev TG S) ≤ 1 / 4000000000000 := by
  have e : ev DG S = 2 * S + S * lR S - ev TG S := by unfold DG; rw [ev_padd, ev_psc, ev_PG]; grind
  rw [← e]
  exact Rat.le_trans (ev_bnd h DG) DG_bnd

/-- 2^-41. -/
def el : Rat := 1 / 2199023255552
theorem el_val : el = 1 / 2199023255552 := rfl

structure LogIs (x : Nat) : Prop where
  red : ∃ G K, Red x G K
  ff : fin (lgf x)
  lf : LogFin (lgf x) (lgk x)
  f : fin (lgw x)
  le : ab (val (lgw x)) ≤ 50
  lg : Lg (val x) (val (lgw x)) el

theorem dist_aux {v P Q R E : Rat} (hE : E ≤ 3 / 100000000000000) (h1 : v - (P + R) ≤ E ∧ -(v - (P + R)) ≤ E) (h2 : R - Q ≤ 1 / 4000000000000 ∧ -(R - Q) ≤ 1 / 4000000000000) (h3 : P ≤ 45 ∧ -P ≤ 45) (h4 : Q ≤ 1 ∧ -Q ≤ 1) :
    ab (v - (Q + P)) ≤ 3 / 10000000000000 ∧ ab v ≤ 50 ∧ ab (Q + P) ≤ 500 := by
  refine ⟨?_, ?_, ?_⟩ <;> rw [ab_le] <;> constructor <;> grind
theorem log_is {x : Nat} (fx : fin x) (h1 : p2 (-60) ≤ val x) (h2 : val x ≤ p2 60) : LogIs x := by
  obtain ⟨G, K, R⟩ := red_ok fx h1 h2
  have hTW : cTW = 2 := by decide +kernel
  have hHF : cHF = 1 / 2 := by decide +kernel
  have g1 := R.g1
  have g2 := R.g2
  -- f
  have tg : Tr (lgg x) G (1415 / 1000) 0 := Tr.of_eq R.fg R.vg (by rw [ab_le]; constructor <;> grind)
  have t1 : Tr one 1 1 0 := Tr.of_eq fin_one val_one (by decide +kernel)
  have tf0 := Tr.sub (C := 2415 / 1000) (d := 3 / 4503599627370496) tg t1 (by decide +kernel) (by decide +kernel) (by decide +kernel) (by decide +kernel)
  have tf : Tr (lgf x) (G - 1) (83 / 200) (3 / 4503599627370496) := ⟨tf0.f, tf0.err, by rw [ab_le]; constructor <;> grind⟩
  have k64 : ab (K : Rat) ≤ 64 := by
    rw [← natAbs_rat]
    have := Rat.natCast_le_natCast.2 R.k
    exact this
  have tk : Tr (lgk x) (K : Rat) 64 0 := Tr.of_eq R.fk R.vk k64
  have hL : 17 / 10 ≤ cTW + (G - 1) := by rw [hTW]; grind
  have hpos : 0 < cTW + (G - 1) := by grind
  have hS : ab ((G - 1) / (cTW + (G - 1))) ≤ 1717 / 10000 := by
    refine ab_quot_le hpos ?_
    rw [hTW, ab_le]; constructor <;> grind
  obtain ⟨LF, T⟩ := lout_tr tf tk hL hS
  have hSm : (G - 1) / (cTW + (G - 1)) * (cTW + (G - 1)) = G - 1 := Rat.div_mul_cancel (Rat.ne_of_lt hpos).symm
  have hE : lE (G - 1) K = (K : Rat) * LN + (2 * ((G - 1) / (cTW + (G - 1))) + (G - 1) / (cTW + (G - 1)) * lR ((G - 1) / (cTW + (G - 1)))) := by
    unfold lE LN
    generalize (G - 1) / (cTW + (G - 1)) = S at *
    rw [hTW] at hSm
    rw [hHF]
    generalize lR S = r
    have e1 : (G - 1) - S * (G - 1) = 2 * S := by grind
    have e2 : (G - 1) * ((G - 1) - S * (G - 1)) = (G - 1) * (2 * S) := by rw [e1]
    grind
  have hra : ra ((G - 1) / (cTW + (G - 1))) = G := by
    generalize (G - 1) / (cTW + (G - 1)) = S at *
    have hS' := ab_le.1 hS
    have e1 := ra_eq (t := S) (by grind)
    refine cancel_right (c := 1 - S) (by grind) ?_
    rw [e1]
    rw [hTW] at hSm
    grind
  have PN := PG_near hS
  have S7 : ab ((G - 1) / (cTW + (G - 1))) ≤ 7 / 20 := Rat.le_trans hS (by decide +kernel)
  have LR := lg_ra S7
  have TL := TG_le S7
  rw [hra] at LR
  rw [hE] at T
  generalize (G - 1) / (cTW + (G - 1)) = S at *
  have LP := lg_p2 R.k
  have kb : ab ((K : Rat) * LN) ≤ 45 := by
    have hl := LN_le
    have := ab_mul_le k64 (show ab LN ≤ 7 / 10 by rw [ab_of_nonneg hl.1]; exact hl.2)
    exact Rat.le_trans this (by decide +kernel)
  have LX := LR.mul LP (Rat.le_trans TL (by decide +kernel)) (Rat.le_trans kb (by decide +kernel)) (by decide +kernel)
  rw [← R.vx] at LX
  have terr := ab_le.1 T.err
  have pn := ab_le.1 PN
  have kb' := ab_le.1 kb
  have tl := ab_le.1 TL
  have eo : lout (lgf x) (lgk x) = lgw x := rfl
  rw [eo] at terr
  obtain ⟨dist, lv, lq⟩ := dist_aux (by decide +kernel) terr pn kb' tl
  have fo : fin (lgw x) := T.f
  refine ⟨⟨G, K, R⟩, tf0.f, LF, fo, lv, ?_⟩
  have := LX.to lq dist (by decide +kernel) (by decide +kernel)
  exact this.mono (by decide +kernel) (by decide +kernel)

/-- At 1. -/
theorem log_one : val (lgw one) = 0 := by decide +kernel
/-- The word of 1. -/
theorem word_one {x : Nat} (fx : fin x) (h : val x = 1) : x = one := by
  obtain ⟨n1, n2, vx⟩ := normal_parts fx (by rw [h, ← p2_zero]; exact p2_mono (by decide))
  rw [h] at vx
  have hm := Nat.mod_lt x (show 0 < 4503599627370496 by decide)
  have hdm := Nat.div_add_mod x 4503599627370496
  generalize hr : x % 4503599627370496 = r at *
  generalize hd : x / 4503599627370496 = d at *
  have hd1 : 1 ≤ d := by omega
  have a1 : p2 52 ≤ ((4503599627370496 + r : Nat) : Rat) := by
    rw [show (52 : Int) = ((52 : Nat) : Int) from rfl, p2_nat]; exact Rat.natCast_le_natCast.2 (by omega)
  have a2 : ((4503599627370496 + r : Nat) : Rat) < p2 53 := by
    rw [show (53 : Int) = ((53 : Nat) : Int) from rfl, p2_nat]; exact Rat.natCast_lt_natCast.2 (by omega)
  have hp := p2_pos (-1074 + ((d - 1 : Nat) : Int))
  have b1 := Rat.mul_le_mul_of_nonneg_right a1 (Rat.le_of_lt hp)
  have b2 := Rat.mul_lt_mul_of_pos_right a2 hp
  rw [← vx, ← p2_add, ← p2_zero] at b1 b2
  have c1 := le_of_p2_le b1
  have c2 := lt_of_p2_lt b2
  have hdv : d = 1023 := by omega
  subst hdv
  have e : ((4503599627370496 + r : Nat) : Rat) = ((4503599627370496 : Nat) : Rat) := by
    have e1 : p2 (-1074 + ((1023 - 1 : Nat) : Int)) = p2 (-52) := rfl
    rw [e1] at vx
    have e2 : ((4503599627370496 : Nat) : Rat) * p2 (-52) = 1 := by decide +kernel
    exact cancel_right (p2_pos (-52)) (by rw [← vx, e2])
  have := Rat.natCast_inj.1 e
  unfold one
  omega
end Cx
