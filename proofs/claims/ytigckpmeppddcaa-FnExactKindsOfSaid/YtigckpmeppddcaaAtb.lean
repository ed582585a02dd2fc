/- The library's satan, atan and atan2 as functions of words: finite, signs, sizes, and what they are near to. Plain: no program in sight. -/
import Derived.Test.YtigckpmeppddcaaAt
set_option linter.unusedVariables false
namespace Cx

theorem p2_tiny : p2 (-1074) * 4 ≤ p2 (-1000) ∧ p2 (-1074) * 1000000 ≤ p2 (-900) := by
  have e1 : p2 (-1074) * 4 = p2 (-1072) := by rw [show (4 : Rat) = p2 2 from by decide +kernel, ← p2_add]; rfl
  have e2 : p2 (-1074) * 1048576 = p2 (-1054) := by rw [show (1048576 : Rat) = p2 20 from by decide +kernel, ← p2_add]; rfl
  have h1 := p2_mono (show (-1072 : Int) ≤ -1000 by decide)
  have h2 := p2_mono (show (-1054 : Int) ≤ -900 by decide)
  have hp := p2_pos (-1074)
  constructor <;> grind

theorem p2_1000_le : p2 (-1000) ≤ 1 / 1000 := Rat.le_trans (p2_mono (show (-1000 : Int) ≤ -10 by decide)) (by decide +kernel)

/-- The distance of a rounding, in all cases. -/
theorem Rd.any {X v : Rat} (h : Rd X v) : ab (v - X) ≤ ab X * eps + p2 (-1074) := by
  have h1 := Rat.mul_nonneg (ab_nonneg X) (Rat.le_of_lt eps_pos)
  have h2 := p2_pos (-1074)
  rcases h.near with h3 | h3 <;> grind

theorem xat_num {x r s o T : Rat} (hr : ab r ≤ 8 / 25) (hs : ab (s - x * r) ≤ ab (x * r) * (1 / 4503599627370496) + T) (ho : ab (o - (s + x)) ≤ ab (s + x) * (1 / 4503599627370496) + T) (hT : 0 ≤ T) :
    ab (o - x) ≤ ab x * (33 / 100) + 3 * T := by
  have h1 : ab (x * r) ≤ ab x * (8 / 25) := by rw [ab_mul]; exact Rat.mul_le_mul_of_nonneg_left hr (ab_nonneg x)
  have hx := ab_nonneg x
  generalize hy : x * r = y at *
  have e1 : s = (s - y) + y := by grind
  have a1 := ab_add (s - y) y
  rw [← e1] at a1
  have a2 := ab_add s x
  have e2 : o - x = (o - (s + x)) + s := by grind
  have a3 := ab_add (o - (s + x)) s
  rw [← e2] at a3
  generalize ab (x) = X at *
  generalize ab (s + x) = S1 at *
  generalize ab s = S at *
  generalize ab y = Y at *
  generalize ab (s - y) = D at *
  generalize ab (o - (s + x)) = E at *
  generalize ab (o - x) = R at *
  clear hy e1 e2 hr
  grind

/-- The size and the sign of xatan. -/
theorem xat_size {x : Nat} (hx : fin x) (h : ab (val x) ≤ 67 / 100) :
    (p2 (-900) ≤ val x → val x * (1 / 2) ≤ val (xat x) ∧ val (xat x) ≤ val x * (3 / 2)) ∧ ab (val (xat x)) ≤ ab (val x) * (3 / 2) + p2 (-1000) := by
  obtain ⟨F, t, hr⟩ := xat_tr hx h
  have hT := p2_pos (-1074)
  obtain ⟨k1, k2⟩ := p2_tiny
  have hxr : ab (val x * val (xr x)) ≤ 1 := by
    have := ab_mul_le h hr
    exact Rat.le_trans this (by decide +kernel)
  have rs := (mul_rd hx F.fr (small_lt_1023 (Rat.le_trans hxr (by decide)))).2.2
  have hs := rs.any
  have es : fmul x (xr x) = xs x := rfl
  rw [es] at hs
  have hsb : ab (val (xs x) + val x) ≤ 4 := by
    have a1 := ab_le.1 hs
    have a2 := ab_le.1 hxr
    have a3 := ab_le.1 h
    have a4 : p2 (-1074) ≤ 1 := by rw [← p2_zero]; exact p2_mono (by decide)
    have a5 : ab (val x * val (xr x)) * eps ≤ 1 := by
      have := mul_le_mul_nn hxr (Rat.le_of_lt eps_lt_one) (ab_nonneg _) (by decide)
      grind
    rw [ab_le]; constructor <;> grind
  have ro := (add_rd F.fs hx (small_lt_1023 hsb)).2
  have ho := ro.any
  have eo : fadd (xs x) x = xat x := rfl
  rw [eo] at ho
  rw [eps_val] at hs ho
  have key := xat_num hr hs ho (Rat.le_of_lt hT)
  have key' := ab_le.1 key
  constructor
  · intro hp
    have hx0 : 0 ≤ val x := by have := p2_pos (-900); grind
    rw [ab_of_nonneg hx0] at key'
    constructor <;> grind
  · have e : val (xat x) = (val (xat x) - val x) + val x := by grind
    have a := ab_add (val (xat x) - val x) (val x)
    rw [← e] at a
    have := ab_nonneg (val x)
    grind

/-! ### satan -/
def c66 : Nat := 4604119971053405471
def c24 : Nat := 4612618744449965542
def wpio2 : Nat := 4609753056924675352
def wpio4 : Nat := 4605249457297304856
def wpi : Nat := 4614256656552045848
def wmore : Nat := 4364452196894661639
def wmore2 : Nat := 4359948597267291143
theorem fin_c66 : fin c66 := fin_of _ (by decide)
theorem fin_c24 : fin c24 := fin_of _ (by decide)
theorem fin_pio2 : fin wpio2 := fin_of _ (by decide)
theorem fin_pio4 : fin wpio4 := fin_of _ (by decide)
theorem fin_pi : fin wpi := fin_of _ (by decide)
theorem fin_more : fin wmore := fin_of _ (by decide)
theorem fin_more2 : fin wmore2 := fin_of _ (by decide)
/-- pi, as the library has it. -/
def PI : Rat := 884279719003555 / 281474976710656
theorem val_pi : val wpi = PI := by decide +kernel
theorem val_pio2 : val wpio2 = PI / 2 := by decide +kernel
theorem val_pio4 : val wpio4 = PI / 4 := by decide +kernel
theorem val_c66 : 65 / 100 ≤ val c66 ∧ val c66 ≤ 67 / 100 := by constructor <;> decide +kernel
theorem val_c24 : 24142 / 10000 ≤ val c24 ∧ val c24 ≤ 24143 / 10000 := by constructor <;> decide +kernel
theorem val_more : 0 ≤ val wmore ∧ val wmore ≤ 1 / 9007199254740992 := by constructor <;> decide +kernel
theorem val_more2 : 0 ≤ val wmore2 ∧ val wmore2 ≤ 1 / 9007199254740992 := by constructor <;> decide +kernel

def sb (x : Nat) : Nat := fdiv one x
def sc (x : Nat) : Nat := fdiv (fsub x one) (fadd x one)
def swat (x : Nat) : Nat :=
  if val x ≤ val c66 then xat x
  else if val c24 < val x then fadd (fsub wpio2 (xat (sb x))) wmore
  else fadd (fadd wpio4 (xat (sc x))) wmore2

/-- The error that we allow satan: 2^-48. -/
def es : Rat := 1 / 281474976710656

/-- What satan's value is near to. -/
inductive SatNear (X v : Rat) : Prop
  | small : X ≤ 67 / 100 → ab (v - Rt X) ≤ es → SatNear X v
  | great (u : Rat) : 2 ≤ X → 0 < u → u ≤ 67 / 100 → ab (u - 1 / X) ≤ 64 * eps → ab (v - (PI / 2 - Rt u)) ≤ es → SatNear X v
  | mid (u : Rat) : 0 < X → X ≤ 3 → ab u ≤ 67 / 100 → ab (u - (X - 1) / (X + 1)) ≤ 64 * eps → ab (v - (PI / 4 + Rt u)) ≤ es → SatNear X v

structure SatFin (x : Nat) : Prop where
  c1 : val x ≤ val c66 → XatFin x
  c2 : ¬ val x ≤ val c66 → val c24 < val x → Ieee.double.div one x = some (sb x) ∧ fin (sb x) ∧ XatFin (sb x) ∧ fin (fsub wpio2 (xat (sb x)))
  c3 : ¬ val x ≤ val c66 → ¬ val c24 < val x → fin (fsub x one) ∧ fin (fadd x one) ∧ Ieee.double.div (fsub x one) (fadd x one) = some (sc x) ∧ fin (sc x) ∧ XatFin (sc x) ∧ fin (fadd wpio4 (xat (sc x)))

theorem XatFin.out {x : Nat} (h : XatFin x) : fin (xat x) := h.fo

theorem sat_spec {x : Nat} (hx : fin x) (hlo : p2 (-500) ≤ val x) (hhi : val x ≤ p2 500) :
    SatFin x ∧ fin (swat x) ∧ 0 < val (swat x) ∧ val (swat x) ≤ 15708 / 10000 ∧ SatNear (val x) (val (swat x)) := by
  have hx0 : 0 < val x := by have := p2_pos (-500); grind
  have ee := eps_val
  by_cases h1 : val x ≤ val c66
  · have hb : ab (val x) ≤ 67 / 100 := by
      rw [ab_of_nonneg (Rat.le_of_lt hx0)]; exact Rat.le_trans h1 val_c66.2
    have hb' : val x ≤ 67 / 100 := Rat.le_trans h1 val_c66.2
    obtain ⟨F, t, _⟩ := xat_tr hx hb
    have e : swat x = xat x := by unfold swat; rw [if_pos h1]
    obtain ⟨s1, s2⟩ := (xat_size hx hb).1 (Rat.le_trans (p2_mono (by decide)) hlo)
    rw [e]
    refine ⟨⟨fun _ => F, fun h => absurd h1 h, fun h => absurd h1 h⟩, F.out, by grind, by grind, SatNear.small hb' (Rat.le_trans t.err (by decide +kernel))⟩
  · have hg : 65 / 100 < val x := by have := val_c66.1; grind
    by_cases h2 : val c24 < val x
    · have hg2 : 24142 / 10000 < val x := by have := val_c24.1; grind
      have hne : val x ≠ 0 := (Rat.ne_of_lt hx0).symm
      have hq0 : (1 : Rat) / val x * val x = 1 := Rat.div_mul_cancel hne
      have q1 : (1 : Rat) / val x ≤ 42 / 100 := by
        have : ¬ (42 / 100 < (1 : Rat) / val x) := by rw [Rat.lt_div_iff hx0]; grind
        grind
      have q0 : p2 (-500) ≤ (1 : Rat) / val x := by
        have h3 := Rat.mul_le_mul_of_nonneg_left hhi (Rat.le_of_lt (p2_pos (-500)))
        rw [← p2_add, show (-500 + 500 : Int) = 0 from rfl, p2_zero] at h3
        have : ¬ ((1 : Rat) / val x < p2 (-500)) := by rw [Rat.div_lt_iff hx0]; grind
        grind
      have qp : 0 < (1 : Rat) / val x := by have := p2_pos (-500); grind
      obtain ⟨d1, d2, d3, d4⟩ := div_rd fin_one hx hne (by
        rw [val_one, ab_of_nonneg (Rat.le_of_lt qp)]; exact small_lt_1022 (Rat.le_trans q1 (by decide +kernel)))
      rw [val_one] at d4
      have drl := d4.rl (Rat.le_trans (p2_mono (by decide)) q0)
      have dab := d4.abs (B := 1) (by rw [ab_of_nonneg (Rat.le_of_lt qp)]; exact Rat.le_trans q1 (by decide +kernel)) (low_le (by decide +kernel))
      have esb : fdiv one x = sb x := rfl
      rw [esb] at d1 d2 drl dab
      have dh := drl.half (by rw [ee]; decide +kernel)
      have dlo : p2 (-900) ≤ val (sb x) := by
        have h3 : p2 (-501) * 2 = p2 (-500) := by rw [← p2_succ]; rfl
        have h4 := p2_mono (show (-900 : Int) ≤ -501 by decide)
        grind
      have dab' := ab_le.1 dab
      have dpos := drl.apos
      have dhi : val (sb x) ≤ 43 / 100 := by rw [ee] at dab'; grind
      have hb : ab (val (sb x)) ≤ 67 / 100 := by
        rw [ab_of_nonneg (Rat.le_of_lt dpos)]; exact Rat.le_trans dhi (by decide +kernel)
      obtain ⟨F, t, _⟩ := xat_tr d2 hb
      obtain ⟨s1, s2⟩ := (xat_size d2 hb).1 dlo
      have tp : Tr wpio2 (PI / 2) (15708 / 10000) 0 := Tr.of_eq fin_pio2 val_pio2 (by decide +kernel)
      have tm : Tr wmore 0 0 (1 / 9007199254740992) := ⟨fin_more, by rw [ab_le]; have := val_more; constructor <;> grind, by decide +kernel⟩
      have ts := Tr.sub (C := 3) (d := 1 / 400000000000000) tp t (by decide +kernel) (by decide +kernel) (by decide +kernel) (by decide +kernel)
      have to := Tr.add (C := 3) (d := 1 / 300000000000000) ts tm (by decide +kernel) (by decide +kernel) (by decide +kernel) (by decide +kernel)
      have e : swat x = fadd (fsub wpio2 (xat (sb x))) wmore := by unfold swat; rw [if_neg h1, if_pos h2]
      have tx2 := ab_le.1 t.err
      have to2 := ab_le.1 to.err
      have hpi : PI = 884279719003555 / 281474976710656 := rfl
      rw [e]
      refine ⟨⟨fun h => absurd h h1, fun _ _ => ⟨d1, d2, F, ts.f⟩, fun _ h => absurd h2 h⟩, to.f, by grind, by grind, SatNear.great (val (sb x)) (by grind) dpos (by grind) ?_ ?_⟩
      · rw [ab_le]; rw [ee] at dab' ⊢; constructor <;> grind
      · have : PI / 2 - Rt (val (sb x)) + 0 = PI / 2 - Rt (val (sb x)) := by grind
        have h5 := to.err
        rw [this] at h5
        exact Rat.le_trans h5 (by decide +kernel)
    · have hl2 : val x ≤ 24143 / 10000 := by have := val_c24.2; grind
      have tx : Tr x (val x) (25 / 10) 0 := Tr.of_eq hx rfl (by rw [ab_of_nonneg (Rat.le_of_lt hx0)]; grind)
      have t1 : Tr one 1 1 0 := Tr.of_eq fin_one val_one (by decide +kernel)
      have ta := Tr.sub (C := 35 / 10) (d := 1 / 1000000000000000) tx t1 (by decide +kernel) (by decide +kernel) (by decide +kernel) (by decide +kernel)
      have tb := Tr.add (C := 35 / 10) (d := 1 / 1000000000000000) tx t1 (by decide +kernel) (by decide +kernel) (by decide +kernel) (by decide +kernel)
      have tc := Tr.div (L := 165 / 100) (C := 3) (d := 64 * (1 / 4503599627370496)) ta tb (by grind) (by decide +kernel) (by decide +kernel) (by decide +kernel) (by decide +kernel) (by decide +kernel) (by decide +kernel)
      have hxp : 0 < val x + 1 := by grind
      have hne : val x + 1 ≠ 0 := (Rat.ne_of_lt hxp).symm
      have hw : val (fadd x one) ≠ 0 := by
        have h3 := ab_le.1 tb.err
        intro h0
        rw [h0] at h3
        grind
      have u1 : (val x - 1) / (val x + 1) ≤ 42 / 100 := by
        have : ¬ (42 / 100 < (val x - 1) / (val x + 1)) := by rw [Rat.lt_div_iff hxp]; grind
        grind
      have u2 : -(22 / 100) ≤ (val x - 1) / (val x + 1) := by
        have : ¬ ((val x - 1) / (val x + 1) < -(22 / 100)) := by rw [Rat.div_lt_iff hxp]; grind
        grind
      have hdv : Ieee.double.div (fsub x one) (fadd x one) = some (sc x) := div_some ta.f tb.f hw
      have esc : fdiv (fsub x one) (fadd x one) = sc x := rfl
      rw [esc] at tc
      have tcf := tc.f
      have tce := tc.err
      clear tc esc
      generalize hU : (val x - 1) / (val x + 1) = U at *
      have tce' := ab_le.1 tce
      have v1 : val (sc x) ≤ 43 / 100 := by grind
      have v2 : -(23 / 100) ≤ val (sc x) := by grind
      have hb : ab (val (sc x)) ≤ 67 / 100 := by rw [ab_le]; constructor <;> grind
      have hb2 : ab (val (sc x)) ≤ 43 / 100 := by rw [ab_le]; constructor <;> grind
      obtain ⟨F, t, _⟩ := xat_tr tcf hb
      have hsz := (xat_size tcf hb).2
      have htiny := p2_1000_le
      have tp : Tr wpio4 (PI / 4) (7855 / 10000) 0 := Tr.of_eq fin_pio4 val_pio4 (by decide +kernel)
      have tm : Tr wmore2 0 0 (1 / 9007199254740992) := ⟨fin_more2, by rw [ab_le]; have := val_more2; constructor <;> grind, by decide +kernel⟩
      have ts := Tr.add (C := 3) (d := 1 / 400000000000000) tp t (by decide +kernel) (by decide +kernel) (by decide +kernel) (by decide +kernel)
      have to := Tr.add (C := 3) (d := 1 / 300000000000000) ts tm (by decide +kernel) (by decide +kernel) (by decide +kernel) (by decide +kernel)
      have e : swat x = fadd (fadd wpio4 (xat (sc x))) wmore2 := by unfold swat; rw [if_neg h1, if_neg h2]
      have tx2 := ab_le.1 t.err
      have to2 := ab_le.1 to.err
      have hsz2 : ab (val (xat (sc x))) ≤ 65 / 100 := by grind
      have hsz3 := ab_le.1 hsz2
      have hpi : PI = 884279719003555 / 281474976710656 := rfl
      rw [e]
      refine ⟨⟨fun h => absurd h h1, fun _ h => absurd h h2, fun _ _ => ⟨ta.f, tb.f, hdv, tcf, F, ts.f⟩⟩, to.f, by grind, by grind, SatNear.mid (val (sc x)) hx0 (by grind) hb ?_ ?_⟩
      · rw [ee, hU]; exact tce
      · have : PI / 4 + Rt (val (sc x)) + 0 = PI / 4 + Rt (val (sc x)) := by grind
        have h5 := to.err
        rw [this] at h5
        exact Rat.le_trans h5 (by decide +kernel)
end Cx
