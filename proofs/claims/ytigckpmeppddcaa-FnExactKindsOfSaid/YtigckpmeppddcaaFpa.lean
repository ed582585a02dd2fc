/- Rounding to double, over exact rationals: what the model's 'nearest' gives, as a rational value: its error and when it is exact. Plain: no program in sight. -/
import Ieee.Arith
set_option linter.unusedVariables false
namespace Cx
open Ieee

/-- Powers of two. -/
def p2 (n : Int) : Rat := (2 : Rat) ^ n

theorem p2_pos (n : Int) : 0 < p2 n := Rat.zpow_pos (by decide)
theorem p2_add (m n : Int) : p2 (m + n) = p2 m * p2 n := Rat.zpow_add (by decide) m n
theorem p2_zero : p2 0 = 1 := Rat.zpow_zero 2
theorem p2_succ (m : Int) : p2 (m + 1) = p2 m * 2 := Rat.zpow_add_one (by decide) m
theorem p2_nat (n : Nat) : p2 (n : Int) = ((2 ^ n : Nat) : Rat) := by
  rw [p2, Rat.zpow_natCast, Rat.natCast_pow]; rfl
theorem p2_one_le (n : Nat) : 1 ≤ p2 (n : Int) := by
  rw [p2_nat]
  have : 0 < 2 ^ n := Nat.two_pow_pos n
  have h : ((1 : Nat) : Rat) ≤ ((2 ^ n : Nat) : Rat) := Rat.natCast_le_natCast.2 this
  simpa using h
theorem p2_mono {m n : Int} (h : m ≤ n) : p2 m ≤ p2 n := by
  obtain ⟨k, rfl⟩ : ∃ k : Nat, n = m + k := ⟨(n - m).toNat, by omega⟩
  rw [p2_add]
  have := Rat.mul_le_mul_of_nonneg_left (p2_one_le k) (Rat.le_of_lt (p2_pos m))
  grind
theorem p2_lt {m n : Int} (h : m < n) : p2 m < p2 n := by
  have h1 : p2 (m + 1) ≤ p2 n := p2_mono (by omega)
  have h2 := p2_succ m
  have h3 := p2_pos m
  grind
theorem le_of_p2_le {m n : Int} (h : p2 m ≤ p2 n) : m ≤ n := by
  rcases Int.lt_or_le n m with hlt | hle
  · have := p2_lt hlt; grind
  · exact hle
theorem lt_of_p2_lt {m n : Int} (h : p2 m < p2 n) : m < n := by
  rcases Int.lt_or_le m n with hlt | hle
  · exact hlt
  · have := p2_mono hle; grind
theorem p2_inv (n : Int) : p2 n * p2 (-n) = 1 := by
  rw [← p2_add, Int.add_right_neg, p2_zero]

attribute [irreducible] p2

/-- To the nearest whole number: at most half a unit off. -/
theorem cut_near (neg : Bool) (n drop : Nat) :
    2 * (Toward.even.cut neg n drop * 2 ^ drop) ≤ 2 * n + 2 ^ drop ∧ 2 * n ≤ 2 * (Toward.even.cut neg n drop * 2 ^ drop) + 2 ^ drop := by
  unfold Toward.cut
  simp only [Nat.one_shiftLeft]
  by_cases h : drop ≤ n.log2 + 2
  · rw [Nat.min_eq_left h]
    have hp : 0 < 2 ^ drop := Nat.two_pow_pos _
    have hd := Nat.div_add_mod n (2 ^ drop)
    have hm := Nat.mod_lt n hp
    rw [Nat.mul_comm] at hd
    generalize n / 2 ^ drop = low at *
    generalize n % 2 ^ drop = rest at *
    generalize 2 ^ drop = gap at *
    by_cases hb : (decide (gap < 2 * rest) || (gap == 2 * rest && low % 2 == 1)) = true
    · rw [hb]
      simp only [Bool.toNat_true, Nat.add_mul]
      simp at hb
      omega
    · have hb' := Bool.eq_false_iff.2 hb
      rw [hb']
      simp only [Bool.toNat_false, Nat.add_zero]
      simp at hb'
      omega
  · have h' : n.log2 + 2 ≤ drop := by omega
    rw [Nat.min_eq_right h']
    have hlt : n < 2 ^ (n.log2 + 1) := Nat.lt_log2_self
    have e : 2 ^ (n.log2 + 2) = 2 * 2 ^ (n.log2 + 1) := by rw [show n.log2 + 2 = n.log2 + 1 + 1 from rfl, Nat.pow_succ, Nat.mul_comm]
    have hle : 2 ^ (n.log2 + 2) ≤ 2 ^ drop := Nat.pow_le_pow_right (by decide) h'
    have hn : n < 2 ^ (n.log2 + 2) := by omega
    rw [Nat.div_eq_of_lt hn, Nat.mod_eq_of_lt hn]
    have hb : (decide (2 ^ (n.log2 + 2) < 2 * n) || (2 ^ (n.log2 + 2) == 2 * n && 0 % 2 == 1)) = false := by
      simp; omega
    rw [hb]
    simp
    omega

/-- Where nothing is dropped, nothing is lost. -/
theorem cut_exact (neg : Bool) (n drop : Nat) (h : 2 ^ drop ∣ n) : Toward.even.cut neg n drop * 2 ^ drop = n := by
  obtain ⟨k, rfl⟩ := h
  have h1 := cut_near neg (2 ^ drop * k) drop
  have hp : 0 < 2 ^ drop := Nat.two_pow_pos _
  generalize Toward.even.cut neg (2 ^ drop * k) drop = c at *
  have e1 : 2 ^ drop * k = k * 2 ^ drop := Nat.mul_comm _ _
  rw [e1] at h1 ⊢
  rcases Nat.lt_trichotomy c k with hc | hc | hc
  · have := Nat.mul_le_mul_right (2 ^ drop) (show c + 1 ≤ k from hc)
    rw [Nat.add_mul] at this
    omega
  · rw [hc]
  · have := Nat.mul_le_mul_right (2 ^ drop) (show k + 1 ≤ c from hc)
    rw [Nat.add_mul] at this
    omega

/-- The value of a number's parts. -/
def sgn (neg : Bool) : Rat := if neg then -1 else 1
def mval (neg : Bool) (mag : Nat) (place : Int) : Rat := sgn neg * ((mag : Rat) * p2 place)
def dval : Datum → Rat
  | .number s m p => mval s m p
  | _ => 0
def val (x : Nat) : Rat := dval (double.read x)
/-- A finite word. -/
def fin (x : Nat) : Prop := x < 18446744073709551616 ∧ ∃ s m p, double.read x = .number s m p
/-- The sign bit. -/
def neg (x : Nat) : Bool := (double.read x).neg

theorem double_leastPlace : double.leastPlace = -1074 := by decide
theorem double_binade : double.binade = 4503599627370496 := by decide
theorem double_infRung : double.infRung = 9218868437227405312 := by decide
theorem double_signWeight : double.signWeight = 9223372036854775808 := by decide

theorem read_word (s : Bool) (r : Nat) (hr : r < 9218868437227405312) :
    double.read (double.word s r) =
      if r < 4503599627370496 then .number s r (-1074)
      else .number s (4503599627370496 + r % 4503599627370496) (-1074 + (r / 4503599627370496 - 1 : Nat)) := by
  have e1 : ((double.word s r) / double.signWeight % 2 == 1) = s := by
    unfold Format.word
    rw [double_signWeight]
    cases s
    · simp; omega
    · simp; omega
  have e2 : (double.word s r) % double.signWeight = r := by
    unfold Format.word
    rw [double_signWeight]
    cases s <;> simp <;> omega
  unfold Format.read
  simp only [e1, e2, double_leastPlace, double_binade, double_infRung]
  rw [if_pos hr]

theorem rung_val (s : Bool) (a : Nat) (kept : Nat) (h1 : kept ≤ 9007199254740992) (h2 : 0 < a → 4503599627370496 ≤ kept)
    (h3 : a * 4503599627370496 + kept < 9218868437227405312) :
    fin (double.word s (a * 4503599627370496 + kept)) ∧ val (double.word s (a * 4503599627370496 + kept)) = mval s kept (-1074 + a)
      ∧ neg (double.word s (a * 4503599627370496 + kept)) = s := by
  have hw : double.word s (a * 4503599627370496 + kept) < 18446744073709551616 := by
    unfold Format.word
    rw [double_signWeight]
    cases s <;> simp <;> omega
  unfold fin val neg
  rw [read_word s _ h3]
  by_cases hlt : a * 4503599627370496 + kept < 4503599627370496
  · rw [if_pos hlt]
    have ha : a = 0 := by omega
    subst ha
    refine ⟨⟨hw, _, _, _, rfl⟩, ?_, rfl⟩
    simp [dval]
  · rw [if_neg hlt]
    refine ⟨⟨hw, _, _, _, rfl⟩, ?_, rfl⟩
    show mval _ _ _ = _
    unfold mval
    rcases Nat.lt_or_ge kept 9007199254740992 with hk | hk
    · have hk2 : 4503599627370496 ≤ kept := by
        rcases Nat.eq_zero_or_pos a with h | h
        · subst h; omega
        · exact h2 h
      have e1 : 4503599627370496 + (a * 4503599627370496 + kept) % 4503599627370496 = kept := by omega
      have e2 : (a * 4503599627370496 + kept) / 4503599627370496 - 1 = a := by omega
      rw [e1, e2]
    · have hk : kept = 9007199254740992 := by omega
      subst hk
      have e1 : 4503599627370496 + (a * 4503599627370496 + 9007199254740992) % 4503599627370496 = 4503599627370496 := by omega
      have e2 : (a * 4503599627370496 + 9007199254740992) / 4503599627370496 - 1 = a + 1 := by omega
      rw [e1, e2]
      have e3 : (-1074 : Int) + ((a + 1 : Nat) : Int) = -1074 + (a : Int) + 1 := by omega
      rw [e3, p2_succ]
      have e4 : ((9007199254740992 : Nat) : Rat) = 2 * ((4503599627370496 : Nat) : Rat) := by decide +kernel
      rw [e4]
      grind

/-- A rounding of X: near, and exact where the format has X. -/
structure Rnd (X v : Rat) : Prop where
  near : (v - X ≤ X * p2 (-53) ∧ X - v ≤ X * p2 (-53)) ∨ (X < p2 (-1022) ∧ v - X ≤ p2 (-1075) ∧ X - v ≤ p2 (-1075))
  exact : ∀ (k : Nat) (e : Int), X = k * p2 e → k ≤ 9007199254740992 → -1074 ≤ e → v = X

theorem shl_rat (m a : Nat) : ((m <<< a : Nat) : Rat) = m * p2 (a : Int) := by
  rw [Nat.shiftLeft_eq, Rat.natCast_mul, p2_nat]

theorem log2_rat (m : Nat) (h : m ≠ 0) : p2 (m.log2 : Int) ≤ m ∧ (m : Rat) < p2 ((m.log2 : Int) + 1) := by
  constructor
  · rw [p2_nat]; exact Rat.natCast_le_natCast.2 (Nat.log2_self_le h)
  · have : ((m.log2 : Int) + 1) = ((m.log2 + 1 : Nat) : Int) := by omega
    rw [this, p2_nat]; exact Rat.natCast_lt_natCast.2 Nat.lt_log2_self

/-- THE ROUNDING: of a magnitude below 2^1023. -/
theorem nearest_spec (s : Bool) (m : Nat) (place : Int) (hX : (m : Rat) * p2 place < p2 1023) :
    fin (double.nearest s m place) ∧ neg (double.nearest s m place) = s ∧
      ∃ v, val (double.nearest s m place) = sgn s * v ∧ 0 ≤ v ∧ Rnd ((m : Rat) * p2 place) v := by
  unfold Format.nearest
  by_cases hm : m = 0
  · rw [if_pos hm]
    subst hm
    have h := rung_val s 0 0 (by decide) (fun h => by omega) (by decide)
    simp only [Nat.zero_mul, Nat.add_zero] at h
    refine ⟨h.1, h.2.2, 0, ?_, Rat.le_refl, ?_⟩
    · rw [h.2.1]; unfold mval; grind
    · constructor
      · left; constructor <;> grind
      · intro k e he _ _; grind
  · rw [if_neg hm]
    have hl := log2_rat m hm
    have hpp := p2_pos place
    generalize hL : (m.log2 : Int) = L at *
    simp only [double_leastPlace, double_binade, double_infRung]
    have hfb : ((double.fractionBits : Nat) : Int) = 52 := rfl
    rw [hfb]
    have hlow : p2 (place + L) ≤ (m : Rat) * p2 place := by
      rw [Int.add_comm, p2_add]; exact Rat.mul_le_mul_of_nonneg_right hl.1 (Rat.le_of_lt hpp)
    have hup : (m : Rat) * p2 place < p2 (place + L + 1) := by
      rw [show place + L + 1 = (L + 1) + place by omega, p2_add]; exact Rat.mul_lt_mul_of_pos_right hl.2 hpp
    have hL2 : place + L < 1023 := lt_of_p2_lt (by grind)
    generalize hlast : max (place + L - 52) (-1074) = last
    have hl1 : -1074 ≤ last := by omega
    have hl2 : place + L - 52 ≤ last := by omega
    have hl3 : last ≤ 970 := by omega
    have hc := cut_near s (m <<< (place - last).toNat) (last - place).toNat
    have hce := cut_exact s (m <<< (place - last).toNat) (last - place).toNat
    generalize hk : Toward.even.cut s (m <<< (place - last).toNat) (last - place).toNat = kept at *
    -- the same over rationals
    have hq : place - ((place - last).toNat : Int) = last - ((last - place).toNat : Int) := by omega
    generalize ha : (place - last).toNat = a at *
    generalize hb : (last - place).toNat = b at *
    have eX : (m : Rat) * p2 place = ((m <<< a : Nat) : Rat) * p2 (last - b) := by
      rw [shl_rat, ← hq, Rat.mul_assoc, ← p2_add]; congr 2; omega
    have ev : (kept : Rat) * p2 last = ((kept * 2 ^ b : Nat) : Rat) * p2 (last - b) := by
      rw [Rat.natCast_mul, ← p2_nat, Rat.mul_assoc, ← p2_add]; congr 2; omega
    have eb : p2 last = ((2 ^ b : Nat) : Rat) * p2 (last - b) := by
      rw [← p2_nat, ← p2_add]; congr 1; omega
    have c1 : 2 * ((kept * 2 ^ b : Nat) : Rat) ≤ 2 * ((m <<< a : Nat) : Rat) + ((2 ^ b : Nat) : Rat) := by
      have := Rat.natCast_le_natCast.2 hc.1
      rw [Rat.natCast_add, Rat.natCast_mul 2, Rat.natCast_mul 2] at this
      exact this
    have c2 : 2 * ((m <<< a : Nat) : Rat) ≤ 2 * ((kept * 2 ^ b : Nat) : Rat) + ((2 ^ b : Nat) : Rat) := by
      have := Rat.natCast_le_natCast.2 hc.2
      rw [Rat.natCast_add, Rat.natCast_mul 2, Rat.natCast_mul 2] at this
      exact this
    have hpq := p2_pos (last - b)
    have d1 : 2 * ((kept : Rat) * p2 last) ≤ 2 * ((m : Rat) * p2 place) + p2 last := by
      have := Rat.mul_le_mul_of_nonneg_right c1 (Rat.le_of_lt hpq)
      rw [eX, ev, eb]; grind
    have d2 : 2 * ((m : Rat) * p2 place) ≤ 2 * ((kept : Rat) * p2 last) + p2 last := by
      have := Rat.mul_le_mul_of_nonneg_right c2 (Rat.le_of_lt hpq)
      rw [eX, ev, eb]; grind
    have hpl := p2_pos last
    -- bounds of kept
    have k1 : kept ≤ 9007199254740992 := by
      have : (m : Rat) * p2 place < p2 (last + 53) := by
        have := p2_mono (show place + L + 1 ≤ last + 53 by omega); grind
      rw [p2_add] at this
      have e53 : p2 53 = ((9007199254740992 : Nat) : Rat) := by rw [show (53 : Int) = ((53 : Nat) : Int) from rfl, p2_nat]
      rw [e53] at this
      have hlt : (kept : Rat) * p2 last < (((9007199254740992 : Nat) : Rat) + 1) * p2 last := by grind
      have h3 := Rat.lt_of_mul_lt_mul_right hlt (Rat.le_of_lt hpl)
      have h4 : (kept : Rat) < ((9007199254740992 + 1 : Nat) : Rat) := by rw [Rat.natCast_add]; exact h3
      have := Rat.natCast_lt_natCast.1 h4
      omega
    have k2 : -1074 < last → 4503599627370496 ≤ kept := by
      intro hgt
      have e : last = place + L - 52 := by omega
      have h5 : p2 (last + 52) ≤ (m : Rat) * p2 place := by rw [e]; rw [show place + L - 52 + 52 = place + L by omega]; exact hlow
      rw [p2_add] at h5
      have e52 : p2 52 = ((4503599627370496 : Nat) : Rat) := by rw [show (52 : Int) = ((52 : Nat) : Int) from rfl, p2_nat]
      rw [e52] at h5
      have hlt : ((4503599627370496 : Nat) : Rat) * p2 last < ((kept : Rat) + 1) * p2 last := by grind
      have h3 := Rat.lt_of_mul_lt_mul_right hlt (Rat.le_of_lt hpl)
      have h4 : ((4503599627370496 : Nat) : Rat) < ((kept + 1 : Nat) : Rat) := by rw [Rat.natCast_add]; exact h3
      have := Rat.natCast_lt_natCast.1 h4
      omega
    have e1074 : (last - -1074).toNat = (last + 1074).toNat := by omega
    rw [e1074]
    generalize hA : (last + 1074).toNat = A
    have hA2 : (-1074 : Int) + A = last := by omega
    have hr : A * 4503599627370496 + kept < 9218868437227405312 := by omega
    rw [Nat.min_eq_left (by omega)]
    have h := rung_val s A kept k1 (fun h => k2 (by omega)) hr
    rw [hA2] at h
    refine ⟨h.1, h.2.2, (kept : Rat) * p2 last, h.2.1, Rat.mul_nonneg Rat.natCast_nonneg (Rat.le_of_lt hpl), ?_⟩
    constructor
    · by_cases hcase : -1074 ≤ place + L - 52
      · left
        have e : last = place + L - 52 := by omega
        have e2 : p2 last = p2 (place + L) * p2 (-53) * 2 := by
          rw [← p2_add, ← p2_succ]; congr 1; omega
        have h6 := Rat.mul_le_mul_of_nonneg_right hlow (Rat.le_of_lt (p2_pos (-53)))
        constructor <;> grind
      · right
        have e : last = -1074 := by omega
        have e2 : p2 last = p2 (-1075) * 2 := by rw [e, ← p2_succ]; rfl
        refine ⟨?_, by grind, by grind⟩
        have := p2_mono (show place + L + 1 ≤ -1022 by omega)
        grind
    · intro k e hXe hk53 he
      have hdvd : 2 ^ b ∣ m <<< a := by
        rcases Nat.eq_zero_or_pos b with hb0 | hb0
        · rw [hb0]; exact Nat.one_dvd _
        · have ha0 : a = 0 := by omega
          have hpb : place = last - b := by omega
          rcases Int.lt_or_le e last with hel | hel
          · -- k = 2^53 and last = e + 1
            have e3 : last = place + L - 52 := by omega
            have h7 : p2 (last + 52) ≤ (k : Rat) * p2 e := by rw [← hXe, e3]; rw [show place + L - 52 + 52 = place + L by omega]; exact hlow
            have h8 : (k : Rat) ≤ p2 53 := by
              rw [show (53 : Int) = ((53 : Nat) : Int) from rfl, p2_nat]; exact Rat.natCast_le_natCast.2 hk53
            have h9 := Rat.mul_le_mul_of_nonneg_right h8 (Rat.le_of_lt (p2_pos e))
            rw [← p2_add] at h9
            have h10 := le_of_p2_le (Rat.le_trans h7 h9)
            have e4 : e = last - 1 := by omega
            have h11 : p2 53 ≤ (k : Rat) := by
              rw [show last + 52 = 53 + e by omega, p2_add] at h7
              exact Rat.le_of_mul_le_mul_right h7 (p2_pos e)
            have e5 : (m : Rat) * p2 place = p2 53 * p2 e := by
              rw [hXe]; congr 1; exact Rat.le_antisymm h8 h11
            rw [← p2_add, e4, show (53 : Int) + (last - 1) = (b + 52 : Nat) + (last - b) by omega, p2_add, ← hpb, p2_nat] at e5
            have e6 : (m : Rat) = ((2 ^ (b + 52) : Nat) : Rat) := by
              have hne : p2 place ≠ 0 := (Rat.ne_of_lt hpp).symm
              have := congrArg (· * (p2 place)⁻¹) e5
              simp only [Rat.mul_assoc, Rat.mul_inv_cancel _ hne, Rat.mul_one] at this
              exact this
            have e7 := Rat.natCast_inj.1 e6
            rw [ha0, e7]
            simp only [Nat.shiftLeft_zero, Nat.pow_add]
            exact Nat.dvd_mul_right _ _
          · have e5 : (m : Rat) = (k : Rat) * p2 ((e - place).toNat : Int) := by
              have e6 : (m : Rat) * p2 place = (k : Rat) * p2 ((e - place).toNat : Int) * p2 place := by
                rw [Rat.mul_assoc, ← p2_add, hXe]; congr 2; omega
              have hne : p2 place ≠ 0 := (Rat.ne_of_lt hpp).symm
              have := congrArg (· * (p2 place)⁻¹) e6
              simp only [Rat.mul_assoc, Rat.mul_inv_cancel _ hne, Rat.mul_one] at this
              exact this
            rw [p2_nat, ← Rat.natCast_mul] at e5
            have e7 := Rat.natCast_inj.1 e5
            rw [ha0, e7, show (e - place).toNat = b + (e - last).toNat by omega]
            simp only [Nat.shiftLeft_zero, Nat.pow_add]
            exact ⟨k * 2 ^ (e - last).toNat, by rw [← Nat.mul_assoc, Nat.mul_comm k, Nat.mul_assoc]⟩
      have := hce hdvd
      rw [ev, eX, this]

end Cx
