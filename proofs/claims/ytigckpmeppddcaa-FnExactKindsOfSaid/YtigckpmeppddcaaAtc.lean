/- The library's atan and atan2 (the phase) as functions of words: finite, signs, sizes, and what they are near to. Plain: no program in sight. -/
import Derived.Test.YtigckpmeppddcaaAtb
set_option linter.unusedVariables false
namespace Cx

theorem val_z : val 0 = 0 := by decide +kernel
theorem fin_z : fin 0 := fin_of 0 (by decide)

/-- f with the sign of s. -/
def fcopy (f s : Nat) : Nat := fabs f + s / 9223372036854775808 * 9223372036854775808
theorem fcopy_spec {f s : Nat} (hf : fin f) (hs : s < 18446744073709551616) : fin (fcopy f s) ∧ neg (fcopy f s) = neg s ∧ val (fcopy f s) = sgn (neg s) * ab (val f) := by
  obtain ⟨a1, a2, a3⟩ := fabs_spec hf
  have hlt : fabs f < 9223372036854775808 := by unfold fabs; omega
  have hn := neg_eq hs
  by_cases h : 9223372036854775808 ≤ s
  · have e : fcopy f s = fneg (fabs f) := by
      rw [fneg_val0 _ (by omega), if_neg (by omega)]
      unfold fcopy; omega
    obtain ⟨b1, b2, b3⟩ := fneg_spec a1
    rw [e, hn, decide_eq_true h]
    refine ⟨b1, by rw [b3, a3]; rfl, ?_⟩
    rw [b2, a2]; unfold sgn; simp; grind
  · have e : fcopy f s = fabs f := by unfold fcopy; omega
    rw [e, hn, decide_eq_false h]
    refine ⟨a1, a3, ?_⟩
    rw [a2]; unfold sgn; simp

def atw (x : Nat) : Nat := if val x = val 0 then x else if val 0 < val x then swat x else fneg (swat (fneg x))

/-- The phase of x + y i. -/
def phw (x y : Nat) : Nat :=
  if val y = val 0 then (if val 0 ≤ val x ∧ neg x = false then fcopy 0 y else fcopy wpi y)
  else if val x = val 0 then fcopy wpio2 y
  else if val x < val 0 then (if val (atw (fdiv y x)) ≤ val 0 then fadd (atw (fdiv y x)) wpi else fsub (atw (fdiv y x)) wpi)
  else atw (fdiv y x)

structure PhOk (x y : Nat) : Prop where
  fx : fin x
  fy : fin y
  nz : ¬ (val x = val 0 ∧ val y = val 0)
  ratio : ¬ val x = val 0 → ¬ val y = val 0 → p2 (-300) ≤ ab (val y / val x) ∧ ab (val y / val x) ≤ p2 300

/-- What is known of the arctangent of a word. -/
structure AtIs (q : Nat) : Prop where
  nz : ¬ val q = val 0
  pos : val 0 < val q → SatFin q ∧ fin (swat q)
  ngf : ¬ val 0 < val q → fin (fneg q) ∧ SatFin (fneg q) ∧ fin (swat (fneg q))
  f : fin (atw q)
  sg : 0 < val q → 0 < val (atw q)
  sg' : val q < 0 → val (atw q) < 0
  le : ab (val (atw q)) ≤ 15708 / 10000
  near : SatNear (ab (val q)) (ab (val (atw q)))

theorem at_is {q : Nat} (hf : fin q) (h1 : p2 (-500) ≤ ab (val q)) (h2 : ab (val q) ≤ p2 500) : AtIs q := by
  have hp := p2_pos (-500)
  have hne : ¬ val q = 0 := by intro h; rw [h, ab_zero] at h1; grind
  by_cases hq : 0 < val q
  · rw [ab_of_nonneg (Rat.le_of_lt hq)] at h1 h2
    obtain ⟨s1, s2, s3, s4, s5⟩ := sat_spec hf h1 h2
    have e : atw q = swat q := by unfold atw; rw [val_z, if_neg hne, if_pos hq]
    refine ⟨by rw [val_z]; exact hne, fun _ => ⟨s1, s2⟩, fun h => absurd (by rw [val_z]; exact hq) h, by rw [e]; exact s2, fun _ => by rw [e]; exact s3, fun h => by grind, ?_, ?_⟩
    · rw [e, ab_of_nonneg (Rat.le_of_lt s3)]; exact s4
    · rw [e, ab_of_nonneg (Rat.le_of_lt s3), ab_of_nonneg (Rat.le_of_lt hq)]; exact s5
  · have hq' : val q < 0 := by grind
    rw [ab_of_neg (Rat.le_of_lt hq')] at h1 h2
    obtain ⟨n1, n2, _⟩ := fneg_spec hf
    rw [← n2] at h1 h2
    obtain ⟨s1, s2, s3, s4, s5⟩ := sat_spec n1 h1 h2
    obtain ⟨m1, m2, _⟩ := fneg_spec s2
    have e : atw q = fneg (swat (fneg q)) := by unfold atw; rw [val_z, if_neg hne, if_neg hq]
    refine ⟨by rw [val_z]; exact hne, fun h => absurd (by rw [val_z] at h; exact h) hq, fun _ => ⟨n1, s1, s2⟩, by rw [e]; exact m1, fun h => absurd h hq, fun h => by rw [e, m2]; grind, ?_, ?_⟩
    · rw [e, m2, ab_neg, ab_of_nonneg (Rat.le_of_lt s3)]; exact s4
    · rw [e, m2, ab_neg, ab_of_nonneg (Rat.le_of_lt s3), ab_of_neg (Rat.le_of_lt hq'), ← n2]; exact s5

/-- The quotient of both parts, where neither is zero. -/
theorem ph_quot {x y : Nat} (h : PhOk x y) (hx : ¬ val x = val 0) (hy : ¬ val y = val 0) :
    Ieee.double.div y x = some (fdiv y x) ∧ fin (fdiv y x) ∧ AtIs (fdiv y x) ∧ Rl eps (ab (val (fdiv y x))) (ab (val y / val x)) ∧
      (0 < val y / val x → 0 < val (fdiv y x)) ∧ (val y / val x < 0 → val (fdiv y x) < 0) := by
  obtain ⟨r1, r2⟩ := h.ratio hx hy
  have hx' : val x ≠ 0 := by rw [val_z] at hx; exact hx
  have hp := p2_pos (-300)
  have lt22 : ab (val y / val x) < p2 1022 := by have := p2_lt (show (300 : Int) < 1022 by decide); grind
  obtain ⟨d1, d2, d3, d4⟩ := div_rd h.fy h.fx hx' lt22
  generalize hq : val y / val x = q at *
  -- the magnitude's rounding
  have rl : Rl eps (ab (val (fdiv y x))) (ab q) ∧ (0 < q → 0 < val (fdiv y x)) ∧ (q < 0 → val (fdiv y x) < 0) := by
    by_cases h0 : 0 ≤ q
    · rw [ab_of_nonneg h0] at r1 ⊢
      have := d4.rl (Rat.le_trans (p2_mono (by decide)) r1)
      rw [ab_of_nonneg (Rat.le_of_lt this.apos)]
      exact ⟨this, fun _ => this.apos, fun h => by grind⟩
    · have h0' : q ≤ 0 := by grind
      rw [ab_of_neg h0'] at r1 ⊢
      have := d4.neg.rl (Rat.le_trans (p2_mono (by decide)) r1)
      have hv : val (fdiv y x) < 0 := by have := this.apos; grind
      rw [ab_of_neg (Rat.le_of_lt hv)]
      exact ⟨this, fun h => by grind, fun _ => hv⟩
  obtain ⟨rl, g1, g2⟩ := rl
  have hh := rl.half (by rw [eps_val]; decide +kernel)
  have b1 : p2 (-500) ≤ ab (val (fdiv y x)) := by
    have e : p2 (-301) * 2 = p2 (-300) := by rw [← p2_succ]; rfl
    have := p2_mono (show (-500 : Int) ≤ -301 by decide)
    grind
  have b2 : ab (val (fdiv y x)) ≤ p2 500 := by
    have e : p2 300 * 2 = p2 301 := by rw [← p2_succ]; rfl
    have := p2_mono (show (301 : Int) ≤ 500 by decide)
    grind
  exact ⟨d1, d2, at_is d2 b1 b2, rl, g1, g2⟩

theorem div_pos_iff {a b : Rat} (hb : b ≠ 0) : (0 < a / b → (0 < a ∧ 0 < b) ∨ (a < 0 ∧ b < 0)) ∧ (a / b < 0 → (a < 0 ∧ 0 < b) ∨ (0 < a ∧ b < 0)) := by
  have e : a / b * b = a := Rat.div_mul_cancel hb
  generalize a / b = q at *
  constructor
  · intro h
    by_cases h0 : 0 < b
    · left; exact ⟨by rw [← e]; exact Rat.mul_pos h h0, h0⟩
    · right
      have hb' : 0 < -b := by grind
      have := Rat.mul_pos h hb'
      exact ⟨by grind, by grind⟩
  · intro h
    have hq : 0 < -q := by grind
    by_cases h0 : 0 < b
    · left
      have := Rat.mul_pos hq h0
      exact ⟨by grind, h0⟩
    · right
      have hb' : 0 < -b := by grind
      have := Rat.mul_pos hq hb'
      exact ⟨by grind, by grind⟩
theorem div_sign {a b : Rat} (ha : a ≠ 0) (hb : b ≠ 0) : (0 < a → 0 < b → 0 < a / b) ∧ (a < 0 → b < 0 → 0 < a / b) ∧ (a < 0 → 0 < b → a / b < 0) ∧ (0 < a → b < 0 → a / b < 0) := by
  have hne : a / b ≠ 0 := by
    intro h
    have e : a / b * b = a := Rat.div_mul_cancel hb
    rw [h, Rat.zero_mul] at e
    exact ha e.symm
  have h := div_pos_iff (a := a) hb
  refine ⟨fun h1 h2 => ?_, fun h1 h2 => ?_, fun h1 h2 => ?_, fun h1 h2 => ?_⟩
  · by_cases hc : 0 < a / b
    · exact hc
    · rcases h.2 (by grind) with h3 | h3 <;> grind
  · by_cases hc : 0 < a / b
    · exact hc
    · rcases h.2 (by grind) with h3 | h3 <;> grind
  · by_cases hc : a / b < 0
    · exact hc
    · rcases h.1 (by grind) with h3 | h3 <;> grind
  · by_cases hc : a / b < 0
    · exact hc
    · rcases h.1 (by grind) with h3 | h3 <;> grind

/-- What the phase of X + Y i is near to. -/
inductive PhNear (X Y p : Rat) : Prop
  | pos : Y = 0 → 0 < X → p = 0 → PhNear X Y p
  | neg : Y = 0 → X < 0 → (p = PI ∨ p = -PI) → PhNear X Y p
  | up : X = 0 → 0 < Y → p = PI / 2 → PhNear X Y p
  | down : X = 0 → Y < 0 → p = -(PI / 2) → PhNear X Y p
  | right (t q : Rat) : 0 < X → Y ≠ 0 → Rl eps t (ab (Y / X)) → SatNear t (ab q) → p = q → (0 < Y → 0 < q) → (Y < 0 → q < 0) → PhNear X Y p
  | left (t q : Rat) : X < 0 → Y ≠ 0 → Rl eps t (ab (Y / X)) → SatNear t (ab q) → (0 < Y → q < 0 ∧ ab (p - (q + PI)) ≤ 8 * eps) → (Y < 0 → 0 < q ∧ ab (p - (q - PI)) ≤ 8 * eps) → PhNear X Y p

structure PhIs (x y : Nat) : Prop where
  f : fin (phw x y)
  near : PhNear (val x) (val y) (val (phw x y))
  le : ab (val (phw x y)) ≤ 31416 / 10000
  tight : ab (val (phw x y)) ≤ PI + 8 * eps
  up : 0 < val y → 0 < val (phw x y)
  down : val y < 0 → val (phw x y) < 0
  zero : val (phw x y) = 0 ↔ (val y = 0 ∧ 0 < val x)

theorem ph_is {x y : Nat} (h : PhOk x y) : PhIs x y := by
  have hPI : PI = 884279719003555 / 281474976710656 := rfl
  have ee := eps_val
  have nz := h.nz
  rw [val_z] at nz
  by_cases hy : val y = 0
  · have hx : val x ≠ 0 := fun hx => nz ⟨hx, hy⟩
    by_cases hc : 0 < val x
    · have e : phw x y = fcopy 0 y := by
        unfold phw
        rw [val_z, if_pos hy, if_pos ⟨Rat.le_of_lt hc, neg_of_pos h.fx hc⟩]
      obtain ⟨f1, f2, f3⟩ := fcopy_spec fin_z h.fy.1
      have v0 : val (phw x y) = 0 := by rw [e, f3, val_z, ab_zero]; grind
      refine ⟨by rw [e]; exact f1, PhNear.pos hy hc v0, by rw [v0]; decide +kernel, by rw [v0, ee]; decide +kernel, fun h => by grind, fun h => by grind, ⟨fun _ => ⟨hy, hc⟩, fun _ => v0⟩⟩
    · have hc' : val x < 0 := by grind
      have e : phw x y = fcopy wpi y := by
        unfold phw
        rw [val_z, if_pos hy, if_neg (fun hh => by grind)]
      obtain ⟨f1, f2, f3⟩ := fcopy_spec fin_pi h.fy.1
      have hab : ab (val wpi) = PI := by rw [val_pi]; decide +kernel
      rw [hab] at f3
      have vv : val (phw x y) = PI ∨ val (phw x y) = -PI := by
        rw [e, f3]; unfold sgn; cases neg y <;> simp <;> grind
      refine ⟨by rw [e]; exact f1, PhNear.neg hy hc' vv, ?_, ?_, fun h => by grind, fun h => by grind, ⟨fun h0 => ?_, fun h0 => by grind⟩⟩
      · rcases vv with v | v <;> rw [v] <;> decide +kernel
      · rcases vv with v | v <;> rw [v, ee] <;> decide +kernel
      · rcases vv with v | v <;> rw [v] at h0 <;> exact absurd h0 (by decide +kernel)
  · by_cases hx : val x = 0
    · have e : phw x y = fcopy wpio2 y := by unfold phw; rw [val_z, if_neg hy, if_pos hx]
      obtain ⟨f1, f2, f3⟩ := fcopy_spec fin_pio2 h.fy.1
      have hab : ab (val wpio2) = PI / 2 := by rw [val_pio2]; decide +kernel
      rw [hab] at f3
      by_cases hp : 0 < val y
      · have v : val (phw x y) = PI / 2 := by rw [e, f3, neg_of_pos h.fy hp]; unfold sgn; simp
        refine ⟨by rw [e]; exact f1, PhNear.up hx hp v, by rw [v]; decide +kernel, by rw [v, ee]; decide +kernel, fun _ => by rw [v]; decide +kernel, fun h => by grind, ⟨fun h0 => by rw [v] at h0; exact absurd h0 (by decide +kernel), fun h0 => absurd h0.1 hy⟩⟩
      · have hn : val y < 0 := by grind
        have v : val (phw x y) = -(PI / 2) := by rw [e, f3, neg_of_neg h.fy hn]; unfold sgn; simp; grind
        refine ⟨by rw [e]; exact f1, PhNear.down hx hn v, by rw [v]; decide +kernel, by rw [v, ee]; decide +kernel, fun h => by grind, fun _ => by rw [v]; decide +kernel, ⟨fun h0 => by rw [v] at h0; exact absurd h0 (by decide +kernel), fun h0 => absurd h0.1 hy⟩⟩
    · obtain ⟨q1, q2, A, rl, g1, g2⟩ := ph_quot h (by rw [val_z]; exact hx) (by rw [val_z]; exact hy)
      obtain ⟨s1, s2, s3, s4⟩ := div_sign hy hx
      have hle := ab_le.1 A.le
      by_cases hc : val x < 0
      · by_cases hp : 0 < val y
        · have hq : val (atw (fdiv y x)) < 0 := A.sg' (g2 (s4 hp hc))
          have e : phw x y = fadd (atw (fdiv y x)) wpi := by
            unfold phw; rw [val_z, if_neg hy, if_neg hx, if_pos hc, if_pos (Rat.le_of_lt hq)]
          obtain ⟨f1, r⟩ := add_rd A.f fin_pi (by rw [val_pi]; exact small_lt_1023 (by rw [ab_le]; constructor <;> grind))
          rw [← e, val_pi] at r
          rw [← e] at f1
          have er := r.abs (B := 4) (by rw [ab_le]; constructor <;> grind) (low_le (by decide +kernel))
          have er' := ab_le.1 er
          rw [ee] at er'
          refine ⟨f1, PhNear.left _ _ hc hy rl A.near (fun _ => ⟨hq, ?_⟩) (fun h => by grind), by rw [ab_le]; constructor <;> grind, by rw [ab_le, ee]; constructor <;> grind, fun _ => by grind, fun h => by grind, ⟨fun h0 => by grind, fun h0 => absurd h0.1 hy⟩⟩
          rw [ab_le, ee]; constructor <;> grind
        · have hn : val y < 0 := by grind
          have hq : 0 < val (atw (fdiv y x)) := A.sg (g1 (s2 hn hc))
          have e : phw x y = fsub (atw (fdiv y x)) wpi := by
            unfold phw; rw [val_z, if_neg hy, if_neg hx, if_pos hc, if_neg (by grind)]
          obtain ⟨f1, r⟩ := sub_rd A.f fin_pi (by rw [val_pi]; exact small_lt_1023 (by rw [ab_le]; constructor <;> grind))
          rw [← e, val_pi] at r
          rw [← e] at f1
          have er := r.abs (B := 4) (by rw [ab_le]; constructor <;> grind) (low_le (by decide +kernel))
          have er' := ab_le.1 er
          rw [ee] at er'
          refine ⟨f1, PhNear.left _ _ hc hy rl A.near (fun h => by grind) (fun _ => ⟨hq, ?_⟩), by rw [ab_le]; constructor <;> grind, by rw [ab_le, ee]; constructor <;> grind, fun h => by grind, fun _ => by grind, ⟨fun h0 => by grind, fun h0 => absurd h0.1 hy⟩⟩
          rw [ab_le, ee]; constructor <;> grind
      · have hc' : 0 < val x := by grind
        have e : phw x y = atw (fdiv y x) := by unfold phw; rw [val_z, if_neg hy, if_neg hx, if_neg hc]
        by_cases hp : 0 < val y
        · have hq := A.sg (g1 (s1 hp hc'))
          refine ⟨by rw [e]; exact A.f, by rw [e]; exact PhNear.right _ _ hc' hy rl A.near rfl (fun _ => hq) (fun h => by grind), by rw [e]; exact Rat.le_trans A.le (by decide +kernel), by rw [e, ee]; exact Rat.le_trans A.le (by decide +kernel), fun _ => by rw [e]; exact hq, fun h => by grind, ⟨fun h0 => by rw [e] at h0; grind, fun h0 => absurd h0.1 hy⟩⟩
        · have hn : val y < 0 := by grind
          have hq := A.sg' (g2 (s3 hn hc'))
          refine ⟨by rw [e]; exact A.f, by rw [e]; exact PhNear.right _ _ hc' hy rl A.near rfl (fun h => by grind) (fun _ => hq), by rw [e]; exact Rat.le_trans A.le (by decide +kernel), by rw [e, ee]; exact Rat.le_trans A.le (by decide +kernel), fun h => by grind, fun _ => by rw [e]; exact hq, ⟨fun h0 => by rw [e] at h0; grind, fun h0 => absurd h0.1 hy⟩⟩
end Cx
