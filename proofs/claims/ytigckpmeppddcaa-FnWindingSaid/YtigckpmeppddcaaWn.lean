/- The winding law, plain: the angle from one point to the next is the difference of their angles from the positive real axis, and whole turns for its crossings. -/
import Derived.Test.YtigckpmeppddcaaTu
set_option linter.unusedVariables false
namespace Go.Proofs.Ytigckpmeppddcaa
open Go.RowKit Cx

/-- The angle from just above the positive real axis: within (0, pi) above, [pi, 2 pi] else. -/
def tp (x y : Nat) : Rat := if val 0 < val y then val (phw x y) else if 0 < val (phw x y) then val (phw x y) else val (phw x y) + 2 * PI

structure TpOk (x y : Nat) (a b : Int) : Prop where
  ang : Ang ⟨(a : Rat), (b : Rat)⟩ (tp x y) (96 * ea)
  up : 0 < b → 0 < tp x y ∧ tp x y ≤ PI + 8 * eps
  low : b ≤ 0 → PI - 8 * eps ≤ tp x y ∧ tp x y ≤ 2 * PI

theorem tp_ok {x y : Nat} {a b : Int} (D : DirOk x y a b) : TpOk x y a b := by
  have hPI := PI_val
  have he := ea_val
  have t := ab_le.1 D.is.tight
  have z := D.is.zero
  have up := D.is.up
  have dn := D.is.down
  have vy := D.vy
  rw [vy] at up dn z
  have hmu := mu_le
  have hmu0 := mu_pos
  have e8 : 8 * eps ≤ 1 / 536870912 := by rw [eps_val]; decide +kernel
  by_cases hb : 0 < (b : Rat)
  · have et : tp x y = val (phw x y) := by unfold tp; rw [val_zero, vy, if_pos hb]
    have hb' : 0 < b := Rat.intCast_pos.1 hb
    exact ⟨by rw [et]; exact D.ang.mono (by decide +kernel) (by decide +kernel), fun _ => by rw [et]; exact ⟨up hb, t.1⟩, fun h => by omega⟩
  · have hb' : ¬ 0 < b := fun h => hb (Rat.intCast_pos.2 h)
    by_cases hp : 0 < val (phw x y)
    · have et : tp x y = val (phw x y) := by unfold tp; rw [val_zero, vy, if_neg hb, if_pos hp]
      refine ⟨by rw [et]; exact D.ang.mono (by decide +kernel) (by decide +kernel), fun h => absurd h hb', fun _ => ?_⟩
      have hb0 : (b : Rat) = 0 := by
        rcases Rat.le_total (a := (b : Rat)) (b := 0) with h | h
        · rcases Rat.le_iff_lt_or_eq.1 h with h | h
          · have := dn h; grind
          · exact h
        · grind
      have N := D.is.near
      rw [vy, hb0] at N
      rw [et]
      generalize val (phw x y) = p at *
      cases N with
      | pos h1 h2 h3 => grind
      | neg h1 h2 h3 => rcases h3 with h3 | h3 <;> rw [h3] at hp ⊢ <;> constructor <;> grind
      | up h1 h2 h3 => grind
      | down h1 h2 h3 => grind
      | right t q h1 h2 => exact absurd rfl h2
      | left t q h1 h2 => exact absurd rfl h2
    · have et : tp x y = val (phw x y) + 2 * PI := by unfold tp; rw [val_zero, vy, if_neg hb, if_neg hp]
      refine ⟨?_, fun h => absurd h hb', fun _ => ?_⟩
      · rw [et]
        have m := D.ang.mul ang_turn (Rat.le_trans D.is.le (by decide +kernel)) (by decide +kernel) (by decide +kernel)
        rw [Cq.mul_one] at m
        exact m.mono (by decide +kernel) (by decide +kernel)
      · rw [et]; constructor <;> grind

/-- One step of the way: +1, -1 or 0 crossings. -/
def crossing (b d cr : Int) : Int := if b ≤ 0 ∧ 0 < d ∧ 0 < cr then 1 else if 0 < b ∧ d ≤ 0 ∧ cr < 0 then -1 else 0

theorem sel {D w : Rat} (hw : w ≤ 1 / 134217728) (hc : ab D ≤ w ∨ ab (D - 2 * PI) ≤ w ∨ ab (D + 2 * PI) ≤ w) :
    (D < 2 * PI - 1 / 67108864 → -D < 2 * PI - 1 / 67108864 → ab D ≤ w) ∧ (1 / 67108864 < D → ab (D - 2 * PI) ≤ w) ∧ (1 / 67108864 < -D → ab (D + 2 * PI) ≤ w) := by
  have hPI := PI_val
  rcases hc with hc | hc | hc
  · have h := ab_le.1 hc
    exact ⟨fun _ _ => hc, fun _ => by grind, fun _ => by grind⟩
  · have h := ab_le.1 hc
    exact ⟨fun _ _ => by grind, fun _ => hc, fun _ => by grind⟩
  · have h := ab_le.1 hc
    exact ⟨fun _ _ => by grind, fun _ => by grind, fun _ => hc⟩

theorem step_num {P Q t w : Rat} (b d cr : Int) (hw : w ≤ 1 / 134217728)
    (hPu : 0 < b → 0 < P ∧ P ≤ PI + 1 / 536870912) (hPl : b ≤ 0 → PI - 1 / 536870912 ≤ P ∧ P ≤ 2 * PI)
    (hQu : 0 < d → 0 < Q ∧ Q ≤ PI + 1 / 536870912) (hQl : d ≤ 0 → PI - 1 / 536870912 ≤ Q ∧ Q ≤ 2 * PI)
    (tp : 0 < cr → 1 / 33554432 ≤ t ∧ t ≤ PI - 1 / 33554432) (tn : cr < 0 → t ≤ -(1 / 33554432) ∧ -t ≤ PI - 1 / 33554432) (t0 : cr = 0 → t = 0 ∧ ((0 < b ∧ 0 < d) ∨ (b ≤ 0 ∧ d ≤ 0)))
    (hc : ab (t - (Q - P)) ≤ w ∨ ab (t - (Q - P) - 2 * PI) ≤ w ∨ ab (t - (Q - P) + 2 * PI) ≤ w) :
    ab (t - (Q - P) - 2 * PI * ((crossing b d cr : Int) : Rat)) ≤ w := by
  have hPI := PI_val
  obtain ⟨s0, s1, s2⟩ := sel hw hc
  have c0 : crossing b d cr = 0 → t - (Q - P) < 2 * PI - 1 / 67108864 → -(t - (Q - P)) < 2 * PI - 1 / 67108864 → ab (t - (Q - P) - 2 * PI * ((crossing b d cr : Int) : Rat)) ≤ w := by
    intro h h1 h2
    rw [h, show t - (Q - P) - 2 * PI * ((0 : Int) : Rat) = t - (Q - P) by have : ((0 : Int) : Rat) = 0 := rfl; rw [this]; grind]
    exact s0 h1 h2
  have c1 : crossing b d cr = 1 → 1 / 67108864 < t - (Q - P) → ab (t - (Q - P) - 2 * PI * ((crossing b d cr : Int) : Rat)) ≤ w := by
    intro h h1
    rw [h, show t - (Q - P) - 2 * PI * ((1 : Int) : Rat) = t - (Q - P) - 2 * PI by have : ((1 : Int) : Rat) = 1 := rfl; rw [this]; grind]
    exact s1 h1
  have c2 : crossing b d cr = -1 → 1 / 67108864 < -(t - (Q - P)) → ab (t - (Q - P) - 2 * PI * ((crossing b d cr : Int) : Rat)) ≤ w := by
    intro h h1
    rw [h, show t - (Q - P) - 2 * PI * ((-1 : Int) : Rat) = t - (Q - P) + 2 * PI by have : ((-1 : Int) : Rat) = -1 := rfl; rw [this]; grind]
    exact s2 h1
  clear hc s0 s1 s2
  rcases Int.lt_trichotomy cr 0 with hcr | hcr | hcr
  · have T := tn hcr
    by_cases hb : 0 < b
    · by_cases hd : 0 < d
      · have p := hPu hb
        have q := hQu hd
        exact c0 (by unfold crossing; rw [if_neg (by omega), if_neg (by omega)]) (by grind) (by grind)
      · have p := hPu hb
        have q := hQl (by omega)
        exact c2 (by unfold crossing; rw [if_neg (by omega), if_pos (by omega)]) (by grind)
    · by_cases hd : 0 < d
      · have p := hPl (by omega)
        have q := hQu hd
        exact c0 (by unfold crossing; rw [if_neg (by omega), if_neg (by omega)]) (by grind) (by grind)
      · have p := hPl (by omega)
        have q := hQl (by omega)
        exact c0 (by unfold crossing; rw [if_neg (by omega), if_neg (by omega)]) (by grind) (by grind)
  · obtain ⟨T, T'⟩ := t0 hcr
    rcases T' with ⟨hb, hd⟩ | ⟨hb, hd⟩
    · have p := hPu hb
      have q := hQu hd
      exact c0 (by unfold crossing; rw [if_neg (by omega), if_neg (by omega)]) (by grind) (by grind)
    · have p := hPl (by omega)
      have q := hQl (by omega)
      exact c0 (by unfold crossing; rw [if_neg (by omega), if_neg (by omega)]) (by grind) (by grind)
  · have T := tp hcr
    by_cases hb : 0 < b
    · by_cases hd : 0 < d
      · have p := hPu hb
        have q := hQu hd
        exact c0 (by unfold crossing; rw [if_neg (by omega), if_neg (by omega)]) (by grind) (by grind)
      · have p := hPu hb
        have q := hQl (by omega)
        exact c0 (by unfold crossing; rw [if_neg (by omega), if_neg (by omega)]) (by grind) (by grind)
    · by_cases hd : 0 < d
      · have p := hPl (by omega)
        have q := hQu hd
        exact c1 (by unfold crossing; rw [if_pos (by omega)]) (by grind)
      · have p := hPl (by omega)
        have q := hQl (by omega)
        exact c0 (by unfold crossing; rw [if_neg (by omega), if_neg (by omega)]) (by grind) (by grind)

/-- The angle of a step, its words' values known. -/
theorem wind_step {x y u v p q : Nat} {a b c d : Int} (D : DirOk x y a b) (D' : DirOk u v c d) (ba : a.natAbs ≤ 1024) (bb : b.natAbs ≤ 1024) (bc : c.natAbs ≤ 1024) (bd : d.natAbs ≤ 1024)
    (S : DirOk p q (a * c + b * d) (a * d - b * c)) (hok : ¬ (a * d - b * c = 0 ∧ a * c + b * d ≤ 0)) :
    ab (val (phw p q) - (tp u v - tp x y) - 2 * PI * ((crossing b d (a * d - b * c) : Int) : Rat)) ≤ 600 * ea := by
  have hPI := PI_val
  have e8 : 8 * eps ≤ 1 / 536870912 := by rw [eps_val]; decide +kernel
  have P := tp_ok D
  have Q := tp_ok D'
  have bP : ab (tp x y) ≤ 64 := by
    rcases Int.lt_or_le 0 b with h | h
    · have := P.up h; rw [ab_le]; constructor <;> grind
    · have := P.low h; rw [ab_le]; constructor <;> grind
  have bQ : ab (tp u v) ≤ 64 := by
    rcases Int.lt_or_le 0 d with h | h
    · have := Q.up h; rw [ab_le]; constructor <;> grind
    · have := Q.low h; rw [ab_le]; constructor <;> grind
  have bD : ab (tp u v - tp x y) ≤ 62833 / 10000 := by
    rcases Int.lt_or_le 0 b with h | h <;> rcases Int.lt_or_le 0 d with h' | h'
    · have := P.up h; have := Q.up h'; rw [ab_le]; constructor <;> grind
    · have := P.up h; have := Q.low h'; rw [ab_le]; constructor <;> grind
    · have := P.low h; have := Q.up h'; rw [ab_le]; constructor <;> grind
    · have := P.low h; have := Q.low h'; rw [ab_le]; constructor <;> grind
  have m := Q.ang.mul P.ang.conj bQ (by rw [ab_neg]; exact bP) (by decide +kernel)
  have e : (⟨(c : Rat), (d : Rat)⟩ : Cq).mul (Cq.conj ⟨(a : Rat), (b : Rat)⟩) = ⟨((a * c + b * d : Int) : Rat), ((a * d - b * c : Int) : Rat)⟩ := by
    apply Cq.ext' <;> simp only [Cq.mul, Cq.conj]
    · rw [Rat.intCast_add, Rat.intCast_mul, Rat.intCast_mul]; grind
    · rw [Rat.intCast_sub, Rat.intCast_mul, Rat.intCast_mul]; grind
  rw [e, show tp u v + -tp x y = tp u v - tp x y by grind] at m
  have hS := ab_le.1 S.is.le
  have hD := ab_le.1 bD
  have df := S.ang.diff m (Rat.le_trans S.is.le (by decide +kernel)) (Rat.le_trans bD (by decide +kernel)) (by decide +kernel)
  have O := one_angle2 df (by rw [ab_le]; constructor <;> grind) (by decide +kernel)
  have m1 := natAbs_mul_le ba bc
  have m2 := natAbs_mul_le bb bd
  have m3 := natAbs_mul_le ba bd
  have m4 := natAbs_mul_le bb bc
  have O' : ab (val (phw p q) - (tp u v - tp x y)) ≤ 600 * ea ∨ ab (val (phw p q) - (tp u v - tp x y) - 2 * PI) ≤ 600 * ea ∨ ab (val (phw p q) - (tp u v - tp x y) + 2 * PI) ≤ 600 * ea := by
    have w : 2 * (64 * ea + (96 * ea + 96 * ea + mu) + mu + 32 * ea) ≤ 600 * ea := by decide +kernel
    rcases O with O | O | O
    · exact Or.inl (Rat.le_trans O w)
    · exact Or.inr (Or.inl (Rat.le_trans O w))
    · exact Or.inr (Or.inr (Rat.le_trans O w))
  have gap : a * d - b * c ≠ 0 → 1 / 33554432 ≤ ab (val (phw p q) - PI) ∧ 1 / 33554432 ≤ ab (val (phw p q) + PI) ∧ 1 / 33554432 ≤ ab (val (phw p q)) := fun h =>
    gap_pi S.ang (by decide +kernel) (int_ab_ge h) (Rat.le_trans (int_ab_le (show (a * c + b * d).natAbs ≤ 4194304 by omega)) (by decide +kernel)) (Rat.le_trans S.is.le (by decide +kernel))
  have tight := ab_le.1 S.is.tight
  refine step_num b d (a * d - b * c) (by decide +kernel) (fun h => ?_) (fun h => ?_) (fun h => ?_) (fun h => ?_) (fun h => ?_) (fun h => ?_) (fun h => ?_) O'
  · have := P.up h; grind
  · have := P.low h; grind
  · have := Q.up h; grind
  · have := Q.low h; grind
  · obtain ⟨g1, g2, g3⟩ := gap (by omega)
    have up := S.is.up (by rw [S.vy]; exact Rat.intCast_pos.2 h)
    rw [ab_of_nonneg (Rat.le_of_lt up)] at g3
    refine ⟨g3, ?_⟩
    rcases Rat.le_total (a := 0) (b := val (phw p q) - PI) with hh | hh
    · rw [ab_of_nonneg hh] at g1; grind
    · rw [ab_of_neg hh] at g1; grind
  · obtain ⟨g1, g2, g3⟩ := gap (by omega)
    have dn := S.is.down (by rw [S.vy]; exact Rat.intCast_neg_iff.2 h)
    rw [ab_of_neg (Rat.le_of_lt dn)] at g3
    refine ⟨by grind, ?_⟩
    rcases Rat.le_total (a := 0) (b := val (phw p q) + PI) with hh | hh
    · rw [ab_of_nonneg hh] at g2; grind
    · rw [ab_of_neg hh] at g2; grind
  · have hal : 0 < a * c + b * d := by omega
    refine ⟨S.is.zero.2 ⟨by rw [S.vy, h]; rfl, by rw [S.vx]; exact Rat.intCast_pos.2 hal⟩, ?_⟩
    have i1 : d * (a * a + b * b) = b * (a * c + b * d) + a * (a * d - b * c) := by grind
    have nz : 0 < a * a + b * b := by
      have := one_le_sq (a := a) (b := b) (fun hh => by rw [hh.1, hh.2] at hal; simp at hal)
      omega
    rw [h, Int.mul_zero, Int.add_zero] at i1
    rcases Int.lt_trichotomy b 0 with hb | hb | hb
    · right
      refine ⟨by omega, ?_⟩
      have := Int.mul_neg_of_neg_of_pos hb hal
      rw [← i1] at this
      rcases Int.lt_or_le 0 d with hd | hd
      · have := Int.mul_pos hd nz; omega
      · exact hd
    · right
      have i2 : d * (a * a + b * b) = 0 := by rw [i1, hb, Int.zero_mul]
      refine ⟨by omega, ?_⟩
      rcases Int.lt_or_le 0 d with hd | hd
      · have := Int.mul_pos hd nz; omega
      · exact hd
    · left
      refine ⟨hb, ?_⟩
      have := Int.mul_pos hb hal
      rw [← i1] at this
      rcases Int.lt_or_le 0 d with hd | hd
      · exact hd
      · have := Int.mul_nonpos_of_nonpos_of_nonneg hd (Int.le_of_lt nz); omega
end Go.Proofs.Ytigckpmeppddcaa
