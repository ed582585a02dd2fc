/- 'turned': the word that it returns differs from its argument by whole turns, and is hardly beyond half a turn: of arguments of at most 44 in size. -/
import Derived.Test.YtigckpmeppddcaaPhaseOrder
set_option linter.unusedVariables false
namespace Cx
open Cq

def w2pi : Nat := 4618760256179416344
def wnpi : Nat := 13837628693406821656
theorem fin_2pi : fin w2pi := fin_of _ (by decide)
theorem val_2pi : val w2pi = 2 * PI := by decide +kernel
theorem fin_npi : fin wnpi := fin_of _ (by decide)
theorem val_npi : val wnpi = -PI := by decide +kernel
theorem val_wpi : val wpi = PI := by decide +kernel

theorem fsub_near {a b : Nat} {B : Rat} (fa : fin a) (fb : fin b) (hB : ab (val a - val b) ≤ B) (h1 : 1 ≤ B) (h2 : B ≤ 1152921504606846976) :
    fin (fsub a b) ∧ ab (val (fsub a b) - (val a - val b)) ≤ B * (1 / 4503599627370496) := by
  obtain ⟨f, r⟩ := sub_rd fa fb (mid_lt' (Rat.le_trans hB h2))
  refine ⟨f, ?_⟩
  rw [← eps_val]
  exact r.abs hB (low_le (Rat.le_trans (by decide +kernel) h1))
theorem fadd_near {a b : Nat} {B : Rat} (fa : fin a) (fb : fin b) (hB : ab (val a + val b) ≤ B) (h1 : 1 ≤ B) (h2 : B ≤ 1152921504606846976) :
    fin (fadd a b) ∧ ab (val (fadd a b) - (val a + val b)) ≤ B * (1 / 4503599627370496) := by
  obtain ⟨f, r⟩ := add_rd fa fb (mid_lt' (Rat.le_trans hB h2))
  refine ⟨f, ?_⟩
  rw [← eps_val]
  exact r.abs hB (low_le (Rat.le_trans (by decide +kernel) h1))
theorem fmul_near {a b : Nat} {B : Rat} (fa : fin a) (fb : fin b) (hB : ab (val a * val b) ≤ B) (h1 : 1 ≤ B) (h2 : B ≤ 1152921504606846976) :
    fin (fmul a b) ∧ ab (val (fmul a b) - (val a * val b)) ≤ B * (1 / 4503599627370496) := by
  obtain ⟨f, _, r⟩ := mul_rd fa fb (mid_lt' (Rat.le_trans hB h2))
  refine ⟨f, ?_⟩
  rw [← eps_val]
  exact r.abs hB (low_le (Rat.le_trans (by decide +kernel) h1))

def tmid (a : Nat) : Nat := if val wpi < val a then fsub a w2pi else a
def tstep (a : Nat) : Nat := if val (tmid a) < val wnpi then fadd (tmid a) w2pi else tmid a
def tn (a : Nat) : Nat → Nat
  | 0 => a
  | k + 1 => tstep (tn a k)

/-- One half step: it may be a turn back. -/
theorem tmid_ok {a : Nat} {B : Rat} (fa : fin a) (h : ab (val a) ≤ B) (h1 : 3 ≤ B) (h2 : B ≤ 64) :
    fin (tmid a) ∧ ((val wpi < val a ∧ ab (val (tmid a) - (val a - 2 * PI)) ≤ (B + 4) * (1 / 4503599627370496)) ∨ (¬ val wpi < val a ∧ tmid a = a)) := by
  unfold tmid
  have hPI := PI_val
  by_cases hc : val wpi < val a
  · rw [if_pos hc]
    have hh := ab_le.1 h
    have e := val_wpi
    obtain ⟨f, r⟩ := fsub_near (B := B + 4) fa fin_2pi (by rw [val_2pi, ab_le]; constructor <;> grind) (by grind) (by grind)
    rw [val_2pi] at r
    exact ⟨f, Or.inl ⟨hc, r⟩⟩
  · rw [if_neg hc]
    exact ⟨fa, Or.inr ⟨hc, rfl⟩⟩

theorem tstep_ok {a : Nat} {B : Rat} (fa : fin a) (h : ab (val a) ≤ B) (h1 : 314159 / 100000 ≤ B) (h2 : B ≤ 64) :
    fin (tmid a) ∧ fin (tstep a) ∧ (ab (val (tstep a)) ≤ PI + 1 / 17592186044416 ∨ ab (val (tstep a)) ≤ B - 6) ∧
      ∃ m : Int, ab (val (tstep a) - val a - 2 * PI * (m : Rat)) ≤ (B + 8) * (1 / 4503599627370496) := by
  have hPI := PI_val
  have e1 := val_wpi
  have e2 := val_npi
  have hh := ab_le.1 h
  obtain ⟨f, r⟩ := tmid_ok fa h (by grind) h2
  refine ⟨f, ?_⟩
  have z0 : ((0 : Int) : Rat) = 0 := rfl
  have z1 : ((1 : Int) : Rat) = 1 := rfl
  have z2 : ((-1 : Int) : Rat) = -1 := rfl
  unfold tstep
  by_cases hc : val (tmid a) < val wnpi
  · rw [if_pos hc]
    rcases r with ⟨r1, r2⟩ | ⟨r1, r2⟩
    · have r2 := ab_le.1 r2
      obtain ⟨f', s⟩ := fadd_near (B := 4) f fin_2pi (by rw [val_2pi, ab_le]; constructor <;> grind) (by decide +kernel) (by decide +kernel)
      rw [val_2pi] at s
      have s := ab_le.1 s
      refine ⟨f', Or.inl ?_, 0, ?_⟩
      · rw [ab_le]; constructor <;> grind
      · rw [z0, ab_le]; constructor <;> grind
    · rw [r2] at hc ⊢
      obtain ⟨f', s⟩ := fadd_near (B := B + 4) fa fin_2pi (by rw [val_2pi, ab_le]; constructor <;> grind) (by grind) (by grind)
      rw [val_2pi] at s
      have s := ab_le.1 s
      refine ⟨f', ?_, 1, ?_⟩
      · by_cases hs : -PI ≤ val a + 2 * PI
        · left; rw [ab_le]; constructor <;> grind
        · right; rw [ab_le]; constructor <;> grind
      · rw [z1, ab_le]; constructor <;> grind
  · rw [if_neg hc]
    rcases r with ⟨r1, r2⟩ | ⟨r1, r2⟩
    · have r2 := ab_le.1 r2
      refine ⟨f, ?_, -1, ?_⟩
      · by_cases hs : val (tmid a) ≤ PI
        · left; rw [ab_le]; constructor <;> grind
        · right; rw [ab_le]; constructor <;> grind
      · rw [z2, ab_le]; constructor <;> grind
    · rw [r2] at hc ⊢
      refine ⟨fa, Or.inl ?_, 0, ?_⟩
      · rw [ab_le]; constructor <;> grind
      · rw [z0, ab_le]; constructor <;> grind

/-- The rounds. -/
structure TurnAt (a : Nat) (k : Nat) : Prop where
  f : fin (tn a k)
  le : ab (val (tn a k)) ≤ PI + 1 / 17592186044416 ∨ ab (val (tn a k)) ≤ 44 - 6 * (k : Rat)
  err : ∃ m : Int, ab (val (tn a k) - val a - 2 * PI * (m : Rat)) ≤ (12 * (k : Rat) + 416) * (1 / 4503599627370496)
  err8 : k ≤ 8 → ∃ m : Int, ab (val (tn a k) - val a - 2 * PI * (m : Rat)) ≤ 52 * (k : Rat) * (1 / 4503599627370496)

theorem cast_succ (k : Nat) : ((k + 1 : Nat) : Rat) = (k : Rat) + 1 := by rw [Rat.natCast_add]; rfl
theorem cast_nn (k : Nat) : (0 : Rat) ≤ (k : Rat) := Rat.natCast_nonneg
theorem two_errs {P x y z E F : Rat} {m n : Int} (h1 : ab (y - x - P * (m : Rat)) ≤ E) (h2 : ab (z - y - P * (n : Rat)) ≤ F) : ab (z - x - P * ((m + n : Int) : Rat)) ≤ E + F := by
  rw [Rat.intCast_add]
  have h1 := ab_le.1 h1
  have h2 := ab_le.1 h2
  rw [ab_le]; constructor <;> grind

theorem turn_at {a : Nat} (fa : fin a) (h : ab (val a) ≤ 44) : ∀ k, TurnAt a k
  | 0 => by
    have z : ((0 : Nat) : Rat) = 0 := rfl
    have z0 : ((0 : Int) : Rat) = 0 := rfl
    refine ⟨fa, Or.inr (by simp only [tn, z]; grind), ⟨0, ?_⟩, fun _ => ⟨0, ?_⟩⟩
    · simp only [tn, z, z0]
      rw [show val a - val a - 2 * PI * 0 = 0 by grind, ab_zero]; decide +kernel
    · simp only [tn, z, z0]
      rw [show val a - val a - 2 * PI * 0 = 0 by grind, ab_zero]; decide +kernel
  | k + 1 => by
    have ih := turn_at fa h k
    have hPI := PI_val
    have nn := cast_nn k
    obtain ⟨m, hm⟩ := ih.err
    have hk1 := cast_succ k
    by_cases hlow : ab (val (tn a k)) ≤ PI + 1 / 17592186044416
    · obtain ⟨g1, g2, g3, n, g4⟩ := tstep_ok ih.f hlow (by grind) (by grind)
      have low' : ab (val (tstep (tn a k))) ≤ PI + 1 / 17592186044416 := by
        rcases g3 with g3 | g3
        · exact g3
        · have := ab_nonneg (val (tstep (tn a k))); grind
      refine ⟨g2, Or.inl low', ⟨m + n, Rat.le_trans (two_errs hm g4) ?_⟩, fun h8 => ?_⟩
      · rw [hk1]; grind
      · obtain ⟨m', hm'⟩ := ih.err8 (by omega)
        refine ⟨m' + n, Rat.le_trans (two_errs hm' g4) ?_⟩
        rw [hk1]; grind
    · have hb : ab (val (tn a k)) ≤ 44 - 6 * (k : Rat) := by
        rcases ih.le with h | h
        · exact absurd h hlow
        · exact h
      have k7 : k < 7 := by
        rcases Nat.lt_or_ge k 7 with h | h
        · exact h
        · exfalso
          have : ((7 : Nat) : Rat) ≤ (k : Rat) := Rat.natCast_le_natCast.2 h
          have e7 : ((7 : Nat) : Rat) = 7 := rfl
          have := ab_nonneg (val (tn a k))
          grind
      have kr : (k : Rat) ≤ 7 := by
        have : (k : Rat) ≤ ((7 : Nat) : Rat) := Rat.natCast_le_natCast.2 (by omega)
        exact this
      obtain ⟨g1, g2, g3, n, g4⟩ := tstep_ok ih.f hb (by grind) (by grind)
      obtain ⟨m', hm'⟩ := ih.err8 (by omega)
      refine ⟨g2, ?_, ⟨m' + n, Rat.le_trans (two_errs hm' g4) ?_⟩, fun h8 => ⟨m' + n, Rat.le_trans (two_errs hm' g4) ?_⟩⟩
      · rw [hk1]
        rcases g3 with g3 | g3
        · exact Or.inl g3
        · exact Or.inr (by simp only [tn]; grind)
      · rw [hk1]; grind
      · rw [hk1]; grind

theorem tstep_fin {a k : Nat} (T : TurnAt a k) : fin (tmid (tn a k)) ∧ fin (tstep (tn a k)) := by
  have hPI := PI_val
  have nn := cast_nn k
  have h44 : ab (val (tn a k)) ≤ 44 := by
    rcases T.le with h | h <;> grind
  obtain ⟨g1, g2, _⟩ := tstep_ok T.f h44 (by decide +kernel) (by decide +kernel)
  exact ⟨g1, g2⟩

/-- What 'turned' returns. -/
structure TurnedIs (a b : Nat) : Prop where
  f : fin b
  le : ab (val b) ≤ PI + 1 / 17592186044416
  err : ∃ m : Int, ab (val b - val a - 2 * PI * (m : Rat)) ≤ 1 / 2199023255552

theorem turned_is {a : Nat} (fa : fin a) (h : ab (val a) ≤ 44) : TurnedIs a (tn a 100) := by
  have T := turn_at fa h 100
  have hPI := PI_val
  have e : ((100 : Nat) : Rat) = 100 := rfl
  refine ⟨T.f, ?_, ?_⟩
  · rcases T.le with h | h
    · exact h
    · have := ab_nonneg (val (tn a 100))
      rw [e] at h
      grind
  · obtain ⟨m, hm⟩ := T.err
    refine ⟨m, Rat.le_trans hm ?_⟩
    rw [e]; decide +kernel

theorem ang_turns : ∀ n : Nat, n ≤ 8 → Ang ⟨1, 0⟩ (2 * PI * (n : Rat)) (32 * ea * (n : Rat))
  | 0, _ => by
    have z : ((0 : Nat) : Rat) = 0 := rfl
    rw [z, show 2 * PI * 0 = (0 : Rat) by grind, show 32 * ea * 0 = (0 : Rat) by grind]
    exact ang_one (by decide)
  | n + 1, h => by
    have ih := ang_turns n (by omega)
    have hPI := PI_val
    have he := ea_val
    have hk1 := cast_succ n
    have nn := cast_nn n
    have n16 : (n : Rat) ≤ 7 := by
      have : (n : Rat) ≤ ((7 : Nat) : Rat) := Rat.natCast_le_natCast.2 (by omega)
      exact this
    have hmu := mu_le
    have hmu0 := mu_pos
    have m := ih.mul ang_turn (by rw [hPI, ab_le]; constructor <;> grind) (by decide +kernel) (by rw [he]; grind)
    rw [Cq.one_mul, show 2 * PI * (n : Rat) + 2 * PI = 2 * PI * ((n + 1 : Nat) : Rat) by rw [hk1]; grind] at m
    exact m.mono (by rw [hk1, he]; grind) (by rw [hk1, he]; grind)

theorem ang_turns_int {m : Int} {K : Nat} (h : m.natAbs ≤ K) (hK : K ≤ 8) : Ang ⟨1, 0⟩ (2 * PI * (m : Rat)) (32 * ea * (K : Rat)) := by
  have he := ea_val
  have nn := cast_nn K
  have k8 : (K : Rat) ≤ 8 := by
    have : (K : Rat) ≤ ((8 : Nat) : Rat) := Rat.natCast_le_natCast.2 hK
    exact this
  have hm : ((m.natAbs : Nat) : Rat) ≤ (K : Rat) := Rat.natCast_le_natCast.2 h
  have A := (ang_turns m.natAbs (by omega)).mono (show 32 * ea * ((m.natAbs : Nat) : Rat) ≤ 32 * ea * (K : Rat) by rw [he]; grind) (by rw [he]; grind)
  rcases Int.natAbs_eq m with e | e
  · have e1 : (m : Rat) = ((m.natAbs : Nat) : Rat) := by
      conv => lhs; rw [e]
      exact Rat.intCast_natCast _
    rw [e1]; exact A
  · have e1 : (m : Rat) = -((m.natAbs : Nat) : Rat) := by
      conv => lhs; rw [e]
      rw [Rat.intCast_neg, Rat.intCast_natCast]
    have B := A.conj
    rw [one_conj, show -(2 * PI * ((m.natAbs : Nat) : Rat)) = 2 * PI * (m : Rat) by rw [e1]; grind] at B
    exact B

/-- Turned, an angle is the angle of the same number. -/
theorem TurnedIs.ang {a b : Nat} {z : Cq} {u A : Rat} {K : Nat} (T : TurnedIs a b) (h : Ang z (val a) u) (ha : ab (val a) ≤ A) (hA : A ≤ 44) (hK : A + 4 ≤ 6 * ((K : Rat) + 1)) (hK8 : K ≤ 8)
    (hs : u + 32 * ea * (K : Rat) + 65 * ea ≤ 1) : Ang z (val b) (u + 32 * ea * (K : Rat) + 65 * ea) := by
  obtain ⟨m, hm⟩ := T.err
  have le := ab_le.1 T.le
  have hPI := PI_val
  have he := ea_val
  have ha' := ab_le.1 ha
  have hm' := ab_le.1 hm
  have hmu := mu_le
  have hmu0 := mu_pos
  have u0 := h.nonneg
  have mb : m.natAbs ≤ K := by
    rcases Nat.lt_or_ge K m.natAbs with hl | hl
    · exfalso
      have h1 : ((K + 1 : Nat) : Rat) ≤ ((m.natAbs : Nat) : Rat) := Rat.natCast_le_natCast.2 hl
      rw [cast_succ, natAbs_rat] at h1
      rw [hPI] at hm' le
      clear hs h T hm ha
      rcases Rat.le_total (a := 0) (b := (m : Rat)) with hp | hp
      · rw [ab_of_nonneg hp] at h1; grind
      · rw [ab_of_neg hp] at h1; grind
    · exact hl
  have k8 : (K : Rat) ≤ 8 := by
    have : (K : Rat) ≤ ((8 : Nat) : Rat) := Rat.natCast_le_natCast.2 hK8
    exact this
  have mr : ab (m : Rat) ≤ 8 := by
    rw [← natAbs_rat]
    have : ((m.natAbs : Nat) : Rat) ≤ (K : Rat) := Rat.natCast_le_natCast.2 mb
    grind
  have mr' := ab_le.1 mr
  have A1 := h.mul (ang_turns_int mb hK8) (Rat.le_trans ha (Rat.le_trans hA (by decide))) (by rw [hPI, ab_le]; constructor <;> grind) (by rw [he] at hs ⊢; grind)
  rw [Cq.mul_one] at A1
  have near : ab (val a + 2 * PI * (m : Rat)) ≤ 64 := by
    clear A1 mr mr' k8 mb
    generalize 2 * PI * (m : Rat) = M at *
    rw [ab_le]; constructor <;> grind
  exact A1.to (d := 1 / 2199023255552) near (by rw [ab_le]; constructor <;> grind) (by rw [he]; grind) (by rw [he] at hs ⊢; exact hs)
end Cx

namespace Go.Proofs.Ytigckpmeppddcaa
open Go.RowKit Cx
set_option maxRecDepth 100000 in
theorem turned_any (a : Nat) (w : World) (fa : fin a) (h : ab (val a) ≤ 44) : Calls Try.prog 36 #[.float .f64 a] w fun e w' => e = .returned (.float .f64 (tn a 100)) ∧ w = w' := by
  have HT : Hid (∀ k, TurnAt a k) := Lib.hid (turn_at fa h)
  have g1 := fin_pi
  have g2 := fin_2pi
  have g3 := fin_npi
  unfold wpi w2pi wnpi at *
  clear h
  go_enter Try.func36, Try.ntmps36
  go_wp2
  go_loop [0, 3] (fun b i => ∃ k : Nat, k ≤ 100 ∧ i = .int .i64 k ∧ b = .float .f64 (tn a k)) (fun _ i => 100 - (intOf i).toNat)
  case atStart => exact ⟨0, Nat.zero_le _, rfl, rfl⟩
  case round =>
    obtain ⟨k, hk, rfl, rfl⟩ := hrel
    have T := HT.out k
    have f := T.f
    clear T
    by_cases hlt : k < 100
    · have F := (HT.out (k + 1)).f
      by_cases c1 : val 4614256656552045848 < val (tn a k)
      · have e1 : Hid (tmid (tn a k) = fsub (tn a k) 4618760256179416344) := Lib.hid (by unfold tmid; exact if_pos c1)
        have f1 : fin (fsub (tn a k) 4618760256179416344) := by rw [← e1.out]; exact (tstep_fin (HT.out k)).1
        by_cases c2 : val (fsub (tn a k) 4618760256179416344) < val 13837628693406821656
        · have e2 : Hid (tn a (k + 1) = fadd (fsub (tn a k) 4618760256179416344) 4618760256179416344) := Lib.hid (by show tstep _ = _; unfold tstep; rw [e1.out]; exact if_pos c2)
          clear F
          go_wp2
          go_round
          case rel => exact ⟨k + 1, by omega, by go_num, by rw [e2.out]⟩
          case measure => simp [intOf]; omega
        · have e2 : Hid (tn a (k + 1) = fsub (tn a k) 4618760256179416344) := Lib.hid (by show tstep _ = _; unfold tstep; rw [e1.out]; exact if_neg c2)
          clear F
          go_wp2
          go_round
          case rel => exact ⟨k + 1, by omega, by go_num, by rw [e2.out]⟩
          case measure => simp [intOf]; omega
      · have e1 : Hid (tmid (tn a k) = tn a k) := Lib.hid (by unfold tmid; exact if_neg c1)
        by_cases c2 : val (tn a k) < val 13837628693406821656
        · have e2 : Hid (tn a (k + 1) = fadd (tn a k) 4618760256179416344) := Lib.hid (by show tstep _ = _; unfold tstep; rw [e1.out]; exact if_pos c2)
          clear F
          go_wp2
          go_round
          case rel => exact ⟨k + 1, by omega, by go_num, by rw [e2.out]⟩
          case measure => simp [intOf]; omega
        · have e2 : Hid (tn a (k + 1) = tn a k) := Lib.hid (by show tstep _ = _; unfold tstep; rw [e1.out]; exact if_neg c2)
          clear F
          go_wp2
          go_round
          case rel => exact ⟨k + 1, by omega, by go_num, by rw [e2.out]⟩
          case measure => simp [intOf]; omega
    · obtain rfl : k = 100 := by omega
      go_wp2
      go_ret
      exact ⟨rfl, rfl⟩
end Go.Proofs.Ytigckpmeppddcaa
