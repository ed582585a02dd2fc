/- The contract of spec.AllWhole: true just where both slices are of one length, not beyond a bound, and all numbers whole, not beyond a bound, and none is zero. -/
import Derived.Test.YtigckpmeppddcaaWa
import Derived.Deep.QuietTactic
import Derived.BigQuiet
set_option linter.unusedVariables false
namespace Go.Proofs.Ytigckpmeppddcaa
open Go.RowKit Cx

theorem val_zero : val 0 = 0 := by decide +kernel
theorem fin_zero : fin 0 := fin_of 0 (by decide)

/-- What the walk is told of a slice of floats that came in: its length, and the words of its cells. -/
def FRow (w : World) (a : Option Addr) (len : Nat) (Z : Nat → Nat) : Prop :=
  len ≤ 9223372036854775807 ∧ (len = 0 ∨ ∃ b off, a = some ⟨b, off, none⟩ ∧ ∀ i, i < len → Z i < 18446744073709551616 ∧ w.cell? ⟨b, off + i, none⟩ = some (.float .f64 (Z i)))

def AllW (X Y : Nat → Nat) (n : Nat) (M : Int) : Prop := ∀ i, i < n → Whl (X i) M ∧ Whl (Y i) M ∧ ¬ (val (X i) = val 0 ∧ val (Y i) = val 0)

set_option maxHeartbeats 400000 in
theorem allw_yes (a0 a1 : Option Addr) (n c0 c1 : Nat) (m : Nat) (many : Int) (M : Int) (X Y : Nat → Nat) (w : World)
    (h0 : FRow w a0 n X) (h1 : FRow w a1 n Y) (hm : fin m) (hM : val m = M) (hM2 : M ≤ 9007199254740992) (hn : (n : Int) ≤ many) (h : AllW X Y n M) :
    Calls Try.prog 21 #[.slice a0 n c0, .slice a1 n c1, .float .f64 m, .int .i64 many] w fun e w' => e = .returned (.bool true) ∧ w = w' := by
  obtain ⟨hl, h0⟩ := h0
  obtain ⟨_, h1⟩ := h1
  have f0 := fin_zero
  have HM := Lib.hid hM
  clear hM
  have hnn : ¬ (many < (n : Int)) := by omega
  rcases h0 with rfl | ⟨b0, o0, rfl, h0⟩
  · go_enter Try.func21, Try.ntmps21
    go_wp2
    go_loop [9] (fun i => i = .int .i64 0) (fun i => 0)
    case atStart => rfl
    case round =>
      subst hrel
      go_wp2
      go_ret
      exact ⟨rfl, rfl⟩
  rcases h1 with rfl | ⟨b1, o1, rfl, h1⟩
  · go_enter Try.func21, Try.ntmps21
    go_wp2
    go_loop [9] (fun i => i = .int .i64 0) (fun i => 0)
    case atStart => rfl
    case round =>
      subst hrel
      go_wp2
      go_ret
      exact ⟨rfl, rfl⟩
  have H := Lib.hid h
  have H0 := Lib.hid h0
  have H1 := Lib.hid h1
  clear h h0 h1
  go_enter Try.func21, Try.ntmps21
  go_wp2
  go_loop [9] (fun i => ∃ k : Nat, k ≤ n ∧ i = .int .i64 k) (fun i => n - (intOf i).toNat)
  case atStart => exact ⟨0, Nat.zero_le _, rfl⟩
  case round =>
    obtain ⟨k, hk, rfl⟩ := hrel
    by_cases hlt : k < n
    · obtain ⟨x1, x2⟩ := H0.out k hlt
      obtain ⟨y1, y2⟩ := H1.out k hlt
      obtain ⟨q1, q2, q3⟩ := H.out k hlt
      have fx := q1.1
      have fy := q2.1
      by_cases z1 : val (X k) = val 0
      · have z2 : ¬ val (Y k) = val 0 := fun h => q3 ⟨z1, h⟩
        have Z1 : decide (val (X k) = val 0) = true := decide_eq_true z1
        clear z1 q3
        go_wp2_with (go_at_call 35; refine (whole_yes _ _ M _ (by assumption) (by assumption) HM.out hM2).mono ?_; rintro e w' ⟨rfl, rfl⟩)
        go_round
        case rel => exact ⟨k + 1, by omega, by go_num⟩
        case measure => simp [intOf]; omega
      · clear q3
        go_wp2_with (go_at_call 35; refine (whole_yes _ _ M _ (by assumption) (by assumption) HM.out hM2).mono ?_; rintro e w' ⟨rfl, rfl⟩)
        go_round
        case rel => exact ⟨k + 1, by omega, by go_num⟩
        case measure => simp [intOf]; omega
    · go_wp2
      go_ret
      exact ⟨rfl, rfl⟩

set_option maxHeartbeats 400000 in
theorem allw_len (a0 a1 : Option Addr) (n0 n1 c0 c1 : Nat) (m : Nat) (many : Int) (w : World) (hl0 : n0 ≤ 9223372036854775807) (hl1 : n1 ≤ 9223372036854775807)
    (h : n0 ≠ n1 ∨ many < (n0 : Int)) :
    Calls Try.prog 21 #[.slice a0 n0 c0, .slice a1 n1 c1, .float .f64 m, .int .i64 many] w fun e w' => e = .returned (.bool false) ∧ w = w' := by
  by_cases he : n0 = n1
  · subst he
    have h2 : many < (n0 : Int) := by rcases h with h | h; exact absurd rfl h; exact h
    clear h
    go_enter Try.func21, Try.ntmps21
    go_wp2
    go_ret
    exact ⟨rfl, rfl⟩
  · clear h
    have he2 : ((n0 : Int) == (n1 : Int)) = false := by simp; omega
    have he3 : ((n0 : Int) != (n1 : Int)) = true := by simp; omega
    go_enter Try.func21, Try.ntmps21
    go_wp2
    go_ret
    exact ⟨rfl, rfl⟩

set_option maxHeartbeats 400000 in
theorem allw_no (a0 a1 : Option Addr) (n c0 c1 : Nat) (m : Nat) (many : Int) (M : Int) (X Y : Nat → Nat) (w : World)
    (h0 : FRow w a0 n X) (h1 : FRow w a1 n Y) (hm : fin m) (hM : val m = M) (hM2 : M ≤ 9007199254740992) (hn : (n : Int) ≤ many) (h : ¬ AllW X Y n M) :
    Calls Try.prog 21 #[.slice a0 n c0, .slice a1 n c1, .float .f64 m, .int .i64 many] w fun e w' => e = .returned (.bool false) ∧ w = w' := by
  obtain ⟨hl, h0⟩ := h0
  obtain ⟨_, h1⟩ := h1
  have f0 := fin_zero
  have HM := Lib.hid hM
  clear hM
  have hnn : ¬ (many < (n : Int)) := by omega
  rcases h0 with rfl | ⟨b0, o0, rfl, h0⟩
  · exact absurd (fun i hi => absurd hi (by omega)) h
  rcases h1 with rfl | ⟨b1, o1, rfl, h1⟩
  · exact absurd (fun i hi => absurd hi (by omega)) h
  have H := Lib.hid h
  have H0 := Lib.hid h0
  have H1 := Lib.hid h1
  clear h h0 h1
  go_enter Try.func21, Try.ntmps21
  go_wp2
  go_loop [9] (fun i => ∃ k : Nat, k ≤ n ∧ i = .int .i64 k ∧ AllW X Y k M) (fun i => n - (intOf i).toNat)
  case atStart => exact ⟨0, Nat.zero_le _, rfl, fun i hi => absurd hi (by omega)⟩
  case round =>
    obtain ⟨k, hk, rfl, hall⟩ := hrel
    have HALL := Lib.hid hall
    clear hall
    by_cases hlt : k < n
    · obtain ⟨x1, x2⟩ := H0.out k hlt
      obtain ⟨y1, y2⟩ := H1.out k hlt
      by_cases q1 : Whl (X k) M
      · by_cases q2 : Whl (Y k) M
        · have fx := q1.1
          have fy := q2.1
          by_cases z1 : val (X k) = val 0
          · have Z1 : decide (val (X k) = val 0) = true := decide_eq_true z1
            by_cases z2 : val (Y k) = val 0
            · have Z2 : decide (val (Y k) = val 0) = true := decide_eq_true z2
              clear z1 z2
              go_wp2_with (go_at_call 35; refine (whole_yes _ _ M _ (by assumption) (by assumption) HM.out hM2).mono ?_; rintro e w' ⟨rfl, rfl⟩)
              go_ret
              exact ⟨rfl, rfl⟩
            · clear z1
              have HN : Hid (AllW X Y (k + 1) M) := Lib.hid (fun i hi => by
                by_cases hi2 : i = k
                · rw [hi2]; exact ⟨q1, q2, fun h => z2 h.2⟩
                · exact HALL.out i (by omega))
              go_wp2_with (go_at_call 35; refine (whole_yes _ _ M _ (by assumption) (by assumption) HM.out hM2).mono ?_; rintro e w' ⟨rfl, rfl⟩)
              go_round
              case rel => exact ⟨k + 1, by omega, by go_num, HN.out⟩
              case measure => simp [intOf]; omega
          · have HN : Hid (AllW X Y (k + 1) M) := Lib.hid (fun i hi => by
              by_cases hi2 : i = k
              · rw [hi2]; exact ⟨q1, q2, fun h => z1 h.1⟩
              · exact HALL.out i (by omega))
            go_wp2_with (go_at_call 35; refine (whole_yes _ _ M _ (by assumption) (by assumption) HM.out hM2).mono ?_; rintro e w' ⟨rfl, rfl⟩)
            go_round
            case rel => exact ⟨k + 1, by omega, by go_num, HN.out⟩
            case measure => simp [intOf]; omega
        · go_wp2_with fail
          refine (whole_yes _ _ M _ q1 (by assumption) HM.out hM2).mono ?_
          rintro e w' ⟨rfl, rfl⟩
          go_wp2_with fail
          refine (whole_no _ _ M _ y1 q2 (by assumption) HM.out hM2).mono ?_
          rintro e w' ⟨rfl, rfl⟩
          go_wp2
          go_ret
          exact ⟨rfl, rfl⟩
      · go_wp2_with fail
        refine (whole_no _ _ M _ x1 q1 (by assumption) HM.out hM2).mono ?_
        rintro e w' ⟨rfl, rfl⟩
        go_wp2
        go_ret
        exact ⟨rfl, rfl⟩
    · have : k = n := by omega
      subst this
      exact absurd HALL.out H.out
end Go.Proofs.Ytigckpmeppddcaa
