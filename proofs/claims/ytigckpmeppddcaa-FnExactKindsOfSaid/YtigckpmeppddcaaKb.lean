/- The contracts of cmplx.IsNaN and of sameFloat (of a word with itself): for every word. -/
import Derived.Test.YtigckpmeppddcaaKa
set_option linter.unusedVariables false
namespace Go.Proofs.Ytigckpmeppddcaa
open Go.RowKit Cx

theorem cisnan_inf1 (x y : Nat) (w : World) (hx : x < 18446744073709551616) (hy : y < 18446744073709551616) (h1 : infW x = true) : Calls Try.prog 44 #[.complex .f64 x y] w fun e w' => e = .returned (.bool false) ∧ w = w' := by
  go_enter Try.func44, Try.ntmps44
  go_wp2_with fail
  refine (isinf_any _ _ hx).mono ?_
  rintro e w' ⟨rfl, rfl⟩
  rw [h1]
  go_wp2
  go_ret
  exact ⟨rfl, rfl⟩
theorem cisnan_inf2 (x y : Nat) (w : World) (hx : x < 18446744073709551616) (hy : y < 18446744073709551616) (h1 : infW x = false) (h2 : infW y = true) : Calls Try.prog 44 #[.complex .f64 x y] w fun e w' => e = .returned (.bool false) ∧ w = w' := by
  go_enter Try.func44, Try.ntmps44
  go_wp2_with fail
  refine (isinf_any _ _ hx).mono ?_
  rintro e w' ⟨rfl, rfl⟩
  rw [h1]
  go_wp2_with fail
  refine (isinf_any _ _ hy).mono ?_
  rintro e w' ⟨rfl, rfl⟩
  rw [h2]
  go_wp2
  go_ret
  exact ⟨rfl, rfl⟩
theorem cisnan_nan1 (x y : Nat) (w : World) (hx : x < 18446744073709551616) (hy : y < 18446744073709551616) (h1 : infW x = false) (h2 : infW y = false) (h3 : nanW x = true) : Calls Try.prog 44 #[.complex .f64 x y] w fun e w' => e = .returned (.bool true) ∧ w = w' := by
  go_enter Try.func44, Try.ntmps44
  go_wp2_with fail
  refine (isinf_any _ _ hx).mono ?_
  rintro e w' ⟨rfl, rfl⟩
  rw [h1]
  go_wp2_with fail
  refine (isinf_any _ _ hy).mono ?_
  rintro e w' ⟨rfl, rfl⟩
  rw [h2]
  go_wp2_with fail
  refine (isnan_any _ _ hx).mono ?_
  rintro e w' ⟨rfl, rfl⟩
  rw [h3]
  go_wp2
  go_ret
  exact ⟨rfl, rfl⟩
theorem cisnan_nan2 (x y : Nat) (w : World) (hx : x < 18446744073709551616) (hy : y < 18446744073709551616) (h1 : infW x = false) (h2 : infW y = false) (h3 : nanW x = false) (b : Bool) (h4 : nanW y = b) : Calls Try.prog 44 #[.complex .f64 x y] w fun e w' => e = .returned (.bool b) ∧ w = w' := by
  cases b
  all_goals
    go_enter Try.func44, Try.ntmps44
    go_wp2_with fail
    refine (isinf_any _ _ hx).mono ?_
    rintro e w' ⟨rfl, rfl⟩
    rw [h1]
    go_wp2_with fail
    refine (isinf_any _ _ hy).mono ?_
    rintro e w' ⟨rfl, rfl⟩
    rw [h2]
    go_wp2_with fail
    refine (isnan_any _ _ hx).mono ?_
    rintro e w' ⟨rfl, rfl⟩
    rw [h3]
    go_wp2_with fail
    refine (isnan_any _ _ hy).mono ?_
    rintro e w' ⟨rfl, rfl⟩
    rw [h4]
    go_wp2
    go_ret
    exact ⟨rfl, rfl⟩
theorem cisnan_any (x y : Nat) (w : World) (hx : x < 18446744073709551616) (hy : y < 18446744073709551616) : Calls Try.prog 44 #[.complex .f64 x y] w fun e w' => e = .returned (.bool (!(infW x || infW y) && (nanW x || nanW y))) ∧ w = w' := by
  cases h1 : infW x
  · cases h2 : infW y
    · cases h3 : nanW x
      · cases h4 : nanW y
        · exact cisnan_nan2 x y w hx hy h1 h2 h3 _ h4
        · exact cisnan_nan2 x y w hx hy h1 h2 h3 _ h4
      · exact cisnan_nan1 x y w hx hy h1 h2 h3
    · exact cisnan_inf2 x y w hx hy h1 h2
  · exact cisnan_inf1 x y w hx hy h1

theorem same_any (x : Nat) (w : World) (hl : x < 18446744073709551616) : Calls Try.prog 45 #[.float .f64 x, .float .f64 x] w fun e w' => e = .returned (.bool true) ∧ w = w' := by
  have f0 := fin_zero
  rcases wclass hl with ⟨h, _, _⟩ | rfl | rfl | ⟨_, hn, ho⟩
  · by_cases hz : val x = val 0
    · have hw := zero_word h (by rw [hz, val_zero])
      rcases (show x = 0 ∨ x = 9223372036854775808 by omega) with rfl | rfl
      · have hd := fun t w => run_fdiv (P := Try.prog) w t 4607182418800017408 0 9218868437227405312 (by decide)
        have e1 : FloatKind.f64.format.order 9218868437227405312 0 = some .gt := by decide
        clear hz
        go_enter Try.func45, Try.ntmps45
        go_wp2
        go_ret
        exact ⟨rfl, rfl⟩
      · have hd := fun t w => run_fdiv (P := Try.prog) w t 4607182418800017408 9223372036854775808 18442240474082181120 (by decide)
        have e1 : FloatKind.f64.format.order 18442240474082181120 0 = some .lt := by decide
        have Z := decide_eq_true hz
        clear hz
        go_enter Try.func45, Try.ntmps45
        go_wp2
        go_ret
        exact ⟨rfl, rfl⟩
    · go_enter Try.func45, Try.ntmps45
      go_wp2
      go_ret
      exact ⟨rfl, rfl⟩
  · have e1 : FloatKind.f64.format.order 9218868437227405312 9218868437227405312 = some .eq := by decide
    have e2 : FloatKind.f64.format.order 9218868437227405312 0 = some .gt := by decide
    go_enter Try.func45, Try.ntmps45
    go_wp2
    go_ret
    exact ⟨rfl, rfl⟩
  · have e1 : FloatKind.f64.format.order 18442240474082181120 18442240474082181120 = some .eq := by decide
    have e2 : FloatKind.f64.format.order 18442240474082181120 0 = some .lt := by decide
    go_enter Try.func45, Try.ntmps45
    go_wp2
    go_ret
    exact ⟨rfl, rfl⟩
  · have e1 := ho x
    clear ho
    go_enter Try.func45, Try.ntmps45
    go_wp2
    go_ret
    exact ⟨rfl, rfl⟩
end Go.Proofs.Ytigckpmeppddcaa
