/- The contracts of the tests on a float's kind: spec.infinite, math.IsInf, math.IsNaN, cmplx.IsInf, cmplx.IsNaN, sameFloat: for every word. -/
import Derived.Test.YtigckpmeppddcaaWf
set_option linter.unusedVariables false
namespace Go.Proofs.Ytigckpmeppddcaa
open Go.RowKit Cx

def infW (x : Nat) : Bool := x % 9223372036854775808 == 9218868437227405312
def nanW (x : Nat) : Bool := decide (9218868437227405312 < x % 9223372036854775808)

theorem wclass {x : Nat} (hl : x < 18446744073709551616) : (fin x ∧ infW x = false ∧ nanW x = false) ∨ (x = 9218868437227405312) ∨ (x = 18442240474082181120) ∨ (infW x = false ∧ nanW x = true ∧ ∀ y, FloatKind.f64.format.order x y = none) := by
  by_cases h1 : x % 9223372036854775808 < 9218868437227405312
  · left
    refine ⟨(fin_iff x hl).2 h1, ?_, ?_⟩
    · unfold infW; simp; omega
    · unfold nanW; simp; omega
  · right
    by_cases h2 : x % 9223372036854775808 = 9218868437227405312
    · rcases (show x = 9218868437227405312 ∨ x = 18442240474082181120 by omega) with h | h
      · exact Or.inl h
      · exact Or.inr (Or.inl h)
    · right; right
      refine ⟨?_, ?_, ?_⟩
      · unfold infW; simp; exact h2
      · unfold nanW; simp; omega
      · intro y
        have hr := read_eq x hl
        rw [if_neg (by omega), if_neg h1, if_neg h2] at hr
        show Ieee.double.order x y = _
        unfold Ieee.Format.order; rw [hr]; cases Ieee.double.read y <;> rfl

theorem fin_ngreat : fin 18442240474082181119 := fin_of _ (by decide)
theorem ge_ngreat {x : Nat} (h : fin x) : val 18442240474082181119 ≤ val x := by
  obtain ⟨n1, n2, _⟩ := fneg_spec h
  have := le_great n1
  rw [n2] at this
  have e : val 18442240474082181119 = -val 9218868437227405311 := by decide +kernel
  rw [e]; grind

theorem infinite_any (x : Nat) (w : World) (hl : x < 18446744073709551616) : Calls Try.prog 42 #[.float .f64 x] w fun e w' => e = .returned (.bool (infW x)) ∧ w = w' := by
  rcases wclass hl with ⟨h, hi, _⟩ | rfl | rfl | ⟨hi, _, ho⟩
  · have f1 := fin_great
    have f2 := fin_ngreat
    have c1 : ¬ val 9218868437227405311 < val x := by have := le_great h; grind
    have c2 : ¬ val x < val 18442240474082181119 := by have := ge_ngreat h; grind
    rw [hi]
    go_enter Try.func42, Try.ntmps42
    go_wp2
    go_ret
    exact ⟨rfl, rfl⟩
  · have e1 : FloatKind.f64.format.order 9218868437227405312 9218868437227405311 = some .gt := by decide
    go_enter Try.func42, Try.ntmps42
    go_wp2
    go_ret
    exact ⟨rfl, rfl⟩
  · have e1 : FloatKind.f64.format.order 18442240474082181120 9218868437227405311 = some .lt := by decide
    have e2 : FloatKind.f64.format.order 18442240474082181120 18442240474082181119 = some .lt := by decide
    go_enter Try.func42, Try.ntmps42
    go_wp2
    go_ret
    exact ⟨rfl, rfl⟩
  · have e1 := ho 9218868437227405311
    have e2 := ho 18442240474082181119
    rw [hi]
    clear ho
    go_enter Try.func42, Try.ntmps42
    go_wp2
    go_ret
    exact ⟨rfl, rfl⟩

theorem isinf_any (x : Nat) (w : World) (hl : x < 18446744073709551616) : Calls Try.prog 51 #[.float .f64 x, .int .i64 0] w fun e w' => e = .returned (.bool (infW x)) ∧ w = w' := by
  rcases wclass hl with ⟨h, hi, _⟩ | rfl | rfl | ⟨hi, hn, ho⟩
  · rw [hi]; exact isinf_fin x w h 0 (Or.inl rfl)
  · have e1 : FloatKind.f64.format.order (fabs 9218868437227405312) 9218868437227405311 = some .gt := by decide
    go_enter Try.func51, Try.ntmps51
    go_wp2_with (go_at_call 58; refine (mabs_any _ _ hl).mono ?_; rintro e w' ⟨rfl, rfl⟩)
    go_ret
    exact ⟨rfl, rfl⟩
  · have e1 : FloatKind.f64.format.order (fabs 18442240474082181120) 9218868437227405311 = some .gt := by decide
    go_enter Try.func51, Try.ntmps51
    go_wp2_with (go_at_call 58; refine (mabs_any _ _ hl).mono ?_; rintro e w' ⟨rfl, rfl⟩)
    go_ret
    exact ⟨rfl, rfl⟩
  · have e1 : FloatKind.f64.format.order (fabs x) 9218868437227405311 = none := by
      have hfl : fabs x < 18446744073709551616 := by unfold fabs; omega
      have hm : fabs x % 9223372036854775808 = x % 9223372036854775808 := by unfold fabs; omega
      rcases wclass hfl with ⟨h, _, hn2⟩ | h | h | ⟨_, _, ho2⟩
      · unfold nanW at hn hn2; rw [hm] at hn2; rw [hn] at hn2; cases hn2
      · unfold nanW at hn; simp at hn; rw [← hm, h] at hn; omega
      · unfold nanW at hn; simp at hn; rw [← hm, h] at hn; omega
      · exact ho2 _
    rw [hi]
    clear ho
    go_enter Try.func51, Try.ntmps51
    go_wp2_with (go_at_call 58; refine (mabs_any _ _ hl).mono ?_; rintro e w' ⟨rfl, rfl⟩)
    go_ret
    exact ⟨rfl, rfl⟩

theorem order_self {x : Nat} (hl : x < 18446744073709551616) (hn : nanW x = false) : FloatKind.f64.format.order x x = some .eq := by
  rcases wclass hl with ⟨h, hi, _⟩ | rfl | rfl | ⟨_, hn2, _⟩
  · show Ieee.double.order x x = _
    rw [order_fin h h, if_neg (by grind), if_pos rfl]
  · decide
  · decide
  · rw [hn] at hn2; cases hn2
theorem order_nan {x : Nat} (hl : x < 18446744073709551616) (hn : nanW x = true) (y : Nat) : FloatKind.f64.format.order x y = none := by
  rcases wclass hl with ⟨_, _, h⟩ | rfl | rfl | ⟨_, _, ho⟩
  · rw [hn] at h; cases h
  · cases hn
  · cases hn
  · exact ho y

theorem isnan_any (x : Nat) (w : World) (hl : x < 18446744073709551616) : Calls Try.prog 52 #[.float .f64 x] w fun e w' => e = .returned (.bool (nanW x)) ∧ w = w' := by
  cases hn : nanW x
  · have e1 := order_self hl hn
    go_enter Try.func52, Try.ntmps52
    go_wp2
    go_ret
    exact ⟨rfl, rfl⟩
  · have e1 := order_nan hl hn x
    go_enter Try.func52, Try.ntmps52
    go_wp2
    go_ret
    exact ⟨rfl, rfl⟩

theorem cisinf_any (x y : Nat) (w : World) (hx : x < 18446744073709551616) (hy : y < 18446744073709551616) : Calls Try.prog 43 #[.complex .f64 x y] w fun e w' => e = .returned (.bool (infW x || infW y)) ∧ w = w' := by
  cases h1 : infW x
  · cases h2 : infW y
    · go_enter Try.func43, Try.ntmps43
      go_wp2_with fail
      refine (isinf_any _ _ hx).mono ?_
      rintro e w' ⟨rfl, rfl⟩
      rw [h1]
      go_wp2_with fail
      refine (isinf_any _ _ hy).mono ?_
      rintro e w' ⟨rfl, rfl⟩
      rw [h2]
      go_wp2
      go_ret
      exact ⟨rfl, rfl⟩
    · go_enter Try.func43, Try.ntmps43
      go_wp2_with fail
      refine (isinf_any _ _ hx).mono ?_
      rintro e w' ⟨rfl, rfl⟩
      rw [h1]
      go_wp2_with fail
      refine (isinf_any _ _ hy).mono ?_
      rintro e w' ⟨rfl, rfl⟩
      rw [h2]
      go_wp2
      go_ret
      exact ⟨rfl, rfl⟩
  · go_enter Try.func43, Try.ntmps43
    go_wp2_with fail
    refine (isinf_any _ _ hx).mono ?_
    rintro e w' ⟨rfl, rfl⟩
    rw [h1]
    go_wp2
    go_ret
    exact ⟨rfl, rfl⟩
end Go.Proofs.Ytigckpmeppddcaa
