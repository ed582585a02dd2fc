/- The contracts of the library's small functions on a float's bits: Float64bits, Float64frombits, Abs, Copysign, Signbit, IsNaN, IsInf. -/
import Derived.Test.YtigckpmeppddcaaWd
import Derived.Test.YtigckpmeppddcaaAtc
import Derived.Laws.Bits64
set_option linter.unusedVariables false
namespace Go.Proofs.Ytigckpmeppddcaa
open Go.RowKit Cx

theorem find65 : Extern.find Try.f65 = some Extern.MathFloatBits.float64bits := by kernel_rfl
theorem next65 : Extern.findNext Try.f65 = none := by kernel_rfl
theorem name65 : (Try.f65.name == "runtime.NumGoroutine") = false := by kernel_rfl
theorem body65 : Try.f65.body.isNone = true := by kernel_rfl
theorem find64 : Extern.find Try.f64 = some Extern.MathFloatBits.float64frombits := by kernel_rfl
theorem next64 : Extern.findNext Try.f64 = none := by kernel_rfl
theorem name64 : (Try.f64.name == "runtime.NumGoroutine") = false := by kernel_rfl
theorem body64 : Try.f64.body.isNone = true := by kernel_rfl

theorem run_bits (x : Nat) (w : World) : (callFunc 65 #[.float .f64 x]).run Try.prog w = .ok (.value (.int .u64 (x : Int))) w := by
  rw [run_callFunc_extern Try.func65 name65 body65 next65 find65]; rfl
theorem run_frombits (n : Int) (w : World) : (callFunc 64 #[.int .u64 n]).run Try.prog w = .ok (.value (.float .f64 n.toNat)) w := by
  rw [run_callFunc_extern Try.func64 name64 body64 next64 find64]; rfl

theorem bits_andNot_top (x : Nat) (h : x < 18446744073709551616) : bits .andNot .u64 (x : Int) 9223372036854775808 = ((fabs x : Nat) : Int) := by
  show IntKind.u64.wrap (((BitVec.ofInt 64 (x : Int) &&& ~~~BitVec.ofInt 64 9223372036854775808).toNat : Nat) : Int) = _
  rw [IntKind.wrap_u64]
  unfold fabs
  have e1 : (BitVec.ofInt 64 (x : Int) &&& ~~~BitVec.ofInt 64 9223372036854775808).toNat = x % 9223372036854775808 := by
    rw [BitVec.toNat_and, BitVec.ofInt_natCast, BitVec.toNat_ofNat, Nat.mod_eq_of_lt h]
    have e2 : (~~~BitVec.ofInt 64 9223372036854775808).toNat = 2 ^ 63 - 1 := by decide
    rw [e2, Nat.and_two_pow_sub_one_eq_mod]
  rw [e1]
  omega

theorem bits_and_top (x : Nat) (h : x < 18446744073709551616) : bits .and .u64 (x : Int) 9223372036854775808 = ((x / 9223372036854775808 * 9223372036854775808 : Nat) : Int) := by
  show IntKind.u64.wrap (((BitVec.ofInt 64 (x : Int) &&& BitVec.ofInt 64 9223372036854775808).toNat : Nat) : Int) = _
  rw [IntKind.wrap_u64]
  have e1 : (BitVec.ofInt 64 (x : Int) &&& BitVec.ofInt 64 9223372036854775808).toNat = x / 9223372036854775808 * 9223372036854775808 := by
    rw [BitVec.toNat_and, BitVec.ofInt_natCast, BitVec.toNat_ofNat, Nat.mod_eq_of_lt h]
    have e2 : (BitVec.ofInt 64 9223372036854775808).toNat = 2 ^ 63 := by decide
    rw [e2]
    have hb : x.testBit 63 = decide (x / 2 ^ 63 % 2 = 1) := Nat.testBit_eq_decide_div_mod_eq
    apply Nat.eq_of_testBit_eq
    intro i
    rw [Nat.testBit_and, Nat.testBit_two_pow]
    by_cases hx : 9223372036854775808 ≤ x
    · have e : x / 9223372036854775808 * 9223372036854775808 = 2 ^ 63 := by omega
      rw [e, Nat.testBit_two_pow]
      by_cases hi : 63 = i
      · subst hi
        rw [hb]
        simp; omega
      · simp [hi]
    · have e : x / 9223372036854775808 * 9223372036854775808 = 0 := by omega
      rw [e, Nat.zero_testBit]
      by_cases hi : 63 = i
      · subst hi
        rw [hb]
        simp; omega
      · simp [hi]
  rw [e1]
  omega

theorem bits_or_top (a s : Nat) (ha : a < 9223372036854775808) (hs : s < 2) : bits .or .u64 (a : Int) ((s * 9223372036854775808 : Nat) : Int) = ((a + s * 9223372036854775808 : Nat) : Int) := by
  show IntKind.u64.wrap (((BitVec.ofInt 64 (a : Int) ||| BitVec.ofInt 64 ((s * 9223372036854775808 : Nat) : Int)).toNat : Nat) : Int) = _
  rw [IntKind.wrap_u64]
  have e1 : (BitVec.ofInt 64 (a : Int) ||| BitVec.ofInt 64 ((s * 9223372036854775808 : Nat) : Int)).toNat = a + s * 9223372036854775808 := by
    rw [BitVec.toNat_or, BitVec.ofInt_natCast, BitVec.toNat_ofNat, BitVec.ofInt_natCast, BitVec.toNat_ofNat, Nat.mod_eq_of_lt (by omega), Nat.mod_eq_of_lt (by omega)]
    have := Nat.two_pow_add_eq_or_of_lt (i := 63) (b := a) (by omega) s
    rw [Nat.or_comm, Nat.mul_comm s]
    rw [show (9223372036854775808 : Nat) = 2 ^ 63 from rfl, ← this, Nat.add_comm]
  rw [e1]
  omega

theorem mabs_any (x : Nat) (w : World) (h : x < 18446744073709551616) : Calls Try.prog 58 #[.float .f64 x] w fun e w' => e = .returned (.float .f64 (fabs x)) ∧ w = w' := by
  have h1 := run_bits x
  have h2 := run_frombits
  have h3 := bits_andNot_top x h
  go_enter Try.func58, Try.ntmps58
  go_wp2
  go_ret
  exact ⟨rfl, rfl⟩

theorem copysign_any (f s : Nat) (w : World) (hf : f < 18446744073709551616) (hs : s < 18446744073709551616) : Calls Try.prog 55 #[.float .f64 f, .float .f64 s] w fun e w' => e = .returned (.float .f64 (fcopy f s)) ∧ w = w' := by
  have h1 := run_bits f
  have h2 := run_bits s
  have h3 := run_frombits
  have h4 := bits_andNot_top f hf
  have h5 : bits .and .u64 (s : Int) 9223372036854775808 = (s : Int) / 9223372036854775808 * 9223372036854775808 := by rw [bits_and_top s hs]; omega
  have h6 : bits .or .u64 ((fabs f : Nat) : Int) ((s : Int) / 9223372036854775808 * 9223372036854775808) = ((fcopy f s : Nat) : Int) := by
    have := bits_or_top (fabs f) (s / 9223372036854775808) (by unfold fabs; omega) (by omega)
    unfold fcopy
    rw [← this]
    congr 1
  go_enter Try.func55, Try.ntmps55
  go_wp2
  go_ret
  exact ⟨rfl, rfl⟩

theorem signbit_any (x : Nat) (w : World) (h : x < 18446744073709551616) : Calls Try.prog 70 #[.float .f64 x] w fun e w' => e = .returned (.bool (Cx.neg x)) ∧ w = w' := by
  have h1 := run_bits x
  have h3 : decide (wrap64 (x : Int) < 0) = Cx.neg x := by
    rw [neg_eq h]
    unfold wrap64
    by_cases hx : 9223372036854775808 ≤ x
    · rw [decide_eq_true hx]
      apply decide_eq_true
      omega
    · rw [decide_eq_false hx]
      apply decide_eq_false
      omega
  have H3 := Lib.hid h3
  clear h3
  go_enter Try.func70, Try.ntmps70
  go_wp2
  go_ret
  exact ⟨by rw [← H3.out]; rfl, rfl⟩
theorem isnan_fin (x : Nat) (w : World) (h : fin x) : Calls Try.prog 52 #[.float .f64 x] w fun e w' => e = .returned (.bool false) ∧ w = w' := by
  go_enter Try.func52, Try.ntmps52
  go_wp2
  go_ret
  exact ⟨rfl, rfl⟩
/-- The greatest finite number. -/
theorem fin_great : fin 9218868437227405311 := fin_of _ (by decide)
theorem val_great : val 9218868437227405311 = ((9007199254740991 : Nat) : Rat) * Cx.p2 971 := by decide +kernel
theorem le_great {x : Nat} (h : fin x) : val x ≤ val 9218868437227405311 := by
  have hf := (fin_iff x h.1).1 h
  rw [val_great]
  unfold val
  rw [read_eq x h.1]
  have key : ∀ (s : Bool) (m : Nat) (p : Int), m ≤ 9007199254740991 → p ≤ 971 → mval s m p ≤ ((9007199254740991 : Nat) : Rat) * Cx.p2 971 := by
    intro s m p hm hp
    have h1 := le_ab (mval s m p)
    rw [ab_mval] at h1
    have h2 := mul_le_mul_nn (Rat.natCast_le_natCast.2 hm) (p2_mono hp) Rat.natCast_nonneg (Rat.le_of_lt (p2_pos 971))
    exact Rat.le_trans h1 h2
  split
  · exact key _ _ _ (by omega) (by decide)
  · exact key _ _ _ (by omega) (by omega)
theorem isinf_fin (x : Nat) (w : World) (h : fin x) (s : Int) (hs : s = 0 ∨ s = 1) : Calls Try.prog 51 #[.float .f64 x, .int .i64 s] w fun e w' => e = .returned (.bool false) ∧ w = w' := by
  have hl := h.1
  have fa := (fabs_spec h).1
  have c1 : ¬ val 9218868437227405311 < val (fabs x) := by have := le_great fa; grind
  have c2 : ¬ val 9218868437227405311 < val x := by have := le_great h; grind
  have fg := fin_great
  rcases hs with rfl | rfl
  · go_enter Try.func51, Try.ntmps51
    go_wp2_with (go_at_call 58; refine (mabs_any _ _ hl).mono ?_; rintro e w' ⟨rfl, rfl⟩)
    go_ret
    exact ⟨rfl, rfl⟩
  · go_enter Try.func51, Try.ntmps51
    go_wp2
    go_ret
    exact ⟨rfl, rfl⟩
end Go.Proofs.Ytigckpmeppddcaa
