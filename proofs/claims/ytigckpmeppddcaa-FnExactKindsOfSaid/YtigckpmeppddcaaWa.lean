/- The laws by which a walk takes a float's operations: + - * / as total functions of the words, the comparisons as those of the values; the contracts of spec.Whole, spec.AllWhole. -/
import Derived.Test.YtigckpmeppddcaaFpe
import Derived.Test.YtigckpmeppddcaaRows
import Derived.WalkKit
import Derived.WalkSpells
import Derived.WalkLawsBesides
import Derived.Lib.Hide
set_option linter.unusedVariables false
namespace Go.Proofs.Ytigckpmeppddcaa
open Go.RowKit Cx

section
variable {P : Program} (w : World)
@[go_sem] theorem run_fadd (t : TypeId) (x y : Nat) (hx : fin x) (hy : fin y) : (binOp .add t (.float .f64 x) (.float .f64 y)).run P w = .ok (.float .f64 (fadd x y)) w :=
  run_float_arith w .add t .f64 x y _ (add_eq hx hy).1
@[go_sem] theorem run_fsub (t : TypeId) (x y : Nat) (hx : fin x) (hy : fin y) : (binOp .sub t (.float .f64 x) (.float .f64 y)).run P w = .ok (.float .f64 (fsub x y)) w :=
  run_float_arith w .sub t .f64 x y _ (sub_eq hx hy).1
@[go_sem] theorem run_fmul (t : TypeId) (x y : Nat) (hx : fin x) (hy : fin y) : (binOp .mul t (.float .f64 x) (.float .f64 y)).run P w = .ok (.float .f64 (fmul x y)) w :=
  run_float_arith w .mul t .f64 x y _ (mul_eq hx hy).1
@[go_sem] theorem run_fneg (x : Nat) : (Op.unary .neg (.float .f64 x)).run P w = .ok (.float .f64 (fneg x)) w := rfl
end
@[go_sem high] theorem fcmp_eql (t : TypeId) (a b : Nat) (ha : fin a) (hb : fin b) : binOp .eql t (.float .f64 a) (.float .f64 b) = pure (.bool (decide (val a = val b))) := by rw [binOp_float_cmp_eql, ord_eq ha hb]
@[go_sem high] theorem fcmp_neq (t : TypeId) (a b : Nat) (ha : fin a) (hb : fin b) : binOp .neq t (.float .f64 a) (.float .f64 b) = pure (.bool (decide (val a ≠ val b))) := by rw [binOp_float_cmp_neq, ord_ne ha hb]
@[go_sem high] theorem fcmp_lss (t : TypeId) (a b : Nat) (ha : fin a) (hb : fin b) : binOp .lss t (.float .f64 a) (.float .f64 b) = pure (.bool (decide (val a < val b))) := by rw [binOp_float_cmp_lss, ord_lt ha hb]
@[go_sem high] theorem fcmp_leq (t : TypeId) (a b : Nat) (ha : fin a) (hb : fin b) : binOp .leq t (.float .f64 a) (.float .f64 b) = pure (.bool (decide (val a ≤ val b))) := by rw [binOp_float_cmp_leq, ord_le ha hb]
@[go_sem high] theorem fcmp_gtr (t : TypeId) (a b : Nat) (ha : fin a) (hb : fin b) : binOp .gtr t (.float .f64 a) (.float .f64 b) = pure (.bool (decide (val b < val a))) := by rw [binOp_float_cmp_gtr, ord_gt ha hb]
@[go_sem high] theorem fcmp_geq (t : TypeId) (a b : Nat) (ha : fin a) (hb : fin b) : binOp .geq t (.float .f64 a) (.float .f64 b) = pure (.bool (decide (val b ≤ val a))) := by rw [binOp_float_cmp_geq, ord_ge ha hb]

/-- What spec.Whole asks: a finite number, whole, of at most M in size. -/
def Whl (x : Nat) (M : Int) : Prop := fin x ∧ ∃ n : Int, val x = n ∧ -M ≤ n ∧ n ≤ M

theorem bool_walk {b : Bool} {v : Bool} (h : b = v) : Ending.returned (.bool b) = .returned (.bool v) := by rw [h]

theorem order_notfin {x : Nat} (hx : ¬ fin x) (hl : x < 18446744073709551616) :
    (∀ y, FloatKind.f64.format.order x y = none) ∨ (∀ y, fin y → FloatKind.f64.format.order x y = some .gt) ∨ (∀ y, fin y → FloatKind.f64.format.order x y = some .lt) := by
  have hr := read_eq x hl
  have h1 : ¬ x % 9223372036854775808 < 9218868437227405312 := fun h => hx ((fin_iff x hl).2 h)
  rw [if_neg (by omega), if_neg h1] at hr
  by_cases h2 : x % 9223372036854775808 = 9218868437227405312
  · rw [if_pos h2] at hr
    by_cases hs : 9223372036854775808 ≤ x
    · right; right
      intro y hy
      obtain ⟨_, t, n, j, r2⟩ := hy
      show Ieee.double.order x y = _
      unfold Ieee.Format.order; rw [hr, r2]; simp [Ieee.Datum.order, hs]
    · right; left
      intro y hy
      obtain ⟨_, t, n, j, r2⟩ := hy
      show Ieee.double.order x y = _
      unfold Ieee.Format.order; rw [hr, r2]; simp [Ieee.Datum.order, hs]
  · rw [if_neg h2] at hr
    left
    intro y
    show Ieee.double.order x y = _
    unfold Ieee.Format.order; rw [hr]; cases Ieee.double.read y <;> rfl

theorem ab_le_of {x m : Nat} {M : Int} (hM : val m = M) (hM2 : M ≤ 9007199254740992) (c1 : -val m ≤ val x) (c2 : val x ≤ val m) : ab (val x) ≤ 4611686018427387904 := by
  rw [hM] at c1 c2
  have a1 : (M : Rat) ≤ ((9007199254740992 : Int) : Rat) := Rat.intCast_le_intCast.2 hM2
  have a2 : ((9007199254740992 : Int) : Rat) ≤ 4611686018427387904 := by decide +kernel
  rw [ab_le]; constructor <;> grind

theorem natAbs_le_of {k : Int} {x m : Nat} {M : Int} (hk : val x = k) (hM : val m = M) (hM2 : M ≤ 9007199254740992) (c1 : -val m ≤ val x) (c2 : val x ≤ val m) : k.natAbs ≤ 9007199254740992 := by
  rw [hM, hk] at c1 c2
  have b2 := Rat.intCast_le_intCast.1 c2
  rw [← Rat.intCast_neg] at c1
  have b1 := Rat.intCast_le_intCast.1 c1
  omega

theorem Whl.bound {x m : Nat} {M : Int} (h : Whl x M) (hM : val m = M) : -val m ≤ val x ∧ val x ≤ val m := by
  obtain ⟨hf, n, hn, h1, h2⟩ := h
  constructor
  · rw [hM, hn, ← Rat.intCast_neg]; exact Rat.intCast_le_intCast.2 h1
  · rw [hM, hn]; exact Rat.intCast_le_intCast.2 h2

/-- A word with its whole value. -/
theorem Whl.int {x : Nat} {M : Int} (h : Whl x M) : fin x ∧ ∃ n : Int, val x = n ∧ n.natAbs ≤ M.toNat := by
  obtain ⟨hf, n, hn, h1, h2⟩ := h
  exact ⟨hf, n, hn, by omega⟩

set_option maxHeartbeats 400000 in
theorem whole_yes (x m : Nat) (M : Int) (w : World) (hx : Whl x M) (hm : fin m) (hM : val m = M) (hM2 : M ≤ 9007199254740992) :
    Calls Try.prog 35 #[.float .f64 x, .float .f64 m] w fun e w' => e = .returned (.bool true) ∧ w = w' := by
  obtain ⟨b1, b2⟩ := hx.bound hM
  obtain ⟨hf, n, hn, h1, h2⟩ := hx
  have hnm := fneg_spec hm
  have f1 := hnm.1
  obtain ⟨k, hk1, hk2, hk3⟩ := toInt_spec hf (ab_le_of hM hM2 b1 b2)
  obtain rfl := hk3 n hn
  have hk4 := natAbs_le_of hn hM hM2 b1 b2
  obtain ⟨g1, g2⟩ := ofInt_spec k hk4
  have c1 : val (fneg m) ≤ val x := by rw [hnm.2.1]; exact b1
  have c3 : decide (val (floatOfInt .f64 k) = val x) = true := by rw [g2, hn]; simp
  have hcv : ∀ w, (convert 24 2 (.float .f64 x)).run Try.prog w = .ok (.int .i64 k) w := fun w => run_convert_float_int w 24 2 .f64 .i64 x k (by rw [Try.underlying24]; rfl) Try.underlying2 hk1
  clear hn h1 h2 hnm hk1 hk2 hk3 hk4 g2 hM hM2
  go_enter Try.func35, Try.ntmps35
  go_wp2
  go_ret
  exact ⟨rfl, rfl⟩

set_option maxHeartbeats 400000 in
theorem whole_no (x m : Nat) (M : Int) (w : World) (hl : x < 18446744073709551616) (hx : ¬ Whl x M) (hm : fin m) (hM : val m = M) (hM2 : M ≤ 9007199254740992) :
    Calls Try.prog 35 #[.float .f64 x, .float .f64 m] w fun e w' => e = .returned (.bool false) ∧ w = w' := by
  have hnm := fneg_spec hm
  have f1 := hnm.1
  by_cases hf : fin x
  · by_cases c1 : val (fneg m) ≤ val x
    · by_cases c2 : val x ≤ val m
      · have b1 : -val m ≤ val x := by rw [← hnm.2.1]; exact c1
        obtain ⟨k, hk1, hk2, hk3⟩ := toInt_spec hf (ab_le_of hM hM2 b1 c2)
        have hcv : ∀ w, (convert 24 2 (.float .f64 x)).run Try.prog w = .ok (.int .i64 k) w := fun w => run_convert_float_int w 24 2 .f64 .i64 x k (by rw [Try.underlying24]; rfl) Try.underlying2 hk1
        have hkb : k.natAbs ≤ 9007199254740992 := by
          have h1 : ab (val x) ≤ val m := by rw [ab_le]; constructor <;> grind
          have h2 : ((k.natAbs : Nat) : Rat) ≤ ((9007199254740992 : Int) : Rat) := by
            have := Rat.intCast_le_intCast.2 hM2
            rw [hM] at h1
            grind
          exact Rat.natCast_le_natCast.1 h2
        obtain ⟨g1, g2⟩ := ofInt_spec k hkb
        have c3 : decide (val (floatOfInt .f64 k) = val x) = false := by
          apply decide_eq_false
          intro he
          apply hx
          refine ⟨hf, k, by rw [← he, g2], ?_, ?_⟩
          · have : ((-M : Int) : Rat) ≤ (k : Rat) := by rw [Rat.intCast_neg, ← hM, ← g2, he]; exact b1
            exact Rat.intCast_le_intCast.1 this
          · have : (k : Rat) ≤ (M : Rat) := by rw [← hM, ← g2, he]; exact c2
            exact Rat.intCast_le_intCast.1 this
        clear hnm hk1 hk2 hk3 hkb g2 hM hM2 hx b1
        go_enter Try.func35, Try.ntmps35
        go_wp2
        go_ret
        exact ⟨rfl, rfl⟩
      · clear hnm hM hM2 hx
        go_enter Try.func35, Try.ntmps35
        go_wp2
        go_ret
        exact ⟨rfl, rfl⟩
    · clear hnm hM hM2 hx
      go_enter Try.func35, Try.ntmps35
      go_wp2
      go_ret
      exact ⟨rfl, rfl⟩
  · rcases order_notfin hf hl with h | h | h
    · have e1 := h (fneg m)
      have e2 := h m
      clear h hnm hM hM2 hx hf
      go_enter Try.func35, Try.ntmps35
      go_wp2
      go_ret
      exact ⟨rfl, rfl⟩
    · have e1 := h _ f1
      have e2 := h _ hm
      clear h hnm hM hM2 hx hf
      go_enter Try.func35, Try.ntmps35
      go_wp2
      go_ret
      exact ⟨rfl, rfl⟩
    · have e1 := h _ f1
      have e2 := h _ hm
      clear h hnm hM hM2 hx hf
      go_enter Try.func35, Try.ntmps35
      go_wp2
      go_ret
      exact ⟨rfl, rfl⟩
end Go.Proofs.Ytigckpmeppddcaa
