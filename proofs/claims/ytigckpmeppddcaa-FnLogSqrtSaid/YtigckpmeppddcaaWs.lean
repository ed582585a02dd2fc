/- The contracts of the library's square roots and of impl.Sqrt: what they return, as functions of words. -/
import Derived.Test.YtigckpmeppddcaaWf
import Derived.Test.YtigckpmeppddcaaSqc
set_option linter.unusedVariables false
namespace Go.Proofs.Ytigckpmeppddcaa
open Go.RowKit Cx

theorem find66 : Extern.find Try.f66 = some Extern.MathSqrt.sqrt := by kernel_rfl
theorem next66 : Extern.findNext Try.f66 = none := by kernel_rfl
theorem name66 : (Try.f66.name == "runtime.NumGoroutine") = false := by kernel_rfl
theorem body66 : Try.f66.body.isNone = true := by kernel_rfl

theorem run_sqrt (x r : Nat) (h : Ieee.double.sqrt x = some r) (w : World) : (callFunc 66 #[.float .f64 x]).run Try.prog w = .ok (.value (.float .f64 r)) w := by
  rw [run_callFunc_extern Try.func66 name66 body66 next66 find66]
  have hq : FloatKind.f64.format.sqrt x = some r := h
  show ((Sem.run Try.prog (match FloatKind.f64.format.sqrt x with | some r => pure (Value.float .f64 r) | none => _) w).andThen _) = _
  rw [hq]
  rfl
/-- math.Sqrt. -/
theorem msqrt_any (x r : Nat) (w : World) (h : Ieee.double.sqrt x = some r) : Calls Try.prog 56 #[.float .f64 x] w fun e w' => e = .returned (.float .f64 r) ∧ w = w' := by
  have ha := fun w => run_sqrt x r h w
  go_enter Try.func56, Try.ntmps56
  go_wp2
  go_ret
  exact ⟨rfl, rfl⟩

set_option maxHeartbeats 1000000 in
theorem csqrt_real (x y : Nat) (Q : Rat) (w : World) (h : SqIn x y Q) (hy : val y = val 0) : Calls Try.prog 48 #[.complex .f64 x y] w fun e w' => e = .returned (.complex .f64 (cre x y) (cim x y)) ∧ w = w' := by
  have fx := h.fx
  have fy := h.fy
  have f0 := fin_zero
  have lx := fx.1
  have ly := fy.1
  have hx : ¬ val x = val 0 := fun hx => h.nz ⟨by rw [hx, val_zero], by rw [hy, val_zero]⟩
  have rx := h.rx.resolve_left (by rw [val_zero] at hx; exact hx)
  have Y := decide_eq_true hy
  by_cases hn : val x < val 0
  · obtain ⟨n1, n2, _⟩ := fneg_spec fx
    have hn0 : val x < 0 := by rw [val_zero] at hn; exact hn
    rw [ab_of_neg (Rat.le_of_lt hn0), ← n2] at rx
    obtain ⟨s1, s2, _⟩ := sqrt_ok n1 (Rat.le_trans (p2_mono (by decide)) rx.1) (Rat.le_trans rx.2 (p2_mono (by decide)))
    have ls := s2.1
    have e1 : Hid (cre x y = 0) := Lib.hid (by unfold cre; rw [if_pos hy, if_neg hx, if_pos hn])
    have e2 : Hid (cim x y = fcopy (fsqrt (fneg x)) y) := Lib.hid (by unfold cim; rw [if_pos hy, if_neg hx, if_pos hn])
    clear h hy rx hn0 n2
    go_enter Try.func48, Try.ntmps48
    go_wp2_with (first | (go_at_call 56; refine (msqrt_any _ _ _ s1).mono ?_; rintro e w' ⟨rfl, rfl⟩) | (go_at_call 55; refine (copysign_any _ _ _ ls ly).mono ?_; rintro e w' ⟨rfl, rfl⟩))
    go_ret
    exact ⟨by rw [e1.out, e2.out]; rfl, rfl⟩
  · have hp : 0 < val x := by rw [val_zero] at hn hx; grind
    rw [ab_of_nonneg (Rat.le_of_lt hp)] at rx
    obtain ⟨s1, s2, _⟩ := sqrt_ok fx (Rat.le_trans (p2_mono (by decide)) rx.1) (Rat.le_trans rx.2 (p2_mono (by decide)))
    have e1 : Hid (cre x y = fsqrt x) := Lib.hid (by unfold cre; rw [if_pos hy, if_neg hx, if_neg hn])
    have e2 : Hid (cim x y = y) := Lib.hid (by unfold cim; rw [if_pos hy, if_neg hx, if_neg hn])
    clear h hy rx hp
    go_enter Try.func48, Try.ntmps48
    go_wp2_with (first | (go_at_call 56; refine (msqrt_any _ _ _ s1).mono ?_; rintro e w' ⟨rfl, rfl⟩))
    go_ret
    exact ⟨by rw [e1.out, e2.out]; rfl, rfl⟩

set_option maxHeartbeats 1000000 in
theorem csqrt_imag (x y : Nat) (Q : Rat) (w : World) (h : SqIn x y Q) (hy : ¬ val y = val 0) (hx : val x = val 0) : Calls Try.prog 48 #[.complex .f64 x y] w fun e w' => e = .returned (.complex .f64 (cre x y) (cim x y)) ∧ w = w' := by
  have fx := h.fx
  have fy := h.fy
  have f0 := fin_zero
  have lx := fx.1
  have ly := fy.1
  have ry := h.ry.resolve_left (by rw [val_zero] at hy; exact hy)
  have X := decide_eq_true hx
  obtain ⟨ha, hb, hc, hd⟩ := half_ok fy ry
  have g1 := fin_wh
  have g2 := fin_wnh
  by_cases hn : val y < val 0
  · obtain ⟨u, v⟩ := ha (by rw [val_zero] at hn; exact hn)
    obtain ⟨s1, s2, _⟩ := sqrt_ok u (by rw [v]; exact hc) (by rw [v]; exact hd)
    have e1 : Hid (cre x y = fsqrt (fmul wnh y)) := Lib.hid (by unfold cre; rw [if_neg hy, if_pos hx, if_pos hn])
    have e2 : Hid (cim x y = fneg (fsqrt (fmul wnh y))) := Lib.hid (by unfold cim; rw [if_neg hy, if_pos hx, if_pos hn])
    clear h hx ry v ha hb hc hd
    unfold wnh wh at *
    go_enter Try.func48, Try.ntmps48
    go_wp2_with (first | (go_at_call 56; refine (msqrt_any _ _ _ s1).mono ?_; rintro e w' ⟨rfl, rfl⟩) | (go_at_call 51; refine (isinf_fin _ _ fy 0 (Or.inl rfl)).mono ?_; rintro e w' ⟨rfl, rfl⟩))
    go_ret
    exact ⟨by rw [e1.out, e2.out]; rfl, rfl⟩
  · have hp : 0 < val y := by rw [val_zero] at hn hy; grind
    obtain ⟨u, v⟩ := hb hp
    obtain ⟨s1, s2, _⟩ := sqrt_ok u (by rw [v]; exact hc) (by rw [v]; exact hd)
    have e1 : Hid (cre x y = fsqrt (fmul wh y)) := Lib.hid (by unfold cre; rw [if_neg hy, if_pos hx, if_neg hn])
    have e2 : Hid (cim x y = fsqrt (fmul wh y)) := Lib.hid (by unfold cim; rw [if_neg hy, if_pos hx, if_neg hn])
    clear h hx ry v ha hb hc hd hp
    unfold wnh wh at *
    go_enter Try.func48, Try.ntmps48
    go_wp2_with (first | (go_at_call 56; refine (msqrt_any _ _ _ s1).mono ?_; rintro e w' ⟨rfl, rfl⟩) | (go_at_call 51; refine (isinf_fin _ _ fy 0 (Or.inl rfl)).mono ?_; rintro e w' ⟨rfl, rfl⟩))
    go_ret
    exact ⟨by rw [e1.out, e2.out]; rfl, rfl⟩
end Go.Proofs.Ytigckpmeppddcaa
