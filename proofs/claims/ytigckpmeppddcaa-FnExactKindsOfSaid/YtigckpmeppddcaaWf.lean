/- The contracts of the library's arctangents and of impl.Phase: what they return, as functions of words. -/
import Derived.Test.YtigckpmeppddcaaWe
set_option linter.unusedVariables false
namespace Go.Proofs.Ytigckpmeppddcaa
open Go.RowKit Cx

section
variable {P : Program} (w : World)
theorem run_fdiv (t : TypeId) (x y r : Nat) (h : Ieee.double.div x y = some r) : (binOp .quo t (.float .f64 x) (.float .f64 y)).run P w = .ok (.float .f64 r) w :=
  run_float_arith w .quo t .f64 x y _ h
end

set_option maxHeartbeats 1000000 in
theorem xatan_any (x : Nat) (w : World) (hx : fin x) (h : XatFin x) : Calls Try.prog 79 #[.float .f64 x] w fun e w' => e = .returned (.float .f64 (xat x)) ∧ w = w' := by
  have hd := fun t w => run_fdiv (P := Try.prog) w t _ _ _ h.dv
  obtain ⟨f0, f1, f2, f3, f4, f5, f6, f7, f8, f9, f10, f11, f12, f13, f14, f15, f16, f17, f18, f19, f20, f21, _⟩ := h
  have p0 := trP0.f
  have p1 := trP1.f
  have p2 := trP2.f
  have p3 := trP3.f
  have p4 := trP4.f
  have q0 := trQ0.f
  have q1 := trQ1.f
  have q2 := trQ2.f
  have q3 := trQ3.f
  have q4 := trQ4.f
  unfold xat
  unfold xo xs xr xd8 xd7 xd6 xd5 xd4 xd3 xd2 xd1 xd0 xn8 xn7 xn6 xn5 xn4 xn3 xn2 xn1 xn0 xz wP0 wP1 wP2 wP3 wP4 wQ0 wQ1 wQ2 wQ3 wQ4 at *
  go_enter Try.func79, Try.ntmps79
  go_wp2
  go_ret
  exact ⟨rfl, rfl⟩

set_option maxHeartbeats 1000000 in
theorem satan_any (x : Nat) (w : World) (hx : fin x) (h : SatFin x) : Calls Try.prog 77 #[.float .f64 x] w fun e w' => e = .returned (.float .f64 (swat x)) ∧ w = w' := by
  have g1 := fin_c66
  have g2 := fin_c24
  have g3 := fin_one
  have g4 := fin_pio2
  have g5 := fin_pio4
  have g6 := fin_more
  have g7 := fin_more2
  by_cases h1 : val x ≤ val c66
  · have F := h.c1 h1
    have e : Hid (swat x = xat x) := Lib.hid (by unfold swat; rw [if_pos h1])
    unfold c66 c24 Cx.one wpio2 wpio4 wmore wmore2 at *
    clear h
    go_enter Try.func77, Try.ntmps77
    go_wp2_with (go_at_call 79; refine (xatan_any _ _ hx F).mono ?_; rintro e w' ⟨rfl, rfl⟩)
    go_ret
    exact ⟨by rw [e.out]; rfl, rfl⟩
  · by_cases h2 : val c24 < val x
    · obtain ⟨d1, d2, F, d3⟩ := h.c2 h1 h2
      have e : Hid (swat x = fadd (fsub wpio2 (xat (sb x))) wmore) := Lib.hid (by unfold swat; rw [if_neg h1, if_pos h2])
      have hd := fun t w => run_fdiv (P := Try.prog) w t _ _ _ d1
      have fo := F.out
      unfold c66 c24 Cx.one wpio2 wpio4 wmore wmore2 at *
      clear h
      go_enter Try.func77, Try.ntmps77
      go_wp2_with (go_at_call 79; refine (xatan_any _ _ d2 F).mono ?_; rintro e w' ⟨rfl, rfl⟩)
      go_ret
      exact ⟨by rw [e.out]; rfl, rfl⟩
    · obtain ⟨d1, d2, d3, d4, F, d5⟩ := h.c3 h1 h2
      have e : Hid (swat x = fadd (fadd wpio4 (xat (sc x))) wmore2) := Lib.hid (by unfold swat; rw [if_neg h1, if_neg h2])
      have hd := fun t w => run_fdiv (P := Try.prog) w t _ _ _ d3
      have fo := F.out
      unfold c66 c24 Cx.one wpio2 wpio4 wmore wmore2 at *
      clear h
      go_enter Try.func77, Try.ntmps77
      go_wp2_with (go_at_call 79; refine (xatan_any _ _ d4 F).mono ?_; rintro e w' ⟨rfl, rfl⟩)
      go_ret
      exact ⟨by rw [e.out]; rfl, rfl⟩

theorem atan_any (x : Nat) (w : World) (hx : fin x) (h : AtIs x) : Calls Try.prog 74 #[.float .f64 x] w fun e w' => e = .returned (.float .f64 (atw x)) ∧ w = w' := by
  have f0 := fin_zero
  have h0 := h.nz
  by_cases h1 : val 0 < val x
  · obtain ⟨F, f⟩ := h.pos h1
    have e : Hid (atw x = swat x) := Lib.hid (by unfold atw; rw [if_neg h0, if_pos h1])
    clear h
    go_enter Try.func74, Try.ntmps74
    go_wp2_with (go_at_call 77; refine (satan_any _ _ hx F).mono ?_; rintro e w' ⟨rfl, rfl⟩)
    go_ret
    exact ⟨by rw [e.out]; rfl, rfl⟩
  · obtain ⟨n, F, f⟩ := h.ngf h1
    have e : Hid (atw x = fneg (swat (fneg x))) := Lib.hid (by unfold atw; rw [if_neg h0, if_neg h1])
    clear h
    go_enter Try.func74, Try.ntmps74
    go_wp2_with (go_at_call 77; refine (satan_any _ _ n F).mono ?_; rintro e w' ⟨rfl, rfl⟩)
    go_ret
    exact ⟨by rw [e.out]; rfl, rfl⟩

theorem Atan_any (x : Nat) (w : World) (hx : fin x) (h : AtIs x) : Calls Try.prog 71 #[.float .f64 x] w fun e w' => e = .returned (.float .f64 (atw x)) ∧ w = w' := by
  go_enter Try.func71, Try.ntmps71
  go_wp2_with (go_at_call 74; refine (atan_any _ _ hx h).mono ?_; rintro e w' ⟨rfl, rfl⟩)
  go_ret
  exact ⟨rfl, rfl⟩

set_option maxHeartbeats 1000000 in
theorem atan2_any (x y : Nat) (w : World) (h : PhOk x y) : Calls Try.prog 63 #[.float .f64 y, .float .f64 x] w fun e w' => e = .returned (.float .f64 (phw x y)) ∧ w = w' := by
  have fx := h.fx
  have fy := h.fy
  have f0 := fin_zero
  have fp := fin_pi
  have lx := fx.1
  have ly := fy.1
  by_cases hy : val y = val 0
  · have hx : ¬ val x = val 0 := fun hx => h.nz ⟨hx, hy⟩
    have Y := decide_eq_true hy
    by_cases hc : val 0 ≤ val x
    · have hp : 0 < val x := by rw [val_zero] at hc hx; grind
      have hn := neg_of_pos fx hp
      have e : Hid (phw x y = fcopy 0 y) := Lib.hid (by unfold phw; rw [if_pos hy, if_pos ⟨hc, hn⟩])
      clear h hy hp
      go_enter Try.func63, Try.ntmps63
      go_wp2_with (first | (go_at_call 52; refine (isnan_fin _ _ (by assumption)).mono ?_; rintro e w' ⟨rfl, rfl⟩) | (go_at_call 70; refine (signbit_any _ _ lx).mono ?_; rintro e w' ⟨rfl, rfl⟩) | (go_at_call 55; refine (copysign_any _ _ _ (by decide) ly).mono ?_; rintro e w' ⟨rfl, rfl⟩))
      go_ret
      exact ⟨by rw [e.out]; rfl, rfl⟩
    · have e : Hid (phw x y = fcopy wpi y) := Lib.hid (by unfold phw; rw [if_pos hy, if_neg (fun hh => hc hh.1)])
      unfold wpi at *
      clear h hy
      go_enter Try.func63, Try.ntmps63
      go_wp2_with (first | (go_at_call 52; refine (isnan_fin _ _ (by assumption)).mono ?_; rintro e w' ⟨rfl, rfl⟩) | (go_at_call 55; refine (copysign_any _ _ _ (by decide) ly).mono ?_; rintro e w' ⟨rfl, rfl⟩))
      go_ret
      exact ⟨by rw [e.out]; rfl, rfl⟩
  · by_cases hx : val x = val 0
    · have X := decide_eq_true hx
      have e : Hid (phw x y = fcopy wpio2 y) := Lib.hid (by unfold phw; rw [if_neg hy, if_pos hx])
      unfold wpio2 at *
      clear h hx
      go_enter Try.func63, Try.ntmps63
      go_wp2_with (first | (go_at_call 52; refine (isnan_fin _ _ (by assumption)).mono ?_; rintro e w' ⟨rfl, rfl⟩) | (go_at_call 55; refine (copysign_any _ _ _ (by decide) ly).mono ?_; rintro e w' ⟨rfl, rfl⟩))
      go_ret
      exact ⟨by rw [e.out]; rfl, rfl⟩
    · obtain ⟨q1, q2, A, _⟩ := ph_quot h hx hy
      have hd := fun t w => run_fdiv (P := Try.prog) w t _ _ _ q1
      have fa := A.f
      by_cases hc : val x < val 0
      · by_cases hq : val (atw (fdiv y x)) ≤ val 0
        · have e : Hid (phw x y = fadd (atw (fdiv y x)) wpi) := Lib.hid (by unfold phw; rw [if_neg hy, if_neg hx, if_pos hc, if_pos hq])
          unfold wpi at *
          clear h
          go_enter Try.func63, Try.ntmps63
          go_wp2_with (first | (go_at_call 52; refine (isnan_fin _ _ (by assumption)).mono ?_; rintro e w' ⟨rfl, rfl⟩) | (go_at_call 51; refine (isinf_fin _ _ (by assumption) 0 (Or.inl rfl)).mono ?_; rintro e w' ⟨rfl, rfl⟩) | (go_at_call 71; refine (Atan_any _ _ q2 A).mono ?_; rintro e w' ⟨rfl, rfl⟩))
          go_ret
          exact ⟨by rw [e.out]; rfl, rfl⟩
        · have e : Hid (phw x y = fsub (atw (fdiv y x)) wpi) := Lib.hid (by unfold phw; rw [if_neg hy, if_neg hx, if_pos hc, if_neg hq])
          unfold wpi at *
          clear h
          go_enter Try.func63, Try.ntmps63
          go_wp2_with (first | (go_at_call 52; refine (isnan_fin _ _ (by assumption)).mono ?_; rintro e w' ⟨rfl, rfl⟩) | (go_at_call 51; refine (isinf_fin _ _ (by assumption) 0 (Or.inl rfl)).mono ?_; rintro e w' ⟨rfl, rfl⟩) | (go_at_call 71; refine (Atan_any _ _ q2 A).mono ?_; rintro e w' ⟨rfl, rfl⟩))
          go_ret
          exact ⟨by rw [e.out]; rfl, rfl⟩
      · have e : Hid (phw x y = atw (fdiv y x)) := Lib.hid (by unfold phw; rw [if_neg hy, if_neg hx, if_neg hc])
        clear h
        go_enter Try.func63, Try.ntmps63
        go_wp2_with (first | (go_at_call 52; refine (isnan_fin _ _ (by assumption)).mono ?_; rintro e w' ⟨rfl, rfl⟩) | (go_at_call 51; refine (isinf_fin _ _ (by assumption) 0 (Or.inl rfl)).mono ?_; rintro e w' ⟨rfl, rfl⟩) | (go_at_call 71; refine (Atan_any _ _ q2 A).mono ?_; rintro e w' ⟨rfl, rfl⟩))
        go_ret
        exact ⟨by rw [e.out]; rfl, rfl⟩

theorem Atan2_any (x y : Nat) (w : World) (h : PhOk x y) : Calls Try.prog 54 #[.float .f64 y, .float .f64 x] w fun e w' => e = .returned (.float .f64 (phw x y)) ∧ w = w' := by
  go_enter Try.func54, Try.ntmps54
  go_wp2_with (go_at_call 63; refine (atan2_any _ _ _ h).mono ?_; rintro e w' ⟨rfl, rfl⟩)
  go_ret
  exact ⟨rfl, rfl⟩
/-- cmplx.Phase. -/
theorem cphase_any (x y : Nat) (w : World) (h : PhOk x y) : Calls Try.prog 47 #[.complex .f64 x y] w fun e w' => e = .returned (.float .f64 (phw x y)) ∧ w = w' := by
  go_enter Try.func47, Try.ntmps47
  go_wp2_with (go_at_call 54; refine (Atan2_any _ _ _ h).mono ?_; rintro e w' ⟨rfl, rfl⟩)
  go_ret
  exact ⟨rfl, rfl⟩
/-- impl.Phase. -/
theorem phase_any (x y : Nat) (w : World) (h : PhOk x y) : Calls Try.prog 34 #[.float .f64 x, .float .f64 y] w fun e w' => e = .returned (.float .f64 (phw x y)) ∧ w = w' := by
  go_enter Try.func34, Try.ntmps34
  go_wp2_with (go_at_call 47; refine (cphase_any _ _ _ h).mono ?_; rintro e w' ⟨rfl, rfl⟩)
  go_ret
  exact ⟨rfl, rfl⟩
end Go.Proofs.Ytigckpmeppddcaa
