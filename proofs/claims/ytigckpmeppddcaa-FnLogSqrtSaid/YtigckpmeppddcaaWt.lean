/- The contract of cmplx.Sqrt where neither part is zero, and of impl.Sqrt. Written by a program of ours (wt.py). -/
import Derived.Test.YtigckpmeppddcaaWs
set_option linter.unusedVariables false
namespace Go.Proofs.Ytigckpmeppddcaa
open Go.RowKit Cx

set_option maxHeartbeats 1000000 in
theorem csqrt_axpn (x y : Nat) (Q : Rat) (w : World) (h : SqIn x y Q) (hy : ¬ val y = val 0) (hx : ¬ val x = val 0) (hX : val w4 < val (fabs x)) (ha : val 0 < val (sqa x y)) (hb : val (sqb x y) < val 0) : Calls Try.prog 48 #[.complex .f64 x y] w fun e w' => e = .returned (.complex .f64 (cre x y) (cim x y)) ∧ w = w' := by
  have fx := h.fx
  have fy := h.fy
  have f0 := fin_zero
  have lx := fx.1
  have ly := fy.1
  have fax := (fabs_spec fx).1
  have fay := (fabs_spec fy).1
  have g1 := fin_wh
  have g2 := fin_wq4
  have g3 := fin_ws2
  have g4 := fin_w4
  have hbig : sqBig x y := Or.inl hX
  have ea : sqa x y = fmul x wq4 := by unfold sqa sqM; rw [if_pos hbig]
  have eb : sqb x y = fmul y wq4 := by unfold sqb sqM; rw [if_pos hbig]
  have es : sqS x y = ws2 := by unfold sqS; rw [if_pos hbig]
  have ec : cio x y = fmul (sqS x y) (sqO (sqa x y) (sqb x y)) := by unfold cio; rw [if_pos ha]
  have e1 : cre x y = fmul (sqT (sqa x y) (sqb x y)) (sqS x y) := by unfold cre; rw [if_neg hy, if_neg hx, if_pos ha]
  have e2 : cim x y = fneg (fmul (sqS x y) (sqO (sqa x y) (sqb x y))) := by unfold cim; rw [if_neg hy, if_neg hx, if_pos hb, ec]
  have G := sq_gen h (by rw [val_zero] at hx; exact hx) (by rw [val_zero] at hy; exact hy)
  have k1 := G.f1
  have k2 := G.f2
  have k3 := G.core
  have k4 := G.g1
  have k5 := G.g2
  rw [es] at k4 k5 e1 e2
  rw [ea] at k1 k3 k4 k5 e1 e2 ha
  rw [eb] at k2 k3 k4 k5 e1 e2 hb
  clear ea eb es ec G h hbig
  obtain ⟨ok, q1, q2, q3, q4, q5, q6, q7, q8, q9, q10, z1, z2, z3, z4, z5, z6⟩ := k3
  clear z1 z2 z3 z4 z5 z6
  have hyp : HypOk (fmul x wq4) (fmul y wq4) := ⟨k1, k2, fun _ => ok⟩
  have eH : sqH (fmul x wq4) (fmul y wq4) = fadd (fmul wh (fhypt (fmul x wq4) (fmul y wq4))) (fmul wh (fmul x wq4)) := by unfold sqH; rw [if_pos ha]
  rw [eH] at q5 q6
  have eO : sqO (fmul x wq4) (fmul y wq4) = fabs (sqD (fmul x wq4) (fmul y wq4)) := rfl
  rw [eO] at q10 k5 e2
  have ld := q9.1
  have hd := fun t w => run_fdiv (P := Try.prog) w t _ _ _ q8
  have E1 := Lib.hid e1
  have E2 := Lib.hid e2
  clear e1 e2 ok eH eO
  unfold wh w4 wq4 ws2 at *
  go_enter Try.func48, Try.ntmps48
  go_wp2_with (first | (go_at_call 58; refine (mabs_any _ _ (by assumption)).mono ?_; rintro e w' ⟨rfl, rfl⟩) | (go_at_call 51; refine (isinf_fin _ _ fy 0 (Or.inl rfl)).mono ?_; rintro e w' ⟨rfl, rfl⟩) | (go_at_call 53; refine (hypot_any _ _ _ hyp).mono ?_; rintro e w' ⟨rfl, rfl⟩) | (go_at_call 56; refine (msqrt_any _ _ _ q6).mono ?_; rintro e w' ⟨rfl, rfl⟩))
  go_ret
  exact ⟨by rw [E1.out, E2.out]; rfl, rfl⟩

set_option maxHeartbeats 1000000 in
theorem csqrt_axpp (x y : Nat) (Q : Rat) (w : World) (h : SqIn x y Q) (hy : ¬ val y = val 0) (hx : ¬ val x = val 0) (hX : val w4 < val (fabs x)) (ha : val 0 < val (sqa x y)) (hb : ¬ val (sqb x y) < val 0) : Calls Try.prog 48 #[.complex .f64 x y] w fun e w' => e = .returned (.complex .f64 (cre x y) (cim x y)) ∧ w = w' := by
  have fx := h.fx
  have fy := h.fy
  have f0 := fin_zero
  have lx := fx.1
  have ly := fy.1
  have fax := (fabs_spec fx).1
  have fay := (fabs_spec fy).1
  have g1 := fin_wh
  have g2 := fin_wq4
  have g3 := fin_ws2
  have g4 := fin_w4
  have hbig : sqBig x y := Or.inl hX
  have ea : sqa x y = fmul x wq4 := by unfold sqa sqM; rw [if_pos hbig]
  have eb : sqb x y = fmul y wq4 := by unfold sqb sqM; rw [if_pos hbig]
  have es : sqS x y = ws2 := by unfold sqS; rw [if_pos hbig]
  have ec : cio x y = fmul (sqS x y) (sqO (sqa x y) (sqb x y)) := by unfold cio; rw [if_pos ha]
  have e1 : cre x y = fmul (sqT (sqa x y) (sqb x y)) (sqS x y) := by unfold cre; rw [if_neg hy, if_neg hx, if_pos ha]
  have e2 : cim x y = fmul (sqS x y) (sqO (sqa x y) (sqb x y)) := by unfold cim; rw [if_neg hy, if_neg hx, if_neg hb, ec]
  have G := sq_gen h (by rw [val_zero] at hx; exact hx) (by rw [val_zero] at hy; exact hy)
  have k1 := G.f1
  have k2 := G.f2
  have k3 := G.core
  have k4 := G.g1
  have k5 := G.g2
  rw [es] at k4 k5 e1 e2
  rw [ea] at k1 k3 k4 k5 e1 e2 ha
  rw [eb] at k2 k3 k4 k5 e1 e2 hb
  clear ea eb es ec G h hbig
  obtain ⟨ok, q1, q2, q3, q4, q5, q6, q7, q8, q9, q10, z1, z2, z3, z4, z5, z6⟩ := k3
  clear z1 z2 z3 z4 z5 z6
  have hyp : HypOk (fmul x wq4) (fmul y wq4) := ⟨k1, k2, fun _ => ok⟩
  have eH : sqH (fmul x wq4) (fmul y wq4) = fadd (fmul wh (fhypt (fmul x wq4) (fmul y wq4))) (fmul wh (fmul x wq4)) := by unfold sqH; rw [if_pos ha]
  rw [eH] at q5 q6
  have eO : sqO (fmul x wq4) (fmul y wq4) = fabs (sqD (fmul x wq4) (fmul y wq4)) := rfl
  rw [eO] at q10 k5 e2
  have ld := q9.1
  have hd := fun t w => run_fdiv (P := Try.prog) w t _ _ _ q8
  have E1 := Lib.hid e1
  have E2 := Lib.hid e2
  clear e1 e2 ok eH eO
  unfold wh w4 wq4 ws2 at *
  go_enter Try.func48, Try.ntmps48
  go_wp2_with (first | (go_at_call 58; refine (mabs_any _ _ (by assumption)).mono ?_; rintro e w' ⟨rfl, rfl⟩) | (go_at_call 51; refine (isinf_fin _ _ fy 0 (Or.inl rfl)).mono ?_; rintro e w' ⟨rfl, rfl⟩) | (go_at_call 53; refine (hypot_any _ _ _ hyp).mono ?_; rintro e w' ⟨rfl, rfl⟩) | (go_at_call 56; refine (msqrt_any _ _ _ q6).mono ?_; rintro e w' ⟨rfl, rfl⟩))
  go_ret
  exact ⟨by rw [E1.out, E2.out]; rfl, rfl⟩

set_option maxHeartbeats 1000000 in
theorem csqrt_axnn (x y : Nat) (Q : Rat) (w : World) (h : SqIn x y Q) (hy : ¬ val y = val 0) (hx : ¬ val x = val 0) (hX : val w4 < val (fabs x)) (ha : ¬ val 0 < val (sqa x y)) (hb : val (sqb x y) < val 0) : Calls Try.prog 48 #[.complex .f64 x y] w fun e w' => e = .returned (.complex .f64 (cre x y) (cim x y)) ∧ w = w' := by
  have fx := h.fx
  have fy := h.fy
  have f0 := fin_zero
  have lx := fx.1
  have ly := fy.1
  have fax := (fabs_spec fx).1
  have fay := (fabs_spec fy).1
  have g1 := fin_wh
  have g2 := fin_wq4
  have g3 := fin_ws2
  have g4 := fin_w4
  have hbig : sqBig x y := Or.inl hX
  have ea : sqa x y = fmul x wq4 := by unfold sqa sqM; rw [if_pos hbig]
  have eb : sqb x y = fmul y wq4 := by unfold sqb sqM; rw [if_pos hbig]
  have es : sqS x y = ws2 := by unfold sqS; rw [if_pos hbig]
  have ec : cio x y = fmul (sqT (sqa x y) (sqb x y)) (sqS x y) := by unfold cio; rw [if_neg ha]
  have e1 : cre x y = fmul (sqS x y) (sqO (sqa x y) (sqb x y)) := by unfold cre; rw [if_neg hy, if_neg hx, if_neg ha]
  have e2 : cim x y = fneg (fmul (sqT (sqa x y) (sqb x y)) (sqS x y)) := by unfold cim; rw [if_neg hy, if_neg hx, if_pos hb, ec]
  have G := sq_gen h (by rw [val_zero] at hx; exact hx) (by rw [val_zero] at hy; exact hy)
  have k1 := G.f1
  have k2 := G.f2
  have k3 := G.core
  have k4 := G.g1
  have k5 := G.g2
  rw [es] at k4 k5 e1 e2
  rw [ea] at k1 k3 k4 k5 e1 e2 ha
  rw [eb] at k2 k3 k4 k5 e1 e2 hb
  clear ea eb es ec G h hbig
  obtain ⟨ok, q1, q2, q3, q4, q5, q6, q7, q8, q9, q10, z1, z2, z3, z4, z5, z6⟩ := k3
  clear z1 z2 z3 z4 z5 z6
  have hyp : HypOk (fmul x wq4) (fmul y wq4) := ⟨k1, k2, fun _ => ok⟩
  have eH : sqH (fmul x wq4) (fmul y wq4) = fsub (fmul wh (fhypt (fmul x wq4) (fmul y wq4))) (fmul wh (fmul x wq4)) := by unfold sqH; rw [if_neg ha]
  rw [eH] at q5 q6
  have eO : sqO (fmul x wq4) (fmul y wq4) = fabs (sqD (fmul x wq4) (fmul y wq4)) := rfl
  rw [eO] at q10 k5 e1
  have ld := q9.1
  have hd := fun t w => run_fdiv (P := Try.prog) w t _ _ _ q8
  have E1 := Lib.hid e1
  have E2 := Lib.hid e2
  clear e1 e2 ok eH eO
  unfold wh w4 wq4 ws2 at *
  go_enter Try.func48, Try.ntmps48
  go_wp2_with (first | (go_at_call 58; refine (mabs_any _ _ (by assumption)).mono ?_; rintro e w' ⟨rfl, rfl⟩) | (go_at_call 51; refine (isinf_fin _ _ fy 0 (Or.inl rfl)).mono ?_; rintro e w' ⟨rfl, rfl⟩) | (go_at_call 53; refine (hypot_any _ _ _ hyp).mono ?_; rintro e w' ⟨rfl, rfl⟩) | (go_at_call 56; refine (msqrt_any _ _ _ q6).mono ?_; rintro e w' ⟨rfl, rfl⟩))
  go_ret
  exact ⟨by rw [E1.out, E2.out]; rfl, rfl⟩

set_option maxHeartbeats 1000000 in
theorem csqrt_axnp (x y : Nat) (Q : Rat) (w : World) (h : SqIn x y Q) (hy : ¬ val y = val 0) (hx : ¬ val x = val 0) (hX : val w4 < val (fabs x)) (ha : ¬ val 0 < val (sqa x y)) (hb : ¬ val (sqb x y) < val 0) : Calls Try.prog 48 #[.complex .f64 x y] w fun e w' => e = .returned (.complex .f64 (cre x y) (cim x y)) ∧ w = w' := by
  have fx := h.fx
  have fy := h.fy
  have f0 := fin_zero
  have lx := fx.1
  have ly := fy.1
  have fax := (fabs_spec fx).1
  have fay := (fabs_spec fy).1
  have g1 := fin_wh
  have g2 := fin_wq4
  have g3 := fin_ws2
  have g4 := fin_w4
  have hbig : sqBig x y := Or.inl hX
  have ea : sqa x y = fmul x wq4 := by unfold sqa sqM; rw [if_pos hbig]
  have eb : sqb x y = fmul y wq4 := by unfold sqb sqM; rw [if_pos hbig]
  have es : sqS x y = ws2 := by unfold sqS; rw [if_pos hbig]
  have ec : cio x y = fmul (sqT (sqa x y) (sqb x y)) (sqS x y) := by unfold cio; rw [if_neg ha]
  have e1 : cre x y = fmul (sqS x y) (sqO (sqa x y) (sqb x y)) := by unfold cre; rw [if_neg hy, if_neg hx, if_neg ha]
  have e2 : cim x y = fmul (sqT (sqa x y) (sqb x y)) (sqS x y) := by unfold cim; rw [if_neg hy, if_neg hx, if_neg hb, ec]
  have G := sq_gen h (by rw [val_zero] at hx; exact hx) (by rw [val_zero] at hy; exact hy)
  have k1 := G.f1
  have k2 := G.f2
  have k3 := G.core
  have k4 := G.g1
  have k5 := G.g2
  rw [es] at k4 k5 e1 e2
  rw [ea] at k1 k3 k4 k5 e1 e2 ha
  rw [eb] at k2 k3 k4 k5 e1 e2 hb
  clear ea eb es ec G h hbig
  obtain ⟨ok, q1, q2, q3, q4, q5, q6, q7, q8, q9, q10, z1, z2, z3, z4, z5, z6⟩ := k3
  clear z1 z2 z3 z4 z5 z6
  have hyp : HypOk (fmul x wq4) (fmul y wq4) := ⟨k1, k2, fun _ => ok⟩
  have eH : sqH (fmul x wq4) (fmul y wq4) = fsub (fmul wh (fhypt (fmul x wq4) (fmul y wq4))) (fmul wh (fmul x wq4)) := by unfold sqH; rw [if_neg ha]
  rw [eH] at q5 q6
  have eO : sqO (fmul x wq4) (fmul y wq4) = fabs (sqD (fmul x wq4) (fmul y wq4)) := rfl
  rw [eO] at q10 k5 e1
  have ld := q9.1
  have hd := fun t w => run_fdiv (P := Try.prog) w t _ _ _ q8
  have E1 := Lib.hid e1
  have E2 := Lib.hid e2
  clear e1 e2 ok eH eO
  unfold wh w4 wq4 ws2 at *
  go_enter Try.func48, Try.ntmps48
  go_wp2_with (first | (go_at_call 58; refine (mabs_any _ _ (by assumption)).mono ?_; rintro e w' ⟨rfl, rfl⟩) | (go_at_call 51; refine (isinf_fin _ _ fy 0 (Or.inl rfl)).mono ?_; rintro e w' ⟨rfl, rfl⟩) | (go_at_call 53; refine (hypot_any _ _ _ hyp).mono ?_; rintro e w' ⟨rfl, rfl⟩) | (go_at_call 56; refine (msqrt_any _ _ _ q6).mono ?_; rintro e w' ⟨rfl, rfl⟩))
  go_ret
  exact ⟨by rw [E1.out, E2.out]; rfl, rfl⟩

set_option maxHeartbeats 1000000 in
theorem csqrt_bxpn (x y : Nat) (Q : Rat) (w : World) (h : SqIn x y Q) (hy : ¬ val y = val 0) (hx : ¬ val x = val 0) (hX : ¬ val w4 < val (fabs x)) (hY : val w4 < val (fabs y)) (ha : val 0 < val (sqa x y)) (hb : val (sqb x y) < val 0) : Calls Try.prog 48 #[.complex .f64 x y] w fun e w' => e = .returned (.complex .f64 (cre x y) (cim x y)) ∧ w = w' := by
  have fx := h.fx
  have fy := h.fy
  have f0 := fin_zero
  have lx := fx.1
  have ly := fy.1
  have fax := (fabs_spec fx).1
  have fay := (fabs_spec fy).1
  have g1 := fin_wh
  have g2 := fin_wq4
  have g3 := fin_ws2
  have g4 := fin_w4
  have hbig : sqBig x y := Or.inr hY
  have ea : sqa x y = fmul x wq4 := by unfold sqa sqM; rw [if_pos hbig]
  have eb : sqb x y = fmul y wq4 := by unfold sqb sqM; rw [if_pos hbig]
  have es : sqS x y = ws2 := by unfold sqS; rw [if_pos hbig]
  have ec : cio x y = fmul (sqS x y) (sqO (sqa x y) (sqb x y)) := by unfold cio; rw [if_pos ha]
  have e1 : cre x y = fmul (sqT (sqa x y) (sqb x y)) (sqS x y) := by unfold cre; rw [if_neg hy, if_neg hx, if_pos ha]
  have e2 : cim x y = fneg (fmul (sqS x y) (sqO (sqa x y) (sqb x y))) := by unfold cim; rw [if_neg hy, if_neg hx, if_pos hb, ec]
  have G := sq_gen h (by rw [val_zero] at hx; exact hx) (by rw [val_zero] at hy; exact hy)
  have k1 := G.f1
  have k2 := G.f2
  have k3 := G.core
  have k4 := G.g1
  have k5 := G.g2
  rw [es] at k4 k5 e1 e2
  rw [ea] at k1 k3 k4 k5 e1 e2 ha
  rw [eb] at k2 k3 k4 k5 e1 e2 hb
  clear ea eb es ec G h hbig
  obtain ⟨ok, q1, q2, q3, q4, q5, q6, q7, q8, q9, q10, z1, z2, z3, z4, z5, z6⟩ := k3
  clear z1 z2 z3 z4 z5 z6
  have hyp : HypOk (fmul x wq4) (fmul y wq4) := ⟨k1, k2, fun _ => ok⟩
  have eH : sqH (fmul x wq4) (fmul y wq4) = fadd (fmul wh (fhypt (fmul x wq4) (fmul y wq4))) (fmul wh (fmul x wq4)) := by unfold sqH; rw [if_pos ha]
  rw [eH] at q5 q6
  have eO : sqO (fmul x wq4) (fmul y wq4) = fabs (sqD (fmul x wq4) (fmul y wq4)) := rfl
  rw [eO] at q10 k5 e2
  have ld := q9.1
  have hd := fun t w => run_fdiv (P := Try.prog) w t _ _ _ q8
  have E1 := Lib.hid e1
  have E2 := Lib.hid e2
  clear e1 e2 ok eH eO
  unfold wh w4 wq4 ws2 at *
  go_enter Try.func48, Try.ntmps48
  go_wp2_with (first | (go_at_call 58; refine (mabs_any _ _ (by assumption)).mono ?_; rintro e w' ⟨rfl, rfl⟩) | (go_at_call 51; refine (isinf_fin _ _ fy 0 (Or.inl rfl)).mono ?_; rintro e w' ⟨rfl, rfl⟩) | (go_at_call 53; refine (hypot_any _ _ _ hyp).mono ?_; rintro e w' ⟨rfl, rfl⟩) | (go_at_call 56; refine (msqrt_any _ _ _ q6).mono ?_; rintro e w' ⟨rfl, rfl⟩))
  go_ret
  exact ⟨by rw [E1.out, E2.out]; rfl, rfl⟩

set_option maxHeartbeats 1000000 in
theorem csqrt_bxpp (x y : Nat) (Q : Rat) (w : World) (h : SqIn x y Q) (hy : ¬ val y = val 0) (hx : ¬ val x = val 0) (hX : ¬ val w4 < val (fabs x)) (hY : val w4 < val (fabs y)) (ha : val 0 < val (sqa x y)) (hb : ¬ val (sqb x y) < val 0) : Calls Try.prog 48 #[.complex .f64 x y] w fun e w' => e = .returned (.complex .f64 (cre x y) (cim x y)) ∧ w = w' := by
  have fx := h.fx
  have fy := h.fy
  have f0 := fin_zero
  have lx := fx.1
  have ly := fy.1
  have fax := (fabs_spec fx).1
  have fay := (fabs_spec fy).1
  have g1 := fin_wh
  have g2 := fin_wq4
  have g3 := fin_ws2
  have g4 := fin_w4
  have hbig : sqBig x y := Or.inr hY
  have ea : sqa x y = fmul x wq4 := by unfold sqa sqM; rw [if_pos hbig]
  have eb : sqb x y = fmul y wq4 := by unfold sqb sqM; rw [if_pos hbig]
  have es : sqS x y = ws2 := by unfold sqS; rw [if_pos hbig]
  have ec : cio x y = fmul (sqS x y) (sqO (sqa x y) (sqb x y)) := by unfold cio; rw [if_pos ha]
  have e1 : cre x y = fmul (sqT (sqa x y) (sqb x y)) (sqS x y) := by unfold cre; rw [if_neg hy, if_neg hx, if_pos ha]
  have e2 : cim x y = fmul (sqS x y) (sqO (sqa x y) (sqb x y)) := by unfold cim; rw [if_neg hy, if_neg hx, if_neg hb, ec]
  have G := sq_gen h (by rw [val_zero] at hx; exact hx) (by rw [val_zero] at hy; exact hy)
  have k1 := G.f1
  have k2 := G.f2
  have k3 := G.core
  have k4 := G.g1
  have k5 := G.g2
  rw [es] at k4 k5 e1 e2
  rw [ea] at k1 k3 k4 k5 e1 e2 ha
  rw [eb] at k2 k3 k4 k5 e1 e2 hb
  clear ea eb es ec G h hbig
  obtain ⟨ok, q1, q2, q3, q4, q5, q6, q7, q8, q9, q10, z1, z2, z3, z4, z5, z6⟩ := k3
  clear z1 z2 z3 z4 z5 z6
  have hyp : HypOk (fmul x wq4) (fmul y wq4) := ⟨k1, k2, fun _ => ok⟩
  have eH : sqH (fmul x wq4) (fmul y wq4) = fadd (fmul wh (fhypt (fmul x wq4) (fmul y wq4))) (fmul wh (fmul x wq4)) := by unfold sqH; rw [if_pos ha]
  rw [eH] at q5 q6
  have eO : sqO (fmul x wq4) (fmul y wq4) = fabs (sqD (fmul x wq4) (fmul y wq4)) := rfl
  rw [eO] at q10 k5 e2
  have ld := q9.1
  have hd := fun t w => run_fdiv (P := Try.prog) w t _ _ _ q8
  have E1 := Lib.hid e1
  have E2 := Lib.hid e2
  clear e1 e2 ok eH eO
  unfold wh w4 wq4 ws2 at *
  go_enter Try.func48, Try.ntmps48
  go_wp2_with (first | (go_at_call 58; refine (mabs_any _ _ (by assumption)).mono ?_; rintro e w' ⟨rfl, rfl⟩) | (go_at_call 51; refine (isinf_fin _ _ fy 0 (Or.inl rfl)).mono ?_; rintro e w' ⟨rfl, rfl⟩) | (go_at_call 53; refine (hypot_any _ _ _ hyp).mono ?_; rintro e w' ⟨rfl, rfl⟩) | (go_at_call 56; refine (msqrt_any _ _ _ q6).mono ?_; rintro e w' ⟨rfl, rfl⟩))
  go_ret
  exact ⟨by rw [E1.out, E2.out]; rfl, rfl⟩

set_option maxHeartbeats 1000000 in
theorem csqrt_bxnn (x y : Nat) (Q : Rat) (w : World) (h : SqIn x y Q) (hy : ¬ val y = val 0) (hx : ¬ val x = val 0) (hX : ¬ val w4 < val (fabs x)) (hY : val w4 < val (fabs y)) (ha : ¬ val 0 < val (sqa x y)) (hb : val (sqb x y) < val 0) : Calls Try.prog 48 #[.complex .f64 x y] w fun e w' => e = .returned (.complex .f64 (cre x y) (cim x y)) ∧ w = w' := by
  have fx := h.fx
  have fy := h.fy
  have f0 := fin_zero
  have lx := fx.1
  have ly := fy.1
  have fax := (fabs_spec fx).1
  have fay := (fabs_spec fy).1
  have g1 := fin_wh
  have g2 := fin_wq4
  have g3 := fin_ws2
  have g4 := fin_w4
  have hbig : sqBig x y := Or.inr hY
  have ea : sqa x y = fmul x wq4 := by unfold sqa sqM; rw [if_pos hbig]
  have eb : sqb x y = fmul y wq4 := by unfold sqb sqM; rw [if_pos hbig]
  have es : sqS x y = ws2 := by unfold sqS; rw [if_pos hbig]
  have ec : cio x y = fmul (sqT (sqa x y) (sqb x y)) (sqS x y) := by unfold cio; rw [if_neg ha]
  have e1 : cre x y = fmul (sqS x y) (sqO (sqa x y) (sqb x y)) := by unfold cre; rw [if_neg hy, if_neg hx, if_neg ha]
  have e2 : cim x y = fneg (fmul (sqT (sqa x y) (sqb x y)) (sqS x y)) := by unfold cim; rw [if_neg hy, if_neg hx, if_pos hb, ec]
  have G := sq_gen h (by rw [val_zero] at hx; exact hx) (by rw [val_zero] at hy; exact hy)
  have k1 := G.f1
  have k2 := G.f2
  have k3 := G.core
  have k4 := G.g1
  have k5 := G.g2
  rw [es] at k4 k5 e1 e2
  rw [ea] at k1 k3 k4 k5 e1 e2 ha
  rw [eb] at k2 k3 k4 k5 e1 e2 hb
  clear ea eb es ec G h hbig
  obtain ⟨ok, q1, q2, q3, q4, q5, q6, q7, q8, q9, q10, z1, z2, z3, z4, z5, z6⟩ := k3
  clear z1 z2 z3 z4 z5 z6
  have hyp : HypOk (fmul x wq4) (fmul y wq4) := ⟨k1, k2, fun _ => ok⟩
  have eH : sqH (fmul x wq4) (fmul y wq4) = fsub (fmul wh (fhypt (fmul x wq4) (fmul y wq4))) (fmul wh (fmul x wq4)) := by unfold sqH; rw [if_neg ha]
  rw [eH] at q5 q6
  have eO : sqO (fmul x wq4) (fmul y wq4) = fabs (sqD (fmul x wq4) (fmul y wq4)) := rfl
  rw [eO] at q10 k5 e1
  have ld := q9.1
  have hd := fun t w => run_fdiv (P := Try.prog) w t _ _ _ q8
  have E1 := Lib.hid e1
  have E2 := Lib.hid e2
  clear e1 e2 ok eH eO
  unfold wh w4 wq4 ws2 at *
  go_enter Try.func48, Try.ntmps48
  go_wp2_with (first | (go_at_call 58; refine (mabs_any _ _ (by assumption)).mono ?_; rintro e w' ⟨rfl, rfl⟩) | (go_at_call 51; refine (isinf_fin _ _ fy 0 (Or.inl rfl)).mono ?_; rintro e w' ⟨rfl, rfl⟩) | (go_at_call 53; refine (hypot_any _ _ _ hyp).mono ?_; rintro e w' ⟨rfl, rfl⟩) | (go_at_call 56; refine (msqrt_any _ _ _ q6).mono ?_; rintro e w' ⟨rfl, rfl⟩))
  go_ret
  exact ⟨by rw [E1.out, E2.out]; rfl, rfl⟩

set_option maxHeartbeats 1000000 in
theorem csqrt_bxnp (x y : Nat) (Q : Rat) (w : World) (h : SqIn x y Q) (hy : ¬ val y = val 0) (hx : ¬ val x = val 0) (hX : ¬ val w4 < val (fabs x)) (hY : val w4 < val (fabs y)) (ha : ¬ val 0 < val (sqa x y)) (hb : ¬ val (sqb x y) < val 0) : Calls Try.prog 48 #[.complex .f64 x y] w fun e w' => e = .returned (.complex .f64 (cre x y) (cim x y)) ∧ w = w' := by
  have fx := h.fx
  have fy := h.fy
  have f0 := fin_zero
  have lx := fx.1
  have ly := fy.1
  have fax := (fabs_spec fx).1
  have fay := (fabs_spec fy).1
  have g1 := fin_wh
  have g2 := fin_wq4
  have g3 := fin_ws2
  have g4 := fin_w4
  have hbig : sqBig x y := Or.inr hY
  have ea : sqa x y = fmul x wq4 := by unfold sqa sqM; rw [if_pos hbig]
  have eb : sqb x y = fmul y wq4 := by unfold sqb sqM; rw [if_pos hbig]
  have es : sqS x y = ws2 := by unfold sqS; rw [if_pos hbig]
  have ec : cio x y = fmul (sqT (sqa x y) (sqb x y)) (sqS x y) := by unfold cio; rw [if_neg ha]
  have e1 : cre x y = fmul (sqS x y) (sqO (sqa x y) (sqb x y)) := by unfold cre; rw [if_neg hy, if_neg hx, if_neg ha]
  have e2 : cim x y = fmul (sqT (sqa x y) (sqb x y)) (sqS x y) := by unfold cim; rw [if_neg hy, if_neg hx, if_neg hb, ec]
  have G := sq_gen h (by rw [val_zero] at hx; exact hx) (by rw [val_zero] at hy; exact hy)
  have k1 := G.f1
  have k2 := G.f2
  have k3 := G.core
  have k4 := G.g1
  have k5 := G.g2
  rw [es] at k4 k5 e1 e2
  rw [ea] at k1 k3 k4 k5 e1 e2 ha
  rw [eb] at k2 k3 k4 k5 e1 e2 hb
  clear ea eb es ec G h hbig
  obtain ⟨ok, q1, q2, q3, q4, q5, q6, q7, q8, q9, q10, z1, z2, z3, z4, z5, z6⟩ := k3
  clear z1 z2 z3 z4 z5 z6
  have hyp : HypOk (fmul x wq4) (fmul y wq4) := ⟨k1, k2, fun _ => ok⟩
  have eH : sqH (fmul x wq4) (fmul y wq4) = fsub (fmul wh (fhypt (fmul x wq4) (fmul y wq4))) (fmul wh (fmul x wq4)) := by unfold sqH; rw [if_neg ha]
  rw [eH] at q5 q6
  have eO : sqO (fmul x wq4) (fmul y wq4) = fabs (sqD (fmul x wq4) (fmul y wq4)) := rfl
  rw [eO] at q10 k5 e1
  have ld := q9.1
  have hd := fun t w => run_fdiv (P := Try.prog) w t _ _ _ q8
  have E1 := Lib.hid e1
  have E2 := Lib.hid e2
  clear e1 e2 ok eH eO
  unfold wh w4 wq4 ws2 at *
  go_enter Try.func48, Try.ntmps48
  go_wp2_with (first | (go_at_call 58; refine (mabs_any _ _ (by assumption)).mono ?_; rintro e w' ⟨rfl, rfl⟩) | (go_at_call 51; refine (isinf_fin _ _ fy 0 (Or.inl rfl)).mono ?_; rintro e w' ⟨rfl, rfl⟩) | (go_at_call 53; refine (hypot_any _ _ _ hyp).mono ?_; rintro e w' ⟨rfl, rfl⟩) | (go_at_call 56; refine (msqrt_any _ _ _ q6).mono ?_; rintro e w' ⟨rfl, rfl⟩))
  go_ret
  exact ⟨by rw [E1.out, E2.out]; rfl, rfl⟩

set_option maxHeartbeats 1000000 in
theorem csqrt_cxpn (x y : Nat) (Q : Rat) (w : World) (h : SqIn x y Q) (hy : ¬ val y = val 0) (hx : ¬ val x = val 0) (hX : ¬ val w4 < val (fabs x)) (hY : ¬ val w4 < val (fabs y)) (ha : val 0 < val (sqa x y)) (hb : val (sqb x y) < val 0) : Calls Try.prog 48 #[.complex .f64 x y] w fun e w' => e = .returned (.complex .f64 (cre x y) (cim x y)) ∧ w = w' := by
  have fx := h.fx
  have fy := h.fy
  have f0 := fin_zero
  have lx := fx.1
  have ly := fy.1
  have fax := (fabs_spec fx).1
  have fay := (fabs_spec fy).1
  have g1 := fin_wh
  have g2 := fin_w54
  have g3 := fin_ws27
  have g4 := fin_w4
  have hbig : ¬ sqBig x y := fun hh => hh.elim hX hY
  have ea : sqa x y = fmul x w54 := by unfold sqa sqM; rw [if_neg hbig]
  have eb : sqb x y = fmul y w54 := by unfold sqb sqM; rw [if_neg hbig]
  have es : sqS x y = ws27 := by unfold sqS; rw [if_neg hbig]
  have ec : cio x y = fmul (sqS x y) (sqO (sqa x y) (sqb x y)) := by unfold cio; rw [if_pos ha]
  have e1 : cre x y = fmul (sqT (sqa x y) (sqb x y)) (sqS x y) := by unfold cre; rw [if_neg hy, if_neg hx, if_pos ha]
  have e2 : cim x y = fneg (fmul (sqS x y) (sqO (sqa x y) (sqb x y))) := by unfold cim; rw [if_neg hy, if_neg hx, if_pos hb, ec]
  have G := sq_gen h (by rw [val_zero] at hx; exact hx) (by rw [val_zero] at hy; exact hy)
  have k1 := G.f1
  have k2 := G.f2
  have k3 := G.core
  have k4 := G.g1
  have k5 := G.g2
  rw [es] at k4 k5 e1 e2
  rw [ea] at k1 k3 k4 k5 e1 e2 ha
  rw [eb] at k2 k3 k4 k5 e1 e2 hb
  clear ea eb es ec G h hbig
  obtain ⟨ok, q1, q2, q3, q4, q5, q6, q7, q8, q9, q10, z1, z2, z3, z4, z5, z6⟩ := k3
  clear z1 z2 z3 z4 z5 z6
  have hyp : HypOk (fmul x w54) (fmul y w54) := ⟨k1, k2, fun _ => ok⟩
  have eH : sqH (fmul x w54) (fmul y w54) = fadd (fmul wh (fhypt (fmul x w54) (fmul y w54))) (fmul wh (fmul x w54)) := by unfold sqH; rw [if_pos ha]
  rw [eH] at q5 q6
  have eO : sqO (fmul x w54) (fmul y w54) = fabs (sqD (fmul x w54) (fmul y w54)) := rfl
  rw [eO] at q10 k5 e2
  have ld := q9.1
  have hd := fun t w => run_fdiv (P := Try.prog) w t _ _ _ q8
  have E1 := Lib.hid e1
  have E2 := Lib.hid e2
  clear e1 e2 ok eH eO
  unfold wh w4 w54 ws27 at *
  go_enter Try.func48, Try.ntmps48
  go_wp2_with (first | (go_at_call 58; refine (mabs_any _ _ (by assumption)).mono ?_; rintro e w' ⟨rfl, rfl⟩) | (go_at_call 51; refine (isinf_fin _ _ fy 0 (Or.inl rfl)).mono ?_; rintro e w' ⟨rfl, rfl⟩) | (go_at_call 53; refine (hypot_any _ _ _ hyp).mono ?_; rintro e w' ⟨rfl, rfl⟩) | (go_at_call 56; refine (msqrt_any _ _ _ q6).mono ?_; rintro e w' ⟨rfl, rfl⟩))
  go_ret
  exact ⟨by rw [E1.out, E2.out]; rfl, rfl⟩

set_option maxHeartbeats 1000000 in
theorem csqrt_cxpp (x y : Nat) (Q : Rat) (w : World) (h : SqIn x y Q) (hy : ¬ val y = val 0) (hx : ¬ val x = val 0) (hX : ¬ val w4 < val (fabs x)) (hY : ¬ val w4 < val (fabs y)) (ha : val 0 < val (sqa x y)) (hb : ¬ val (sqb x y) < val 0) : Calls Try.prog 48 #[.complex .f64 x y] w fun e w' => e = .returned (.complex .f64 (cre x y) (cim x y)) ∧ w = w' := by
  have fx := h.fx
  have fy := h.fy
  have f0 := fin_zero
  have lx := fx.1
  have ly := fy.1
  have fax := (fabs_spec fx).1
  have fay := (fabs_spec fy).1
  have g1 := fin_wh
  have g2 := fin_w54
  have g3 := fin_ws27
  have g4 := fin_w4
  have hbig : ¬ sqBig x y := fun hh => hh.elim hX hY
  have ea : sqa x y = fmul x w54 := by unfold sqa sqM; rw [if_neg hbig]
  have eb : sqb x y = fmul y w54 := by unfold sqb sqM; rw [if_neg hbig]
  have es : sqS x y = ws27 := by unfold sqS; rw [if_neg hbig]
  have ec : cio x y = fmul (sqS x y) (sqO (sqa x y) (sqb x y)) := by unfold cio; rw [if_pos ha]
  have e1 : cre x y = fmul (sqT (sqa x y) (sqb x y)) (sqS x y) := by unfold cre; rw [if_neg hy, if_neg hx, if_pos ha]
  have e2 : cim x y = fmul (sqS x y) (sqO (sqa x y) (sqb x y)) := by unfold cim; rw [if_neg hy, if_neg hx, if_neg hb, ec]
  have G := sq_gen h (by rw [val_zero] at hx; exact hx) (by rw [val_zero] at hy; exact hy)
  have k1 := G.f1
  have k2 := G.f2
  have k3 := G.core
  have k4 := G.g1
  have k5 := G.g2
  rw [es] at k4 k5 e1 e2
  rw [ea] at k1 k3 k4 k5 e1 e2 ha
  rw [eb] at k2 k3 k4 k5 e1 e2 hb
  clear ea eb es ec G h hbig
  obtain ⟨ok, q1, q2, q3, q4, q5, q6, q7, q8, q9, q10, z1, z2, z3, z4, z5, z6⟩ := k3
  clear z1 z2 z3 z4 z5 z6
  have hyp : HypOk (fmul x w54) (fmul y w54) := ⟨k1, k2, fun _ => ok⟩
  have eH : sqH (fmul x w54) (fmul y w54) = fadd (fmul wh (fhypt (fmul x w54) (fmul y w54))) (fmul wh (fmul x w54)) := by unfold sqH; rw [if_pos ha]
  rw [eH] at q5 q6
  have eO : sqO (fmul x w54) (fmul y w54) = fabs (sqD (fmul x w54) (fmul y w54)) := rfl
  rw [eO] at q10 k5 e2
  have ld := q9.1
  have hd := fun t w => run_fdiv (P := Try.prog) w t _ _ _ q8
  have E1 := Lib.hid e1
  have E2 := Lib.hid e2
  clear e1 e2 ok eH eO
  unfold wh w4 w54 ws27 at *
  go_enter Try.func48, Try.ntmps48
  go_wp2_with (first | (go_at_call 58; refine (mabs_any _ _ (by assumption)).mono ?_; rintro e w' ⟨rfl, rfl⟩) | (go_at_call 51; refine (isinf_fin _ _ fy 0 (Or.inl rfl)).mono ?_; rintro e w' ⟨rfl, rfl⟩) | (go_at_call 53; refine (hypot_any _ _ _ hyp).mono ?_; rintro e w' ⟨rfl, rfl⟩) | (go_at_call 56; refine (msqrt_any _ _ _ q6).mono ?_; rintro e w' ⟨rfl, rfl⟩))
  go_ret
  exact ⟨by rw [E1.out, E2.out]; rfl, rfl⟩

set_option maxHeartbeats 1000000 in
theorem csqrt_cxnn (x y : Nat) (Q : Rat) (w : World) (h : SqIn x y Q) (hy : ¬ val y = val 0) (hx : ¬ val x = val 0) (hX : ¬ val w4 < val (fabs x)) (hY : ¬ val w4 < val (fabs y)) (ha : ¬ val 0 < val (sqa x y)) (hb : val (sqb x y) < val 0) : Calls Try.prog 48 #[.complex .f64 x y] w fun e w' => e = .returned (.complex .f64 (cre x y) (cim x y)) ∧ w = w' := by
  have fx := h.fx
  have fy := h.fy
  have f0 := fin_zero
  have lx := fx.1
  have ly := fy.1
  have fax := (fabs_spec fx).1
  have fay := (fabs_spec fy).1
  have g1 := fin_wh
  have g2 := fin_w54
  have g3 := fin_ws27
  have g4 := fin_w4
  have hbig : ¬ sqBig x y := fun hh => hh.elim hX hY
  have ea : sqa x y = fmul x w54 := by unfold sqa sqM; rw [if_neg hbig]
  have eb : sqb x y = fmul y w54 := by unfold sqb sqM; rw [if_neg hbig]
  have es : sqS x y = ws27 := by unfold sqS; rw [if_neg hbig]
  have ec : cio x y = fmul (sqT (sqa x y) (sqb x y)) (sqS x y) := by unfold cio; rw [if_neg ha]
  have e1 : cre x y = fmul (sqS x y) (sqO (sqa x y) (sqb x y)) := by unfold cre; rw [if_neg hy, if_neg hx, if_neg ha]
  have e2 : cim x y = fneg (fmul (sqT (sqa x y) (sqb x y)) (sqS x y)) := by unfold cim; rw [if_neg hy, if_neg hx, if_pos hb, ec]
  have G := sq_gen h (by rw [val_zero] at hx; exact hx) (by rw [val_zero] at hy; exact hy)
  have k1 := G.f1
  have k2 := G.f2
  have k3 := G.core
  have k4 := G.g1
  have k5 := G.g2
  rw [es] at k4 k5 e1 e2
  rw [ea] at k1 k3 k4 k5 e1 e2 ha
  rw [eb] at k2 k3 k4 k5 e1 e2 hb
  clear ea eb es ec G h hbig
  obtain ⟨ok, q1, q2, q3, q4, q5, q6, q7, q8, q9, q10, z1, z2, z3, z4, z5, z6⟩ := k3
  clear z1 z2 z3 z4 z5 z6
  have hyp : HypOk (fmul x w54) (fmul y w54) := ⟨k1, k2, fun _ => ok⟩
  have eH : sqH (fmul x w54) (fmul y w54) = fsub (fmul wh (fhypt (fmul x w54) (fmul y w54))) (fmul wh (fmul x w54)) := by unfold sqH; rw [if_neg ha]
  rw [eH] at q5 q6
  have eO : sqO (fmul x w54) (fmul y w54) = fabs (sqD (fmul x w54) (fmul y w54)) := rfl
  rw [eO] at q10 k5 e1
  have ld := q9.1
  have hd := fun t w => run_fdiv (P := Try.prog) w t _ _ _ q8
  have E1 := Lib.hid e1
  have E2 := Lib.hid e2
  clear e1 e2 ok eH eO
  unfold wh w4 w54 ws27 at *
  go_enter Try.func48, Try.ntmps48
  go_wp2_with (first | (go_at_call 58; refine (mabs_any _ _ (by assumption)).mono ?_; rintro e w' ⟨rfl, rfl⟩) | (go_at_call 51; refine (isinf_fin _ _ fy 0 (Or.inl rfl)).mono ?_; rintro e w' ⟨rfl, rfl⟩) | (go_at_call 53; refine (hypot_any _ _ _ hyp).mono ?_; rintro e w' ⟨rfl, rfl⟩) | (go_at_call 56; refine (msqrt_any _ _ _ q6).mono ?_; rintro e w' ⟨rfl, rfl⟩))
  go_ret
  exact ⟨by rw [E1.out, E2.out]; rfl, rfl⟩

set_option maxHeartbeats 1000000 in
theorem csqrt_cxnp (x y : Nat) (Q : Rat) (w : World) (h : SqIn x y Q) (hy : ¬ val y = val 0) (hx : ¬ val x = val 0) (hX : ¬ val w4 < val (fabs x)) (hY : ¬ val w4 < val (fabs y)) (ha : ¬ val 0 < val (sqa x y)) (hb : ¬ val (sqb x y) < val 0) : Calls Try.prog 48 #[.complex .f64 x y] w fun e w' => e = .returned (.complex .f64 (cre x y) (cim x y)) ∧ w = w' := by
  have fx := h.fx
  have fy := h.fy
  have f0 := fin_zero
  have lx := fx.1
  have ly := fy.1
  have fax := (fabs_spec fx).1
  have fay := (fabs_spec fy).1
  have g1 := fin_wh
  have g2 := fin_w54
  have g3 := fin_ws27
  have g4 := fin_w4
  have hbig : ¬ sqBig x y := fun hh => hh.elim hX hY
  have ea : sqa x y = fmul x w54 := by unfold sqa sqM; rw [if_neg hbig]
  have eb : sqb x y = fmul y w54 := by unfold sqb sqM; rw [if_neg hbig]
  have es : sqS x y = ws27 := by unfold sqS; rw [if_neg hbig]
  have ec : cio x y = fmul (sqT (sqa x y) (sqb x y)) (sqS x y) := by unfold cio; rw [if_neg ha]
  have e1 : cre x y = fmul (sqS x y) (sqO (sqa x y) (sqb x y)) := by unfold cre; rw [if_neg hy, if_neg hx, if_neg ha]
  have e2 : cim x y = fmul (sqT (sqa x y) (sqb x y)) (sqS x y) := by unfold cim; rw [if_neg hy, if_neg hx, if_neg hb, ec]
  have G := sq_gen h (by rw [val_zero] at hx; exact hx) (by rw [val_zero] at hy; exact hy)
  have k1 := G.f1
  have k2 := G.f2
  have k3 := G.core
  have k4 := G.g1
  have k5 := G.g2
  rw [es] at k4 k5 e1 e2
  rw [ea] at k1 k3 k4 k5 e1 e2 ha
  rw [eb] at k2 k3 k4 k5 e1 e2 hb
  clear ea eb es ec G h hbig
  obtain ⟨ok, q1, q2, q3, q4, q5, q6, q7, q8, q9, q10, z1, z2, z3, z4, z5, z6⟩ := k3
  clear z1 z2 z3 z4 z5 z6
  have hyp : HypOk (fmul x w54) (fmul y w54) := ⟨k1, k2, fun _ => ok⟩
  have eH : sqH (fmul x w54) (fmul y w54) = fsub (fmul wh (fhypt (fmul x w54) (fmul y w54))) (fmul wh (fmul x w54)) := by unfold sqH; rw [if_neg ha]
  rw [eH] at q5 q6
  have eO : sqO (fmul x w54) (fmul y w54) = fabs (sqD (fmul x w54) (fmul y w54)) := rfl
  rw [eO] at q10 k5 e1
  have ld := q9.1
  have hd := fun t w => run_fdiv (P := Try.prog) w t _ _ _ q8
  have E1 := Lib.hid e1
  have E2 := Lib.hid e2
  clear e1 e2 ok eH eO
  unfold wh w4 w54 ws27 at *
  go_enter Try.func48, Try.ntmps48
  go_wp2_with (first | (go_at_call 58; refine (mabs_any _ _ (by assumption)).mono ?_; rintro e w' ⟨rfl, rfl⟩) | (go_at_call 51; refine (isinf_fin _ _ fy 0 (Or.inl rfl)).mono ?_; rintro e w' ⟨rfl, rfl⟩) | (go_at_call 53; refine (hypot_any _ _ _ hyp).mono ?_; rintro e w' ⟨rfl, rfl⟩) | (go_at_call 56; refine (msqrt_any _ _ _ q6).mono ?_; rintro e w' ⟨rfl, rfl⟩))
  go_ret
  exact ⟨by rw [E1.out, E2.out]; rfl, rfl⟩

/-- cmplx.Sqrt. -/
theorem csqrt_any (x y : Nat) (Q : Rat) (w : World) (h : SqIn x y Q) : Calls Try.prog 48 #[.complex .f64 x y] w fun e w' => e = .returned (.complex .f64 (cre x y) (cim x y)) ∧ w = w' := by
  by_cases hy : val y = val 0
  · exact csqrt_real x y Q w h hy
  · by_cases hx : val x = val 0
    · exact csqrt_imag x y Q w h hy hx
    · by_cases ha : val 0 < val (sqa x y)
      · by_cases hb : val (sqb x y) < val 0
        · by_cases hX : val w4 < val (fabs x)
          · exact csqrt_axpn x y Q w h hy hx hX ha hb
          · by_cases hY : val w4 < val (fabs y)
            · exact csqrt_bxpn x y Q w h hy hx hX hY ha hb
            · exact csqrt_cxpn x y Q w h hy hx hX hY ha hb
        · by_cases hX : val w4 < val (fabs x)
          · exact csqrt_axpp x y Q w h hy hx hX ha hb
          · by_cases hY : val w4 < val (fabs y)
            · exact csqrt_bxpp x y Q w h hy hx hX hY ha hb
            · exact csqrt_cxpp x y Q w h hy hx hX hY ha hb
      · by_cases hb : val (sqb x y) < val 0
        · by_cases hX : val w4 < val (fabs x)
          · exact csqrt_axnn x y Q w h hy hx hX ha hb
          · by_cases hY : val w4 < val (fabs y)
            · exact csqrt_bxnn x y Q w h hy hx hX hY ha hb
            · exact csqrt_cxnn x y Q w h hy hx hX hY ha hb
        · by_cases hX : val w4 < val (fabs x)
          · exact csqrt_axnp x y Q w h hy hx hX ha hb
          · by_cases hY : val w4 < val (fabs y)
            · exact csqrt_bxnp x y Q w h hy hx hX hY ha hb
            · exact csqrt_cxnp x y Q w h hy hx hX hY ha hb
/-- impl.Sqrt. -/
theorem sqrt_any (x y : Nat) (Q : Rat) (w : World) (h : SqIn x y Q) : Calls Try.prog 38 #[.float .f64 x, .float .f64 y] w fun e w' => e = .returned (.tuple #[.float .f64 (cre x y), .float .f64 (cim x y)]) ∧ w = w' := by
  go_enter Try.func38, Try.ntmps38
  go_wp2_with (go_at_call 48; refine (csqrt_any _ _ Q _ h).mono ?_; rintro e w' ⟨rfl, rfl⟩)
  go_ret2
  exact ⟨rfl, rfl⟩
/-- impl.Sqrt of zero. -/
theorem csqrt_zero (x y : Nat) (w : World) (fx : fin x) (fy : fin y) (hx : val x = val 0) (hy : val y = val 0) : Calls Try.prog 48 #[.complex .f64 x y] w fun e w' => e = .returned (.complex .f64 0 y) ∧ w = w' := by
  have f0 := fin_zero
  have X := decide_eq_true hx
  have Y := decide_eq_true hy
  clear hx hy
  go_enter Try.func48, Try.ntmps48
  go_wp2
  go_ret
  exact ⟨rfl, rfl⟩
theorem sqrt_zero (x y : Nat) (w : World) (fx : fin x) (fy : fin y) (hx : val x = val 0) (hy : val y = val 0) : Calls Try.prog 38 #[.float .f64 x, .float .f64 y] w fun e w' => e = .returned (.tuple #[.float .f64 0, .float .f64 y]) ∧ w = w' := by
  go_enter Try.func38, Try.ntmps38
  go_wp2_with (go_at_call 48; refine (csqrt_zero _ _ _ fx fy hx hy).mono ?_; rintro e w' ⟨rfl, rfl⟩)
  go_ret2
  exact ⟨rfl, rfl⟩
end Go.Proofs.Ytigckpmeppddcaa
