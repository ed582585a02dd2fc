/- FnLogAbs: the law over the words, and the walk. Written by a program of ours (logabs.py). -/
import Derived.Test.YtigckpmeppddcaaLz
import Derived.Test.YtigckpmeppddcaaSqc
set_option linter.unusedVariables false
namespace Go.Proofs.Ytigckpmeppddcaa
open Go.RowKit Cx

theorem lsq_lo {v N : Rat} (h : Rl (10 * eps) (v * v) N) (hN : 1 ≤ N) : 9 / 10 ≤ v * v := by
  have lo := h.lo
  rw [eps_val] at lo
  grind

/-- The absolute value, as a number of its own. -/
theorem ln_size {x y : Nat} {a b : Int} (L : LnOk x y a b) (h : ¬ (a = 0 ∧ b = 0)) (ba : a.natAbs ≤ 1048576) (bb : b.natAbs ≤ 1048576) : SqIn (fhypt x y) 0 1 := by
  have e : nrm (fhypt x y) 0 = val (fhypt x y) * val (fhypt x y) := by unfold nrm; rw [val_zero]; grind
  have h1 : (1 : Rat) ≤ ((a * a + b * b : Int) : Rat) := by
    have := Rat.intCast_le_intCast.2 (one_le_sq h)
    exact this
  have hh := L.rl.half (by rw [eps_val]; decide +kernel)
  have hN : ((a * a + b * b : Int) : Rat) ≤ 4398046511104 := by
    have t1 := sq_bound ba
    have t2 := sq_bound bb
    have := Rat.intCast_le_intCast.2 (show a * a + b * b ≤ 4398046511104 by omega)
    exact this
  have lo := lsq_lo L.rl h1
  refine ⟨L.H.fh, fin_zero, by rw [e]; grind, by rw [e]; grind, by decide, by decide +kernel, ?_, Or.inl val_zero⟩
  right; rw [e]; grind

structure LaOk (x y : Nat) : Prop where
  hyp : HypOk x y
  ph : PhOk x y
  lo : LogOk (fhypt x y)
  fl : fin (lgw (fhypt x y))
  hyp2 : HypOk (fhypt x y) 0
  ph2 : PhOk (fhypt x y) 0
  lo2 : LogOk (fhypt (fhypt x y) 0)
  fl2 : fin (lgw (fhypt (fhypt x y) 0))
  fp2 : fin (phw (fhypt x y) 0)
  near : NearOk (lgw (fhypt x y)) (lgw (fhypt (fhypt x y) 0)) w100
  z : decide (val (phw (fhypt x y) 0) = val 0) = true
  sg : SgOk x y

theorem la_ok {x y : Nat} (hx : Whl x 1048576) (hy : Whl y 1048576) (h : ¬ (val x = val 0 ∧ val y = val 0)) : LaOk x y := by
  obtain ⟨L, S⟩ := whl_ln (by decide) hx hy h
  obtain ⟨fx, vx, bx⟩ := hx.iv
  obtain ⟨fy, vy, by'⟩ := hy.iv
  have nz : ¬ (iv x = 0 ∧ iv y = 0) := by
    rintro ⟨h1, h2⟩
    apply h
    rw [vx, vy, h1, h2, val_zero]
    exact ⟨rfl, rfl⟩
  have Z := ln_size L nz bx by'
  obtain ⟨k1, k2, _, k4, k5, k6⟩ := Z.hyp
  have P := ph_is Z.ph
  have hv : 0 < val (fhypt x y) := by have := L.H.ge nz; grind
  have e : nrm (fhypt x y) 0 = val (fhypt x y) * val (fhypt x y) := by unfold nrm; rw [val_zero]; grind
  rw [e] at k6
  have R := k6.of_sq k5 hv
  have hh := R.half (by rw [eps_val]; decide +kernel)
  have lo := L.lo
  have l1 : Cx.p2 (-60) ≤ val (fhypt (fhypt x y) 0) := by
    have hge := L.H.ge nz
    refine Rat.le_trans (p2_mono (show (-60 : Int) ≤ -2 by decide)) ?_
    have : Cx.p2 (-2) = 1 / 4 := by decide +kernel
    rw [this]; grind
  have hz := Z.hi
  rw [e] at hz
  have hu : val (fhypt x y) ≤ 1073741824 := le_of_sq_le (by decide) (by grind)
  have l2 : val (fhypt (fhypt x y) 0) ≤ Cx.p2 60 := by
    refine Rat.le_trans (show _ ≤ (2147483648 : Rat) by grind) ?_
    exact Rat.le_trans (show (2147483648 : Rat) ≤ Cx.p2 31 by decide +kernel) (p2_mono (by decide))
  have lo2 : LogOk (fhypt (fhypt x y) 0) := ⟨k4, l1, l2⟩
  have I1 := lo.is
  have I2 := lo2.is
  have U := (I1.lg.near R (by rw [eps_val]; decide +kernel)).uniq I2.lg (Rat.le_trans I1.le (by decide +kernel)) (Rat.le_trans I2.le (by decide +kernel)) (by rw [eps_val]; decide +kernel)
  refine ⟨L.hyp, L.D.ok, lo, I1.f, ⟨L.H.fh, fin_zero, fun _ => ⟨k1, k2⟩⟩, Z.ph, lo2, I2.f, P.f, ?_, ?_, S⟩
  · refine near_c I1.f I2.f fin_w100 val_w100 (by decide +kernel) (by decide +kernel) (Rat.le_trans I1.le (by decide +kernel)) (Rat.le_trans I2.le (by decide +kernel)) (Rat.le_trans U (by rw [eps_val]; decide +kernel))
  · exact decide_eq_true (by rw [val_zero]; exact P.zero.2 ⟨val_zero, hv⟩)

set_option maxHeartbeats 1000000 in
set_option maxRecDepth 20000 in
theorem logAbs_walk (x y : Nat) (w : World) (hx : x < 18446744073709551616) (hy : y < 18446744073709551616) :
    Calls Try.prog 19 #[.float .f64 x, .float .f64 y] w fun e w' => e = .returned (.bool true) ∧ Below w.heap.size w w' := by
  have fm : fin 4697254411347427328 := fin_of _ (by decide)
  have vm : val 4697254411347427328 = (1048576 : Int) := by decide +kernel
  have HM := Lib.hid vm
  clear vm
  have f0 := fin_zero
  have f100 := fin_w100
  have fone := fin_one
  by_cases hwx : Whl x 1048576
  · by_cases hwy : Whl y 1048576
    · have fx := hwx.1
      have fy := hwy.1
      by_cases hz : val x = val 0 ∧ val y = val 0
      · have z1 := decide_eq_true hz.1
        have z2 := decide_eq_true hz.2
        clear hz
        go_enter Try.func19, Try.ntmps19
        go_wp2_with (go_at_call 35; refine (whole_yes _ _ 1048576 _ (by assumption) fm HM.out (by omega)).mono ?_; rintro e w' ⟨rfl, rfl⟩)
        go_ret
        exact ⟨rfl, Below.refl _ _⟩
      · obtain ⟨l1, l2, l3, l4, l5, l6, l7, l8, l9, l10, l11, ⟨s1, s2, s3, s4⟩⟩ := la_ok hwx hwy hz
        have HN := Lib.hid l10
        have HS := Lib.hid s4
        have HZ := Lib.hid hz
        clear hz l10 s4
        unfold w100 Cx.one at *
        by_cases zx : val x = val 0
        · have zy : ¬ val y = val 0 := fun h => HZ.out ⟨zx, h⟩
          have ZX := decide_eq_true zx
          clear zx HZ
          rcases HS.out with ⟨t1, t2⟩ | ⟨t1, t2⟩
          · clear HS
            go_enter Try.func19, Try.ntmps19
            go_wp2_with (go_at_call 35; refine (whole_yes _ _ 1048576 _ (by assumption) fm HM.out (by omega)).mono ?_; rintro e w' ⟨rfl, rfl⟩)
            refine (log_any _ _ _ l1 l2 l3).mono ?_
            rintro e w' ⟨rfl, rfl⟩
            go_wp2_with (go_at_call 31; refine (abs_any _ _ _ l1).mono ?_; rintro e w' ⟨rfl, rfl⟩)
            refine (log_any _ _ _ l5 l6 l7).mono ?_
            rintro e w' ⟨rfl, rfl⟩
            go_wp2_with fail
            refine (near_yes _ _ _ _ l4 l8 f100 HN.out).mono ?_
            rintro e w' ⟨rfl, rfl⟩
            go_wp2
            go_ret
            exact ⟨rfl, Below.refl _ _⟩
          · clear HS
            go_enter Try.func19, Try.ntmps19
            go_wp2_with (go_at_call 35; refine (whole_yes _ _ 1048576 _ (by assumption) fm HM.out (by omega)).mono ?_; rintro e w' ⟨rfl, rfl⟩)
            refine (log_any _ _ _ l1 l2 l3).mono ?_
            rintro e w' ⟨rfl, rfl⟩
            go_wp2_with (go_at_call 31; refine (abs_any _ _ _ l1).mono ?_; rintro e w' ⟨rfl, rfl⟩)
            refine (log_any _ _ _ l5 l6 l7).mono ?_
            rintro e w' ⟨rfl, rfl⟩
            go_wp2_with fail
            refine (near_yes _ _ _ _ l4 l8 f100 HN.out).mono ?_
            rintro e w' ⟨rfl, rfl⟩
            go_wp2
            go_ret
            exact ⟨rfl, Below.refl _ _⟩
        · clear HZ
          rcases HS.out with ⟨t1, t2⟩ | ⟨t1, t2⟩
          · clear HS
            go_enter Try.func19, Try.ntmps19
            go_wp2_with (go_at_call 35; refine (whole_yes _ _ 1048576 _ (by assumption) fm HM.out (by omega)).mono ?_; rintro e w' ⟨rfl, rfl⟩)
            refine (log_any _ _ _ l1 l2 l3).mono ?_
            rintro e w' ⟨rfl, rfl⟩
            go_wp2_with (go_at_call 31; refine (abs_any _ _ _ l1).mono ?_; rintro e w' ⟨rfl, rfl⟩)
            refine (log_any _ _ _ l5 l6 l7).mono ?_
            rintro e w' ⟨rfl, rfl⟩
            go_wp2_with fail
            refine (near_yes _ _ _ _ l4 l8 f100 HN.out).mono ?_
            rintro e w' ⟨rfl, rfl⟩
            go_wp2
            go_ret
            exact ⟨rfl, Below.refl _ _⟩
          · clear HS
            go_enter Try.func19, Try.ntmps19
            go_wp2_with (go_at_call 35; refine (whole_yes _ _ 1048576 _ (by assumption) fm HM.out (by omega)).mono ?_; rintro e w' ⟨rfl, rfl⟩)
            refine (log_any _ _ _ l1 l2 l3).mono ?_
            rintro e w' ⟨rfl, rfl⟩
            go_wp2_with (go_at_call 31; refine (abs_any _ _ _ l1).mono ?_; rintro e w' ⟨rfl, rfl⟩)
            refine (log_any _ _ _ l5 l6 l7).mono ?_
            rintro e w' ⟨rfl, rfl⟩
            go_wp2_with fail
            refine (near_yes _ _ _ _ l4 l8 f100 HN.out).mono ?_
            rintro e w' ⟨rfl, rfl⟩
            go_wp2
            go_ret
            exact ⟨rfl, Below.refl _ _⟩
    · go_enter Try.func19, Try.ntmps19
      go_wp2_with fail
      refine (whole_yes _ _ 1048576 _ hwx fm HM.out (by omega)).mono ?_
      rintro e w' ⟨rfl, rfl⟩
      go_wp2_with fail
      refine (whole_no _ _ 1048576 _ hy hwy fm HM.out (by omega)).mono ?_
      rintro e w' ⟨rfl, rfl⟩
      go_wp2
      go_ret
      exact ⟨rfl, Below.refl _ _⟩
  · go_enter Try.func19, Try.ntmps19
    go_wp2_with fail
    refine (whole_no _ _ 1048576 _ hx hwx fm HM.out (by omega)).mono ?_
    rintro e w' ⟨rfl, rfl⟩
    go_wp2
    go_ret
    exact ⟨rfl, Below.refl _ _⟩
end Go.Proofs.Ytigckpmeppddcaa
