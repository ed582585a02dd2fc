/- FnLogSqrt: the law over the words, and the walk. Written by a program of ours (logsqrt.py). -/
import Derived.Test.YtigckpmeppddcaaLz
import Derived.Test.YtigckpmeppddcaaWt
set_option linter.unusedVariables false
namespace Go.Proofs.Ytigckpmeppddcaa
open Go.RowKit Cx

structure LsOk (x y : Nat) : Prop where
  hyp : HypOk x y
  ph : PhOk x y
  lo : LogOk (fhypt x y)
  fl : fin (lgw (fhypt x y))
  fp : fin (phw x y)
  i : SqIn x y 1152921504606846976
  hyp2 : HypOk (cre x y) (cim x y)
  ph2 : PhOk (cre x y) (cim x y)
  lo2 : LogOk (fhypt (cre x y) (cim x y))
  fl2 : fin (lgw (fhypt (cre x y) (cim x y)))
  fp2 : fin (phw (cre x y) (cim x y))
  d1 : Ieee.double.div (lgw (fhypt x y)) 4611686018427387904 = some (fdiv (lgw (fhypt x y)) 4611686018427387904)
  d2 : Ieee.double.div (phw x y) 4611686018427387904 = some (fdiv (phw x y) 4611686018427387904)
  fd1 : fin (fdiv (lgw (fhypt x y)) 4611686018427387904)
  fd2 : fin (fdiv (phw x y) 4611686018427387904)
  n1 : NearOk (lgw (fhypt (cre x y) (cim x y))) (fdiv (lgw (fhypt x y)) 4611686018427387904) w100
  n2 : NearOk (phw (cre x y) (cim x y)) (fdiv (phw x y) 4611686018427387904) w100
  sg : SgOk x y

theorem ls_num {a c h : Rat} (h1 : ab (a + a - c) ≤ 8 * el) (h2 : ab (h - c / 2) ≤ 50 * (1 / 4503599627370496)) : ab (a - h) ≤ 100 * (1 / 2199023255552) := by
  rw [el_val] at h1
  rw [ab_le] at *; constructor <;> grind
theorem ls_num2 {b d h : Rat} (h1 : ab (2 * b - d) ≤ 400 * ea) (h2 : ab (h - d / 2) ≤ 4 * (1 / 4503599627370496)) : ab (b - h) ≤ 100 * (1 / 2199023255552) := by
  rw [ea_val] at h1
  rw [ab_le] at *; constructor <;> grind

theorem ls_ok {x y : Nat} (hx : Whl x 1048576) (hy : Whl y 1048576) (h : ¬ (val x = val 0 ∧ val y = val 0)) : LsOk x y := by
  obtain ⟨L, S⟩ := whl_ln (by decide) hx hy h
  obtain ⟨fx, vx, bx⟩ := hx.iv
  obtain ⟨fy, vy, by'⟩ := hy.iv
  have bx : (iv x).natAbs ≤ 1048576 := bx
  have by' : (iv y).natAbs ≤ 1048576 := by'
  have nz : ¬ (iv x = 0 ∧ iv y = 0) := by
    rintro ⟨h1, h2⟩
    apply h
    rw [vx, vy, h1, h2, val_zero]
    exact ⟨rfl, rfl⟩
  have i := sqin_int fx fy vx vy nz (by omega) (by omega)
  have s := sq_is i
  have K32 : 32 * (1152921504606846976 : Rat) ≤ Cx.p2 240 := by decide +kernel
  have r := s.range i K32
  obtain ⟨_, _, _, z4, z5, z6⟩ := i.hyp
  obtain ⟨k1, k2, _, k4, k5, k6⟩ := r.hyp
  have P := ph_is i.ph
  have P2 := ph_is r.ph
  have hh := k6.half (by rw [eps_val]; decide +kernel)
  have rlo := r.lo
  have rhi := r.hi
  have l0 : 1 / 4 ≤ val (fhypt (cre x y) (cim x y)) := le_of_sq_le (Rat.le_of_lt k5) (by grind)
  have u0 : val (fhypt (cre x y) (cim x y)) ≤ 2147483648 := le_of_sq_le (by decide) (by grind)
  have lo2 : LogOk (fhypt (cre x y) (cim x y)) := by
    refine ⟨k4, Rat.le_trans (p2_mono (show (-60 : Int) ≤ -2 by decide)) ?_, Rat.le_trans u0 (Rat.le_trans (show (2147483648 : Rat) ≤ Cx.p2 31 by decide +kernel) (p2_mono (by decide)))⟩
    rw [show Cx.p2 (-2) = 1 / 4 by decide +kernel]; exact l0
  have I1 := L.lo.is
  have I2 := lo2.is
  -- the root's size squared is near the size
  have R : Rl (20 * eps + 120 * eps + 10 * eps) (val (fhypt (cre x y) (cim x y)) * val (fhypt (cre x y) (cim x y))) (val (fhypt x y)) := by
    have e1 := (k6.sq (by rw [eps_val]; decide +kernel)).mono (show 2 * (10 * eps) ≤ 20 * eps by grind) (by rw [eps_val]; decide +kernel)
    have e2 := (e1.trans (s.norm i) (by rw [eps_val]; decide +kernel)).trans z6.symm (by rw [eps_val]; decide +kernel)
    exact e2.of_sq (Rat.mul_pos k5 k5) z5
  have M := I2.lg.mul I2.lg (Rat.le_trans I2.le (by decide +kernel)) (Rat.le_trans I2.le (by decide +kernel)) (by decide +kernel)
  have b2 := ab_le.1 I2.le
  have U := M.uniq (I1.lg.near R (by rw [eps_val]; decide +kernel)) (by rw [ab_le]; constructor <;> grind) (Rat.le_trans I1.le (by decide +kernel)) (by rw [eps_val]; decide +kernel)
  have U' := Rat.le_trans U (show _ ≤ 8 * el by rw [eps_val]; decide +kernel)
  obtain ⟨d1, f1, q1⟩ := fdiv2 I1.f I1.le (by decide +kernel) (by decide +kernel)
  obtain ⟨d2, f2, q2⟩ := fdiv2 P.f (B := 4) (Rat.le_trans P.le (by decide +kernel)) (by decide +kernel) (by decide +kernel)
  have hp := half_phase i s K32
  have n1 := ls_num U' q1
  have n2 := ls_num2 hp q2
  have ph4 := ab_le.1 P.le
  have i50 := ab_le.1 I1.le
  have q1' := ab_le.1 q1
  have q2' := ab_le.1 q2
  refine ⟨L.hyp, i.ph, L.lo, I1.f, P.f, i, ⟨s.fp, s.fq, fun _ => ⟨k1, k2⟩⟩, r.ph, lo2, I2.f, P2.f, d1, d2, f1, f2, ?_, ?_, S⟩
  · refine near_c I2.f f1 fin_w100 val_w100 (by decide +kernel) (by decide +kernel) (Rat.le_trans I2.le (by decide +kernel)) ?_ n1
    rw [ab_le]; constructor <;> grind
  · refine near_c P2.f f2 fin_w100 val_w100 (by decide +kernel) (by decide +kernel) (Rat.le_trans P2.le (by decide +kernel)) ?_ n2
    rw [ab_le]; constructor <;> grind

set_option maxHeartbeats 1000000 in
set_option maxRecDepth 20000 in
theorem logSqrt_walk (x y : Nat) (w : World) (hx : x < 18446744073709551616) (hy : y < 18446744073709551616) :
    Calls Try.prog 20 #[.float .f64 x, .float .f64 y] w fun e w' => e = .returned (.bool true) ∧ Below w.heap.size w w' := by
  have fm : fin 4697254411347427328 := fin_of _ (by decide)
  have vm : val 4697254411347427328 = (1048576 : Int) := by decide +kernel
  have HM := Lib.hid vm
  clear vm
  have f0 := fin_zero
  have f100 := fin_w100
  have fone := fin_one
  by_cases hwx : Whl x 1048576
  · by_cases hwy : Whl y 1048576
    · have fx := hwx.1
      have fy := hwy.1
      by_cases hz : val x = val 0 ∧ val y = val 0
      · have z1 := decide_eq_true hz.1
        have z2 := decide_eq_true hz.2
        clear hz
        go_enter Try.func20, Try.ntmps20
        go_wp2_with (go_at_call 35; refine (whole_yes _ _ 1048576 _ (by assumption) fm HM.out (by omega)).mono ?_; rintro e w' ⟨rfl, rfl⟩)
        go_ret
        exact ⟨rfl, Below.refl _ _⟩
      · obtain ⟨l1, l2, l3, l4, l5, l6, l7, l8, l9, l10, l11, d1, d2, l12, l13, n1, n2, ⟨s1, s2, s3, s4⟩⟩ := ls_ok hwx hwy hz
        have hd1 := fun t w => run_fdiv (P := Try.prog) w t _ _ _ d1
        have hd2 := fun t w => run_fdiv (P := Try.prog) w t _ _ _ d2
        have HN1 := Lib.hid n1
        have HN2 := Lib.hid n2
        have HS := Lib.hid s4
        have HI := Lib.hid l6
        have HZ := Lib.hid hz
        clear hz n1 n2 s4 l6 d1 d2
        unfold w100 Cx.one at *
        by_cases zx : val x = val 0
        · have zy : ¬ val y = val 0 := fun h => HZ.out ⟨zx, h⟩
          have ZX := decide_eq_true zx
          clear zx HZ
          rcases HS.out with ⟨t1, t2⟩ | ⟨t1, t2⟩
          · clear HS
            go_enter Try.func20, Try.ntmps20
            go_wp2_with (first | (go_at_call 35; refine (whole_yes _ _ 1048576 _ (by assumption) fm HM.out (by omega)).mono ?_; rintro e w' ⟨rfl, rfl⟩) | (go_at_call 38; refine (sqrt_any _ _ 1152921504606846976 _ HI.out).mono ?_; rintro e w' ⟨rfl, rfl⟩))
            refine (log_any _ _ _ l7 l8 l9).mono ?_
            rintro e w' ⟨rfl, rfl⟩
            go_wp2_with fail
            refine (log_any _ _ _ l1 l2 l3).mono ?_
            rintro e w' ⟨rfl, rfl⟩
            go_wp2_with fail
            refine (near_yes _ _ _ _ l10 l12 f100 HN1.out).mono ?_
            rintro e w' ⟨rfl, rfl⟩
            go_wp2_with fail
            refine (near_yes _ _ _ _ l11 l13 f100 HN2.out).mono ?_
            rintro e w' ⟨rfl, rfl⟩
            go_wp2
            go_ret
            exact ⟨rfl, Below.refl _ _⟩
          · clear HS
            go_enter Try.func20, Try.ntmps20
            go_wp2_with (first | (go_at_call 35; refine (whole_yes _ _ 1048576 _ (by assumption) fm HM.out (by omega)).mono ?_; rintro e w' ⟨rfl, rfl⟩) | (go_at_call 38; refine (sqrt_any _ _ 1152921504606846976 _ HI.out).mono ?_; rintro e w' ⟨rfl, rfl⟩))
            refine (log_any _ _ _ l7 l8 l9).mono ?_
            rintro e w' ⟨rfl, rfl⟩
            go_wp2_with fail
            refine (log_any _ _ _ l1 l2 l3).mono ?_
            rintro e w' ⟨rfl, rfl⟩
            go_wp2_with fail
            refine (near_yes _ _ _ _ l10 l12 f100 HN1.out).mono ?_
            rintro e w' ⟨rfl, rfl⟩
            go_wp2_with fail
            refine (near_yes _ _ _ _ l11 l13 f100 HN2.out).mono ?_
            rintro e w' ⟨rfl, rfl⟩
            go_wp2
            go_ret
            exact ⟨rfl, Below.refl _ _⟩
        · clear HZ
          rcases HS.out with ⟨t1, t2⟩ | ⟨t1, t2⟩
          · clear HS
            go_enter Try.func20, Try.ntmps20
            go_wp2_with (first | (go_at_call 35; refine (whole_yes _ _ 1048576 _ (by assumption) fm HM.out (by omega)).mono ?_; rintro e w' ⟨rfl, rfl⟩) | (go_at_call 38; refine (sqrt_any _ _ 1152921504606846976 _ HI.out).mono ?_; rintro e w' ⟨rfl, rfl⟩))
            refine (log_any _ _ _ l7 l8 l9).mono ?_
            rintro e w' ⟨rfl, rfl⟩
            go_wp2_with fail
            refine (log_any _ _ _ l1 l2 l3).mono ?_
            rintro e w' ⟨rfl, rfl⟩
            go_wp2_with fail
            refine (near_yes _ _ _ _ l10 l12 f100 HN1.out).mono ?_
            rintro e w' ⟨rfl, rfl⟩
            go_wp2_with fail
            refine (near_yes _ _ _ _ l11 l13 f100 HN2.out).mono ?_
            rintro e w' ⟨rfl, rfl⟩
            go_wp2
            go_ret
            exact ⟨rfl, Below.refl _ _⟩
          · clear HS
            go_enter Try.func20, Try.ntmps20
            go_wp2_with (first | (go_at_call 35; refine (whole_yes _ _ 1048576 _ (by assumption) fm HM.out (by omega)).mono ?_; rintro e w' ⟨rfl, rfl⟩) | (go_at_call 38; refine (sqrt_any _ _ 1152921504606846976 _ HI.out).mono ?_; rintro e w' ⟨rfl, rfl⟩))
            refine (log_any _ _ _ l7 l8 l9).mono ?_
            rintro e w' ⟨rfl, rfl⟩
            go_wp2_with fail
            refine (log_any _ _ _ l1 l2 l3).mono ?_
            rintro e w' ⟨rfl, rfl⟩
            go_wp2_with fail
            refine (near_yes _ _ _ _ l10 l12 f100 HN1.out).mono ?_
            rintro e w' ⟨rfl, rfl⟩
            go_wp2_with fail
            refine (near_yes _ _ _ _ l11 l13 f100 HN2.out).mono ?_
            rintro e w' ⟨rfl, rfl⟩
            go_wp2
            go_ret
            exact ⟨rfl, Below.refl _ _⟩
    · go_enter Try.func20, Try.ntmps20
      go_wp2_with fail
      refine (whole_yes _ _ 1048576 _ hwx fm HM.out (by omega)).mono ?_
      rintro e w' ⟨rfl, rfl⟩
      go_wp2_with fail
      refine (whole_no _ _ 1048576 _ hy hwy fm HM.out (by omega)).mono ?_
      rintro e w' ⟨rfl, rfl⟩
      go_wp2
      go_ret
      exact ⟨rfl, Below.refl _ _⟩
  · go_enter Try.func20, Try.ntmps20
    go_wp2_with fail
    refine (whole_no _ _ 1048576 _ hx hwx fm HM.out (by omega)).mono ?_
    rintro e w' ⟨rfl, rfl⟩
    go_wp2
    go_ret
    exact ⟨rfl, Below.refl _ _⟩
end Go.Proofs.Ytigckpmeppddcaa
