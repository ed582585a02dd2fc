/- FnScript: the walk. -/
import Derived.Test.YtigckpmeppddcaaSc
import Derived.Test.YtigckpmeppddcaaSumConj
set_option linter.unusedVariables false
namespace Go.Proofs.Ytigckpmeppddcaa
open Go.RowKit Cx

/-- What the walk is told of a slice of ints that came in. -/
def IRow (w : World) (a : Option Addr) (len : Nat) (Z : Nat → Int) : Prop :=
  len ≤ 9223372036854775807 ∧ (len = 0 ∨ ∃ b off, a = some ⟨b, off, none⟩ ∧ ∀ i, i < len → w.cell? ⟨b, off + i, none⟩ = some (.int .i64 (Z i)))

/-- cmplx.Polar. -/
theorem cpolar_any (x y : Nat) (w : World) (h : HypOk x y) (h' : PhOk x y) : Calls Try.prog 49 #[.complex .f64 x y] w fun e w' => e = .returned (.tuple #[.float .f64 (fhypt x y), .float .f64 (phw x y)]) ∧ w = w' := by
  go_enter Try.func49, Try.ntmps49
  go_wp2_with (first | (go_at_call 46; refine (cabs_any _ _ _ h).mono ?_; rintro e w' ⟨rfl, rfl⟩) | (go_at_call 47; refine (cphase_any _ _ _ h').mono ?_; rintro e w' ⟨rfl, rfl⟩))
  go_ret2
  exact ⟨rfl, rfl⟩
/-- impl.Polar. -/
theorem polar_any (x y : Nat) (w : World) (h : HypOk x y) (h' : PhOk x y) : Calls Try.prog 39 #[.float .f64 x, .float .f64 y] w fun e w' => e = .returned (.tuple #[.float .f64 (fhypt x y), .float .f64 (phw x y)]) ∧ w = w' := by
  go_enter Try.func39, Try.ntmps39
  go_wp2_with (go_at_call 49; refine (cpolar_any _ _ _ h h').mono ?_; rintro e w' ⟨rfl, rfl⟩)
  go_ret2
  exact ⟨rfl, rfl⟩

set_option maxHeartbeats 2000000 in
set_option maxRecDepth 20000 in
theorem script_walk (a0 : Option Addr) (n c0 : Nat) (Z : Nat → Int) (x y : Nat) (w : World) (h0 : IRow w a0 n Z) (hx : x < 18446744073709551616) (hy : y < 18446744073709551616) :
    Calls Try.prog 17 #[.slice a0 n c0, .float .f64 x, .float .f64 y] w fun e w' => e = .returned (.bool true) ∧ Below w.heap.size w w' := by
  have fm : fin 4652218415073722368 := fin_of _ (by decide)
  have vm : val 4652218415073722368 = (1024 : Int) := by decide +kernel
  have HM := Lib.hid vm
  clear vm
  have f0 := fin_zero
  have f1000 := fin_thousand
  have hl := h0.1
  by_cases hn : 40 < n
  · have hn' : (40 : Int) < (n : Int) := by omega
    go_enter Try.func17, Try.ntmps17
    go_wp2
    go_ret
    exact ⟨rfl, Below.refl _ _⟩
  have hn' : (n : Int) ≤ 40 := by omega
  by_cases hwx : Whl x 1024
  · by_cases hwy : Whl y 1024
    · have fx := hwx.1
      have fy := hwy.1
      by_cases hz : val x = val 0 ∧ val y = val 0
      · have z1 := decide_eq_true hz.1
        have z2 := decide_eq_true hz.2
        clear hz
        go_enter Try.func17, Try.ntmps17
        go_wp2_with (go_at_call 35; refine (whole_yes _ _ 1024 _ (by assumption) fm HM.out (by omega)).mono ?_; rintro e w' ⟨rfl, rfl⟩)
        go_ret
        exact ⟨rfl, Below.refl _ _⟩
      · have S0 := sc_start hwx hwy hz
        have E0 := sc_end S0 (by decide)
        have hyp := E0.hyp
        have ph := E0.ph
        have fh := E0.fh
        have fp := E0.fp
        have sp : ¬ val (fhypt x y) ≤ val 0 := by have := S0.sp; rw [val_zero]; grind
        have HS := Lib.hid S0
        have HR := Lib.hid h0
        have HZ := Lib.hid hz
        clear hz S0 E0 h0
        by_cases zx : val x = val 0
        · have zy : ¬ val y = val 0 := fun h => HZ.out ⟨zx, h⟩
          have ZX := decide_eq_true zx
          clear zx HZ
          go_enter Try.func17, Try.ntmps17
          go_wp2_with (first | (go_at_call 35; refine (whole_yes _ _ 1024 _ (by assumption) fm HM.out (by omega)).mono ?_; rintro e w' ⟨rfl, rfl⟩) | (go_at_call 39; refine (polar_any _ _ _ hyp ph).mono ?_; rintro e w' ⟨rfl, rfl⟩))
          go_loop [1, 2, 7, 8, 44] (fun X Y S A i => ∃ j x' y' s' a' : Nat, j ≤ n ∧ i = .int .i64 j ∧ X = .float .f64 x' ∧ Y = .float .f64 y' ∧ S = .float .f64 s' ∧ A = .float .f64 a' ∧ ScI j x' y' s' a') (fun _ _ _ _ i => n - (intOf i).toNat)
          case atStart => exact ⟨0, _, _, _, _, Nat.zero_le _, rfl, rfl, rfl, rfl, rfl, HS.out⟩
          case round =>
            obtain ⟨j, x', y', s', a', hj, rfl, rfl, rfl, rfl, rfl, I⟩ := hrel
            have HI := Lib.hid I
            have gx := I.i.fx
            have gy := I.i.fy
            have gs := I.fs
            have ga := I.fa
            clear I
            by_cases hlt : j < n
            · obtain ⟨b, off, rfl, hc⟩ := HR.out.2.resolve_left (by omega)
              have c1 := hc j hlt
              clear hc
              by_cases o0 : Z j = 0
              · rw [o0] at c1
                have HN := Lib.hid (sc_conj HI.out (by omega))
                clear o0
                go_wp2_with (go_at_call 22; refine (conj_any _ _ _).mono ?_; rintro e w' ⟨rfl, rfl⟩)
                go_round
                case rel => exact ⟨j + 1, _, _, _, _, by omega, by go_num, rfl, rfl, rfl, rfl, HN.out⟩
                case measure => simp [intOf]; omega
              by_cases o1 : Z j = 1
              · rw [o1] at c1
                clear o0 o1
                have g31 := fin_w31
                have gn31 := fin_wn31
                by_cases g1 : val w31 < val a'
                · unfold w31 wn31 at *
                  go_wp2
                  go_ret
                  exact ⟨rfl, Below.refl _ _⟩
                by_cases g2 : val a' < val wn31
                · unfold w31 wn31 at *
                  go_wp2
                  go_ret
                  exact ⟨rfl, Below.refl _ _⟩
                obtain ⟨d1, z1, N⟩ := sc_root HI.out (by omega) g1 g2
                have HN := Lib.hid N
                have hd := fun t w => run_fdiv (P := Try.prog) w t _ _ _ d1
                have H1 := Lib.hid HI.out.i
                have H2 := Lib.hid z1
                clear N d1 z1
                unfold w31 wn31 two at *
                go_wp2_with fail
                refine (sqrt_any _ _ (QS j) _ H1.out).mono ?_
                rintro e w' ⟨rfl, rfl⟩
                go_wp2_with fail
                refine (sqrt_any _ _ 4194304 _ H2.out).mono ?_
                rintro e w' ⟨rfl, rfl⟩
                go_wp2
                go_round
                case rel => exact ⟨j + 1, _, _, _, _, by omega, by go_num, rfl, rfl, rfl, rfl, HN.out⟩
                case measure => simp [intOf]; omega
              by_cases o2 : Z j = 2
              · rw [o2] at c1
                clear o0 o1 o2
                obtain ⟨t1, t2, N⟩ := sc_quarter HI.out (by omega)
                have HN := Lib.hid N
                have H2 := Lib.hid t2
                have fpi := fin_pio2
                clear N t2
                unfold wpio2 at *
                go_wp2_with (go_at_call 36; refine (turned_any _ _ t1 H2.out).mono ?_; rintro e w' ⟨rfl, rfl⟩)
                go_round
                case rel => exact ⟨j + 1, _, _, _, _, by omega, by go_num, rfl, rfl, rfl, rfl, HN.out⟩
                case measure => simp [intOf]; omega
              have q0 : (Z j == 0) = false := by simp; exact o0
              have q1 : (Z j == 1) = false := by simp; exact o1
              have q2 : (Z j == 2) = false := by simp; exact o2
              clear o0 o1 o2
              obtain ⟨t1, t2, N⟩ := sc_half HI.out (by omega)
              have HN := Lib.hid N
              have H2 := Lib.hid t2
              have fpi := fin_pi
              clear N t2
              unfold wpi at *
              go_wp2_with (go_at_call 36; refine (turned_any _ _ t1 H2.out).mono ?_; rintro e w' ⟨rfl, rfl⟩)
              go_round
              case rel => exact ⟨j + 1, _, _, _, _, by omega, by go_num, rfl, rfl, rfl, rfl, HN.out⟩
              case measure => simp [intOf]; omega
            · obtain rfl : j = n := by omega
              obtain ⟨e1, e2, e3, e4, e5, e6, e7, e8, e9, e10⟩ := sc_end HI.out (by omega)
              have H1 := Lib.hid e6
              have H2 := Lib.hid e8
              have H3 := Lib.hid e10
              clear e6 e8 e10
              unfold thousand at *
              go_wp2_with (go_at_call 39; refine (polar_any _ _ _ e1 e2).mono ?_; rintro e w' ⟨rfl, rfl⟩)
              refine (near_yes _ _ _ _ e3 gs e5 H1.out).mono ?_
              rintro e w' ⟨rfl, rfl⟩
              go_wp2_with (go_at_call 36; refine (turned_any _ _ e7 H2.out).mono ?_; rintro e w' ⟨rfl, rfl⟩)
              refine (near_yes _ _ _ _ e9 f0 f1000 H3.out).mono ?_
              rintro e w' ⟨rfl, rfl⟩
              go_wp2
              go_ret
              exact ⟨rfl, Below.refl _ _⟩
        · clear HZ
          go_enter Try.func17, Try.ntmps17
          go_wp2_with (first | (go_at_call 35; refine (whole_yes _ _ 1024 _ (by assumption) fm HM.out (by omega)).mono ?_; rintro e w' ⟨rfl, rfl⟩) | (go_at_call 39; refine (polar_any _ _ _ hyp ph).mono ?_; rintro e w' ⟨rfl, rfl⟩))
          go_loop [1, 2, 7, 8, 44] (fun X Y S A i => ∃ j x' y' s' a' : Nat, j ≤ n ∧ i = .int .i64 j ∧ X = .float .f64 x' ∧ Y = .float .f64 y' ∧ S = .float .f64 s' ∧ A = .float .f64 a' ∧ ScI j x' y' s' a') (fun _ _ _ _ i => n - (intOf i).toNat)
          case atStart => exact ⟨0, _, _, _, _, Nat.zero_le _, rfl, rfl, rfl, rfl, rfl, HS.out⟩
          case round =>
            obtain ⟨j, x', y', s', a', hj, rfl, rfl, rfl, rfl, rfl, I⟩ := hrel
            have HI := Lib.hid I
            have gx := I.i.fx
            have gy := I.i.fy
            have gs := I.fs
            have ga := I.fa
            clear I
            by_cases hlt : j < n
            · obtain ⟨b, off, rfl, hc⟩ := HR.out.2.resolve_left (by omega)
              have c1 := hc j hlt
              clear hc
              by_cases o0 : Z j = 0
              · rw [o0] at c1
                have HN := Lib.hid (sc_conj HI.out (by omega))
                clear o0
                go_wp2_with (go_at_call 22; refine (conj_any _ _ _).mono ?_; rintro e w' ⟨rfl, rfl⟩)
                go_round
                case rel => exact ⟨j + 1, _, _, _, _, by omega, by go_num, rfl, rfl, rfl, rfl, HN.out⟩
                case measure => simp [intOf]; omega
              by_cases o1 : Z j = 1
              · rw [o1] at c1
                clear o0 o1
                have g31 := fin_w31
                have gn31 := fin_wn31
                by_cases g1 : val w31 < val a'
                · unfold w31 wn31 at *
                  go_wp2
                  go_ret
                  exact ⟨rfl, Below.refl _ _⟩
                by_cases g2 : val a' < val wn31
                · unfold w31 wn31 at *
                  go_wp2
                  go_ret
                  exact ⟨rfl, Below.refl _ _⟩
                obtain ⟨d1, z1, N⟩ := sc_root HI.out (by omega) g1 g2
                have HN := Lib.hid N
                have hd := fun t w => run_fdiv (P := Try.prog) w t _ _ _ d1
                have H1 := Lib.hid HI.out.i
                have H2 := Lib.hid z1
                clear N d1 z1
                unfold w31 wn31 two at *
                go_wp2_with fail
                refine (sqrt_any _ _ (QS j) _ H1.out).mono ?_
                rintro e w' ⟨rfl, rfl⟩
                go_wp2_with fail
                refine (sqrt_any _ _ 4194304 _ H2.out).mono ?_
                rintro e w' ⟨rfl, rfl⟩
                go_wp2
                go_round
                case rel => exact ⟨j + 1, _, _, _, _, by omega, by go_num, rfl, rfl, rfl, rfl, HN.out⟩
                case measure => simp [intOf]; omega
              by_cases o2 : Z j = 2
              · rw [o2] at c1
                clear o0 o1 o2
                obtain ⟨t1, t2, N⟩ := sc_quarter HI.out (by omega)
                have HN := Lib.hid N
                have H2 := Lib.hid t2
                have fpi := fin_pio2
                clear N t2
                unfold wpio2 at *
                go_wp2_with (go_at_call 36; refine (turned_any _ _ t1 H2.out).mono ?_; rintro e w' ⟨rfl, rfl⟩)
                go_round
                case rel => exact ⟨j + 1, _, _, _, _, by omega, by go_num, rfl, rfl, rfl, rfl, HN.out⟩
                case measure => simp [intOf]; omega
              have q0 : (Z j == 0) = false := by simp; exact o0
              have q1 : (Z j == 1) = false := by simp; exact o1
              have q2 : (Z j == 2) = false := by simp; exact o2
              clear o0 o1 o2
              obtain ⟨t1, t2, N⟩ := sc_half HI.out (by omega)
              have HN := Lib.hid N
              have H2 := Lib.hid t2
              have fpi := fin_pi
              clear N t2
              unfold wpi at *
              go_wp2_with (go_at_call 36; refine (turned_any _ _ t1 H2.out).mono ?_; rintro e w' ⟨rfl, rfl⟩)
              go_round
              case rel => exact ⟨j + 1, _, _, _, _, by omega, by go_num, rfl, rfl, rfl, rfl, HN.out⟩
              case measure => simp [intOf]; omega
            · obtain rfl : j = n := by omega
              obtain ⟨e1, e2, e3, e4, e5, e6, e7, e8, e9, e10⟩ := sc_end HI.out (by omega)
              have H1 := Lib.hid e6
              have H2 := Lib.hid e8
              have H3 := Lib.hid e10
              clear e6 e8 e10
              unfold thousand at *
              go_wp2_with (go_at_call 39; refine (polar_any _ _ _ e1 e2).mono ?_; rintro e w' ⟨rfl, rfl⟩)
              refine (near_yes _ _ _ _ e3 gs e5 H1.out).mono ?_
              rintro e w' ⟨rfl, rfl⟩
              go_wp2_with (go_at_call 36; refine (turned_any _ _ e7 H2.out).mono ?_; rintro e w' ⟨rfl, rfl⟩)
              refine (near_yes _ _ _ _ e9 f0 f1000 H3.out).mono ?_
              rintro e w' ⟨rfl, rfl⟩
              go_wp2
              go_ret
              exact ⟨rfl, Below.refl _ _⟩
    · go_enter Try.func17, Try.ntmps17
      go_wp2_with fail
      refine (whole_yes _ _ 1024 _ hwx fm HM.out (by omega)).mono ?_
      rintro e w' ⟨rfl, rfl⟩
      go_wp2_with fail
      refine (whole_no _ _ 1024 _ hy hwy fm HM.out (by omega)).mono ?_
      rintro e w' ⟨rfl, rfl⟩
      go_wp2
      go_ret
      exact ⟨rfl, Below.refl _ _⟩
  · go_enter Try.func17, Try.ntmps17
    go_wp2_with fail
    refine (whole_no _ _ 1024 _ hx hwx fm HM.out (by omega)).mono ?_
    rintro e w' ⟨rfl, rfl⟩
    go_wp2
    go_ret
    exact ⟨rfl, Below.refl _ _⟩
end Go.Proofs.Ytigckpmeppddcaa
