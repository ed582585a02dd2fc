/- FnQuadratic: the walk. -/
import Derived.Test.YtigckpmeppddcaaQd
set_option linter.unusedVariables false
namespace Go.Proofs.Ytigckpmeppddcaa
open Go.RowKit Cx

set_option maxHeartbeats 2000000 in
set_option maxRecDepth 20000 in
theorem quadratic_walk (x y u v : Nat) (w : World) (hx : x < 18446744073709551616) (hy : y < 18446744073709551616) (hu : u < 18446744073709551616) (hv : v < 18446744073709551616) :
    Calls Try.prog 14 #[.float .f64 x, .float .f64 y, .float .f64 u, .float .f64 v] w fun e w' => e = .returned (.bool true) ∧ Below w.heap.size w w' := by
  have fm : fin 4643211215818981376 := fin_of _ (by decide)
  have vm : val 4643211215818981376 = (256 : Int) := by decide +kernel
  have HM := Lib.hid vm
  clear vm
  have HB : Hid (∀ o1, Below w.heap.size w (w.alloc o1)) := Lib.hid (fun o1 => (Below.refl _ _).alloc (Nat.le_refl _) _)
  have f0 := fin_zero
  have f1000 := fin_thousand
  have f2 := fin_two
  have f4 := fin_w4
  have fo := fin_one
  have fn := fin_mone
  by_cases hwx : Whl x 256
  · by_cases hwy : Whl y 256
    · by_cases hwu : Whl u 256
      · by_cases hwv : Whl v 256
        · obtain ⟨m1, m2, m3, m4, i1, i2, i3, i4, i5, i6, hcs⟩ := qd_in hwx hwy hwu hwv
          have HC := Lib.hid hcs
          clear hcs
          have gx := hwx.1
          have gy := hwy.1
          have gu := hwu.1
          have gv := hwv.1
          rcases HC.out with ⟨si, fp, fq, O1, O2⟩ | ⟨zx, zy, O1, O2⟩
          · have HO1 := Lib.hid O1
            have HO2 := Lib.hid O2
            have SI := Lib.hid si
            clear O1 O2 HC si
            unfold dX dY at *
            unfold w4 mone Cx.one thousand two at *
            go_enter Try.func14, Try.ntmps14
            go_wp2_with (first | (go_at_call 35; refine (whole_yes _ _ 256 _ (by assumption) fm HM.out (by omega)).mono ?_; rintro e w' ⟨rfl, rfl⟩) | (go_at_call 37; refine (times_any _ _ _ _ _ (by assumption) (by assumption) (by assumption) (by assumption) (by assumption) (by assumption) (by assumption) (by assumption)).mono ?_; rintro e w' ⟨rfl, rfl⟩) | (go_at_call 38; refine (sqrt_any _ _ 1152921504606846976 _ SI.out).mono ?_; rintro e w' ⟨rfl, rfl⟩))
            clear SI
            generalize cre (fsub (tre x y x y) (fmul 4616189618054758400 u)) (fsub (tim x y x y) (fmul 4616189618054758400 v)) = p at *
            generalize cim (fsub (tre x y x y) (fmul 4616189618054758400 u)) (fsub (tim x y x y) (fmul 4616189618054758400 v)) = q at *
            go_loop [60] (fun i => ∃ k : Nat, k ≤ 2 ∧ i = .int .i64 k) (fun i => 2 - (intOf i).toNat)
            case atStart => exact ⟨0, by decide, rfl⟩
            case round =>
              obtain ⟨k, hk, rfl⟩ := hrel
              rcases (show k = 0 ∨ k = 1 ∨ k = 2 by omega) with rfl | rfl | rfl
              · obtain ⟨f1, f2', f3, f4', d1, d2, N⟩ := HO1.out
                have N := N _ _ rfl rfl
                unfold two thousand at *
                generalize fdiv (fsub (fmul 4607182418800017408 p) x) 4611686018427387904 = s at *
                generalize fdiv (fsub (fmul 4607182418800017408 q) y) 4611686018427387904 = t at *
                obtain ⟨n1, n2, n3, n4, n5, n6, n7, n8, n9, n10, n11, n12, n13, n14, n15, n16, n17, n18, n19, n20, n21, n22, n23, n24, n25, n26, n27⟩ := N
                have hd1 := fun t w => run_fdiv (P := Try.prog) w t _ _ _ d1
                have hd2 := fun t w => run_fdiv (P := Try.prog) w t _ _ _ d2
                have H1 := Lib.hid n26
                have H2 := Lib.hid n27
                clear n26 n27 d1 d2 HO1 HO2
                go_wp2_with (go_at_call 37; refine (times_any _ _ _ _ _ (by assumption) (by assumption) (by assumption) (by assumption) (by assumption) (by assumption) (by assumption) (by assumption)).mono ?_; rintro e w' ⟨rfl, rfl⟩)
                refine (near_yes _ _ _ _ (by assumption) (by assumption) (by assumption) H1.out).mono ?_
                rintro e w' ⟨rfl, rfl⟩
                go_wp2_with fail
                refine (near_yes _ _ _ _ (by assumption) (by assumption) (by assumption) H2.out).mono ?_
                rintro e w' ⟨rfl, rfl⟩
                go_wp2
                go_round
                case rel => exact ⟨1, by decide, by go_num⟩
                case measure => simp [intOf]
              · obtain ⟨f1, f2', f3, f4', d1, d2, N⟩ := HO2.out
                have N := N _ _ rfl rfl
                unfold two thousand at *
                generalize fdiv (fsub (fmul 13830554455654793216 p) x) 4611686018427387904 = s at *
                generalize fdiv (fsub (fmul 13830554455654793216 q) y) 4611686018427387904 = t at *
                obtain ⟨n1, n2, n3, n4, n5, n6, n7, n8, n9, n10, n11, n12, n13, n14, n15, n16, n17, n18, n19, n20, n21, n22, n23, n24, n25, n26, n27⟩ := N
                have hd1 := fun t w => run_fdiv (P := Try.prog) w t _ _ _ d1
                have hd2 := fun t w => run_fdiv (P := Try.prog) w t _ _ _ d2
                have H1 := Lib.hid n26
                have H2 := Lib.hid n27
                clear n26 n27 d1 d2 HO1 HO2
                go_wp2_with (go_at_call 37; refine (times_any _ _ _ _ _ (by assumption) (by assumption) (by assumption) (by assumption) (by assumption) (by assumption) (by assumption) (by assumption)).mono ?_; rintro e w' ⟨rfl, rfl⟩)
                refine (near_yes _ _ _ _ (by assumption) (by assumption) (by assumption) H1.out).mono ?_
                rintro e w' ⟨rfl, rfl⟩
                go_wp2_with fail
                refine (near_yes _ _ _ _ (by assumption) (by assumption) (by assumption) H2.out).mono ?_
                rintro e w' ⟨rfl, rfl⟩
                go_wp2
                go_round
                case rel => exact ⟨2, by decide, by go_num⟩
                case measure => simp [intOf]
              · go_wp2
                go_ret
                exact ⟨rfl, HB.out _⟩
          · have HO1 := Lib.hid O1
            have HO2 := Lib.hid O2
            have ZX := Lib.hid zx
            have ZY := Lib.hid zy
            clear O1 O2 HC zx zy
            unfold dX dY at *
            unfold w4 mone Cx.one thousand two at *
            go_enter Try.func14, Try.ntmps14
            go_wp2_with (first | (go_at_call 35; refine (whole_yes _ _ 256 _ (by assumption) fm HM.out (by omega)).mono ?_; rintro e w' ⟨rfl, rfl⟩) | (go_at_call 37; refine (times_any _ _ _ _ _ (by assumption) (by assumption) (by assumption) (by assumption) (by assumption) (by assumption) (by assumption) (by assumption)).mono ?_; rintro e w' ⟨rfl, rfl⟩) | (go_at_call 38; refine (sqrt_zero _ _ _ i5 i6 ZX.out ZY.out).mono ?_; rintro e w' ⟨rfl, rfl⟩))
            clear ZX ZY
            generalize fsub (tim x y x y) (fmul 4616189618054758400 v) = q at *
            go_loop [60] (fun i => ∃ k : Nat, k ≤ 2 ∧ i = .int .i64 k) (fun i => 2 - (intOf i).toNat)
            case atStart => exact ⟨0, by decide, rfl⟩
            case round =>
              obtain ⟨k, hk, rfl⟩ := hrel
              rcases (show k = 0 ∨ k = 1 ∨ k = 2 by omega) with rfl | rfl | rfl
              · obtain ⟨f1, f2', f3, f4', d1, d2, N⟩ := HO1.out
                have N := N _ _ rfl rfl
                unfold two thousand at *
                generalize fdiv (fsub (fmul 4607182418800017408 0) x) 4611686018427387904 = s at *
                generalize fdiv (fsub (fmul 4607182418800017408 q) y) 4611686018427387904 = t at *
                obtain ⟨n1, n2, n3, n4, n5, n6, n7, n8, n9, n10, n11, n12, n13, n14, n15, n16, n17, n18, n19, n20, n21, n22, n23, n24, n25, n26, n27⟩ := N
                have hd1 := fun t w => run_fdiv (P := Try.prog) w t _ _ _ d1
                have hd2 := fun t w => run_fdiv (P := Try.prog) w t _ _ _ d2
                have H1 := Lib.hid n26
                have H2 := Lib.hid n27
                clear n26 n27 d1 d2 HO1 HO2
                go_wp2_with (go_at_call 37; refine (times_any _ _ _ _ _ (by assumption) (by assumption) (by assumption) (by assumption) (by assumption) (by assumption) (by assumption) (by assumption)).mono ?_; rintro e w' ⟨rfl, rfl⟩)
                refine (near_yes _ _ _ _ (by assumption) (by assumption) (by assumption) H1.out).mono ?_
                rintro e w' ⟨rfl, rfl⟩
                go_wp2_with fail
                refine (near_yes _ _ _ _ (by assumption) (by assumption) (by assumption) H2.out).mono ?_
                rintro e w' ⟨rfl, rfl⟩
                go_wp2
                go_round
                case rel => exact ⟨1, by decide, by go_num⟩
                case measure => simp [intOf]
              · obtain ⟨f1, f2', f3, f4', d1, d2, N⟩ := HO2.out
                have N := N _ _ rfl rfl
                unfold two thousand at *
                generalize fdiv (fsub (fmul 13830554455654793216 0) x) 4611686018427387904 = s at *
                generalize fdiv (fsub (fmul 13830554455654793216 q) y) 4611686018427387904 = t at *
                obtain ⟨n1, n2, n3, n4, n5, n6, n7, n8, n9, n10, n11, n12, n13, n14, n15, n16, n17, n18, n19, n20, n21, n22, n23, n24, n25, n26, n27⟩ := N
                have hd1 := fun t w => run_fdiv (P := Try.prog) w t _ _ _ d1
                have hd2 := fun t w => run_fdiv (P := Try.prog) w t _ _ _ d2
                have H1 := Lib.hid n26
                have H2 := Lib.hid n27
                clear n26 n27 d1 d2 HO1 HO2
                go_wp2_with (go_at_call 37; refine (times_any _ _ _ _ _ (by assumption) (by assumption) (by assumption) (by assumption) (by assumption) (by assumption) (by assumption) (by assumption)).mono ?_; rintro e w' ⟨rfl, rfl⟩)
                refine (near_yes _ _ _ _ (by assumption) (by assumption) (by assumption) H1.out).mono ?_
                rintro e w' ⟨rfl, rfl⟩
                go_wp2_with fail
                refine (near_yes _ _ _ _ (by assumption) (by assumption) (by assumption) H2.out).mono ?_
                rintro e w' ⟨rfl, rfl⟩
                go_wp2
                go_round
                case rel => exact ⟨2, by decide, by go_num⟩
                case measure => simp [intOf]
              · go_wp2
                go_ret
                exact ⟨rfl, HB.out _⟩
        · go_enter Try.func14, Try.ntmps14
          go_wp2_with fail
          refine (whole_yes _ _ 256 _ hwx fm HM.out (by omega)).mono ?_
          rintro e w' ⟨rfl, rfl⟩
          go_wp2_with fail
          refine (whole_yes _ _ 256 _ hwy fm HM.out (by omega)).mono ?_
          rintro e w' ⟨rfl, rfl⟩
          go_wp2_with fail
          refine (whole_yes _ _ 256 _ hwu fm HM.out (by omega)).mono ?_
          rintro e w' ⟨rfl, rfl⟩
          go_wp2_with fail
          refine (whole_no _ _ 256 _ hv hwv fm HM.out (by omega)).mono ?_
          rintro e w' ⟨rfl, rfl⟩
          go_wp2
          go_ret
          exact ⟨rfl, Below.refl _ _⟩
      · go_enter Try.func14, Try.ntmps14
        go_wp2_with fail
        refine (whole_yes _ _ 256 _ hwx fm HM.out (by omega)).mono ?_
        rintro e w' ⟨rfl, rfl⟩
        go_wp2_with fail
        refine (whole_yes _ _ 256 _ hwy fm HM.out (by omega)).mono ?_
        rintro e w' ⟨rfl, rfl⟩
        go_wp2_with fail
        refine (whole_no _ _ 256 _ hu hwu fm HM.out (by omega)).mono ?_
        rintro e w' ⟨rfl, rfl⟩
        go_wp2
        go_ret
        exact ⟨rfl, Below.refl _ _⟩
    · go_enter Try.func14, Try.ntmps14
      go_wp2_with fail
      refine (whole_yes _ _ 256 _ hwx fm HM.out (by omega)).mono ?_
      rintro e w' ⟨rfl, rfl⟩
      go_wp2_with fail
      refine (whole_no _ _ 256 _ hy hwy fm HM.out (by omega)).mono ?_
      rintro e w' ⟨rfl, rfl⟩
      go_wp2
      go_ret
      exact ⟨rfl, Below.refl _ _⟩
  · go_enter Try.func14, Try.ntmps14
    go_wp2_with fail
    refine (whole_no _ _ 256 _ hx hwx fm HM.out (by omega)).mono ?_
    rintro e w' ⟨rfl, rfl⟩
    go_wp2
    go_ret
    exact ⟨rfl, Below.refl _ _⟩
end Go.Proofs.Ytigckpmeppddcaa
