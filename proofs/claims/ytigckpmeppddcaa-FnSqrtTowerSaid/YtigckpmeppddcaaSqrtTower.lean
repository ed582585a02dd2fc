/- FnSqrtTower: the walk. Written by a program of ours (tower.py). -/
import Derived.Test.YtigckpmeppddcaaSt
set_option linter.unusedVariables false
namespace Go.Proofs.Ytigckpmeppddcaa
open Go.RowKit Cx

set_option maxHeartbeats 2000000 in
set_option maxRecDepth 20000 in
theorem tower_walk (x y : Nat) (k : Int) (w : World) (hx : x < 18446744073709551616) (hy : y < 18446744073709551616) (hk : (Lit.int .i64 k).wf = true) :
    Calls Try.prog 16 #[.float .f64 x, .float .f64 y, .int .i64 k] w fun e w' => e = .returned (.bool true) ∧ Below w.heap.size w w' := by
  have fm : fin 4652218415073722368 := fin_of _ (by decide)
  have vm : val 4652218415073722368 = (1024 : Int) := by decide +kernel
  have HM := Lib.hid vm
  clear vm hk
  have f0 := fin_zero
  have f10 := fin_w10
  have f1m := fin_wmil
  by_cases k1 : k < 0
  · go_enter Try.func16, Try.ntmps16
    go_wp2
    go_ret
    exact ⟨rfl, Below.refl _ _⟩
  by_cases k2 : 8 < k
  · go_enter Try.func16, Try.ntmps16
    go_wp2
    go_ret
    exact ⟨rfl, Below.refl _ _⟩
  obtain ⟨n, rfl⟩ := Int.eq_ofNat_of_zero_le (show 0 ≤ k by omega)
  have hn : n ≤ 8 := by omega
  by_cases hwx : Whl x 1024
  · by_cases hwy : Whl y 1024
    · have fx := hwx.1
      have fy := hwy.1
      by_cases hz : val x = val 0 ∧ val y = val 0
      · have z1 := decide_eq_true hz.1
        have z2 := decide_eq_true hz.2
        clear hz
        go_enter Try.func16, Try.ntmps16
        go_wp2_with (go_at_call 35; refine (whole_yes _ _ 1024 _ (by assumption) fm HM.out (by omega)).mono ?_; rintro e w' ⟨rfl, rfl⟩)
        go_ret
        exact ⟨rfl, Below.refl _ _⟩
      · obtain ⟨S, A, J, ph, ph2, fph2, n1, hyp, fh, hpos, fS, n2, n3⟩ := tow_ok hwx hwy hz hn
        have HS := Lib.hid S
        have HA := Lib.hid A
        have HJ := Lib.hid J
        have H1 := Lib.hid n1
        have H2 := Lib.hid n2
        have H3 := Lib.hid n3
        have HP := decide_eq_true hpos
        have fpa := (HA.out 0 (by decide)).f
        have fan := (HA.out n (by omega)).f
        have HZ := Lib.hid hz
        clear S A J n1 n2 n3 hz hpos
        unfold w10 wmil at *
        by_cases zx : val x = val 0
        · have zy : ¬ val y = val 0 := fun h => HZ.out ⟨zx, h⟩
          have ZX := decide_eq_true zx
          clear zx HZ
          go_enter Try.func16, Try.ntmps16
          go_wp2_with (first | (go_at_call 35; refine (whole_yes _ _ 1024 _ (by assumption) fm HM.out (by omega)).mono ?_; rintro e w' ⟨rfl, rfl⟩) | (go_at_call 34; refine (phase_any _ _ _ (by assumption)).mono ?_; rintro e w' ⟨rfl, rfl⟩))
          go_loop [7, 8, 9, 41] (fun a b c i => ∃ j : Nat, j ≤ n ∧ i = .int .i64 j ∧ a = .float .f64 (st x y j).1 ∧ b = .float .f64 (st x y j).2 ∧ c = .float .f64 (an (phw x y) j)) (fun _ _ _ i => n - (intOf i).toNat)
          case atStart => exact ⟨0, Nat.zero_le _, rfl, rfl, rfl, rfl⟩
          case round =>
            obtain ⟨j, hj, rfl, rfl, rfl, rfl⟩ := hrel
            by_cases hlt : j < n
            · have SI := (HS.out j (by omega)).i
              have hd := fun t w => run_fdiv (P := Try.prog) w t _ _ _ (an_div (HA.out j (by omega)))
              have faj := (HA.out j (by omega)).f
              have E1 : Hid ((st x y (j + 1)).1 = cre (st x y j).1 (st x y j).2) := Lib.hid rfl
              have E2 : Hid ((st x y (j + 1)).2 = cim (st x y j).1 (st x y j).2) := Lib.hid rfl
              unfold two at *
              go_wp2_with (go_at_call 38; refine (sqrt_any _ _ (QK j) _ SI).mono ?_; rintro e w' ⟨rfl, rfl⟩)
              go_round
              case rel => exact ⟨j + 1, by omega, by go_num, by rw [E1.out], by rw [E2.out], rfl⟩
              case measure => simp [intOf]; omega
            · obtain rfl : j = n := by omega
              go_wp2_with (first | (go_at_call 34; refine (phase_any _ _ _ (by assumption)).mono ?_; rintro e w' ⟨rfl, rfl⟩) | (go_at_call 32; refine (near_yes _ _ _ _ fph2 fan f10 H1.out).mono ?_; rintro e w' ⟨rfl, rfl⟩))
              go_loop [7, 8, 59] (fun a b i => ∃ m : Nat, m ≤ j ∧ i = .int .i64 m ∧ a = .float .f64 (sqs (st x y j).1 (st x y j).2 m).1 ∧ b = .float .f64 (sqs (st x y j).1 (st x y j).2 m).2) (fun _ _ i => j - (intOf i).toNat)
              case atStart => exact ⟨0, Nat.zero_le _, rfl, rfl, rfl⟩
              case round =>
                obtain ⟨m, hm, rfl, rfl, rfl⟩ := hrel
                have G := HJ.out m hm
                have g1 := G.f1
                have g2 := G.f2
                by_cases hlt2 : m < j
                · obtain ⟨t1, t2, t3, t4, t5, t6, _⟩ := sj_tm HS.out hn hm G
                  have E1 : Hid ((sqs (st x y j).1 (st x y j).2 (m + 1)).1 = tre (sqs (st x y j).1 (st x y j).2 m).1 (sqs (st x y j).1 (st x y j).2 m).2 (sqs (st x y j).1 (st x y j).2 m).1 (sqs (st x y j).1 (st x y j).2 m).2) := Lib.hid rfl
                  have E2 : Hid ((sqs (st x y j).1 (st x y j).2 (m + 1)).2 = tim (sqs (st x y j).1 (st x y j).2 m).1 (sqs (st x y j).1 (st x y j).2 m).2 (sqs (st x y j).1 (st x y j).2 m).1 (sqs (st x y j).1 (st x y j).2 m).2) := Lib.hid rfl
                  clear G
                  go_wp2_with (go_at_call 37; refine (times_any _ _ _ _ _ (by assumption) (by assumption) (by assumption) (by assumption) (by assumption) (by assumption) (by assumption) (by assumption)).mono ?_; rintro e w' ⟨rfl, rfl⟩)
                  go_round
                  case rel => exact ⟨m + 1, by omega, by go_num, by rw [E1.out], by rw [E2.out]⟩
                  case measure => simp [intOf]; omega
                · obtain rfl : m = j := by omega
                  clear G
                  go_wp2_with (go_at_call 31; refine (abs_any _ _ _ (by assumption)).mono ?_; rintro e w' ⟨rfl, rfl⟩)
                  refine (near_yes _ _ _ _ g1 fx fS H2.out).mono ?_
                  rintro e w' ⟨rfl, rfl⟩
                  go_wp2_with fail
                  refine (near_yes _ _ _ _ g2 fy fS H3.out).mono ?_
                  rintro e w' ⟨rfl, rfl⟩
                  go_wp2
                  go_ret
                  exact ⟨rfl, Below.refl _ _⟩
        · clear HZ
          go_enter Try.func16, Try.ntmps16
          go_wp2_with (first | (go_at_call 35; refine (whole_yes _ _ 1024 _ (by assumption) fm HM.out (by omega)).mono ?_; rintro e w' ⟨rfl, rfl⟩) | (go_at_call 34; refine (phase_any _ _ _ (by assumption)).mono ?_; rintro e w' ⟨rfl, rfl⟩))
          go_loop [7, 8, 9, 41] (fun a b c i => ∃ j : Nat, j ≤ n ∧ i = .int .i64 j ∧ a = .float .f64 (st x y j).1 ∧ b = .float .f64 (st x y j).2 ∧ c = .float .f64 (an (phw x y) j)) (fun _ _ _ i => n - (intOf i).toNat)
          case atStart => exact ⟨0, Nat.zero_le _, rfl, rfl, rfl, rfl⟩
          case round =>
            obtain ⟨j, hj, rfl, rfl, rfl, rfl⟩ := hrel
            by_cases hlt : j < n
            · have SI := (HS.out j (by omega)).i
              have hd := fun t w => run_fdiv (P := Try.prog) w t _ _ _ (an_div (HA.out j (by omega)))
              have faj := (HA.out j (by omega)).f
              have E1 : Hid ((st x y (j + 1)).1 = cre (st x y j).1 (st x y j).2) := Lib.hid rfl
              have E2 : Hid ((st x y (j + 1)).2 = cim (st x y j).1 (st x y j).2) := Lib.hid rfl
              unfold two at *
              go_wp2_with (go_at_call 38; refine (sqrt_any _ _ (QK j) _ SI).mono ?_; rintro e w' ⟨rfl, rfl⟩)
              go_round
              case rel => exact ⟨j + 1, by omega, by go_num, by rw [E1.out], by rw [E2.out], rfl⟩
              case measure => simp [intOf]; omega
            · obtain rfl : j = n := by omega
              go_wp2_with (first | (go_at_call 34; refine (phase_any _ _ _ (by assumption)).mono ?_; rintro e w' ⟨rfl, rfl⟩) | (go_at_call 32; refine (near_yes _ _ _ _ fph2 fan f10 H1.out).mono ?_; rintro e w' ⟨rfl, rfl⟩))
              go_loop [7, 8, 59] (fun a b i => ∃ m : Nat, m ≤ j ∧ i = .int .i64 m ∧ a = .float .f64 (sqs (st x y j).1 (st x y j).2 m).1 ∧ b = .float .f64 (sqs (st x y j).1 (st x y j).2 m).2) (fun _ _ i => j - (intOf i).toNat)
              case atStart => exact ⟨0, Nat.zero_le _, rfl, rfl, rfl⟩
              case round =>
                obtain ⟨m, hm, rfl, rfl, rfl⟩ := hrel
                have G := HJ.out m hm
                have g1 := G.f1
                have g2 := G.f2
                by_cases hlt2 : m < j
                · obtain ⟨t1, t2, t3, t4, t5, t6, _⟩ := sj_tm HS.out hn hm G
                  have E1 : Hid ((sqs (st x y j).1 (st x y j).2 (m + 1)).1 = tre (sqs (st x y j).1 (st x y j).2 m).1 (sqs (st x y j).1 (st x y j).2 m).2 (sqs (st x y j).1 (st x y j).2 m).1 (sqs (st x y j).1 (st x y j).2 m).2) := Lib.hid rfl
                  have E2 : Hid ((sqs (st x y j).1 (st x y j).2 (m + 1)).2 = tim (sqs (st x y j).1 (st x y j).2 m).1 (sqs (st x y j).1 (st x y j).2 m).2 (sqs (st x y j).1 (st x y j).2 m).1 (sqs (st x y j).1 (st x y j).2 m).2) := Lib.hid rfl
                  clear G
                  go_wp2_with (go_at_call 37; refine (times_any _ _ _ _ _ (by assumption) (by assumption) (by assumption) (by assumption) (by assumption) (by assumption) (by assumption) (by assumption)).mono ?_; rintro e w' ⟨rfl, rfl⟩)
                  go_round
                  case rel => exact ⟨m + 1, by omega, by go_num, by rw [E1.out], by rw [E2.out]⟩
                  case measure => simp [intOf]; omega
                · obtain rfl : m = j := by omega
                  clear G
                  go_wp2_with (go_at_call 31; refine (abs_any _ _ _ (by assumption)).mono ?_; rintro e w' ⟨rfl, rfl⟩)
                  refine (near_yes _ _ _ _ g1 fx fS H2.out).mono ?_
                  rintro e w' ⟨rfl, rfl⟩
                  go_wp2_with fail
                  refine (near_yes _ _ _ _ g2 fy fS H3.out).mono ?_
                  rintro e w' ⟨rfl, rfl⟩
                  go_wp2
                  go_ret
                  exact ⟨rfl, Below.refl _ _⟩
    · go_enter Try.func16, Try.ntmps16
      go_wp2_with fail
      refine (whole_yes _ _ 1024 _ hwx fm HM.out (by omega)).mono ?_
      rintro e w' ⟨rfl, rfl⟩
      go_wp2_with fail
      refine (whole_no _ _ 1024 _ hy hwy fm HM.out (by omega)).mono ?_
      rintro e w' ⟨rfl, rfl⟩
      go_wp2
      go_ret
      exact ⟨rfl, Below.refl _ _⟩
  · go_enter Try.func16, Try.ntmps16
    go_wp2_with fail
    refine (whole_no _ _ 1024 _ hx hwx fm HM.out (by omega)).mono ?_
    rintro e w' ⟨rfl, rfl⟩
    go_wp2
    go_ret
    exact ⟨rfl, Below.refl _ _⟩
end Go.Proofs.Ytigckpmeppddcaa
