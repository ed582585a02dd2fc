/- FnPath: the walk. -/
import Derived.Test.YtigckpmeppddcaaPathLaw
set_option linter.unusedVariables false
namespace Go.Proofs.Ytigckpmeppddcaa
open Go.RowKit Cx

set_option maxHeartbeats 1000000 in
set_option maxRecDepth 100000 in
theorem path_walk (a0 : Option Addr) (n0 c0 : Nat) (X : Nat → Nat) (a1 : Option Addr) (n1 c1 : Nat) (Y : Nat → Nat) (w : World) (h0 : FRow w a0 n0 X) (h1 : FRow w a1 n1 Y) :
    Calls Try.prog 8 #[.slice a0 n0 c0, .slice a1 n1 c1] w fun e w' => e = .returned (.bool true) ∧ Below w.heap.size w w' := by
  have fm : fin 4697254411347427328 := fin_of _ (by decide)
  have vm : val 4697254411347427328 = (1048576 : Int) := by decide +kernel
  have HM := Lib.hid vm
  clear vm
  have hl0 := h0.1
  have hl1 := h1.1
  have f0 := fin_zero
  by_cases hlen : n0 = n1 ∧ (n0 : Int) ≤ 200
  · obtain ⟨rfl, hle⟩ := hlen
    by_cases hall : AllW X Y n0 1048576
    · have HA := Lib.hid hall
      have HR0 := Lib.hid h0
      have HR1 := Lib.hid h1
      have HC := Lib.hid (rows2 h0 h1)
      clear h0 h1 hall
      rcases Nat.eq_zero_or_pos n0 with hz | hpos
      · subst hz
        go_enter Try.func8, Try.ntmps8
        go_wp2_with (go_at_call 21; refine (allw_yes _ _ _ _ _ _ _ 1048576 X Y _ HR0.out HR1.out fm HM.out (by omega) (by omega) HA.out).mono ?_; rintro e w' ⟨rfl, rfl⟩)
        go_ret
        exact ⟨rfl, Below.refl _ _⟩
      · have hne : ((n0 : Int) == 0) = false := by simp; omega
        obtain ⟨b0, o0, b1, o1, rfl, rfl, hc⟩ := HC.out 0 hpos
        have HCC := Lib.hid hc
        clear hc HC
        go_enter Try.func8, Try.ntmps8
        go_wp2_with fail
        refine (allw_yes _ _ _ _ _ _ _ 1048576 X Y _ HR0.out HR1.out fm HM.out (by omega) (by omega) HA.out).mono ?_
        rintro e w' ⟨rfl, rfl⟩
        go_wp2
        go_loopw [5, 6] (fun s i wr => ∃ j : Nat, j < n0 ∧ i = .int .i64 ((j : Int) + 1) ∧ s = .float .f64 (ww X Y j) ∧ Drew w wr) (fun _ i _ => n0 - (intOf i).toNat)
        case atStart => exact ⟨0, hpos, rfl, rfl, Drew.refl w⟩
        case round =>
          obtain ⟨j, hj, rfl, rfl, hd⟩ := hrel
          have WO := way_ok HA.out (by omega) j hj
          have fw := WO.f
          by_cases hlt : j + 1 < n0
          · obtain ⟨x1, y1⟩ := HCC.out j hj
            obtain ⟨x2, y2⟩ := HCC.out (j + 1) hlt
            have x1 := hd.cell x1
            have y1 := hd.cell y1
            have x2 := hd.cell x2
            have y2 := hd.cell y2
            obtain ⟨q1, q2, _⟩ := HA.out (j + 1) hlt
            obtain ⟨r1, r2, _⟩ := HA.out j hj
            obtain ⟨f1, f2, H, HO⟩ := diff_ok q1 q2 r1 r2
            have fh := H.fh
            have g1 := q1.1
            have g2 := q2.1
            have g3 := r1.1
            have g4 := r2.1
            have k0 : (0 : Int) ≤ (j : Int) := by omega
            have k1 : (j : Int) < (n0 : Int) := by omega
            have k2 : (j : Int) + 1 < (n0 : Int) := by omega
            have k3 : (0 : Int) ≤ (j : Int) + 1 := by omega
            have k4 : ((j : Int) + 1).toNat = j + 1 := by omega
            have k5 : IntKind.i64.wrap ((j : Int) + 1 - 1) = (j : Int) := by
              rw [show (j : Int) + 1 - 1 = (j : Int) by omega]; exact IntWalk.i64_in _ (by omega)
            clear q1 q2 r1 r2 H WO
            go_wp2
            go_quiet ((go_at_call 31; exact quietL (abs_any _ _ _ (by assumption))))
            go_wp2
            go_roundw
            case rel => exact ⟨j + 1, hlt, by go_num, rfl, hd.more _⟩
            case measure => simp [intOf]; omega
          · obtain rfl : n0 = j + 1 := by omega
            have E := path_end HA.out (by omega) hj
            have HE := Lib.hid E.zero
            obtain ⟨e1, e2, e3, e4, e5, e6, e7, _⟩ := E
            obtain ⟨x1, y1⟩ := HCC.out j hj
            obtain ⟨x2, y2⟩ := HCC.out 0 hpos
            have x1 := hd.cell x1
            have y1 := hd.cell y1
            have x2 := hd.cell x2
            have y2 := hd.cell y2
            rw [Nat.add_zero] at x2 y2
            have g1 := (HA.out j hj).1.1
            have g2 := (HA.out j hj).2.1.1
            have g3 := (HA.out 0 hpos).1.1
            have g4 := (HA.out 0 hpos).2.1.1
            have hb := fun n => (hd.more n).below
            have HB := Lib.hid hb
            have k0 : (0 : Int) ≤ (j : Int) := by omega
            have k1 : (j : Int) < (j : Int) + 1 := by omega
            have k5 : IntKind.i64.wrap ((j : Int) + 1 - 1) = (j : Int) := by
              rw [show (j : Int) + 1 - 1 = (j : Int) by omega]; exact IntWalk.i64_in _ (by omega)
            have k6 : (0 : Int) < (j : Int) + 1 := by omega
            have fp := fin_onePart
            have T1 := decide_eq_true e7
            unfold onePart at *
            clear hb hd WO e7
            by_cases t1 : val (X j) = val (X 0)
            · by_cases t2 : val (Y j) = val (Y 0)
              · have T2 := decide_eq_true t1
                have T3 := decide_eq_true t2
                have T4 := decide_eq_true (HE.out.2 ⟨t1, t2⟩)
                clear t1 t2
                go_wp2
                go_quiet ((go_at_call 31; exact quietL (abs_any _ _ _ (by assumption))))
                go_wp2
                go_quiet (fail)
                go_wp2
                go_ret
                exact ⟨rfl, below_drewN (HB.out _) _⟩
              · have T2 := decide_eq_true t1
                have T3 := decide_eq_false t2
                have T4 := decide_eq_false (fun h => t2 (HE.out.1 h).2)
                clear t1 t2
                go_wp2
                go_quiet ((go_at_call 31; exact quietL (abs_any _ _ _ (by assumption))))
                go_wp2
                go_quiet (fail)
                go_wp2
                go_ret
                exact ⟨rfl, below_drewN (HB.out _) _⟩
            · have T2 := decide_eq_false t1
              have T4 := decide_eq_false (fun h => t1 (HE.out.1 h).1)
              clear t1
              go_wp2
              go_quiet ((go_at_call 31; exact quietL (abs_any _ _ _ (by assumption))))
              go_wp2
              go_quiet (fail)
              go_wp2
              go_ret
              exact ⟨rfl, below_drewN (HB.out _) _⟩
    · have H0 := Lib.hid h0
      have H1 := Lib.hid h1
      have HA := Lib.hid hall
      clear h0 h1 hall
      go_enter Try.func8, Try.ntmps8
      go_wp2_with (go_at_call 21; refine (allw_no _ _ _ _ _ _ _ 1048576 X Y _ H0.out H1.out fm HM.out (by omega) (by omega) HA.out).mono ?_; rintro e w' ⟨rfl, rfl⟩)
      go_ret
      exact ⟨rfl, Below.refl _ _⟩
  · have HL : Hid (n0 ≠ n1 ∨ (200 : Int) < (n0 : Int)) := Lib.hid (by omega)
    clear hlen h0 h1
    go_enter Try.func8, Try.ntmps8
    go_wp2_with (go_at_call 21; refine (allw_len _ _ _ _ _ _ _ _ _ hl0 hl1 HL.out).mono ?_; rintro e w' ⟨rfl, rfl⟩)
    go_ret
    exact ⟨rfl, Below.refl _ _⟩
end Go.Proofs.Ytigckpmeppddcaa
