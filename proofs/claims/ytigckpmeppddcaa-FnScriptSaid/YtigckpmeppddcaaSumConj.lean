/- FnSumConj: the conjugate of a sum is the sum of the conjugates: at most 200 numbers with whole parts of at most 2^20 in size, for every input. -/
import Derived.Test.YtigckpmeppddcaaWd
import Derived.Test.YtigckpmeppddcaaFpf
set_option linter.unusedVariables false
namespace Go.Proofs.Ytigckpmeppddcaa
open Go.RowKit Cx

theorem cconj_any (x y : Nat) (w : World) : Calls Try.prog 41 #[.complex .f64 x y] w fun e w' => e = .returned (.complex .f64 x (fneg y)) ∧ w = w' := by
  go_enter Try.func41, Try.ntmps41
  go_wp2
  go_ret
  exact ⟨rfl, rfl⟩
theorem conj_any (x y : Nat) (w : World) : Calls Try.prog 22 #[.float .f64 x, .float .f64 y] w fun e w' => e = .returned (.tuple #[.float .f64 x, .float .f64 (fneg y)]) ∧ w = w' := by
  go_enter Try.func22, Try.ntmps22
  go_wp2_with (go_at_call 41; refine (cconj_any _ _ _).mono ?_; rintro e w' ⟨rfl, rfl⟩)
  go_ret2
  exact ⟨rfl, rfl⟩

/-- The four sums behind k rounds. -/
structure SumsAre (k : Nat) (x y u v : Nat) : Prop where
  fx : fin x
  fy : fin y
  fu : fin u
  fv : fin v
  vals : ∃ n m : Int, val x = n ∧ val y = m ∧ val u = n ∧ val v = ((-m : Int) : Rat) ∧ n.natAbs ≤ k * 1048576 ∧ m.natAbs ≤ k * 1048576

theorem SumsAre.zero : SumsAre 0 0 0 0 0 := by
  refine ⟨fin_zero, fin_zero, fin_zero, fin_zero, 0, 0, ?_⟩
  rw [val_zero]
  refine ⟨rfl, rfl, rfl, rfl, by decide, by decide⟩

theorem SumsAre.next {k : Nat} {x y u v a b : Nat} (h : SumsAre k x y u v) (hk : k < 200) (ha : Whl a 1048576) (hb : Whl b 1048576) :
    SumsAre (k + 1) (fadd x a) (fadd y b) (fadd u a) (fadd v (fneg b)) := by
  obtain ⟨n, m, h1, h2, h3, h4, h5, h6⟩ := h.vals
  obtain ⟨fa, p, hp, p1, p2⟩ := ha
  obtain ⟨fb, q, hq, q1, q2⟩ := hb
  obtain ⟨fnb, hnb⟩ := fneg_int fb hq
  obtain ⟨g1, g2⟩ := fadd_int h.fx fa h1 hp (by omega)
  obtain ⟨g3, g4⟩ := fadd_int h.fy fb h2 hq (by omega)
  obtain ⟨g5, g6⟩ := fadd_int h.fu fa h3 hp (by omega)
  obtain ⟨g7, g8⟩ := fadd_int h.fv fnb h4 hnb (by omega)
  refine ⟨g1, g3, g5, g7, n + p, m + q, g2, g4, g6, ?_, by omega, by omega⟩
  rw [g8]; congr 1; omega

theorem SumsAre.end1 {k x y u v : Nat} (h : SumsAre k x y u v) : val x = val u := by
  obtain ⟨n, m, h1, h2, h3, h4, h5, h6⟩ := h.vals
  rw [h1, h3]
theorem SumsAre.end2 {k x y u v : Nat} (h : SumsAre k x y u v) : val (fneg y) = val v := by
  obtain ⟨n, m, h1, h2, h3, h4, h5, h6⟩ := h.vals
  rw [(fneg_spec h.fy).2.1, h4, h2, Rat.intCast_neg]

set_option maxHeartbeats 1000000 in
theorem sumConj_walk (a0 : Option Addr) (n0 c0 : Nat) (X : Nat → Nat) (a1 : Option Addr) (n1 c1 : Nat) (Y : Nat → Nat) (w : World) (h0 : FRow w a0 n0 X) (h1 : FRow w a1 n1 Y) :
    Calls Try.prog 3 #[.slice a0 n0 c0, .slice a1 n1 c1] w fun e w' => e = .returned (.bool true) ∧ Below w.heap.size w w' := by
  have fm : fin 4697254411347427328 := fin_of _ (by decide)
  have vm : val 4697254411347427328 = (1048576 : Int) := by decide +kernel
  have HM := Lib.hid vm
  clear vm
  have hl0 := h0.1
  have hl1 := h1.1
  by_cases hlen : n0 = n1 ∧ (n0 : Int) ≤ 200
  · obtain ⟨rfl, hle⟩ := hlen
    by_cases hall : AllW X Y n0 1048576
    · rcases Nat.eq_zero_or_pos n0 with hz | hpos
      · subst hz
        have H0 := Lib.hid h0
        have H1 := Lib.hid h1
        have HA := Lib.hid hall
        clear h0 h1 hall
        go_enter Try.func3, Try.ntmps3
        go_wp2_with (go_at_call 21; refine (allw_yes _ _ _ _ _ _ _ 1048576 X Y _ H0.out H1.out fm HM.out (by omega) (by omega) HA.out).mono ?_; rintro e w' ⟨rfl, rfl⟩)
        go_ret
        exact ⟨rfl, Below.refl _ _⟩
      · have HA := Lib.hid hall
        have HR0 := Lib.hid h0
        have HR1 := Lib.hid h1
        obtain ⟨_, h0⟩ := h0
        obtain ⟨_, h1⟩ := h1
        rcases h0 with h | ⟨b0, o0, rfl, h0⟩
        · omega
        rcases h1 with h | ⟨b1, o1, rfl, h1⟩
        · omega
        have H0 := Lib.hid h0
        have H1 := Lib.hid h1
        clear h0 h1 hall
        have hne : ((n0 : Int) == 0) = false := by simp; omega
        go_enter Try.func3, Try.ntmps3
        go_wp2_with (go_at_call 21; refine (allw_yes _ _ _ _ _ _ _ 1048576 X Y _ HR0.out HR1.out fm HM.out (by omega) (by omega) HA.out).mono ?_; rintro e w' ⟨rfl, rfl⟩)
        go_loopw [5, 6, 7, 8, 25] (fun x y u v i wr => ∃ (k x' y' u' v' : Nat), k ≤ n0 ∧ i = .int .i64 k ∧ x = .float .f64 x' ∧ y = .float .f64 y' ∧ u = .float .f64 u' ∧ v = .float .f64 v' ∧ SumsAre k x' y' u' v' ∧ Drew w wr) (fun _ _ _ _ i _ => n0 - (intOf i).toNat)
        case atStart => exact ⟨0, 0, 0, 0, 0, Nat.zero_le _, rfl, rfl, rfl, rfl, rfl, SumsAre.zero, Drew.refl w⟩
        case round =>
          obtain ⟨k, x', y', u', v', hk, rfl, rfl, rfl, rfl, rfl, hs, hd⟩ := hrel
          have fx := hs.fx
          have fy := hs.fy
          have fu := hs.fu
          have fv := hs.fv
          by_cases hlt : k < n0
          · obtain ⟨x1, x2⟩ := H0.out k hlt
            obtain ⟨y1, y2⟩ := H1.out k hlt
            obtain ⟨q1, q2, q3⟩ := HA.out k hlt
            have fa := q1.1
            have fb := q2.1
            have x3 := hd.cell x2
            have y3 := hd.cell y2
            have hk0 : (0 : Int) ≤ (k : Int) := by omega
            have hk1 : (k : Int) < (n0 : Int) := by omega
            have fnb := (fneg_spec fb).1
            have hnx := hs.next (by omega) q1 q2
            clear x2 y2 q3
            go_wp2
            go_quiet ((go_at_call 22; exact quietL (conj_any _ _ _)))
            go_wp2
            go_roundw
            case rel => exact ⟨k + 1, _, _, _, _, by omega, by go_num, rfl, rfl, rfl, rfl, hnx, hd.more _⟩
            case measure => simp [intOf]; omega
          · have e1 := hs.end1
            have e2 := hs.end2
            have E1 : decide (val x' = val u') = true := decide_eq_true e1
            have E2 : decide (val (fneg y') = val v') = true := decide_eq_true e2
            have fny := (fneg_spec fy).1
            have hb := hd.below
            clear e1 e2 hd
            go_wp2_with (go_at_call 22; refine (conj_any _ _ _).mono ?_; rintro e w' ⟨rfl, rfl⟩)
            go_ret
            exact ⟨rfl, hb⟩
    · have H0 := Lib.hid h0
      have H1 := Lib.hid h1
      have HA := Lib.hid hall
      clear h0 h1 hall
      go_enter Try.func3, Try.ntmps3
      go_wp2_with (go_at_call 21; refine (allw_no _ _ _ _ _ _ _ 1048576 X Y _ H0.out H1.out fm HM.out (by omega) (by omega) HA.out).mono ?_; rintro e w' ⟨rfl, rfl⟩)
      go_ret
      exact ⟨rfl, Below.refl _ _⟩
  · have HL : Hid (n0 ≠ n1 ∨ (200 : Int) < (n0 : Int)) := Lib.hid (by omega)
    clear hlen h0 h1
    go_enter Try.func3, Try.ntmps3
    go_wp2_with (go_at_call 21; refine (allw_len _ _ _ _ _ _ _ _ _ hl0 hl1 HL.out).mono ?_; rintro e w' ⟨rfl, rfl⟩)
    go_ret
    exact ⟨rfl, Below.refl _ _⟩
end Go.Proofs.Ytigckpmeppddcaa
