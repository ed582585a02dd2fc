/- FnPhaseOrder: the walk: phases of numbers above the real axis are in the order of their angles. -/
import Derived.Test.YtigckpmeppddcaaPo
set_option linter.unusedVariables false
namespace Go.Proofs.Ytigckpmeppddcaa
open Go.RowKit Cx

theorem le_1000 {x : Rat} (h : x ≤ 1152921504606846976) : x ≤ Cx.p2 1000 := by
  refine Rat.le_trans h ?_
  rw [show (1152921504606846976 : Rat) = Cx.p2 60 from by decide +kernel]; exact p2_mono (by decide)

/-- 'near', of sizes between 1 and 2^60. -/
theorem near_c {a b s : Nat} {S : Rat} (fa : fin a) (fb : fin b) (fs : fin s) (vs : val s = S) (s1 : 1 ≤ S) (s2 : S ≤ 1152921504606846976)
    (ba : ab (val a) ≤ 1152921504606846976) (bb : ab (val b) ≤ 1152921504606846976) (h : ab (val a - val b) ≤ S * (1 / 2199023255552)) : NearOk a b s := by
  refine near_of fa fb fs (le_1000 ba) (le_1000 bb) ?_ (by rw [vs]; exact le_1000 s2) (by rw [vs, show Cx.p2 (-41) = 1 / 2199023255552 from by decide +kernel]; exact h)
  rw [vs]
  refine Rat.le_trans ?_ s1
  rw [← p2_zero]; exact p2_mono (by decide)

def w10 : Nat := 4621819117588971520
theorem fin_w10 : fin w10 := fin_of _ (by decide)
theorem val_w10 : val w10 = 10 := by decide +kernel
def w32 : Nat := 4614388178203810202
theorem fin_w32 : fin w32 := fin_of _ (by decide)
theorem val_w32 : 31999 / 10000 ≤ val w32 := by decide +kernel

/-- The turn's word. -/
def crw (x y u v : Nat) : Nat := fsub (fmul x v) (fmul y u)

structure TwoOk (x y u v : Nat) : Prop where
  o1 : PhOk x y
  o2 : PhOk u v
  p1 : fin (phw x y)
  p2 : fin (phw u v)
  f1 : fin (fmul x v)
  f2 : fin (fmul y u)
  f3 : fin (crw x y u v)
  pos : ¬ val (phw x y) ≤ val 0
  lt : ¬ val w32 ≤ val (phw x y)
  cases : (¬ val (crw x y u v) = val 0 ∧ val 0 < val (crw x y u v) ∧ val (phw x y) < val (phw u v)) ∨
    (¬ val (crw x y u v) = val 0 ∧ ¬ val 0 < val (crw x y u v) ∧ ¬ val (phw x y) < val (phw u v)) ∨
    (val (crw x y u v) = val 0 ∧ NearOk (phw x y) (phw u v) w10)

theorem two_ok {x y u v : Nat} (hx : Whl x 1024) (hy : Whl y 1024) (hu : Whl u 1024) (hv : Whl v 1024) (yp : val 0 < val y) (vp : val 0 < val v) : TwoOk x y u v := by
  have nz1 : ¬ (val x = val 0 ∧ val y = val 0) := fun h => by have := h.2; grind
  have nz2 : ¬ (val u = val 0 ∧ val v = val 0) := fun h => by have := h.2; grind
  have D := dir_whl (by decide) hx hy nz1
  have D' := dir_whl (by decide) hu hv nz2
  obtain ⟨fx, ex, bx⟩ := hx.iv
  obtain ⟨fy, ey, by'⟩ := hy.iv
  obtain ⟨fu, eu, bu⟩ := hu.iv
  obtain ⟨fv, ev, bv⟩ := hv.iv
  have bx : (iv x).natAbs ≤ 1024 := bx
  have by' : (iv y).natAbs ≤ 1024 := by'
  have bu : (iv u).natAbs ≤ 1024 := bu
  have bv : (iv v).natAbs ≤ 1024 := bv
  have m1 := natAbs_mul_le bx bv
  have m2 := natAbs_mul_le by' bu
  obtain ⟨f1, v1⟩ := fmul_int fx fv ex ev (by omega)
  obtain ⟨f2, v2⟩ := fmul_int fy fu ey eu (by omega)
  obtain ⟨f3, v3⟩ := fsub_int f1 f2 v1 v2 (by omega)
  have v3 : val (crw x y u v) = _ := v3
  rw [val_zero] at yp vp
  have y0 : 0 < iv y := by rw [ey] at yp; exact Rat.intCast_pos.1 yp
  have v0 : 0 < iv v := by rw [ev] at vp; exact Rat.intCast_pos.1 vp
  have p0 := D.is.up yp
  have q0 := D'.is.up vp
  have pl := D.is.le
  have ql := D'.is.le
  refine ⟨D.ok, D'.ok, D.is.f, D'.is.f, f1, f2, f3, by rw [val_zero]; grind, ?_, ?_⟩
  · have := val_w32
    rw [ab_of_nonneg (Rat.le_of_lt p0)] at pl
    grind
  · rw [v3, val_zero]
    rcases Int.lt_trichotomy (iv x * iv v - iv y * iv u) 0 with hc | hc | hc
    · right; left
      have h1 := order_up D' D bu bv bx by' v0 y0 (show 0 < iv u * iv y - iv v * iv x by rw [Int.mul_comm (iv u), Int.mul_comm (iv v)]; omega)
      refine ⟨fun h => ?_, fun h => ?_, by grind⟩
      · have := Rat.intCast_eq_zero_iff.1 h; omega
      · have := Rat.intCast_pos.1 h; omega
    · right; right
      refine ⟨by rw [hc]; rfl, ?_⟩
      have hal : 0 < iv x * iv u + iv y * iv v := by
        have hyv : 0 < iv y * iv v := Int.mul_pos y0 v0
        have e : (iv x * iv u) * (iv y * iv v) = (iv y * iv u) * (iv y * iv u) := by
          have hh : iv x * iv v = iv y * iv u := by omega
          rw [show (iv x * iv u) * (iv y * iv v) = (iv x * iv v) * (iv y * iv u) by grind, hh]
        have hs := sq_int_nonneg (iv y * iv u)
        rw [← e] at hs
        have : 0 ≤ iv x * iv u := by
          rcases Int.lt_or_le (iv x * iv u) 0 with hn | hn
          · have := Int.mul_pos_of_neg_of_neg hn (show -(iv y * iv v) < 0 by omega)
            rw [Int.mul_neg] at this
            omega
          · exact hn
        omega
      rw [ab_of_nonneg (Rat.le_of_lt p0)] at pl
      rw [ab_of_nonneg (Rat.le_of_lt q0)] at ql
      have sm : ab (val (phw u v) - val (phw x y)) ≤ 32 / 10 := by rw [ab_le]; constructor <;> grind
      have := same_dir D D' hc hal sm
      refine near_c D.is.f D'.is.f fin_w10 val_w10 (by decide +kernel) (by decide +kernel) (by rw [ab_of_nonneg (Rat.le_of_lt p0)]; grind) (by rw [ab_of_nonneg (Rat.le_of_lt q0)]; grind) ?_
      rw [ab_sub_comm]
      exact Rat.le_trans this (by decide +kernel)
    · left
      refine ⟨fun h => ?_, Rat.intCast_pos.2 hc, order_up D D' bx by' bu bv y0 v0 hc⟩
      have := Rat.intCast_eq_zero_iff.1 h; omega

set_option maxHeartbeats 1000000 in
set_option maxRecDepth 100000 in
theorem phaseOrder_walk (a0 : Option Addr) (n0 c0 : Nat) (X : Nat → Nat) (a1 : Option Addr) (n1 c1 : Nat) (Y : Nat → Nat) (w : World) (h0 : FRow w a0 n0 X) (h1 : FRow w a1 n1 Y) :
    Calls Try.prog 9 #[.slice a0 n0 c0, .slice a1 n1 c1] w fun e w' => e = .returned (.bool true) ∧ Below w.heap.size w w' := by
  have fm : fin 4652218415073722368 := fin_of _ (by decide)
  have vm : val 4652218415073722368 = (1024 : Int) := by decide +kernel
  have HM := Lib.hid vm
  clear vm
  have hl0 := h0.1
  have hl1 := h1.1
  have f0 := fin_zero
  by_cases hlen : n0 = n1 ∧ (n0 : Int) ≤ 60
  · obtain ⟨rfl, hle⟩ := hlen
    by_cases hall : AllW X Y n0 1024
    · have HA := Lib.hid hall
      have HR0 := Lib.hid h0
      have HR1 := Lib.hid h1
      have HC := Lib.hid (rows2 h0 h1)
      clear h0 h1 hall
      go_enter Try.func9, Try.ntmps9
      go_wp2_with (go_at_call 21; refine (allw_yes _ _ _ _ _ _ _ 1024 X Y _ HR0.out HR1.out fm HM.out (by omega) (by omega) HA.out).mono ?_; rintro e w' ⟨rfl, rfl⟩)
      go_loopw [17] (fun i wr => ∃ k : Nat, k ≤ n0 ∧ i = .int .i64 k ∧ Drew w wr ∧ Hid (∀ j, j < k → val 0 < val (Y j))) (fun i _ => n0 - (intOf i).toNat)
      case atStart => exact ⟨0, Nat.zero_le _, rfl, Drew.refl w, Lib.hid (fun j hj => absurd hj (by omega))⟩
      case round =>
        obtain ⟨k, hk, rfl, hd, HP⟩ := hrel
        by_cases hlt : k < n0
        · obtain ⟨b0, o0, b1, o1, rfl, rfl, hc⟩ := HC.out k hlt
          obtain ⟨x1, y1⟩ := hc k hlt
          have y1 := hd.cell y1
          have fy := (HA.out k hlt).2.1.1
          have i0 : (0 : Int) ≤ (k : Int) := by omega
          have i1 : (k : Int) < (n0 : Int) := by omega
          have hb := hd.below
          have HB := Lib.hid hb
          clear hc x1 hb
          by_cases hy : val (Y k) ≤ val 0
          · clear hd
            go_wp2
            go_ret
            exact ⟨rfl, HB.out⟩
          · have HN : Hid (∀ j, j < k + 1 → val 0 < val (Y j)) := Lib.hid (fun j hj => by
              by_cases hjk : j = k
              · rw [hjk]; grind
              · exact HP.out j (by omega))
            go_wp2
            go_roundw
            case rel => exact ⟨k + 1, by omega, by go_num, hd, HN⟩
            case measure => simp [intOf]; omega
        · have HPn : Hid (∀ j, j < n0 → val 0 < val (Y j)) := Lib.hid (fun j hj => HP.out j (by omega))
          obtain ⟨wq, rfl⟩ : ∃ wq : World, wq = wr := ⟨_, rfl⟩
          clear HP
          go_wp2
          go_loopw [28] (fun i wr => ∃ k : Nat, k ≤ n0 ∧ i = .int .i64 k ∧ Drew w wr) (fun i _ => n0 - (intOf i).toNat)
          case atStart => exact ⟨0, Nat.zero_le _, rfl, hd⟩
          case round =>
            clear hd
            obtain ⟨i, hi, rfl, hd⟩ := hrel
            obtain ⟨wo, rfl⟩ : ∃ wo : World, wo = wr := ⟨_, rfl⟩
            by_cases hlt : i < n0
            · go_wp2
              go_loopw [32] (fun j wr => ∃ k : Nat, k ≤ i ∧ j = .int .i64 k ∧ Drew wo wr) (fun j _ => i - (intOf j).toNat)
              case atStart => exact ⟨0, Nat.zero_le _, rfl, Drew.refl wo⟩
              case round =>
                obtain ⟨k, hk, rfl, hd2⟩ := hrel
                have hdd := hd.trans hd2
                by_cases hlt2 : k < i
                · obtain ⟨b0, o0, b1, o1, rfl, rfl, hc⟩ := HC.out i hlt
                  obtain ⟨x1, y1⟩ := hc i hlt
                  obtain ⟨x2, y2⟩ := hc k (by omega)
                  have x1 := hdd.cell x1
                  have y1 := hdd.cell y1
                  have x2 := hdd.cell x2
                  have y2 := hdd.cell y2
                  obtain ⟨p1, p2, p3⟩ := HA.out i hlt
                  obtain ⟨r1, r2, r3⟩ := HA.out k (by omega)
                  have S := two_ok p1 p2 r1 r2 (HPn.out i hlt) (HPn.out k (by omega))
                  have g9 := p1.1
                  have g10 := p2.1
                  have g11 := r1.1
                  have g12 := r2.1
                  have i0 : (0 : Int) ≤ (i : Int) := by omega
                  have i1 : (i : Int) < (n0 : Int) := by omega
                  have k0 : (0 : Int) ≤ (k : Int) := by omega
                  have k1 : (k : Int) < (n0 : Int) := by omega
                  have HS := Lib.hid S.cases
                  obtain ⟨s1, s2, s3, s4, s5, s6, s7, s8, s9, _⟩ := S
                  have f10 := fin_w10
                  have f32 := fin_w32
                  unfold w10 w32 crw at *
                  clear hc p1 p2 p3 r1 r2 r3
                  go_wp2
                  go_quiet ((go_at_call 34; exact quietL (phase_any _ _ _ (by assumption))))
                  go_wp2
                  go_quiet (fail)
                  rcases HS.out with ⟨t1, t2, t3⟩ | ⟨t1, t2, t3⟩ | ⟨t1, t2⟩
                  · have T2 := decide_eq_true t2
                    have T3 := decide_eq_true t3
                    clear HS t2 t3
                    go_wp2
                    go_roundw
                    case rel => exact ⟨k + 1, by omega, by go_num, hd2.more _⟩
                    case measure => simp [intOf]; omega
                  · have T2 := decide_eq_false t2
                    have T3 := decide_eq_false t3
                    clear HS t2 t3
                    go_wp2
                    go_roundw
                    case rel => exact ⟨k + 1, by omega, by go_num, hd2.more _⟩
                    case measure => simp [intOf]; omega
                  · have T1 := decide_eq_true t1
                    clear HS t1
                    go_wp2_with (go_at_call 32; refine (near_yes _ _ _ _ (by assumption) (by assumption) (by assumption) t2).mono ?_; rintro e w' ⟨rfl, rfl⟩)
                    go_roundw
                    case rel => exact ⟨k + 1, by omega, by go_num, hd2.more _⟩
                    case measure => simp [intOf]; omega
                · go_wp2
                  go_roundw
                  case rel => exact ⟨i + 1, by omega, by go_num, hdd⟩
                  case measure => simp [intOf]; omega
            · have hb := hd.below
              clear hd
              go_wp2
              go_ret
              exact ⟨rfl, hb⟩
    · have H0 := Lib.hid h0
      have H1 := Lib.hid h1
      have HA := Lib.hid hall
      clear h0 h1 hall
      go_enter Try.func9, Try.ntmps9
      go_wp2_with (go_at_call 21; refine (allw_no _ _ _ _ _ _ _ 1024 X Y _ H0.out H1.out fm HM.out (by omega) (by omega) HA.out).mono ?_; rintro e w' ⟨rfl, rfl⟩)
      go_ret
      exact ⟨rfl, Below.refl _ _⟩
  · have HL : Hid (n0 ≠ n1 ∨ (60 : Int) < (n0 : Int)) := Lib.hid (by omega)
    clear hlen h0 h1
    go_enter Try.func9, Try.ntmps9
    go_wp2_with (go_at_call 21; refine (allw_len _ _ _ _ _ _ _ _ _ hl0 hl1 HL.out).mono ?_; rintro e w' ⟨rfl, rfl⟩)
    go_ret
    exact ⟨rfl, Below.refl _ _⟩
end Go.Proofs.Ytigckpmeppddcaa
