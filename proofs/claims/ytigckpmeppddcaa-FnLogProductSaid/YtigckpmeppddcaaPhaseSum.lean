/- FnPhaseSum: the walk: the phase of a product is near the sum of the phases of its factors, but for whole turns. -/
import Derived.Test.YtigckpmeppddcaaTu
set_option linter.unusedVariables false
namespace Go.Proofs.Ytigckpmeppddcaa
open Go.RowKit Cx

def w100 : Nat := 4636737291354636288
theorem fin_w100 : fin w100 := fin_of _ (by decide)
theorem val_w100 : val w100 = 100 := by decide +kernel

def cz (p : Int × Int) : Cq := ⟨(p.1 : Rat), (p.2 : Rat)⟩
theorem cz_step (X Y : Nat → Nat) (k : Nat) : cz (gp X Y (k + 1)) = (cz (gp X Y k)).mul ⟨(iv (X k) : Rat), (iv (Y k) : Rat)⟩ := by
  apply Cq.ext' <;> simp only [cz, gp, Cq.mul]
  · rw [Rat.intCast_sub, Rat.intCast_mul, Rat.intCast_mul]
  · rw [Rat.intCast_add, Rat.intCast_mul, Rat.intCast_mul]
theorem cz_norm (X Y : Nat → Nat) (k : Nat) : (cz (gp X Y k)).mul (cz (gp X Y k)).conj = Cq.smul ((gn X Y k : Int) : Rat) ⟨1, 0⟩ := by
  rw [Cq.mul_conj]
  apply Cq.ext' <;> simp only [cz, Cq.norm, Cq.smul]
  · rw [← gp_norm, Rat.intCast_add, Rat.intCast_mul, Rat.intCast_mul]; grind
  · grind

theorem prod_dir {X Y : Nat → Nat} {n : Nat} (h : AllW X Y n 8) (hn : n ≤ 12) {k : Nat} (hk : k ≤ n) : DirOk (gw X Y k).1 (gw X Y k).2 (gp X Y k).1 (gp X Y k).2 := by
  obtain ⟨f1, f2, v1, v2⟩ := gw_ok h hn k hk
  obtain ⟨b1, b2⟩ := gp_le h hn k hk
  refine dir_ok f1 f2 v1 v2 ?_ (by omega) (by omega)
  rintro ⟨h1, h2⟩
  have := gp_norm X Y k
  have h3 := gn_pos h k hk
  rw [h1, h2] at this
  omega
theorem one_dir {X Y : Nat → Nat} {n : Nat} (h : AllW X Y n 8) {k : Nat} (hk : k < n) : DirOk (X k) (Y k) (iv (X k)) (iv (Y k)) := by
  obtain ⟨h1, h2, h3⟩ := h k hk
  exact dir_whl (by decide) h1 h2 h3

/-- The sum's word. -/
def psw (s : Nat) (X Y : Nat → Nat) : Nat → Nat
  | 0 => s
  | k + 1 => fadd (psw s X Y k) (phw (X k) (Y k))

structure SumOk (s : Nat) (X Y : Nat → Nat) (z : Cq) (k : Nat) : Prop where
  f : fin (psw s X Y k)
  le : ab (val (psw s X Y k)) ≤ 3142 / 1000 * ((k : Rat) + 1)
  ang : Ang (z.mul (cz (gp X Y k))) (val (psw s X Y k)) (66 * ea * ((k : Rat) + 1))

theorem k_le12 {k : Nat} (h : k ≤ 12) : (k : Rat) ≤ 12 := by
  have : (k : Rat) ≤ ((12 : Nat) : Rat) := Rat.natCast_le_natCast.2 h
  exact this

theorem sum_ok {s : Nat} {X Y : Nat → Nat} {z : Cq} {n : Nat} (h : AllW X Y n 8) (hn : n ≤ 12) (h0 : SumOk s X Y z 0) : ∀ k, k ≤ n → SumOk s X Y z k
  | 0, _ => h0
  | k + 1, hk => by
    have ih := sum_ok h hn h0 k (by omega)
    have D := one_dir h (show k < n by omega)
    have kb := k_le12 (show k ≤ 12 by omega)
    have kn := cast_nn k
    have hk1 := cast_succ k
    have le1 := ab_le.1 ih.le
    have le2 := ab_le.1 D.is.le
    have he := ea_val
    have hmu := mu_le
    have hmu0 := mu_pos
    obtain ⟨f, r⟩ := fadd_near (B := 45) ih.f D.is.f (by rw [ab_le]; constructor <;> grind) (by decide +kernel) (by decide +kernel)
    have r' := ab_le.1 r
    have m := ih.ang.mul D.ang (by rw [ab_le]; constructor <;> grind) (Rat.le_trans D.is.le (by decide +kernel)) (by rw [he]; grind)
    rw [Cq.mul_assoc, ← cz_step] at m
    refine ⟨f, ?_, ?_⟩
    · show ab (val (fadd (psw s X Y k) (phw (X k) (Y k)))) ≤ _
      rw [hk1, ab_le]; constructor <;> grind
    · refine m.to (d := 45 * (1 / 4503599627370496)) (by rw [ab_le]; constructor <;> grind) r ?_ ?_
      · rw [hk1, he]; grind
      · rw [hk1, he]; grind

theorem sum_start {X Y : Nat → Nat} {n : Nat} (h : AllW X Y n 8) (hn : n ≤ 12) : SumOk (fneg (phw (gw X Y n).1 (gw X Y n).2)) X Y (cz (gp X Y n)).conj 0 := by
  have D := prod_dir h hn (Nat.le_refl n)
  obtain ⟨f, v, _⟩ := fneg_spec D.is.f
  have z : ((0 : Nat) : Rat) = 0 := rfl
  refine ⟨f, ?_, ?_⟩
  · show ab (val (fneg _)) ≤ _
    rw [v, ab_neg, z]
    exact Rat.le_trans D.is.le (by decide +kernel)
  · show Ang _ (val (fneg _)) _
    rw [v, z]
    have e : cz (gp X Y 0) = ⟨1, 0⟩ := rfl
    rw [e, Cq.mul_one]
    exact D.ang.conj.mono (by decide +kernel) (by decide +kernel)

structure SumEnd (s : Nat) : Prop where
  f : fin s
  le : ab (val s) ≤ 44
  near : NearOk (tn s 100) 0 w100

/-- A sum that is an angle of 1. -/
theorem sum_end {s : Nat} {c : Rat} (f : fin s) (le : ab (val s) ≤ 41) (hc : 0 < c) (h : Ang (Cq.smul c ⟨1, 0⟩) (val s) (900 * ea)) : SumEnd s := by
  have A := h.of_smul hc
  have b44 := Rat.le_trans le (show (41 : Rat) ≤ 44 by decide +kernel)
  have T := turned_is f b44
  have B := T.ang (A := 41) (K := 7) A le (by decide +kernel) (by decide +kernel) (by decide) (by decide +kernel)
  have hPI := PI_val
  have le' := T.le
  have O := one_angle B (by grind) (by decide +kernel)
  refine ⟨f, b44, near_c T.f fin_zero fin_w100 val_w100 (by decide +kernel) (by decide +kernel) (by grind) (by rw [val_zero]; decide +kernel) ?_⟩
  rw [val_zero, show val (tn s 100) - 0 = val (tn s 100) by grind]
  exact Rat.le_trans O (by decide +kernel)

theorem phaseSum_end {X Y : Nat → Nat} {n : Nat} (h : AllW X Y n 8) (hn : n ≤ 12) : SumEnd (psw (fneg (phw (gw X Y n).1 (gw X Y n).2)) X Y n) := by
  have S := sum_ok h hn (sum_start h hn) n (Nat.le_refl n)
  have kb := k_le12 hn
  have kn := cast_nn n
  have he := ea_val
  have A := S.ang
  rw [Cq.mul_comm, cz_norm] at A
  exact sum_end S.f (Rat.le_trans S.le (by grind)) (Rat.intCast_pos.2 (by have := gn_pos h n (Nat.le_refl n); omega)) (A.mono (by rw [he]; grind) (by decide +kernel))

theorem zero_ends {x y : Nat} (P : PhIs x y) : (decide (val (phw x y) = val 0) = true ∧ decide (val y = val 0) = true ∧ decide (val 0 < val x) = true) ∨ (decide (val (phw x y) = val 0) = false ∧ decide (val y = val 0) = true ∧ decide (val 0 < val x) = false) ∨ (decide (val (phw x y) = val 0) = false ∧ decide (val y = val 0) = false) := by
  have hz := P.zero
  rw [val_zero]
  by_cases hy0 : val y = 0
  · by_cases hx0 : 0 < val x
    · exact Or.inl ⟨decide_eq_true (hz.2 ⟨hy0, hx0⟩), decide_eq_true hy0, decide_eq_true hx0⟩
    · exact Or.inr (Or.inl ⟨decide_eq_false (fun h => hx0 (hz.1 h).2), decide_eq_true hy0, decide_eq_false hx0⟩)
  · exact Or.inr (Or.inr ⟨decide_eq_false (fun h => hy0 (hz.1 h).1), decide_eq_false hy0⟩)

set_option maxHeartbeats 1000000 in
set_option maxRecDepth 100000 in
theorem phaseSum_walk (a0 : Option Addr) (n0 c0 : Nat) (X : Nat → Nat) (a1 : Option Addr) (n1 c1 : Nat) (Y : Nat → Nat) (w : World) (h0 : FRow w a0 n0 X) (h1 : FRow w a1 n1 Y) :
    Calls Try.prog 11 #[.slice a0 n0 c0, .slice a1 n1 c1] w fun e w' => e = .returned (.bool true) ∧ Below w.heap.size w w' := by
  have fm : fin 4620693217682128896 := fin_of _ (by decide)
  have vm : val 4620693217682128896 = (8 : Int) := by decide +kernel
  have HM := Lib.hid vm
  clear vm
  have hl0 := h0.1
  have hl1 := h1.1
  have f0 := fin_zero
  by_cases hlen : n0 = n1 ∧ (n0 : Int) ≤ 12
  · obtain ⟨rfl, hle⟩ := hlen
    by_cases hall : AllW X Y n0 8
    · have HA := Lib.hid hall
      have HR0 := Lib.hid h0
      have HR1 := Lib.hid h1
      have HC := Lib.hid (rows2 h0 h1)
      have DP := prod_dir hall (show n0 ≤ 12 by omega) (Nat.le_refl n0)
      have fp := DP.is.f
      have op := DP.ok
      clear h0 h1 hall DP
      go_enter Try.func11, Try.ntmps11
      go_wp2_with fail
      refine (allw_yes _ _ _ _ _ _ _ 8 X Y _ HR0.out HR1.out fm HM.out (by omega) (by omega) HA.out).mono ?_
      rintro e w' ⟨rfl, rfl⟩
      go_wp2_with fail
      refine (product_any _ _ _ _ _ X Y _ HR0.out HR1.out HA.out (by omega)).mono ?_
      rintro e w' ⟨rfl, hd0⟩
      go_wp2_with (go_at_call 34; refine (phase_any _ _ _ op).mono ?_; rintro e w' ⟨rfl, rfl⟩)
      go_loopw [7, 26] (fun s i wr => ∃ k : Nat, k ≤ n0 ∧ i = .int .i64 k ∧ s = .float .f64 (psw (fneg (phw (gw X Y n0).1 (gw X Y n0).2)) X Y k) ∧ Drew w wr) (fun _ i _ => n0 - (intOf i).toNat)
      case atStart => exact ⟨0, Nat.zero_le _, rfl, rfl, hd0⟩
      case round =>
        obtain ⟨k, hk, rfl, rfl, hd⟩ := hrel
        have fs := (sum_ok HA.out (by omega) (sum_start HA.out (by omega)) k hk).f
        by_cases hlt : k < n0
        · obtain ⟨b0, o0, b1, o1, rfl, rfl, hc⟩ := HC.out k hlt
          obtain ⟨x1, y1⟩ := hc k hlt
          have x1 := hd.cell x1
          have y1 := hd.cell y1
          have D := one_dir HA.out hlt
          have fo := D.is.f
          have ok := D.ok
          have fx := D.ok.fx
          have fy := D.ok.fy
          have HZ := Lib.hid (zero_ends D.is)
          have k0 : (0 : Int) ≤ (k : Int) := by omega
          have k1 : (k : Int) < (n0 : Int) := by omega
          clear hc D
          go_wp2
          go_quiet ((go_at_call 34; exact quietL (phase_any _ _ _ (by assumption))))
          rcases HZ.out with ⟨T1, T2, T3⟩ | ⟨T1, T2, T3⟩ | ⟨T1, T2⟩
          all_goals
            clear HZ
            go_wp2
            go_roundw
            case rel => exact ⟨k + 1, by omega, by go_num, rfl, hd.more _⟩
            case measure => simp [intOf]; omega
        · obtain rfl : k = n0 := by omega
          have E := phaseSum_end HA.out (show k ≤ 12 by omega)
          have hb := hd.below
          have e1 := E.f
          have e2 := E.le
          have e3 := E.near
          have ft := (turned_is e1 e2).f
          have g3 := fin_w100
          unfold w100 at *
          clear hd E
          go_wp2_with fail
          refine (turned_any _ _ e1 e2).mono ?_
          rintro e w' ⟨rfl, rfl⟩
          go_wp2_with fail
          refine (near_yes _ _ _ _ ft f0 g3 e3).mono ?_
          rintro e w' ⟨rfl, rfl⟩
          go_wp2
          go_ret
          exact ⟨rfl, hb⟩
    · have H0 := Lib.hid h0
      have H1 := Lib.hid h1
      have HA := Lib.hid hall
      clear h0 h1 hall
      go_enter Try.func11, Try.ntmps11
      go_wp2_with (go_at_call 21; refine (allw_no _ _ _ _ _ _ _ 8 X Y _ H0.out H1.out fm HM.out (by omega) (by omega) HA.out).mono ?_; rintro e w' ⟨rfl, rfl⟩)
      go_ret
      exact ⟨rfl, Below.refl _ _⟩
  · have HL : Hid (n0 ≠ n1 ∨ (12 : Int) < (n0 : Int)) := Lib.hid (by omega)
    clear hlen h0 h1
    go_enter Try.func11, Try.ntmps11
    go_wp2_with (go_at_call 21; refine (allw_len _ _ _ _ _ _ _ _ _ hl0 hl1 HL.out).mono ?_; rintro e w' ⟨rfl, rfl⟩)
    go_ret
    exact ⟨rfl, Below.refl _ _⟩
end Go.Proofs.Ytigckpmeppddcaa
