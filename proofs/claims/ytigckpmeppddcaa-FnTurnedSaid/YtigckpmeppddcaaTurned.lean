/- FnTurned: the walk: a quarter turn adds a half of pi to the phase, or takes three halves away; four of them lead back. -/
import Derived.Test.YtigckpmeppddcaaTu
set_option linter.unusedVariables false
namespace Go.Proofs.Ytigckpmeppddcaa
open Go.RowKit Cx

def w3p : Nat := 13840363733596185042
theorem fin_w3p : fin w3p := fin_of _ (by decide)
theorem val_w3p : ab (val w3p + 3 * PI / 2) ≤ 1 / 1125899906842624 := by decide +kernel
def whp : Nat := 4609753056924675352
theorem fin_whp : fin whp := fin_of _ (by decide)
theorem val_whp : val whp = PI / 2 := by decide +kernel

theorem quarter {x y u v : Nat} {a b : Int} (h : DirOk x y a b) (h' : DirOk u v (-b) a) :
    ab (val (phw u v) - val (phw x y) - PI / 2) ≤ 340 * ea ∨ ab (val (phw u v) - val (phw x y) + 3 * PI / 2) ≤ 340 * ea := by
  have b1 := Rat.le_trans h.is.le (show (31416 / 10000 : Rat) ≤ 64 by decide +kernel)
  have b2 := Rat.le_trans h'.is.le (show (31416 / 10000 : Rat) ≤ 64 by decide +kernel)
  have m := h.ang.mul ang_i b1 (by decide +kernel) (by decide +kernel)
  have e : (⟨(a : Rat), (b : Rat)⟩ : Cq).mul ⟨0, 1⟩ = ⟨((-b : Int) : Rat), (a : Rat)⟩ := by
    apply Cq.ext' <;> simp only [Cq.mul]
    · rw [Rat.intCast_neg]; grind
    · grind
  rw [e] at m
  have t1 := ab_le.1 h.is.le
  have t2 := ab_le.1 h'.is.le
  have hPI := PI_val
  have d := h'.ang.diff m b2 (by rw [ab_le]; constructor <;> grind) (by decide +kernel)
  rcases one_angle2 d (by rw [ab_le]; constructor <;> grind) (by decide +kernel) with hc | hc | hc
  · left
    rw [show val (phw u v) - val (phw x y) - PI / 2 = val (phw u v) - (val (phw x y) + PI / 2) by grind]
    exact Rat.le_trans hc (by decide +kernel)
  · exfalso
    have hc := ab_le.1 (Rat.le_trans hc (show _ ≤ (1 / 100 : Rat) by decide +kernel))
    grind
  · right
    rw [show val (phw u v) - val (phw x y) + 3 * PI / 2 = val (phw u v) - (val (phw x y) + PI / 2) + 2 * PI by grind]
    exact Rat.le_trans hc (by decide +kernel)

structure QuOk (x y u v : Nat) : Prop where
  o2 : PhOk u v
  p1 : fin (phw x y)
  p2 : fin (phw u v)
  f : fin (fsub (phw u v) (phw x y))
  nf : NearFin (fsub (phw u v) (phw x y)) whp w10
  cases : NearOk (fsub (phw u v) (phw x y)) whp w10 ∨ (¬ NearOk (fsub (phw u v) (phw x y)) whp w10 ∧ NearOk (fsub (phw u v) (phw x y)) w3p w10)

theorem qu_ok {x y u v : Nat} {a b : Int} (h : DirOk x y a b) (h' : DirOk u v (-b) a) : QuOk x y u v := by
  have t1 := ab_le.1 h.is.le
  have t2 := ab_le.1 h'.is.le
  have hPI := PI_val
  have Q := quarter h h'
  obtain ⟨f, r⟩ := fsub_near (B := 7) h'.is.f h.is.f (by rw [ab_le]; constructor <;> grind) (by decide +kernel) (by decide +kernel)
  have r' := ab_le.1 r
  have big : ab (val (fsub (phw u v) (phw x y))) ≤ 1152921504606846976 := by rw [ab_le]; constructor <;> grind
  have nf : NearFin (fsub (phw u v) (phw x y)) whp w10 := near_fin f fin_whp fin_w10 (le_1000 big) (by rw [val_whp]; exact le_1000 (by decide +kernel)) (by rw [val_w10]; exact le_1000 (by decide +kernel))
  have he := ea_val
  refine ⟨h'.ok, h.is.f, h'.is.f, f, nf, ?_⟩
  by_cases hn : NearOk (fsub (phw u v) (phw x y)) whp w10
  · exact Or.inl hn
  · right
    refine ⟨hn, ?_⟩
    rcases Q with Q | Q
    · exfalso
      apply hn
      have Q := ab_le.1 Q
      refine near_c f fin_whp fin_w10 val_w10 (by decide +kernel) (by decide +kernel) big (by rw [val_whp]; decide +kernel) ?_
      rw [val_whp, ab_le]; rw [he] at Q
      constructor <;> grind
    · have Q := ab_le.1 Q
      have w := ab_le.1 val_w3p
      refine near_c f fin_w3p fin_w10 val_w10 (by decide +kernel) (by decide +kernel) big (by decide +kernel) ?_
      rw [ab_le]; rw [he] at Q
      constructor <;> grind

/-- The turned number's words and values. -/
def rw' (x y : Nat) : Nat → Nat × Nat
  | 0 => (x, y)
  | k + 1 => (fneg (rw' x y k).2, (rw' x y k).1)
def ri (a b : Int) : Nat → Int × Int
  | 0 => (a, b)
  | k + 1 => (-(ri a b k).2, (ri a b k).1)

structure RotOk (x y : Nat) (a b : Int) (k : Nat) : Prop where
  f1 : fin (rw' x y k).1
  f2 : fin (rw' x y k).2
  v1 : val (rw' x y k).1 = (ri a b k).1
  v2 : val (rw' x y k).2 = (ri a b k).2
  b1 : (ri a b k).1.natAbs ≤ 1048576
  b2 : (ri a b k).2.natAbs ≤ 1048576
  nz : ¬ ((ri a b k).1 = 0 ∧ (ri a b k).2 = 0)
theorem RotOk.dir {x y : Nat} {a b : Int} {k : Nat} (h : RotOk x y a b k) : DirOk (rw' x y k).1 (rw' x y k).2 (ri a b k).1 (ri a b k).2 :=
  dir_ok h.f1 h.f2 h.v1 h.v2 h.nz (by have := h.b1; omega) (by have := h.b2; omega)
theorem rot_ok {x y : Nat} {a b : Int} (h : RotOk x y a b 0) : ∀ k, RotOk x y a b k
  | 0 => h
  | k + 1 => by
    obtain ⟨f1, f2, v1, v2, b1, b2, nz⟩ := rot_ok h k
    obtain ⟨g1, g2⟩ := fneg_int f2 v2
    refine ⟨g1, f1, g2, v1, ?_, b1, ?_⟩
    · show (-(ri a b k).2).natAbs ≤ _
      omega
    · show ¬ (-(ri a b k).2 = 0 ∧ (ri a b k).1 = 0)
      omega
theorem rot_step {x y : Nat} {a b : Int} (h : RotOk x y a b 0) (k : Nat) : QuOk (rw' x y k).1 (rw' x y k).2 (rw' x y (k + 1)).1 (rw' x y (k + 1)).2 :=
  qu_ok (rot_ok h k).dir (rot_ok h (k + 1)).dir
theorem fneg_fneg {x : Nat} (h : x < 18446744073709551616) : fneg (fneg x) = x := by
  rw [fneg_val0 _ (fneg_lt h), fneg_val0 x h]
  split <;> split <;> omega
theorem rot_four {x y : Nat} (hx : x < 18446744073709551616) (hy : y < 18446744073709551616) : rw' x y 4 = (x, y) := by
  simp only [rw']
  rw [fneg_fneg hx, fneg_fneg hy]

theorem rot_start {x y : Nat} (hx : Whl x 1048576) (hy : Whl y 1048576) (hz : ¬ (val x = val 0 ∧ val y = val 0)) : RotOk x y (iv x) (iv y) 0 := by
  obtain ⟨fx, vx, bx⟩ := hx.iv
  obtain ⟨fy, vy, by'⟩ := hy.iv
  refine ⟨fx, fy, vx, vy, bx, by', ?_⟩
  rintro ⟨h1, h2⟩
  have h1 : iv x = 0 := h1
  have h2 : iv y = 0 := h2
  apply hz
  rw [vx, vy, h1, h2, val_zero]
  exact ⟨rfl, rfl⟩

theorem sub_self_ok {p : Nat} (f : fin p) (h : ab (val p) ≤ 31416 / 10000) : fin (fsub p p) ∧ ab (val (fsub p p)) ≤ 44 ∧ NearOk (tn (fsub p p) 100) 0 w10 := by
  obtain ⟨g, r⟩ := sub_rd f f (by rw [Rat.sub_self, ab_zero]; exact p2_pos 1023)
  have e : val (fsub p p) = 0 := by
    have := r.int 0 (by rw [Rat.sub_self]; rfl) (by decide)
    rw [this]; rfl
  have b44 : ab (val (fsub p p)) ≤ 44 := by rw [e]; decide +kernel
  have T := turned_is g b44
  have A := T.ang (z := ⟨1, 0⟩) (u := 0) (A := 0) (K := 0) (by rw [e]; exact ang_one (by decide)) (by rw [e]; decide +kernel) (by decide +kernel) (by decide +kernel) (by decide) (by decide +kernel)
  have hPI := PI_val
  have le := T.le
  have O := one_angle A (by grind) (by decide +kernel)
  refine ⟨g, b44, near_c T.f fin_zero fin_w10 val_w10 (by decide +kernel) (by decide +kernel) (by grind) (by rw [val_zero]; decide +kernel) ?_⟩
  rw [val_zero, show val (tn (fsub p p) 100) - 0 = val (tn (fsub p p) 100) by grind]
  exact Rat.le_trans O (by decide +kernel)

set_option maxHeartbeats 1000000 in
set_option maxRecDepth 100000 in
theorem turned_walk (x y : Nat) (w : World) (hx : x < 18446744073709551616) (hy : y < 18446744073709551616) :
    Calls Try.prog 12 #[.float .f64 x, .float .f64 y] w fun e w' => e = .returned (.bool true) ∧ Below w.heap.size w w' := by
  have fm : fin 4697254411347427328 := fin_of _ (by decide)
  have vm : val 4697254411347427328 = (1048576 : Int) := by decide +kernel
  have HM := Lib.hid vm
  clear vm
  have f0 := fin_zero
  by_cases hwx : Whl x 1048576
  · by_cases hwy : Whl y 1048576
    · have fx := hwx.1
      have fy := hwy.1
      by_cases hz : val x = val 0 ∧ val y = val 0
      · have z1 := decide_eq_true hz.1
        have z2 := decide_eq_true hz.2
        clear hz
        go_enter Try.func12, Try.ntmps12
        go_wp2_with (go_at_call 35; refine (whole_yes _ _ 1048576 _ (by assumption) fm HM.out (by omega)).mono ?_; rintro e w' ⟨rfl, rfl⟩)
        go_ret
        exact ⟨rfl, Below.refl _ _⟩
      · have R := rot_start hwx hwy hz
        have HR := Lib.hid (rot_ok R)
        have HS := Lib.hid (rot_step R)
        have ok : PhOk x y := (rot_ok R 0).dir.ok
        have IS := (rot_ok R 0).dir.is
        have fp : fin (phw x y) := IS.f
        obtain ⟨e1, e2, e3⟩ := sub_self_ok fp IS.le
        have h4 := Lib.hid (rot_four hx hy)
        have g1 := fin_whp
        have g2 := fin_w3p
        have g3 := fin_w10
        have ft := (turned_is e1 e2).f
        unfold whp w3p w10 at *
        clear R IS
        by_cases zx : val x = val 0
        · have zy : ¬ val y = val 0 := fun h => hz ⟨zx, h⟩
          have ZX := decide_eq_true zx
          clear zx hz
          go_enter Try.func12, Try.ntmps12
          go_wp2_with (go_at_call 35; refine (whole_yes _ _ 1048576 _ (by assumption) fm HM.out (by omega)).mono ?_; rintro e w' ⟨rfl, rfl⟩)
          go_wp2_with (go_at_call 34; refine (phase_any _ _ _ (by assumption)).mono ?_; rintro e w' ⟨rfl, rfl⟩)
          go_loop [0, 1, 6, 29] (fun u v b i => ∃ k : Nat, k ≤ 4 ∧ i = .int .i64 k ∧ u = .float .f64 (rw' x y k).1 ∧ v = .float .f64 (rw' x y k).2 ∧ b = .float .f64 (phw (rw' x y k).1 (rw' x y k).2)) (fun _ _ _ i => 4 - (intOf i).toNat)
          case atStart => exact ⟨0, Nat.zero_le _, rfl, rfl, rfl, rfl⟩
          case round =>
            obtain ⟨k, hk, rfl, rfl, rfl, rfl⟩ := hrel
            by_cases hlt : k < 4
            · have S : QuOk (rw' x y k).1 (rw' x y k).2 (fneg (rw' x y k).2) (rw' x y k).1 := HS.out k
              have q1 := (HR.out k).f1
              have q2 := (HR.out k).f2
              have E1 : Hid ((rw' x y (k + 1)).1 = fneg (rw' x y k).2) := Lib.hid rfl
              have E2 : Hid ((rw' x y (k + 1)).2 = (rw' x y k).1) := Lib.hid rfl
              generalize (rw' x y k).1 = u at *
              generalize (rw' x y k).2 = v at *
              have HK := Lib.hid S.cases
              obtain ⟨s1, s2, s3, s4, s5, _⟩ := S
              unfold whp w3p w10 at *
              rcases HK.out with t1 | ⟨t1, t2⟩
              · clear HK
                go_wp2_with (first | (go_at_call 34; refine (phase_any _ _ _ s1).mono ?_; rintro e w' ⟨rfl, rfl⟩) | (go_at_call 32; refine (near_yes _ _ _ _ (by assumption) (by assumption) (by assumption) t1).mono ?_; rintro e w' ⟨rfl, rfl⟩))
                go_round
                case rel => exact ⟨k + 1, by omega, by go_num, by rw [E1.out], by rw [E2.out], by rw [E1.out, E2.out]⟩
                case measure => simp [intOf]; omega
              · clear HK
                go_wp2_with (go_at_call 34; refine (phase_any _ _ _ s1).mono ?_; rintro e w' ⟨rfl, rfl⟩)
                refine (near_no _ 4609753056924675352 _ _ s4 g1 g3 s5 t1).mono ?_
                rintro e w' ⟨rfl, rfl⟩
                go_wp2_with fail
                refine (near_yes _ 13840363733596185042 _ _ s4 g2 g3 t2).mono ?_
                rintro e w' ⟨rfl, rfl⟩
                go_wp2
                go_round
                case rel => exact ⟨k + 1, by omega, by go_num, by rw [E1.out], by rw [E2.out], by rw [E1.out, E2.out]⟩
                case measure => simp [intOf]; omega
            · obtain rfl : k = 4 := by omega
              rw [h4.out]
              go_wp2_with (first | (go_at_call 36; refine (turned_any _ _ e1 e2).mono ?_; rintro e w' ⟨rfl, rfl⟩) | (go_at_call 32; refine (near_yes _ _ _ _ (by assumption) (by assumption) (by assumption) e3).mono ?_; rintro e w' ⟨rfl, rfl⟩))
              go_ret
              exact ⟨rfl, Below.refl _ _⟩
        · clear hz
          go_enter Try.func12, Try.ntmps12
          go_wp2_with (first | (go_at_call 35; refine (whole_yes _ _ 1048576 _ (by assumption) fm HM.out (by omega)).mono ?_; rintro e w' ⟨rfl, rfl⟩) | (go_at_call 34; refine (phase_any _ _ _ (by assumption)).mono ?_; rintro e w' ⟨rfl, rfl⟩))
          go_loop [0, 1, 6, 29] (fun u v b i => ∃ k : Nat, k ≤ 4 ∧ i = .int .i64 k ∧ u = .float .f64 (rw' x y k).1 ∧ v = .float .f64 (rw' x y k).2 ∧ b = .float .f64 (phw (rw' x y k).1 (rw' x y k).2)) (fun _ _ _ i => 4 - (intOf i).toNat)
          case atStart => exact ⟨0, Nat.zero_le _, rfl, rfl, rfl, rfl⟩
          case round =>
            obtain ⟨k, hk, rfl, rfl, rfl, rfl⟩ := hrel
            by_cases hlt : k < 4
            · have S : QuOk (rw' x y k).1 (rw' x y k).2 (fneg (rw' x y k).2) (rw' x y k).1 := HS.out k
              have q1 := (HR.out k).f1
              have q2 := (HR.out k).f2
              have E1 : Hid ((rw' x y (k + 1)).1 = fneg (rw' x y k).2) := Lib.hid rfl
              have E2 : Hid ((rw' x y (k + 1)).2 = (rw' x y k).1) := Lib.hid rfl
              generalize (rw' x y k).1 = u at *
              generalize (rw' x y k).2 = v at *
              have HK := Lib.hid S.cases
              obtain ⟨s1, s2, s3, s4, s5, _⟩ := S
              unfold whp w3p w10 at *
              rcases HK.out with t1 | ⟨t1, t2⟩
              · clear HK
                go_wp2_with (first | (go_at_call 34; refine (phase_any _ _ _ s1).mono ?_; rintro e w' ⟨rfl, rfl⟩) | (go_at_call 32; refine (near_yes _ _ _ _ (by assumption) (by assumption) (by assumption) t1).mono ?_; rintro e w' ⟨rfl, rfl⟩))
                go_round
                case rel => exact ⟨k + 1, by omega, by go_num, by rw [E1.out], by rw [E2.out], by rw [E1.out, E2.out]⟩
                case measure => simp [intOf]; omega
              · clear HK
                go_wp2_with (go_at_call 34; refine (phase_any _ _ _ s1).mono ?_; rintro e w' ⟨rfl, rfl⟩)
                refine (near_no _ 4609753056924675352 _ _ s4 g1 g3 s5 t1).mono ?_
                rintro e w' ⟨rfl, rfl⟩
                go_wp2_with fail
                refine (near_yes _ 13840363733596185042 _ _ s4 g2 g3 t2).mono ?_
                rintro e w' ⟨rfl, rfl⟩
                go_wp2
                go_round
                case rel => exact ⟨k + 1, by omega, by go_num, by rw [E1.out], by rw [E2.out], by rw [E1.out, E2.out]⟩
                case measure => simp [intOf]; omega
            · obtain rfl : k = 4 := by omega
              rw [h4.out]
              go_wp2_with (first | (go_at_call 36; refine (turned_any _ _ e1 e2).mono ?_; rintro e w' ⟨rfl, rfl⟩) | (go_at_call 32; refine (near_yes _ _ _ _ (by assumption) (by assumption) (by assumption) e3).mono ?_; rintro e w' ⟨rfl, rfl⟩))
              go_ret
              exact ⟨rfl, Below.refl _ _⟩
    · go_enter Try.func12, Try.ntmps12
      go_wp2_with fail
      refine (whole_yes _ _ 1048576 _ hwx fm HM.out (by omega)).mono ?_
      rintro e w' ⟨rfl, rfl⟩
      go_wp2_with fail
      refine (whole_no _ _ 1048576 _ hy hwy fm HM.out (by omega)).mono ?_
      rintro e w' ⟨rfl, rfl⟩
      go_wp2
      go_ret
      exact ⟨rfl, Below.refl _ _⟩
  · go_enter Try.func12, Try.ntmps12
    go_wp2_with fail
    refine (whole_no _ _ 1048576 _ hx hwx fm HM.out (by omega)).mono ?_
    rintro e w' ⟨rfl, rfl⟩
    go_wp2
    go_ret
    exact ⟨rfl, Below.refl _ _⟩
end Go.Proofs.Ytigckpmeppddcaa
