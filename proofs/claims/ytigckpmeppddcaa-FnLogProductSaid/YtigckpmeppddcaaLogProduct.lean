/- FnLogProduct: the law over the words, and the walk. -/
import Derived.Test.YtigckpmeppddcaaLz
set_option linter.unusedVariables false
namespace Go.Proofs.Ytigckpmeppddcaa
open Go.RowKit Cx

/-- The words of both differences. -/
def usw (s : Nat) (X Y : Nat → Nat) : Nat → Nat
  | 0 => s
  | k + 1 => fsub (usw s X Y k) (lgw (fhypt (X k) (Y k)))
def vsw (s : Nat) (X Y : Nat → Nat) : Nat → Nat
  | 0 => s
  | k + 1 => fsub (vsw s X Y k) (phw (X k) (Y k))

/-- The sum of the logarithms; the product of the absolute values. -/
def lsum (X Y : Nat → Nat) : Nat → Rat
  | 0 => 0
  | k + 1 => lsum X Y k + val (lgw (fhypt (X k) (Y k)))
def hprod (X Y : Nat → Nat) : Nat → Rat
  | 0 => 1
  | k + 1 => hprod X Y k * val (fhypt (X k) (Y k))

/-! ### The second parts -/
structure DifOk (s : Nat) (X Y : Nat → Nat) (z : Cq) (k : Nat) : Prop where
  f : fin (vsw s X Y k)
  le : ab (val (vsw s X Y k)) ≤ 3142 / 1000 * ((k : Rat) + 1)
  ang : Ang (z.mul (cz (gp X Y k)).conj) (val (vsw s X Y k)) (66 * ea * ((k : Rat) + 1))

theorem dif_ok {s : Nat} {X Y : Nat → Nat} {z : Cq} {n : Nat} (h : AllW X Y n 8) (hn : n ≤ 12) (h0 : DifOk s X Y z 0) : ∀ k, k ≤ n → DifOk s X Y z k
  | 0, _ => h0
  | k + 1, hk => by
    have ih := dif_ok h hn h0 k (by omega)
    have D := one_dir h (show k < n by omega)
    have kb := k_le12 (show k ≤ 12 by omega)
    have kn := cast_nn k
    have hk1 := cast_succ k
    have le1 := ab_le.1 ih.le
    have le2 := ab_le.1 D.is.le
    have he := ea_val
    have hmu := mu_le
    have hmu0 := mu_pos
    obtain ⟨f, r⟩ := fsub_near (B := 45) ih.f D.is.f (by rw [ab_le]; constructor <;> grind) (by decide +kernel) (by decide +kernel)
    have r' := ab_le.1 r
    have m := ih.ang.mul D.ang.conj (by rw [ab_le]; constructor <;> grind) (by rw [ab_neg]; exact Rat.le_trans D.is.le (by decide +kernel)) (by rw [he]; grind)
    rw [Cq.mul_assoc, ← Cq.conj_mul, ← cz_step, show val (vsw s X Y k) + -val (phw (X k) (Y k)) = val (vsw s X Y k) - val (phw (X k) (Y k)) by grind] at m
    refine ⟨f, ?_, ?_⟩
    · show ab (val (fsub (vsw s X Y k) (phw (X k) (Y k)))) ≤ _
      rw [hk1, ab_le]; constructor <;> grind
    · refine m.to (d := 45 * (1 / 4503599627370496)) (by rw [ab_le]; constructor <;> grind) r ?_ ?_
      · rw [hk1, he]; grind
      · rw [hk1, he]; grind

theorem dif_start {X Y : Nat → Nat} {n : Nat} (h : AllW X Y n 8) (hn : n ≤ 12) : DifOk (phw (gw X Y n).1 (gw X Y n).2) X Y (cz (gp X Y n)) 0 := by
  have D := prod_dir h hn (Nat.le_refl n)
  have z : ((0 : Nat) : Rat) = 0 := rfl
  refine ⟨D.is.f, ?_, ?_⟩
  · show ab (val (phw _ _)) ≤ _
    rw [z]
    exact Rat.le_trans D.is.le (by decide +kernel)
  · show Ang _ (val (phw _ _)) _
    rw [z]
    have e : (cz (gp X Y 0)).conj = ⟨1, 0⟩ := one_conj
    rw [e, Cq.mul_one]
    exact D.ang.mono (by decide +kernel) (by decide +kernel)

theorem dif_end {X Y : Nat → Nat} {n : Nat} (h : AllW X Y n 8) (hn : n ≤ 12) : SumEnd (vsw (phw (gw X Y n).1 (gw X Y n).2) X Y n) := by
  have S := dif_ok h hn (dif_start h hn) n (Nat.le_refl n)
  have kb := k_le12 hn
  have kn := cast_nn n
  have he := ea_val
  have A := S.ang
  rw [cz_norm] at A
  exact sum_end S.f (Rat.le_trans S.le (by grind)) (Rat.intCast_pos.2 (by have := gn_pos h n (Nat.le_refl n); omega)) (A.mono (by rw [he]; grind) (by decide +kernel))

/-! ### The first parts -/
theorem lg_le13 {X a u : Rat} (h : Lg X a u) (ha : ab a ≤ 50) (h1 : 9 / 10 ≤ X) (h2 : X ≤ 12) (hu : u ≤ 1 / 1000) : ab a ≤ 13 := by
  have n1 : nu ≤ 1 / 1000 := by decide +kernel
  have g1 := ex_ge (Rat.le_trans ha (show (50 : Rat) ≤ 1000 by decide +kernel))
  have l1 := Rl.lo h
  have u0 := Rl.u0 h
  have i := h.inv (Rat.le_trans ha (by decide +kernel)) (by grind)
  have g2 := ex_ge (a := -a) (by rw [ab_neg]; exact Rat.le_trans ha (by decide +kernel))
  have l2 := Rl.lo i
  have hX : 0 < X := by grind
  have hi : X * X⁻¹ = 1 := Rat.mul_inv_cancel _ (Rat.ne_of_lt hX).symm
  have hip : 0 < X⁻¹ := Rat.inv_pos.2 hX
  have hi2 : X⁻¹ ≤ 10 / 9 := by
    have := Rat.mul_le_mul_of_nonneg_right h1 (Rat.le_of_lt hip)
    grind
  have ha' := ab_le.1 ha
  rw [ab_le]
  constructor
  · by_cases hc : a ≤ 0
    · grind
    · have t := mul_le_mul_nn g1 (show 9 / 10 ≤ 1 - u by grind) (by grind) (by grind)
      grind
  · by_cases hc : 0 ≤ a
    · grind
    · have t := mul_le_mul_nn g2 (show 9 / 10 ≤ 1 - (u + nu) by grind) (by grind) (by grind)
      grind

structure OneLn (x y : Nat) (N : Rat) : Prop where
  L : LnOk x y (iv x) (iv y)
  S : SgOk x y
  f : fin (lgw (fhypt x y))
  le : ab (val (lgw (fhypt x y))) ≤ 13
  lg : Lg (val (fhypt x y)) (val (lgw (fhypt x y))) el
  pos : 0 < val (fhypt x y)
  rl : Rl (10 * eps) (val (fhypt x y) * val (fhypt x y)) N

theorem one_ln {X Y : Nat → Nat} {n : Nat} (h : AllW X Y n 8) {k : Nat} (hk : k < n) : OneLn (X k) (Y k) ((iv (X k) * iv (X k) + iv (Y k) * iv (Y k) : Int) : Rat) := by
  obtain ⟨h1, h2, h3⟩ := h k hk
  obtain ⟨L, S⟩ := whl_ln (by decide) h1 h2 h3
  have nz := h.nz hk
  have I := L.lo.is
  have b1 := sq_bound (show (iv (X k)).natAbs ≤ 8 from h1.iv.2.2)
  have b2 := sq_bound (show (iv (Y k)).natAbs ≤ 8 from h2.iv.2.2)
  have hone : (1 : Rat) ≤ ((iv (X k) * iv (X k) + iv (Y k) * iv (Y k) : Int) : Rat) := by
    have := Rat.intCast_le_intCast.2 (one_le_sq nz)
    exact this
  have hup : ((iv (X k) * iv (X k) + iv (Y k) * iv (Y k) : Int) : Rat) ≤ 128 := by
    have := Rat.intCast_le_intCast.2 (show iv (X k) * iv (X k) + iv (Y k) * iv (Y k) ≤ 128 by omega)
    exact this
  have hp : 0 < val (fhypt (X k) (Y k)) := by have := L.H.ge nz; grind
  have lo := L.rl.lo
  have hi := L.rl.hi
  rw [eps_val] at lo hi
  have l9 : 9 / 10 ≤ val (fhypt (X k) (Y k)) := le_of_sq_le (Rat.le_of_lt hp) (by grind)
  have u12 : val (fhypt (X k) (Y k)) ≤ 12 := le_of_sq_le (by decide) (by grind)
  exact ⟨L, S, I.f, lg_le13 I.lg I.le l9 u12 (by decide +kernel), I.lg, hp, L.rl⟩

structure UsOk (s : Nat) (X Y : Nat → Nat) (k : Nat) : Prop where
  f : fin (usw s X Y k)
  err : ab (val (usw s X Y k) - (val s - lsum X Y k)) ≤ (k : Rat) * (300 / 4503599627370496)
  sl : ab (lsum X Y k) ≤ 13 * (k : Rat)
  lg : Lg (hprod X Y k) (lsum X Y k) ((k : Rat) * (el + nu))
  hp : 0 < hprod X Y k
  rl : Rl ((k : Rat) * (10 * eps)) (hprod X Y k * hprod X Y k) ((gn X Y k : Int) : Rat)

theorem us_num {u s l a r : Rat} {k : Rat} (h1 : ab (u - (s - l)) ≤ k * (300 / 4503599627370496)) (h2 : ab (r - (u - a)) ≤ 300 * (1 / 4503599627370496)) : ab (r - (s - (l + a))) ≤ (k + 1) * (300 / 4503599627370496) := by
  rw [ab_le] at *; constructor <;> grind
theorem us_le {u s l k : Rat} (h1 : ab (u - (s - l)) ≤ k * (300 / 4503599627370496)) (h2 : ab s ≤ 50) (h3 : ab l ≤ 13 * k) (h4 : k ≤ 12) (h5 : 0 ≤ k) : ab u ≤ 210 := by
  rw [ab_le] at *; constructor <;> grind

theorem us_ok {s : Nat} {X Y : Nat → Nat} {n : Nat} (h : AllW X Y n 8) (hn : n ≤ 12) (fs : fin s) (ls : ab (val s) ≤ 50) : ∀ k, k ≤ n → UsOk s X Y k
  | 0, _ => by
    have z : ((0 : Nat) : Rat) = 0 := rfl
    refine ⟨fs, ?_, ?_, ?_, by simp only [hprod]; decide, ?_⟩
    · show ab (val s - (val s - 0)) ≤ _
      rw [z, show val s - (val s - 0) = 0 by grind, ab_zero]; decide +kernel
    · show ab 0 ≤ _
      rw [z, ab_zero]; decide +kernel
    · show Rl _ 1 (ex 0)
      rw [z, ex_zero, Rat.zero_mul]; exact Rl.refl (by decide)
    · show Rl _ (1 * 1) ((1 : Int) : Rat)
      rw [z, Rat.zero_mul]
      have e1 : (1 : Rat) * 1 = 1 := by decide +kernel
      have e2 : ((1 : Int) : Rat) = 1 := rfl
      rw [e1, e2]
      exact Rl.refl (by decide)
  | k + 1, hk => by
    have ih := us_ok h hn fs ls k (by omega)
    have O := one_ln h (show k < n by omega)
    have kb := k_le12 (show k ≤ 12 by omega)
    have kn := cast_nn k
    have hk1 := cast_succ k
    have hu := us_le ih.err ls ih.sl kb kn
    have hu' := ab_le.1 hu
    have lo := ab_le.1 O.le
    obtain ⟨f, r⟩ := fsub_near (B := 300) ih.f O.f (by rw [ab_le]; constructor <;> grind) (by decide +kernel) (by decide +kernel)
    have e1 : el + nu ≤ 1 / 1000 := by decide +kernel
    have e2 : 0 ≤ el + nu := by decide +kernel
    have e3 := Rat.mul_le_mul_of_nonneg_right kb e2
    have e4 := Rat.mul_le_mul_of_nonneg_right kb (show 0 ≤ 10 * eps by rw [eps_val]; decide +kernel)
    have e5 : 12 * (10 * eps) ≤ 1 / 1000 := by rw [eps_val]; decide +kernel
    have e6 : 10 * eps ≤ 1 / 1000 := by rw [eps_val]; decide +kernel
    have sl := ab_le.1 ih.sl
    refine ⟨f, ?_, ?_, ?_, ?_, ?_⟩
    · rw [hk1]; exact us_num ih.err r
    · show ab (lsum X Y k + val (lgw (fhypt (X k) (Y k)))) ≤ _
      rw [hk1, ab_le]; constructor <;> grind
    · have m := ih.lg.mul O.lg (Rat.le_trans ih.sl (by grind)) (Rat.le_trans O.le (by decide +kernel)) (by grind)
      rw [hk1]
      exact m.mono (by grind) (by grind)
    · exact Rat.mul_pos ih.hp O.pos
    · have m := ih.rl.mul O.rl (by grind)
      rw [hk1]
      show Rl _ (hprod X Y k * val (fhypt (X k) (Y k)) * (hprod X Y k * val (fhypt (X k) (Y k)))) ((gn X Y k * (iv (X k) * iv (X k) + iv (Y k) * iv (Y k)) : Int) : Rat)
      rw [Rat.intCast_mul, show hprod X Y k * val (fhypt (X k) (Y k)) * (hprod X Y k * val (fhypt (X k) (Y k))) = hprod X Y k * hprod X Y k * (val (fhypt (X k) (Y k)) * val (fhypt (X k) (Y k))) by grind]
      exact m.mono (by grind) (by grind)

theorem prod_ln {X Y : Nat → Nat} {n : Nat} (h : AllW X Y n 8) (hn : n ≤ 12) : LnOk (gw X Y n).1 (gw X Y n).2 (gp X Y n).1 (gp X Y n).2 := by
  obtain ⟨f1, f2, v1, v2⟩ := gw_ok h hn n (Nat.le_refl n)
  obtain ⟨b1, b2⟩ := gp_le h hn n (Nat.le_refl n)
  refine ln_ok f1 f2 v1 v2 ?_ b1 b2
  rintro ⟨h1, h2⟩
  have := gp_norm X Y n
  have h3 := gn_pos h n (Nat.le_refl n)
  rw [h1, h2] at this
  omega

theorem ue_num {u s l k : Rat} (h1 : ab (u - (s - l)) ≤ k * (300 / 4503599627370496)) (h2 : ab (s - l) ≤ 40 * el) (hk : k ≤ 12) (h0 : 0 ≤ k) : ab (u - 0) ≤ 100 * (1 / 2199023255552) := by
  rw [el_val] at h2
  rw [ab_le] at *; constructor <;> grind

theorem us_end {X Y : Nat → Nat} {n : Nat} (h : AllW X Y n 8) (hn : n ≤ 12) : fin (usw (lgw (fhypt (gw X Y n).1 (gw X Y n).2)) X Y n) ∧ NearOk (usw (lgw (fhypt (gw X Y n).1 (gw X Y n).2)) X Y n) 0 w100 := by
  have L := prod_ln h hn
  have I := L.lo.is
  have U := us_ok h hn I.f I.le n (Nat.le_refl n)
  have kb := k_le12 hn
  have kn := cast_nn n
  have hg : ((gp X Y n).1 * (gp X Y n).1 + (gp X Y n).2 * (gp X Y n).2 : Int) = gn X Y n := gp_norm X Y n
  have rl := L.rl
  rw [hg] at rl
  have e2 : 0 ≤ el + nu := by decide +kernel
  have e3 := Rat.mul_le_mul_of_nonneg_right kb e2
  have e4 := Rat.mul_le_mul_of_nonneg_right kb (show 0 ≤ 10 * eps by rw [eps_val]; decide +kernel)
  have hp : 0 < val (fhypt (gw X Y n).1 (gw X Y n).2) := by
    have := L.lo.lo
    have := p2_pos (-60)
    grind
  have R := (rl.trans (U.rl.symm.mono (show (n : Rat) * (10 * eps) ≤ 12 * (10 * eps) from e4) (by rw [eps_val]; decide +kernel)) (by rw [eps_val]; decide +kernel)).of_sq hp U.hp
  have LL := (U.lg.mono e3 (by decide +kernel)).near R (by rw [eps_val]; decide +kernel)
  have Q := I.lg.uniq LL (Rat.le_trans I.le (by decide +kernel)) (Rat.le_trans U.sl (by grind)) (by rw [eps_val]; decide +kernel)
  have Q' := Rat.le_trans Q (show _ ≤ 40 * el by rw [eps_val]; decide +kernel)
  have lu := us_le U.err I.le U.sl kb kn
  refine ⟨U.f, near_c U.f fin_zero fin_w100 val_w100 (by decide +kernel) (by decide +kernel) (Rat.le_trans lu (by decide +kernel)) (by rw [val_zero]; decide +kernel) ?_⟩
  rw [val_zero]
  exact ue_num U.err Q' kb kn

set_option maxHeartbeats 1000000 in
set_option maxRecDepth 100000 in
theorem logProduct_walk (a0 : Option Addr) (n0 c0 : Nat) (X : Nat → Nat) (a1 : Option Addr) (n1 c1 : Nat) (Y : Nat → Nat) (w : World) (h0 : FRow w a0 n0 X) (h1 : FRow w a1 n1 Y) :
    Calls Try.prog 18 #[.slice a0 n0 c0, .slice a1 n1 c1] w fun e w' => e = .returned (.bool true) ∧ Below w.heap.size w w' := by
  have fm : fin 4620693217682128896 := fin_of _ (by decide)
  have vm : val 4620693217682128896 = (8 : Int) := by decide +kernel
  have HM := Lib.hid vm
  clear vm
  have hl0 := h0.1
  have hl1 := h1.1
  have f0 := fin_zero
  have fone := fin_one
  unfold Cx.one at fone
  by_cases hlen : n0 = n1 ∧ (n0 : Int) ≤ 12
  · obtain ⟨rfl, hle⟩ := hlen
    by_cases hall : AllW X Y n0 8
    · have HA := Lib.hid hall
      have HR0 := Lib.hid h0
      have HR1 := Lib.hid h1
      have HC := Lib.hid (rows2 h0 h1)
      have DP := prod_ln hall (show n0 ≤ 12 by omega)
      have fp := DP.D.is.f
      have op := DP.D.ok
      have hyp := DP.hyp
      have lok := DP.lo
      have fl := lok.is.f
      have HL := Lib.hid (lok.is.le)
      clear h0 h1 hall DP
      go_enter Try.func18, Try.ntmps18
      go_wp2_with fail
      refine (allw_yes _ _ _ _ _ _ _ 8 X Y _ HR0.out HR1.out fm HM.out (by omega) (by omega) HA.out).mono ?_
      rintro e w' ⟨rfl, rfl⟩
      go_wp2_with fail
      refine (product_any _ _ _ _ _ X Y _ HR0.out HR1.out HA.out (by omega)).mono ?_
      rintro e w' ⟨rfl, hd0⟩
      go_wp2_with (go_at_call 40; refine (log_any _ _ _ hyp op lok).mono ?_; rintro e w' ⟨rfl, rfl⟩)
      go_loopw [7, 8, 30] (fun u v i wr => ∃ k : Nat, k ≤ n0 ∧ i = .int .i64 k ∧ u = .float .f64 (usw (lgw (fhypt (gw X Y n0).1 (gw X Y n0).2)) X Y k) ∧ v = .float .f64 (vsw (phw (gw X Y n0).1 (gw X Y n0).2) X Y k) ∧ Drew w wr) (fun _ _ i _ => n0 - (intOf i).toNat)
      case atStart => exact ⟨0, Nat.zero_le _, rfl, rfl, rfl, hd0⟩
      case round =>
        obtain ⟨k, hk, rfl, rfl, rfl, hd⟩ := hrel
        have fu := (us_ok HA.out (by omega) fl HL.out k hk).f
        have fv := (dif_ok HA.out (by omega) (dif_start HA.out (by omega)) k hk).f
        by_cases hlt : k < n0
        · obtain ⟨b0, o0, b1, o1, rfl, rfl, hc⟩ := HC.out k hlt
          obtain ⟨x1, y1⟩ := hc k hlt
          have x1 := hd.cell x1
          have y1 := hd.cell y1
          have O := one_ln HA.out hlt
          have q1 := O.L.hyp
          have q2 := O.L.D.ok
          have q3 := O.L.lo
          have q4 := O.f
          have q5 := O.L.D.is.f
          obtain ⟨s1, s2, s3, s4⟩ := O.S
          have fx := q1.fp
          have fy := q1.fq
          have HZ := Lib.hid s4
          have k0 : (0 : Int) ≤ (k : Int) := by omega
          have k1 : (k : Int) < (n0 : Int) := by omega
          unfold Cx.one at HZ
          clear hc O s4
          go_wp2
          go_quiet ((go_at_call 40; exact quietL (log_any _ _ _ q1 q2 q3)))
          rcases HZ.out with ⟨T1, T2⟩ | ⟨T1, T2⟩
          all_goals
            clear HZ
            go_wp2
            go_quiet (fail)
            go_wp2
            go_roundw
            case rel => exact ⟨k + 1, by omega, by go_num, rfl, rfl, by first | exact hd.more _ | exact (hd.more _).more _⟩
            case measure => simp [intOf]; omega
        · obtain rfl : k = n0 := by omega
          have E := dif_end HA.out (show k ≤ 12 by omega)
          obtain ⟨u1, u2⟩ := us_end HA.out (show k ≤ 12 by omega)
          have hb := hd.below
          have e1 := E.f
          have e2 := E.le
          have e3 := E.near
          have ft := (turned_is e1 e2).f
          have g3 := fin_w100
          have U2 := Lib.hid u2
          unfold w100 at *
          clear hd E u2
          go_wp2_with fail
          refine (near_yes _ _ _ _ u1 f0 g3 U2.out).mono ?_
          rintro e w' ⟨rfl, rfl⟩
          go_wp2_with fail
          refine (turned_any _ _ e1 e2).mono ?_
          rintro e w' ⟨rfl, rfl⟩
          go_wp2_with fail
          refine (near_yes _ _ _ _ ft f0 g3 e3).mono ?_
          rintro e w' ⟨rfl, rfl⟩
          go_wp2
          go_ret
          exact ⟨rfl, hb⟩
    · have H0 := Lib.hid h0
      have H1 := Lib.hid h1
      have HA := Lib.hid hall
      clear h0 h1 hall
      go_enter Try.func18, Try.ntmps18
      go_wp2_with (go_at_call 21; refine (allw_no _ _ _ _ _ _ _ 8 X Y _ H0.out H1.out fm HM.out (by omega) (by omega) HA.out).mono ?_; rintro e w' ⟨rfl, rfl⟩)
      go_ret
      exact ⟨rfl, Below.refl _ _⟩
  · have HL : Hid (n0 ≠ n1 ∨ (12 : Int) < (n0 : Int)) := Lib.hid (by omega)
    clear hlen h0 h1
    go_enter Try.func18, Try.ntmps18
    go_wp2_with (go_at_call 21; refine (allw_len _ _ _ _ _ _ _ _ _ hl0 hl1 HL.out).mono ?_; rintro e w' ⟨rfl, rfl⟩)
    go_ret
    exact ⟨rfl, Below.refl _ _⟩
end Go.Proofs.Ytigckpmeppddcaa
