/- FnAbsProduct: the walk: the absolute value of a product is near the product of the absolute values. -/
import Derived.Test.YtigckpmeppddcaaPr
set_option linter.unusedVariables false
namespace Go.Proofs.Ytigckpmeppddcaa
open Go.RowKit Cx

/-- The product of the absolute values, as words. -/
def sw (X Y : Nat → Nat) : Nat → Nat
  | 0 => one
  | k + 1 => fmul (sw X Y k) (fhypt (X k) (Y k))

theorem hypt_whl {X Y : Nat → Nat} {n : Nat} {M : Int} (hM : M ≤ 1152921504606846976) (h : AllW X Y n M) {k : Nat} (hk : k < n) : HyptIs (X k) (Y k) (iv (X k)) (iv (Y k)) ∧ HypOk (X k) (Y k) := by
  obtain ⟨q1, q2, q3⟩ := h k hk
  obtain ⟨fx, vx, bx⟩ := q1.iv
  obtain ⟨fy, vy, by'⟩ := q2.iv
  have H := hypt_int fx fy vx vy (by omega) (by omega)
  exact ⟨H, fx, fy, H.ok⟩

/-- What is known of it behind k factors. -/
structure SwOk (X Y : Nat → Nat) (k : Nat) : Prop where
  f : fin (sw X Y k)
  pos : 0 < val (sw X Y k)
  near : Rl (k * (12 * eps)) (val (sw X Y k) * val (sw X Y k)) (gn X Y k : Rat)

theorem rat_nat_le {k : Nat} (h : k ≤ 12) : (k : Rat) ≤ 12 := by
  have := Rat.natCast_le_natCast.2 h; exact this

theorem bounds_of_sq {v : Rat} {u : Rat} {N : Int} (h : Rl u (v * v) (N : Rat)) (hu : u ≤ 1 / 2) (hv : 0 < v) (h1 : 1 ≤ N) (h2 : N ≤ 19342813113834066795298816) : 1 / 2 ≤ v ∧ v ≤ 17592186044416 := by
  have hh := h.half hu
  have a1 : (1 : Rat) ≤ N := by have := Rat.intCast_le_intCast.2 h1; exact this
  have a2 : (N : Rat) ≤ 19342813113834066795298816 := by have := Rat.intCast_le_intCast.2 h2; exact this
  constructor
  · refine le_of_sq_le (Rat.le_of_lt hv) ?_
    have := hh.1
    grind
  · refine le_of_sq_le (by decide) ?_
    have := hh.2
    grind

theorem u_small {k : Nat} (h : k ≤ 12) : (k : Rat) * (12 * eps) ≤ 1 / 1099511627776 := by
  have h1 := rat_nat_le h
  have h2 := Rat.mul_le_mul_of_nonneg_right h1 (show 0 ≤ 12 * eps by rw [eps_val]; decide +kernel)
  refine Rat.le_trans h2 ?_
  rw [eps_val]; decide +kernel

theorem sw_step {X Y : Nat → Nat} {n : Nat} (h : AllW X Y n 8) (hn : n ≤ 12) {k : Nat} (hk : k < n) (ih : SwOk X Y k) : SwOk X Y (k + 1) := by
  have hu := u_small (show k ≤ 12 by omega)
  have hu2 := u_small (show k + 1 ≤ 12 by omega)
  obtain ⟨H, HO⟩ := hypt_whl (by decide) h hk
  have hnz := h.nz hk
  have hN1 := gn_pos h k (by omega)
  have hN2 := gn_le' h hn k (by omega)
  obtain ⟨s1, s2⟩ := bounds_of_sq ih.near (by grind) ih.pos hN1 hN2
  have t1 := H.ge hnz
  have t2 := H.le
  have tp : 0 < val (fhypt (X k) (Y k)) := by grind
  have pp := Rat.mul_pos ih.pos tp
  have hub : val (sw X Y k) * val (fhypt (X k) (Y k)) ≤ Cx.p2 200 := by
    have := mul_le_mul_nn s2 t2 (Rat.le_of_lt ih.pos) (by decide)
    refine Rat.le_trans this ?_
    rw [show (17592186044416 : Rat) * 4611686018427387904 = Cx.p2 106 from by decide +kernel]
    exact p2_mono (by decide)
  have hlb : Cx.p2 (-2) ≤ val (sw X Y k) * val (fhypt (X k) (Y k)) := by
    have := mul_le_mul_nn s1 t1 (by decide +kernel) (Rat.le_of_lt tp)
    refine Rat.le_trans ?_ this
    decide +kernel
  have hm := mul_rd ih.f H.fh (by
    rw [ab_of_nonneg (Rat.le_of_lt pp)]
    have := p2_lt (show 200 < 1023 by decide)
    grind)
  have hr := hm.2.2.rl (Rat.le_trans (p2_mono (by decide)) hlb)
  refine ⟨hm.1, hr.apos, ?_⟩
  have e : fmul (sw X Y k) (fhypt (X k) (Y k)) = sw X Y (k + 1) := rfl
  rw [e] at hr
  have hsq := hr.sq (by rw [eps_val]; decide +kernel)
  have hone : (0 : Rat) < ((iv (X k) * iv (X k) + iv (Y k) * iv (Y k) : Int) : Rat) := Rat.intCast_pos.2 (by have := one_le_sq hnz; omega)
  have hprod := ih.near.mul (H.near.rl hone) (by
    have : 10 * eps < 1 / 2 := by rw [eps_val]; decide +kernel
    grind)
  have e2 : val (sw X Y k) * val (fhypt (X k) (Y k)) * (val (sw X Y k) * val (fhypt (X k) (Y k))) = val (sw X Y k) * val (sw X Y k) * (val (fhypt (X k) (Y k)) * val (fhypt (X k) (Y k))) := by grind
  rw [e2] at hsq
  have e3 : (gn X Y k : Rat) * ((iv (X k) * iv (X k) + iv (Y k) * iv (Y k) : Int) : Rat) = (gn X Y (k + 1) : Rat) := by rw [← Rat.intCast_mul]; rfl
  rw [e3] at hprod
  have e4 : ((k + 1 : Nat) : Rat) = (k : Rat) + 1 := by rw [Rat.natCast_add]; rfl
  have := hsq.trans hprod (by
    have : 12 * eps < 1 / 2 := by rw [eps_val]; decide +kernel
    grind)
  refine this.mono ?_ ?_
  · rw [e4]; grind
  · grind

theorem sw_ok {X Y : Nat → Nat} {n : Nat} (h : AllW X Y n 8) (hn : n ≤ 12) : ∀ k, k ≤ n → SwOk X Y k
  | 0, _ => by
    have e : sw X Y 0 = one := rfl
    refine ⟨by rw [e]; exact fin_one, by rw [e, val_one]; decide, ?_⟩
    have e1 : ((gn X Y 0 : Int) : Rat) = 1 := rfl
    rw [e, val_one, e1, Rat.mul_one]
    refine (Rl.refl (A := 1) (by decide)).mono ?_ ?_
    · rw [eps_val]; decide +kernel
    · rw [eps_val]; decide +kernel
  | k + 1, hk => sw_step h hn (by omega) (sw_ok h hn k (by omega))

theorem near_rl {a b : Nat} {u : Rat} (ha : fin a) (hb : fin b) (h : Rl u (val a) (val b)) (hu : u ≤ 1 / 8796093022208) (la : 1 / 2 ≤ val a) (ua : val a ≤ 4611686018427387904) : NearOk a b a := by
  have pa := h.apos
  have pb := h.pos
  have hh := (h.half (by grind)).1
  have b63 : (9223372036854775808 : Rat) ≤ Cx.p2 1000 := by
    rw [show (9223372036854775808 : Rat) = Cx.p2 63 from by decide +kernel]; exact p2_mono (by decide)
  refine near_of ha hb ha (by rw [ab_of_nonneg (Rat.le_of_lt pa)]; grind) (by rw [ab_of_nonneg (Rat.le_of_lt pb)]; grind) ?_ (by grind) ?_
  · refine Rat.le_trans ?_ la
    rw [half_p2]; exact p2_mono (by decide)
  · have hn := h.near
    have e41 : Cx.p2 (-41) = 1 / 2199023255552 := by decide +kernel
    have m1 := Rat.mul_le_mul_of_nonneg_left hu (Rat.le_of_lt pa)
    have m2 := Rat.mul_le_mul_of_nonneg_left hu (Rat.le_of_lt pb)
    rw [ab_le, e41]
    constructor <;> grind

theorem absProduct_end {X Y : Nat → Nat} {n : Nat} (h : AllW X Y n 8) (hn : n ≤ 12) :
    HypOk (gw X Y n).1 (gw X Y n).2 ∧ fin (fhypt (gw X Y n).1 (gw X Y n).2) ∧ val 0 < val (fhypt (gw X Y n).1 (gw X Y n).2) ∧ NearOk (fhypt (gw X Y n).1 (gw X Y n).2) (sw X Y n) (fhypt (gw X Y n).1 (gw X Y n).2) := by
  have G := gw_ok h hn n (Nat.le_refl _)
  obtain ⟨b1, b2⟩ := gp_le h hn n (Nat.le_refl _)
  have H := hypt_int G.f1 G.f2 G.v1 G.v2 (by omega) (by omega)
  have hnorm := gp_norm X Y n
  have hp := gn_pos h n (Nat.le_refl _)
  have hnz : ¬ ((gp X Y n).1 = 0 ∧ (gp X Y n).2 = 0) := by
    rintro ⟨h1, h2⟩
    rw [h1, h2] at hnorm
    omega
  have S := sw_ok h hn n (Nat.le_refl _)
  have ge := H.ge hnz
  have hr := H.near
  rw [hnorm] at hr
  have hpos : 0 < val (fhypt (gw X Y n).1 (gw X Y n).2) := by grind
  have hrl := (hr.rl (Rat.intCast_pos.2 (by omega))).trans S.near.symm (by
    have := u_small hn
    have : 10 * eps < 1 / 2 := by rw [eps_val]; decide +kernel
    grind)
  have hq := hrl.of_sq hpos S.pos
  refine ⟨⟨G.f1, G.f2, H.ok⟩, H.fh, by rw [val_zero]; exact hpos, near_rl H.fh S.f hq ?_ ge H.le⟩
  have h1 := rat_nat_le hn
  have h2 := Rat.mul_le_mul_of_nonneg_right h1 (show 0 ≤ 12 * eps by rw [eps_val]; decide +kernel)
  refine Rat.le_trans (Rat.add_le_add_left.2 h2) ?_
  rw [eps_val]; decide +kernel

set_option maxHeartbeats 1000000 in
theorem absProduct_walk (a0 : Option Addr) (n0 c0 : Nat) (X : Nat → Nat) (a1 : Option Addr) (n1 c1 : Nat) (Y : Nat → Nat) (w : World) (h0 : FRow w a0 n0 X) (h1 : FRow w a1 n1 Y) :
    Calls Try.prog 6 #[.slice a0 n0 c0, .slice a1 n1 c1] w fun e w' => e = .returned (.bool true) ∧ Below w.heap.size w w' := by
  have fm : fin 4620693217682128896 := fin_of _ (by decide)
  have vm : val 4620693217682128896 = (8 : Int) := by decide +kernel
  have HM := Lib.hid vm
  clear vm
  have hl0 := h0.1
  have hl1 := h1.1
  have f0 := fin_zero
  by_cases hlen : n0 = n1 ∧ (n0 : Int) ≤ 12
  · obtain ⟨rfl, hle⟩ := hlen
    by_cases hall : AllW X Y n0 8
    · have HA := Lib.hid hall
      have HR0 := Lib.hid h0
      have HR1 := Lib.hid h1
      have HC := Lib.hid (rows2 h0 h1)
      clear h0 h1 hall
      go_enter Try.func6, Try.ntmps6
      go_wp2_with fail
      refine (allw_yes _ _ _ _ _ _ _ 8 X Y _ HR0.out HR1.out fm HM.out (by omega) (by omega) HA.out).mono ?_
      rintro e w' ⟨rfl, rfl⟩
      go_wp2_with fail
      refine (product_any _ _ _ _ _ X Y _ HR0.out HR1.out HA.out (by omega)).mono ?_
      rintro e w' ⟨rfl, hd0⟩
      go_wp2
      go_loopw [7, 22] (fun s i wr => ∃ k : Nat, k ≤ n0 ∧ i = .int .i64 k ∧ s = .float .f64 (sw X Y k) ∧ Drew w wr) (fun _ i _ => n0 - (intOf i).toNat)
      case atStart => exact ⟨0, Nat.zero_le _, rfl, rfl, hd0⟩
      case round =>
        obtain ⟨k, hk, rfl, rfl, hd⟩ := hrel
        have S := sw_ok HA.out (by omega) k hk
        have fs := S.f
        by_cases hlt : k < n0
        · obtain ⟨b0, o0, b1, o1, rfl, rfl, hc⟩ := HC.out k hlt
          obtain ⟨x1, y1⟩ := hc k hlt
          have x1 := hd.cell x1
          have y1 := hd.cell y1
          obtain ⟨H, HO⟩ := hypt_whl (by decide) HA.out hlt
          have fh := H.fh
          have k0 : (0 : Int) ≤ (k : Int) := by omega
          have k1 : (k : Int) < (n0 : Int) := by omega
          clear hc S H
          go_wp2
          go_quiet ((go_at_call 31; exact quietL (abs_any _ _ _ (by assumption))))
          go_wp2
          go_roundw
          case rel => exact ⟨k + 1, by omega, by go_num, rfl, hd.more _⟩
          case measure => simp [intOf]; omega
        · obtain rfl : k = n0 := by omega
          obtain ⟨E1, E2, E3, E4⟩ := absProduct_end HA.out (show k ≤ 12 by omega)
          have hb := hd.below
          clear hd S
          go_wp2_with fail
          refine (abs_any _ _ _ E1).mono ?_
          rintro e w' ⟨rfl, rfl⟩
          go_wp2_with fail
          refine (near_yes _ _ _ _ E2 fs E2 E4).mono ?_
          rintro e w' ⟨rfl, rfl⟩
          go_wp2
          go_ret
          exact ⟨rfl, hb⟩
    · have H0 := Lib.hid h0
      have H1 := Lib.hid h1
      have HA := Lib.hid hall
      clear h0 h1 hall
      go_enter Try.func6, Try.ntmps6
      go_wp2_with (go_at_call 21; refine (allw_no _ _ _ _ _ _ _ 8 X Y _ H0.out H1.out fm HM.out (by omega) (by omega) HA.out).mono ?_; rintro e w' ⟨rfl, rfl⟩)
      go_ret
      exact ⟨rfl, Below.refl _ _⟩
  · have HL : Hid (n0 ≠ n1 ∨ (12 : Int) < (n0 : Int)) := Lib.hid (by omega)
    clear hlen h0 h1
    go_enter Try.func6, Try.ntmps6
    go_wp2_with (go_at_call 21; refine (allw_len _ _ _ _ _ _ _ _ _ hl0 hl1 HL.out).mono ?_; rintro e w' ⟨rfl, rfl⟩)
    go_ret
    exact ⟨rfl, Below.refl _ _⟩
end Go.Proofs.Ytigckpmeppddcaa
