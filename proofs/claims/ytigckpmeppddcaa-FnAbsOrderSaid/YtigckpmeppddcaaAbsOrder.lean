/- FnAbsOrder: the walk: absolute values are in the order of the sums of the squares. -/
import Derived.Test.YtigckpmeppddcaaWd
set_option linter.unusedVariables false
namespace Go.Proofs.Ytigckpmeppddcaa
open Go.RowKit Cx

/-- The sum of both squares. -/
def sqs (x y : Nat) : Nat := fadd (fmul x x) (fmul y y)

/-- What is known of one number of the list. -/
structure OneOk (x y : Nat) (N : Int) : Prop where
  hyp : HypOk x y
  fh : fin (fhypt x y)
  fx : fin (fmul x x)
  fy : fin (fmul y y)
  fs : fin (sqs x y)
  vs : val (sqs x y) = N
  n1 : 1 ≤ N
  n2 : N ≤ 2199023255552
  near : Rl (10 * eps) (val (fhypt x y) * val (fhypt x y)) (N : Rat)
  pos : 0 < val (fhypt x y)
  le : val (fhypt x y) ≤ 4611686018427387904
  ge : 1 / 2 ≤ val (fhypt x y)

theorem natAbs_sq_le {a : Int} {K : Nat} (h : a.natAbs ≤ K) : (a * a).natAbs ≤ K * K ∧ 0 ≤ a * a := by
  have h1 := Int.natAbs_mul a a
  have h2 := Nat.mul_le_mul h h
  exact ⟨by omega, sq_int_nonneg a⟩

theorem one_ok {x y : Nat} (hx : Whl x 1048576) (hy : Whl y 1048576) (hz : ¬ (val x = val 0 ∧ val y = val 0)) : ∃ N, OneOk x y N := by
  obtain ⟨fx, a, ha, a2⟩ := hx.int
  obtain ⟨fy, b, hb, b2⟩ := hy.int
  have a2 : a.natAbs ≤ 1048576 := a2
  have b2 : b.natAbs ≤ 1048576 := b2
  have hab : ¬ (a = 0 ∧ b = 0) := by
    rintro ⟨rfl, rfl⟩
    apply hz
    rw [ha, hb, val_zero]
    exact ⟨rfl, rfl⟩
  have H := hypt_int fx fy ha hb (by omega) (by omega)
  obtain ⟨q1, q2⟩ := natAbs_sq_le a2
  obtain ⟨q3, q4⟩ := natAbs_sq_le b2
  obtain ⟨f1, v1⟩ := fmul_int fx fx ha ha (by omega)
  obtain ⟨f2, v2⟩ := fmul_int fy fy hb hb (by omega)
  obtain ⟨f3, v3⟩ := fadd_int f1 f2 v1 v2 (by omega)
  have h1 := one_le_sq hab
  refine ⟨a * a + b * b, ⟨fx, fy, H.ok⟩, H.fh, f1, f2, f3, v3, h1, by omega, H.near.rl ?_, ?_, H.le, H.ge hab⟩
  · exact Rat.intCast_pos.2 (by omega)
  · have := H.ge hab; grind

theorem order_lt {x y u v : Nat} {M N : Int} (h : OneOk x y M) (h' : OneOk u v N) (hlt : M < N) : val (fhypt x y) < val (fhypt u v) := by
  refine lt_of_sq_lt (Rat.le_of_lt h'.pos) ?_
  have h1 := h.near.hi
  have h2 := h'.near.lo
  have h3 : (M : Rat) + 1 ≤ N := by
    have : ((M + 1 : Int) : Rat) ≤ (N : Rat) := Rat.intCast_le_intCast.2 (by omega)
    rw [Rat.intCast_add] at this; exact this
  have h4 : (N : Rat) ≤ ((2199023255552 : Int) : Rat) := Rat.intCast_le_intCast.2 h'.n2
  have h5 : ((2199023255552 : Int) : Rat) = 2199023255552 := rfl
  have h6 : (1 : Rat) ≤ M := by have := Rat.intCast_le_intCast.2 h.n1; exact this
  rw [h5] at h4
  have e : 10 * eps = 10 / 4503599627370496 := by rw [eps_val]; decide +kernel
  rw [e] at h1 h2
  generalize val (fhypt x y) * val (fhypt x y) = A at *
  generalize val (fhypt u v) * val (fhypt u v) = B at *
  generalize (M : Rat) = m at *
  generalize (N : Rat) = n at *
  clear h h' hlt h5 e
  grind

theorem near_self {x y u v : Nat} {N : Int} (h : OneOk x y N) (h' : OneOk u v N) : NearOk (fhypt x y) (fhypt u v) (fhypt x y) := by
  have hr := h.near.trans h'.near.symm (by rw [eps_val]; decide +kernel)
  have hq := hr.of_sq h.pos h'.pos
  have b60 : (4611686018427387904 : Rat) ≤ Cx.p2 1000 := by
    rw [show (4611686018427387904 : Rat) = Cx.p2 62 from by decide +kernel]; exact p2_mono (by decide)
  have p1 := h.pos
  have p2' := h'.pos
  have l1 := h.le
  have l2 := h'.le
  refine near_of h.fh h'.fh h.fh (by rw [ab_of_nonneg (Rat.le_of_lt p1)]; grind) (by rw [ab_of_nonneg (Rat.le_of_lt p2')]; grind) ?_ (by grind) ?_
  · refine Rat.le_trans ?_ h.ge
    rw [half_p2]; exact p2_mono (by decide)
  · have hn := hq.near
    have hn2 := hq.hi
    have e : 10 * eps + 10 * eps = 20 / 4503599627370496 := by rw [eps_val]; decide +kernel
    have e41 : Cx.p2 (-41) = 1 / 2199023255552 := by decide +kernel
    rw [e] at hn hn2
    rw [ab_le, e41]
    generalize val (fhypt x y) = A at *
    generalize val (fhypt u v) = B at *
    clear h h' hr hq e e41 l1 l2 b60
    constructor <;> grind

/-- The three ways of a pair. -/
theorem pair_ok {x y u v : Nat} {M N : Int} (h : OneOk x y M) (h' : OneOk u v N) :
    (val (sqs x y) < val (sqs u v) ∧ val (fhypt x y) < val (fhypt u v) ∧ ¬ val (sqs x y) = val (sqs u v)) ∨
    (¬ val (sqs x y) < val (sqs u v) ∧ ¬ val (fhypt x y) < val (fhypt u v) ∧ ¬ val (sqs x y) = val (sqs u v)) ∨
    (val (sqs x y) = val (sqs u v) ∧ NearOk (fhypt x y) (fhypt u v) (fhypt x y)) := by
  rw [h.vs, h'.vs]
  rcases Int.lt_trichotomy M N with hc | hc | hc
  · left
    refine ⟨Rat.intCast_lt_intCast.2 hc, order_lt h h' hc, fun he => ?_⟩
    have := Rat.intCast_inj.1 he; omega
  · right; right
    subst hc
    exact ⟨rfl, near_self h h'⟩
  · right; left
    refine ⟨fun hl => ?_, fun hl => ?_, fun he => ?_⟩
    · have := Rat.intCast_lt_intCast.1 hl; omega
    · have := order_lt h' h hc; grind
    · have := Rat.intCast_inj.1 he; omega

theorem not_le_zero {a : Nat} (h : 0 < val a) : ¬ val a ≤ val 0 := by rw [val_zero]; grind

set_option maxHeartbeats 1000000 in
set_option maxRecDepth 100000 in
theorem absOrder_walk (a0 : Option Addr) (n0 c0 : Nat) (X : Nat → Nat) (a1 : Option Addr) (n1 c1 : Nat) (Y : Nat → Nat) (w : World) (h0 : FRow w a0 n0 X) (h1 : FRow w a1 n1 Y) :
    Calls Try.prog 5 #[.slice a0 n0 c0, .slice a1 n1 c1] w fun e w' => e = .returned (.bool true) ∧ Below w.heap.size w w' := by
  have fm : fin 4697254411347427328 := fin_of _ (by decide)
  have vm : val 4697254411347427328 = (1048576 : Int) := by decide +kernel
  have HM := Lib.hid vm
  clear vm
  have hl0 := h0.1
  have hl1 := h1.1
  have f0 := fin_zero
  by_cases hlen : n0 = n1 ∧ (n0 : Int) ≤ 60
  · obtain ⟨rfl, hle⟩ := hlen
    by_cases hall : AllW X Y n0 1048576
    · have HA := Lib.hid hall
      have HR0 := Lib.hid h0
      have HR1 := Lib.hid h1
      have HC : Hid (∀ i, i < n0 → ∃ b0 o0 b1 o1, a0 = some ⟨b0, o0, none⟩ ∧ a1 = some ⟨b1, o1, none⟩ ∧ ∀ i, i < n0 → w.cell? ⟨b0, o0 + i, none⟩ = some (.float .f64 (X i)) ∧ w.cell? ⟨b1, o1 + i, none⟩ = some (.float .f64 (Y i))) := Lib.hid (by
        intro i hi
        obtain ⟨_, h0⟩ := h0
        obtain ⟨_, h1⟩ := h1
        rcases h0 with h | ⟨b0, o0, rfl, h0⟩
        · omega
        rcases h1 with h | ⟨b1, o1, rfl, h1⟩
        · omega
        exact ⟨b0, o0, b1, o1, rfl, rfl, fun i hi => ⟨(h0 i hi).2, (h1 i hi).2⟩⟩)
      clear h0 h1 hall
      go_enter Try.func5, Try.ntmps5
      go_wp2_with (go_at_call 21; refine (allw_yes _ _ _ _ _ _ _ 1048576 X Y _ HR0.out HR1.out fm HM.out (by omega) (by omega) HA.out).mono ?_; rintro e w' ⟨rfl, rfl⟩)
      go_loopw [17] (fun i wr => ∃ k : Nat, k ≤ n0 ∧ i = .int .i64 k ∧ Drew w wr) (fun i _ => n0 - (intOf i).toNat)
      case atStart => exact ⟨0, Nat.zero_le _, rfl, Drew.refl w⟩
      case round =>
        obtain ⟨i, hi, rfl, hd⟩ := hrel
        obtain ⟨wo, rfl⟩ : ∃ wo : World, wo = wr := ⟨_, rfl⟩
        by_cases hlt : i < n0
        · go_wp2
          go_loopw [21] (fun j wr => ∃ k : Nat, k ≤ i ∧ j = .int .i64 k ∧ Drew wo wr) (fun j _ => i - (intOf j).toNat)
          case atStart => exact ⟨0, Nat.zero_le _, rfl, Drew.refl wo⟩
          case round =>
            obtain ⟨k, hk, rfl, hd2⟩ := hrel
            have hdd := hd.trans hd2
            by_cases hlt2 : k < i
            · obtain ⟨b0, o0, b1, o1, rfl, rfl, hc⟩ := HC.out i hlt
              obtain ⟨x1, y1⟩ := hc i hlt
              obtain ⟨x2, y2⟩ := hc k (by omega)
              have x1 := hdd.cell x1
              have y1 := hdd.cell y1
              have x2 := hdd.cell x2
              have y2 := hdd.cell y2
              obtain ⟨p1, p2, p3⟩ := HA.out i hlt
              obtain ⟨r1, r2, r3⟩ := HA.out k (by omega)
              obtain ⟨M, hM⟩ := one_ok p1 p2 p3
              obtain ⟨N, hN⟩ := one_ok r1 r2 r3
              have hp := not_le_zero hM.pos
              have g1 := hM.fx
              have g2 := hM.fy
              have g3 := hN.fx
              have g4 := hN.fy
              have g5 := hM.fs
              have g6 := hN.fs
              have g7 := hM.fh
              have g8 := hN.fh
              have g9 := p1.1
              have g10 := p2.1
              have g11 := r1.1
              have g12 := r2.1
              have i0 : (0 : Int) ≤ (i : Int) := by omega
              have i1 : (i : Int) < (n0 : Int) := by omega
              have k0 : (0 : Int) ≤ (k : Int) := by omega
              have k1 : (k : Int) < (n0 : Int) := by omega
              have o1' := hM.hyp
              have o2' := hN.hyp
              have HP := Lib.hid (pair_ok hM hN)
              unfold sqs at *
              clear hc p1 p2 p3 r1 r2 r3 hM hN
              go_wp2
              go_quiet ((go_at_call 31; exact quietL (abs_any _ _ _ (by assumption))))
              go_wp2
              go_quiet (fail)
              rcases HP.out with ⟨t1, t2, t3⟩ | ⟨t1, t2, t3⟩ | ⟨t1, t2⟩
              · have T1 := decide_eq_true t1
                have T2 := decide_eq_true t2
                clear HP t1 t2
                go_wp2
                go_roundw
                case rel => exact ⟨k + 1, by omega, by go_num, hd2.more _⟩
                case measure => simp [intOf]; omega
              · have T1 := decide_eq_false t1
                have T2 := decide_eq_false t2
                clear HP t1 t2
                go_wp2
                go_roundw
                case rel => exact ⟨k + 1, by omega, by go_num, hd2.more _⟩
                case measure => simp [intOf]; omega
              · have T1 := decide_eq_true t1
                clear HP t1
                go_wp2_with (go_at_call 32; refine (near_yes _ _ _ _ (by assumption) (by assumption) (by assumption) t2).mono ?_; rintro e w' ⟨rfl, rfl⟩)
                go_roundw
                case rel => exact ⟨k + 1, by omega, by go_num, hd2.more _⟩
                case measure => simp [intOf]; omega
            · go_wp2
              go_roundw
              case rel => exact ⟨i + 1, by omega, by go_num, hdd⟩
              case measure => simp [intOf]; omega
        · have hb := hd.below
          clear hd
          go_wp2
          go_ret
          exact ⟨rfl, hb⟩
    · have H0 := Lib.hid h0
      have H1 := Lib.hid h1
      have HA := Lib.hid hall
      clear h0 h1 hall
      go_enter Try.func5, Try.ntmps5
      go_wp2_with (go_at_call 21; refine (allw_no _ _ _ _ _ _ _ 1048576 X Y _ H0.out H1.out fm HM.out (by omega) (by omega) HA.out).mono ?_; rintro e w' ⟨rfl, rfl⟩)
      go_ret
      exact ⟨rfl, Below.refl _ _⟩
  · have HL : Hid (n0 ≠ n1 ∨ (60 : Int) < (n0 : Int)) := Lib.hid (by omega)
    clear hlen h0 h1
    go_enter Try.func5, Try.ntmps5
    go_wp2_with (go_at_call 21; refine (allw_len _ _ _ _ _ _ _ _ _ hl0 hl1 HL.out).mono ?_; rintro e w' ⟨rfl, rfl⟩)
    go_ret
    exact ⟨rfl, Below.refl _ _⟩
end Go.Proofs.Ytigckpmeppddcaa
