/- FnPhaseScaled: multiplied by a power of 2, a number has its phase: the law and the walk. -/
import Derived.Test.YtigckpmeppddcaaWf
import Derived.Test.YtigckpmeppddcaaPr
set_option linter.unusedVariables false
namespace Go.Proofs.Ytigckpmeppddcaa
open Go.RowKit Cx

/-- A normal number's parts. -/
theorem normal_read {x : Nat} (h : fin x) (hn : Cx.p2 (-1022) ≤ ab (val x)) : ∃ m i, Ieee.double.read x = .number (Cx.neg x) m i ∧ 4503599627370496 ≤ m ∧ m < 9007199254740992 ∧ ab (val x) = (m : Rat) * Cx.p2 i := by
  have hf := (fin_iff x h.1).1 h
  obtain ⟨s, m, i, r1, v1, n1⟩ := fin_val h
  have hr := read_eq x h.1
  by_cases hc : x % 9223372036854775808 < 4503599627370496
  · exfalso
    rw [if_pos hc] at hr
    rw [r1] at hr
    injection hr with h1 h2 h3
    have e : ab (val x) = (m : Rat) * Cx.p2 i := by rw [v1, ab_mval]
    rw [e, h3] at hn
    have hm : (m : Rat) < ((4503599627370496 : Nat) : Rat) := Rat.natCast_lt_natCast.2 (by omega)
    have h4 := Rat.mul_lt_mul_of_pos_right hm (p2_pos (-1074))
    have h5 : ((4503599627370496 : Nat) : Rat) * Cx.p2 (-1074) = Cx.p2 (-1022) := by
      rw [show ((4503599627370496 : Nat) : Rat) = Cx.p2 52 from by decide +kernel, ← p2_add]; rfl
    grind
  · rw [if_neg hc, if_pos hf] at hr
    rw [r1] at hr
    injection hr with h1 h2 h3
    exact ⟨m, i, by rw [n1]; exact r1, by omega, by omega, by rw [v1, ab_mval]⟩

theorem mant_unique {m m' : Nat} {i i' : Int} (h1 : 4503599627370496 ≤ m) (h2 : m < 9007199254740992) (h1' : 4503599627370496 ≤ m') (h2' : m' < 9007199254740992) (h : (m : Rat) * Cx.p2 i = (m' : Rat) * Cx.p2 i') : m = m' ∧ i = i' := by
  have key : ∀ {m m' : Nat} {i i' : Int}, 4503599627370496 ≤ m' → m < 9007199254740992 → (m : Rat) * Cx.p2 i = (m' : Rat) * Cx.p2 i' → ¬ i < i' := by
    intro m m' i i' h1' h2 h hlt
    have e : Cx.p2 (i + 1) ≤ Cx.p2 i' := p2_mono (by omega)
    rw [p2_succ] at e
    have a : ((4503599627370496 : Nat) : Rat) ≤ m' := Rat.natCast_le_natCast.2 h1'
    have b : (m : Rat) < ((9007199254740992 : Nat) : Rat) := Rat.natCast_lt_natCast.2 h2
    have c : ((9007199254740992 : Nat) : Rat) = ((4503599627370496 : Nat) : Rat) * 2 := by decide +kernel
    have hp := p2_pos i
    have d := mul_le_mul_nn a e Rat.natCast_nonneg (Rat.le_of_lt (p2_pos i'))
    have f := Rat.mul_lt_mul_of_pos_right b hp
    rw [c] at f
    rw [h] at f
    have g : ((4503599627370496 : Nat) : Rat) * 2 * Cx.p2 i = ((4503599627370496 : Nat) : Rat) * (Cx.p2 i * 2) := by grind
    rw [g] at f
    grind
  have a := key h1' h2 h
  have b := key h1 h2' h.symm
  have hi : i = i' := by omega
  subst hi
  refine ⟨?_, rfl⟩
  have hp := p2_pos i
  have := congrArg (· * (Cx.p2 i)⁻¹) h
  simp only [Rat.mul_assoc, Rat.mul_inv_cancel _ (Rat.ne_of_lt hp).symm, Rat.mul_one] at this
  exact Rat.natCast_inj.1 this

/-- Scaled by a power of two, both parts have the same quotient. -/
theorem fdiv_scaled {x y x' y' : Nat} {e : Int} (hx : fin x) (hy : fin y) (hx' : fin x') (hy' : fin y') (nx : Cx.p2 (-1022) ≤ ab (val x)) (ny : Cx.p2 (-1022) ≤ ab (val y)) (nx' : Cx.p2 (-1022) ≤ ab (val x')) (ny' : Cx.p2 (-1022) ≤ ab (val y'))
    (ex : ab (val x') = ab (val x) * Cx.p2 e) (ey : ab (val y') = ab (val y) * Cx.p2 e) (sx : Cx.neg x' = Cx.neg x) (sy : Cx.neg y' = Cx.neg y) : fdiv y' x' = fdiv y x := by
  obtain ⟨m, i, r1, a1, a2, a3⟩ := normal_read hx nx
  obtain ⟨n, j, r2, b1, b2, b3⟩ := normal_read hy ny
  obtain ⟨m', i', r1', a1', a2', a3'⟩ := normal_read hx' nx'
  obtain ⟨n', j', r2', b1', b2', b3'⟩ := normal_read hy' ny'
  obtain ⟨u1, u2⟩ := mant_unique (i' := i + e) a1' a2' a1 a2 (by rw [← a3', ex, a3, Rat.mul_assoc, ← p2_add])
  obtain ⟨v1, v2⟩ := mant_unique (i' := j + e) b1' b2' b1 b2 (by rw [← b3', ey, b3, Rat.mul_assoc, ← p2_add])
  subst u1 v1
  unfold fdiv Ieee.Format.div
  rw [r1, r2, r1', r2', sx, sy]
  have hm : m' ≠ 0 := by omega
  simp only [Ieee.Datum.quotient, if_neg hm]
  congr 4
  omega

theorem fcopy_sign {f y y' : Nat} (hy : y < 18446744073709551616) (hy' : y' < 18446744073709551616) (h : Cx.neg y' = Cx.neg y) : fcopy f y' = fcopy f y := by
  rw [neg_eq hy, neg_eq hy'] at h
  have : y' / 9223372036854775808 = y / 9223372036854775808 := by
    by_cases h1 : 9223372036854775808 ≤ y
    · have h2 : 9223372036854775808 ≤ y' := by simpa [h1] using h
      omega
    · have h2 : ¬ 9223372036854775808 ≤ y' := by simpa [h1] using h
      omega
  unfold fcopy; rw [this]

theorem mul_p2_zero {a s : Rat} (hs : 0 < s) : a * s = 0 ↔ a = 0 := by
  constructor
  · intro h
    rcases Rat.mul_eq_zero.1 h with h | h
    · exact h
    · grind
  · intro h; rw [h, Rat.zero_mul]

/-- The phase of a scaled number. -/
theorem phw_scaled {x y x' y' : Nat} {e : Int} (hx : fin x) (hy : fin y) (hx' : fin x') (hy' : fin y') (nx : val x = 0 ∨ Cx.p2 (-1022) ≤ ab (val x)) (ny : val y = 0 ∨ Cx.p2 (-1022) ≤ ab (val y))
    (nx' : val x = 0 ∨ Cx.p2 (-1022) ≤ ab (val x')) (ny' : val y = 0 ∨ Cx.p2 (-1022) ≤ ab (val y'))
    (ex : val x' = val x * Cx.p2 e) (ey : val y' = val y * Cx.p2 e) (sx : Cx.neg x' = Cx.neg x) (sy : Cx.neg y' = Cx.neg y) : phw x' y' = phw x y := by
  have hp := p2_pos e
  have c1 : val y' = val 0 ↔ val y = val 0 := by rw [val_zero, ey]; exact mul_p2_zero hp
  have c2 : val x' = val 0 ↔ val x = val 0 := by rw [val_zero, ex]; exact mul_p2_zero hp
  have c3 : val 0 ≤ val x' ↔ val 0 ≤ val x := by
    rw [val_zero, ex]
    constructor
    · intro h
      by_cases h0 : 0 ≤ val x
      · exact h0
      · have := Rat.mul_pos (show 0 < -val x by grind) hp; grind
    · intro h; exact Rat.mul_nonneg h (Rat.le_of_lt hp)
  have c4 : val x' < val 0 ↔ val x < val 0 := by
    constructor
    · intro h; by_cases h0 : val x < val 0; exact h0; exact absurd (c3.2 (by grind)) (by grind)
    · intro h; by_cases h0 : val x' < val 0; exact h0; exact absurd (c3.1 (by grind)) (by grind)
  have k1 : ∀ f, fcopy f y' = fcopy f y := fun f => fcopy_sign hy.1 hy'.1 sy
  unfold phw
  by_cases h1 : val y = val 0
  · rw [if_pos h1, if_pos (c1.2 h1)]
    by_cases h2 : val 0 ≤ val x ∧ Cx.neg x = false
    · rw [if_pos h2, if_pos ⟨c3.2 h2.1, by rw [sx]; exact h2.2⟩, k1]
    · rw [if_neg h2, if_neg (fun h => h2 ⟨c3.1 h.1, by rw [← sx]; exact h.2⟩), k1]
  · rw [if_neg h1, if_neg (fun h => h1 (c1.1 h))]
    by_cases h2 : val x = val 0
    · rw [if_pos h2, if_pos (c2.2 h2), k1]
    · rw [if_neg h2, if_neg (fun h => h2 (c2.1 h))]
      have hx0 : ¬ val x = 0 := by rw [val_zero] at h2; exact h2
      have hy0 : ¬ val y = 0 := by rw [val_zero] at h1; exact h1
      have q : fdiv y' x' = fdiv y x := by
        refine fdiv_scaled (e := e) hx hy hx' hy' ?_ ?_ ?_ ?_ ?_ ?_ sx sy
        · rcases nx with h | h; exact absurd h hx0; exact h
        · rcases ny with h | h; exact absurd h hy0; exact h
        · rcases nx' with h | h; exact absurd h hx0; exact h
        · rcases ny' with h | h; exact absurd h hy0; exact h
        · rw [ex, ab_mul, ab_of_nonneg (Rat.le_of_lt hp)]
        · rw [ey, ab_mul, ab_of_nonneg (Rat.le_of_lt hp)]
      rw [q]
      by_cases h3 : val x < val 0
      · rw [if_pos h3, if_pos (c4.2 h3)]
      · rw [if_neg h3, if_neg (fun h => h3 (c4.1 h))]

/-- The powers of two, as they are reckoned. -/
def sk : Nat → Nat
  | 0 => Cx.one
  | n + 1 => fmul (sk n) 4611686018427387904
theorem fin_2 : fin 4611686018427387904 := fin_of _ (by decide)
theorem val_2 : val 4611686018427387904 = 2 := by decide +kernel
theorem sk_ok : ∀ n : Nat, n ≤ 900 → fin (sk n) ∧ val (sk n) = Cx.p2 (n : Int)
  | 0, _ => ⟨fin_one, by rw [show ((0 : Nat) : Int) = 0 from rfl, p2_zero]; exact val_one⟩
  | n + 1, h => by
    obtain ⟨f, v⟩ := sk_ok n (by omega)
    have e : val (sk n) * val 4611686018427387904 = Cx.p2 ((n + 1 : Nat) : Int) := by
      rw [v, val_2, ← p2_succ]; rfl
    have hp := p2_pos ((n + 1 : Nat) : Int)
    obtain ⟨f1, _, r⟩ := mul_rd f fin_2 (by rw [e, ab_of_nonneg (Rat.le_of_lt hp)]; exact p2_lt (by omega))
    rw [e] at r
    refine ⟨f1, r.exact 1 ((n + 1 : Nat) : Int) ?_ (by decide) (by omega)⟩
    rw [ab_of_nonneg (Rat.le_of_lt hp), show ((1 : Nat) : Rat) = 1 from rfl, Rat.one_mul]

theorem inv_ok (n : Nat) (h : n ≤ 900) : Ieee.double.div Cx.one (sk n) = some (fdiv Cx.one (sk n)) ∧ fin (fdiv Cx.one (sk n)) ∧ val (fdiv Cx.one (sk n)) = Cx.p2 (-(n : Int)) := by
  obtain ⟨f, v⟩ := sk_ok n h
  have hp := p2_pos (n : Int)
  have hne : val (sk n) ≠ 0 := by rw [v]; exact (Rat.ne_of_lt hp).symm
  have e : val Cx.one / val (sk n) = Cx.p2 (-(n : Int)) := by
    rw [val_one, v, Rat.div_def, Rat.one_mul]
    exact Rat.inv_eq_of_mul_eq_one (p2_inv _)
  have hq := p2_pos (-(n : Int))
  obtain ⟨d1, d2, d3, d4⟩ := div_rd fin_one f hne (by rw [e, ab_of_nonneg (Rat.le_of_lt hq)]; exact p2_lt (by omega))
  rw [e] at d4
  refine ⟨d1, d2, d4.exact 1 (-(n : Int)) ?_ (by decide) (by omega)⟩
  rw [ab_of_nonneg (Rat.le_of_lt hq), show ((1 : Nat) : Rat) = 1 from rfl, Rat.one_mul]

theorem int_ratio {a b : Int} (ha : a ≠ 0) (hb : b ≠ 0) (ba : a.natAbs ≤ 1152921504606846976) (bb : b.natAbs ≤ 1152921504606846976) : Cx.p2 (-300) ≤ ab ((b : Rat) / a) ∧ ab ((b : Rat) / a) ≤ Cx.p2 300 := by
  have u1 : ab (a : Rat) ≤ Cx.p2 60 := by
    rw [← natAbs_rat, show Cx.p2 60 = ((1152921504606846976 : Nat) : Rat) from by decide +kernel]; exact Rat.natCast_le_natCast.2 ba
  have u2 : ab (b : Rat) ≤ Cx.p2 60 := by
    rw [← natAbs_rat, show Cx.p2 60 = ((1152921504606846976 : Nat) : Rat) from by decide +kernel]; exact Rat.natCast_le_natCast.2 bb
  have l1 := ge_one_of_int ha
  have l2 := ge_one_of_int hb
  have hne : (a : Rat) ≠ 0 := fun h => ha (Rat.intCast_eq_zero_iff.1 h)
  have e : ab ((b : Rat) / a) * ab (a : Rat) = ab (b : Rat) := by rw [← ab_mul, Rat.div_mul_cancel hne]
  have hq := ab_nonneg ((b : Rat) / a)
  generalize ab ((b : Rat) / a) = q at *
  generalize ab (a : Rat) = A at *
  generalize ab (b : Rat) = B at *
  constructor
  · have h1 := Rat.mul_le_mul_of_nonneg_left u1 hq
    rw [e] at h1
    have h2 : Cx.p2 (-60) * Cx.p2 60 ≤ q * Cx.p2 60 := by
      rw [← p2_add, show (-60 + 60 : Int) = 0 from rfl, p2_zero]; grind
    exact Rat.le_trans (p2_mono (by decide)) (Rat.le_of_mul_le_mul_right h2 (p2_pos 60))
  · have h1 := Rat.mul_le_mul_of_nonneg_left l1 hq
    rw [e] at h1
    refine Rat.le_trans ?_ (Rat.le_trans u2 (p2_mono (by decide)))
    grind

/-- Whole parts: the phase's conditions. -/
theorem ph_int {x y : Nat} {a b : Int} (fx : fin x) (fy : fin y) (vx : val x = a) (vy : val y = b) (h : ¬ (a = 0 ∧ b = 0)) (ba : a.natAbs ≤ 1152921504606846976) (bb : b.natAbs ≤ 1152921504606846976) : PhOk x y := by
  refine ⟨fx, fy, ?_, fun h1 h2 => ?_⟩
  · rintro ⟨h1, h2⟩
    rw [val_zero] at h1 h2
    exact h ⟨Rat.intCast_eq_zero_iff.1 (by rw [← vx]; exact h1), Rat.intCast_eq_zero_iff.1 (by rw [← vy]; exact h2)⟩
  · rw [vx, vy]
    rw [val_zero, vx] at h1
    rw [val_zero, vy] at h2
    exact int_ratio (fun h => h1 (by rw [h]; rfl)) (fun h => h2 (by rw [h]; rfl)) ba bb

/-- What the scaled number is. -/
structure ScOk (x y s : Nat) : Prop where
  fx : fin (fmul x s)
  fy : fin (fmul y s)
  ok : PhOk x y
  ok' : PhOk (fmul x s) (fmul y s)
  f : fin (phw x y)
  f' : fin (phw (fmul x s) (fmul y s))
  eq : val (phw (fmul x s) (fmul y s)) = val (phw x y)
  zero : val (phw x y) = val 0 ↔ (val y = val 0 ∧ val 0 < val x)

theorem sc_ok {x y s : Nat} {e : Int} (hx : Whl x 1048576) (hy : Whl y 1048576) (hz : ¬ (val x = val 0 ∧ val y = val 0)) (fs : fin s) (vs : val s = Cx.p2 e) (he : -900 ≤ e) (he' : e ≤ 900) : ScOk x y s := by
  obtain ⟨fx, vx, bx⟩ := hx.iv
  obtain ⟨fy, vy, by'⟩ := hy.iv
  have bx : (iv x).natAbs ≤ 1048576 := bx
  have by' : (iv y).natAbs ≤ 1048576 := by'
  have hnz : ¬ (iv x = 0 ∧ iv y = 0) := by
    rintro ⟨h1, h2⟩
    apply hz
    rw [vx, vy, h1, h2, val_zero]
    exact ⟨rfl, rfl⟩
  have ok := ph_int fx fy vx vy hnz (by omega) (by omega)
  have hp := p2_pos e
  have hns : Cx.neg s = false := neg_of_pos fs (by rw [vs]; exact hp)
  have part : ∀ {z : Nat}, fin z → val z = iv z → (iv z).natAbs ≤ 1048576 → fin (fmul z s) ∧ Cx.neg (fmul z s) = Cx.neg z ∧ val (fmul z s) = val z * Cx.p2 e ∧ (val z = 0 ∨ Cx.p2 (-1022) ≤ ab (val z)) ∧ (val z = 0 ∨ Cx.p2 (-1022) ≤ ab (val (fmul z s))) := by
    intro z fz vz bz
    have hb : ab (val z * val s) < Cx.p2 1023 := by
      rw [vs, ab_mul, ab_of_nonneg (Rat.le_of_lt hp), vz, ← natAbs_rat]
      have h1 : (((iv z).natAbs : Nat) : Rat) ≤ Cx.p2 20 := by
        rw [show Cx.p2 20 = ((1048576 : Nat) : Rat) from by decide +kernel]; exact Rat.natCast_le_natCast.2 bz
      have h2 := Rat.mul_le_mul_of_nonneg_right h1 (Rat.le_of_lt hp)
      rw [← p2_add] at h2
      have h3 := p2_lt (show 20 + e < 1023 by omega)
      grind
    obtain ⟨m1, m2, m3⟩ := mul_rd fz fs hb
    rw [vs] at m3
    have ev : val (fmul z s) = val z * Cx.p2 e := m3.whole (iv z) e (by rw [← vz]) (by omega) (by omega)
    refine ⟨m1, by rw [m2, hns, Bool.xor_false], ev, ?_, ?_⟩
    · by_cases h0 : iv z = 0
      · left; rw [vz, h0]; rfl
      · right
        have := ge_one_of_int h0
        rw [vz]
        refine Rat.le_trans ?_ this
        rw [← p2_zero]; exact p2_mono (by decide)
    · by_cases h0 : iv z = 0
      · left; rw [vz, h0]; rfl
      · right
        have h1 := ge_one_of_int h0
        rw [ev, ab_mul, ab_of_nonneg (Rat.le_of_lt hp), vz]
        have h2 := Rat.mul_le_mul_of_nonneg_right h1 (Rat.le_of_lt hp)
        rw [Rat.one_mul] at h2
        exact Rat.le_trans (p2_mono (by omega)) h2
  obtain ⟨x1, x2, x3, x4, x5⟩ := part fx vx bx
  obtain ⟨y1, y2, y3, y4, y5⟩ := part fy vy by'
  have heq := phw_scaled fx fy x1 y1 x4 y4 x5 y5 x3 y3 x2 y2
  have ok' : PhOk (fmul x s) (fmul y s) := by
    refine ⟨x1, y1, ?_, fun h1 h2 => ?_⟩
    · rintro ⟨h1, h2⟩
      rw [val_zero, x3, mul_p2_zero hp] at h1
      rw [val_zero, y3, mul_p2_zero hp] at h2
      apply hz; rw [val_zero]; exact ⟨h1, h2⟩
    · rw [val_zero, x3, mul_p2_zero hp] at h1
      rw [val_zero, y3, mul_p2_zero hp] at h2
      have e1 : val (fmul y s) / val (fmul x s) = val y / val x := by
        rw [x3, y3, Rat.div_def, Rat.div_def, Rat.inv_mul_rev]
        have := Rat.mul_inv_cancel _ (Rat.ne_of_lt hp).symm
        grind
      rw [e1]
      exact ok.ratio (by rw [val_zero]; exact h1) (by rw [val_zero]; exact h2)
  have P := ph_is ok
  refine ⟨x1, y1, ok, ok', P.f, by rw [heq]; exact P.f, by rw [heq], ?_⟩
  rw [val_zero]; exact P.zero


set_option maxHeartbeats 1000000 in
set_option maxRecDepth 100000 in
theorem phaseScaled_walk (x y : Nat) (k : Int) (w : World) (hx : x < 18446744073709551616) (hy : y < 18446744073709551616) (hk : (Lit.int .i64 k).wf = true) :
    Calls Try.prog 10 #[.float .f64 x, .float .f64 y, .int .i64 k] w fun e w' => e = .returned (.bool true) ∧ Below w.heap.size w w' := by
  have fm : fin 4697254411347427328 := fin_of _ (by decide)
  have vm : val 4697254411347427328 = (1048576 : Int) := by decide +kernel
  have HM := Lib.hid vm
  clear vm hk
  have f0 := fin_zero
  by_cases k1 : k < -900
  · go_enter Try.func10, Try.ntmps10
    go_wp2
    go_ret
    exact ⟨rfl, Below.refl _ _⟩
  by_cases k2 : 900 < k
  · go_enter Try.func10, Try.ntmps10
    go_wp2
    go_ret
    exact ⟨rfl, Below.refl _ _⟩
  by_cases hwx : Whl x 1048576
  · by_cases hwy : Whl y 1048576
    · have fx := hwx.1
      have fy := hwy.1
      by_cases hz : val x = val 0 ∧ val y = val 0
      · have z1 := decide_eq_true hz.1
        have z2 := decide_eq_true hz.2
        clear hz
        go_enter Try.func10, Try.ntmps10
        go_wp2_with (go_at_call 35; refine (whole_yes _ _ 1048576 _ (by assumption) fm HM.out (by omega)).mono ?_; rintro e w' ⟨rfl, rfl⟩)
        go_ret
        exact ⟨rfl, Below.refl _ _⟩
      · have HZ := Lib.hid hz
        clear hz
        by_cases kn : k < 0
        · obtain ⟨n, hn⟩ := Int.eq_ofNat_of_zero_le (show 0 ≤ -k by omega)
          obtain rfl : k = -(n : Int) := by omega
          clear hn
          have hn0 : 0 < n := by omega
          obtain ⟨d1, fs, vs⟩ := inv_ok n (by omega)
          have hd := fun t w => run_fdiv (P := Try.prog) w t _ _ _ d1
          have S := sc_ok hwx hwy HZ.out fs vs (by omega) (by omega)
          unfold Cx.one at *
          obtain ⟨s1, s2, s3, s4, s5, s6, s7, s8⟩ := S
          have T1 := decide_eq_true s7
          have HE := Lib.hid s8
          clear s7 s8
          have fone := fin_one
          have fin2 := fin_2
          unfold Cx.one at fone
          have HW : Hid (∀ j, j ≤ n → fin (sk j)) := Lib.hid (fun j hj => (sk_ok j (by omega)).1)
          have HX : Hid (val x = val 0 → ¬ val y = val 0) := Lib.hid (fun h1 h2 => HZ.out ⟨h1, h2⟩)
          have ends : (∃ T2 : decide (val (phw x y) = val 0) = true, decide (val y = val 0) = true ∧ decide (val 0 < val x) = true) ∨ (∃ T2 : decide (val (phw x y) = val 0) = false, decide (val y = val 0) = true ∧ decide (val 0 < val x) = false) ∨ (∃ T2 : decide (val (phw x y) = val 0) = false, decide (val y = val 0) = false) := by
            by_cases hy0 : val y = val 0
            · by_cases hx0 : val 0 < val x
              · exact Or.inl ⟨decide_eq_true (HE.out.2 ⟨hy0, hx0⟩), decide_eq_true hy0, decide_eq_true hx0⟩
              · exact Or.inr (Or.inl ⟨decide_eq_false (fun h => hx0 (HE.out.1 h).2), decide_eq_true hy0, decide_eq_false hx0⟩)
            · exact Or.inr (Or.inr ⟨decide_eq_false (fun h => hy0 (HE.out.1 h).1), decide_eq_false hy0⟩)
          have HENDS := Lib.hid ends
          clear ends
          by_cases zx : val x = val 0
          · have zy : ¬ val y = val 0 := HX.out zx
            have ZX := decide_eq_true zx
            clear zx
            go_enter Try.func10, Try.ntmps10
            go_wp2_with (go_at_call 35; refine (whole_yes _ _ 1048576 _ (by assumption) fm HM.out (by omega)).mono ?_; rintro e w' ⟨rfl, rfl⟩)
            go_loop [7, 37] (fun sc i => ∃ j : Nat, j ≤ n ∧ i = .int .i64 j ∧ sc = .float .f64 (sk j)) (fun _ i => n - (intOf i).toNat)
            case atStart => exact ⟨0, Nat.zero_le _, rfl, rfl⟩
            case round =>
              obtain ⟨j, hj, rfl, rfl⟩ := hrel
              have fj := HW.out j hj
              by_cases hlt : j < n
              · go_wp2
                go_round
                case rel => exact ⟨j + 1, by omega, by go_num, rfl⟩
                case measure => simp [intOf]; omega
              · obtain rfl : j = n := by omega
                rcases HENDS.out with ⟨T2, T3, T4⟩ | ⟨T2, T3, T4⟩ | ⟨T2, T3⟩
                · exact absurd (of_decide_eq_true T3) zy
                · exact absurd (of_decide_eq_true T3) zy
                · go_wp2_with (go_at_call 34; refine (phase_any _ _ _ (by assumption)).mono ?_; rintro e w' ⟨rfl, rfl⟩)
                  go_ret
                  exact ⟨rfl, Below.refl _ _⟩
          · go_enter Try.func10, Try.ntmps10
            go_wp2_with (go_at_call 35; refine (whole_yes _ _ 1048576 _ (by assumption) fm HM.out (by omega)).mono ?_; rintro e w' ⟨rfl, rfl⟩)
            go_loop [7, 37] (fun sc i => ∃ j : Nat, j ≤ n ∧ i = .int .i64 j ∧ sc = .float .f64 (sk j)) (fun _ i => n - (intOf i).toNat)
            case atStart => exact ⟨0, Nat.zero_le _, rfl, rfl⟩
            case round =>
              obtain ⟨j, hj, rfl, rfl⟩ := hrel
              have fj := HW.out j hj
              by_cases hlt : j < n
              · go_wp2
                go_round
                case rel => exact ⟨j + 1, by omega, by go_num, rfl⟩
                case measure => simp [intOf]; omega
              · obtain rfl : j = n := by omega
                rcases HENDS.out with ⟨T2, T3, T4⟩ | ⟨T2, T3, T4⟩ | ⟨T2, T3⟩
                all_goals
                  go_wp2_with (go_at_call 34; refine (phase_any _ _ _ (by assumption)).mono ?_; rintro e w' ⟨rfl, rfl⟩)
                  go_ret
                  exact ⟨rfl, Below.refl _ _⟩
        · obtain ⟨n, rfl⟩ := Int.eq_ofNat_of_zero_le (show 0 ≤ k by omega)
          obtain ⟨fs, vs⟩ := sk_ok n (by omega)
          have S := sc_ok hwx hwy HZ.out fs vs (by omega) (by omega)
          obtain ⟨s1, s2, s3, s4, s5, s6, s7, s8⟩ := S
          have T1 := decide_eq_true s7
          have HE := Lib.hid s8
          clear s7 s8
          have fone := fin_one
          have fin2 := fin_2
          unfold Cx.one at fone
          have HW : Hid (∀ j, j ≤ n → fin (sk j)) := Lib.hid (fun j hj => (sk_ok j (by omega)).1)
          have HX : Hid (val x = val 0 → ¬ val y = val 0) := Lib.hid (fun h1 h2 => HZ.out ⟨h1, h2⟩)
          have ends : (∃ T2 : decide (val (phw x y) = val 0) = true, decide (val y = val 0) = true ∧ decide (val 0 < val x) = true) ∨ (∃ T2 : decide (val (phw x y) = val 0) = false, decide (val y = val 0) = true ∧ decide (val 0 < val x) = false) ∨ (∃ T2 : decide (val (phw x y) = val 0) = false, decide (val y = val 0) = false) := by
            by_cases hy0 : val y = val 0
            · by_cases hx0 : val 0 < val x
              · exact Or.inl ⟨decide_eq_true (HE.out.2 ⟨hy0, hx0⟩), decide_eq_true hy0, decide_eq_true hx0⟩
              · exact Or.inr (Or.inl ⟨decide_eq_false (fun h => hx0 (HE.out.1 h).2), decide_eq_true hy0, decide_eq_false hx0⟩)
            · exact Or.inr (Or.inr ⟨decide_eq_false (fun h => hy0 (HE.out.1 h).1), decide_eq_false hy0⟩)
          have HENDS := Lib.hid ends
          clear ends
          by_cases zx : val x = val 0
          · have zy : ¬ val y = val 0 := HX.out zx
            have ZX := decide_eq_true zx
            clear zx
            go_enter Try.func10, Try.ntmps10
            go_wp2_with (go_at_call 35; refine (whole_yes _ _ 1048576 _ (by assumption) fm HM.out (by omega)).mono ?_; rintro e w' ⟨rfl, rfl⟩)
            go_loop [7, 37] (fun sc i => ∃ j : Nat, j ≤ n ∧ i = .int .i64 j ∧ sc = .float .f64 (sk j)) (fun _ i => n - (intOf i).toNat)
            case atStart => exact ⟨0, Nat.zero_le _, rfl, rfl⟩
            case round =>
              obtain ⟨j, hj, rfl, rfl⟩ := hrel
              have fj := HW.out j hj
              by_cases hlt : j < n
              · go_wp2
                go_round
                case rel => exact ⟨j + 1, by omega, by go_num, rfl⟩
                case measure => simp [intOf]; omega
              · obtain rfl : j = n := by omega
                rcases HENDS.out with ⟨T2, T3, T4⟩ | ⟨T2, T3, T4⟩ | ⟨T2, T3⟩
                · exact absurd (of_decide_eq_true T3) zy
                · exact absurd (of_decide_eq_true T3) zy
                · go_wp2_with (go_at_call 34; refine (phase_any _ _ _ (by assumption)).mono ?_; rintro e w' ⟨rfl, rfl⟩)
                  go_ret
                  exact ⟨rfl, Below.refl _ _⟩
          · go_enter Try.func10, Try.ntmps10
            go_wp2_with (go_at_call 35; refine (whole_yes _ _ 1048576 _ (by assumption) fm HM.out (by omega)).mono ?_; rintro e w' ⟨rfl, rfl⟩)
            go_loop [7, 37] (fun sc i => ∃ j : Nat, j ≤ n ∧ i = .int .i64 j ∧ sc = .float .f64 (sk j)) (fun _ i => n - (intOf i).toNat)
            case atStart => exact ⟨0, Nat.zero_le _, rfl, rfl⟩
            case round =>
              obtain ⟨j, hj, rfl, rfl⟩ := hrel
              have fj := HW.out j hj
              by_cases hlt : j < n
              · go_wp2
                go_round
                case rel => exact ⟨j + 1, by omega, by go_num, rfl⟩
                case measure => simp [intOf]; omega
              · obtain rfl : j = n := by omega
                rcases HENDS.out with ⟨T2, T3, T4⟩ | ⟨T2, T3, T4⟩ | ⟨T2, T3⟩
                all_goals
                  go_wp2_with (go_at_call 34; refine (phase_any _ _ _ (by assumption)).mono ?_; rintro e w' ⟨rfl, rfl⟩)
                  go_ret
                  exact ⟨rfl, Below.refl _ _⟩
    · go_enter Try.func10, Try.ntmps10
      go_wp2_with fail
      refine (whole_yes _ _ 1048576 _ hwx fm HM.out (by omega)).mono ?_
      rintro e w' ⟨rfl, rfl⟩
      go_wp2_with fail
      refine (whole_no _ _ 1048576 _ hy hwy fm HM.out (by omega)).mono ?_
      rintro e w' ⟨rfl, rfl⟩
      go_wp2
      go_ret
      exact ⟨rfl, Below.refl _ _⟩
  · go_enter Try.func10, Try.ntmps10
    go_wp2_with fail
    refine (whole_no _ _ 1048576 _ hx hwx fm HM.out (by omega)).mono ?_
    rintro e w' ⟨rfl, rfl⟩
    go_wp2
    go_ret
    exact ⟨rfl, Below.refl _ _⟩
end Go.Proofs.Ytigckpmeppddcaa
