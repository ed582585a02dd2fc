/- Phases of whole directions: their differences are the angles between them. Plain but for the words' names. -/
import Derived.Test.YtigckpmeppddcaaGg
import Derived.Test.YtigckpmeppddcaaPr
import Derived.Test.YtigckpmeppddcaaPhaseScaled
set_option linter.unusedVariables false
namespace Go.Proofs.Ytigckpmeppddcaa
open Cx

/-- A number with whole parts: its phase's word, its angle. -/
structure DirOk (x y : Nat) (a b : Int) : Prop where
  ok : PhOk x y
  is : PhIs x y
  vx : val x = a
  vy : val y = b
  ang : Ang ⟨(a : Rat), (b : Rat)⟩ (val (phw x y)) (64 * ea)

theorem dir_ok {x y : Nat} {a b : Int} (fx : fin x) (fy : fin y) (vx : val x = a) (vy : val y = b) (h : ¬ (a = 0 ∧ b = 0)) (ba : a.natAbs ≤ 1152921504606846976) (bb : b.natAbs ≤ 1152921504606846976) : DirOk x y a b := by
  have ok := ph_int fx fy vx vy h ba bb
  have is := ph_is ok
  have an := ph_ang is.near
  rw [vx, vy] at an
  exact ⟨ok, is, vx, vy, an⟩

theorem dir_whl {x y : Nat} {M : Int} (hM : M ≤ 1152921504606846976) (hx : Whl x M) (hy : Whl y M) (h : ¬ (val x = val 0 ∧ val y = val 0)) : DirOk x y (iv x) (iv y) := by
  obtain ⟨fx, vx, bx⟩ := hx.iv
  obtain ⟨fy, vy, by'⟩ := hy.iv
  refine dir_ok fx fy vx vy ?_ (by omega) (by omega)
  rintro ⟨h1, h2⟩
  apply h
  rw [vx, vy, h1, h2, val_zero]
  exact ⟨rfl, rfl⟩

/-- An exact direction, by words of our own. -/
theorem dir_int (a b : Int) (h : ¬ (a = 0 ∧ b = 0)) (ba : a.natAbs ≤ 9007199254740992) (bb : b.natAbs ≤ 9007199254740992) : DirOk (floatOfInt .f64 a) (floatOfInt .f64 b) a b := by
  obtain ⟨f1, v1⟩ := ofInt_spec a ba
  obtain ⟨f2, v2⟩ := ofInt_spec b bb
  exact dir_ok f1 f2 v1 v2 h (by omega) (by omega)

theorem ang_pair {x y u v : Nat} {a b c d : Int} (h : DirOk x y a b) (h' : DirOk u v c d) : Ang ⟨((a * c + b * d : Int) : Rat), ((a * d - b * c : Int) : Rat)⟩ (val (phw u v) - val (phw x y)) (129 * ea) := by
  have b1 := Rat.le_trans h.is.le (show (31416 / 10000 : Rat) ≤ 64 by decide +kernel)
  have b2 := Rat.le_trans h'.is.le (show (31416 / 10000 : Rat) ≤ 64 by decide +kernel)
  have m := h'.ang.mul h.ang.conj b2 (by rw [ab_neg]; exact b1) (by decide +kernel)
  have e : (⟨(c : Rat), (d : Rat)⟩ : Cq).mul (Cq.conj ⟨(a : Rat), (b : Rat)⟩) = ⟨((a * c + b * d : Int) : Rat), ((a * d - b * c : Int) : Rat)⟩ := by
    apply Cq.ext' <;> simp only [Cq.mul, Cq.conj]
    · rw [Rat.intCast_add, Rat.intCast_mul, Rat.intCast_mul]; grind
    · rw [Rat.intCast_sub, Rat.intCast_mul, Rat.intCast_mul]; grind
  rw [e, show val (phw u v) + -val (phw x y) = val (phw u v) - val (phw x y) by grind] at m
  exact m.mono (by decide +kernel) (by decide +kernel)

theorem natAbs_mul_le {a b : Int} (ha : a.natAbs ≤ 1024) (hb : b.natAbs ≤ 1024) : (a * b).natAbs ≤ 1048576 := by
  rw [Int.natAbs_mul]; exact Nat.mul_le_mul ha hb

theorem int_ab_ge {n : Int} (h : n ≠ 0) : 1 ≤ ab (n : Rat) := ge_one_of_int h
theorem int_ab_le {n : Int} {K : Nat} (h : n.natAbs ≤ K) : ab (n : Rat) ≤ (K : Rat) := by
  rw [← natAbs_rat]; exact Rat.natCast_le_natCast.2 h

theorem sub_le_64 {p q e : Rat} (p1 : 0 < p) (q1 : 0 < q) (p2 : p ≤ PI + e) (q2 : q ≤ PI + e) (he : e ≤ 1 / 134217728) : ab (q - p) ≤ 32 / 10 := by
  have hPI := PI_val
  rw [ab_le]; constructor <;> grind
theorem sub_le_94 {p q t e : Rat} (p1 : 0 < p) (q1 : 0 < q) (t1 : 0 < t) (p2 : p ≤ PI + e) (q2 : q ≤ PI + e) (t2 : t ≤ PI + e) (he : e ≤ 1 / 134217728) : ab (q - p - t) ≤ 948 / 100 := by
  have hPI := PI_val
  rw [ab_le]; constructor <;> grind
theorem order_num {p q t e w : Rat} (p1 : 0 < p) (q1 : 0 < q) (t1 : 0 < t) (p2 : p ≤ PI + e) (q2 : q ≤ PI + e) (t2 : t ≤ PI + e) (he : e ≤ 1 / 134217728) (hw : w ≤ 1 / 134217728)
    (un : ab (q - p - t) ≤ w ∨ ab (q - p - t - 2 * PI) ≤ w ∨ ab (q - p - t + 2 * PI) ≤ w) (g1 : 1 / 33554432 ≤ ab (t - PI)) (g3 : 1 / 33554432 ≤ t) : p < q := by
  have hPI := PI_val
  rcases un with un | un | un
  · have := ab_le.1 un; grind
  · have := ab_le.1 un; grind
  · exfalso
    have un := ab_le.1 un
    have : ab (t - PI) ≤ 1 / 134217728 + 2 * (1 / 134217728) := by rw [ab_le]; constructor <;> grind
    grind
theorem order_aux {p q t : Rat} {z : Cq} (p1 : 0 < p) (q1 : 0 < q) (t1 : 0 < t) (p2 : p ≤ PI + 8 * eps) (q2 : q ≤ PI + 8 * eps) (t2 : t ≤ PI + 8 * eps) (hA : Ang z (q - p) (129 * ea)) (hT : Ang z t (64 * ea))
    (g1 : 1 / 33554432 ≤ ab (t - PI)) (g3 : 1 / 33554432 ≤ t) : p < q := by
  have e8 : 8 * eps ≤ 1 / 134217728 := by rw [eps_val]; decide +kernel
  have ht : ab t ≤ 64 := by
    have hPI := PI_val
    rw [ab_of_nonneg (Rat.le_of_lt t1)]; grind
  have df := hA.diff hT (Rat.le_trans (sub_le_64 p1 q1 p2 q2 e8) (by decide +kernel)) ht (by decide +kernel)
  have un := one_angle2 df (sub_le_94 p1 q1 t1 p2 q2 t2 e8) (by decide +kernel)
  exact order_num p1 q1 t1 p2 q2 t2 e8 (by decide +kernel) un g1 g3

/-- Above the real axis: a turn to the left has the greater phase. -/
theorem order_up {x y u v : Nat} {a b c d : Int} (h : DirOk x y a b) (h' : DirOk u v c d) (ba : a.natAbs ≤ 1024) (bb : b.natAbs ≤ 1024) (bc : c.natAbs ≤ 1024) (bd : d.natAbs ≤ 1024)
    (hb : 0 < b) (hd : 0 < d) (ht : 0 < a * d - b * c) : val (phw x y) < val (phw u v) := by
  have hA := ang_pair h h'
  have m1 := natAbs_mul_le ba bc
  have m2 := natAbs_mul_le bb bd
  have m3 := natAbs_mul_le ba bd
  have m4 := natAbs_mul_le bb bc
  generalize hal : a * c + b * d = al at *
  generalize hcr : a * d - b * c = cr at *
  have T := dir_int al cr (fun hh => by omega) (by omega) (by omega)
  have p1 := h.is.up (by rw [h.vy]; exact Rat.intCast_pos.2 hb)
  have q1 := h'.is.up (by rw [h'.vy]; exact Rat.intCast_pos.2 hd)
  have t1 := T.is.up (by rw [T.vy]; exact Rat.intCast_pos.2 ht)
  have p2 := (ab_le.1 h.is.tight).1
  have q2 := (ab_le.1 h'.is.tight).1
  have t2 := (ab_le.1 T.is.tight).1
  have hTa := T.ang
  have gp := gap_pi hTa (by decide +kernel) (int_ab_ge (by omega)) (Rat.le_trans (int_ab_le (show al.natAbs ≤ 4194304 by omega)) (by decide +kernel)) (Rat.le_trans T.is.le (by decide +kernel))
  exact order_aux p1 q1 t1 p2 q2 t2 hA hTa gp.1 (by have := gp.2.2; rw [ab_of_nonneg (Rat.le_of_lt t1)] at this; exact this)

/-- Two equal directions. -/
theorem same_dir {x y u v : Nat} {a b c d : Int} (h : DirOk x y a b) (h' : DirOk u v c d) (hc : a * d - b * c = 0) (hal : 0 < a * c + b * d) (hs : ab (val (phw u v) - val (phw x y)) ≤ 32 / 10) : ab (val (phw u v) - val (phw x y)) ≤ 260 * ea := by
  have hA := ang_pair h h'
  rw [hc] at hA
  have hp : (0 : Rat) < ((a * c + b * d : Int) : Rat) := Rat.intCast_pos.2 hal
  have e : (⟨((a * c + b * d : Int) : Rat), ((0 : Int) : Rat)⟩ : Cq) = Cq.smul ((a * c + b * d : Int) : Rat) ⟨1, 0⟩ := by
    apply Cq.ext' <;> simp only [Cq.smul]
    · grind
    · rw [Rat.mul_zero]; rfl
  rw [e] at hA
  exact Rat.le_trans (one_angle (hA.of_smul hp) hs (by decide +kernel)) (by decide +kernel)
end Go.Proofs.Ytigckpmeppddcaa
