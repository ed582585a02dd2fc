/- FnQuadratic: the law over the words. -/
import Derived.Test.YtigckpmeppddcaaRp
set_option linter.unusedVariables false
namespace Go.Proofs.Ytigckpmeppddcaa
open Go.RowKit Cx

theorem fdiv_two {a : Nat} {B : Rat} (fa : fin a) (hB : ab (val a) ≤ B) (h1 : 1 ≤ B) (h2 : B ≤ 1152921504606846976) :
    Ieee.double.div a two = some (fdiv a two) ∧ fin (fdiv a two) ∧ ab (val (fdiv a two) - val a / 2) ≤ B * (1 / 4503599627370496) := by
  have hh : ab (val a / 2) ≤ B := by
    rw [ab_le] at hB ⊢; constructor <;> grind
  have := div_rd fa fin_two (by rw [val_two]; decide) (by rw [val_two]; exact mid_lt (Rat.le_trans hh h2))
  rw [val_two] at this
  refine ⟨this.1, this.2.1, ?_⟩
  have h3 := this.2.2.2.abs hh (low_le (by grind))
  rw [eps_val] at h3
  exact h3

/-- A square, rounded, is not negative. -/
theorem fmul_sq {a : Nat} {B : Rat} (fa : fin a) (hB : ab (val a) ≤ B) (h1 : 1 ≤ B) (h2 : B ≤ 1048576) : fin (fmul a a) ∧ 0 ≤ val (fmul a a) ∧ val (fmul a a) ≤ 2 * (B * B) := by
  have hs : ab (val a * val a) ≤ B * B := ab_mul_le hB hB
  have hb1 : 1 ≤ B * B := by have := mul_le_mul_nn h1 h1 (by decide) (by grind); grind
  have hb2 : B * B ≤ 1099511627776 := by have := mul_le_mul_nn h2 h2 (by grind) (by decide); grind
  obtain ⟨f, _, r⟩ := mul_rd fa fa (mid_lt' (by grind))
  refine ⟨f, r.nonneg (sq_nonneg _), ?_⟩
  have h3 := r.abs hs (low_le (by grind))
  rw [eps_val] at h3
  rw [ab_le] at hs h3
  grind

/-- A sum, rounded, of two that are not negative. -/
theorem fadd_nn {a b : Nat} {C : Rat} (fa : fin a) (fb : fin b) (ha : 0 ≤ val a) (hb : 0 ≤ val b) (hC : val a + val b ≤ C) (h2 : C ≤ 1152921504606846976) (h1 : 1 ≤ C) :
    fin (fadd a b) ∧ 0 ≤ val (fadd a b) ∧ val (fadd a b) ≤ 2 * C ∧ (val a + val b) * (9 / 10) - 1 / 1000 ≤ val (fadd a b) := by
  have hs : ab (val a + val b) ≤ C := by rw [ab_of_nonneg (by grind)]; exact hC
  obtain ⟨f, r⟩ := add_rd fa fb (mid_lt' (by grind))
  have h3 := r.abs hs (low_le (by grind))
  have h4 := r.any
  have h5 : Cx.p2 (-1074) ≤ 1 / 1000 := Rat.le_trans (p2_mono (show (-1074 : Int) ≤ -10 by decide)) (by decide +kernel)
  rw [ab_of_nonneg (show 0 ≤ val a + val b by grind)] at h4
  rw [eps_val] at h3 h4
  rw [ab_le] at h3 h4
  exact ⟨f, r.nonneg (by grind), by grind, by grind⟩

/-- One product of the two factors: off by little. -/
theorem prod_err {s S z Z m B : Rat} (h1 : ab (s - S) ≤ B * (2 / 4503599627370496)) (h2 : ab (z - Z) ≤ B * (4 / 4503599627370496)) (hS : ab S ≤ B) (hz : ab z ≤ 2 * B) (hm : ab (m - s * z) ≤ 4 * (B * B) * (1 / 4503599627370496)) (hB : 0 ≤ B) : ab (m - S * Z) ≤ B * B * (12 / 4503599627370496) := by
  have t1 := ab_mul_le h1 hz
  have t2 := ab_mul_le hS h2
  have e : m - S * Z = (m - s * z) + (s - S) * z + S * (z - Z) := by grind
  rw [e]
  rw [ab_le] at t1 t2 hm ⊢
  constructor <;> grind

structure QdOk (g p q x y u v : Nat) : Prop where
  f1 : fin (fmul g p)
  f2 : fin (fmul g q)
  f3 : fin (fsub (fmul g p) x)
  f4 : fin (fsub (fmul g q) y)
  d1 : Ieee.double.div (fsub (fmul g p) x) two = some (fdiv (fsub (fmul g p) x) two)
  d2 : Ieee.double.div (fsub (fmul g q) y) two = some (fdiv (fsub (fmul g q) y) two)
  near : ∀ s t, s = fdiv (fsub (fmul g p) x) two → t = fdiv (fsub (fmul g q) y) two →
    fin s ∧ fin t ∧ fin (fadd s x) ∧ fin (fadd t y) ∧ fin (fmul s (fadd s x)) ∧ fin (fmul t (fadd t y)) ∧ fin (fmul s (fadd t y)) ∧ fin (fmul t (fadd s x)) ∧
    fin (tre s t (fadd s x) (fadd t y)) ∧ fin (tim s t (fadd s x) (fadd t y)) ∧ fin (fmul s s) ∧ fin (fmul t t) ∧ fin (fmul x x) ∧ fin (fmul y y) ∧ fin (fmul u u) ∧ fin (fmul v v) ∧
    fin (fadd (fmul s s) (fmul t t)) ∧ fin (fadd (fadd (fmul s s) (fmul t t)) (fmul x x)) ∧ fin (fadd (fadd (fadd (fmul s s) (fmul t t)) (fmul x x)) (fmul y y)) ∧
    fin (fadd (fadd (fadd (fadd (fmul s s) (fmul t t)) (fmul x x)) (fmul y y)) (fmul u u)) ∧ fin (fadd (fadd (fadd (fadd (fadd (fmul s s) (fmul t t)) (fmul x x)) (fmul y y)) (fmul u u)) (fmul v v)) ∧
    fin (fmul thousand (fadd (fadd (fadd (fadd (fadd (fmul s s) (fmul t t)) (fmul x x)) (fmul y y)) (fmul u u)) (fmul v v))) ∧
    fin (fadd thousand (fmul thousand (fadd (fadd (fadd (fadd (fadd (fmul s s) (fmul t t)) (fmul x x)) (fmul y y)) (fmul u u)) (fmul v v)))) ∧
    fin (fadd (tre s t (fadd s x) (fadd t y)) u) ∧ fin (fadd (tim s t (fadd s x) (fadd t y)) v) ∧
    NearOk (fadd (tre s t (fadd s x) (fadd t y)) u) 0 (fadd thousand (fmul thousand (fadd (fadd (fadd (fadd (fadd (fmul s s) (fmul t t)) (fmul x x)) (fmul y y)) (fmul u u)) (fmul v v)))) ∧
    NearOk (fadd (tim s t (fadd s x) (fadd t y)) v) 0 (fadd thousand (fmul thousand (fadd (fadd (fadd (fadd (fadd (fmul s s) (fmul t t)) (fmul x x)) (fmul y y)) (fmul u u)) (fmul v v))))

theorem half_err {d s D B : Rat} (h1 : ab (d - D) ≤ B * (1 / 4503599627370496)) (h2 : ab (s - d / 2) ≤ 2 * B * (1 / 4503599627370496)) (hB : 0 ≤ B) : ab (s - D / 2) ≤ B * (3 / 4503599627370496) := by
  rw [ab_le] at *; constructor <;> grind

/-- From: a root near enough; parts bounded. -/
theorem qd_ok {g p q x y u v : Nat} {σ B M : Rat} {a b c d : Int} (fg : fin g) (fp : fin p) (fq : fin q) (fx : fin x) (fy : fin y) (fu : fin u) (fv : fin v)
    (vx : val x = a) (vy : val y = b) (vu : val u = c) (vv : val v = d) (ba : a.natAbs ≤ 256) (bb : b.natAbs ≤ 256) (bc : c.natAbs ≤ 256) (bd : d.natAbs ≤ 256)
    (hM : M = 1 + val x * val x + val y * val y + val u * val u + val v * val v)
    (hg : val g = σ) (hσ : σ = 1 ∨ σ = -1) (xp : fin (fmul g p) ∧ val (fmul g p) = σ * val p) (xq : fin (fmul g q) ∧ val (fmul g q) = σ * val q)
    (hB1 : 1 ≤ B) (hBp : ab (val p) + ab (val x) ≤ B) (hBq : ab (val q) + ab (val y) ≤ B) (hBB : B * B ≤ 200 * M)
    (hR : ab ((val p * val p - val q * val q - (val x * val x - val y * val y)) / 4 + val u) ≤ 100 * eps * M) (hI : ab ((2 * (val p * val q) - 2 * (val x * val y)) / 4 + val v) ≤ 100 * eps * M) : QdOk g p q x y u v := by
  have M1 : 1 ≤ M := by
    rw [hM]
    have := sq_nonneg (val x); have := sq_nonneg (val y); have := sq_nonneg (val u); have := sq_nonneg (val v)
    grind
  have cst : ∀ {z : Nat} {n : Int}, val z = n → n.natAbs ≤ 256 → ab (val z) ≤ 256 := by
    intro z n hz hn
    rw [hz, ← natAbs_rat]
    have := Rat.natCast_le_natCast.2 hn
    exact this
  have ax := cst vx ba
  have ay := cst vy bb
  have au := cst vu bc
  have av := cst vv bd
  have M2 : M ≤ 300000 := by
    rw [hM]
    have := ab_mul_le ax ax; have := ab_mul_le ay ay; have := ab_mul_le au au; have := ab_mul_le av av
    have := le_ab (val x * val x); have := le_ab (val y * val y); have := le_ab (val u * val u); have := le_ab (val v * val v)
    grind
  have B2 : B ≤ 8192 := le_of_sq_le (by decide) (by grind)
  have BB1 : 1 ≤ B * B := by have := mul_le_mul_nn hB1 hB1 (by decide) (by grind); grind
  have BB2 : B * B ≤ 67108864 := by grind
  have BBB : B ≤ B * B := by have := Rat.mul_le_mul_of_nonneg_left hB1 (show 0 ≤ B by grind); grind
  have np := ab_nonneg (val p)
  have nq := ab_nonneg (val q)
  have nx := ab_nonneg (val x)
  have ny := ab_nonneg (val y)
  have sp : ∀ z : Rat, ab (σ * z) = ab z := by
    intro z
    rcases hσ with h | h <;> rw [h]
    · rw [Rat.one_mul]
    · rw [show -1 * z = -z by grind, ab_neg]
  obtain ⟨f1, v1⟩ := xp
  obtain ⟨f2, v2⟩ := xq
  have pxl : ab (val (fmul g p) - val x) ≤ B := by
    have := ab_add (σ * val p) (-val x)
    rw [sp, ab_neg] at this
    rw [v1, show σ * val p - val x = σ * val p + -val x by grind]; grind
  have qyl : ab (val (fmul g q) - val y) ≤ B := by
    have := ab_add (σ * val q) (-val y)
    rw [sp, ab_neg] at this
    rw [v2, show σ * val q - val y = σ * val q + -val y by grind]; grind
  have pxl' : ab (σ * val p + val x) ≤ B := by
    have := ab_add (σ * val p) (val x)
    rw [sp] at this
    grind
  have qyl' : ab (σ * val q + val y) ≤ B := by
    have := ab_add (σ * val q) (val y)
    rw [sp] at this
    grind
  obtain ⟨f3, r3⟩ := fsub_near (B := B) f1 fx pxl hB1 (by grind)
  obtain ⟨f4, r4⟩ := fsub_near (B := B) f2 fy qyl hB1 (by grind)
  have l3 : ab (val (fsub (fmul g p) x)) ≤ 2 * B := by rw [ab_le] at r3 pxl ⊢; constructor <;> grind
  have l4 : ab (val (fsub (fmul g q) y)) ≤ 2 * B := by rw [ab_le] at r4 qyl ⊢; constructor <;> grind
  obtain ⟨d1, f5, r5⟩ := fdiv_two f3 l3 (by grind) (by grind)
  obtain ⟨d2, f6, r6⟩ := fdiv_two f4 l4 (by grind) (by grind)
  have e5 := half_err r3 r5 (by grind)
  have e6 := half_err r4 r6 (by grind)
  rw [v1] at e5 pxl
  rw [v2] at e6 qyl
  refine ⟨f1, f2, f3, f4, d1, d2, ?_⟩
  intro s t hs ht
  rw [← hs] at f5 e5
  rw [← ht] at f6 e6
  clear hs ht
  generalize hSS : (σ * val p - val x) / 2 = S at *
  generalize hTT : (σ * val q - val y) / 2 = T at *
  have lS : ab S ≤ B := by rw [← hSS]; rw [ab_le] at pxl ⊢; constructor <;> grind
  have lT : ab T ≤ B := by rw [← hTT]; rw [ab_le] at qyl ⊢; constructor <;> grind
  have lSx : ab (S + val x) ≤ B := by
    rw [show S + val x = (σ * val p + val x) / 2 by grind]; rw [ab_le] at pxl' ⊢; constructor <;> grind
  have lTy : ab (T + val y) ≤ B := by
    rw [show T + val y = (σ * val q + val y) / 2 by grind]; rw [ab_le] at qyl' ⊢; constructor <;> grind
  have ls : ab (val s) ≤ 2 * B := by rw [ab_le] at lS e5 ⊢; constructor <;> grind
  have lt : ab (val t) ≤ 2 * B := by rw [ab_le] at lT e6 ⊢; constructor <;> grind
  obtain ⟨f7, r7⟩ := fadd_near (B := 2 * B) f5 fx (by rw [ab_le] at lSx e5 ⊢; constructor <;> grind) (by grind) (by grind)
  obtain ⟨f8, r8⟩ := fadd_near (B := 2 * B) f6 fy (by rw [ab_le] at lTy e6 ⊢; constructor <;> grind) (by grind) (by grind)
  have e7 : ab (val (fadd s x) - (S + val x)) ≤ B * (5 / 4503599627370496) := by rw [ab_le] at e5 r7 ⊢; constructor <;> grind
  have e8 : ab (val (fadd t y) - (T + val y)) ≤ B * (5 / 4503599627370496) := by rw [ab_le] at e6 r8 ⊢; constructor <;> grind
  have lsx : ab (val (fadd s x)) ≤ 2 * B := by rw [ab_le] at lSx e7 ⊢; constructor <;> grind
  have lty : ab (val (fadd t y)) ≤ 2 * B := by rw [ab_le] at lTy e8 ⊢; constructor <;> grind
  have pb : ∀ {z w : Rat}, ab z ≤ 2 * B → ab w ≤ 2 * B → ab (z * w) ≤ 4 * (B * B) := by
    intro z w hz hw
    have := ab_mul_le hz hw
    grind
  obtain ⟨m1, w1⟩ := fmul_near (B := 4 * (B * B)) f5 f7 (pb ls lsx) (by grind) (by grind)
  obtain ⟨m2, w2⟩ := fmul_near (B := 4 * (B * B)) f6 f8 (pb lt lty) (by grind) (by grind)
  obtain ⟨m3, w3⟩ := fmul_near (B := 4 * (B * B)) f5 f8 (pb ls lty) (by grind) (by grind)
  obtain ⟨m4, w4⟩ := fmul_near (B := 4 * (B * B)) f6 f7 (pb lt lsx) (by grind) (by grind)
  have pe : ∀ {s S z Z m : Rat}, ab (s - S) ≤ B * (3 / 4503599627370496) → ab (z - Z) ≤ B * (5 / 4503599627370496) → ab S ≤ B → ab z ≤ 2 * B → ab (m - s * z) ≤ 4 * (B * B) * (1 / 4503599627370496) → ab (m - S * Z) ≤ B * B * (15 / 4503599627370496) := by
    intro s S z Z m h1 h2 hS hz hm
    have t1 := ab_mul_le h1 hz
    have t2 := ab_mul_le hS h2
    have e : m - S * Z = (m - s * z) + (s - S) * z + S * (z - Z) := by grind
    rw [e]
    rw [ab_le] at t1 t2 hm ⊢
    constructor <;> grind
  have p1 := pe e5 e7 lS lsx w1
  have p2 := pe e6 e8 lT lty w2
  have p3 := pe e5 e8 lS lty w3
  have p4 := pe e6 e7 lT lsx w4
  have q1 := ab_mul_le lS lSx
  have q2 := ab_mul_le lT lTy
  have q3 := ab_mul_le lS lTy
  have q4 := ab_mul_le lT lSx
  obtain ⟨f9, r9⟩ := fsub_near (B := 3 * (B * B)) m1 m2 (by rw [ab_le] at p1 p2 q1 q2 ⊢; constructor <;> grind) (by grind) (by grind)
  obtain ⟨f10, r10⟩ := fadd_near (B := 3 * (B * B)) m3 m4 (by rw [ab_le] at p3 p4 q3 q4 ⊢; constructor <;> grind) (by grind) (by grind)
  have t9 : fsub (fmul s (fadd s x)) (fmul t (fadd t y)) = tre s t (fadd s x) (fadd t y) := rfl
  have t10 : fadd (fmul s (fadd t y)) (fmul t (fadd s x)) = tim s t (fadd s x) (fadd t y) := rfl
  rw [t9] at f9 r9
  rw [t10] at f10 r10
  have e9 : ab (val (tre s t (fadd s x) (fadd t y)) - (S * (S + val x) - T * (T + val y))) ≤ B * B * (33 / 4503599627370496) := by rw [ab_le] at p1 p2 r9 ⊢; constructor <;> grind
  have e10 : ab (val (tim s t (fadd s x) (fadd t y)) - (S * (T + val y) + T * (S + val x))) ≤ B * B * (33 / 4503599627370496) := by rw [ab_le] at p3 p4 r10 ⊢; constructor <;> grind
  -- the size
  obtain ⟨g1, g2, g3⟩ := fmul_sq f5 ls (by grind) (by grind)
  obtain ⟨g4, g5, g6⟩ := fmul_sq f6 lt (by grind) (by grind)
  have isq : ∀ {z : Nat} {n : Int}, fin z → val z = n → n.natAbs ≤ 256 → fin (fmul z z) ∧ val (fmul z z) = val z * val z ∧ val z * val z ≤ 65536 := by
    intro z n fz vz hn
    have := mul_natAbs_le hn hn
    obtain ⟨w1, w2⟩ := fmul_int fz fz vz vz (by omega)
    refine ⟨w1, by rw [w2, vz, Rat.intCast_mul], ?_⟩
    rw [vz, ← Rat.intCast_mul]
    have h3 := (sq_nat hn).1
    have := Rat.intCast_le_intCast.2 (show n * n ≤ 65536 by omega)
    exact this
  obtain ⟨x1, x2, x3⟩ := isq fx vx ba
  obtain ⟨y1, y2, y3⟩ := isq fy vy bb
  obtain ⟨u1, u2, u3⟩ := isq fu vu bc
  obtain ⟨z1, z2, z3⟩ := isq fv vv bd
  have sx0 := sq_nonneg (val x)
  have sy0 := sq_nonneg (val y)
  have su0 := sq_nonneg (val u)
  have sv0 := sq_nonneg (val v)
  obtain ⟨h1, h2, h3, h4⟩ := fadd_nn (C := 68719476736) g1 g4 g2 g5 (by grind) (by decide +kernel) (by decide +kernel)
  obtain ⟨i1, i2, i3, i4⟩ := fadd_nn (C := 2 * 68719476736 + 65536) h1 x1 h2 (by rw [x2]; exact sx0) (by grind) (by decide +kernel) (by decide +kernel)
  obtain ⟨j1, j2, j3, j4⟩ := fadd_nn (C := 2 * (2 * 68719476736 + 65536) + 65536) i1 y1 i2 (by rw [y2]; exact sy0) (by grind) (by decide +kernel) (by decide +kernel)
  obtain ⟨k1, k2, k3, k4⟩ := fadd_nn (C := 2 * (2 * (2 * 68719476736 + 65536) + 65536) + 65536) j1 u1 j2 (by rw [u2]; exact su0) (by grind) (by decide +kernel) (by decide +kernel)
  obtain ⟨n1, n2, n3, n4⟩ := fadd_nn (C := 2 * (2 * (2 * (2 * 68719476736 + 65536) + 65536) + 65536) + 65536) k1 z1 k2 (by rw [z2]; exact sv0) (by grind) (by decide +kernel) (by decide +kernel)
  rw [x2] at i4
  rw [y2] at j4
  rw [u2] at k4
  rw [z2] at n4
  generalize hsum : fadd (fadd (fadd (fadd (fadd (fmul s s) (fmul t t)) (fmul x x)) (fmul y y)) (fmul u u)) (fmul v v) = W at *
  have lW : (M - 1) * (6 / 10) - 1 / 100 ≤ val W := by grind
  have uW : val W ≤ 4398046511104 := by grind
  clear h2 h3 h4 i2 i3 i4 j2 j3 j4 k2 k3 k4 n3 n4 g2 g3 g5 g6
  obtain ⟨o1, o2⟩ := fmul_near (B := 4398046511104000) fin_thousand n1 (by rw [val_thousand, ab_of_nonneg (by grind)]; grind) (by decide +kernel) (by decide +kernel)
  rw [val_thousand, ab_le] at o2
  obtain ⟨o3, o4⟩ := fadd_near (B := 8796093022208000) fin_thousand o1 (by rw [val_thousand, ab_le]; constructor <;> grind) (by decide +kernel) (by decide +kernel)
  rw [val_thousand, ab_le] at o4
  generalize hsz : fadd thousand (fmul thousand W) = Z at *
  have lZ : 100 * M ≤ val Z := by grind
  have uZ : val Z ≤ 1152921504606846976 := by grind
  have s2 : σ * σ = 1 := by rcases hσ with h | h <;> rw [h] <;> decide +kernel
  have eC : S * (S + val x) - T * (T + val y) = (val p * val p - val q * val q - (val x * val x - val y * val y)) / 4 := by
    rw [← hSS, ← hTT]
    have : (σ * val p - val x) / 2 * ((σ * val p - val x) / 2 + val x) - (σ * val q - val y) / 2 * ((σ * val q - val y) / 2 + val y) = (σ * σ * (val p * val p) - σ * σ * (val q * val q) - (val x * val x - val y * val y)) / 4 := by grind
    rw [this, s2, Rat.one_mul, Rat.one_mul]
  have eD : S * (T + val y) + T * (S + val x) = (2 * (val p * val q) - 2 * (val x * val y)) / 4 := by
    rw [← hSS, ← hTT]
    have : (σ * val p - val x) / 2 * ((σ * val q - val y) / 2 + val y) + (σ * val q - val y) / 2 * ((σ * val p - val x) / 2 + val x) = (2 * (σ * σ * (val p * val q)) - 2 * (val x * val y)) / 4 := by grind
    rw [this, s2, Rat.one_mul]
  rw [eC] at e9
  rw [eD] at e10
  rw [eps_val] at hR hI
  have fin1 : ∀ {z w : Nat} {K : Rat}, fin z → fin w → ab (val z - K) ≤ B * B * (33 / 4503599627370496) → ab (K + val w) ≤ 100 * (1 / 4503599627370496) * M → ab (val w) ≤ 256 → fin (fadd z w) ∧ NearOk (fadd z w) 0 Z := by
    intro z w K fz fw hz hw bw
    obtain ⟨a1, a2⟩ := fadd_near (B := 3 * (B * B) + 256) fz fw (by rw [ab_le] at hz hw ⊢; constructor <;> grind) (by grind) (by grind)
    refine ⟨a1, near_of a1 fin_zero o3 ?_ (by rw [val_zero]; exact Rat.le_of_lt (p2_pos _)) ?_ (le_1000 uZ) ?_⟩
    · refine le_1000 ?_
      rw [ab_le] at hz hw a2 ⊢; constructor <;> grind
    · refine Rat.le_trans (Rat.le_trans (p2_mono (show (-900 : Int) ≤ 0 by decide)) (by rw [p2_zero]; exact M1)) (by grind)
    · rw [val_zero, show Cx.p2 (-41) = 1 / 2199023255552 from by decide +kernel]
      rw [ab_le] at hz hw a2 ⊢; constructor <;> grind
  obtain ⟨r1, r2⟩ := fin1 f9 fu e9 hR au
  obtain ⟨r3', r4'⟩ := fin1 f10 fv e10 hI av
  exact ⟨f5, f6, f7, f8, m1, m2, m3, m4, f9, f10, g1, g4, x1, y1, u1, z1, h1, i1, j1, k1, n1, o1, o3, r1, r3', r2, r4'⟩

def mone : Nat := 13830554455654793216
theorem fin_mone : fin mone := fin_of _ (by decide)
theorem val_mone : val mone = -1 := by decide +kernel
theorem val_w4' : val w4 = ((4 : Int) : Rat) := by decide +kernel

/-- The discriminant's words. -/
def dX (x y u : Nat) : Nat := fsub (tre x y x y) (fmul w4 u)
def dY (x y v : Nat) : Nat := fsub (tim x y x y) (fmul w4 v)

structure QdIn (x y u v : Nat) : Prop where
  m1 : fin (fmul x x)
  m2 : fin (fmul y y)
  m3 : fin (fmul x y)
  m4 : fin (fmul y x)
  f1 : fin (tre x y x y)
  f2 : fin (tim x y x y)
  f3 : fin (fmul w4 u)
  f4 : fin (fmul w4 v)
  f5 : fin (dX x y u)
  f6 : fin (dY x y v)
  cases : (SqIn (dX x y u) (dY x y v) 1152921504606846976 ∧ fin (cre (dX x y u) (dY x y v)) ∧ fin (cim (dX x y u) (dY x y v)) ∧ QdOk one (cre (dX x y u) (dY x y v)) (cim (dX x y u) (dY x y v)) x y u v ∧ QdOk mone (cre (dX x y u) (dY x y v)) (cim (dX x y u) (dY x y v)) x y u v) ∨
    (val (dX x y u) = val 0 ∧ val (dY x y v) = val 0 ∧ QdOk one 0 (dY x y v) x y u v ∧ QdOk mone 0 (dY x y v) x y u v)

theorem sq_le_of {a b c : Rat} (h : a * a ≤ b * b) (hb : 0 ≤ b) : a ≤ b := le_of_sq_le hb h

theorem qd_in {x y u v : Nat} (qx : Whl x 256) (qy : Whl y 256) (qu : Whl u 256) (qv : Whl v 256) : QdIn x y u v := by
  obtain ⟨fx, vx, bx⟩ := qx.iv
  obtain ⟨fy, vy, by'⟩ := qy.iv
  obtain ⟨fu, vu, bu⟩ := qu.iv
  obtain ⟨fv, vv, bv⟩ := qv.iv
  have bx : (iv x).natAbs ≤ 256 := bx
  have by' : (iv y).natAbs ≤ 256 := by'
  have bu : (iv u).natAbs ≤ 256 := bu
  have bv : (iv v).natAbs ≤ 256 := bv
  generalize iv x = a at *
  generalize iv y = b at *
  generalize iv u = c at *
  generalize iv v = d at *
  have c1 := mul_natAbs_le bx bx
  have c2 := mul_natAbs_le by' by'
  have c3 := mul_natAbs_le bx by'
  have c4 := mul_natAbs_le by' bx
  obtain ⟨m1, w1⟩ := fmul_int fx fx vx vx (by omega)
  obtain ⟨m2, w2⟩ := fmul_int fy fy vy vy (by omega)
  obtain ⟨m3, w3⟩ := fmul_int fx fy vx vy (by omega)
  obtain ⟨m4, w4'⟩ := fmul_int fy fx vy vx (by omega)
  obtain ⟨g1, z1⟩ := fsub_int m1 m2 w1 w2 (by omega)
  obtain ⟨g2, z2⟩ := fadd_int m3 m4 w3 w4' (by omega)
  have e1 : fsub (fmul x x) (fmul y y) = tre x y x y := rfl
  have e2 : fadd (fmul x y) (fmul y x) = tim x y x y := rfl
  rw [e1] at g1 z1
  rw [e2] at g2 z2
  obtain ⟨m5, w5⟩ := fmul_int fin_w4 fu val_w4' vu (by omega)
  obtain ⟨m6, w6⟩ := fmul_int fin_w4 fv val_w4' vv (by omega)
  obtain ⟨g3, z3⟩ := fsub_int g1 m5 z1 w5 (by omega)
  obtain ⟨g4, z4⟩ := fsub_int g2 m6 z2 w6 (by omega)
  have e3 : fsub (tre x y x y) (fmul w4 u) = dX x y u := rfl
  have e4 : fsub (tim x y x y) (fmul w4 v) = dY x y v := rfl
  rw [e3] at g3 z3
  rw [e4] at g4 z4
  have hD1 : val (dX x y u) = val x * val x - val y * val y - 4 * val u := by
    rw [z3, vx, vy, vu, Rat.intCast_sub, Rat.intCast_sub, Rat.intCast_mul, Rat.intCast_mul, Rat.intCast_mul]; rfl
  have hD2 : val (dY x y v) = 2 * (val x * val y) - 4 * val v := by
    rw [z4, vx, vy, vv, Rat.intCast_sub, Rat.intCast_add, Rat.intCast_mul, Rat.intCast_mul, Rat.intCast_mul]
    have : ((4 : Int) : Rat) = 4 := rfl
    rw [this]; grind
  refine ⟨m1, m2, m3, m4, g1, g2, m5, m6, g3, g4, ?_⟩
  generalize hM : 1 + val x * val x + val y * val y + val u * val u + val v * val v = M
  have sx := sq_nonneg (val x)
  have sy := sq_nonneg (val y)
  have su := sq_nonneg (val u)
  have sv := sq_nonneg (val v)
  have M1 : 1 ≤ M := by grind
  have MM : M ≤ M * M := by have := Rat.mul_le_mul_of_nonneg_left M1 (show 0 ≤ M by grind); grind
  have hnD : val (dX x y u) * val (dX x y u) + val (dY x y v) * val (dY x y v) ≤ 34 * (M * M) := by
    have t1 : val (dX x y u) * val (dX x y u) ≤ 2 * ((val x * val x - val y * val y) * (val x * val x - val y * val y)) + 32 * (val u * val u) := by
      rw [hD1]; have := sq_nonneg (val x * val x - val y * val y + 4 * val u); grind
    have t2 : val (dY x y v) * val (dY x y v) ≤ 2 * ((2 * (val x * val y)) * (2 * (val x * val y))) + 32 * (val v * val v) := by
      rw [hD2]; have := sq_nonneg (2 * (val x * val y) + 4 * val v); grind
    have t3 : (val x * val x - val y * val y) * (val x * val x - val y * val y) + (2 * (val x * val y)) * (2 * (val x * val y)) = (val x * val x + val y * val y) * (val x * val x + val y * val y) := by grind
    have t4 := mul_le_mul_nn (show val x * val x + val y * val y ≤ M by grind) (show val x * val x + val y * val y ≤ M by grind) (by grind) (by grind)
    grind
  have ones : fin one ∧ fin mone := ⟨fin_one, fin_mone⟩
  have a1 : ab (val one) = Cx.p2 0 := by rw [val_one, p2_zero]; decide +kernel
  have a2 : ab (val mone) = Cx.p2 0 := by rw [val_mone, p2_zero]; decide +kernel
  by_cases hz : a * a - b * b - 4 * c = 0 ∧ a * b + b * a - 4 * d = 0
  · right
    have q1 : val (dX x y u) = 0 := by rw [z3, hz.1]; rfl
    have q2 : val (dY x y v) = 0 := by rw [z4, hz.2]; rfl
    refine ⟨by rw [q1, val_zero], by rw [q2, val_zero], ?_⟩
    have hR : ab ((val 0 * val 0 - val (dY x y v) * val (dY x y v) - (val x * val x - val y * val y)) / 4 + val u) ≤ 100 * eps * M := by
      rw [val_zero, q2, show ((0 : Rat) * 0 - 0 * 0 - (val x * val x - val y * val y)) / 4 + val u = 0 by rw [q1] at hD1; grind, ab_zero]
      have := Rat.mul_nonneg (Rat.le_of_lt eps_pos) (show 0 ≤ M by grind); grind
    have hI : ab ((2 * (val 0 * val (dY x y v)) - 2 * (val x * val y)) / 4 + val v) ≤ 100 * eps * M := by
      rw [val_zero, q2, show (2 * ((0 : Rat) * 0) - 2 * (val x * val y)) / 4 + val v = 0 by rw [q2] at hD2; grind, ab_zero]
      have := Rat.mul_nonneg (Rat.le_of_lt eps_pos) (show 0 ≤ M by grind); grind
    have hBB : (1 + ab (val x) + ab (val y)) * (1 + ab (val x) + ab (val y)) ≤ 200 * M := by
      have h1 := (sum_sq (a := val x) (b := val y)).1
      have h2 := sq_nonneg (1 - (ab (val x) + ab (val y)))
      grind
    have nx := ab_nonneg (val x)
    have ny := ab_nonneg (val y)
    have x1 := fmul_exact' fin_zero fin_one a1 (Or.inl val_zero) (by decide)
    have x2 := fmul_exact' g4 fin_one a1 (Or.inl q2) (by decide)
    have x3 := fmul_exact' fin_zero fin_mone a2 (Or.inl val_zero) (by decide)
    have x4 := fmul_exact' g4 fin_mone a2 (Or.inl q2) (by decide)
    constructor
    · exact qd_ok (B := 1 + ab (val x) + ab (val y)) fin_one fin_zero g4 fx fy fu fv vx vy vu vv bx by' bu bv hM.symm val_one (Or.inl rfl) ⟨x1.1, by rw [x1.2.1, val_one]⟩ ⟨x2.1, by rw [x2.2.1, val_one]⟩ (by grind) (by rw [val_zero, ab_zero]; grind) (by rw [q2, ab_zero]; grind) hBB hR hI
    · exact qd_ok (B := 1 + ab (val x) + ab (val y)) fin_mone fin_zero g4 fx fy fu fv vx vy vu vv bx by' bu bv hM.symm val_mone (Or.inr rfl) ⟨x3.1, by rw [x3.2.1, val_mone]⟩ ⟨x4.1, by rw [x4.2.1, val_mone]⟩ (by grind) (by rw [val_zero, ab_zero]; grind) (by rw [q2, ab_zero]; grind) hBB hR hI
  · left
    have i := sqin_int g3 g4 z3 z4 hz (by omega) (by omega)
    have s := sq_is i
    have r := s.range i (by decide +kernel)
    have hn := (s.norm i).half (by rw [eps_val]; decide +kernel)
    have en : nrm (dX x y u) (dY x y v) = val (dX x y u) * val (dX x y u) + val (dY x y v) * val (dY x y v) := rfl
    rw [en] at hn
    have hw : nrm (cre (dX x y u) (dY x y v)) (cim (dX x y u) (dY x y v)) ≤ 9 * M := le_of_sq_le (by grind) (by grind)
    have hDs : ab (val (dX x y u)) + ab (val (dY x y v)) ≤ 9 * M := by
      refine le_of_sq_le (by grind) ?_
      have := (sum_sq (a := val (dX x y u)) (b := val (dY x y v))).1
      grind
    obtain ⟨d1, d2⟩ := s.sq.dist
    simp only [Cq.mul] at d1 d2
    have fp := s.fp
    have fq := s.fq
    have rx := r.rx
    have ry := r.ry
    refine ⟨i, fp, fq, ?_⟩
    unfold nrm at hw
    generalize cre (dX x y u) (dY x y v) = p at *
    generalize cim (dX x y u) (dY x y v) = q at *
    have dd := Rat.mul_le_mul_of_nonneg_left hDs (show 0 ≤ 40 * eps by have := eps_pos; grind)
    have eM := Rat.mul_nonneg (Rat.le_of_lt eps_pos) (show 0 ≤ M by grind)
    have hR : ab ((val p * val p - val q * val q - (val x * val x - val y * val y)) / 4 + val u) ≤ 100 * eps * M := by
      rw [show (val p * val p - val q * val q - (val x * val x - val y * val y)) / 4 + val u = (val p * val p - val q * val q - val (dX x y u)) / 4 by rw [hD1]; grind]
      rw [ab_le] at d1 ⊢; constructor <;> grind
    have hI : ab ((2 * (val p * val q) - 2 * (val x * val y)) / 4 + val v) ≤ 100 * eps * M := by
      rw [show (2 * (val p * val q) - 2 * (val x * val y)) / 4 + val v = (val p * val q + val q * val p - val (dY x y v)) / 4 by rw [hD2]; grind]
      rw [ab_le] at d2 ⊢; constructor <;> grind
    have nx := ab_nonneg (val x)
    have ny := ab_nonneg (val y)
    have np := ab_nonneg (val p)
    have nq := ab_nonneg (val q)
    have hBB : (1 + (ab (val x) + ab (val y)) + (ab (val p) + ab (val q))) * (1 + (ab (val x) + ab (val y)) + (ab (val p) + ab (val q))) ≤ 200 * M := by
      have h1 := (sum_sq (a := val x) (b := val y)).1
      have h2 := (sum_sq (a := val p) (b := val q)).1
      generalize ab (val x) + ab (val y) = A at *
      generalize ab (val p) + ab (val q) = C at *
      have h3 := sq_nonneg (1 - A)
      have h4 := sq_nonneg (1 - C)
      have h5 := sq_nonneg (A - C)
      grind
    have rg : ∀ {z : Nat}, (val z = 0 ∨ (Cx.p2 (-121) ≤ ab (val z) ∧ ab (val z) ≤ Cx.p2 30)) → val z = 0 ∨ (Cx.p2 (-300) ≤ ab (val z) ∧ ab (val z) ≤ Cx.p2 300) := by
      intro z hz
      rcases hz with h | h
      · exact Or.inl h
      · exact rg300 h
    have x1 := fmul_exact' fp fin_one a1 (rg rx) (by decide)
    have x2 := fmul_exact' fq fin_one a1 (rg ry) (by decide)
    have x3 := fmul_exact' fp fin_mone a2 (rg rx) (by decide)
    have x4 := fmul_exact' fq fin_mone a2 (rg ry) (by decide)
    constructor
    · exact qd_ok (B := 1 + (ab (val x) + ab (val y)) + (ab (val p) + ab (val q))) fin_one fp fq fx fy fu fv vx vy vu vv bx by' bu bv hM.symm val_one (Or.inl rfl) ⟨x1.1, by rw [x1.2.1, val_one]⟩ ⟨x2.1, by rw [x2.2.1, val_one]⟩ (by grind) (by grind) (by grind) hBB hR hI
    · exact qd_ok (B := 1 + (ab (val x) + ab (val y)) + (ab (val p) + ab (val q))) fin_mone fp fq fx fy fu fv vx vy vu vv bx by' bu bv hM.symm val_mone (Or.inr rfl) ⟨x3.1, by rw [x3.2.1, val_mone]⟩ ⟨x4.1, by rw [x4.2.1, val_mone]⟩ (by grind) (by grind) (by grind) hBB hR hI
end Go.Proofs.Ytigckpmeppddcaa
