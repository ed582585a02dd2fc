/- The rounded product of two complex numbers is near their product; numbers of near squares are near, or opposite. Plain. -/
import Derived.Test.YtigckpmeppddcaaTu
import Derived.Test.YtigckpmeppddcaaWt
set_option linter.unusedVariables false
namespace Go.Proofs.Ytigckpmeppddcaa
open Go.RowKit Cx

/-- What the product's words are. -/
structure TmOk (a b c d : Nat) : Prop where
  m1 : fin (fmul a c)
  m2 : fin (fmul b d)
  m3 : fin (fmul a d)
  m4 : fin (fmul b c)
  f1 : fin (tre a b c d)
  f2 : fin (tim a b c d)
  cn : Cn (24 * eps) ⟨val (tre a b c d), val (tim a b c d)⟩ ((⟨val a, val b⟩ : Cq).mul ⟨val c, val d⟩)

theorem sum_sq {a b : Rat} : (ab a + ab b) * (ab a + ab b) ≤ 2 * (a * a + b * b) ∧ a * a + b * b ≤ (ab a + ab b) * (ab a + ab b) := by
  have h1 := ab_sq a
  have h2 := ab_sq b
  have h3 := sq_nonneg (ab a - ab b)
  have h4 := Rat.mul_nonneg (ab_nonneg a) (ab_nonneg b)
  constructor <;> grind

theorem pm_le {x y p q r s : Rat} (hx : ab x ≤ p * r) (hy : ab y ≤ q * s) (hp : 0 ≤ p) (hq : 0 ≤ q) (hr : 0 ≤ r) (hs : 0 ≤ s) : ab x + ab y ≤ (p + q) * (r + s) := by
  have h1 := Rat.mul_nonneg hp hs
  have h2 := Rat.mul_nonneg hq hr
  grind
theorem pm_le' {x y p q r s : Rat} (hx : ab x ≤ p * s) (hy : ab y ≤ q * r) (hp : 0 ≤ p) (hq : 0 ≤ q) (hr : 0 ≤ r) (hs : 0 ≤ s) : ab x + ab y ≤ (p + q) * (r + s) := by
  have h1 := Rat.mul_nonneg hp hr
  have h2 := Rat.mul_nonneg hq hs
  grind

theorem tm_num {X Y x y z B : Rat} (hx : ab (x - X) ≤ 2 * B * (1 / 4503599627370496)) (hy : ab (y - Y) ≤ 2 * B * (1 / 4503599627370496)) (hz : ab (z - (x - y)) ≤ 2 * B * (1 / 4503599627370496)) : ab (z - (X - Y)) ≤ 6 * eps * B := by
  rw [eps_val]
  rw [ab_le] at *
  constructor <;> grind
theorem tm_num' {X Y x y z B : Rat} (hx : ab (x - X) ≤ 2 * B * (1 / 4503599627370496)) (hy : ab (y - Y) ≤ 2 * B * (1 / 4503599627370496)) (hz : ab (z - (x + y)) ≤ 2 * B * (1 / 4503599627370496)) : ab (z - (X + Y)) ≤ 6 * eps * B := by
  rw [eps_val]
  rw [ab_le] at *
  constructor <;> grind
theorem tm_le {X Y x y B : Rat} (hB : 0 ≤ B) (h : ab X + ab Y ≤ B) (hx : ab (x - X) ≤ 2 * B * (1 / 4503599627370496)) (hy : ab (y - Y) ≤ 2 * B * (1 / 4503599627370496)) : ab (x - y) ≤ 2 * B ∧ ab (x + y) ≤ 2 * B := by
  have h1 := le_ab X
  have h2 := neg_le_ab X
  have h3 := le_ab Y
  have h4 := neg_le_ab Y
  rw [ab_le] at hx hy
  constructor <;> rw [ab_le] <;> constructor <;> grind

theorem tm_ok {a b c d : Nat} (fa : fin a) (fb : fin b) (fc : fin c) (fd : fin d) (l1 : 1 / 2 ≤ nrm a b) (l2 : 1 / 2 ≤ nrm c d) (u1 : nrm a b ≤ 67108864) (u2 : nrm c d ≤ 67108864) : TmOk a b c d := by
  obtain ⟨s1, s2⟩ := sum_sq (a := val a) (b := val b)
  obtain ⟨s3, s4⟩ := sum_sq (a := val c) (b := val d)
  unfold nrm at l1 l2 u1 u2
  have pa := ab_nonneg (val a)
  have pb := ab_nonneg (val b)
  have pc := ab_nonneg (val c)
  have pd := ab_nonneg (val d)
  have t1 := pm_le (x := val a * val c) (y := val b * val d) (by rw [ab_mul]; exact Rat.le_refl) (by rw [ab_mul]; exact Rat.le_refl) pa pb pc pd
  have t2 := pm_le' (x := val a * val d) (y := val b * val c) (by rw [ab_mul]; exact Rat.le_refl) (by rw [ab_mul]; exact Rat.le_refl) pa pb pc pd
  have n1 := ab_nonneg (val a * val c)
  have n2 := ab_nonneg (val b * val d)
  have n3 := ab_nonneg (val a * val d)
  have n4 := ab_nonneg (val b * val c)
  generalize hP : ab (val a) + ab (val b) = P at *
  generalize hR : ab (val c) + ab (val d) = R at *
  have hP0 : 0 ≤ P := by grind
  have hR0 : 0 ≤ R := by grind
  have hPR := Rat.mul_nonneg hP0 hR0
  have hB1 : 1 / 2 ≤ P * R := by
    refine le_of_sq_le hPR ?_
    have := mul_le_mul_nn (show 1 / 2 ≤ P * P by grind) (show 1 / 2 ≤ R * R by grind) (by decide +kernel) (by grind)
    grind
  have hB2 : P * R ≤ 134217728 := by
    refine le_of_sq_le (by decide) ?_
    have := mul_le_mul_nn (show P * P ≤ 134217728 by grind) (show R * R ≤ 134217728 by grind) (Rat.mul_nonneg hP0 hP0) (by decide)
    grind
  have hBB : (P * R) * (P * R) ≤ 4 * ((val a * val a + val b * val b) * (val c * val c + val d * val d)) := by
    have := mul_le_mul_nn s1 s3 (Rat.mul_nonneg hP0 hP0) (by grind)
    grind
  generalize P * R = B at *
  obtain ⟨m1, e1⟩ := fmul_near (B := 2 * B) fa fc (by grind) (by grind) (by grind)
  obtain ⟨m2, e2⟩ := fmul_near (B := 2 * B) fb fd (by grind) (by grind) (by grind)
  obtain ⟨m3, e3⟩ := fmul_near (B := 2 * B) fa fd (by grind) (by grind) (by grind)
  obtain ⟨m4, e4⟩ := fmul_near (B := 2 * B) fb fc (by grind) (by grind) (by grind)
  obtain ⟨f1, e5⟩ := fsub_near (B := 2 * B) m1 m2 (tm_le hPR t1 e1 e2).1 (by grind) (by grind)
  obtain ⟨f2, e6⟩ := fadd_near (B := 2 * B) m3 m4 (tm_le hPR t2 e3 e4).2 (by grind) (by grind)
  have d1 := tm_num e1 e2 e5
  have d2 := tm_num' e3 e4 e6
  refine ⟨m1, m2, m3, m4, f1, f2, ?_⟩
  refine Cn.of_close (d := 6 * eps * B) ?_ ?_ ?_ ?_
  · simp only [Cq.mul]; exact d1
  · simp only [Cq.mul]; exact d2
  · rw [norm_mul]; simp only [Cq.norm]
    exact Rat.mul_pos (by grind) (by grind)
  · rw [norm_mul]; simp only [Cq.norm, Cq.mul]
    have z1 : ab (val a * val c - val b * val d) ≤ B := by
      have := ab_add (val a * val c) (-(val b * val d))
      rw [ab_neg] at this
      rw [show val a * val c - val b * val d = val a * val c + -(val b * val d) by grind]
      grind
    have z2 := ab_add (val a * val d) (val b * val c)
    have z3 : 6 * eps * B * (ab (val a * val c - val b * val d) + ab (val a * val d + val b * val c)) ≤ 6 * eps * B * (ab (val a * val c - val b * val d) + ab (val a * val d + val b * val c)) := Rat.le_refl
    have sq2 : (ab (val a * val c - val b * val d) + ab (val a * val d + val b * val c)) * (ab (val a * val c - val b * val d) + ab (val a * val d + val b * val c)) ≤ 2 * ((val a * val a + val b * val b) * (val c * val c + val d * val d)) := by
      have := (sum_sq (a := val a * val c - val b * val d) (b := val a * val d + val b * val c)).1
      have e : (val a * val c - val b * val d) * (val a * val c - val b * val d) + (val a * val d + val b * val c) * (val a * val d + val b * val c) = (val a * val a + val b * val b) * (val c * val c + val d * val d) := by grind
      rw [e] at this; exact this
    have nn : 0 ≤ ab (val a * val c - val b * val d) + ab (val a * val d + val b * val c) := by
      have := ab_nonneg (val a * val c - val b * val d); have := ab_nonneg (val a * val d + val b * val c); grind
    generalize ab (val a * val c - val b * val d) + ab (val a * val d + val b * val c) = K at *
    generalize (val a * val a + val b * val b) * (val c * val c + val d * val d) = N at *
    have hN : 0 ≤ N := by have := Rat.mul_nonneg nn nn; grind
    have hBK : B * K ≤ 3 * N := by
      refine le_of_sq_le (by grind) ?_
      have := mul_le_mul_nn hBB sq2 (Rat.mul_nonneg hPR hPR) (by grind)
      have := Rat.mul_nonneg hN hN
      grind
    have := Rat.mul_le_mul_of_nonneg_left hBK (Rat.le_of_lt eps_pos)
    have := Rat.mul_nonneg (Rat.le_of_lt eps_pos) hN
    grind

/-- A number whose square is near 1. -/
theorem root_one {x y v : Rat} (h1 : ab (x * x - y * y - 1) ≤ v) (h2 : ab (2 * (x * y)) ≤ v) (hv : v ≤ 1 / 10) : (ab (x - 1) ≤ 2 * v ∧ ab y ≤ 2 * v) ∨ (ab (x + 1) ≤ 2 * v ∧ ab y ≤ 2 * v) := by
  have hv0 := Rat.le_trans (ab_nonneg _) h2
  rw [ab_le] at h1
  have yy := sq_nonneg y
  have hx : 9 / 10 ≤ ab x := le_of_sq_le (ab_nonneg _) (by rw [ab_sq]; grind)
  have hxy : ab (2 * (x * y)) = 2 * (ab x * ab y) := by rw [ab_mul, ab_mul]; rfl
  rw [hxy] at h2
  have t := Rat.mul_le_mul_of_nonneg_right hx (ab_nonneg y)
  have hy : ab y ≤ v := by have := ab_nonneg y; grind
  have hy2 : y * y ≤ v * (1 / 10) := by
    rw [← ab_sq]
    have := mul_le_mul_nn hy (Rat.le_trans hy hv) (ab_nonneg y) (by decide +kernel)
    grind
  by_cases hp : 0 ≤ x
  · left
    rw [ab_of_nonneg hp] at hx
    refine ⟨?_, by grind⟩
    rw [ab_le]
    constructor
    · have : (x - 1) * (x + 1) ≤ 2 * v * (x + 1) := by
        have := Rat.mul_nonneg hv0 hp
        grind
      exact Rat.le_of_mul_le_mul_right this (by grind)
    · have : (-(x - 1)) * (x + 1) ≤ 2 * v * (x + 1) := by
        have := Rat.mul_nonneg hv0 hp
        grind
      exact Rat.le_of_mul_le_mul_right this (by grind)
  · right
    have hn : x ≤ 0 := by grind
    rw [ab_of_neg hn] at hx
    have hvx := Rat.mul_nonneg hv0 (show 0 ≤ -x by grind)
    refine ⟨?_, by grind⟩
    rw [ab_le]
    constructor
    · have : (x + 1) * (1 - x) ≤ 2 * v * (1 - x) := by grind
      exact Rat.le_of_mul_le_mul_right this (by grind)
    · have : (-(x + 1)) * (1 - x) ≤ 2 * v * (1 - x) := by grind
      exact Rat.le_of_mul_le_mul_right this (by grind)

theorem eta_num {d1 d2 e1 e2 x1 x2 E : Rat} (h1 : ab d1 ≤ 1 / 1000) (h2 : ab d2 ≤ 1 / 1000) (hx1 : ab x1 ≤ E) (hx2 : ab x2 ≤ E) (q1 : x1 = e1 + (d1 * e1 - d2 * e2)) (q2 : x2 = e2 + (d1 * e2 + d2 * e1)) : ab e1 ≤ 2 * E ∧ ab e2 ≤ 2 * E := by
  have t1 := ab_mul_le h1 (Rat.le_refl (a := ab e1))
  have t2 := ab_mul_le h2 (Rat.le_refl (a := ab e2))
  have t3 := ab_mul_le h1 (Rat.le_refl (a := ab e2))
  have t4 := ab_mul_le h2 (Rat.le_refl (a := ab e1))
  have a1 := le_ab e1
  have a2 := le_ab e2
  have E0 := Rat.le_trans (ab_nonneg _) hx1
  have s1 : ab e1 ≤ E + (ab e1 + ab e2) * (1 / 1000) := by
    rw [ab_le] at *; constructor <;> grind
  have s2 : ab e2 ≤ E + (ab e1 + ab e2) * (1 / 1000) := by
    rw [ab_le] at *; constructor <;> grind
  constructor <;> grind

theorem rat_cancel {n a b : Rat} (hn : 0 < n) (h : n * a = n * b) : a = b := by
  have h1 : n * (a - b) = 0 := by grind
  rcases Rat.mul_eq_zero.1 h1 with h2 | h2 <;> grind
theorem cq_cancel {z a b : Cq} (hz : 0 < z.norm) (h : z.mul a = z.mul b) : a = b := by
  have h1 := congrArg Cq.re h
  have h2 := congrArg Cq.im h
  simp only [Cq.mul] at h1 h2
  have e1 : z.norm * a.re = z.re * (z.re * a.re - z.im * a.im) + z.im * (z.re * a.im + z.im * a.re) := by simp only [Cq.norm]; grind
  have e2 : z.norm * b.re = z.re * (z.re * b.re - z.im * b.im) + z.im * (z.re * b.im + z.im * b.re) := by simp only [Cq.norm]; grind
  have e3 : z.norm * a.im = z.re * (z.re * a.im + z.im * a.re) - z.im * (z.re * a.re - z.im * a.im) := by simp only [Cq.norm]; grind
  have e4 : z.norm * b.im = z.re * (z.re * b.im + z.im * b.re) - z.im * (z.re * b.re - z.im * b.im) := by simp only [Cq.norm]; grind
  exact Cq.ext' (rat_cancel hz (by rw [e1, e2, h1, h2])) (rat_cancel hz (by rw [e3, e4, h1, h2]))

/-- Two numbers whose squares are near one number are near, or opposite. -/
theorem Cn.roots {u v : Rat} {p q z : Cq} (h : Cn u (p.mul p) z) (h' : Cn v (q.mul q) z) (hu : u ≤ 1 / 1000) (hv : v ≤ 1 / 1000) (hz : 0 < z.norm) :
    Cn (4 * (u + v)) p q ∨ Cn (4 * (u + v)) p ⟨-q.re, -q.im⟩ := by
  have u0 := h.u0
  have v0 := h'.u0
  have hqn : 0 < q.norm := by
    obtain ⟨m, e, h1, h2⟩ := h'
    have hm : 0 < m.norm := by
      have : 0 < m.re := by rw [ab_le] at h1; grind
      simp only [Cq.norm]
      have := Rat.mul_pos this this
      have := sq_nonneg m.im
      grind
    have := congrArg Cq.norm e
    rw [norm_mul, norm_mul] at this
    have h3 := Rat.mul_pos hz hm
    rw [← this] at h3
    have h4 : 0 ≤ q.norm := by simp only [Cq.norm]; have := sq_nonneg q.re; have := sq_nonneg q.im; grind
    have h5 : q.norm ≠ 0 := fun h0 => by rw [h0] at h3; exact absurd h3 (by decide +kernel)
    grind
  -- the quotient of p and q
  have hne : q.norm ≠ 0 := (Rat.ne_of_lt hqn).symm
  have key : ∃ r : Cq, p = q.mul r := by
    refine ⟨⟨(p.re * q.re + p.im * q.im) / q.norm, (p.im * q.re - p.re * q.im) / q.norm⟩, ?_⟩
    have c1 : (p.re * q.re + p.im * q.im) / q.norm * q.norm = p.re * q.re + p.im * q.im := Rat.div_mul_cancel hne
    have c2 : (p.im * q.re - p.re * q.im) / q.norm * q.norm = p.im * q.re - p.re * q.im := Rat.div_mul_cancel hne
    generalize (p.re * q.re + p.im * q.im) / q.norm = m1 at c1
    generalize (p.im * q.re - p.re * q.im) / q.norm = m2 at c2
    apply Cq.ext' <;> simp only [Cq.mul]
    · have : p.re * q.norm = (q.re * m1 - q.im * m2) * q.norm := by
        have e1 : (q.re * m1 - q.im * m2) * q.norm = q.re * (m1 * q.norm) - q.im * (m2 * q.norm) := by grind
        rw [e1, c1, c2]; simp only [Cq.norm]; grind
      have := congrArg (· * (q.norm)⁻¹) this
      simp only [Rat.mul_assoc, Rat.mul_inv_cancel _ hne, Rat.mul_one] at this
      exact this
    · have : p.im * q.norm = (q.re * m2 + q.im * m1) * q.norm := by
        have e1 : (q.re * m2 + q.im * m1) * q.norm = q.re * (m2 * q.norm) + q.im * (m1 * q.norm) := by grind
        rw [e1, c1, c2]; simp only [Cq.norm]; grind
      have := congrArg (· * (q.norm)⁻¹) this
      simp only [Rat.mul_assoc, Rat.mul_inv_cancel _ hne, Rat.mul_one] at this
      exact this
  obtain ⟨r, er⟩ := key
  obtain ⟨m, e, h1, h2⟩ := h
  obtain ⟨n, e', h3, h4⟩ := h'
  -- n * r^2 = m
  have hrr : n.mul (r.mul r) = m := by
    have h5 : z.mul (n.mul (r.mul r)) = z.mul m := by
      rw [← e, er, Cq.mul_mul_mul, e', Cq.mul_assoc]
    exact cq_cancel hz h5
  have r1 := congrArg Cq.re hrr
  have r2 := congrArg Cq.im hrr
  simp only [Cq.mul] at r1 r2
  have E := eta_num (d1 := n.re - 1) (d2 := n.im) (e1 := r.re * r.re - r.im * r.im - 1) (e2 := r.re * r.im + r.im * r.re) (x1 := m.re - n.re) (x2 := m.im - n.im) (E := u + v)
    (Rat.le_trans h3 hv) (Rat.le_trans h4 hv) (by rw [ab_le] at *; constructor <;> grind) (by rw [ab_le] at *; constructor <;> grind) (by grind) (by grind)
  have e2' : r.re * r.im + r.im * r.re = 2 * (r.re * r.im) := by grind
  rw [e2'] at E
  rcases root_one E.1 E.2 (by grind) with hh | hh
  · left
    exact ⟨r, er, by have := hh.1; grind, by have := hh.2; grind⟩
  · right
    refine ⟨⟨-r.re, -r.im⟩, ?_, ?_, ?_⟩
    · rw [er]; apply Cq.ext' <;> simp only [Cq.mul] <;> grind
    · show ab (-r.re - 1) ≤ _
      rw [show -r.re - 1 = -(r.re + 1) by grind, ab_neg]; have := hh.1; grind
    · show ab (-r.im) ≤ _
      rw [ab_neg]; have := hh.2; grind
end Go.Proofs.Ytigckpmeppddcaa
