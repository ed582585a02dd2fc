/- Complex rationals that differ by a factor near 1 ('Cn'): products, chains, distances, norms; from absolute nearness. Multiplication by powers of two is exact. Plain: no program in sight. -/
import Derived.Test.YtigckpmeppddcaaGg
set_option linter.unusedVariables false
namespace Cx
open Ieee

/-- p is q times a factor within u of 1 in both parts. -/
def Cn (u : Rat) (p q : Cq) : Prop := ∃ m : Cq, p = q.mul m ∧ ab (m.re - 1) ≤ u ∧ ab m.im ≤ u

theorem Cn.u0 {u : Rat} {p q : Cq} (h : Cn u p q) : 0 ≤ u := by
  obtain ⟨m, _, _, h2⟩ := h
  exact Rat.le_trans (ab_nonneg _) h2
theorem Cn.mono {u v : Rat} {p q : Cq} (h : Cn u p q) (huv : u ≤ v) : Cn v p q := by
  obtain ⟨m, h0, h1, h2⟩ := h
  exact ⟨m, h0, Rat.le_trans h1 huv, Rat.le_trans h2 huv⟩
theorem Cn.refl (p : Cq) : Cn 0 p p := ⟨⟨1, 0⟩, (Cq.mul_one p).symm, by decide +kernel, by decide +kernel⟩

theorem near_mul {u v : Rat} {m n : Cq} (h1 : ab (m.re - 1) ≤ u) (h2 : ab m.im ≤ u) (h3 : ab (n.re - 1) ≤ v) (h4 : ab n.im ≤ v) :
    ab ((m.mul n).re - 1) ≤ u + v + 2 * (u * v) ∧ ab (m.mul n).im ≤ u + v + 2 * (u * v) := by
  have t1 := ab_mul_le h1 h3
  have t2 := ab_mul_le h2 h4
  have t3 := ab_mul_le h1 h4
  have t4 := ab_mul_le h2 h3
  rw [ab_le] at h1 h2 h3 h4 t1 t2 t3 t4
  simp only [Cq.mul]
  constructor <;> rw [ab_le] <;> constructor <;> grind

theorem Cn.mul {u v : Rat} {p q p' q' : Cq} (h : Cn u p q) (h' : Cn v p' q') : Cn (u + v + 2 * (u * v)) (p.mul p') (q.mul q') := by
  obtain ⟨m, e, h1, h2⟩ := h
  obtain ⟨n, e', h3, h4⟩ := h'
  refine ⟨m.mul n, by rw [e, e', Cq.mul_mul_mul], near_mul h1 h2 h3 h4⟩
theorem Cn.trans {u v : Rat} {p q r : Cq} (h : Cn u p q) (h' : Cn v q r) : Cn (u + v + 2 * (u * v)) p r := by
  obtain ⟨m, e, h1, h2⟩ := h
  obtain ⟨n, e', h3, h4⟩ := h'
  have := near_mul h3 h4 h1 h2
  refine ⟨n.mul m, by rw [e, e', Cq.mul_assoc], ?_, ?_⟩
  · exact Rat.le_trans this.1 (by grind)
  · exact Rat.le_trans this.2 (by grind)

theorem Cn.small {u : Rat} {p q : Cq} (h : Cn u p q) (hu : u ≤ 1 / 4) : ∃ m, p = q.mul m ∧ Small (2 * u) m := by
  have h0 := h.u0
  obtain ⟨m, e, h1, h2⟩ := h
  refine ⟨m, e, Small.of_slope (by grind) (by grind) (by rw [ab_le] at h1; grind) ?_⟩
  refine Rat.le_trans h2 ?_
  have h3 : 1 / 2 ≤ m.re := by rw [ab_le] at h1; grind
  have := Rat.mul_le_mul_of_nonneg_left h3 (show 0 ≤ 2 * u by grind)
  grind

theorem Cn.dist {u : Rat} {p q : Cq} (h : Cn u p q) : ab (p.re - q.re) ≤ u * (ab q.re + ab q.im) ∧ ab (p.im - q.im) ≤ u * (ab q.re + ab q.im) := by
  obtain ⟨m, e, h1, h2⟩ := h
  rw [e]
  simp only [Cq.mul]
  have t1 := ab_mul_le (Rat.le_refl (a := ab q.re)) h1
  have t2 := ab_mul_le (Rat.le_refl (a := ab q.im)) h2
  have t3 := ab_mul_le (Rat.le_refl (a := ab q.re)) h2
  have t4 := ab_mul_le (Rat.le_refl (a := ab q.im)) h1
  rw [ab_le] at t1 t2 t3 t4
  constructor <;> rw [ab_le] <;> constructor <;> grind

theorem norm_mul (a b : Cq) : (a.mul b).norm = a.norm * b.norm := by simp only [Cq.norm, Cq.mul]; grind

theorem Cn.norm {u : Rat} {p q : Cq} (h : Cn u p q) (hu : u ≤ 1 / 100) (hq : 0 < q.norm) : Rl (3 * u) p.norm q.norm := by
  have h0 := h.u0
  obtain ⟨m, e, h1, h2⟩ := h
  have t1 := ab_mul_le h1 h1
  have t2 := ab_mul_le h2 h2
  rw [ab_le] at h1 h2 t1 t2
  have s1 := sq_nonneg (m.re - 1)
  have s2 := sq_nonneg m.im
  have uu : u * u ≤ u * (1 / 100) := Rat.mul_le_mul_of_nonneg_left hu h0
  have lo : 1 - 2 * u ≤ m.norm := by simp only [Cq.norm]; grind
  have hi : m.norm ≤ 1 + 2 * u + 2 * (u * u) := by simp only [Cq.norm]; grind
  rw [e, norm_mul]
  refine ⟨by grind, by grind, hq, ?_, ?_⟩
  · have := Rat.mul_le_mul_of_nonneg_left lo (Rat.le_of_lt hq)
    have := Rat.mul_nonneg (Rat.le_of_lt hq) h0
    grind
  · have h3 := mul_le_mul_nn hi (show 1 - 3 * u ≤ 1 - 3 * u from Rat.le_refl) (by grind) (by grind)
    have uuu := Rat.mul_nonneg (Rat.mul_nonneg h0 h0) h0
    have h4 : m.norm * (1 - 3 * u) ≤ 1 := by
      have : (1 + 2 * u + 2 * (u * u)) * (1 - 3 * u) = 1 - u - 4 * (u * u) - 6 * (u * u * u) := by grind
      have := sq_nonneg u
      grind
    have := Rat.mul_le_mul_of_nonneg_left h4 (Rat.le_of_lt hq)
    grind

/-- From absolute nearness. -/
theorem Cn.of_close {u d : Rat} {p q : Cq} (h1 : ab (p.re - q.re) ≤ d) (h2 : ab (p.im - q.im) ≤ d) (hq : 0 < q.norm) (h : d * (ab q.re + ab q.im) ≤ u * q.norm) : Cn u p q := by
  have hne : q.norm ≠ 0 := (Rat.ne_of_lt hq).symm
  have c1 : (p.re * q.re + p.im * q.im) / q.norm * q.norm = p.re * q.re + p.im * q.im := Rat.div_mul_cancel hne
  have c2 : (p.im * q.re - p.re * q.im) / q.norm * q.norm = p.im * q.re - p.re * q.im := Rat.div_mul_cancel hne
  generalize (p.re * q.re + p.im * q.im) / q.norm = m1 at c1
  generalize (p.im * q.re - p.re * q.im) / q.norm = m2 at c2
  have t1 := ab_mul_le h1 (Rat.le_refl (a := ab q.re))
  have t2 := ab_mul_le h2 (Rat.le_refl (a := ab q.im))
  have t3 := ab_mul_le h2 (Rat.le_refl (a := ab q.re))
  have t4 := ab_mul_le h1 (Rat.le_refl (a := ab q.im))
  rw [ab_le] at t1 t2 t3 t4
  refine ⟨⟨m1, m2⟩, ?_, ?_, ?_⟩
  · apply Cq.ext' <;> simp only [Cq.mul]
    · have : p.re * q.norm = (q.re * m1 - q.im * m2) * q.norm := by
        have e1 : (q.re * m1 - q.im * m2) * q.norm = q.re * (m1 * q.norm) - q.im * (m2 * q.norm) := by grind
        rw [e1, c1, c2]; simp only [Cq.norm]; grind
      have := congrArg (· * (q.norm)⁻¹) this
      simp only [Rat.mul_assoc, Rat.mul_inv_cancel _ hne, Rat.mul_one] at this
      exact this
    · have : p.im * q.norm = (q.re * m2 + q.im * m1) * q.norm := by
        have e1 : (q.re * m2 + q.im * m1) * q.norm = q.re * (m2 * q.norm) + q.im * (m1 * q.norm) := by grind
        rw [e1, c1, c2]; simp only [Cq.norm]; grind
      have := congrArg (· * (q.norm)⁻¹) this
      simp only [Rat.mul_assoc, Rat.mul_inv_cancel _ hne, Rat.mul_one] at this
      exact this
  · refine Rat.le_of_mul_le_mul_right (Rat.le_trans ?_ h) hq
    rw [show ∀ z : Rat, ab z * q.norm = ab (z * q.norm) from fun z => by rw [ab_mul, ab_of_nonneg (Rat.le_of_lt hq)]]
    have e : (m1 - 1) * q.norm = (p.re - q.re) * q.re + (p.im - q.im) * q.im := by
      rw [show (m1 - 1) * q.norm = m1 * q.norm - q.norm by grind, c1]; simp only [Cq.norm]; grind
    show ab ((m1 - 1) * q.norm) ≤ _
    rw [e, ab_le]
    constructor <;> grind
  · refine Rat.le_of_mul_le_mul_right (Rat.le_trans ?_ h) hq
    rw [show ∀ z : Rat, ab z * q.norm = ab (z * q.norm) from fun z => by rw [ab_mul, ab_of_nonneg (Rat.le_of_lt hq)]]
    have e : m2 * q.norm = (p.im - q.im) * q.re - (p.re - q.re) * q.im := by
      rw [c2]; grind
    show ab (m2 * q.norm) ≤ _
    rw [e, ab_le]
    constructor <;> grind

theorem Cn.smul {u c : Rat} {p q : Cq} (h : Cn u p q) : Cn u (Cq.smul c p) (Cq.smul c q) := by
  obtain ⟨m, e, h1, h2⟩ := h
  refine ⟨m, ?_, h1, h2⟩
  rw [e]; apply Cq.ext' <;> simp only [Cq.mul, Cq.smul] <;> grind
theorem Cn.smul_eq {u c : Rat} {p q p' q' : Cq} (h : Cn u p q) (h1 : p' = Cq.smul c p) (h2 : q' = Cq.smul c q) : Cn u p' q' := by rw [h1, h2]; exact h.smul
theorem Ang.cn {p q : Cq} {a u v : Rat} (h : Ang q a u) (h' : Cn v p q) (hv : v ≤ 1 / 4) (hs : u + 2 * v ≤ 1) : Ang p a (u + 2 * v) := by
  obtain ⟨m, e, hm⟩ := h'.small hv
  rw [e]
  exact Ang.turn h hm hs

/-! ### Powers of two -/
theorem fin_parts {x : Nat} (h : fin x) : ∃ (m : Nat) (p : Int), ab (val x) = (m : Rat) * p2 p ∧ m < 9007199254740992 ∧ -1074 ≤ p := by
  have hf := (fin_iff x h.1).1 h
  unfold val
  rw [read_eq x h.1]
  split
  · exact ⟨_, _, ab_mval _ _ _, by omega, by decide⟩
  · exact ⟨_, _, ab_mval _ _ _, by omega, by omega⟩

/-- A multiplication by a power of two is exact, away from the ends. -/
theorem fmul_exact {x c : Nat} {k : Int} (hx : fin x) (hc : fin c) (vc : ab (val c) = p2 k) (h : val x = 0 ∨ (p2 (-300) ≤ ab (val x) ∧ ab (val x) ≤ p2 300)) (hk : -100 ≤ k ∧ k ≤ 100) :
    fin (fmul x c) ∧ val (fmul x c) = val x * val c ∧ neg (fmul x c) = (neg x ^^ neg c) := by
  have hab : ab (val x * val c) = ab (val x) * p2 k := by rw [ab_mul, vc]
  rcases h with h0 | ⟨h1, h2⟩
  · have hz : val x * val c = 0 := by rw [h0, Rat.zero_mul]
    obtain ⟨f, n, r⟩ := mul_rd hx hc (by rw [hz, ab_zero]; exact p2_pos _)
    exact ⟨f, r.exact 0 0 (by rw [hz]; decide +kernel) (by decide) (by decide), n⟩
  · obtain ⟨m, p, e, hm, hp⟩ := fin_parts hx
    have hpp : -353 ≤ p := by
      have h3 : (m : Rat) * p2 p ≤ p2 (53 + p) := by
        rw [p2_add]
        refine Rat.mul_le_mul_of_nonneg_right ?_ (Rat.le_of_lt (p2_pos p))
        have e53 : p2 53 = ((9007199254740992 : Nat) : Rat) := by rw [show (53 : Int) = ((53 : Nat) : Int) from rfl, p2_nat]
        rw [e53]; exact Rat.natCast_le_natCast.2 (by omega)
      rw [e] at h1
      have := le_of_p2_le (Rat.le_trans h1 h3)
      omega
    have hb : ab (val x * val c) < p2 1023 := by
      rw [hab]
      have h4 := Rat.mul_le_mul_of_nonneg_right h2 (Rat.le_of_lt (p2_pos k))
      rw [← p2_add] at h4
      have h5 := p2_lt (show 300 + k < 1023 by omega)
      grind
    obtain ⟨f, n, r⟩ := mul_rd hx hc hb
    refine ⟨f, r.exact m (p + k) ?_ (by omega) (by omega), n⟩
    rw [hab, e, p2_add]; grind
theorem fmul_exact' {x c : Nat} {k : Int} (hx : fin x) (hc : fin c) (vc : ab (val c) = p2 k) (h : val x = 0 ∨ (p2 (-300) ≤ ab (val x) ∧ ab (val x) ≤ p2 300)) (hk : -100 ≤ k ∧ k ≤ 100) :
    fin (fmul c x) ∧ val (fmul c x) = val c * val x ∧ neg (fmul c x) = (neg c ^^ neg x) := by
  have hab : ab (val c * val x) = ab (val x) * p2 k := by rw [ab_mul, vc]; grind
  rcases h with h0 | ⟨h1, h2⟩
  · have hz : val c * val x = 0 := by rw [h0, Rat.mul_zero]
    obtain ⟨f, n, r⟩ := mul_rd hc hx (by rw [hz, ab_zero]; exact p2_pos _)
    exact ⟨f, r.exact 0 0 (by rw [hz]; decide +kernel) (by decide) (by decide), n⟩
  · obtain ⟨m, p, e, hm, hp⟩ := fin_parts hx
    have hpp : -353 ≤ p := by
      have h3 : (m : Rat) * p2 p ≤ p2 (53 + p) := by
        rw [p2_add]
        refine Rat.mul_le_mul_of_nonneg_right ?_ (Rat.le_of_lt (p2_pos p))
        have e53 : p2 53 = ((9007199254740992 : Nat) : Rat) := by rw [show (53 : Int) = ((53 : Nat) : Int) from rfl, p2_nat]
        rw [e53]; exact Rat.natCast_le_natCast.2 (by omega)
      rw [e] at h1
      have := le_of_p2_le (Rat.le_trans h1 h3)
      omega
    have hb : ab (val c * val x) < p2 1023 := by
      rw [hab]
      have h4 := Rat.mul_le_mul_of_nonneg_right h2 (Rat.le_of_lt (p2_pos k))
      rw [← p2_add] at h4
      have h5 := p2_lt (show 300 + k < 1023 by omega)
      grind
    obtain ⟨f, n, r⟩ := mul_rd hc hx hb
    refine ⟨f, r.exact m (p + k) ?_ (by omega) (by omega), n⟩
    rw [hab, e, p2_add]; grind
end Cx
