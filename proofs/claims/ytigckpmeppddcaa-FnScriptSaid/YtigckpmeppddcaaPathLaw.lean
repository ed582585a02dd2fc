/- The way along points is not shorter than the straight way, as it is reckoned in doubles. Plain but for the words' names. -/
import Derived.Test.YtigckpmeppddcaaPr
set_option linter.unusedVariables false
namespace Go.Proofs.Ytigckpmeppddcaa
open Cx

/-- The way up to point j, as words. -/
def ww (X Y : Nat → Nat) : Nat → Nat
  | 0 => 0
  | j + 1 => fadd (ww X Y j) (fhypt (fsub (X (j + 1)) (X j)) (fsub (Y (j + 1)) (Y j)))

/-- Differences of whole parts. -/
theorem diff_ok {x y u v : Nat} (hx : Whl x 1048576) (hy : Whl y 1048576) (hu : Whl u 1048576) (hv : Whl v 1048576) :
    fin (fsub x u) ∧ fin (fsub y v) ∧ HyptIs (fsub x u) (fsub y v) (iv x - iv u) (iv y - iv v) ∧ HypOk (fsub x u) (fsub y v) := by
  obtain ⟨fx, vx, bx⟩ := hx.iv
  obtain ⟨fy, vy, by'⟩ := hy.iv
  obtain ⟨fu, vu, bu⟩ := hu.iv
  obtain ⟨fv, vv, bv⟩ := hv.iv
  have bx : (iv x).natAbs ≤ 1048576 := bx
  have by' : (iv y).natAbs ≤ 1048576 := by'
  have bu : (iv u).natAbs ≤ 1048576 := bu
  have bv : (iv v).natAbs ≤ 1048576 := bv
  obtain ⟨f1, v1⟩ := fsub_int fx fu vx vu (by omega)
  obtain ⟨f2, v2⟩ := fsub_int fy fv vy vv (by omega)
  have H := hypt_int f1 f2 v1 v2 (by omega) (by omega)
  exact ⟨f1, f2, H, f1, f2, H.ok⟩

/-- Lengths near from below: k|D| is at most W. -/
theorem tri_step {k W h Dx Dy dx dy : Rat} (hk : 0 ≤ k) (hW : 0 ≤ W) (hh : 0 ≤ h) (h1 : k * k * (Dx * Dx + Dy * Dy) ≤ W * W) (h2 : k * k * (dx * dx + dy * dy) ≤ h * h) :
    k * k * ((Dx + dx) * (Dx + dx) + (Dy + dy) * (Dy + dy)) ≤ (W + h) * (W + h) := by
  have hkk := Rat.mul_nonneg hk hk
  have hD : 0 ≤ Dx * Dx + Dy * Dy := by have := sq_nonneg Dx; have := sq_nonneg Dy; grind
  have hd : 0 ≤ dx * dx + dy * dy := by have := sq_nonneg dx; have := sq_nonneg dy; grind
  have hWh := Rat.mul_nonneg hW hh
  -- (k k (D.d))^2 <= (W h)^2
  have p1 : (k * k * (Dx * Dx + Dy * Dy)) * (k * k * (dx * dx + dy * dy)) ≤ (W * W) * (h * h) :=
    mul_le_mul_nn h1 h2 (Rat.mul_nonneg hkk hD) (sq_nonneg h)
  have p2 : (k * k * (Dx * dx + Dy * dy)) * (k * k * (Dx * dx + Dy * dy)) ≤ (k * k * (Dx * Dx + Dy * Dy)) * (k * k * (dx * dx + dy * dy)) := by
    have e := Rat.mul_nonneg (Rat.mul_nonneg hkk hkk) (sq_nonneg (Dx * dy - Dy * dx))
    grind
  have p3 : k * k * (Dx * dx + Dy * dy) ≤ W * h := by
    refine le_of_sq_le hWh ?_
    grind
  grind

/-- What is known of the way up to point j. -/
structure WayOk (X Y : Nat → Nat) (j : Nat) : Prop where
  f : fin (ww X Y j)
  nn : 0 ≤ val (ww X Y j)
  size : val (ww X Y j) = 0 ∨ Cx.p2 (-(2 * (j : Int))) ≤ val (ww X Y j)
  le : val (ww X Y j) ≤ j * 9223372036854775808
  far : (1 - (10 + (j : Rat)) * eps) * (1 - (10 + (j : Rat)) * eps) * (((iv (X j) - iv (X 0) : Int) : Rat) * ((iv (X j) - iv (X 0) : Int) : Rat) + ((iv (Y j) - iv (Y 0) : Int) : Rat) * ((iv (Y j) - iv (Y 0) : Int) : Rat)) ≤ val (ww X Y j) * val (ww X Y j)

theorem way_zero (X Y : Nat → Nat) : WayOk X Y 0 := by
  have e : ww X Y 0 = 0 := rfl
  refine ⟨by rw [e]; exact fin_zero, by rw [e, val_zero]; exact Rat.le_refl, Or.inl (by rw [e, val_zero]), by rw [e, val_zero]; decide +kernel, ?_⟩
  have e1 : iv (X 0) - iv (X 0) = 0 := by omega
  have e2 : iv (Y 0) - iv (Y 0) = 0 := by omega
  have z : ((0 : Int) : Rat) = 0 := rfl
  rw [e, val_zero, e1, e2, z]
  grind

theorem kk_le {k l : Rat} (hl : 0 ≤ l) (h : l ≤ k) : l * l ≤ k * k := mul_le_mul_nn h h hl (by grind)

theorem jb {j : Nat} (h : j < 200) : (0 : Rat) ≤ j ∧ (j : Rat) ≤ 200 := ⟨Rat.natCast_nonneg, by have := Rat.natCast_le_natCast.2 (show j ≤ 200 by omega); exact this⟩

theorem far_step {j W g W' Dx Dy dx dy : Rat} (k0 : 0 ≤ 1 - (10 + j) * eps) (k1 : 1 - (10 + j) * eps ≤ 1 - 10 * eps) (k2 : 0 ≤ 1 - (10 + (j + 1)) * eps) (hW : 0 ≤ W) (hg : 0 ≤ g)
    (hfar : (1 - (10 + j) * eps) * (1 - (10 + j) * eps) * (Dx * Dx + Dy * Dy) ≤ W * W) (hn : (dx * dx + dy * dy) * (1 - 10 * eps) ≤ g * g) (hnp : 0 ≤ dx * dx + dy * dy) (hr : (W + g) * (1 - eps) ≤ W') (e1 : 0 ≤ 1 - eps) :
    (1 - (10 + (j + 1)) * eps) * (1 - (10 + (j + 1)) * eps) * ((Dx + dx) * (Dx + dx) + (Dy + dy) * (Dy + dy)) ≤ W' * W' := by
  have ep := eps_pos
  generalize hk : 1 - (10 + j) * eps = k at *
  have hk2 : 1 - (10 + (j + 1)) * eps = k - eps := by rw [← hk]; grind
  rw [hk2] at k2 ⊢
  have kle : k ≤ 1 := by grind
  have kk : k * k ≤ 1 - 10 * eps := by
    have := Rat.mul_le_mul_of_nonneg_left kle k0
    grind
  have h2 : k * k * (dx * dx + dy * dy) ≤ g * g := by
    have := Rat.mul_le_mul_of_nonneg_right kk hnp
    grind
  have t := tri_step k0 hW hg hfar h2
  have hS : 0 ≤ (W + g) * (1 - eps) := Rat.mul_nonneg (by grind) e1
  have s1 := mul_le_mul_nn hr hr hS (by grind)
  have hD : 0 ≤ (Dx + dx) * (Dx + dx) + (Dy + dy) * (Dy + dy) := by have := sq_nonneg (Dx + dx); have := sq_nonneg (Dy + dy); grind
  have t2 := Rat.mul_le_mul_of_nonneg_right t (Rat.mul_nonneg e1 e1)
  have c : (k - eps) * (k - eps) ≤ (k * (1 - eps)) * (k * (1 - eps)) := by
    apply kk_le k2
    have := Rat.mul_le_mul_of_nonneg_right kle (Rat.le_of_lt ep)
    grind
  have c2 := Rat.mul_le_mul_of_nonneg_right c hD
  generalize (Dx + dx) * (Dx + dx) + (Dy + dy) * (Dy + dy) = D at *
  have e3 : k * (1 - eps) * (k * (1 - eps)) * D = k * k * D * ((1 - eps) * (1 - eps)) := by grind
  have e4 : (W + g) * (1 - eps) * ((W + g) * (1 - eps)) = (W + g) * (W + g) * ((1 - eps) * (1 - eps)) := by grind
  rw [e3] at c2
  rw [e4] at s1
  exact Rat.le_trans c2 (Rat.le_trans t2 s1)

theorem way_step {X Y : Nat → Nat} {n : Nat} (h : AllW X Y n 1048576) {j : Nat} (hj : j + 1 < n) (hn : n ≤ 200) (ih : WayOk X Y j) : WayOk X Y (j + 1) := by
  obtain ⟨q1, q2, _⟩ := h (j + 1) hj
  obtain ⟨r1, r2, _⟩ := h j (by omega)
  obtain ⟨f1, f2, H, HO⟩ := diff_ok q1 q2 r1 r2
  obtain ⟨j0, j1⟩ := jb (show j < 200 by omega)
  have e4 : ((j + 1 : Nat) : Rat) = (j : Rat) + 1 := by rw [Rat.natCast_add]; rfl
  generalize hh : fhypt (fsub (X (j + 1)) (X j)) (fsub (Y (j + 1)) (Y j)) = g at H
  have hg : ww X Y (j + 1) = fadd (ww X Y j) g := by rw [← hh]; rfl
  obtain ⟨_, Hf, Hnn, Hn, Hle, Hge, Hz⟩ := H
  rw [hh] at Hf Hnn Hn Hle Hge Hz
  have s0 : 0 ≤ val (ww X Y j) + val g := by have := ih.nn; grind
  have sle : val (ww X Y j) + val g ≤ ((j : Rat) + 1) * 4611686018427387904 + (j : Rat) * 4611686018427387904 := by
    have := ih.le; grind
  have hbig : ab (val (ww X Y j) + val g) < Cx.p2 1023 := by
    rw [ab_of_nonneg s0]
    have t1 := p2_lt (show 80 < 1023 by decide)
    have t2 : Cx.p2 80 = 1208925819614629174706176 := by decide +kernel
    have t3 := Rat.mul_le_mul_of_nonneg_right j1 (show (0 : Rat) ≤ 4611686018427387904 by decide)
    grind
  have hsz : val (ww X Y j) + val g = 0 ∨ Cx.p2 (-(2 * (j : Int))) * (1 / 2) ≤ val (ww X Y j) + val g := by
    have hp := p2_pos (-(2 * (j : Int)))
    have hp1 : Cx.p2 (-(2 * (j : Int))) ≤ 1 := by rw [← p2_zero]; exact p2_mono (by omega)
    by_cases hd : iv (X (j + 1)) - iv (X j) = 0 ∧ iv (Y (j + 1)) - iv (Y j) = 0
    · have hz := Hz hd
      rcases ih.size with h0 | h0
      · left; rw [h0, hz]; decide +kernel
      · right; rw [hz]; grind
    · right
      have := Hge hd
      have := ih.nn
      grind
  obtain ⟨a1, a2⟩ := add_rd ih.f Hf hbig
  rw [← hg] at a1 a2
  have half : Cx.p2 (-(2 * (j : Int))) * (1 / 2) = Cx.p2 (-(2 * (j : Int) + 1)) := by
    rw [show (1 : Rat) / 2 = Cx.p2 (-1) from half_p2, ← p2_add]; congr 1; omega
  have half2 : Cx.p2 (-(2 * (j : Int))) * (1 / 2) = Cx.p2 (-(2 * ((j + 1 : Nat) : Int))) * 2 := by
    rw [half, ← p2_succ]; congr 1 <;> omega
  have rz : Rz eps (val (ww X Y (j + 1))) (val (ww X Y j) + val g) := by
    refine a2.rz ?_
    rcases hsz with h0 | h0
    · exact Or.inl h0
    · right
      rw [half] at h0
      exact Rat.le_trans (p2_mono (by omega)) h0
  have hnn := ih.nn
  have hle := ih.le
  have hfar := ih.far
  obtain ⟨ru0, ru1, rp, rlo, rhi⟩ := rz
  have he := eps_val
  refine ⟨a1, ?_, ?_, ?_, ?_⟩
  · rw [he] at rlo; grind
  · rcases hsz with h0 | h0
    · left
      have : val (ww X Y (j + 1)) = val (ww X Y j) + val g := a2.exact 0 0 (by rw [h0]; decide +kernel) (by decide) (by decide)
      rw [this, h0]
    · right
      rw [half2] at h0
      have hp := p2_pos (-(2 * ((j + 1 : Nat) : Int)))
      rw [he] at rlo
      grind
  · rw [e4]
    rw [he] at rhi
    grind
  · rw [e4]
    have k0 : 0 ≤ 1 - (10 + (j : Rat)) * eps := by rw [he]; grind
    have k1 : 1 - (10 + (j : Rat)) * eps ≤ 1 - 10 * eps := by rw [he]; grind
    have k2 : 0 ≤ 1 - (10 + ((j : Rat) + 1)) * eps := by rw [he]; grind
    have ex : iv (X (j + 1)) - iv (X 0) = (iv (X j) - iv (X 0)) + (iv (X (j + 1)) - iv (X j)) := by omega
    have ey : iv (Y (j + 1)) - iv (Y 0) = (iv (Y j) - iv (Y 0)) + (iv (Y (j + 1)) - iv (Y j)) := by omega
    rw [ex, ey, Rat.intCast_add (iv (X j) - iv (X 0)), Rat.intCast_add (iv (Y j) - iv (Y 0))]
    have hnlo := Hn.lo
    have hnpos := Hn.pos
    rw [Rat.intCast_add, Rat.intCast_mul, Rat.intCast_mul] at hnlo hnpos
    generalize ((iv (X j) - iv (X 0) : Int) : Rat) = Dx at *
    generalize ((iv (Y j) - iv (Y 0) : Int) : Rat) = Dy at *
    generalize ((iv (X (j + 1)) - iv (X j) : Int) : Rat) = dx at *
    generalize ((iv (Y (j + 1)) - iv (Y j) : Int) : Rat) = dy at *
    exact far_step k0 k1 k2 hnn Hnn hfar hnlo hnpos rlo (by rw [he]; decide +kernel)

theorem way_ok {X Y : Nat → Nat} {n : Nat} (h : AllW X Y n 1048576) (hn : n ≤ 200) : ∀ j, j < n → WayOk X Y j
  | 0, _ => way_zero X Y
  | j + 1, hj => way_step h hj hn (way_ok h hn j (by omega))

/-- 1 and 2^-40. -/
def onePart : Nat := 4607182418800021504
theorem fin_onePart : fin onePart := fin_of _ (by decide)
theorem val_onePart : val onePart = 1 + 1 / 1099511627776 := by decide +kernel

structure PathEnd (X Y : Nat → Nat) (N : Nat) : Prop where
  f1 : fin (fsub (X N) (X 0))
  f2 : fin (fsub (Y N) (Y 0))
  hyp : HypOk (fsub (X N) (X 0)) (fsub (Y N) (Y 0))
  fs : fin (fhypt (fsub (X N) (X 0)) (fsub (Y N) (Y 0)))
  fw : fin (ww X Y N)
  fm : fin (fmul (ww X Y N) onePart)
  le : val (fhypt (fsub (X N) (X 0)) (fsub (Y N) (Y 0))) ≤ val (fmul (ww X Y N) onePart)
  zero : (val (fhypt (fsub (X N) (X 0)) (fsub (Y N) (Y 0))) = val 0) ↔ (val (X N) = val (X 0) ∧ val (Y N) = val (Y 0))

theorem end_aux {k W S D : Rat} (hk : 1 - 210 / 4503599627370496 ≤ k) (hW : 0 ≤ W) (hD : 0 ≤ D) (h1 : k * k * D ≤ W * W) (h2 : S * S * (1 - 10 / 4503599627370496) ≤ D) : S ≤ W * (1 + 1 / 2199023255552) := by
  refine le_of_sq_le (Rat.mul_nonneg hW (by decide +kernel)) ?_
  have hkk : (1 - 210 / 4503599627370496) * (1 - 210 / 4503599627370496) ≤ k * k := kk_le (by decide +kernel) hk
  have h3 := Rat.le_trans (Rat.mul_le_mul_of_nonneg_right hkk hD) h1
  have hSS := sq_nonneg S
  generalize S * S = s at *
  have h4 := Rat.mul_le_mul_of_nonneg_left h2 (show (0 : Rat) ≤ (1 - 210 / 4503599627370496) * (1 - 210 / 4503599627370496) by decide +kernel)
  have h5 := Rat.mul_le_mul_of_nonneg_right (Rat.le_trans h4 h3) (show (0 : Rat) ≤ (1 + 1 / 2199023255552) * (1 + 1 / 2199023255552) by decide +kernel)
  have h6 := Rat.mul_le_mul_of_nonneg_right (show (1 : Rat) ≤ (1 - 210 / 4503599627370496) * (1 - 210 / 4503599627370496) * (1 - 10 / 4503599627370496) * ((1 + 1 / 2199023255552) * (1 + 1 / 2199023255552)) by decide +kernel) hSS
  generalize hc1 : (1 - 210 / 4503599627370496 : Rat) * (1 - 210 / 4503599627370496) = c1 at *
  generalize hc2 : (1 - 10 / 4503599627370496 : Rat) = c2 at *
  generalize hc3 : (1 + 1 / 2199023255552 : Rat) = c3 at *
  have e1 : c1 * (s * c2) * (c3 * c3) = c1 * c2 * (c3 * c3) * s := by grind
  have e2 : W * W * (c3 * c3) = W * c3 * (W * c3) := by grind
  rw [e1, e2] at h5
  rw [Rat.one_mul] at h6
  exact Rat.le_trans h6 h5

theorem path_end {X Y : Nat → Nat} {n : Nat} (h : AllW X Y n 1048576) (hn : n ≤ 200) {N : Nat} (hN : N < n) : PathEnd X Y N := by
  obtain ⟨q1, q2, _⟩ := h N hN
  obtain ⟨r1, r2, _⟩ := h 0 (by omega)
  obtain ⟨f1, f2, H, HO⟩ := diff_ok q1 q2 r1 r2
  have W := way_ok h hn N hN
  obtain ⟨j0, j1⟩ := jb (show N < 200 by omega)
  have he := eps_val
  have hnn := W.nn
  have hle := W.le
  have hs0 := Rat.mul_nonneg hnn (show (0 : Rat) ≤ 1 + 1 / 1099511627776 by decide +kernel)
  have hbig : ab (val (ww X Y N) * (1 + 1 / 1099511627776)) < Cx.p2 1023 := by
    rw [ab_of_nonneg hs0]
    have t1 := p2_lt (show 80 < 1023 by decide)
    have t2 : Cx.p2 80 = 1208925819614629174706176 := by decide +kernel
    have t3 := Rat.mul_le_mul_of_nonneg_right j1 (show (0 : Rat) ≤ 9223372036854775808 by decide)
    grind
  have m := mul_rd W.f fin_onePart (by rw [val_onePart]; exact hbig)
  rw [val_onePart] at m
  obtain ⟨m1, _, m3⟩ := m
  have rz : Rz eps (val (fmul (ww X Y N) onePart)) (val (ww X Y N) * (1 + 1 / 1099511627776)) := by
    refine m3.rz ?_
    rcases W.size with h0 | h0
    · left; rw [h0]; decide +kernel
    · right
      have t1 := p2_mono (show (-1022 : Int) ≤ -(2 * (N : Int)) by omega)
      grind
  have hk : 1 - 210 / 4503599627370496 ≤ 1 - (10 + (N : Rat)) * eps := by rw [he]; grind
  have hfar := W.far
  have hhi := H.near.hi
  have hpos := H.near.pos
  rw [Rat.intCast_add, Rat.intCast_mul, Rat.intCast_mul] at hhi hpos
  have e10 : 10 * eps = 10 / 4503599627370496 := by rw [he]; decide +kernel
  rw [e10] at hhi
  have key := end_aux hk hnn hpos hfar hhi
  have rlo := rz.lo
  rw [he] at rlo
  refine ⟨f1, f2, HO, H.fh, W.f, m1, by grind, ?_⟩
  obtain ⟨_, vx, _⟩ := q1.iv
  obtain ⟨_, vy, _⟩ := q2.iv
  obtain ⟨_, vx0, _⟩ := r1.iv
  obtain ⟨_, vy0, _⟩ := r2.iv
  rw [vx, vy, vx0, vy0, val_zero, Rat.intCast_inj, Rat.intCast_inj]
  constructor
  · intro h0
    by_cases hd : iv (X N) - iv (X 0) = 0 ∧ iv (Y N) - iv (Y 0) = 0
    · exact ⟨by omega, by omega⟩
    · have := H.ge hd
      rw [h0] at this
      exact absurd this (by decide +kernel)
  · intro hd
    exact H.zero ⟨by omega, by omega⟩
end Go.Proofs.Ytigckpmeppddcaa
