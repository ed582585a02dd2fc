/- The angle of 1 + i t is near the arctangent's Taylor polynomial, and near the library's rational function, for |t| at most 0.67. Plain: no program in sight. -/
import Derived.Test.YtigckpmeppddcaaGc
set_option linter.unusedVariables false
namespace Cx
open Cq

/-- A function whose differences are near those of the arctangent. -/
structure AtanLike (F : Rat → Rat) (r e M : Rat) : Prop where
  e0 : 0 ≤ e
  M0 : 0 ≤ M
  r0 : 0 ≤ r
  r1 : r ≤ 1
  zero : F 0 = 0
  le : ∀ t, 0 ≤ t → t ≤ r → ab (F t) ≤ 60
  diff : ∀ s t q, 0 ≤ s → s ≤ t → t ≤ r → q * (1 + s * t) = t - s → ab (F t - F s - q) ≤ e * (t - s) + M * ((t - s) * (t - s))

theorem steps {F : Rat → Rat} {r e M h : Rat} (L : AtanLike F r e M) (hh : 0 ≤ h) (hh1 : h ≤ 1) : ∀ k : Nat, (k : Rat) * h ≤ r → (k : Rat) * (e * h + M * (h * h) + h * (h * h) + 2 * mu) ≤ 1 →
    Ang ⟨1, (k : Rat) * h⟩ (F ((k : Rat) * h)) ((k : Rat) * (e * h + M * (h * h) + h * (h * h) + 2 * mu))
  | 0, _, _ => by
    have z : ((0 : Nat) : Rat) = 0 := rfl
    have e1 : ((0 : Nat) : Rat) * h = 0 := by rw [z]; grind
    have e2 : ((0 : Nat) : Rat) * (e * h + M * (h * h) + h * (h * h) + 2 * mu) = 0 := by rw [z]; grind
    rw [e1, e2, L.zero]
    have := ang_one (d := 0) (by decide +kernel)
    rw [ab_zero] at this; exact this
  | k + 1, hk, hd => by
    have ek : ((k + 1 : Nat) : Rat) = (k : Rat) + 1 := by rw [Rat.natCast_add]; rfl
    rw [ek] at hk hd ⊢
    have k0 : (0 : Rat) ≤ k := Rat.natCast_nonneg
    have mp := mu_pos
    have kh := Rat.mul_nonneg k0 hh
    have hhh := Rat.mul_nonneg hh hh
    have hhhh := Rat.mul_nonneg hh hhh
    have eh := Rat.mul_nonneg L.e0 hh
    have Mh := Rat.mul_nonneg L.M0 hhh
    have hd2 : 0 ≤ (e * h + M * (h * h) + h * (h * h) + 2 * mu) := by grind
    have ih := steps L hh hh1 k (by grind) (by grind)
    have e1 : ((k : Rat) + 1) * h = (k : Rat) * h + h := by grind
    rw [e1] at hk ⊢
    generalize (k : Rat) * h = s at *
    have st : 0 ≤ s * (s + h) := Rat.mul_nonneg kh (by grind)
    have hpos : 0 < 1 + s * (s + h) := by grind
    have hne : 1 + s * (s + h) ≠ 0 := (Rat.ne_of_lt hpos).symm
    obtain ⟨q, hq⟩ : ∃ q, q * (1 + s * (s + h)) = s + h - s := ⟨(s + h - s) / (1 + s * (s + h)), Rat.div_mul_cancel hne⟩
    have hq' : q * (1 + s * (s + h)) = h := by rw [hq]; grind
    have q0 : 0 ≤ q := by
      by_cases hc : 0 ≤ q
      · exact hc
      · have := Rat.mul_pos (show 0 < -q by grind) hpos; grind
    have qh : q ≤ h := by
      have := Rat.mul_nonneg q0 st; grind
    have hdf := L.diff s (s + h) q kh (by grind) hk hq
    rw [show s + h - s = h by grind] at hdf
    have hle := L.le s kh (by grind)
    have hqqq : q * (q * q) ≤ h * (h * h) := mul_le_mul_nn qh (mul_le_mul_nn qh qh q0 hh) q0 hhh
    have hsum : (k : Rat) * (e * h + M * (h * h) + h * (h * h) + 2 * mu) + q * (q * q) + ab (F (s + h) - F s - q) + 2 * mu ≤ ((k : Rat) + 1) * (e * h + M * (h * h) + h * (h * h) + 2 * mu) := by grind
    have kd := Rat.mul_nonneg k0 hd2
    have hab1 : ab (F (s + h) - F s - q) ≤ 1 := by
      generalize (k : Rat) * (e * h + M * (h * h) + h * (h * h) + 2 * mu) = z at *
      generalize ab (F (s + h) - F s - q) = y at *
      have hx0 : 0 ≤ q * (q * q) := Rat.mul_nonneg q0 (Rat.mul_nonneg q0 q0)
      generalize q * (q * q) = x at *
      grind
    have := ang_step (b := F (s + h)) ih hpos hq (by rw [ab_of_nonneg q0]; grind) hle hab1 (by rw [ab_of_nonneg q0]; exact Rat.le_trans hsum hd)
    rw [ab_of_nonneg q0] at this
    exact this.mono hsum hd

/-- With very many steps. -/
theorem ang_of_like {F : Rat → Rat} {r e M t : Rat} (L : AtanLike F r e M) (he : e ≤ 1 / 2) (hM : M ≤ 1208925819614629174706176) (h0 : 0 ≤ t) (h1 : t ≤ r) : Ang ⟨1, t⟩ (F t) (e + 1 / 1237940039285380274899124224) := by
  generalize hm : (1606938044258990275541962092341162602522202993782792835301376 : Nat) = m
  have hmr : ((m : Nat) : Rat) = 1606938044258990275541962092341162602522202993782792835301376 := by rw [← hm]; rfl
  have mpos : (0 : Rat) < (m : Rat) := by rw [hmr]; decide
  have mne : (m : Rat) ≠ 0 := (Rat.ne_of_lt mpos).symm
  have ht1 : t ≤ 1 := Rat.le_trans h1 L.r1
  obtain ⟨h, hh⟩ : ∃ h, h = t / (m : Rat) := ⟨_, rfl⟩
  have hmh : (m : Rat) * h = t := by rw [hh, Rat.mul_comm]; exact Rat.div_mul_cancel mne
  have hh0 : 0 ≤ h := by rw [hh]; exact div_nonneg h0 mpos
  have hle : h * 1606938044258990275541962092341162602522202993782792835301376 ≤ 1 := by rw [← hmr]; grind
  have hh1 : h ≤ 1 / 1606938044258990275541962092341162602522202993782792835301376 := by
    have : ¬ (1 / 1606938044258990275541962092341162602522202993782792835301376 < h) := by rw [Rat.div_lt_iff (by decide)]; grind
    grind
  have hb : (m : Rat) * (e * h + M * (h * h) + h * (h * h) + 2 * mu) ≤ e + 1 / 1237940039285380274899124224 := by
    have e1 : (m : Rat) * (e * h + M * (h * h) + h * (h * h) + 2 * mu) = e * ((m : Rat) * h) + M * h * ((m : Rat) * h) + h * h * ((m : Rat) * h) + 2 * ((m : Rat) * mu) := by grind
    rw [e1, hmh]
    have a1 : e * t ≤ e := by have := Rat.mul_le_mul_of_nonneg_left ht1 L.e0; grind
    have a2 : M * h * t ≤ 1208925819614629174706176 * (1 / 1606938044258990275541962092341162602522202993782792835301376) := by
      have b1 := mul_le_mul_nn hM hh1 L.M0 (by decide +kernel)
      have b2 := Rat.mul_le_mul_of_nonneg_left ht1 (Rat.mul_nonneg L.M0 hh0)
      grind
    have a3 : h * h * t ≤ 1 / 1606938044258990275541962092341162602522202993782792835301376 * (1 / 1606938044258990275541962092341162602522202993782792835301376) := by
      have b1 := mul_le_mul_nn hh1 hh1 hh0 (by decide +kernel)
      have b2 := Rat.mul_le_mul_of_nonneg_left ht1 (Rat.mul_nonneg hh0 hh0)
      grind
    have a4 : 1208925819614629174706176 * (1 / 1606938044258990275541962092341162602522202993782792835301376 : Rat) + 1 / 1606938044258990275541962092341162602522202993782792835301376 * (1 / 1606938044258990275541962092341162602522202993782792835301376) + 2 * (1606938044258990275541962092341162602522202993782792835301376 * mu) ≤ 1 / 1237940039285380274899124224 := by decide +kernel
    rw [hmr]
    grind
  have hc : e + 1 / 1237940039285380274899124224 ≤ 1 := by
    have : (1 : Rat) / 1237940039285380274899124224 ≤ 1 / 2 := by decide +kernel
    grind
  have := steps L hh0 (Rat.le_trans hh1 (by decide +kernel)) m (by rw [hmh]; exact h1) (Rat.le_trans hb hc)
  rw [hmh] at this
  exact this.mono hb hc

/-! ### The Taylor polynomial -/
def atl : Nat → Nat → Rat → List Rat
  | 0, _, _ => []
  | n + 1, k, s => 0 :: (s / ((2 * k + 1 : Nat) : Rat)) :: atl n (k + 1) (-s)
def asl : Nat → Nat → Rat → List Rat
  | 0, _, _ => []
  | n + 1, k, s => (s / ((2 * k + 1 : Nat) : Rat)) :: asl n (k + 1) (-s)
theorem ev_atl (t : Rat) : ∀ (n k : Nat) (s : Rat), ev (atl n k s) t = t * ev (asl n k s) (t * t)
  | 0, _, _ => by simp only [atl, asl, ev]; grind
  | n + 1, k, s => by simp only [atl, asl, ev]; rw [ev_atl t n (k + 1) (-s)]; grind
def TL : List Rat := atl 46 0 1
def SL : List Rat := asl 46 0 1
/-- (1 + x x) T'(x), without its first coefficient. -/
def EL : List Rat := (padd (dv TL) (0 :: 0 :: dv TL)).tail
theorem EL_head : padd (dv TL) (0 :: 0 :: dv TL) = 1 :: EL := by decide +kernel
theorem EL_bnd : 67 / 100 * bnd EL (67 / 100) ≤ 1 / 1125899906842624 := by decide +kernel
theorem TL_mv : mv TL ≤ 1048576 := by decide +kernel
theorem TL_bnd : bnd TL 1 ≤ 60 := by decide +kernel

theorem diff_aux {s t q D W : Rat} (hs : 0 ≤ s) (hst : s ≤ t) (ht : t ≤ 1) (hq : q * (1 + s * t) = t - s) (hr : ab (W - (t - s) * D) ≤ 1048576 * ((t - s) * (t - s))) (hD : ab (D * (1 + s * s) - 1) ≤ 1 / 1125899906842624) :
    ab (W - q) ≤ 1 / 281474976710656 * (t - s) + 1048577 * ((t - s) * (t - s)) := by
  have hd : 0 ≤ t - s := by grind
  generalize hh : t - s = d at *
  have et : t = s + d := by grind
  subst et
  have ss := sq_nonneg s
  have sd := Rat.mul_nonneg hs hd
  have p1 : 0 < 1 + s * s := by grind
  have p2 : 0 < 1 + s * (s + d) := by grind
  have stle : s * (s + d) ≤ 1 := by
    have := mul_le_mul_nn (show s ≤ 1 by grind) ht hs (by decide); grind
  -- (d D - q)(1 + s s)(1 + s t) = d (eta (1 + s t) + s d)
  have key : (d * D - q) * ((1 + s * s) * (1 + s * (s + d))) = d * ((D * (1 + s * s) - 1) * (1 + s * (s + d)) + s * d) := by
    have : (d * D - q) * ((1 + s * s) * (1 + s * (s + d))) = d * D * (1 + s * s) * (1 + s * (s + d)) - q * (1 + s * (s + d)) * (1 + s * s) := by grind
    rw [this, hq]; grind
  generalize D * (1 + s * s) - 1 = y at *
  have hb : ab (d * (y * (1 + s * (s + d)) + s * d)) ≤ d * (1 / 562949953421312 + d) := by
    rw [ab_mul, ab_of_nonneg hd]
    apply Rat.mul_le_mul_of_nonneg_left _ hd
    have h1 := ab_add (y * (1 + s * (s + d))) (s * d)
    have h2 : ab (y * (1 + s * (s + d))) ≤ 1 / 1125899906842624 * 2 := by
      rw [ab_mul, ab_of_nonneg (Rat.le_of_lt p2)]
      exact mul_le_mul_nn hD (by grind) (ab_nonneg _) (by decide)
    have h3 : ab (s * d) ≤ d := by
      rw [ab_of_nonneg sd]
      have := Rat.mul_le_mul_of_nonneg_right (show s ≤ 1 by grind) hd; grind
    grind
  rw [← key, ab_mul] at hb
  have hone : 1 ≤ ab ((1 + s * s) * (1 + s * (s + d))) := by
    have h4 := mul_le_mul_nn (show 1 ≤ 1 + s * s by grind) (show 1 ≤ 1 + s * (s + d) by grind) (by decide) (Rat.le_of_lt p2)
    rw [ab_of_nonneg (by grind)]; grind
  have hq2 : ab (d * D - q) ≤ d * (1 / 562949953421312 + d) := by
    have := Rat.mul_le_mul_of_nonneg_left hone (ab_nonneg (d * D - q)); grind
  have e : W - q = (W - d * D) + (d * D - q) := by grind
  have h5 := ab_add (W - d * D) (d * D - q)
  rw [← e] at h5
  grind

theorem atan_like : AtanLike (ev TL) (67 / 100) (1 / 281474976710656) 1048577 := by
  refine ⟨by decide +kernel, by decide, by decide +kernel, by decide +kernel, by decide +kernel, ?_, ?_⟩
  · intro t h0 h1
    exact Rat.le_trans (ev_bnd (r := 1) (by rw [ab_of_nonneg h0]; exact Rat.le_trans h1 (by decide +kernel)) TL) TL_bnd
  · intro s t q hs hst ht hq
    have s1 : ab s ≤ 1 := by rw [ab_of_nonneg hs]; exact Rat.le_trans (Rat.le_trans hst ht) (by decide +kernel)
    have t1 : ab t ≤ 1 := by rw [ab_of_nonneg (Rat.le_trans hs hst)]; exact Rat.le_trans ht (by decide +kernel)
    have hr := rem_le s1 t1 TL
    have hr2 := Rat.mul_le_mul_of_nonneg_right TL_mv (sq_nonneg (t - s))
    -- the derivative
    have hD : ab (ev (dv TL) s * (1 + s * s) - 1) ≤ 1 / 1125899906842624 := by
      have e1 : ev (padd (dv TL) (0 :: 0 :: dv TL)) s = ev (dv TL) s * (1 + s * s) := by rw [ev_padd]; simp only [ev]; grind
      rw [EL_head] at e1
      simp only [ev] at e1
      rw [← e1, show 1 + s * ev EL s - 1 = s * ev EL s by grind]
      have hs67 : ab s ≤ 67 / 100 := by rw [ab_of_nonneg hs]; exact Rat.le_trans hst ht
      exact Rat.le_trans (ab_mul_le hs67 (ev_bnd hs67 EL)) EL_bnd
    generalize ev (dv TL) s = D at *
    generalize ev TL t - ev TL s = W at *
    exact diff_aux hs hst (Rat.le_trans ht (by decide +kernel)) hq (Rat.le_trans hr hr2) hD
end Cx
