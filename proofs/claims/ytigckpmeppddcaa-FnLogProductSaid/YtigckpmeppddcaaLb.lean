/- The Taylor polynomial of log((1 + t)/(1 - t)) is the logarithm, by very many small steps; the logarithm of 2. Plain: no program in sight. -/
import Derived.Test.YtigckpmeppddcaaLa
set_option linter.unusedVariables false
namespace Cx

structure LogLike (F : Rat → Rat) (r e M : Rat) : Prop where
  zero : F 0 = 0
  r1 : r ≤ 1 / 2
  e0 : 0 ≤ e
  M0 : 0 ≤ M
  le : ∀ t, 0 ≤ t → t ≤ r → ab (F t) ≤ 10
  diff : ∀ s t q, 0 ≤ s → s ≤ t → t ≤ r → q * (1 - s * t) = t - s → ab (F t - F s - 2 * q) ≤ e * (t - s) + M * ((t - s) * (t - s))

/-- (1 + t)/(1 - t). -/
def ra (t : Rat) : Rat := (1 + t) / (1 - t)
theorem ra_eq {t : Rat} (h : t < 1) : ra t * (1 - t) = 1 + t := Rat.div_mul_cancel (Rat.ne_of_lt (show 0 < 1 - t by grind)).symm

theorem cancel_right {a b c : Rat} (hc : 0 < c) (h : a * c = b * c) : a = b := by
  have h1 : (a - b) * c = 0 := by grind
  rcases Rat.mul_eq_zero.1 h1 with h2 | h2 <;> grind

theorem ra_step {s t q : Rat} (hs : 0 ≤ s) (hst : s ≤ t) (ht : t ≤ 1 / 2) (hq : q * (1 - s * t) = t - s) (hq1 : q < 1) : ra t = ra s * ra q := by
  have e1 := ra_eq (show s < 1 by grind)
  have e2 := ra_eq (show t < 1 by grind)
  have e3 := ra_eq hq1
  have st : s * t ≤ 1 / 4 := by
    have := mul_le_mul_nn (show s ≤ 1 / 2 by grind) ht hs (by decide +kernel); grind
  have p1 : 0 < 1 - s * t := by grind
  -- multiply by (1 - s)(1 - q)(1 - t)(1 - s t)
  have p : 0 < (1 - t) * ((1 - s) * (1 - q) * (1 - s * t)) := Rat.mul_pos (by grind) (Rat.mul_pos (Rat.mul_pos (by grind) (by grind)) p1)
  refine cancel_right p ?_
  have l : ra t * ((1 - t) * ((1 - s) * (1 - q) * (1 - s * t))) = (1 + t) * (1 - s) * ((1 - s * t) - q * (1 - s * t)) := by
    have : ra t * ((1 - t) * ((1 - s) * (1 - q) * (1 - s * t))) = ra t * (1 - t) * (1 - s) * ((1 - s * t) - q * (1 - s * t)) := by grind
    rw [this, e2]
  have r : ra s * ra q * ((1 - t) * ((1 - s) * (1 - q) * (1 - s * t))) = (1 + s) * (1 - t) * ((1 - s * t) + q * (1 - s * t)) := by
    have : ra s * ra q * ((1 - t) * ((1 - s) * (1 - q) * (1 - s * t))) = ra s * (1 - s) * (ra q * (1 - q)) * (1 - t) * (1 - s * t) := by grind
    rw [this, e1, e3]; grind
  rw [l, r, hq]; grind

theorem ra_near {q : Rat} (h0 : 0 ≤ q) (h1 : q ≤ 1 / 2) : 1 + 2 * q ≤ ra q ∧ ra q ≤ 1 + 2 * q + 4 * (q * q) := by
  have e := ra_eq (show q < 1 by grind)
  have qq := sq_nonneg q
  have p : 0 < 1 - q := by grind
  constructor
  · refine Rat.le_of_mul_le_mul_right (c := 1 - q) ?_ p
    rw [e]; grind
  · refine Rat.le_of_mul_le_mul_right (c := 1 - q) ?_ p
    rw [e]
    have : (1 + 2 * q + 4 * (q * q)) * (1 - q) = 1 + q + 2 * (q * q) * (1 - 2 * q) := by grind
    have := Rat.mul_nonneg qq (show 0 ≤ 1 - 2 * q by grind)
    grind

/-- One small step. -/
theorem small_step {q b d h : Rat} (q0 : 0 ≤ q) (hq : q ≤ 2 * h) (hb : ab (b - 2 * q) ≤ d) (hd : d ≤ h) (hh : h ≤ 1 / 100) : Rl (2 * (d + 66 * (h * h))) (ra q) (ex b) := by
  have hb' := ab_le.1 hb
  have bl : ab b ≤ 5 * h := by rw [ab_le]; constructor <;> grind
  have g1 := ex_ge (a := b) (Rat.le_trans bl (by grind))
  have g2 := ex_le (a := b) (Rat.le_trans bl (by grind))
  obtain ⟨r1, r2⟩ := ra_near q0 (by grind)
  have bb : b * b ≤ 25 * (h * h) := by
    have := ab_mul_le bl bl
    rw [ab_le] at this
    grind
  have qq : q * q ≤ 4 * (h * h) := by
    have := mul_le_mul_nn hq hq q0 (by grind)
    grind
  have h0 : 0 ≤ h := by grind
  have hhh : h * h ≤ h * (1 / 100) := Rat.mul_le_mul_of_nonneg_left hh h0
  have bl' := ab_le.1 bl
  refine Rl.of_close (by grind) (by grind) ?_ (by grind)
  rw [ab_le]; constructor <;> grind

theorem lg_steps {F : Rat → Rat} {r e M h : Rat} (L : LogLike F r e M) (hh : 0 < h) (hh1 : h ≤ 1 / 100) (hd : e * h + M * (h * h) ≤ h) : ∀ k : Nat, (k : Rat) * h ≤ r → (k : Rat) * (2 * (e * h + M * (h * h) + 66 * (h * h)) + 100 * h / ((NN : Nat) : Rat)) ≤ 1 / 2 →
    Rl ((k : Rat) * (2 * (e * h + M * (h * h) + 66 * (h * h)) + 100 * h / ((NN : Nat) : Rat))) (ra ((k : Rat) * h)) (ex (F ((k : Rat) * h)))
  | 0, _, _ => by
    have z : ((0 : Nat) : Rat) = 0 := rfl
    rw [z, Rat.zero_mul, Rat.zero_mul, L.zero, ex_zero]
    have : ra 0 = 1 := by decide +kernel
    rw [this]; exact Rl.refl (by decide)
  | k + 1, hk, hs => by
    have ek : ((k + 1 : Nat) : Rat) = (k : Rat) + 1 := by rw [Rat.natCast_add]; rfl
    have kn : (0 : Rat) ≤ (k : Rat) := Rat.natCast_nonneg
    have hN := NN_pos
    have cn : 0 ≤ 100 * h / ((NN : Nat) : Rat) := div_nonneg (by grind) hN
    have M0 := L.M0
    have e0 := L.e0
    have hhh := Rat.mul_pos hh hh
    have m1 := Rat.mul_nonneg M0 (Rat.le_of_lt hhh)
    have m2 := Rat.mul_nonneg e0 (Rat.le_of_lt hh)
    rw [ek] at hk hs ⊢
    have hc0 : 0 ≤ 2 * (e * h + M * (h * h) + 66 * (h * h)) + 100 * h / ((NN : Nat) : Rat) := by
      generalize 100 * h / ((NN : Nat) : Rat) = c at *
      grind
    have ih := lg_steps L hh hh1 hd k (by grind) (by
      generalize 2 * (e * h + M * (h * h) + 66 * (h * h)) + 100 * h / ((NN : Nat) : Rat) = c at *
      grind)
    generalize hsv : (k : Rat) * h = s at *
    have et : ((k : Rat) + 1) * h = s + h := by grind
    rw [et] at hk ⊢
    have hs0 : 0 ≤ s := by rw [← hsv]; exact Rat.mul_nonneg kn (Rat.le_of_lt hh)
    have r1 := L.r1
    have st : s * (s + h) ≤ 1 / 4 := by
      have := mul_le_mul_nn (show s ≤ 1 / 2 by grind) (show s + h ≤ 1 / 2 by grind) hs0 (by decide +kernel); grind
    have st0 : 0 ≤ s * (s + h) := Rat.mul_nonneg hs0 (by grind)
    have hp : 0 < 1 - s * (s + h) := by grind
    obtain ⟨q, hq⟩ : ∃ q, q * (1 - s * (s + h)) = h := ⟨h / (1 - s * (s + h)), Rat.div_mul_cancel (Rat.ne_of_lt hp).symm⟩
    have q0 : 0 ≤ q := by
      rcases Rat.le_total (a := 0) (b := q) with h1 | h1
      · exact h1
      · have := Rat.mul_nonneg (show 0 ≤ -q by grind) (Rat.le_of_lt hp); grind
    have q2 : q ≤ 2 * h := by
      have := Rat.mul_le_mul_of_nonneg_left (show 3 / 4 ≤ 1 - s * (s + h) by grind) q0
      grind
    have hdf := L.diff s (s + h) q hs0 (by grind) hk (by rw [hq]; grind)
    rw [show s + h - s = h by grind] at hdf
    have S := small_step q0 q2 hdf hd hh1
    have R := ra_step hs0 (show s ≤ s + h by grind) (by grind) (by rw [hq]; grind) (show q < 1 by grind)
    have l1 := L.le s hs0 (by grind)
    have l2 := L.le (s + h) (by grind) hk
    generalize hF1 : F s = A at *
    generalize hF2 : F (s + h) = B at *
    have hdf' := ab_le.1 hdf
    have bl : ab (B - A) ≤ 5 * h := by rw [ab_le]; constructor <;> grind
    have X := ex_mul (a := A) (b := B - A) (Rat.le_trans l1 (by decide +kernel)) (Rat.le_trans bl (by grind))
    rw [show A + (B - A) = B by grind] at X
    have Xle : 2 * (ab A * ab (B - A)) / ((NN : Nat) : Rat) ≤ 100 * h / ((NN : Nat) : Rat) := by
      rw [Rat.div_def, Rat.div_def]
      refine Rat.mul_le_mul_of_nonneg_right ?_ (Rat.le_of_lt (Rat.inv_pos.2 hN))
      have := mul_le_mul_nn l1 bl (ab_nonneg _) (by grind)
      grind
    generalize 100 * h / ((NN : Nat) : Rat) = c at *
    generalize e * h + M * (h * h) = d at *
    have hc : c < 1 := by
      have := Rat.mul_nonneg kn (show 0 ≤ 2 * (d + 66 * (h * h)) + c by grind)
      grind
    have X' := X.mono Xle hc
    rw [R]
    have fin := (ih.mul S (by have := Rat.mul_nonneg kn (show 0 ≤ 2 * (d + 66 * (h * h)) + c by grind); grind)).trans X' (by grind)
    exact fin.mono (by grind) (by grind)

/-- With very many steps. -/
theorem lg_of_like {F : Rat → Rat} {r e M t : Rat} (L : LogLike F r e M) (he : e ≤ 1 / 8) (hM : M ≤ 1208925819614629174706176) (h0 : 0 < t) (h1 : t ≤ r) : Lg (ra t) (F t) (2 * e + 1 / 1237940039285380274899124224) := by
  have hN := NN_pos
  have mne : ((NN : Nat) : Rat) ≠ 0 := (Rat.ne_of_lt hN).symm
  have ht1 : t ≤ 1 / 2 := Rat.le_trans h1 L.r1
  obtain ⟨h, hh⟩ : ∃ h, h = t / ((NN : Nat) : Rat) := ⟨_, rfl⟩
  have hmh : ((NN : Nat) : Rat) * h = t := by rw [hh, Rat.mul_comm]; exact Rat.div_mul_cancel mne
  have hh0 : 0 < h := by
    rw [hh, Rat.div_def]; exact Rat.mul_pos h0 (Rat.inv_pos.2 hN)
  have hh1 : h ≤ 1 / 1606938044258990275541962092341162602522202993782792835301376 := by
    have : ¬ (1 / 1606938044258990275541962092341162602522202993782792835301376 < h) := by
      rw [Rat.div_lt_iff (by decide)]
      rw [NN_rat] at hmh
      grind
    grind
  have M0 := L.M0
  have e0 := L.e0
  have hMh : M * h ≤ 1208925819614629174706176 * (1 / 1606938044258990275541962092341162602522202993782792835301376) := mul_le_mul_nn hM hh1 M0 (by decide +kernel)
  have k1 : 1208925819614629174706176 * (1 / 1606938044258990275541962092341162602522202993782792835301376 : Rat) ≤ 1 / 1000000000000000000000000000000 := by decide +kernel
  have hd : e * h + M * (h * h) ≤ h := by
    have a1 := Rat.mul_le_mul_of_nonneg_right he (Rat.le_of_lt hh0)
    have a2 := Rat.mul_le_mul_of_nonneg_right (Rat.le_trans hMh k1) (Rat.le_of_lt hh0)
    grind
  have hb : ((NN : Nat) : Rat) * (2 * (e * h + M * (h * h) + 66 * (h * h)) + 100 * h / ((NN : Nat) : Rat)) ≤ 2 * e + 1 / 1237940039285380274899124224 := by
    have e1 : ((NN : Nat) : Rat) * (2 * (e * h + M * (h * h) + 66 * (h * h)) + 100 * h / ((NN : Nat) : Rat)) = 2 * (e * (((NN : Nat) : Rat) * h) + M * h * (((NN : Nat) : Rat) * h) + 66 * h * (((NN : Nat) : Rat) * h)) + 100 * h := by
      have : 100 * h / ((NN : Nat) : Rat) * ((NN : Nat) : Rat) = 100 * h := Rat.div_mul_cancel mne
      generalize 100 * h / ((NN : Nat) : Rat) = c at *
      grind
    rw [e1, hmh]
    have a1 : e * t ≤ e := by have := Rat.mul_le_mul_of_nonneg_left (show t ≤ 1 by grind) e0; grind
    have a2 : M * h * t ≤ 1 / 1000000000000000000000000000000 := by
      have b2 := Rat.mul_le_mul_of_nonneg_left (show t ≤ 1 by grind) (Rat.mul_nonneg M0 (Rat.le_of_lt hh0))
      grind
    have a3 : 66 * h * t ≤ 66 * h := by
      have b2 := Rat.mul_le_mul_of_nonneg_left (show t ≤ 1 by grind) (show 0 ≤ 66 * h by grind)
      grind
    have a4 : 2 * (1 / 1000000000000000000000000000000 : Rat) + 300 * (1 / 1606938044258990275541962092341162602522202993782792835301376) ≤ 1 / 1237940039285380274899124224 := by decide +kernel
    grind
  have hc : 2 * e + 1 / 1237940039285380274899124224 ≤ 1 / 2 := by
    have : (1 : Rat) / 1237940039285380274899124224 ≤ 1 / 4 := by decide +kernel
    grind
  have := lg_steps L hh0 (Rat.le_trans hh1 (by decide +kernel)) hd NN (by rw [hmh]; exact h1) (Rat.le_trans hb hc)
  rw [hmh] at this
  exact Rl.mono this hb (by grind)

/-! ### The Taylor polynomial -/
def lgl : Nat → Nat → List Rat
  | 0, _ => []
  | n + 1, k => 0 :: (2 / ((2 * k + 1 : Nat) : Rat)) :: lgl n (k + 1)
def TG : List Rat := lgl 24 0
/-- (1 - x x) T'(x), without its first coefficient. -/
def EG : List Rat := (padd (dv TG) (psc (-1) (0 :: 0 :: dv TG))).tail
theorem EG_head : padd (dv TG) (psc (-1) (0 :: 0 :: dv TG)) = 2 :: EG := by decide +kernel
theorem EG_bnd : 7 / 20 * bnd EG (7 / 20) ≤ 1 / 1152921504606846976 := by decide +kernel
theorem TG_mv : mv TG ≤ 1048576 := by decide +kernel
theorem TG_bnd : bnd TG 1 ≤ 10 := by decide +kernel
theorem TG_zero : ev TG 0 = 0 := by decide +kernel
theorem lgl_odd (t : Rat) : ∀ n k, ev (lgl n k) (-t) = -ev (lgl n k) t
  | 0, _ => by simp only [lgl, ev]; grind
  | n + 1, k => by simp only [lgl, ev]; rw [lgl_odd t n (k + 1)]; grind

theorem lg_diff {s t q D W : Rat} (hs : 0 ≤ s) (hst : s ≤ t) (ht : t ≤ 7 / 20) (hq : q * (1 - s * t) = t - s) (hr : ab (W - (t - s) * D) ≤ 1048576 * ((t - s) * (t - s))) (hD : ab (D * (1 - s * s) - 2) ≤ 1 / 1152921504606846976) :
    ab (W - 2 * q) ≤ 1 / 288230376151711744 * (t - s) + 1048580 * ((t - s) * (t - s)) := by
  have hd : 0 ≤ t - s := by grind
  generalize hh : t - s = d at *
  have et : t = s + d := by grind
  subst et
  have ss := sq_nonneg s
  have sd := Rat.mul_nonneg hs hd
  have s2 : s * s ≤ 1 / 4 := by
    have := mul_le_mul_nn (show s ≤ 1 / 2 by grind) (show s ≤ 1 / 2 by grind) hs (by decide +kernel); grind
  have st : s * (s + d) ≤ 1 / 4 := by
    have := mul_le_mul_nn (show s ≤ 1 / 2 by grind) (show s + d ≤ 1 / 2 by grind) hs (by decide +kernel); grind
  have p1 : 3 / 4 ≤ 1 - s * s := by grind
  have p2 : 3 / 4 ≤ 1 - s * (s + d) := by grind
  have D0 : ab D ≤ 3 := by
    have h1 : ab D * (3 / 4) ≤ 3 * (3 / 4) := by
      have h2 := Rat.mul_le_mul_of_nonneg_left p1 (ab_nonneg D)
      have h3 : ab D * (1 - s * s) = ab (D * (1 - s * s)) := by rw [ab_mul, ab_of_nonneg (show 0 ≤ 1 - s * s by grind)]
      have h4 : ab (D * (1 - s * s)) ≤ 2 + 1 / 1152921504606846976 := by
        rw [ab_le] at hD ⊢; constructor <;> grind
      grind
    exact Rat.le_of_mul_le_mul_right h1 (by decide +kernel)
  -- (d D - 2 q)(1 - s t) = d (D (1 - s s) - 2 - D s d)
  have key : (d * D - 2 * q) * (1 - s * (s + d)) = d * ((D * (1 - s * s) - 2) - D * (s * d)) := by
    have : (d * D - 2 * q) * (1 - s * (s + d)) = d * D * (1 - s * (s + d)) - 2 * (q * (1 - s * (s + d))) := by grind
    rw [this, hq]; grind
  have t1 : ab (D * (s * d)) ≤ 3 * (1 / 2 * d) := by
    refine ab_mul_le D0 ?_
    rw [ab_of_nonneg sd]
    exact Rat.mul_le_mul_of_nonneg_right (by grind) hd
  generalize hy : D * (1 - s * s) - 2 = y at *
  generalize hz : D * (s * d) = z at *
  have hb : ab (d * (y - z)) ≤ d * (1 / 1152921504606846976 + 3 / 2 * d) := by
    rw [ab_mul, ab_of_nonneg hd]
    apply Rat.mul_le_mul_of_nonneg_left _ hd
    rw [ab_le] at hD t1 ⊢
    constructor <;> grind
  rw [← key, ab_mul, ab_of_nonneg (show 0 ≤ 1 - s * (s + d) by grind)] at hb
  have hq2 : ab (d * D - 2 * q) * (3 / 4) ≤ d * (1 / 1152921504606846976 + 3 / 2 * d) := by
    have := Rat.mul_le_mul_of_nonneg_left p2 (ab_nonneg (d * D - 2 * q)); grind
  have e : W - 2 * q = (W - d * D) + (d * D - 2 * q) := by grind
  have h5 := ab_add (W - d * D) (d * D - 2 * q)
  rw [← e] at h5
  have dd := sq_nonneg d
  grind

theorem log_like : LogLike (ev TG) (7 / 20) (1 / 288230376151711744) 1048580 := by
  refine ⟨TG_zero, by decide +kernel, by decide +kernel, by decide +kernel, ?_, ?_⟩
  · intro t h0 h1
    exact Rat.le_trans (ev_bnd (r := 1) (by rw [ab_of_nonneg h0]; exact Rat.le_trans h1 (by decide +kernel)) TG) TG_bnd
  · intro s t q hs hst ht hq
    have s1 : ab s ≤ 1 := by rw [ab_of_nonneg hs]; exact Rat.le_trans (Rat.le_trans hst ht) (by decide +kernel)
    have t1 : ab t ≤ 1 := by rw [ab_of_nonneg (Rat.le_trans hs hst)]; exact Rat.le_trans ht (by decide +kernel)
    have hr := rem_le s1 t1 TG
    have hr2 := Rat.mul_le_mul_of_nonneg_right TG_mv (sq_nonneg (t - s))
    have hD : ab (ev (dv TG) s * (1 - s * s) - 2) ≤ 1 / 1152921504606846976 := by
      have e1 : ev (padd (dv TG) (psc (-1) (0 :: 0 :: dv TG))) s = ev (dv TG) s * (1 - s * s) := by rw [ev_padd, ev_psc]; simp only [ev]; grind
      rw [EG_head] at e1
      simp only [ev] at e1
      rw [← e1, show 2 + s * ev EG s - 2 = s * ev EG s by grind]
      have hs67 : ab s ≤ 7 / 20 := by rw [ab_of_nonneg hs]; exact Rat.le_trans hst ht
      exact Rat.le_trans (ab_mul_le hs67 (ev_bnd hs67 EG)) EG_bnd
    generalize ev (dv TG) s = D at *
    generalize ev TG t - ev TG s = W at *
    exact lg_diff hs hst ht hq (Rat.le_trans hr hr2) hD

/-- 2^-56. -/
def e56 : Rat := 1 / 72057594037927936
theorem lg_pos {t : Rat} (h0 : 0 < t) (h1 : t ≤ 7 / 20) : Lg (ra t) (ev TG t) e56 :=
  (lg_of_like log_like (by decide +kernel) (by decide +kernel) h0 h1).mono (by decide +kernel) (by decide +kernel)
theorem TG_le {t : Rat} (h : ab t ≤ 7 / 20) : ab (ev TG t) ≤ 1 := Rat.le_trans (ev_bnd h TG) (by decide +kernel)
theorem ra_neg {t : Rat} (h : ab t < 1) : ra (-t) = (ra t)⁻¹ := by
  rw [ab_lt] at h
  have e1 := ra_eq (t := -t) (by grind)
  have e2 := ra_eq (t := t) (by grind)
  have p1 : 0 < 1 + t := by grind
  have p2 : 0 < 1 - t := by grind
  have hp : 0 < ra t := by
    have : 0 < ra t * (1 - t) := by rw [e2]; exact p1
    rcases Rat.le_total (a := ra t) (b := 0) with h0 | h0
    · have := Rat.mul_nonneg (show 0 ≤ -ra t by grind) (Rat.le_of_lt p2); grind
    · have : ra t ≠ 0 := fun hz => by rw [hz] at e2; grind
      grind
  refine cancel_right hp ?_
  rw [Rat.inv_mul_cancel _ (Rat.ne_of_lt hp).symm]
  refine cancel_right (Rat.mul_pos p1 p2) ?_
  have : ra (-t) * ra t * ((1 + t) * (1 - t)) = (ra (-t) * (1 - -t)) * (ra t * (1 - t)) := by grind
  rw [this, e1, e2]; grind
theorem lg_ra {t : Rat} (h : ab t ≤ 7 / 20) : Lg (ra t) (ev TG t) (2 * e56) := by
  rcases Rat.le_total (a := 0) (b := t) with h0 | h0
  · by_cases hz : t = 0
    · rw [hz, TG_zero]
      show Rl _ _ _
      rw [ex_zero, show ra 0 = 1 by decide +kernel]
      exact (Rl.refl (by decide)).mono (by decide +kernel) (by decide +kernel)
    · rw [ab_of_nonneg h0] at h
      exact (lg_pos (by grind) h).mono (by decide +kernel) (by decide +kernel)
  · by_cases hz : t = 0
    · rw [hz, TG_zero]
      show Rl _ _ _
      rw [ex_zero, show ra 0 = 1 by decide +kernel]
      exact (Rl.refl (by decide)).mono (by decide +kernel) (by decide +kernel)
    · have h' := h
      rw [ab_of_neg h0] at h
      have h1 := (lg_pos (t := -t) (by grind) h).inv (Rat.le_trans (TG_le (by rw [ab_neg]; exact h')) (by decide +kernel)) (by decide +kernel)
      rw [show ev TG (-t) = -ev TG t from lgl_odd t 24 0, show - -ev TG t = ev TG t by grind, ← ra_neg (by rw [ab_neg, ab_lt]; rw [ab_le] at h'; constructor <;> grind), show - -t = t by grind] at h1
      exact h1.mono (by decide +kernel) (by decide +kernel)

/-- The logarithm of 2: as the library has it, in two words. -/
def LN2 : Rat := 6243314768165359 / 9007199254740992
end Cx
