/- The library's xatan (z = x x; x + x z P(z)/Q(z)) as a function of words, and how far it is from the exact rational function: for |x| at most 0.67. Written by a program of ours (at.py). Plain: no program in sight. -/
import Derived.Test.YtigckpmeppddcaaTr
set_option linter.unusedVariables false
namespace Cx

def wP0 : Nat := 13829429103926125972
def cP0 : Rat := (-1970461881518437 / 2251799813685248)
theorem trP0 : Tr wP0 cP0 (219 / 250) 0 := Tr.of_eq (fin_of _ (by decide)) (by decide +kernel) (by decide +kernel)
def wQ0 : Nat := 4627690253511319612
def cQ0 : Rat := (1749258957297679 / 70368744177664)
theorem trQ0 : Tr wQ0 cQ0 (24859 / 1000) 0 := Tr.of_eq (fin_of _ (by decide)) (by decide +kernel) (by decide +kernel)
def wP1 : Nat := 13848613196940411002
def cP1 : Rat := (-2273971201753149 / 140737488355328)
theorem trP1 : Tr wP1 cP1 (8079 / 500) 0 := Tr.of_eq (fin_of _ (by decide)) (by decide +kernel) (by decide +kernel)
def wQ1 : Nat := 4640010388282866213
def cQ1 : Rat := (5806371718625829 / 35184372088832)
theorem trQ1 : Tr wQ1 cQ1 (41257 / 250) 0 := Tr.of_eq (fin_of _ (by decide)) (by decide +kernel) (by decide +kernel)
def wP2 : Nat := 13858350711815275123
def cP2 : Rat := (-5278258023629427 / 70368744177664)
theorem trP2 : Tr wP2 cP2 (75009 / 1000) 0 := Tr.of_eq (fin_of _ (by decide)) (by decide +kernel) (by decide +kernel)
def wQ2 : Nat := 4646322940342877755
def cQ2 : Rat := (7615324151266875 / 17592186044416)
theorem trQ2 : Tr wQ2 cQ2 (216441 / 500) 0 := Tr.of_eq (fin_of _ (by decide)) (by decide +kernel) (by decide +kernel)
def wP3 : Nat := 13861719834326579749
def cP3 : Rat := (-8647380534934053 / 70368744177664)
theorem trP3 : Tr wP3 cP3 (122887 / 1000) 0 := Tr.of_eq (fin_of _ (by decide)) (by decide +kernel) (by decide +kernel)
def wQ3 : Nat := 4647246694406179306
def cQ3 : Rat := (4269539107284213 / 8796093022208)
theorem trQ3 : Tr wQ3 cQ3 (485391 / 1000) 0 := Tr.of_eq (fin_of _ (by decide)) (by decide +kernel) (by decide +kernel)
def wP4 : Nat := 13857635882265799822
def cP4 : Rat := (-2281714237077063 / 35184372088832)
theorem trP4 : Tr wP4 cP4 (64851 / 1000) 0 := Tr.of_eq (fin_of _ (by decide)) (by decide +kernel) (by decide +kernel)
def wQ4 : Nat := 4641049159275471596
def cQ4 : Rat := (1711285677807803 / 8796093022208)
theorem trQ4 : Tr wQ4 cQ4 (194551 / 1000) 0 := Tr.of_eq (fin_of _ (by decide)) (by decide +kernel) (by decide +kernel)

/-- The exact polynomials. -/
def pn (z : Rat) : Rat := (((cP0 * z + cP1) * z + cP2) * z + cP3) * z + cP4
def qn (z : Rat) : Rat := ((((z + cQ0) * z + cQ1) * z + cQ2) * z + cQ3) * z + cQ4
def Rt (t : Rat) : Rat := t * (t * t * pn (t * t) / qn (t * t)) + t

def xz (x : Nat) : Nat := fmul x x
def xn0 (x : Nat) : Nat := fmul wP0 (xz x)
def xn1 (x : Nat) : Nat := fadd (xn0 x) wP1
def xn2 (x : Nat) : Nat := fmul (xn1 x) (xz x)
def xn3 (x : Nat) : Nat := fadd (xn2 x) wP2
def xn4 (x : Nat) : Nat := fmul (xn3 x) (xz x)
def xn5 (x : Nat) : Nat := fadd (xn4 x) wP3
def xn6 (x : Nat) : Nat := fmul (xn5 x) (xz x)
def xn7 (x : Nat) : Nat := fadd (xn6 x) wP4
def xn8 (x : Nat) : Nat := fmul (xz x) (xn7 x)
def xd0 (x : Nat) : Nat := fadd (xz x) wQ0
def xd1 (x : Nat) : Nat := fmul (xd0 x) (xz x)
def xd2 (x : Nat) : Nat := fadd (xd1 x) wQ1
def xd3 (x : Nat) : Nat := fmul (xd2 x) (xz x)
def xd4 (x : Nat) : Nat := fadd (xd3 x) wQ2
def xd5 (x : Nat) : Nat := fmul (xd4 x) (xz x)
def xd6 (x : Nat) : Nat := fadd (xd5 x) wQ3
def xd7 (x : Nat) : Nat := fmul (xd6 x) (xz x)
def xd8 (x : Nat) : Nat := fadd (xd7 x) wQ4
def xr (x : Nat) : Nat := fdiv (xn8 x) (xd8 x)
def xs (x : Nat) : Nat := fmul x (xr x)
def xo (x : Nat) : Nat := fadd (xs x) x
/-- xatan. -/
def xat (x : Nat) : Nat := xo x

/-- A division by a number that is not zero is never invalid. -/
theorem div_some {x y : Nat} (hx : fin x) (hy : fin y) (hy0 : val y ≠ 0) : Ieee.double.div x y = some (fdiv x y) := by
  obtain ⟨s, m, i, r1, v1, n1⟩ := fin_val hx
  obtain ⟨t, n, j, r2, v2, n2⟩ := fin_val hy
  have hn : n ≠ 0 := by
    intro h0; apply hy0; rw [v2, h0]; unfold mval; grind
  have h : (Ieee.double.div x y).isSome = true := by
    unfold Ieee.Format.div
    rw [r1, r2]
    simp only [Ieee.Datum.quotient, if_neg hn]
    rfl
  obtain ⟨d, hd⟩ := Option.isSome_iff_exists.1 h
  unfold fdiv
  rw [hd]; rfl

structure XatFin (x : Nat) : Prop where
  fz : fin (xz x)
  fn0 : fin (xn0 x)
  fn1 : fin (xn1 x)
  fn2 : fin (xn2 x)
  fn3 : fin (xn3 x)
  fn4 : fin (xn4 x)
  fn5 : fin (xn5 x)
  fn6 : fin (xn6 x)
  fn7 : fin (xn7 x)
  fn8 : fin (xn8 x)
  fd0 : fin (xd0 x)
  fd1 : fin (xd1 x)
  fd2 : fin (xd2 x)
  fd3 : fin (xd3 x)
  fd4 : fin (xd4 x)
  fd5 : fin (xd5 x)
  fd6 : fin (xd6 x)
  fd7 : fin (xd7 x)
  fd8 : fin (xd8 x)
  fr : fin (xr x)
  fs : fin (xs x)
  fo : fin (xo x)
  dv : Ieee.double.div (xn8 x) (xd8 x) = some (xr x)

theorem qn_ge {z : Rat} (h : 0 ≤ z) : 194 ≤ qn z := by
  unfold qn
  have h0 : 0 ≤ (z + cQ0) * z := Rat.mul_nonneg (by unfold cQ0; grind) h
  have h1 : 0 ≤ ((z + cQ0) * z + cQ1) * z := Rat.mul_nonneg (by unfold cQ1; grind) h
  have h2 : 0 ≤ (((z + cQ0) * z + cQ1) * z + cQ2) * z := Rat.mul_nonneg (by unfold cQ2; grind) h
  have h3 : 0 ≤ ((((z + cQ0) * z + cQ1) * z + cQ2) * z + cQ3) * z := Rat.mul_nonneg (by unfold cQ3; grind) h
  unfold cQ4
  generalize ((((z + cQ0) * z + cQ1) * z + cQ2) * z + cQ3) * z = y at *
  grind

theorem xat_tr {x : Nat} (hx : fin x) (h : ab (val x) ≤ (67 / 100)) : XatFin x ∧ Tr (xat x) (Rt (val x)) (883 / 1000) (981 / 576460752303423488) ∧ ab (val (xr x)) ≤ 8 / 25 := by
  have tx : Tr x (val x) (67 / 100) 0 := Tr.of_eq hx rfl h
  have tz := Tr.mul (C := (449 / 1000)) (d := (115 / 1152921504606846976)) tx tx (by decide +kernel) (by decide +kernel) (by decide +kernel) (by decide +kernel)
  have tn0 := Tr.mul (C := (197 / 500)) (d := (101 / 576460752303423488)) trP0 tz (by decide +kernel) (by decide +kernel) (by decide +kernel) (by decide +kernel)
  have tn1 := Tr.add (C := (2069 / 125)) (d := (555 / 144115188075855872)) tn0 trP1 (by decide +kernel) (by decide +kernel) (by decide +kernel) (by decide +kernel)
  have tn2 := Tr.mul (C := (929 / 125)) (d := (725 / 144115188075855872)) tn1 tz (by decide +kernel) (by decide +kernel) (by decide +kernel) (by decide +kernel)
  have tn3 := Tr.add (C := (82441 / 1000)) (d := (26905 / 1152921504606846976)) tn2 trP2 (by decide +kernel) (by decide +kernel) (by decide +kernel) (by decide +kernel)
  have tn4 := Tr.mul (C := (37017 / 1000)) (d := (15519 / 576460752303423488)) tn3 tz (by decide +kernel) (by decide +kernel) (by decide +kernel) (by decide +kernel)
  have tn5 := Tr.add (C := (19988 / 125)) (d := (35987 / 576460752303423488)) tn4 trP3 (by decide +kernel) (by decide +kernel) (by decide +kernel) (by decide +kernel)
  have tn6 := Tr.mul (C := (71797 / 1000)) (d := (34543 / 576460752303423488)) tn5 tz (by decide +kernel) (by decide +kernel) (by decide +kernel) (by decide +kernel)
  have tn7 := Tr.add (C := (17081 / 125)) (d := (26017 / 288230376151711744)) tn6 trP4 (by decide +kernel) (by decide +kernel) (by decide +kernel) (by decide +kernel)
  have tn8 := Tr.mul (C := (12271 / 200)) (d := (19537 / 288230376151711744)) tz tn7 (by decide +kernel) (by decide +kernel) (by decide +kernel) (by decide +kernel)
  have td0 := Tr.add (C := (6327 / 250)) (d := (3297 / 576460752303423488)) tz trQ0 (by decide +kernel) (by decide +kernel) (by decide +kernel) (by decide +kernel)
  have td1 := Tr.mul (C := (2841 / 250)) (d := (8781 / 1152921504606846976)) td0 tz (by decide +kernel) (by decide +kernel) (by decide +kernel) (by decide +kernel)
  have td2 := Tr.add (C := (22049 / 125)) (d := (26969 / 576460752303423488)) td1 trQ1 (by decide +kernel) (by decide +kernel) (by decide +kernel) (by decide +kernel)
  have td3 := Tr.mul (C := (79201 / 1000)) (d := (64779 / 1152921504606846976)) td2 tz (by decide +kernel) (by decide +kernel) (by decide +kernel) (by decide +kernel)
  have td4 := Tr.add (C := (512083 / 1000)) (d := (195873 / 1152921504606846976)) td3 trQ2 (by decide +kernel) (by decide +kernel) (by decide +kernel) (by decide +kernel)
  have td5 := Tr.mul (C := (114963 / 500)) (d := (102849 / 576460752303423488)) td4 tz (by decide +kernel) (by decide +kernel) (by decide +kernel) (by decide +kernel)
  have td6 := Tr.add (C := (715317 / 1000)) (d := (97205 / 288230376151711744)) td5 trQ3 (by decide +kernel) (by decide +kernel) (by decide +kernel) (by decide +kernel)
  have td7 := Tr.mul (C := (160589 / 500)) (d := (42383 / 144115188075855872)) td6 tz (by decide +kernel) (by decide +kernel) (by decide +kernel) (by decide +kernel)
  have td8 := Tr.add (C := (515729 / 1000)) (d := (471091 / 1152921504606846976)) td7 trQ4 (by decide +kernel) (by decide +kernel) (by decide +kernel) (by decide +kernel)
  have hL : 194 ≤ ((((val x * val x + cQ0) * (val x * val x) + cQ1) * (val x * val x) + cQ2) * (val x * val x) + cQ3) * (val x * val x) + cQ4 := qn_ge (sq_nonneg (val x))
  have tr := Tr.div (L := 194) (C := (317 / 1000)) (d := (627 / 288230376151711744)) tn8 td8 hL (by decide) (by decide +kernel) (by decide +kernel) (by decide +kernel) (by decide +kernel) (by decide +kernel)
  have ts := Tr.mul (C := (213 / 1000)) (d := (1735 / 1152921504606846976)) tx tr (by decide +kernel) (by decide +kernel) (by decide +kernel) (by decide +kernel)
  have to := Tr.add (C := (883 / 1000)) (d := (981 / 576460752303423488)) ts tx (by decide +kernel) (by decide +kernel) (by decide +kernel) (by decide +kernel)
  have hne : val (xd8 x) ≠ 0 := by
    have h1 := ab_le.1 td8.err
    intro h0
    have h2 : val (fadd (xd7 x) wQ4) = 0 := h0
    unfold xd7 at h2
    have := h1.2
    have e : (471091 / 1152921504606846976) ≤ (1 : Rat) := by decide +kernel
    have h3 : val (fadd (fmul (xd6 x) (xz x)) wQ4) = 0 := h2
    have h4 : ab (0 - (((((val x * val x + cQ0) * (val x * val x) + cQ1) * (val x * val x) + cQ2) * (val x * val x) + cQ3) * (val x * val x) + cQ4)) ≤ (471091 / 1152921504606846976) := by rw [← h2]; exact td8.err
    rw [ab_le] at h4
    grind
  have hdv : Ieee.double.div (xn8 x) (xd8 x) = some (xr x) := div_some tn8.f td8.f hne
  exact ⟨⟨tz.f, tn0.f, tn1.f, tn2.f, tn3.f, tn4.f, tn5.f, tn6.f, tn7.f, tn8.f, td0.f, td1.f, td2.f, td3.f, td4.f, td5.f, td6.f, td7.f, td8.f, tr.f, ts.f, to.f, hdv⟩, to, Rat.le_trans tr.val_le (by decide +kernel)⟩
end Cx
