/- The library's logarithm behind its reduction, as a function of the words f = x - 1 and k, and how far it is from the exact expression. Written by a program of ours (lg.py). Plain: no program in sight. -/
import Derived.Test.YtigckpmeppddcaaTr
import Derived.Test.YtigckpmeppddcaaAt
set_option linter.unusedVariables false
namespace Cx

def wL1 : Nat := 4604180019048437139
def cL1 : Rat := (6004799503160723 / 9007199254740992)
theorem trL1 : Tr wL1 cL1 (666667 / 1000000) 0 := Tr.of_eq (fin_of _ (by decide)) (by decide +kernel) (by decide +kernel)
def wL2 : Nat := 4600877379321592324
def cL2 : Rat := (1801439850921601 / 4503599627370496)
theorem trL2 : Tr wL2 cL2 (2 / 5) 0 := Tr.of_eq (fin_of _ (by decide)) (by decide +kernel) (by decide +kernel)
def wL3 : Nat := 4598818590951641945
def cL3 : Rat := (5146971033736025 / 18014398509481984)
theorem trL3 : Tr wL3 cL3 (57143 / 200000) 0 := Tr.of_eq (fin_of _ (by decide)) (by decide +kernel) (by decide +kernel)
def wL4 : Nat := 4597174411056806063
def cL4 : Rat := (8006390766270639 / 36028797018963968)
theorem trL4 : Tr wL4 cL4 (111111 / 500000) 0 := Tr.of_eq (fin_of _ (by decide)) (by decide +kernel) (by decide +kernel)
def wL5 : Nat := 4595719342595441630
def cL5 : Rat := (3275661152453103 / 18014398509481984)
theorem trL5 : Tr wL5 cL5 (45459 / 250000) 0 := Tr.of_eq (fin_of _ (by decide)) (by decide +kernel) (by decide +kernel)
def wL6 : Nat := 4594685411790997151
def cL6 : Rat := (5517391500461727 / 36028797018963968)
theorem trL6 : Tr wL6 cL6 (153139 / 1000000) 0 := Tr.of_eq (fin_of _ (by decide)) (by decide +kernel) (by decide +kernel)
def wL7 : Nat := 4594499633228436036
def cL7 : Rat := (1332903234475153 / 9007199254740992)
theorem trL7 : Tr wL7 cL7 (73991 / 500000) 0 := Tr.of_eq (fin_of _ (by decide)) (by decide +kernel) (by decide +kernel)
def wHI : Nat := 4604418534311723008
def cHI : Rat := (2977044471 / 4294967296)
theorem trHI : Tr wHI cHI (173287 / 250000) 0 := Tr.of_eq (fin_of _ (by decide)) (by decide +kernel) (by decide +kernel)
def wLO : Nat := 4461442080421002358
def cLO : Rat := (3691024475790907 / 19342813113834066795298816)
theorem trLO : Tr wLO cLO (1 / 1000000) 0 := Tr.of_eq (fin_of _ (by decide)) (by decide +kernel) (by decide +kernel)
def wTW : Nat := 4611686018427387904
def cTW : Rat := 2
theorem trTW : Tr wTW cTW 2 0 := Tr.of_eq (fin_of _ (by decide)) (by decide +kernel) (by decide +kernel)
def wHF : Nat := 4602678819172646912
def cHF : Rat := (1 / 2)
theorem trHF : Tr wHF cHF (1 / 2) 0 := Tr.of_eq (fin_of _ (by decide)) (by decide +kernel) (by decide +kernel)

def ld (f : Nat) : Nat := fadd wTW f
def ls (f : Nat) : Nat := fdiv f (ld f)
def lp2 (f : Nat) : Nat := fmul (ls f) (ls f)
def lp4 (f : Nat) : Nat := fmul (lp2 f) (lp2 f)
def la1 (f : Nat) : Nat := fmul wL7 (lp4 f)
def la2 (f : Nat) : Nat := fadd (la1 f) wL5
def la3 (f : Nat) : Nat := fmul (la2 f) (lp4 f)
def la4 (f : Nat) : Nat := fadd (la3 f) wL3
def la5 (f : Nat) : Nat := fmul (la4 f) (lp4 f)
def la6 (f : Nat) : Nat := fadd (la5 f) wL1
def lt1 (f : Nat) : Nat := fmul (lp2 f) (la6 f)
def lb1 (f : Nat) : Nat := fmul wL6 (lp4 f)
def lb2 (f : Nat) : Nat := fadd (lb1 f) wL4
def lb3 (f : Nat) : Nat := fmul (lb2 f) (lp4 f)
def lb4 (f : Nat) : Nat := fadd (lb3 f) wL2
def lt2 (f : Nat) : Nat := fmul (lp4 f) (lb4 f)
def lr (f : Nat) : Nat := fadd (lt1 f) (lt2 f)
def lhf (f : Nat) : Nat := fmul wHF f
def lhq (f : Nat) : Nat := fmul (lhf f) f
def lc1 (f : Nat) : Nat := fadd (lr f) (lhq f)
def lc2 (f : Nat) : Nat := fmul (ls f) (lc1 f)
def lc3 (f k : Nat) : Nat := fmul wLO k
def lnr (f k : Nat) : Nat := fadd (lc2 f) (lc3 f k)
def lk1 (f k : Nat) : Nat := fmul k wHI
def lc4 (f k : Nat) : Nat := fsub (lhq f) (lnr f k)
def lc5 (f k : Nat) : Nat := fsub (lc4 f k) f
def lout (f k : Nat) : Nat := fsub (lk1 f k) (lc5 f k)

structure LogFin (f k : Nat) : Prop where
  fd : fin (ld f)
  fs : fin (ls f)
  fp2 : fin (lp2 f)
  fp4 : fin (lp4 f)
  fa1 : fin (la1 f)
  fa2 : fin (la2 f)
  fa3 : fin (la3 f)
  fa4 : fin (la4 f)
  fa5 : fin (la5 f)
  fa6 : fin (la6 f)
  ft1 : fin (lt1 f)
  fb1 : fin (lb1 f)
  fb2 : fin (lb2 f)
  fb3 : fin (lb3 f)
  fb4 : fin (lb4 f)
  ft2 : fin (lt2 f)
  fr : fin (lr f)
  fhf : fin (lhf f)
  fhq : fin (lhq f)
  fc1 : fin (lc1 f)
  fc2 : fin (lc2 f)
  fc3 : fin (lc3 f k)
  fnr : fin (lnr f k)
  fk1 : fin (lk1 f k)
  fc4 : fin (lc4 f k)
  fc5 : fin (lc5 f k)
  fout : fin (lout f k)
  dv : Ieee.double.div f (ld f) = some (ls f)

/-- The exact expression: R, and all of it. -/
def lR (S : Rat) : Rat := S * S * (((cL7 * (S * S * (S * S)) + cL5) * (S * S * (S * S)) + cL3) * (S * S * (S * S)) + cL1) + S * S * (S * S) * ((cL6 * (S * S * (S * S)) + cL4) * (S * S * (S * S)) + cL2)
def lE (x K : Rat) : Rat := K * cHI - (cHF * x * x - (x / (cTW + x) * (lR (x / (cTW + x)) + cHF * x * x) + cLO * K) - x)

theorem lout_tr {f k : Nat} {x K : Rat} (tf : Tr f x (83 / 200) (3 / 4503599627370496)) (tk : Tr k K 64 0) (hL : 17 / 10 ≤ cTW + x) (hS : ab (x / (cTW + x)) ≤ 1717 / 10000) : LogFin f k ∧ Tr (lout f k) (lE x K) (44880871 / 1000000) (390819 / 18446744073709551616) := by
  have td := Tr.add (C := (483 / 200)) (d := (5545 / 4611686018427387904)) trTW tf (by decide +kernel) (by decide +kernel) (by decide +kernel) (by decide +kernel)
  have ts0 := Tr.div (L := (17 / 10)) (C := (122059 / 500000)) (d := (22827 / 18446744073709551616)) tf td hL (by decide +kernel) (by decide +kernel) (by decide +kernel) (by decide +kernel) (by decide +kernel) (by decide +kernel)
  have ts : Tr (fdiv f (fadd wTW f)) (x / (cTW + x)) (1717 / 10000) (22827 / 18446744073709551616) := ⟨ts0.f, ts0.err, hS⟩
  have hne : val (fadd wTW f) ≠ 0 := by
    have h1 := ab_le.1 td.err
    intro h0
    rw [h0] at h1
    grind
  generalize hSv : x / (cTW + x) = S at *
  have tp2 := Tr.mul (C := (29481 / 1000000)) (d := (995 / 2305843009213693952)) ts ts (by decide +kernel) (by decide +kernel) (by decide +kernel) (by decide +kernel)
  have tp4 := Tr.mul (C := (87 / 100000)) (d := (473 / 18446744073709551616)) tp2 tp2 (by decide +kernel) (by decide +kernel) (by decide +kernel) (by decide +kernel)
  have ta1 := Tr.mul (C := (129 / 1000000)) (d := (71 / 18446744073709551616)) trL7 tp4 (by decide +kernel) (by decide +kernel) (by decide +kernel) (by decide +kernel)
  have ta2 := Tr.add (C := (36393 / 200000)) (d := (817 / 18446744073709551616)) ta1 trL5 (by decide +kernel) (by decide +kernel) (by decide +kernel) (by decide +kernel)
  have ta3 := Tr.mul (C := (159 / 1000000)) (d := (11 / 2305843009213693952)) ta2 tp4 (by decide +kernel) (by decide +kernel) (by decide +kernel) (by decide +kernel)
  have ta4 := Tr.add (C := (142937 / 500000)) (d := (1259 / 18446744073709551616)) ta3 trL3 (by decide +kernel) (by decide +kernel) (by decide +kernel) (by decide +kernel)
  have ta5 := Tr.mul (C := (249 / 1000000)) (d := (69 / 9223372036854775808)) ta4 tp4 (by decide +kernel) (by decide +kernel) (by decide +kernel) (by decide +kernel)
  have ta6 := Tr.add (C := (166729 / 250000)) (d := (1435 / 9223372036854775808)) ta5 trL1 (by decide +kernel) (by decide +kernel) (by decide +kernel) (by decide +kernel)
  have tt1 := Tr.mul (C := (9831 / 500000)) (d := (2737 / 9223372036854775808)) tp2 ta6 (by decide +kernel) (by decide +kernel) (by decide +kernel) (by decide +kernel)
  have tb1 := Tr.mul (C := (67 / 500000)) (d := (73 / 18446744073709551616)) trL6 tp4 (by decide +kernel) (by decide +kernel) (by decide +kernel) (by decide +kernel)
  have tb2 := Tr.add (C := (55589 / 250000)) (d := (123 / 2305843009213693952)) tb1 trL4 (by decide +kernel) (by decide +kernel) (by decide +kernel) (by decide +kernel)
  have tb3 := Tr.mul (C := (97 / 500000)) (d := (107 / 18446744073709551616)) tb2 tp4 (by decide +kernel) (by decide +kernel) (by decide +kernel) (by decide +kernel)
  have tb4 := Tr.add (C := (200097 / 500000)) (d := (1747 / 18446744073709551616)) tb3 trL2 (by decide +kernel) (by decide +kernel) (by decide +kernel) (by decide +kernel)
  have tt2 := Tr.mul (C := (349 / 1000000)) (d := (193 / 18446744073709551616)) tp4 tb4 (by decide +kernel) (by decide +kernel) (by decide +kernel) (by decide +kernel)
  have tr := Tr.add (C := (20011 / 1000000)) (d := (5749 / 18446744073709551616)) tt1 tt2 (by decide +kernel) (by decide +kernel) (by decide +kernel) (by decide +kernel)
  have thf := Tr.mul (C := (83 / 400)) (d := (3497 / 9223372036854775808)) trHF tf (by decide +kernel) (by decide +kernel) (by decide +kernel) (by decide +kernel)
  have thq := Tr.mul (C := (86113 / 1000000)) (d := (5805 / 18446744073709551616)) thf tf (by decide +kernel) (by decide +kernel) (by decide +kernel) (by decide +kernel)
  have tc1 := Tr.add (C := (26531 / 250000)) (d := (11989 / 18446744073709551616)) tr thq (by decide +kernel) (by decide +kernel) (by decide +kernel) (by decide +kernel)
  have tc2 := Tr.mul (C := (9111 / 500000)) (d := (1139 / 4611686018427387904)) ts tc1 (by decide +kernel) (by decide +kernel) (by decide +kernel) (by decide +kernel)
  have tc3 := Tr.mul (C := (1 / 15625)) (d := (1 / 18446744073709551616)) trLO tk (by decide +kernel) (by decide +kernel) (by decide +kernel) (by decide +kernel)
  have tnr := Tr.add (C := (9143 / 500000)) (d := (579 / 2305843009213693952)) tc2 tc3 (by decide +kernel) (by decide +kernel) (by decide +kernel) (by decide +kernel)
  have tk1 := Tr.mul (C := (693148 / 15625)) (d := (181705 / 18446744073709551616)) tk trHI (by decide +kernel) (by decide +kernel) (by decide +kernel) (by decide +kernel)
  have tc4 := Tr.sub (C := (104399 / 1000000)) (d := (10865 / 18446744073709551616)) thq tnr (by decide +kernel) (by decide +kernel) (by decide +kernel) (by decide +kernel)
  have tc5 := Tr.sub (C := (519399 / 1000000)) (d := (25281 / 18446744073709551616)) tc4 tf (by decide +kernel) (by decide +kernel) (by decide +kernel) (by decide +kernel)
  have tout := Tr.sub (C := (44880871 / 1000000)) (d := (390819 / 18446744073709551616)) tk1 tc5 (by decide +kernel) (by decide +kernel) (by decide +kernel) (by decide +kernel)
  have hdv : Ieee.double.div f (ld f) = some (ls f) := div_some tf.f td.f hne
  refine ⟨⟨td.f, ts.f, tp2.f, tp4.f, ta1.f, ta2.f, ta3.f, ta4.f, ta5.f, ta6.f, tt1.f, tb1.f, tb2.f, tb3.f, tb4.f, tt2.f, tr.f, thf.f, thq.f, tc1.f, tc2.f, tc3.f, tnr.f, tk1.f, tc4.f, tc5.f, tout.f, hdv⟩, ?_⟩
  have e : lE x K = K * cHI - (cHF * x * x - (S * (lR S + cHF * x * x) + cLO * K) - x) := by unfold lE; rw [hSv]
  rw [e]
  exact tout
end Cx
