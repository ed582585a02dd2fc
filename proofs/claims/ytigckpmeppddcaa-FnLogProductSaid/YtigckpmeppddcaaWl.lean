/- The contracts of the library's logarithm and of impl.Log: what they return, as functions of words. -/
import Derived.Test.YtigckpmeppddcaaWf
import Derived.Test.YtigckpmeppddcaaLd
set_option linter.unusedVariables false
namespace Go.Proofs.Ytigckpmeppddcaa
open Go.RowKit Cx

theorem find67 : Extern.find Try.f67 = some Extern.MathLog.archLog := by kernel_rfl
theorem next67 : Extern.findNext Try.f67 = none := by kernel_rfl
theorem name67 : (Try.f67.name == "runtime.NumGoroutine") = false := by kernel_rfl
theorem body67 : Try.f67.body.isNone = true := by kernel_rfl

/-- What the logarithm asks: a positive normal word, neither tiny nor huge. -/
structure LogOk (x : Nat) : Prop where
  fx : fin x
  lo : Cx.p2 (-60) ≤ val x
  hi : val x ≤ Cx.p2 60
theorem LogOk.is {x : Nat} (h : LogOk x) : LogIs x := log_is h.fx h.lo h.hi

theorem ofInt32_eq (n : Int) : Extern.MathAsm.ofInt32 n = floatOfInt .f64 n := rfl

theorem run_step {α β : Type} {P : Program} {m : Sem α} {f : α → Sem β} {a : α} {w : World} (h : m.run P w = .ok a w) : (m >>= f).run P w = (f a).run P w := by
  rw [Sem.run_bind, h]; rfl

set_option maxRecDepth 20000 in
open Extern.MathAsm in
theorem arch_log (x : Nat) (w : World) (h : LogOk x) : (callFunc 67 #[.float .f64 x]).run Try.prog w = .ok (.value (.float .f64 (lgw x))) w := by
  rw [run_callFunc_extern Try.func67 name67 body67 next67 find67]
  obtain ⟨n1, n2, _⟩ := normal_parts h.fx h.lo
  have I := h.is
  obtain ⟨⟨G, K, R⟩, ff, LF, fo, _, _⟩ := I
  have c1 : (x % 2 ^ 63 == 0) = false := by simp; omega
  have c2 : ¬ x ≥ 2 ^ 63 := by omega
  have c3 : ¬ x ≥ posInf := by unfold posInf; omega
  have em : x % 2 ^ 52 + half = lgm x := rfl
  have ee : Int.ofNat (x / 2 ^ 52) - 0x3FE = lge x := rfl
  have r1 := R.fm
  have r2 := R.fe
  have r3 := R.fl
  have r4 := R.fk
  have r5 := R.fa
  have r6 := R.fg
  have r7 : fin Extern.MathAsm.one := fin_one
  have r8 : fin Extern.MathAsm.two := trTW.f
  have r9 : fin Extern.MathAsm.half := trHF.f
  have hsm : (if (!lt 0x3FE6A09E667F3BCD (lgm x)) = true then Extern.MathAsm.one else 0) = lsm x := by
    have e : lt 0x3FE6A09E667F3BCD (lgm x) = decide (val w707 < val (lgm x)) := ord_lt fin_w707 r1
    rw [e]; unfold lsm
    by_cases hs : val w707 < val (lgm x)
    · rw [if_pos hs]; simp [hs]
    · rw [if_neg hs]; simp [hs]; rfl
  have k1 := trL1.f
  have k2 := trL2.f
  have k3 := trL3.f
  have k4 := trL4.f
  have k5 := trL5.f
  have k6 := trL6.f
  have k7 := trL7.f
  have k8 := trHI.f
  have k9 := trLO.f
  obtain ⟨f1, f2, f3, f4, f5, f6, f7, f8, f9, f10, f11, f12, f13, f14, f15, f16, f17, f18, f19, f20, f21, f22, f23, f24, f25, f26, f27, dv⟩ := LF
  have s1 : ∀ w, (sub (floatOfInt .f64 (lge x)) (lsm x)).run Try.prog w = .ok (lgk x) w := fun w => run_asm_sub w r2 r3
  have s2 : ∀ w, (add (lsm x) Extern.MathAsm.one).run Try.prog w = .ok (fadd (lsm x) Cx.one) w := fun w => run_asm_add w r3 r7
  have s3 : ∀ w, (mul (lgm x) (fadd (lsm x) Cx.one)).run Try.prog w = .ok (lgg x) w := fun w => run_asm_mul w r1 r5
  have s4 : ∀ w, (sub (lgg x) Extern.MathAsm.one).run Try.prog w = .ok (lgf x) w := fun w => run_asm_sub w r6 r7
  have s5 : ∀ w, (add Extern.MathAsm.two (lgf x)).run Try.prog w = .ok (ld (lgf x)) w := fun w => run_asm_add w r8 ff
  have s6 : ∀ w, (div (lgf x) (ld (lgf x))).run Try.prog w = .ok (ls (lgf x)) w := fun w => run_asm_div w dv
  have s7 : ∀ w, (mul (ls (lgf x)) (ls (lgf x))).run Try.prog w = .ok (lp2 (lgf x)) w := fun w => run_asm_mul w f2 f2
  have s8 : ∀ w, (mul (lp2 (lgf x)) (lp2 (lgf x))).run Try.prog w = .ok (lp4 (lgf x)) w := fun w => run_asm_mul w f3 f3
  have s9 : ∀ w, (mul 4594499633228436036 (lp4 (lgf x))).run Try.prog w = .ok (la1 (lgf x)) w := fun w => run_asm_mul w k7 f4
  have s10 : ∀ w, (add (la1 (lgf x)) 4595719342595441630).run Try.prog w = .ok (la2 (lgf x)) w := fun w => run_asm_add w f5 k5
  have s11 : ∀ w, (mul (la2 (lgf x)) (lp4 (lgf x))).run Try.prog w = .ok (la3 (lgf x)) w := fun w => run_asm_mul w f6 f4
  have s12 : ∀ w, (add (la3 (lgf x)) 4598818590951641945).run Try.prog w = .ok (la4 (lgf x)) w := fun w => run_asm_add w f7 k3
  have s13 : ∀ w, (mul (la4 (lgf x)) (lp4 (lgf x))).run Try.prog w = .ok (la5 (lgf x)) w := fun w => run_asm_mul w f8 f4
  have s14 : ∀ w, (add (la5 (lgf x)) 4604180019048437139).run Try.prog w = .ok (la6 (lgf x)) w := fun w => run_asm_add w f9 k1
  have s15 : ∀ w, (mul (lp2 (lgf x)) (la6 (lgf x))).run Try.prog w = .ok (lt1 (lgf x)) w := fun w => run_asm_mul w f3 f10
  have s16 : ∀ w, (mul 4594685411790997151 (lp4 (lgf x))).run Try.prog w = .ok (lb1 (lgf x)) w := fun w => run_asm_mul w k6 f4
  have s17 : ∀ w, (add (lb1 (lgf x)) 4597174411056806063).run Try.prog w = .ok (lb2 (lgf x)) w := fun w => run_asm_add w f12 k4
  have s18 : ∀ w, (mul (lb2 (lgf x)) (lp4 (lgf x))).run Try.prog w = .ok (lb3 (lgf x)) w := fun w => run_asm_mul w f13 f4
  have s19 : ∀ w, (add (lb3 (lgf x)) 4600877379321592324).run Try.prog w = .ok (lb4 (lgf x)) w := fun w => run_asm_add w f14 k2
  have s20 : ∀ w, (mul (lp4 (lgf x)) (lb4 (lgf x))).run Try.prog w = .ok (lt2 (lgf x)) w := fun w => run_asm_mul w f4 f15
  have s21 : ∀ w, (add (lt1 (lgf x)) (lt2 (lgf x))).run Try.prog w = .ok (lr (lgf x)) w := fun w => run_asm_add w f11 f16
  have s22 : ∀ w, (mul Extern.MathAsm.half (lgf x)).run Try.prog w = .ok (lhf (lgf x)) w := fun w => run_asm_mul w r9 ff
  have s23 : ∀ w, (mul (lhf (lgf x)) (lgf x)).run Try.prog w = .ok (lhq (lgf x)) w := fun w => run_asm_mul w f18 ff
  have s24 : ∀ w, (add (lr (lgf x)) (lhq (lgf x))).run Try.prog w = .ok (lc1 (lgf x)) w := fun w => run_asm_add w f17 f19
  have s25 : ∀ w, (mul (ls (lgf x)) (lc1 (lgf x))).run Try.prog w = .ok (lc2 (lgf x)) w := fun w => run_asm_mul w f2 f20
  have s26 : ∀ w, (mul 4461442080421002358 (lgk x)).run Try.prog w = .ok (lc3 (lgf x) (lgk x)) w := fun w => run_asm_mul w k9 r4
  have s27 : ∀ w, (add (lc2 (lgf x)) (lc3 (lgf x) (lgk x))).run Try.prog w = .ok (lnr (lgf x) (lgk x)) w := fun w => run_asm_add w f21 f22
  have s28 : ∀ w, (mul (lgk x) 4604418534311723008).run Try.prog w = .ok (lk1 (lgf x) (lgk x)) w := fun w => run_asm_mul w r4 k8
  have s29 : ∀ w, (sub (lhq (lgf x)) (lnr (lgf x) (lgk x))).run Try.prog w = .ok (lc4 (lgf x) (lgk x)) w := fun w => run_asm_sub w f19 f23
  have s30 : ∀ w, (sub (lc4 (lgf x) (lgk x)) (lgf x)).run Try.prog w = .ok (lc5 (lgf x) (lgk x)) w := fun w => run_asm_sub w f25 ff
  have s31 : ∀ w, (sub (lk1 (lgf x) (lgk x)) (lc5 (lgf x) (lgk x))).run Try.prog w = .ok (lgw x) w := fun w => run_asm_sub w f24 f26
  show ((Sem.run Try.prog (ite _ _ (ite _ _ (ite _ _ _))) w).andThen _) = _
  rw [if_neg (Bool.eq_false_iff.1 c1), if_neg c2, if_neg c3]
  simp only [em, ee, ofInt32_eq, hsm]
  rw [run_step (s1 w), run_step (s2 w), run_step (s3 w), run_step (s4 w), run_step (s5 w), run_step (s6 w), run_step (s7 w), run_step (s8 w), run_step (s9 w), run_step (s10 w), run_step (s11 w), run_step (s12 w), run_step (s13 w), run_step (s14 w), run_step (s15 w), run_step (s16 w), run_step (s17 w), run_step (s18 w), run_step (s19 w), run_step (s20 w), run_step (s21 w), run_step (s22 w), run_step (s23 w), run_step (s24 w), run_step (s25 w), run_step (s26 w), run_step (s27 w), run_step (s28 w), run_step (s29 w), run_step (s30 w), run_step (s31 w)]
  rfl

/-- math.Log. -/
theorem mlog_any (x : Nat) (w : World) (h : LogOk x) : Calls Try.prog 59 #[.float .f64 x] w fun e w' => e = .returned (.float .f64 (lgw x)) ∧ w = w' := by
  have ha := fun w => arch_log x w h
  go_enter Try.func59, Try.ntmps59
  go_wp2
  go_ret
  exact ⟨rfl, rfl⟩
/-- cmplx.Log. -/
theorem clog_any (x y : Nat) (w : World) (h1 : HypOk x y) (h2 : PhOk x y) (h3 : LogOk (fhypt x y)) : Calls Try.prog 50 #[.complex .f64 x y] w fun e w' => e = .returned (.complex .f64 (lgw (fhypt x y)) (phw x y)) ∧ w = w' := by
  go_enter Try.func50, Try.ntmps50
  go_wp2_with (first | (go_at_call 46; refine (cabs_any _ _ _ h1).mono ?_; rintro e w' ⟨rfl, rfl⟩) | (go_at_call 59; refine (mlog_any _ _ h3).mono ?_; rintro e w' ⟨rfl, rfl⟩) | (go_at_call 47; refine (cphase_any _ _ _ h2).mono ?_; rintro e w' ⟨rfl, rfl⟩))
  go_ret
  exact ⟨rfl, rfl⟩
/-- impl.Log. -/
theorem log_any (x y : Nat) (w : World) (h1 : HypOk x y) (h2 : PhOk x y) (h3 : LogOk (fhypt x y)) : Calls Try.prog 40 #[.float .f64 x, .float .f64 y] w fun e w' => e = .returned (.tuple #[.float .f64 (lgw (fhypt x y)), .float .f64 (phw x y)]) ∧ w = w' := by
  go_enter Try.func40, Try.ntmps40
  go_wp2_with (go_at_call 50; refine (clog_any _ _ _ h1 h2 h3).mono ?_; rintro e w' ⟨rfl, rfl⟩)
  go_ret2
  exact ⟨rfl, rfl⟩
end Go.Proofs.Ytigckpmeppddcaa
