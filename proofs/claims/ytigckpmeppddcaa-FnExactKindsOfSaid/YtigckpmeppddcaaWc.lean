/- The contracts of the library's hypotenuse and of impl.Abs: what they return, as functions of words. -/
import Derived.Test.YtigckpmeppddcaaWb
import Derived.Test.YtigckpmeppddcaaNr
import Derived.Laws.LoneSync
set_option linter.unusedVariables false
namespace Go.Proofs.Ytigckpmeppddcaa
open Go.RowKit Cx

theorem find60 : Extern.find Try.f60 = some Extern.MathHypot.archHypot := by kernel_rfl
theorem next60 : Extern.findNext Try.f60 = none := by kernel_rfl
theorem name60 : (Try.f60.name == "runtime.NumGoroutine") = false := by kernel_rfl
theorem body60 : Try.f60.body.isNone = true := by kernel_rfl

section
variable {P : Program} (w : World)
open Extern.MathAsm
theorem run_asm_add {x y : Nat} (hx : fin x) (hy : fin y) : (Extern.MathAsm.add x y).run P w = .ok (fadd x y) w := by
  unfold Extern.MathAsm.add Extern.MathAsm.arith
  simp [Op.floatArith, show FloatKind.f64.format.add x y = some (fadd x y) from (add_eq hx hy).1]
theorem run_asm_sub {x y : Nat} (hx : fin x) (hy : fin y) : (Extern.MathAsm.sub x y).run P w = .ok (fsub x y) w := by
  unfold Extern.MathAsm.sub Extern.MathAsm.arith
  simp [Op.floatArith, show FloatKind.f64.format.sub x y = some (fsub x y) from (sub_eq hx hy).1]
theorem run_asm_mul {x y : Nat} (hx : fin x) (hy : fin y) : (Extern.MathAsm.mul x y).run P w = .ok (fmul x y) w := by
  unfold Extern.MathAsm.mul Extern.MathAsm.arith
  simp [Op.floatArith, show FloatKind.f64.format.mul x y = some (fmul x y) from (mul_eq hx hy).1]
theorem run_asm_div {x y : Nat} (h : Ieee.double.div x y = some (fdiv x y)) : (Extern.MathAsm.div x y).run P w = .ok (fdiv x y) w := by
  unfold Extern.MathAsm.div Extern.MathAsm.arith
  simp [Op.floatArith, show FloatKind.f64.format.div x y = some (fdiv x y) from h]
end

/-- The hypotenuse's conditions: both finite; zero both, or the greater neither tiny nor huge. -/
structure HypOk (p q : Nat) : Prop where
  fp : fin p
  fq : fin q
  ok : ¬ (fabs p = 0 ∧ fabs q = 0) → (Cx.p2 (-500) ≤ val (hbig p q) ∧ val (hbig p q) ≤ Cx.p2 500)

open Extern.MathAsm in
theorem arch_hyp (p q : Nat) (w : World) (h : HypOk p q) : (callFunc 60 #[.float .f64 p, .float .f64 q]).run Try.prog w = .ok (.value (.float .f64 (fhypt p q))) w := by
  rw [run_callFunc_extern Try.func60 name60 body60 next60 find60]
  obtain ⟨fb, fs, s0, sb, hsum, ap, aq, hor, _⟩ := hparts h.fp h.fq
  have hp1 := (fin_iff p h.fp.1).1 h.fp
  have hq1 := (fin_iff q h.fq.1).1 h.fq
  have c1 : ((p % 2 ^ 63 == posInf) || (q % 2 ^ 63 == posInf)) = false := by
    simp [posInf]; omega
  have c2 : (decide (p % 2 ^ 63 > posInf) || decide (q % 2 ^ 63 > posInf)) = false := by
    simp [posInf]; omega
  by_cases hz : fabs p = 0 ∧ fabs q = 0
  · have c3 : ((p % 2 ^ 63 == 0) && (q % 2 ^ 63 == 0)) = true := by
      have h1 : p % 2 ^ 63 = 0 := hz.1
      have h2 : q % 2 ^ 63 = 0 := hz.2
      rw [h1, h2]; rfl
    have e : fhypt p q = 0 := by unfold fhypt; rw [if_pos hz]
    show ((Sem.run Try.prog (ite _ _ (ite _ _ (ite _ _ _))) w).andThen _) = _
    rw [if_neg (Bool.eq_false_iff.1 c1), if_neg (Bool.eq_false_iff.1 c2), if_pos c3, e]
    rfl
  have e : fhypt p q = fhyp p q := by unfold fhypt; rw [if_neg hz]
  rw [e]
  obtain ⟨hlo, hhi⟩ := h.ok hz
  obtain ⟨g1, g2, m1, t1, q1, q2, z1, z0, _⟩ := hyp_spec h.fp h.fq hlo hhi
  have c3 : ((p % 2 ^ 63 == 0) && (q % 2 ^ 63 == 0)) = false := by
    cases hc : ((p % 2 ^ 63 == 0) && (q % 2 ^ 63 == 0))
    · rfl
    · exfalso
      simp at hc
      have hb : hbig p q = 0 := by
        unfold hbig fabs
        rw [hc.1, hc.2]; split <;> rfl
      have := hlo
      rw [hb, val_zero] at this
      have := Cx.p2_pos (-500)
      grind
  have hlt : lt (p % 2 ^ 63) (q % 2 ^ 63) = (Ieee.double.order (fabs p) (fabs q) == some .lt) := rfl
  have hpair : (if lt (p % 2 ^ 63) (q % 2 ^ 63) = true then (q % 2 ^ 63, p % 2 ^ 63) else (p % 2 ^ 63, q % 2 ^ 63)) = (hbig p q, hsmall p q) := by
    rw [hlt]; unfold hbig hsmall; split <;> rfl
  have hsq : ∀ w : World, (Extern.MathSqrt.sqrt #[.float .f64 (ht p q)]).run Try.prog w = .ok (.float .f64 (fsqrt (ht p q))) w := by
    intro w
    have hq : FloatKind.f64.format.sqrt (ht p q) = some (fsqrt (ht p q)) := q1
    show Sem.run Try.prog (match FloatKind.f64.format.sqrt (ht p q) with | some r => pure (Value.float .f64 r) | none => _) w = _
    rw [hq]
    rfl
  have e1 : fdiv (hsmall p q) (hbig p q) = hr p q := rfl
  have e2 : fadd (fmul (hr p q) (hr p q)) Extern.MathAsm.one = ht p q := rfl
  have e3 : fmul (fsqrt (ht p q)) (hbig p q) = fhyp p q := rfl
  have f1 : fin Extern.MathAsm.one := fin_one
  show ((Sem.run Try.prog (ite _ _ (ite _ _ (ite _ _ _))) w).andThen _) = _
  rw [if_neg (Bool.eq_false_iff.1 c1), if_neg (Bool.eq_false_iff.1 c2), if_neg (Bool.eq_false_iff.1 c3), hpair]
  simp [run_asm_div _ g1, run_asm_mul _ g2 g2, run_asm_add _ m1 f1, e1, e2, hsq, run_asm_mul _ q2 fb, e3, Result.andThen]

/-- math.Hypot. -/
theorem hypot_any (p q : Nat) (w : World) (h : HypOk p q) : Calls Try.prog 53 #[.float .f64 p, .float .f64 q] w fun e w' => e = .returned (.float .f64 (fhypt p q)) ∧ w = w' := by
  have ha := fun w => arch_hyp p q w h
  go_enter Try.func53, Try.ntmps53
  go_wp2
  go_ret
  exact ⟨rfl, rfl⟩
/-- cmplx.Abs. -/
theorem cabs_any (p q : Nat) (w : World) (h : HypOk p q) : Calls Try.prog 46 #[.complex .f64 p q] w fun e w' => e = .returned (.float .f64 (fhypt p q)) ∧ w = w' := by
  go_enter Try.func46, Try.ntmps46
  go_wp2_with (go_at_call 53; refine (hypot_any _ _ _ h).mono ?_; rintro e w' ⟨rfl, rfl⟩)
  go_ret
  exact ⟨rfl, rfl⟩
/-- impl.Abs. -/
theorem abs_any (p q : Nat) (w : World) (h : HypOk p q) : Calls Try.prog 31 #[.float .f64 p, .float .f64 q] w fun e w' => e = .returned (.float .f64 (fhypt p q)) ∧ w = w' := by
  go_enter Try.func31, Try.ntmps31
  go_wp2_with (go_at_call 46; refine (cabs_any _ _ _ h).mono ?_; rintro e w' ⟨rfl, rfl⟩)
  go_ret
  exact ⟨rfl, rfl⟩
end Go.Proofs.Ytigckpmeppddcaa
