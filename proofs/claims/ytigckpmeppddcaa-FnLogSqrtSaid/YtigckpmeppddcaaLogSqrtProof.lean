/- FnLogSqrt: the logarithm of the root of a number is near the half of its logarithm, by 100: for every input (whole parts of at most 2^20 in size, not both 0; else nothing is asked). -/
import Derived.Test.YtigckpmeppddcaaLogSqrt
import Derived.Test.YtigckpmeppddcaaLift
import Derived.Test.YtigckpmeppddcaaHead
set_option linter.unusedVariables false
namespace Go.Proofs.Ytigckpmeppddcaa
open Go.ChangeShapes Go.WideShapes Go.ChangeAt Go.RowKit Go.Deep

set_option maxRecDepth 100000 in
theorem lifted_fnLogSqrt (os : Os) (started : os.Started) (H : Type) (enc : TypeId × Value → H) :
    ReturnsInHanded {} Try.checked os 20 .any (Rows.fnLogSqrtSpec.pre6 enc Try.prog Try.f20 Rows.fnLogSqrtRow.domain false) (Rows.fnLogSqrtSpec.post enc Try.prog Try.f20 false true false false) := by
  refine returnsInHanded_of_change (C := Try.checked) own started (by kernel_rfl) Try.func20
    (ChangeSpec.witness6 (enc := enc) (C := Try.checked) false ⟨#[], #[.float .f64 0, .float .f64 0], []⟩ 8 (by kernel_rfl) (by kernel_rfl) (by kernel_rfl) (by kernel_rfl)) ?_
  intro W base args ds gs before hval0 hW hcnd _
  have hval : ∀ (j : Nat) t v, Try.f20.params[j]? = some t → args[j]? = some v → Value.okWide Try.prog W .any base t v := hval0
  have hW' := hW
  obtain ⟨p, q, hA0, hV, rfl, hfz, hnd⟩ := hW
  have hA : DataW.TrodAll enc Try.prog W 0 (fun _ => true) true Try.f20.params.toList args.toList ds p := hA0
  rw [Try.params20] at hA hval
  obtain ⟨v0, vs0, d0, ds0, p0, q0, hargs, rfl, rfl, h0, r0⟩ := trodAll_cons hA
  obtain ⟨v1, vs1, d1, ds1, p1, q1, rfl, rfl, rfl, h1, r1⟩ := trodAll_cons r0
  obtain ⟨rfl, rfl, rfl⟩ := trodAll_nil r1
  obtain rfl : args = #[v0, v1] := by cases args; simp_all
  obtain ⟨rfl, rfl⟩ := trodVars_none hV
  obtain ⟨a0, rfl, rfl, rfl, w0⟩ := open_float Try.underlying24 (hval 0 24 v0 rfl rfl) h0
  have b0 : a0 < 18446744073709551616 := by simpa [Lit.wf] using w0
  obtain ⟨a1, rfl, rfl, rfl, w1⟩ := open_float Try.underlying24 (hval 1 24 v1 rfl rfl) h1
  have b1 : a1 < 18446744073709551616 := by simpa [Lit.wf] using w1
  clear hA0 hval0
  refine (logSqrt_walk a0 a1 W b0 b1).mono fun e W' ⟨he, bel⟩ => ?_
  subst he
  exact ⟨_, rfl, _, _, _, [], _, [], hW', trodAll_mk1 (shut_bool Try.underlying4 _), (trodAll_cons_mk (shut_float Try.underlying24 w0) (trodAll_cons_mk (shut_float Try.underlying24 w1) trodAll_mk0)), rfl, bel.frame _, fun h => by cases h⟩

theorem facts_fnLogSqrt : joinedFacts Try.checked.prog 20 Try.f20 Rows.fnLogSqrtSpec Rows.fnLogSqrtRow = true :=
  joined_of _ _ _ _ _ may_enter lifts_final make_is rfl rfl (by as_aux_lemma => kernel_rfl) (by as_aux_lemma => kernel_rfl) (by as_aux_lemma => kernel_rfl) (by as_aux_lemma => kernel_rfl) (by as_aux_lemma => kernel_rfl)

theorem over_fnLogSqrt : Rows.fnLogSqrtRow.holds Try.pinned (OpenSpec.ofChange Rows.fnLogSqrtSpec) :=
  OpenClaim.holds_of_wide 20 Try.f20 rfl rfl rfl rfl rfl rfl rfl ⟨rfl, rfl, rfl, rfl, rfl⟩ rfl rfl rfl rfl rfl (by kernel_rfl) Try.func20 facts_fnLogSqrt
    (of_decide_eq_true (by kernel_rfl)) (by unfold Func.isWrapper; first | (rw [if_pos (by decide +kernel)]; kernel_rfl) | (rw [if_neg (by decide +kernel)]; exact ⟨rfl, rfl⟩))
    (fun os started H enc _ => lifted_fnLogSqrt os started H enc)

/-- THE STATEMENT. -/
theorem fnLogSqrt_holds : Rows.FnLogSqrtSaid := over_fnLogSqrt
end Go.Proofs.Ytigckpmeppddcaa
