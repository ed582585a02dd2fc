/- FnScript: a script of conjugates, roots, quarter and half turns changes absolute values and phases as these do, near by 1000 and 1000 absolute values, as long as no root is taken near the negative real axis: for every input (at most 40 steps; whole parts of at most 1024 in size, not both 0; else nothing is asked). -/
import Derived.Test.YtigckpmeppddcaaLifti
import Derived.Test.YtigckpmeppddcaaLift
import Derived.Test.YtigckpmeppddcaaHead
set_option linter.unusedVariables false
namespace Go.Proofs.Ytigckpmeppddcaa
open Go.ChangeShapes Go.WideShapes Go.ChangeAt Go.RowKit Go.Deep

set_option maxRecDepth 100000 in
theorem lifted_fnScript (os : Os) (started : os.Started) (H : Type) (enc : TypeId × Value → H) :
    ReturnsInHanded {} Try.checked os 17 .any (Rows.fnScriptSpec.pre6 enc Try.prog Try.f17 Rows.fnScriptRow.domain false) (Rows.fnScriptSpec.post enc Try.prog Try.f17 false true false false) := by
  refine returnsInHanded_of_change (C := Try.checked) own started (by kernel_rfl) Try.func17
    (ChangeSpec.witness6 (enc := enc) (C := Try.checked) false ⟨#[], #[.slice none 0 0, .float .f64 0, .float .f64 0], []⟩ 8 (by kernel_rfl) (by kernel_rfl) (by kernel_rfl) (by kernel_rfl)) ?_
  intro W base args ds gs before hval0 hW hcnd _
  have hval : ∀ (j : Nat) t v, Try.f17.params[j]? = some t → args[j]? = some v → Value.okWide Try.prog W .any base t v := hval0
  have hW' := hW
  obtain ⟨p, q, hA0, hV, rfl, hfz, hnd⟩ := hW
  have hA : DataW.TrodAll enc Try.prog W 0 (fun _ => true) true Try.f17.params.toList args.toList ds p := hA0
  rw [Try.params17] at hA hval
  obtain ⟨v0, vs0, d0, ds0, p0, q0, hargs, rfl, rfl, h0, r0⟩ := trodAll_cons hA
  obtain ⟨v1, vs1, d1, ds1, p1, q1, rfl, rfl, rfl, h1, r1⟩ := trodAll_cons r0
  obtain ⟨v2, vs2, d2, ds2, p2, q2, rfl, rfl, rfl, h2, r2⟩ := trodAll_cons r1
  obtain ⟨rfl, rfl, rfl⟩ := trodAll_nil r2
  obtain rfl : args = #[v0, v1, v2] := by cases args; simp_all
  obtain ⟨rfl, rfl⟩ := trodVars_none hV
  obtain ⟨a0, len0, cap0, rfl⟩ := okWide_slice Try.underlying28 (hval 0 28 v0 rfl rfl)
  have k0 := h0
  have lt0 : ∀ x ∈ p0, x.block < W.heap.size := by obtain ⟨m, hm⟩ := k0; exact DataW.trod_lt m _ _ _ hm
  obtain ⟨z0, w0⟩ : ∃ Z, IRow W a0 len0 Z := by
    obtain ⟨fuel, hf⟩ := h0
    exact open_irow Try.underlying28 Try.underlying3 (by kernel_rfl) hf
  obtain ⟨a1, rfl, rfl, rfl, w1⟩ := open_float Try.underlying24 (hval 1 24 v1 rfl rfl) h1
  have b1 : a1 < 18446744073709551616 := by simpa [Lit.wf] using w1
  obtain ⟨a2, rfl, rfl, rfl, w2⟩ := open_float Try.underlying24 (hval 2 24 v2 rfl rfl) h2
  have b2 : a2 < 18446744073709551616 := by simpa [Lit.wf] using w2
  clear hA0 hval0
  refine (script_walk a0 len0 cap0 z0 a1 a2 W w0 b1 b2).mono fun e W' ⟨he, bel⟩ => ?_
  subst he
  exact ⟨_, rfl, _, _, _, [], _, [], hW', trodAll_mk1 (shut_bool Try.underlying4 _), (trodAll_cons_mk (Below.trod laidOut (by kernel_rfl) (of_decide_eq_true (by kernel_rfl)) k0 bel lt0) (trodAll_cons_mk (shut_float Try.underlying24 w1) (trodAll_cons_mk (shut_float Try.underlying24 w2) trodAll_mk0))), rfl, bel.frame _, fun h => by cases h⟩

theorem facts_fnScript : joinedFacts Try.checked.prog 17 Try.f17 Rows.fnScriptSpec Rows.fnScriptRow = true :=
  joined_of _ _ _ _ _ may_enter lifts_final make_is rfl rfl (by as_aux_lemma => kernel_rfl) (by as_aux_lemma => kernel_rfl) (by as_aux_lemma => kernel_rfl) (by as_aux_lemma => kernel_rfl) (by as_aux_lemma => kernel_rfl)

theorem over_fnScript : Rows.fnScriptRow.holds Try.pinned (OpenSpec.ofChange Rows.fnScriptSpec) :=
  OpenClaim.holds_of_wide 17 Try.f17 rfl rfl rfl rfl rfl rfl rfl ⟨rfl, rfl, rfl, rfl, rfl⟩ rfl rfl rfl rfl rfl (by kernel_rfl) Try.func17 facts_fnScript
    (of_decide_eq_true (by kernel_rfl)) (by unfold Func.isWrapper; first | (rw [if_pos (by decide +kernel)]; kernel_rfl) | (rw [if_neg (by decide +kernel)]; exact ⟨rfl, rfl⟩))
    (fun os started H enc _ => lifted_fnScript os started H enc)

/-- THE STATEMENT. -/
theorem fnScript_holds : Rows.FnScriptSaid := over_fnScript
end Go.Proofs.Ytigckpmeppddcaa
