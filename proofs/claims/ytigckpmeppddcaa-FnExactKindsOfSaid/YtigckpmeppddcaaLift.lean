/- How a slice of floats that came in is opened: its length and the words of its cells. -/
import Derived.Test.YtigckpmeppddcaaWb
import Derived.ProofKit
import Derived.OpenShut
import Derived.ChangeOld
import Derived.Below
import Derived.Deep.Slices
set_option linter.unusedVariables false
namespace Go.Proofs.Ytigckpmeppddcaa
open Go.ChangeShapes Go.WideShapes Go.ChangeAt Go.RowKit Go.Deep

theorem own : ownKnob Try.prog.godebug = none := by kernel_rfl
theorem laidOut : laidOutB Try.prog = true := by kernel_rfl

section
variable {H : Type} {enc : TypeId × Value → H} {P : Program} {w : World} {base : Nat} {held : Bool}

theorem trod_float {spare : Nat → Bool} {t : TypeId} {k : FloatKind} {fuel : Nat} {v : Value} {x : DataW H × List MemPlace} (ht : P.underlying t = some (.float k)) (h : DataW.trod enc P w base spare held fuel t [v] = some x) :
    ∃ b, v = .float k b ∧ (Lit.float k b).wf = true := by
  cases fuel with
  | zero => simp [DataW.trod] at h
  | succ n =>
    unfold DataW.trod at h
    rw [ht] at h
    split at h <;> simp_all

theorem open_floats {t e : TypeId} {fuel : Nat} {a : Option Addr} {len cap : Nat} {x : DataW H × List MemPlace} (ht : P.underlying t = some (.slice e)) (he : P.underlying e = some (.float .f64)) (hc : P.cellsOf e = 1)
    (h : DataW.trod enc P w base (fun _ => true) held fuel t [.slice a len cap] = some x) : ∃ Z, FRow w a len Z := by
  rcases open_slice1 ht hc h with ⟨h0, _⟩ | ⟨a', len', cap', m, n, V, D, Pl, hcs, hb, hl, hm, hmm, _, hx⟩
  · simp at h0
    obtain ⟨rfl, rfl, rfl⟩ := h0
    exact ⟨fun _ => 0, by decide, Or.inl rfl⟩
  · simp at hcs
    obtain ⟨rfl, rfl, rfl⟩ := hcs
    simp only [if_true] at hmm
    subst hmm
    unfold maxLen at hm
    obtain ⟨Z, hZ⟩ := choose_lt (α := Nat) (p := fun i b => V i = .float .f64 b ∧ (Lit.float .f64 b).wf = true) (fun i hi => trod_float he (hx i hi).2)
    refine ⟨Z, by omega, ?_⟩
    rcases Nat.eq_zero_or_pos len with h0 | hpos
    · exact Or.inl h0
    · obtain ⟨b, off, spot⟩ := a'
      have hc0 := (hx 0 (by omega)).1
      have hspot : spot = none := by simpa [Addr.add] using World.cell?_spot hc0
      subst hspot
      refine Or.inr ⟨b, off, rfl, fun i hi => ?_⟩
      have hi2 : i < m := by omega
      have h1 := (hx i hi2).1
      rw [(hZ i hi2).1] at h1
      have h2 := (hZ i hi2).2
      simp [Lit.wf] at h2
      refine ⟨h2, ?_⟩
      by_cases h0 : i = 0
      · subst h0; simpa [Addr.add] using h1
      · simpa [Addr.add, h0] using h1
end
end Go.Proofs.Ytigckpmeppddcaa
