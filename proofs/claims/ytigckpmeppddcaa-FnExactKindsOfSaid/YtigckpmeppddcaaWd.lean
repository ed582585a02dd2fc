/- The contracts of 'near' and of spec.Times; worlds that differ by draws alone. -/
import Derived.Test.YtigckpmeppddcaaWc
set_option linter.unusedVariables false
namespace Go.Proofs.Ytigckpmeppddcaa
open Go.RowKit Cx

/-- Draws alone lie between two worlds. -/
def Drew (w w' : World) : Prop := ∃ n, w' = w.drewN n
theorem Drew.refl (w : World) : Drew w w := ⟨0, rfl⟩
theorem Drew.more {w w' : World} (h : Drew w w') (n : Nat) : Drew w (w'.drewN n) := by
  obtain ⟨k, rfl⟩ := h
  exact ⟨k + n, World.drewN_drewN _ _ _⟩
theorem Drew.trans {a b c : World} (h : Drew a b) (h' : Drew b c) : Drew a c := by
  obtain ⟨k, rfl⟩ := h'
  exact h.more k
theorem Drew.cell {w w' : World} (h : Drew w w') {a : Addr} {v : Value} (hc : w.cell? a = some v) : w'.cell? a = some v := by
  obtain ⟨k, rfl⟩ := h; exact hc
theorem Drew.below {w w' : World} (h : Drew w w') : Below w.heap.size w w' := by
  obtain ⟨k, rfl⟩ := h; exact below_drewN (Below.refl _ _) k
theorem quietL {P : Program} {f : FuncId} {args : Array Value} {w : World} {n : Nat} {v : Value}
    (h : Calls P f args (w.drewN n) fun e w' => e = .returned v ∧ w.drewN n = w') : Calls P f args (w.drewN n) fun e w'' => e = .returned v ∧ ∃ m, w'' = w.drewN m :=
  h.mono fun _ _ ⟨he, hm⟩ => ⟨he, n, hm.symm⟩

theorem near_yes (a b s : Nat) (w : World) (ha : fin a) (hb : fin b) (hs : fin s) (h : NearOk a b s) :
    Calls Try.prog 32 #[.float .f64 a, .float .f64 b, .float .f64 s] w fun e w' => e = .returned (.bool true) ∧ w = w' := by
  have f1 := h.nf.fd
  have f2 := h.nf.f1
  have f3 := h.nf.f2
  have f4 := h.nf.f3
  have c1 := h.le
  have c2 := h.ge
  have fp := fin_part
  unfold Cx.part at *
  clear h
  go_enter Try.func32, Try.ntmps32
  go_wp2
  go_ret
  exact ⟨rfl, rfl⟩

theorem near_no (a b s : Nat) (w : World) (ha : fin a) (hb : fin b) (hs : fin s) (hf : NearFin a b s) (h : ¬ NearOk a b s) :
    Calls Try.prog 32 #[.float .f64 a, .float .f64 b, .float .f64 s] w fun e w' => e = .returned (.bool false) ∧ w = w' := by
  have f1 := hf.fd
  have f2 := hf.f1
  have f3 := hf.f2
  have f4 := hf.f3
  have fp := fin_part
  by_cases c1 : val (fsub a b) ≤ val (fmul s Cx.part)
  · have c2 : ¬ val (fmul (fneg s) Cx.part) ≤ val (fsub a b) := fun h2 => h ⟨hf, c1, h2⟩
    unfold Cx.part at *
    clear h hf
    go_enter Try.func32, Try.ntmps32
    go_wp2
    go_ret
    exact ⟨rfl, rfl⟩
  · unfold Cx.part at *
    clear h hf
    go_enter Try.func32, Try.ntmps32
    go_wp2
    go_ret
    exact ⟨rfl, rfl⟩

/-- The words that spec.Times reckons. -/
def tre (x y u v : Nat) : Nat := fsub (fmul x u) (fmul y v)
def tim (x y u v : Nat) : Nat := fadd (fmul x v) (fmul y u)
theorem times_any (x y u v : Nat) (w : World) (hx : fin x) (hy : fin y) (hu : fin u) (hv : fin v) (h1 : fin (fmul x u)) (h2 : fin (fmul y v)) (h3 : fin (fmul x v)) (h4 : fin (fmul y u)) :
    Calls Try.prog 37 #[.float .f64 x, .float .f64 y, .float .f64 u, .float .f64 v] w fun e w' => e = .returned (.tuple #[.float .f64 (tre x y u v), .float .f64 (tim x y u v)]) ∧ w = w' := by
  go_enter Try.func37, Try.ntmps37
  go_wp2
  go_ret2
  exact ⟨rfl, rfl⟩

/-- Where the cells of two rows of one length lie. -/
def Rows2 (w : World) (a0 a1 : Option Addr) (n : Nat) (X Y : Nat → Nat) : Prop :=
  ∀ i, i < n → ∃ b0 o0 b1 o1, a0 = some ⟨b0, o0, none⟩ ∧ a1 = some ⟨b1, o1, none⟩ ∧ ∀ i, i < n → w.cell? ⟨b0, o0 + i, none⟩ = some (.float .f64 (X i)) ∧ w.cell? ⟨b1, o1 + i, none⟩ = some (.float .f64 (Y i))
theorem rows2 {w : World} {a0 a1 : Option Addr} {n : Nat} {X Y : Nat → Nat} (h0 : FRow w a0 n X) (h1 : FRow w a1 n Y) : Rows2 w a0 a1 n X Y := by
  intro i hi
  obtain ⟨_, h0⟩ := h0
  obtain ⟨_, h1⟩ := h1
  rcases h0 with h | ⟨b0, o0, rfl, h0⟩
  · omega
  rcases h1 with h | ⟨b1, o1, rfl, h1⟩
  · omega
  exact ⟨b0, o0, b1, o1, rfl, rfl, fun i hi => ⟨(h0 i hi).2, (h1 i hi).2⟩⟩
theorem FRow.drew {w w' : World} {a : Option Addr} {n : Nat} {X : Nat → Nat} (h : FRow w a n X) (hd : Drew w w') : FRow w' a n X := by
  obtain ⟨hl, h⟩ := h
  refine ⟨hl, ?_⟩
  rcases h with h | ⟨b, o, rfl, h⟩
  · exact Or.inl h
  · exact Or.inr ⟨b, o, rfl, fun i hi => ⟨(h i hi).1, hd.cell (h i hi).2⟩⟩
end Go.Proofs.Ytigckpmeppddcaa
