/- FnExactKindsOf: the walk. -/
import Derived.Test.YtigckpmeppddcaaKe
set_option linter.unusedVariables false
namespace Go.Proofs.Ytigckpmeppddcaa
open Go.RowKit Cx

theorem own_below {w w' : World} {B : Nat} {e : TypeId} {v : Value} {n : Nat} {xs : List Value} (h : w.ownsRow B e 1 v n xs) (hb : Below w.heap.size w w') : w'.ownsRow B e 1 v n xs := by
  refine h.kept (Below.grownBy hb none) ?_
  cases hv : v.ownBlock
  · exact Or.inl rfl
  · right; simp
theorem own_drew {w w' : World} {B : Nat} {e : TypeId} {v : Value} {n : Nat} {xs : List Value} (h : w.ownsRow B e 1 v n xs) (hd : Drew w w') : w'.ownsRow B e 1 v n xs := by
  obtain ⟨q, rfl⟩ := hd
  exact h
theorem own_grown {w w' : World} {B : Nat} {e : TypeId} {v : Value} {n : Nat} {xs : List Value} {g : Option Nat} (h : w.ownsRow B e 1 v n xs) (hg : w.grownBy w' g) (hne : v.ownBlock = none ∨ v.ownBlock ≠ g) : w'.ownsRow B e 1 v n xs := h.kept hg hne
theorem bel_below {w w' w0 : World} (h : Below w0.heap.size w0 w) (hb : Below w.heap.size w w') : Below w0.heap.size w0 w' := h.trans (hb.mono h.size)
theorem bel_drew {w w' w0 : World} (h : Below w0.heap.size w0 w) (hd : Drew w w') : Below w0.heap.size w0 w' := h.trans (hd.below.mono h.size)
theorem bel_grown {w w' w0 : World} {g : Option Nat} (h : Below w0.heap.size w0 w) (hg : w.grownBy w' g) (hr : ∀ j, g = some j → w0.heap.size ≤ j) : Below w0.heap.size w0 w' := h.grown hg h.size hr
theorem drew_size {w w' : World} (hd : Drew w w') : w'.heap.size = w.heap.size := by
  obtain ⟨q, rfl⟩ := hd; rfl
theorem frow_at {B : Nat} {w : World} {a : Option Addr} {n c : Nat} {X : Nat → Nat} (h : w.ownsRow B 24 1 (.slice a n c) n (flist X n)) (hX : ∀ i, i < n → X i < 18446744073709551616) : FRow w a n X := by
  obtain ⟨a', c', e, hr⟩ := frow_of h hX
  injection e with e1 e2 e3
  rw [e1]; exact hr

theorem jrow_at {B : Nat} {w : World} {a : Option Addr} {n c : Nat} {K : Nat → Int} (h : w.ownsRow B 3 1 (.slice a n c) n (ilist K n)) : JRow w a n K := by
  obtain ⟨a', c', e, hr⟩ := jrow_of h
  injection e with e1 e2 e3
  rw [e1]; exact hr
theorem ne_rows {w w' : World} {B B' C : Nat} {e e' : TypeId} {v v' : Value} {n n' : Nat} {xs xs' : List Value} (h : w.ownsRow B e 1 v n xs) (h' : w'.ownsRow B' e' 1 v' n' xs') (hC : w.heap.size ≤ C) (hB : C ≤ B') : v.ownBlock = none ∨ v.ownBlock ≠ v'.ownBlock := by
  cases hv : v.ownBlock with
  | none => exact Or.inl rfl
  | some j =>
    right
    intro e
    have a1 := (h.lt j hv).2
    have a2 := (h'.lt j e.symm).1
    omega

/-- A row's block lies below, or from on. -/
theorem ne_block {w : World} {B g : Nat} {e : TypeId} {v : Value} {n : Nat} {xs : List Value} (h : w.ownsRow B e 1 v n xs) (hg : w.heap.size ≤ g ∨ g < B) : v.ownBlock ≠ some g := by
  intro e
  have := h.lt g e
  omega

set_option maxHeartbeats 4000000 in
set_option maxRecDepth 100000 in
theorem exactKinds_walk (a0 : Option Addr) (n0 c0 : Nat) (X : Nat → Nat) (a1 : Option Addr) (n1 c1 : Nat) (Y : Nat → Nat) (w : World) (h0 : FRow w a0 n0 X) (h1 : FRow w a1 n1 Y) :
    Calls Try.prog 4 #[.slice a0 n0 c0, .slice a1 n1 c1] w fun e w' => e = .returned (.bool true) ∧ Below w.heap.size w w' := by
  have hl0 := h0.1
  have hl1 := h1.1
  by_cases b0 : 1048576 < n0
  · have b0' : (1048576 : Int) < (n0 : Int) := by omega
    clear h0 h1
    go_enter Try.func4, Try.ntmps4
    go_wp2
    go_ret
    exact ⟨rfl, Below.refl _ _⟩
  have b0' : (n0 : Int) ≤ 1048576 := by omega
  by_cases b1 : 1048576 < n1
  · have b1' : (1048576 : Int) < (n1 : Int) := by omega
    clear h0 h1
    go_enter Try.func4, Try.ntmps4
    go_wp2
    go_ret
    exact ⟨rfl, Below.refl _ _⟩
  have b1' : (n1 : Int) ≤ 1048576 := by omega
  have wX := Lib.hid h0.words
  have wY := Lib.hid h1.words
  have F0 := Lib.hid h0
  have F1 := Lib.hid h1
  have hL : Hid (min n0 n1 ≤ 1048576) := Lib.hid (by omega)
  clear h0 h1
  go_enter Try.func4, Try.ntmps4
  have Q : Hid (Below w.heap.size w w) := Lib.hid (Below.refl _ _)
  -- the reference's kinds
  go_wp2_with fail
  refine (toF_any _ _ _ X _ (F0.out.later Q.out) (by omega)).mono ?_
  rintro e w1 ⟨vw1, rfl, rfl, o, q⟩
  have Q := Lib.hid (bel_below Q.out q)
  have O1 := Lib.hid o
  clear o q
  go_wp2_with fail
  refine (toF_any _ _ _ Y _ (F1.out.later Q.out) (by omega)).mono ?_
  rintro e w2 ⟨vw2, rfl, rfl, o, q⟩
  have O1 := Lib.hid (own_below O1.out q)
  have Q := Lib.hid (bel_below Q.out q)
  have O2 := Lib.hid o
  clear o q
  go_wp2_with fail
  refine (kindsS_any _ _ _ _ _ _ X Y _ (frow_at O1.out wX.out) (frow_at O2.out wY.out) (by omega) (by omega)).mono ?_
  rintro e w3 ⟨v0, rfl, o, q⟩
  obtain ⟨az, cz', rfl, jj⟩ := jrow_of o
  clear jj
  have Q := Lib.hid (bel_below Q.out q)
  have O3 := Lib.hid o
  have P3 := Lib.hid o
  have Q3s := Lib.hid (Q.out.size)
  clear o q O1 O2
  -- the program's kinds
  go_wp2_with fail
  refine (toF_any _ _ _ X _ (F0.out.later Q.out) (by omega)).mono ?_
  rintro e w4 ⟨vw4, rfl, rfl, o, q⟩
  have O3 := Lib.hid (own_below O3.out q)
  have Q := Lib.hid (bel_below Q.out q)
  have O4 := Lib.hid o
  have T4 := Lib.hid ((o.lt _ rfl).2)
  clear o q
  go_wp2_with fail
  refine (toF_any _ _ _ Y _ (F1.out.later Q.out) (by omega)).mono ?_
  rintro e w5 ⟨vw5, rfl, rfl, o, q⟩
  have O3 := Lib.hid (own_below O3.out q)
  have O4 := Lib.hid (own_below O4.out q)
  have Q := Lib.hid (bel_below Q.out q)
  have O5 := Lib.hid o
  have T5 := Lib.hid ((o.lt _ rfl).2)
  have O5c := Lib.hid o
  clear o q
  have N3 := Lib.hid (ne_block (g := w3.heap.size) P3.out (Or.inl (Nat.le_refl _)))
  have N3b := Lib.hid (ne_block (g := w4.heap.size) P3.out (Or.inl (Nat.le_of_lt T4.out)))
  go_wp2_with fail
  refine (kindsI_any _ _ _ _ _ _ X Y _ (frow_at O4.out wX.out) (frow_at O5.out wY.out) (by omega) (by omega)).mono ?_
  rintro e w6 ⟨vg, rfl, o, q⟩
  obtain ⟨ag, cg, rfl, jj⟩ := jrow_of o
  clear jj
  have O3 := Lib.hid (own_below O3.out q)
  have O4 := Lib.hid (own_below O4.out q)
  have O5 := Lib.hid (own_below O5.out q)
  have Q := Lib.hid (bel_below Q.out q)
  have N6 := Lib.hid (ne_block (g := w3.heap.size) o (Or.inr (Nat.lt_trans T4.out T5.out)))
  have N6b := Lib.hid (ne_block (g := w4.heap.size) o (Or.inr T5.out))
  have N36 := Lib.hid (ne_rows P3.out o (Nat.le_refl _) (Nat.le_of_lt (Nat.lt_trans T4.out T5.out)))
  have G6 := Lib.hid (show ∀ j, (Value.slice ag (min n0 n1) cg).ownBlock = some j → w.heap.size ≤ j from fun j hj => Nat.le_trans (Nat.le_trans Q3s.out (Nat.le_of_lt (Nat.lt_trans T4.out T5.out))) (o.lt j hj).1)
  have N54 := Lib.hid (ne_block (g := w3.heap.size) O5c.out (Or.inr T4.out))
  have O6 := Lib.hid o
  clear o q P3
  go_wp2_with fail
  refine (eqI_any _ _ _ _ _ (fun i => kind (X i) (Y i)) _ (jrow_at O6.out) (jrow_at O3.out)).mono ?_
  rintro e w7 ⟨rfl, d⟩
  have O3 := Lib.hid (own_drew O3.out d)
  have O4 := Lib.hid (own_drew O4.out d)
  have O5 := Lib.hid (own_drew O5.out d)
  have O6 := Lib.hid (own_drew O6.out d)
  have Q := Lib.hid (bel_drew Q.out d)
  clear d
  go_wp2_with fail
  refine (toF_any _ _ _ X _ (F0.out.later Q.out) (by omega)).mono ?_
  rintro e w8 ⟨vw8, rfl, rfl, o, q⟩
  have O3 := Lib.hid (own_below O3.out q)
  have O4 := Lib.hid (own_below O4.out q)
  have O5 := Lib.hid (own_below O5.out q)
  have O6 := Lib.hid (own_below O6.out q)
  have Q := Lib.hid (bel_below Q.out q)
  have OT := Lib.hid o
  clear o q
  go_wp2_with fail
  refine (eqF_any _ _ _ _ _ X _ (frow_at O4.out wX.out) (frow_at OT.out wX.out)).mono ?_
  rintro e w9 ⟨rfl, d⟩
  have O3 := Lib.hid (own_drew O3.out d)
  have O4 := Lib.hid (own_drew O4.out d)
  have O5 := Lib.hid (own_drew O5.out d)
  have O6 := Lib.hid (own_drew O6.out d)
  have Q := Lib.hid (bel_drew Q.out d)
  clear d
  clear OT
  go_wp2_with fail
  refine (toF_any _ _ _ Y _ (F1.out.later Q.out) (by omega)).mono ?_
  rintro e w10 ⟨vw10, rfl, rfl, o, q⟩
  have O3 := Lib.hid (own_below O3.out q)
  have O4 := Lib.hid (own_below O4.out q)
  have O5 := Lib.hid (own_below O5.out q)
  have O6 := Lib.hid (own_below O6.out q)
  have Q := Lib.hid (bel_below Q.out q)
  have OT := Lib.hid o
  clear o q
  go_wp2_with fail
  refine (eqF_any _ _ _ _ _ Y _ (frow_at O5.out wY.out) (frow_at OT.out wY.out)).mono ?_
  rintro e w11 ⟨rfl, d⟩
  have O3 := Lib.hid (own_drew O3.out d)
  have O4 := Lib.hid (own_drew O4.out d)
  have O5 := Lib.hid (own_drew O5.out d)
  have O6 := Lib.hid (own_drew O6.out d)
  have Q := Lib.hid (bel_drew Q.out d)
  clear d
  clear OT
  -- marks on the arguments
  go_wp2_with fail
  refine (markF_any _ _ _ _ X 1 _ O4.out (by omega) (by decide) (by decide)).mono ?_
  rintro e w12 ⟨rfl, g⟩
  have O3 := Lib.hid (own_grown O3.out g (Or.inr N3.out))
  have O6 := Lib.hid (own_grown O6.out g (Or.inr N6.out))
  have O5 := Lib.hid (own_grown O5.out g (Or.inr N54.out))
  have Q := Lib.hid (bel_grown Q.out g (fun j hj => by injection hj with hj; rw [← hj]; exact Q3s.out))
  clear g O4 N54
  go_wp2_with fail
  refine (markF_any _ _ _ _ Y (1 + n0) _ O5.out (by omega) (by omega) (by omega)).mono ?_
  rintro e w13 ⟨rfl, g⟩
  have O3 := Lib.hid (own_grown O3.out g (Or.inr N3b.out))
  have O6 := Lib.hid (own_grown O6.out g (Or.inr N6b.out))
  have Q := Lib.hid (bel_grown Q.out g (fun j hj => by injection hj with hj; rw [← hj]; exact Nat.le_trans Q3s.out (Nat.le_of_lt T4.out)))
  clear g O5
  go_wp2_with fail
  refine (eqI_any _ _ _ _ _ (fun i => kind (X i) (Y i)) _ (jrow_at O6.out) (jrow_at O3.out)).mono ?_
  rintro e w14 ⟨rfl, d⟩
  have O3 := Lib.hid (own_drew O3.out d)
  have O6 := Lib.hid (own_drew O6.out d)
  have Q := Lib.hid (bel_drew Q.out d)
  clear d
  -- marks on the result
  go_wp2_with fail
  refine (markI_any _ _ _ (fun i => kind (X i) (Y i)) 1 _ O6.out hL.out (by decide) (by decide)).mono ?_
  rintro e w15 ⟨rfl, o, g⟩
  have O3 := Lib.hid (own_grown O3.out g N36.out)
  have O6 := Lib.hid o
  have Q := Lib.hid (bel_grown Q.out g G6.out)
  clear g o
  go_wp2_with fail
  refine (heldI_any _ _ _ 1 _ (jrow_at O6.out) hL.out (by decide) (by decide)).mono ?_
  rintro e w16 ⟨rfl, d⟩
  have O3 := Lib.hid (own_drew O3.out d)
  have O6 := Lib.hid (own_drew O6.out d)
  have Q := Lib.hid (bel_drew Q.out d)
  clear d
  -- another call
  go_wp2_with fail
  refine (toF_any _ _ _ X _ (F0.out.later Q.out) (by omega)).mono ?_
  rintro e w17 ⟨vw17, rfl, rfl, o, q⟩
  have O3 := Lib.hid (own_below O3.out q)
  have O6 := Lib.hid (own_below O6.out q)
  have Q := Lib.hid (bel_below Q.out q)
  have O7 := Lib.hid o
  clear o q
  go_wp2_with fail
  refine (toF_any _ _ _ Y _ (F1.out.later Q.out) (by omega)).mono ?_
  rintro e w18 ⟨vw18, rfl, rfl, o, q⟩
  have O3 := Lib.hid (own_below O3.out q)
  have O6 := Lib.hid (own_below O6.out q)
  have O7 := Lib.hid (own_below O7.out q)
  have Q := Lib.hid (bel_below Q.out q)
  have O8 := Lib.hid o
  clear o q
  go_wp2_with fail
  refine (kindsI_any _ _ _ _ _ _ X Y _ (frow_at O7.out wX.out) (frow_at O8.out wY.out) (by omega) (by omega)).mono ?_
  rintro e w19 ⟨vh, rfl, o, q⟩
  obtain ⟨ah, ch, rfl, jj⟩ := jrow_of o
  clear jj
  have O3 := Lib.hid (own_below O3.out q)
  have O6 := Lib.hid (own_below O6.out q)
  have Q := Lib.hid (bel_below Q.out q)
  have O9 := Lib.hid o
  clear o q O7 O8
  go_wp2_with fail
  refine (eqI_any _ _ _ _ _ (fun i => kind (X i) (Y i)) _ (jrow_at O9.out) (jrow_at O3.out)).mono ?_
  rintro e w20 ⟨rfl, d⟩
  have O3 := Lib.hid (own_drew O3.out d)
  have O6 := Lib.hid (own_drew O6.out d)
  have O9 := Lib.hid (own_drew O9.out d)
  have Q := Lib.hid (bel_drew Q.out d)
  clear d
  go_wp2_with fail
  refine (heldI_any _ _ _ 1 _ (jrow_at O6.out) hL.out (by decide) (by decide)).mono ?_
  rintro e w21 ⟨rfl, d⟩
  have O3 := Lib.hid (own_drew O3.out d)
  have O6 := Lib.hid (own_drew O6.out d)
  have O9 := Lib.hid (own_drew O9.out d)
  have Q := Lib.hid (bel_drew Q.out d)
  clear d
  go_wp2
  go_ret
  exact ⟨rfl, Q.out⟩
end Go.Proofs.Ytigckpmeppddcaa
