/- Rows of floats and of ints that the call itself made; the contract of toFloat64S. -/
import Derived.Test.YtigckpmeppddcaaKb
import Derived.Below
import Derived.OwnWalk
import Derived.Laws.OwnMore
set_option linter.unusedVariables false
namespace Go.Proofs.Ytigckpmeppddcaa
open Go.RowKit Cx

theorem info24 : (Try.prog.info? 24).map (fun i => (i.zero, i.size, i.bytes)) = some (some (.float .f64 0), 1, 8) := by kernel_rfl
theorem info3 : (Try.prog.info? 3).map (fun i => (i.zero, i.size, i.bytes)) = some (some (.int .i64 0), 1, 8) := by kernel_rfl

@[go_sem] theorem run_store_flt {P : Program} (w : World) (a : Addr) (m : Mode) (k : FloatKind) (x : Nat) : (store a (.float k x) m).run P w = stored P w a (.float k x) m := run_store P w a _ m rfl

/-- The cells of a row. -/
def flist (X : Nat → Nat) (n : Nat) : List Value := (List.range n).map fun i => Value.float .f64 (X i)
def ilist (K : Nat → Int) (n : Nat) : List Value := (List.range n).map fun i => Value.int .i64 (K i)
theorem flist_length (X : Nat → Nat) (n : Nat) : (flist X n).length = n := by simp [flist]
theorem ilist_length (K : Nat → Int) (n : Nat) : (ilist K n).length = n := by simp [ilist]
theorem flist_get {X : Nat → Nat} {n i : Nat} (h : i < n) : (flist X n)[i]? = some (.float .f64 (X i)) := by simp [flist, h]
theorem ilist_get {K : Nat → Int} {n i : Nat} (h : i < n) : (ilist K n)[i]? = some (.int .i64 (K i)) := by simp [ilist, h]
theorem flist_succ (X : Nat → Nat) (n : Nat) : flist X (n + 1) = flist X n ++ [.float .f64 (X n)] := by simp [flist, List.range_succ]
theorem ilist_succ (K : Nat → Int) (n : Nat) : ilist K (n + 1) = ilist K n ++ [.int .i64 (K n)] := by simp [ilist, List.range_succ]

/-- What is there of a row that came in or that was made: ints. -/
def JRow (w : World) (a : Option Addr) (len : Nat) (Z : Nat → Int) : Prop :=
  len ≤ 9223372036854775807 ∧ (len = 0 ∨ ∃ b off, a = some ⟨b, off, none⟩ ∧ ∀ i, i < len → w.cell? ⟨b, off + i, none⟩ = some (.int .i64 (Z i)))

theorem own_cells {B : Nat} {w : World} {e : TypeId} {v : Value} {n : Nat} {xs : List Value} (h : w.ownsRow B e 1 v n xs) : ∃ a c, v = .slice a n c ∧ n ≤ maxLen ∧ (n = 0 ∨ ∃ g, a = some ⟨g, 0, none⟩ ∧ B ≤ g ∧ g < w.heap.size ∧ ∀ i, i < n → w.cell? ⟨g, i, none⟩ = xs[i]?) := by
  rcases h.2 with ⟨rfl, rfl⟩ | ⟨g, cap, cur, rfl, hb, hg, hnc, hcm, hcs, ht⟩
  · exact ⟨_, _, rfl, by decide, Or.inl rfl⟩
  · refine ⟨_, _, rfl, Nat.le_trans hnc hcm, Or.inr ⟨g, rfl, hb, (h.lt g rfl).2, fun i hi => h.cellAt i (by omega)⟩⟩

theorem frow_of {B : Nat} {w : World} {v : Value} {n : Nat} {X : Nat → Nat} (h : w.ownsRow B 24 1 v n (flist X n)) (hX : ∀ i, i < n → X i < 18446744073709551616) : ∃ a c, v = .slice a n c ∧ FRow w a n X := by
  obtain ⟨a, c, rfl, hm, h0⟩ := own_cells h
  refine ⟨a, c, rfl, hm, ?_⟩
  rcases h0 with h0 | ⟨g, rfl, _, _, hc⟩
  · exact Or.inl h0
  · refine Or.inr ⟨g, 0, rfl, fun i hi => ⟨hX i hi, ?_⟩⟩
    rw [Nat.zero_add, hc i hi, flist_get hi]
theorem jrow_of {B : Nat} {w : World} {v : Value} {n : Nat} {K : Nat → Int} (h : w.ownsRow B 3 1 v n (ilist K n)) : ∃ a c, v = .slice a n c ∧ JRow w a n K := by
  obtain ⟨a, c, rfl, hm, h0⟩ := own_cells h
  refine ⟨a, c, rfl, hm, ?_⟩
  rcases h0 with h0 | ⟨g, rfl, _, _, hc⟩
  · exact Or.inl h0
  · refine Or.inr ⟨g, 0, rfl, fun i hi => ?_⟩
    rw [Nat.zero_add, hc i hi, ilist_get hi]

theorem FRow.later {w w' : World} {a : Option Addr} {n : Nat} {X : Nat → Nat} (h : FRow w a n X) (hb : Below w.heap.size w w') : FRow w' a n X := by
  obtain ⟨hl, h⟩ := h
  refine ⟨hl, ?_⟩
  rcases h with h | ⟨b, o, rfl, h⟩
  · exact Or.inl h
  · exact Or.inr ⟨b, o, rfl, fun i hi => ⟨(h i hi).1, (hb.cell (World.block_lt_of_cell? _ _ (h i hi).2)).trans (h i hi).2⟩⟩
theorem FRow.words {w : World} {a : Option Addr} {n : Nat} {X : Nat → Nat} (h : FRow w a n X) : ∀ i, i < n → X i < 18446744073709551616 := by
  intro i hi
  rcases h.2 with h0 | ⟨b, o, _, hc⟩
  · omega
  · exact (hc i hi).1

theorem Below.grownBy {w w' : World} (h : Below w.heap.size w w') (row : Option Nat) : w.grownBy w' row := ⟨h.os, h.tape, h.output, h.size, fun k hk _ => h.block k hk⟩

/-! ### toFloat64S -/
/-- The cells behind k rounds. -/
def part2 (X : Nat → Nat) (n k : Nat) : List Value := (List.range n).map fun i => Value.float .f64 (if i < k then X i else 0)
theorem part2_zero (X : Nat → Nat) (n : Nat) : part2 X n 0 = List.replicate n (.float .f64 0) := by
  apply List.ext_getElem?
  intro i
  by_cases h : i < n
  · simp [part2, h]
  · simp [part2, h]
theorem part2_all (X : Nat → Nat) (n : Nat) : part2 X n n = flist X n := by
  unfold part2 flist
  apply List.map_congr_left
  intro i hi
  rw [if_pos (List.mem_range.1 hi)]
theorem part2_set (X : Nat → Nat) (n k : Nat) : (part2 X n k).set k (.float .f64 (X k)) = part2 X n (k + 1) := by
  apply List.ext_getElem?
  intro i
  by_cases h : i < n
  · by_cases hk : i = k
    · subst hk; simp [part2, h]
    · rw [List.getElem?_set_ne (by omega)]
      simp only [part2, List.getElem?_map, List.getElem?_range h, Option.map_some]
      by_cases hlt : i < k
      · rw [if_pos hlt, if_pos (by omega)]
      · rw [if_neg hlt, if_neg (by omega)]
  · simp [part2, h]

set_option maxHeartbeats 1000000 in
set_option maxRecDepth 100000 in
theorem toF_any (a : Option Addr) (n c : Nat) (X : Nat → Nat) (w : World) (h : FRow w a n X) (hn : n ≤ 1048576) :
    Calls Try.prog 24 #[.slice a n c] w fun e w' => ∃ v, e = .returned v ∧ v = .slice (some ⟨w.heap.size, 0, none⟩) n n ∧ w'.ownsRow w.heap.size 24 1 v n (flist X n) ∧ Below w.heap.size w w' := by
  obtain ⟨i0, hi, hz0, hz1, hz2⟩ := info_parts info24
  have H := Lib.hid h
  clear h
  go_enter Try.func24, Try.ntmps24
  go_wp2_with (first | (at_make; refine wpList_make_full _ rfl _ _ 22 rfl w.heap.size 24 i0 (.float .f64 0) 1 Try.underlying22 hi hz0 hz1 .i64 .i64 _ _ n rfl rfl rfl rfl (by rw [hz2]; omega) (by unfold maxLen; omega) (Nat.le_refl _) ?_; intro w0 hown0 hgrow0))
  have R0 : w0.ownsRow w.heap.size 24 1 (.slice (some ⟨w.heap.size, 0, none⟩) n n) n (part2 X n 0) := by
    rw [part2_zero]
    have e : (madeCells (Value.float .f64 0).cells (n * 1)).toList = List.replicate n (.float .f64 0) := by
      rw [Nat.mul_one]; exact toList_madeCells_one _ _
    rw [e] at hown0
    exact hown0
  have B0 : Below w.heap.size w w0 := (Below.refl _ _).grown hgrow0 (Nat.le_refl _) (fun k hk => by cases hk)
  have HR := Lib.hid R0
  have HB := Lib.hid B0
  clear hown0 hgrow0 R0 B0
  go_loopw [4] (fun i wr => ∃ k : Nat, k ≤ n ∧ i = .int .i64 k ∧ wr.ownsRow w.heap.size 24 1 (.slice (some ⟨w.heap.size, 0, none⟩) n n) n (part2 X n k) ∧ Below w.heap.size w wr) (fun i _ => n - (intOf i).toNat)
  case atStart => exact ⟨0, Nat.zero_le _, rfl, HR.out, HB.out⟩
  case round =>
    obtain ⟨k, hk, rfl, ho, hb⟩ := hrel
    have HO := Lib.hid ho
    have HW := Lib.hid hb
    by_cases hlt : k < n
    · obtain ⟨b, off, rfl, hc⟩ := H.out.2.resolve_left (by omega)
      have x1 : wr.cell? ⟨b, off + k, none⟩ = some (.float .f64 (X k)) := (hb.cell (World.block_lt_of_cell? _ _ (hc k hlt).2)).trans (hc k hlt).2
      have c1 : wr.cell? ⟨w.heap.size, k, none⟩ = some (.float .f64 0) := by
        rw [ho.cellAt k (by omega)]; simp [part2, hlt]
      have z1 := ho.frozenAt k
      have HS := Lib.hid (ho.stored k (.float .f64 (X k)))
      clear hc ho hb
      go_wp2
      go_roundw
      case rel =>
        refine ⟨k + 1, by omega, by go_num, ?_, HW.out.setCell (Nat.le_refl _) _⟩
        have := HS.out.1
        rw [part2_set] at this
        exact this
      case measure => simp [intOf]; omega
    · obtain rfl : k = n := by omega
      clear ho hb
      go_wp2
      go_ret
      exact ⟨_, rfl, rfl, by rw [← part2_all]; exact HO.out, HW.out⟩
end Go.Proofs.Ytigckpmeppddcaa
