/- The contracts of spec.KindsOf and impl.KindsOf: one row of kinds, in memory of their own. Written by a program of ours (kinds.py). -/
import Derived.Test.YtigckpmeppddcaaKd
set_option linter.unusedVariables false
namespace Go.Proofs.Ytigckpmeppddcaa
open Go.RowKit Cx

def kind (x y : Nat) : Int := if (infW x || infW y) = true then 1 else if (nanW x || nanW y) = true then 2 else 0

theorem rel_push {w wr w1 : World} {o : Obj} {v v' : Value} {k : Nat} {F : Nat → Int} {d : Int} (ho : wr.ownsRow w.heap.size 3 1 v k (ilist F k)) (hb : Below w.heap.size w wr) (hd : F k = d)
    (hown : w1.ownsRow w.heap.size 3 1 v' (k + 1) (ilist F k ++ [.int .i64 d])) (hg : (wr.alloc o).grownBy w1 v.ownBlock) : w1.ownsRow w.heap.size 3 1 v' (k + 1) (ilist F (k + 1)) ∧ Below w.heap.size w w1 := by
  refine ⟨by rw [ilist_succ, hd]; exact hown, ?_⟩
  refine (hb.alloc hb.size o).grown hg ?_ (fun j hj => (ho.lt j hj).1)
  have := hb.size
  simp; omega
theorem one_new {w : World} {e : TypeId} {d : Int} : ∀ j u, [Value.int .i64 d][j]? = some u → (w.alloc (.cells #[.int .i64 d] e)).cell? ((⟨w.heap.size, 0, none⟩ : Addr).add j) = some u := by
  intro j u hj
  cases j with
  | zero => simp at hj; subst hj; simp [Addr.add]
  | succ j => simp at hj
theorem one_cell {d : Int} : ∀ u ∈ [Value.int .i64 d], u.oneCell' = true := by
  intro u hu; simp at hu; subst hu; rfl
theorem size_new {w wr : World} {o : Obj} (h : Below w.heap.size w wr) : w.heap.size ≤ (wr.alloc o).heap.size := by
  have := h.size; simp; omega
theorem size_newN {w wr : World} {o : Obj} {q : Nat} (h : Below w.heap.size w wr) : w.heap.size ≤ ((wr.drewN q).alloc o).heap.size := by
  have := h.size; simp [World.drewN]; omega

set_option maxHeartbeats 1600000 in
set_option maxRecDepth 100000 in
theorem kindsS_any (a0 a1 : Option Addr) (n m c0 c1 : Nat) (X Y : Nat → Nat) (w : World) (h0 : FRow w a0 n X) (h1 : FRow w a1 m Y) (hn : n ≤ 1048576) (hm : m ≤ 1048576) :
    Calls Try.prog 23 #[.slice a0 n c0, .slice a1 m c1] w fun e w' => ∃ v, e = .returned v ∧ w'.ownsRow w.heap.size 3 1 v (min n m) (ilist (fun i => kind (X i) (Y i)) (min n m)) ∧ Below w.heap.size w w' := by
  obtain ⟨i0, hi, hz0, hz1, hz2⟩ := info_parts info3
  have H0 := Lib.hid h0
  have H1 := Lib.hid h1
  clear h0 h1
  go_enter Try.func23, Try.ntmps23
  go_wp2
  go_loopw [5, 6] (fun v i wr => ∃ k : Nat, k ≤ min n m ∧ i = .int .i64 k ∧ wr.ownsRow w.heap.size 3 1 v k (ilist (fun i => kind (X i) (Y i)) k) ∧ Below w.heap.size w wr) (fun _ i _ => min n m - (intOf i).toNat)
  case atStart => exact ⟨0, Nat.zero_le _, rfl, World.ownsRow_nil _ _ _ _, Below.refl _ _⟩
  case round =>
    obtain ⟨k, hk, rfl, ho, hb⟩ := hrel
    have HO := Lib.hid ho
    have HW := Lib.hid hb
    by_cases hlt : k < n
    · by_cases hlt2 : k < m
      · obtain ⟨b0, o0, rfl, hc0⟩ := H0.out.2.resolve_left (by omega)
        obtain ⟨b1, o1, rfl, hc1⟩ := H1.out.2.resolve_left (by omega)
        have x0 : wr.cell? ⟨b0, o0 + k, none⟩ = some (.float .f64 (X k)) := (hb.cell (World.block_lt_of_cell? _ _ (hc0 k hlt).2)).trans (hc0 k hlt).2
        have x1 : wr.cell? ⟨b1, o1 + k, none⟩ = some (.float .f64 (Y k)) := (hb.cell (World.block_lt_of_cell? _ _ (hc1 k hlt2).2)).trans (hc1 k hlt2).2
        have xw := (hc0 k hlt).1
        have yw := (hc1 k hlt2).1
        have k0 : (0 : Int) ≤ (k : Int) := by omega
        have k1 : (k : Int) < (n : Int) := by omega
        have k2 : (k : Int) < (m : Int) := by omega
        clear hc0 hc1 ho hb
        cases i1 : infW (X k)
        · cases i2 : infW (Y k)
          · cases i3 : nanW (X k)
            · cases i4 : nanW (Y k)
              · have HK : Hid ((fun i => kind (X i) (Y i)) k = 0) := Lib.hid (by show kind (X k) (Y k) = _; unfold kind; rw [i1, i2, i3, i4]; rfl)
                go_wp2_with fail
                refine (infinite_any _ _ xw).mono ?_
                rintro e w' ⟨rfl, rfl⟩
                rw [i1]
                go_wp2_with fail
                refine (infinite_any _ _ yw).mono ?_
                rintro e w' ⟨rfl, rfl⟩
                rw [i2]
                have e0 := order_self xw i3
                have e1 := order_self yw i4
                have en : ((none : Option Ordering) != some .eq) = true := rfl
                go_wp2
                go_quiet (fail)
                clear x0 x1
                have HO3 : Hid ((wr.drewN nq).ownsRow w.heap.size 3 1 u5 k (ilist (fun i => kind (X i) (Y i)) k)) := HO
                have HW3 : Hid (Below w.heap.size w (wr.drewN nq)) := Lib.hid (below_drewN HW.out nq)
                generalize wr.drewN nq = w3 at *
                go_wp2_with (at_builtin; refine wpList_append_own _ rfl _ _ 28 rfl w.heap.size 3 i0 (.int .i64 0) 1 8 Try.underlying28 hi hz0 hz1 hz2 rfl (by decide) _ _ _ rfl (HO3.out.alloc _) ⟨w3.heap.size, 0, none⟩ 1 1 [.int .i64 0] rfl rfl one_new one_cell (by unfold maxLen; omega) (by omega) (size_new HW3.out) ?_)
                intro v' w1 hown' hgrow _
                have R := Lib.hid (rel_push HO3.out HW3.out HK.out hown' hgrow)
                clear hown' hgrow
                go_wp2
                go_roundw
                case rel => exact ⟨k + 1, by omega, by go_num, R.out.1, R.out.2⟩
                case measure => simp [intOf]; omega
              · have HK : Hid ((fun i => kind (X i) (Y i)) k = 2) := Lib.hid (by show kind (X k) (Y k) = _; unfold kind; rw [i1, i2, i3, i4]; rfl)
                go_wp2_with fail
                refine (infinite_any _ _ xw).mono ?_
                rintro e w' ⟨rfl, rfl⟩
                rw [i1]
                go_wp2_with fail
                refine (infinite_any _ _ yw).mono ?_
                rintro e w' ⟨rfl, rfl⟩
                rw [i2]
                have e0 := order_self xw i3
                have e1 := order_nan yw i4 (Y k)
                have en : ((none : Option Ordering) != some .eq) = true := rfl
                go_wp2
                go_quiet (fail)
                clear x0 x1
                have HO3 : Hid ((wr.drewN nq).ownsRow w.heap.size 3 1 u5 k (ilist (fun i => kind (X i) (Y i)) k)) := HO
                have HW3 : Hid (Below w.heap.size w (wr.drewN nq)) := Lib.hid (below_drewN HW.out nq)
                generalize wr.drewN nq = w3 at *
                go_wp2_with (at_builtin; refine wpList_append_own _ rfl _ _ 28 rfl w.heap.size 3 i0 (.int .i64 0) 1 8 Try.underlying28 hi hz0 hz1 hz2 rfl (by decide) _ _ _ rfl (HO3.out.alloc _) ⟨w3.heap.size, 0, none⟩ 1 1 [.int .i64 2] rfl rfl one_new one_cell (by unfold maxLen; omega) (by omega) (size_new HW3.out) ?_)
                intro v' w1 hown' hgrow _
                have R := Lib.hid (rel_push HO3.out HW3.out HK.out hown' hgrow)
                clear hown' hgrow
                go_wp2
                go_roundw
                case rel => exact ⟨k + 1, by omega, by go_num, R.out.1, R.out.2⟩
                case measure => simp [intOf]; omega
            · have HK : Hid ((fun i => kind (X i) (Y i)) k = 2) := Lib.hid (by show kind (X k) (Y k) = _; unfold kind; rw [i1, i2, i3]; rfl)
              go_wp2_with fail
              refine (infinite_any _ _ xw).mono ?_
              rintro e w' ⟨rfl, rfl⟩
              rw [i1]
              go_wp2_with fail
              refine (infinite_any _ _ yw).mono ?_
              rintro e w' ⟨rfl, rfl⟩
              rw [i2]
              have e0 := order_nan xw i3 (X k)
              have en : ((none : Option Ordering) != some .eq) = true := rfl
              go_wp2
              go_quiet (fail)
              clear x0 x1
              have HO3 : Hid ((wr.drewN nq).ownsRow w.heap.size 3 1 u5 k (ilist (fun i => kind (X i) (Y i)) k)) := HO
              have HW3 : Hid (Below w.heap.size w (wr.drewN nq)) := Lib.hid (below_drewN HW.out nq)
              generalize wr.drewN nq = w3 at *
              go_wp2_with (at_builtin; refine wpList_append_own _ rfl _ _ 28 rfl w.heap.size 3 i0 (.int .i64 0) 1 8 Try.underlying28 hi hz0 hz1 hz2 rfl (by decide) _ _ _ rfl (HO3.out.alloc _) ⟨w3.heap.size, 0, none⟩ 1 1 [.int .i64 2] rfl rfl one_new one_cell (by unfold maxLen; omega) (by omega) (size_new HW3.out) ?_)
              intro v' w1 hown' hgrow _
              have R := Lib.hid (rel_push HO3.out HW3.out HK.out hown' hgrow)
              clear hown' hgrow
              go_wp2
              go_roundw
              case rel => exact ⟨k + 1, by omega, by go_num, R.out.1, R.out.2⟩
              case measure => simp [intOf]; omega
          · have HK : Hid ((fun i => kind (X i) (Y i)) k = 1) := Lib.hid (by show kind (X k) (Y k) = _; unfold kind; rw [i1, i2]; rfl)
            go_wp2_with fail
            refine (infinite_any _ _ xw).mono ?_
            rintro e w' ⟨rfl, rfl⟩
            rw [i1]
            go_wp2_with fail
            refine (infinite_any _ _ yw).mono ?_
            rintro e w' ⟨rfl, rfl⟩
            rw [i2]
            go_wp2_with (at_builtin; refine wpList_append_own _ rfl _ _ 28 rfl w.heap.size 3 i0 (.int .i64 0) 1 8 Try.underlying28 hi hz0 hz1 hz2 rfl (by decide) _ _ _ rfl (HO.out.alloc _) ⟨wr.heap.size, 0, none⟩ 1 1 [.int .i64 1] rfl rfl one_new one_cell (by unfold maxLen; omega) (by omega) (size_new HW.out) ?_)
            intro v' w1 hown' hgrow _
            have R := Lib.hid (rel_push HO.out HW.out HK.out hown' hgrow)
            clear hown' hgrow
            go_wp2
            go_roundw
            case rel => exact ⟨k + 1, by omega, by go_num, R.out.1, R.out.2⟩
            case measure => simp [intOf]; omega
        · have HK : Hid ((fun i => kind (X i) (Y i)) k = 1) := Lib.hid (by show kind (X k) (Y k) = _; unfold kind; rw [i1]; rfl)
          go_wp2_with fail
          refine (infinite_any _ _ xw).mono ?_
          rintro e w' ⟨rfl, rfl⟩
          rw [i1]
          go_wp2_with (at_builtin; refine wpList_append_own _ rfl _ _ 28 rfl w.heap.size 3 i0 (.int .i64 0) 1 8 Try.underlying28 hi hz0 hz1 hz2 rfl (by decide) _ _ _ rfl (HO.out.alloc _) ⟨wr.heap.size, 0, none⟩ 1 1 [.int .i64 1] rfl rfl one_new one_cell (by unfold maxLen; omega) (by omega) (size_new HW.out) ?_)
          intro v' w1 hown' hgrow _
          have R := Lib.hid (rel_push HO.out HW.out HK.out hown' hgrow)
          clear hown' hgrow
          go_wp2
          go_roundw
          case rel => exact ⟨k + 1, by omega, by go_num, R.out.1, R.out.2⟩
          case measure => simp [intOf]; omega
      · have e : min n m = k := by omega
        clear ho hb
        go_wp2
        go_ret
        rw [e]
        exact ⟨_, rfl, HO.out, HW.out⟩
    · have e : min n m = k := by omega
      clear ho hb
      go_wp2
      go_ret
      rw [e]
      exact ⟨_, rfl, HO.out, HW.out⟩

theorem cisinf_at (x y : Nat) (w : World) (hx : x < 18446744073709551616) (hy : y < 18446744073709551616) (b : Bool) (h : (infW x || infW y) = b) : Calls Try.prog 43 #[.complex .f64 x y] w fun e w' => e = .returned (.bool b) ∧ w = w' := by
  subst h; exact cisinf_any x y w hx hy
theorem cisnan_at (x y : Nat) (w : World) (hx : x < 18446744073709551616) (hy : y < 18446744073709551616) (b c d : Bool) (h : (infW x || infW y) = b) (h' : (nanW x || nanW y) = c) (hd : (!b && c) = d) : Calls Try.prog 44 #[.complex .f64 x y] w fun e w' => e = .returned (.bool d) ∧ w = w' := by
  subst h h' hd; exact cisnan_any x y w hx hy

set_option maxHeartbeats 1600000 in
set_option maxRecDepth 100000 in
theorem kindsI_any (a0 a1 : Option Addr) (n m c0 c1 : Nat) (X Y : Nat → Nat) (w : World) (h0 : FRow w a0 n X) (h1 : FRow w a1 m Y) (hn : n ≤ 1048576) (hm : m ≤ 1048576) :
    Calls Try.prog 25 #[.slice a0 n c0, .slice a1 m c1] w fun e w' => ∃ v, e = .returned v ∧ w'.ownsRow w.heap.size 3 1 v (min n m) (ilist (fun i => kind (X i) (Y i)) (min n m)) ∧ Below w.heap.size w w' := by
  obtain ⟨i0, hi, hz0, hz1, hz2⟩ := info_parts info3
  have H0 := Lib.hid h0
  have H1 := Lib.hid h1
  clear h0 h1
  go_enter Try.func25, Try.ntmps25
  go_wp2
  go_loopw [5, 6] (fun v i wr => ∃ k : Nat, k ≤ min n m ∧ i = .int .i64 k ∧ wr.ownsRow w.heap.size 3 1 v k (ilist (fun i => kind (X i) (Y i)) k) ∧ Below w.heap.size w wr) (fun _ i _ => min n m - (intOf i).toNat)
  case atStart => exact ⟨0, Nat.zero_le _, rfl, World.ownsRow_nil _ _ _ _, Below.refl _ _⟩
  case round =>
    obtain ⟨k, hk, rfl, ho, hb⟩ := hrel
    have HO := Lib.hid ho
    have HW := Lib.hid hb
    by_cases hlt : k < n
    · by_cases hlt2 : k < m
      · obtain ⟨b0, o0, rfl, hc0⟩ := H0.out.2.resolve_left (by omega)
        obtain ⟨b1, o1, rfl, hc1⟩ := H1.out.2.resolve_left (by omega)
        have x0 : wr.cell? ⟨b0, o0 + k, none⟩ = some (.float .f64 (X k)) := (hb.cell (World.block_lt_of_cell? _ _ (hc0 k hlt).2)).trans (hc0 k hlt).2
        have x1 : wr.cell? ⟨b1, o1 + k, none⟩ = some (.float .f64 (Y k)) := (hb.cell (World.block_lt_of_cell? _ _ (hc1 k hlt2).2)).trans (hc1 k hlt2).2
        have xw := (hc0 k hlt).1
        have yw := (hc1 k hlt2).1
        have k0 : (0 : Int) ≤ (k : Int) := by omega
        have k1 : (k : Int) < (n : Int) := by omega
        have k2 : (k : Int) < (m : Int) := by omega
        clear hc0 hc1 ho hb
        cases i1 : (infW (X k) || infW (Y k))
        · cases i2 : (nanW (X k) || nanW (Y k))
          · have HK : Hid ((fun i => kind (X i) (Y i)) k = 0) := Lib.hid (by show kind (X k) (Y k) = _; unfold kind; rw [i1, i2]; rfl)
            have CI := Lib.hid (fun w => cisinf_at (X k) (Y k) w xw yw false i1)
            have CN := Lib.hid (fun w => cisnan_at (X k) (Y k) w xw yw false false false i1 i2 rfl)
            go_wp2
            go_quiet ((go_at_call 43; exact quietL (CI.out _)))
            have HO2 : Hid ((wr.drewN nq).ownsRow w.heap.size 3 1 u5 k (ilist (fun i => kind (X i) (Y i)) k)) := HO
            have HW2 : Hid (Below w.heap.size w (wr.drewN nq)) := Lib.hid (below_drewN HW.out nq)
            have y0 : (wr.drewN nq).cell? ⟨b0, o0 + k, none⟩ = some (.float .f64 (X k)) := x0
            have y1 : (wr.drewN nq).cell? ⟨b1, o1 + k, none⟩ = some (.float .f64 (Y k)) := x1
            clear x0 x1 HO HW
            generalize wr.drewN nq = w2 at *
            go_wp2
            go_quiet ((go_at_call 44; exact quietL (CN.out _)))
            clear y0 y1
            have HO3 : Hid ((w2.drewN nq).ownsRow w.heap.size 3 1 u5 k (ilist (fun i => kind (X i) (Y i)) k)) := HO2
            have HW3 : Hid (Below w.heap.size w (w2.drewN nq)) := Lib.hid (below_drewN HW2.out nq)
            generalize w2.drewN nq = w3 at *
            go_wp2_with (at_builtin; refine wpList_append_own _ rfl _ _ 28 rfl w.heap.size 3 i0 (.int .i64 0) 1 8 Try.underlying28 hi hz0 hz1 hz2 rfl (by decide) _ _ _ rfl (HO3.out.alloc _) ⟨w3.heap.size, 0, none⟩ 1 1 [.int .i64 0] rfl rfl one_new one_cell (by unfold maxLen; omega) (by omega) (size_new HW3.out) ?_)
            intro v' w1 hown' hgrow _
            have R := Lib.hid (rel_push HO3.out HW3.out HK.out hown' hgrow)
            clear hown' hgrow
            go_wp2
            go_roundw
            case rel => exact ⟨k + 1, by omega, by go_num, R.out.1, R.out.2⟩
            case measure => simp [intOf]; omega
          · have HK : Hid ((fun i => kind (X i) (Y i)) k = 2) := Lib.hid (by show kind (X k) (Y k) = _; unfold kind; rw [i1, i2]; rfl)
            have CI := Lib.hid (fun w => cisinf_at (X k) (Y k) w xw yw false i1)
            have CN := Lib.hid (fun w => cisnan_at (X k) (Y k) w xw yw false true true i1 i2 rfl)
            go_wp2
            go_quiet ((go_at_call 43; exact quietL (CI.out _)))
            have HO2 : Hid ((wr.drewN nq).ownsRow w.heap.size 3 1 u5 k (ilist (fun i => kind (X i) (Y i)) k)) := HO
            have HW2 : Hid (Below w.heap.size w (wr.drewN nq)) := Lib.hid (below_drewN HW.out nq)
            have y0 : (wr.drewN nq).cell? ⟨b0, o0 + k, none⟩ = some (.float .f64 (X k)) := x0
            have y1 : (wr.drewN nq).cell? ⟨b1, o1 + k, none⟩ = some (.float .f64 (Y k)) := x1
            clear x0 x1 HO HW
            generalize wr.drewN nq = w2 at *
            go_wp2
            go_quiet ((go_at_call 44; exact quietL (CN.out _)))
            clear y0 y1
            have HO3 : Hid ((w2.drewN nq).ownsRow w.heap.size 3 1 u5 k (ilist (fun i => kind (X i) (Y i)) k)) := HO2
            have HW3 : Hid (Below w.heap.size w (w2.drewN nq)) := Lib.hid (below_drewN HW2.out nq)
            generalize w2.drewN nq = w3 at *
            go_wp2_with (at_builtin; refine wpList_append_own _ rfl _ _ 28 rfl w.heap.size 3 i0 (.int .i64 0) 1 8 Try.underlying28 hi hz0 hz1 hz2 rfl (by decide) _ _ _ rfl (HO3.out.alloc _) ⟨w3.heap.size, 0, none⟩ 1 1 [.int .i64 2] rfl rfl one_new one_cell (by unfold maxLen; omega) (by omega) (size_new HW3.out) ?_)
            intro v' w1 hown' hgrow _
            have R := Lib.hid (rel_push HO3.out HW3.out HK.out hown' hgrow)
            clear hown' hgrow
            go_wp2
            go_roundw
            case rel => exact ⟨k + 1, by omega, by go_num, R.out.1, R.out.2⟩
            case measure => simp [intOf]; omega
        · have HK : Hid ((fun i => kind (X i) (Y i)) k = 1) := Lib.hid (by show kind (X k) (Y k) = _; unfold kind; rw [i1]; rfl)
          have CI := Lib.hid (fun w => cisinf_at (X k) (Y k) w xw yw true i1)
          have CN := Lib.hid (fun w => cisnan_at (X k) (Y k) w xw yw true (nanW (X k) || nanW (Y k)) false i1 rfl rfl)
          go_wp2
          go_quiet ((go_at_call 43; exact quietL (CI.out _)))
          have HO2 : Hid ((wr.drewN nq).ownsRow w.heap.size 3 1 u5 k (ilist (fun i => kind (X i) (Y i)) k)) := HO
          have HW2 : Hid (Below w.heap.size w (wr.drewN nq)) := Lib.hid (below_drewN HW.out nq)
          have y0 : (wr.drewN nq).cell? ⟨b0, o0 + k, none⟩ = some (.float .f64 (X k)) := x0
          have y1 : (wr.drewN nq).cell? ⟨b1, o1 + k, none⟩ = some (.float .f64 (Y k)) := x1
          clear x0 x1 HO HW
          generalize wr.drewN nq = w2 at *
          go_wp2
          go_quiet ((go_at_call 44; exact quietL (CN.out _)))
          clear y0 y1
          have HO3 : Hid ((w2.drewN nq).ownsRow w.heap.size 3 1 u5 k (ilist (fun i => kind (X i) (Y i)) k)) := HO2
          have HW3 : Hid (Below w.heap.size w (w2.drewN nq)) := Lib.hid (below_drewN HW2.out nq)
          generalize w2.drewN nq = w3 at *
          go_wp2_with (at_builtin; refine wpList_append_own _ rfl _ _ 28 rfl w.heap.size 3 i0 (.int .i64 0) 1 8 Try.underlying28 hi hz0 hz1 hz2 rfl (by decide) _ _ _ rfl (HO3.out.alloc _) ⟨w3.heap.size, 0, none⟩ 1 1 [.int .i64 1] rfl rfl one_new one_cell (by unfold maxLen; omega) (by omega) (size_new HW3.out) ?_)
          intro v' w1 hown' hgrow _
          have R := Lib.hid (rel_push HO3.out HW3.out HK.out hown' hgrow)
          clear hown' hgrow
          go_wp2
          go_roundw
          case rel => exact ⟨k + 1, by omega, by go_num, R.out.1, R.out.2⟩
          case measure => simp [intOf]; omega
      · have e : min n m = k := by omega
        clear ho hb
        go_wp2
        go_ret
        rw [e]
        exact ⟨_, rfl, HO.out, HW.out⟩
    · have e : min n m = k := by omega
      clear ho hb
      go_wp2
      go_ret
      rw [e]
      exact ⟨_, rfl, HO.out, HW.out⟩

end Go.Proofs.Ytigckpmeppddcaa
