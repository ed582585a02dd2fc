/- The contracts of eqIntS, eqFloat64S (of equal rows), heldIntS, markFloat64S, markIntS. -/
import Derived.Test.YtigckpmeppddcaaKc
set_option linter.unusedVariables false
namespace Go.Proofs.Ytigckpmeppddcaa
open Go.RowKit Cx

set_option maxHeartbeats 1000000 in
set_option maxRecDepth 100000 in
theorem eqI_any (a0 a1 : Option Addr) (n c0 c1 : Nat) (K : Nat → Int) (w : World) (h0 : JRow w a0 n K) (h1 : JRow w a1 n K) :
    Calls Try.prog 26 #[.slice a0 n c0, .slice a1 n c1] w fun e w' => e = .returned (.bool true) ∧ Drew w w' := by
  have hl := h0.1
  have H0 := Lib.hid h0
  have H1 := Lib.hid h1
  clear h0 h1
  go_enter Try.func26, Try.ntmps26
  go_wp2
  go_loopw [5] (fun i wr => ∃ k : Nat, k ≤ n ∧ i = .int .i64 k ∧ Drew w wr) (fun i _ => n - (intOf i).toNat)
  case atStart => exact ⟨0, Nat.zero_le _, rfl, Drew.refl _⟩
  case round =>
    obtain ⟨k, hk, rfl, hd⟩ := hrel
    have HD := Lib.hid hd
    by_cases hlt : k < n
    · obtain ⟨b0, o0, rfl, hc0⟩ := H0.out.2.resolve_left (by omega)
      obtain ⟨b1, o1, rfl, hc1⟩ := H1.out.2.resolve_left (by omega)
      have x0 := hd.cell (hc0 k hlt)
      have x1 := hd.cell (hc1 k hlt)
      have k0 : (0 : Int) ≤ (k : Int) := by omega
      have k1 : (k : Int) < (n : Int) := by omega
      clear hc0 hc1 hd
      go_wp2
      go_quiet (fail)
      go_wp2
      go_roundw
      case rel => exact ⟨k + 1, by omega, by go_num, HD.out.more _⟩
      case measure => simp [intOf]; omega
    · obtain rfl : k = n := by omega
      clear hd
      go_wp2
      go_ret
      exact ⟨rfl, HD.out⟩

set_option maxHeartbeats 1000000 in
set_option maxRecDepth 100000 in
theorem eqF_any (a0 a1 : Option Addr) (n c0 c1 : Nat) (X : Nat → Nat) (w : World) (h0 : FRow w a0 n X) (h1 : FRow w a1 n X) :
    Calls Try.prog 27 #[.slice a0 n c0, .slice a1 n c1] w fun e w' => e = .returned (.bool true) ∧ Drew w w' := by
  have hl := h0.1
  have H0 := Lib.hid h0
  have H1 := Lib.hid h1
  clear h0 h1
  go_enter Try.func27, Try.ntmps27
  go_wp2
  go_loopw [5] (fun i wr => ∃ k : Nat, k ≤ n ∧ i = .int .i64 k ∧ Drew w wr) (fun i _ => n - (intOf i).toNat)
  case atStart => exact ⟨0, Nat.zero_le _, rfl, Drew.refl _⟩
  case round =>
    obtain ⟨k, hk, rfl, hd⟩ := hrel
    have HD := Lib.hid hd
    by_cases hlt : k < n
    · obtain ⟨b0, o0, rfl, hc0⟩ := H0.out.2.resolve_left (by omega)
      obtain ⟨b1, o1, rfl, hc1⟩ := H1.out.2.resolve_left (by omega)
      have x0 := hd.cell (hc0 k hlt).2
      have x1 := hd.cell (hc1 k hlt).2
      have xw := (hc0 k hlt).1
      have k0 : (0 : Int) ≤ (k : Int) := by omega
      have k1 : (k : Int) < (n : Int) := by omega
      clear hc0 hc1 hd
      go_wp2
      go_quiet ((go_at_call 45; exact quietL (same_any _ _ xw)))
      go_wp2
      go_roundw
      case rel => exact ⟨k + 1, by omega, by go_num, HD.out.more _⟩
      case measure => simp [intOf]; omega
    · obtain rfl : k = n := by omega
      clear hd
      go_wp2
      go_ret
      exact ⟨rfl, HD.out⟩

set_option maxHeartbeats 1000000 in
set_option maxRecDepth 100000 in
theorem heldI_any (a0 : Option Addr) (n c0 : Nat) (q : Int) (w : World) (h0 : JRow w a0 n (fun i => q + i)) (hn : n ≤ 1048576) (q0 : 0 ≤ q) (q1 : q ≤ 1048576) :
    Calls Try.prog 30 #[.slice a0 n c0, .int .i64 q] w fun e w' => e = .returned (.int .i64 (q + n)) ∧ Drew w w' := by
  have H0 := Lib.hid h0
  clear h0
  go_enter Try.func30, Try.ntmps30
  go_wp2
  go_loopw [1, 5] (fun u i wr => ∃ k : Nat, k ≤ n ∧ i = .int .i64 k ∧ u = .int .i64 (q + k) ∧ Drew w wr) (fun _ i _ => n - (intOf i).toNat)
  case atStart => exact ⟨0, Nat.zero_le _, rfl, by simp, Drew.refl _⟩
  case round =>
    obtain ⟨k, hk, rfl, rfl, hd⟩ := hrel
    have HD := Lib.hid hd
    by_cases hlt : k < n
    · obtain ⟨b0, o0, rfl, hc0⟩ := H0.out.2.resolve_left (by omega)
      have x0 : wr.cell? ⟨b0, o0 + k, none⟩ = some (.int .i64 (q + k)) := hd.cell (hc0 k hlt)
      have k0 : (0 : Int) ≤ (k : Int) := by omega
      have k1 : (k : Int) < (n : Int) := by omega
      clear hc0 hd
      go_wp2
      go_roundw
      case rel => exact ⟨k + 1, by omega, by go_num, by go_num, HD.out⟩
      case measure => simp [intOf]; omega
    · obtain rfl : k = n := by omega
      clear hd
      go_wp2
      go_ret
      exact ⟨rfl, HD.out⟩

theorem grownBy_trans {w w1 w2 : World} {row : Option Nat} (h : w.grownBy w1 row) (h' : w1.grownBy w2 row) : w.grownBy w2 row :=
  ⟨h'.os.trans h.os, h'.tape.trans h.tape, h'.output.trans h.output, Nat.le_trans h.size h'.size, fun k hk hr => (h'.block k (Nat.lt_of_lt_of_le hk h.size) hr).trans (h.block k hk hr)⟩

def fmix (X : Nat → Nat) (q : Int) (k : Nat) : Nat → Nat := fun i => if i < k then floatOfInt .f64 (q + i) else X i
def imix (K : Nat → Int) (q : Int) (k : Nat) : Nat → Int := fun i => if i < k then q + i else K i
theorem fmix_zero (X : Nat → Nat) (q : Int) : fmix X q 0 = X := by funext i; simp [fmix]
theorem imix_zero (K : Nat → Int) (q : Int) : imix K q 0 = K := by funext i; simp [imix]
theorem imix_all (K : Nat → Int) (q : Int) (n : Nat) : ilist (imix K q n) n = ilist (fun i => q + i) n := by
  unfold ilist
  apply List.map_congr_left
  intro i hi
  unfold imix
  rw [if_pos (List.mem_range.1 hi)]
theorem fmix_set (X : Nat → Nat) (q : Int) (n k : Nat) : (flist (fmix X q k) n).set k (.float .f64 (floatOfInt .f64 (q + k))) = flist (fmix X q (k + 1)) n := by
  apply List.ext_getElem?
  intro i
  by_cases h : i < n
  · by_cases hk : i = k
    · subst hk; simp [flist, fmix, h]
    · rw [List.getElem?_set_ne (by omega), flist_get h, flist_get h]
      unfold fmix
      by_cases hlt : i < k
      · rw [if_pos hlt, if_pos (by omega)]
      · rw [if_neg hlt, if_neg (by omega)]
  · simp [flist, h]
theorem imix_set (K : Nat → Int) (q : Int) (n k : Nat) : (ilist (imix K q k) n).set k (.int .i64 (q + k)) = ilist (imix K q (k + 1)) n := by
  apply List.ext_getElem?
  intro i
  by_cases h : i < n
  · by_cases hk : i = k
    · subst hk; simp [ilist, imix, h]
    · rw [List.getElem?_set_ne (by omega), ilist_get h, ilist_get h]
      unfold imix
      by_cases hlt : i < k
      · rw [if_pos hlt, if_pos (by omega)]
      · rw [if_neg hlt, if_neg (by omega)]
  · simp [ilist, h]

set_option maxHeartbeats 1000000 in
set_option maxRecDepth 100000 in
theorem markF_any (B g n c : Nat) (X : Nat → Nat) (q : Int) (w : World) (h : w.ownsRow B 24 1 (.slice (some ⟨g, 0, none⟩) n c) n (flist X n)) (hn : n ≤ 1048576) (q0 : 0 ≤ q) (q1 : q ≤ 1048577) :
    Calls Try.prog 28 #[.slice (some ⟨g, 0, none⟩) n c, .int .i64 q] w fun e w' => e = .returned (.int .i64 (q + n)) ∧ w.grownBy w' (some g) := by
  have H := Lib.hid h
  clear h
  go_enter Try.func28, Try.ntmps28
  go_wp2
  go_loopw [1, 5] (fun u i wr => ∃ k : Nat, k ≤ n ∧ i = .int .i64 k ∧ u = .int .i64 (q + k) ∧ wr.ownsRow B 24 1 (.slice (some ⟨g, 0, none⟩) n c) n (flist (fmix X q k) n) ∧ w.grownBy wr (some g)) (fun _ i _ => n - (intOf i).toNat)
  case atStart => exact ⟨0, Nat.zero_le _, rfl, by simp, by rw [fmix_zero]; exact H.out, World.grownBy.refl _ _⟩
  case round =>
    obtain ⟨k, hk, rfl, rfl, ho, hg⟩ := hrel
    have HG := Lib.hid hg
    by_cases hlt : k < n
    · have c1 : wr.cell? ⟨g, k, none⟩ = some (.float .f64 (fmix X q k k)) := by
        rw [ho.cellAt k (by omega), flist_get hlt]
      have z1 := ho.frozenAt k
      have HS := Lib.hid (ho.stored k (.float .f64 (floatOfInt .f64 (q + k))))
      have k0 : (0 : Int) ≤ (k : Int) := by omega
      have k1 : (k : Int) < (n : Int) := by omega
      clear ho hg
      go_wp2
      go_roundw
      case rel =>
        have h2 := HS.out.1
        rw [fmix_set] at h2
        exact ⟨k + 1, by omega, by go_num, by go_num, h2, grownBy_trans HG.out HS.out.2⟩
      case measure => simp [intOf]; omega
    · obtain rfl : k = n := by omega
      clear ho hg
      go_wp2
      go_ret
      exact ⟨rfl, HG.out⟩

set_option maxHeartbeats 1000000 in
set_option maxRecDepth 100000 in
theorem markI_some (B g n c : Nat) (K : Nat → Int) (q : Int) (w : World) (h : w.ownsRow B 3 1 (.slice (some ⟨g, 0, none⟩) n c) n (ilist K n)) (hn : n ≤ 1048576) (q0 : 0 ≤ q) (q1 : q ≤ 1048577) :
    Calls Try.prog 29 #[.slice (some ⟨g, 0, none⟩) n c, .int .i64 q] w fun e w' => e = .returned (.int .i64 (q + n)) ∧ w'.ownsRow B 3 1 (.slice (some ⟨g, 0, none⟩) n c) n (ilist (fun i => q + i) n) ∧ w.grownBy w' (some g) := by
  have H := Lib.hid h
  clear h
  go_enter Try.func29, Try.ntmps29
  go_wp2
  go_loopw [1, 5] (fun u i wr => ∃ k : Nat, k ≤ n ∧ i = .int .i64 k ∧ u = .int .i64 (q + k) ∧ wr.ownsRow B 3 1 (.slice (some ⟨g, 0, none⟩) n c) n (ilist (imix K q k) n) ∧ w.grownBy wr (some g)) (fun _ i _ => n - (intOf i).toNat)
  case atStart => exact ⟨0, Nat.zero_le _, rfl, by simp, by rw [imix_zero]; exact H.out, World.grownBy.refl _ _⟩
  case round =>
    obtain ⟨k, hk, rfl, rfl, ho, hg⟩ := hrel
    have HG := Lib.hid hg
    have HO := Lib.hid ho
    by_cases hlt : k < n
    · have c1 : wr.cell? ⟨g, k, none⟩ = some (.int .i64 (imix K q k k)) := by
        rw [ho.cellAt k (by omega), ilist_get hlt]
      have z1 := ho.frozenAt k
      have HS := Lib.hid (ho.stored k (.int .i64 (q + k)))
      have k0 : (0 : Int) ≤ (k : Int) := by omega
      have k1 : (k : Int) < (n : Int) := by omega
      clear ho hg
      go_wp2
      go_roundw
      case rel =>
        have h2 := HS.out.1
        rw [imix_set] at h2
        exact ⟨k + 1, by omega, by go_num, by go_num, h2, grownBy_trans HG.out HS.out.2⟩
      case measure => simp [intOf]; omega
    · obtain rfl : k = n := by omega
      clear ho hg
      go_wp2
      go_ret
      exact ⟨rfl, by rw [← imix_all K]; exact HO.out, HG.out⟩
theorem markI_none (q : Int) (w : World) (q0 : 0 ≤ q) (q1 : q ≤ 1048577) : Calls Try.prog 29 #[.slice none 0 0, .int .i64 q] w fun e w' => e = .returned (.int .i64 q) ∧ w = w' := by
  go_enter Try.func29, Try.ntmps29
  go_wp2
  go_loop [1, 5] (fun u i => i = .int .i64 0 ∧ u = .int .i64 q) (fun _ i => 0)
  case atStart => exact ⟨rfl, rfl⟩
  case round =>
    obtain ⟨rfl, rfl⟩ := hrel
    go_wp2
    go_ret
    exact ⟨rfl, rfl⟩
theorem markI_any (B n : Nat) (v : Value) (K : Nat → Int) (q : Int) (w : World) (h : w.ownsRow B 3 1 v n (ilist K n)) (hn : n ≤ 1048576) (q0 : 0 ≤ q) (q1 : q ≤ 1048577) :
    Calls Try.prog 29 #[v, .int .i64 q] w fun e w' => e = .returned (.int .i64 (q + n)) ∧ w'.ownsRow B 3 1 v n (ilist (fun i => q + i) n) ∧ w.grownBy w' v.ownBlock := by
  rcases h.2 with ⟨rfl, rfl⟩ | ⟨g, cap, cur, rfl, _⟩
  · refine (markI_none q w q0 q1).mono ?_
    rintro e w' ⟨rfl, rfl⟩
    exact ⟨by simp, World.ownsRow_nil _ _ _ _, World.grownBy.refl _ _⟩
  · exact markI_some B g n cap K q w h hn q0 q1
end Go.Proofs.Ytigckpmeppddcaa
