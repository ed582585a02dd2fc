/- The product of a list of numbers with small whole parts is exact: the contract of 'product', and its value as a product of whole complex numbers. -/
import Derived.Test.YtigckpmeppddcaaWd
set_option linter.unusedVariables false
namespace Go.Proofs.Ytigckpmeppddcaa
open Go.RowKit Cx

/-- A whole value, as an integer. -/
def iv (x : Nat) : Int := (val x).num
theorem iv_of {x : Nat} {n : Int} (h : val x = n) : iv x = n := by unfold iv; rw [h]; exact Rat.num_intCast n
theorem Whl.iv {x : Nat} {M : Int} (h : Whl x M) : fin x ∧ val x = iv x ∧ (iv x).natAbs ≤ M.toNat := by
  obtain ⟨hf, n, hn, h2⟩ := h.int
  have := iv_of hn
  rw [this]; exact ⟨hf, hn, h2⟩

/-- The product of the first k numbers: exact; its norm; the words. -/
def gp (X Y : Nat → Nat) : Nat → Int × Int
  | 0 => (1, 0)
  | k + 1 => ((gp X Y k).1 * iv (X k) - (gp X Y k).2 * iv (Y k), (gp X Y k).1 * iv (Y k) + (gp X Y k).2 * iv (X k))
def gn (X Y : Nat → Nat) : Nat → Int
  | 0 => 1
  | k + 1 => gn X Y k * (iv (X k) * iv (X k) + iv (Y k) * iv (Y k))
def gw (X Y : Nat → Nat) : Nat → Nat × Nat
  | 0 => (one, 0)
  | k + 1 => (tre (gw X Y k).1 (gw X Y k).2 (X k) (Y k), tim (gw X Y k).1 (gw X Y k).2 (X k) (Y k))

theorem gp_norm (X Y : Nat → Nat) : ∀ k, (gp X Y k).1 * (gp X Y k).1 + (gp X Y k).2 * (gp X Y k).2 = gn X Y k
  | 0 => by simp [gp, gn]
  | k + 1 => by
    have ih := gp_norm X Y k
    simp only [gp, gn]
    rw [← ih]
    grind

theorem AllW.below {X Y : Nat → Nat} {n k : Nat} {M : Int} (h : AllW X Y n M) (hk : k ≤ n) : AllW X Y k M := fun i hi => h i (by omega)

theorem AllW.nz {X Y : Nat → Nat} {n : Nat} {M : Int} (h : AllW X Y n M) {i : Nat} (hi : i < n) : ¬ (iv (X i) = 0 ∧ iv (Y i) = 0) := by
  obtain ⟨q1, q2, q3⟩ := h i hi
  rintro ⟨h1, h2⟩
  apply q3
  rw [q1.iv.2.1, q2.iv.2.1, h1, h2, val_zero]
  exact ⟨rfl, rfl⟩

theorem gn_pos {X Y : Nat → Nat} {n : Nat} {M : Int} (h : AllW X Y n M) : ∀ k, k ≤ n → 1 ≤ gn X Y k
  | 0, _ => by simp [gn]
  | k + 1, hk => by
    have ih := gn_pos h k (by omega)
    have h1 := one_le_sq (h.nz (show k < n by omega))
    simp only [gn]
    have := Int.mul_le_mul ih h1 (by decide) (by omega)
    omega

theorem sq_bound {a : Int} {K : Nat} (h : a.natAbs ≤ K) : a * a ≤ (K * K : Nat) := by
  have h1 := Nat.mul_le_mul h h
  have h2 := Int.natAbs_mul_self (a := a)
  omega

theorem gn_le {X Y : Nat → Nat} {n : Nat} (h : AllW X Y n 8) : ∀ k, k ≤ n → gn X Y k ≤ ((128 ^ k : Nat) : Int)
  | 0, _ => by simp [gn]
  | k + 1, hk => by
    have ih := gn_le h k (by omega)
    have h0 := gn_pos h k (by omega)
    obtain ⟨q1, q2, q3⟩ := h k (by omega)
    have b1 := sq_bound (show (iv (X k)).natAbs ≤ 8 from q1.iv.2.2)
    have b2 := sq_bound (show (iv (Y k)).natAbs ≤ 8 from q2.iv.2.2)
    have s1 := sq_int_nonneg (iv (X k))
    have s2 := sq_int_nonneg (iv (Y k))
    simp only [gn]
    have h3 : iv (X k) * iv (X k) + iv (Y k) * iv (Y k) ≤ 128 := by omega
    have h4 := Int.mul_le_mul ih h3 (by omega) (by omega)
    have h5 : ((128 ^ (k + 1) : Nat) : Int) = ((128 ^ k : Nat) : Int) * 128 := by rw [Nat.pow_succ]; omega
    rw [h5]; exact h4

theorem gn_le' {X Y : Nat → Nat} {n : Nat} (h : AllW X Y n 8) (hn : n ≤ 12) (k : Nat) (hk : k ≤ n) : gn X Y k ≤ 19342813113834066795298816 := by
  have h1 := gn_le h k hk
  have h2 : 128 ^ k ≤ 128 ^ 12 := Nat.pow_le_pow_right (by decide) (by omega)
  have h3 : 128 ^ 12 = 19342813113834066795298816 := by decide
  omega

theorem natAbs_of_sq {a : Int} {K : Nat} (h : a * a ≤ ((K * K : Nat) : Int)) : a.natAbs ≤ K := by
  have h2 := Int.natAbs_mul_self (a := a)
  have h3 : a.natAbs * a.natAbs ≤ K * K := by omega
  exact Nat.le_of_not_lt fun hlt => by
    have := Nat.mul_lt_mul_of_lt_of_lt hlt hlt
    omega

theorem gp_le {X Y : Nat → Nat} {n : Nat} (h : AllW X Y n 8) (hn : n ≤ 12) (k : Nat) (hk : k ≤ n) : (gp X Y k).1.natAbs ≤ 4398046511104 ∧ (gp X Y k).2.natAbs ≤ 4398046511104 := by
  have h1 := gp_norm X Y k
  have h2 := gn_le' h hn k hk
  have s1 := sq_int_nonneg (gp X Y k).1
  have s2 := sq_int_nonneg (gp X Y k).2
  constructor
  · apply natAbs_of_sq
    have : ((4398046511104 * 4398046511104 : Nat) : Int) = 19342813113834066795298816 := by decide
    omega
  · apply natAbs_of_sq
    have : ((4398046511104 * 4398046511104 : Nat) : Int) = 19342813113834066795298816 := by decide
    omega

theorem mul_natAbs_le {a b : Int} {K L : Nat} (h1 : a.natAbs ≤ K) (h2 : b.natAbs ≤ L) : (a * b).natAbs ≤ K * L := by
  rw [Int.natAbs_mul]; exact Nat.mul_le_mul h1 h2

/-- What is known of the product's words. -/
structure GwOk (X Y : Nat → Nat) (k : Nat) : Prop where
  f1 : fin (gw X Y k).1
  f2 : fin (gw X Y k).2
  v1 : val (gw X Y k).1 = (gp X Y k).1
  v2 : val (gw X Y k).2 = (gp X Y k).2
structure GwStep (X Y : Nat → Nat) (k : Nat) : Prop where
  m1 : fin (fmul (gw X Y k).1 (X k))
  m2 : fin (fmul (gw X Y k).2 (Y k))
  m3 : fin (fmul (gw X Y k).1 (Y k))
  m4 : fin (fmul (gw X Y k).2 (X k))

theorem gw_step {X Y : Nat → Nat} {n : Nat} (h : AllW X Y n 8) (hn : n ≤ 12) {k : Nat} (hk : k < n) (ih : GwOk X Y k) : GwStep X Y k ∧ GwOk X Y (k + 1) := by
  obtain ⟨b1, b2⟩ := gp_le h hn k (by omega)
  obtain ⟨q1, q2, q3⟩ := h k hk
  obtain ⟨fx, vx, bx⟩ := q1.iv
  obtain ⟨fy, vy, by'⟩ := q2.iv
  have bx : (iv (X k)).natAbs ≤ 8 := bx
  have by' : (iv (Y k)).natAbs ≤ 8 := by'
  have c1 := mul_natAbs_le b1 bx
  have c2 := mul_natAbs_le b2 by'
  have c3 := mul_natAbs_le b1 by'
  have c4 := mul_natAbs_le b2 bx
  obtain ⟨m1, w1⟩ := fmul_int ih.f1 fx ih.v1 vx (by omega)
  obtain ⟨m2, w2⟩ := fmul_int ih.f2 fy ih.v2 vy (by omega)
  obtain ⟨m3, w3⟩ := fmul_int ih.f1 fy ih.v1 vy (by omega)
  obtain ⟨m4, w4⟩ := fmul_int ih.f2 fx ih.v2 vx (by omega)
  obtain ⟨s1, z1⟩ := fsub_int m1 m2 w1 w2 (by omega)
  obtain ⟨s2, z2⟩ := fadd_int m3 m4 w3 w4 (by omega)
  exact ⟨⟨m1, m2, m3, m4⟩, s1, s2, z1, z2⟩

theorem gw_ok {X Y : Nat → Nat} {n : Nat} (h : AllW X Y n 8) (hn : n ≤ 12) : ∀ k, k ≤ n → GwOk X Y k
  | 0, _ => ⟨fin_one, fin_zero, val_one, val_zero⟩
  | k + 1, hk => (gw_step h hn (by omega) (gw_ok h hn k (by omega))).2

set_option maxHeartbeats 1000000 in
theorem product_any (a0 a1 : Option Addr) (n c0 c1 : Nat) (X Y : Nat → Nat) (w : World) (h0 : FRow w a0 n X) (h1 : FRow w a1 n Y) (h : AllW X Y n 8) (hn : n ≤ 12) :
    Calls Try.prog 33 #[.slice a0 n c0, .slice a1 n c1] w fun e w' => e = .returned (.tuple #[.float .f64 (gw X Y n).1, .float .f64 (gw X Y n).2]) ∧ Drew w w' := by
  have hl := h0.1
  have HC := Lib.hid (rows2 h0 h1)
  have HA := Lib.hid h
  clear h h0 h1
  have HZ : Hid (one = 4607182418800017408) := Lib.hid rfl
  go_enter Try.func33, Try.ntmps33
  go_wp2
  go_loopw [6, 7, 11] (fun x y i wr => ∃ k : Nat, k ≤ n ∧ i = .int .i64 k ∧ x = .float .f64 (gw X Y k).1 ∧ y = .float .f64 (gw X Y k).2 ∧ Drew w wr) (fun _ _ i _ => n - (intOf i).toNat)
  case atStart => exact ⟨0, Nat.zero_le _, rfl, rfl, rfl, Drew.refl w⟩
  case round =>
    obtain ⟨k, hk, rfl, rfl, rfl, hd⟩ := hrel
    have G := gw_ok HA.out hn k hk
    have g1 := G.f1
    have g2 := G.f2
    by_cases hlt : k < n
    · obtain ⟨b0, o0, b1, o1, rfl, rfl, hc⟩ := HC.out k hlt
      obtain ⟨x1, y1⟩ := hc k hlt
      have x1 := hd.cell x1
      have y1 := hd.cell y1
      obtain ⟨p1, p2, p3⟩ := HA.out k hlt
      have fx := p1.1
      have fy := p2.1
      have S := (gw_step HA.out hn hlt G).1
      have m1 := S.m1
      have m2 := S.m2
      have m3 := S.m3
      have m4 := S.m4
      have k0 : (0 : Int) ≤ (k : Int) := by omega
      have k1 : (k : Int) < (n : Int) := by omega
      clear hc p1 p2 p3 S G
      go_wp2
      go_quiet ((go_at_call 37; exact quietL (times_any _ _ _ _ _ (by assumption) (by assumption) (by assumption) (by assumption) (by assumption) (by assumption) (by assumption) (by assumption))))
      go_wp2
      go_roundw
      case rel => exact ⟨k + 1, by omega, by go_num, rfl, rfl, hd.more _⟩
      case measure => simp [intOf]; omega
    · obtain rfl : k = n := by omega
      go_wp2
      go_ret2
      exact ⟨rfl, hd⟩
end Go.Proofs.Ytigckpmeppddcaa
