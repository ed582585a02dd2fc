/- FnParallelogram: the walk. -/
import Derived.Test.YtigckpmeppddcaaPathLaw
set_option linter.unusedVariables false
namespace Go.Proofs.Ytigckpmeppddcaa
open Go.RowKit Cx

def pairW (x u : Nat) : Nat → Nat := fun i => if i = 0 then x else u

theorem frow_pair {w : World} {b : Nat} {x u : Nat} (hx : x < 18446744073709551616) (hu : u < 18446744073709551616)
    (h0 : w.cell? ⟨b, 0, none⟩ = some (.float .f64 x)) (h1 : w.cell? ⟨b, 1, none⟩ = some (.float .f64 u)) : FRow w (some ⟨b, 0, none⟩) 2 (pairW x u) := by
  refine ⟨by decide, Or.inr ⟨b, 0, rfl, fun i hi => ?_⟩⟩
  rcases (show i = 0 ∨ i = 1 by omega) with rfl | rfl
  · exact ⟨hx, h0⟩
  · exact ⟨hu, h1⟩

/-- Both numbers of a pair. -/
def Pair2 (x y u v : Nat) (M : Int) : Prop := (Whl x M ∧ Whl y M ∧ ¬ (val x = val 0 ∧ val y = val 0)) ∧ (Whl u M ∧ Whl v M ∧ ¬ (val u = val 0 ∧ val v = val 0))
theorem pair2_iff {x y u v : Nat} {M : Int} : AllW (pairW x u) (pairW y v) 2 M ↔ Pair2 x y u v M := by
  constructor
  · intro h
    exact ⟨h 0 (by decide), h 1 (by decide)⟩
  · intro h i hi
    rcases (show i = 0 ∨ i = 1 by omega) with rfl | rfl
    · exact h.1
    · exact h.2

def two : Nat := 4611686018427387904
def thousand : Nat := 4652007308841189376
theorem fin_two : fin two := fin_of _ (by decide)
theorem fin_thousand : fin thousand := fin_of _ (by decide)
theorem val_two : val two = 2 := by decide +kernel
theorem val_thousand : val thousand = 1000 := by decide +kernel

theorem nz_iv {x y : Nat} {M : Int} (hx : Whl x M) (hy : Whl y M) (h : ¬ (val x = val 0 ∧ val y = val 0)) : ¬ (iv x = 0 ∧ iv y = 0) := by
  rintro ⟨h1, h2⟩
  apply h
  rw [hx.iv.2.1, hy.iv.2.1, h1, h2, val_zero]
  exact ⟨rfl, rfl⟩

/-- Products of numbers of moderate size. -/
theorem mul_mid {a b : Nat} {A B : Rat} (ha : fin a) (hb : fin b) (hA : val a = A) (hB : val b = B) (a0 : A = 0 ∨ Cx.p2 (-100) ≤ A) (b0 : B = 0 ∨ Cx.p2 (-100) ≤ B) (a1 : A ≤ Cx.p2 300) (b1 : B ≤ Cx.p2 300) :
    fin (fmul a b) ∧ Rz eps (val (fmul a b)) (A * B) := by
  have p1 := p2_pos (-100)
  have nA : 0 ≤ A := by rcases a0 with h | h <;> grind
  have nB : 0 ≤ B := by rcases b0 with h | h <;> grind
  have nn := Rat.mul_nonneg nA nB
  have m := mul_rd ha hb (by
    rw [hA, hB, ab_of_nonneg nn]
    have h1 := mul_le_mul_nn a1 b1 nA (Rat.le_of_lt (p2_pos 300))
    rw [← p2_add] at h1
    have h2 := p2_lt (show (300 + 300 : Int) < 1023 by decide)
    grind)
  rw [hA, hB] at m
  refine ⟨m.1, m.2.2.rz ?_⟩
  rcases a0 with h | h
  · left; rw [h]; grind
  · rcases b0 with h' | h'
    · left; rw [h']; grind
    · right
      have h1 := mul_le_mul_nn h h' (Rat.le_of_lt p1) nB
      rw [← p2_add] at h1
      exact Rat.le_trans (p2_mono (by decide)) h1
theorem add_mid {a b : Nat} {A B : Rat} (ha : fin a) (hb : fin b) (hA : val a = A) (hB : val b = B) (a0 : A = 0 ∨ Cx.p2 (-500) ≤ A) (b0 : B = 0 ∨ Cx.p2 (-500) ≤ B) (a1 : A ≤ Cx.p2 900) (b1 : B ≤ Cx.p2 900) :
    fin (fadd a b) ∧ Rz eps (val (fadd a b)) (A + B) := by
  have p1 := p2_pos (-500)
  have nA : 0 ≤ A := by rcases a0 with h | h <;> grind
  have nB : 0 ≤ B := by rcases b0 with h | h <;> grind
  have nn : 0 ≤ A + B := by grind
  have m := add_rd ha hb (by
    rw [hA, hB, ab_of_nonneg nn]
    have h2 := p2_lt (show (901 : Int) < 1023 by decide)
    have h3 : Cx.p2 901 = Cx.p2 900 * 2 := by rw [← p2_succ]; rfl
    grind)
  rw [hA, hB] at m
  refine ⟨m.1, m.2.rz ?_⟩
  have t := p2_mono (show (-1022 : Int) ≤ -500 by decide)
  rcases a0 with h | h
  · rcases b0 with h' | h'
    · left; rw [h, h']; decide +kernel
    · right; grind
  · right; grind

theorem near_num {A s T : Rat} (h1 : A - s ≤ A * (25 / 4503599627370496)) (h2 : s - A ≤ s * (25 / 4503599627370496)) (h3 : 1000 * s ≤ 2 * T) (h4 : A ≤ 2 * s) (hs : 0 < s) :
    A - s ≤ T * (1 / 2199023255552) ∧ -(A - s) ≤ T * (1 / 2199023255552) := by
  constructor <;> grind

structure ParaOk (x y u v : Nat) : Prop where
  f1 : fin (fadd x u)
  f2 : fin (fadd y v)
  f3 : fin (fsub x u)
  f4 : fin (fsub y v)
  o1 : HypOk (fadd x u) (fadd y v)
  o2 : HypOk (fsub x u) (fsub y v)
  o3 : HypOk x y
  o4 : HypOk u v
  h1 : fin (fhypt (fadd x u) (fadd y v))
  h2 : fin (fhypt (fsub x u) (fsub y v))
  h3 : fin (fhypt x y)
  h4 : fin (fhypt u v)
  g1 : fin (fmul two (fhypt x y))
  g2 : fin (fmul (fmul two (fhypt x y)) (fhypt x y))
  g3 : fin (fmul two (fhypt u v))
  g4 : fin (fmul (fmul two (fhypt u v)) (fhypt u v))
  g5 : fin (fadd (fmul (fmul two (fhypt x y)) (fhypt x y)) (fmul (fmul two (fhypt u v)) (fhypt u v)))
  k1 : fin (fmul (fhypt (fadd x u) (fadd y v)) (fhypt (fadd x u) (fadd y v)))
  k2 : fin (fmul (fhypt (fsub x u) (fsub y v)) (fhypt (fsub x u) (fsub y v)))
  k3 : fin (fadd (fmul (fhypt (fadd x u) (fadd y v)) (fhypt (fadd x u) (fadd y v))) (fmul (fhypt (fsub x u) (fsub y v)) (fhypt (fsub x u) (fsub y v))))
  k4 : fin (fmul thousand (fadd (fmul (fmul two (fhypt x y)) (fhypt x y)) (fmul (fmul two (fhypt u v)) (fhypt u v))))
  pos : val 0 < val (fadd (fmul (fmul two (fhypt x y)) (fhypt x y)) (fmul (fmul two (fhypt u v)) (fhypt u v)))
  near : NearOk (fadd (fmul (fhypt (fadd x u) (fadd y v)) (fhypt (fadd x u) (fadd y v))) (fmul (fhypt (fsub x u) (fsub y v)) (fhypt (fsub x u) (fsub y v))))
    (fadd (fmul (fmul two (fhypt x y)) (fhypt x y)) (fmul (fmul two (fhypt u v)) (fhypt u v)))
    (fmul thousand (fadd (fmul (fmul two (fhypt x y)) (fhypt x y)) (fmul (fmul two (fhypt u v)) (fhypt u v))))

theorem size_mid {p q : Nat} {a b : Int} (H : HyptIs p q a b) : (val (fhypt p q) = 0 ∨ Cx.p2 (-100) ≤ val (fhypt p q)) ∧ val (fhypt p q) ≤ Cx.p2 300 := by
  constructor
  · by_cases h : a = 0 ∧ b = 0
    · exact Or.inl (H.zero h)
    · right
      have := H.ge h
      rw [half_p2] at this
      exact Rat.le_trans (p2_mono (by decide)) this
  · have := H.le
    rw [show (4611686018427387904 : Rat) = Cx.p2 62 from by decide +kernel] at this
    exact Rat.le_trans this (p2_mono (by decide))

/-- A square of a hypotenuse, reckoned. -/
theorem sq_mid {p q : Nat} {a b : Int} (H : HyptIs p q a b) : fin (fmul (fhypt p q) (fhypt p q)) ∧ Rz (11 * eps) (val (fmul (fhypt p q) (fhypt p q))) ((a * a + b * b : Int) : Rat) := by
  obtain ⟨s1, s2⟩ := size_mid H
  obtain ⟨m1, m2⟩ := mul_mid H.fh H.fh rfl rfl s1 s1 s2 s2
  have := m2.trans H.near (by rw [eps_val]; decide +kernel)
  exact ⟨m1, this.mono (by rw [eps_val]; decide +kernel) (by rw [eps_val]; decide +kernel)⟩
theorem rl_two {x : Nat} {p q : Nat} {a b : Int} (H : HyptIs p q a b) (hn : ¬ (a = 0 ∧ b = 0)) :
    fin (fmul two (fhypt p q)) ∧ fin (fmul (fmul two (fhypt p q)) (fhypt p q)) ∧ Rz (12 * eps) (val (fmul (fmul two (fhypt p q)) (fhypt p q))) (2 * ((a * a + b * b : Int) : Rat)) := by
  obtain ⟨s1, s2⟩ := size_mid H
  have hge := H.ge hn
  have hle := H.le
  have t2 : (2 : Rat) = Cx.p2 1 := by decide +kernel
  obtain ⟨m1, m2⟩ := mul_mid fin_two H.fh val_two rfl (Or.inr (by rw [t2]; exact p2_mono (by decide))) s1 (by rw [t2]; exact p2_mono (by decide)) s2
  have hh := m2.half (by rw [eps_val]; decide +kernel)
  have c1 : Cx.p2 (-100) ≤ val (fmul two (fhypt p q)) := by
    refine Rat.le_trans (p2_mono (show (-100 : Int) ≤ -1 by decide)) ?_
    rw [← half_p2]; grind
  have c2 : val (fmul two (fhypt p q)) ≤ Cx.p2 300 := by
    have : val (fmul two (fhypt p q)) ≤ Cx.p2 64 := by
      rw [show Cx.p2 64 = 18446744073709551616 from by decide +kernel]; grind
    exact Rat.le_trans this (p2_mono (by decide))
  obtain ⟨m3, m4⟩ := mul_mid m1 H.fh rfl rfl (Or.inr c1) s1 c2 s2
  have hq : Rz (0 : Rat) (val (fhypt p q)) (val (fhypt p q)) := ⟨Rat.le_refl, by decide, H.nn, by grind, by grind⟩
  have m5 := m2.mul hq (by rw [eps_val]; decide +kernel)
  have e : 2 * val (fhypt p q) * val (fhypt p q) = 2 * (val (fhypt p q) * val (fhypt p q)) := by grind
  rw [e] at m5
  have h2 : Rz (0 : Rat) (2 : Rat) 2 := ⟨Rat.le_refl, by decide, by decide, by decide +kernel, by decide +kernel⟩
  have m6 := m4.trans (m5.trans (h2.mul H.near (by rw [eps_val]; decide +kernel)) (by rw [eps_val]; decide +kernel)) (by rw [eps_val]; decide +kernel)
  exact ⟨m1, m3, m6.mono (by rw [eps_val]; decide +kernel) (by rw [eps_val]; decide +kernel)⟩

theorem sq_nat {a : Int} {K : Nat} (h : a.natAbs ≤ K) : a * a ≤ ((K * K : Nat) : Int) ∧ 0 ≤ a * a := ⟨sq_bound h, sq_int_nonneg a⟩

theorem mid_of {u v : Rat} {N : Int} (h : Rz u v (N : Rat)) (hu : u ≤ 1 / 2) (hN : N = 0 ∨ 1 ≤ N) (hN2 : N ≤ 1152921504606846976) : (v = 0 ∨ Cx.p2 (-500) ≤ v) ∧ v ≤ Cx.p2 900 := by
  have hh := h.half hu
  have a2 : (N : Rat) ≤ 1152921504606846976 := by have := Rat.intCast_le_intCast.2 hN2; exact this
  constructor
  · rcases hN with h0 | h0
    · left
      have z : (N : Rat) = 0 := by rw [h0]; rfl
      have := h.apos
      grind
    · right
      have a1 : (1 : Rat) ≤ N := by have := Rat.intCast_le_intCast.2 h0; exact this
      refine Rat.le_trans (p2_mono (show (-500 : Int) ≤ -1 by decide)) ?_
      rw [← half_p2]; grind
  · have : v ≤ Cx.p2 61 := by rw [show Cx.p2 61 = 2305843009213693952 from by decide +kernel]; grind
    exact Rat.le_trans this (p2_mono (by decide))

theorem para_ok {x y u v : Nat} (h : Pair2 x y u v 1048576) : ParaOk x y u v := by
  obtain ⟨⟨qx, qy, qz⟩, ⟨qu, qv, qw⟩⟩ := h
  have nz1 := nz_iv qx qy qz
  have nz2 := nz_iv qu qv qw
  obtain ⟨fx, vx, bx⟩ := qx.iv
  obtain ⟨fy, vy, by'⟩ := qy.iv
  obtain ⟨fu, vu, bu⟩ := qu.iv
  obtain ⟨fv, vv, bv⟩ := qv.iv
  have bx : (iv x).natAbs ≤ 1048576 := bx
  have by' : (iv y).natAbs ≤ 1048576 := by'
  have bu : (iv u).natAbs ≤ 1048576 := bu
  have bv : (iv v).natAbs ≤ 1048576 := bv
  generalize iv x = a at *
  generalize iv y = b at *
  generalize iv u = c at *
  generalize iv v = d at *
  obtain ⟨f1, v1⟩ := fadd_int fx fu vx vu (by omega)
  obtain ⟨f2, v2⟩ := fadd_int fy fv vy vv (by omega)
  obtain ⟨f3, v3⟩ := fsub_int fx fu vx vu (by omega)
  obtain ⟨f4, v4⟩ := fsub_int fy fv vy vv (by omega)
  have H1 := hypt_int f1 f2 v1 v2 (by omega) (by omega)
  have H2 := hypt_int f3 f4 v3 v4 (by omega) (by omega)
  have H3 := hypt_int fx fy vx vy (by omega) (by omega)
  have H4 := hypt_int fu fv vu vv (by omega) (by omega)
  obtain ⟨k1, r1⟩ := sq_mid H1
  obtain ⟨k2, r2⟩ := sq_mid H2
  obtain ⟨g1, g2, r3⟩ := rl_two (x := 0) H3 nz1
  obtain ⟨g3, g4, r4⟩ := rl_two (x := 0) H4 nz2
  have sa := sq_nat bx
  have sb := sq_nat by'
  have sc := sq_nat bu
  have sd := sq_nat bv
  have e5 := sq_nat (show (a + c).natAbs ≤ 2097152 by omega)
  have e6 := sq_nat (show (b + d).natAbs ≤ 2097152 by omega)
  have e7 := sq_nat (show (a - c).natAbs ≤ 2097152 by omega)
  have e8 := sq_nat (show (b - d).natAbs ≤ 2097152 by omega)
  have hN3 := one_le_sq nz1
  have hN4 := one_le_sq nz2
  have z3 : 2 * ((a * a + b * b : Int) : Rat) = ((2 * (a * a + b * b) : Int) : Rat) := by rw [Rat.intCast_mul]; rfl
  have z4 : 2 * ((c * c + d * d : Int) : Rat) = ((2 * (c * c + d * d) : Int) : Rat) := by rw [Rat.intCast_mul]; rfl
  rw [z3] at r3
  rw [z4] at r4
  have small12 : 12 * eps ≤ 1 / 2 := by rw [eps_val]; decide +kernel
  have small11 : 11 * eps ≤ 1 / 2 := by rw [eps_val]; decide +kernel
  obtain ⟨i1, i2⟩ := mid_of r3 small12 (Or.inr (by omega)) (by omega)
  obtain ⟨i3, i4⟩ := mid_of r4 small12 (Or.inr (by omega)) (by omega)
  obtain ⟨i5, i6⟩ := mid_of r1 small11 (by omega) (by omega)
  obtain ⟨i7, i8⟩ := mid_of r2 small11 (by omega) (by omega)
  obtain ⟨g5, r5⟩ := add_mid g2 g4 rfl rfl i1 i3 i2 i4
  obtain ⟨k3, r6⟩ := add_mid k1 k2 rfl rfl i5 i7 i6 i8
  have r7 := r5.trans (r3.add r4) (by rw [eps_val]; decide +kernel)
  have r8 := r6.trans (r1.add r2) (by rw [eps_val]; decide +kernel)
  have eS : (a + c) * (a + c) + (b + d) * (b + d) + ((a - c) * (a - c) + (b - d) * (b - d)) = 2 * (a * a + b * b) + 2 * (c * c + d * d) := by grind
  rw [← Rat.intCast_add] at r7 r8
  rw [eS] at r8
  generalize hS : 2 * (a * a + b * b) + 2 * (c * c + d * d) = S at *
  have hS1 : 1 ≤ S := by omega
  have hS2 : S ≤ 1152921504606846976 := by omega
  have hSp : (0 : Rat) < S := Rat.intCast_pos.2 (by omega)
  have q7 := r7.rl hSp
  have q8 := (r8.rl hSp).trans q7.symm (by rw [eps_val]; decide +kernel)
  have sml : eps + 12 * eps ≤ 1 / 2 := by rw [eps_val]; decide +kernel
  obtain ⟨i9, i10⟩ := mid_of r7 sml (Or.inr hS1) hS2
  have hsump := q7.apos
  have hh7 := q7.half sml
  have hS1r : (1 : Rat) ≤ S := by have := Rat.intCast_le_intCast.2 hS1; exact this
  have hS2r : (S : Rat) ≤ 1152921504606846976 := by have := Rat.intCast_le_intCast.2 hS2; exact this
  have tk : (1000 : Rat) ≤ Cx.p2 10 := by decide +kernel
  have tk2 : Cx.p2 0 ≤ (1000 : Rat) := by decide +kernel
  have lo : 1 / 2 ≤ val (fadd (fmul (fmul two (fhypt x y)) (fhypt x y)) (fmul (fmul two (fhypt u v)) (fhypt u v))) := by grind
  have hi : val (fadd (fmul (fmul two (fhypt x y)) (fhypt x y)) (fmul (fmul two (fhypt u v)) (fhypt u v))) ≤ 2305843009213693952 := by grind
  generalize hsum : fadd (fmul (fmul two (fhypt x y)) (fhypt x y)) (fmul (fmul two (fhypt u v)) (fhypt u v)) = sum at *
  generalize hab : fadd (fmul (fhypt (fadd x u) (fadd y v)) (fhypt (fadd x u) (fadd y v))) (fmul (fhypt (fsub x u) (fsub y v)) (fhypt (fsub x u) (fsub y v))) = AB at *
  have lo2 : Cx.p2 (-100) ≤ val sum := by
    rw [half_p2] at lo; exact Rat.le_trans (p2_mono (by decide)) lo
  have hi2 : val sum ≤ Cx.p2 300 := by
    rw [show (2305843009213693952 : Rat) = Cx.p2 61 from by decide +kernel] at hi; exact Rat.le_trans hi (p2_mono (by decide))
  obtain ⟨k4, r9⟩ := mul_mid fin_thousand g5 val_thousand rfl (Or.inr (Rat.le_trans (p2_mono (by decide)) tk2)) (Or.inr lo2) (Rat.le_trans tk (p2_mono (by decide))) hi2
  have r9h := r9.half (by rw [eps_val]; decide +kernel)
  have hAB := q8.apos
  have q8h := q8.half (by rw [eps_val]; decide +kernel)
  have p1000 : (4611686018427387904000 : Rat) ≤ Cx.p2 1000 := by
    refine Rat.le_trans (show (4611686018427387904000 : Rat) ≤ Cx.p2 100 by decide +kernel) (p2_mono (by decide))
  have hnear : NearOk AB sum (fmul thousand sum) := by
    refine near_of k3 g5 k4 (by rw [ab_of_nonneg (Rat.le_of_lt hAB)]; grind) (by rw [ab_of_nonneg (Rat.le_of_lt hsump)]; grind) ?_ (by grind) ?_
    · refine Rat.le_trans (p2_mono (show (-900 : Int) ≤ -1 by decide)) ?_
      rw [← half_p2]; grind
    · have hn := q8.near
      have e41 : Cx.p2 (-41) = 1 / 2199023255552 := by decide +kernel
      have ee : eps + 11 * eps + (eps + 12 * eps) = 25 / 4503599627370496 := by rw [eps_val]; decide +kernel
      rw [ee] at hn
      rw [ab_le, e41]
      have r9a := r9h.1
      have r9b := q8h.2
      generalize val (fmul thousand sum) = T at *
      generalize val sum = s at *
      generalize val AB = A at *
      exact near_num hn.1 hn.2 r9a r9b hsump
  exact ⟨f1, f2, f3, f4, ⟨f1, f2, H1.ok⟩, ⟨f3, f4, H2.ok⟩, ⟨fx, fy, H3.ok⟩, ⟨fu, fv, H4.ok⟩, H1.fh, H2.fh, H3.fh, H4.fh, g1, g2, g3, g4, by rw [hsum]; exact g5, k1, k2, by rw [hab]; exact k3, by rw [hsum]; exact k4,
    by rw [hsum, val_zero]; exact hsump, by rw [hsum, hab]; exact hnear⟩

set_option maxHeartbeats 1000000 in
theorem para_walk (x y u v : Nat) (w : World) (hx : x < 18446744073709551616) (hy : y < 18446744073709551616) (hu : u < 18446744073709551616) (hv : v < 18446744073709551616) :
    Calls Try.prog 7 #[.float .f64 x, .float .f64 y, .float .f64 u, .float .f64 v] w fun e w' => e = .returned (.bool true) ∧ Below w.heap.size w w' := by
  have fm : fin 4697254411347427328 := fin_of _ (by decide)
  have vm : val 4697254411347427328 = (1048576 : Int) := by decide +kernel
  have HM := Lib.hid vm
  clear vm
  have HB : Hid (∀ o1 o2, Below w.heap.size w ((w.alloc o1).alloc o2)) := Lib.hid (fun o1 o2 => ((Below.refl _ _).alloc (Nat.le_refl _) _).alloc (by simp) _)
  have f0 := fin_zero
  have f2 := fin_two
  have f1000 := fin_thousand
  by_cases hall : Pair2 x y u v 1048576
  · have P := para_ok hall
    have g1 := hall.1.1.1
    have g2 := hall.1.2.1.1
    have g3 := hall.2.1.1
    have g4 := hall.2.2.1.1
    have HA := Lib.hid (pair2_iff.2 hall)
    obtain ⟨p1, p2, p3, p4, p5, p6, p7, p8, p9, p10, p11, p12, p13, p14, p15, p16, p17, p18, p19, p20, p21, p22, p23⟩ := P
    have HP := Lib.hid p23
    unfold two thousand at *
    clear hall p23
    go_enter Try.func7, Try.ntmps7
    go_wp2_with fail
    refine (allw_yes _ _ _ _ _ _ _ 1048576 (pairW x u) (pairW y v) _ (frow_pair hx hu (by simp) (by simp)) (frow_pair hy hv (by simp) (by simp)) fm HM.out (by omega) (by omega) HA.out).mono ?_
    rintro e w' ⟨rfl, rfl⟩
    go_wp2_with (first | (go_at_call 31; refine (abs_any _ _ _ (by assumption)).mono ?_; rintro e w' ⟨rfl, rfl⟩) | (go_at_call 32; refine (near_yes _ _ _ _ (by assumption) (by assumption) (by assumption) HP.out).mono ?_; rintro e w' ⟨rfl, rfl⟩))
    go_ret
    exact ⟨rfl, HB.out _ _⟩
  · have HA := Lib.hid (fun h => hall (pair2_iff.1 h))
    clear hall
    go_enter Try.func7, Try.ntmps7
    go_wp2_with fail
    refine (allw_no _ _ _ _ _ _ _ 1048576 (pairW x u) (pairW y v) _ (frow_pair hx hu (by simp) (by simp)) (frow_pair hy hv (by simp) (by simp)) fm HM.out (by omega) (by omega) HA.out).mono ?_
    rintro e w' ⟨rfl, rfl⟩
    go_wp2
    go_ret
    exact ⟨rfl, HB.out _ _⟩
end Go.Proofs.Ytigckpmeppddcaa
