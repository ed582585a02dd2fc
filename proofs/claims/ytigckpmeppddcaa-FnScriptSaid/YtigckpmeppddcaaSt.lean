/- FnSqrtTower: the law over the words. -/
import Derived.Test.YtigckpmeppddcaaQd
set_option linter.unusedVariables false
namespace Go.Proofs.Ytigckpmeppddcaa
open Go.RowKit Cx

/-- The roots' words, the halved angle, the squares. -/
def st (x y : Nat) : Nat → Nat × Nat
  | 0 => (x, y)
  | k + 1 => (cre (st x y k).1 (st x y k).2, cim (st x y k).1 (st x y k).2)
def an (a : Nat) : Nat → Nat
  | 0 => a
  | k + 1 => fdiv (an a k) two
def sqs (x y : Nat) : Nat → Nat × Nat
  | 0 => (x, y)
  | k + 1 => (tre (sqs x y k).1 (sqs x y k).2 (sqs x y k).1 (sqs x y k).2, tim (sqs x y k).1 (sqs x y k).2 (sqs x y k).1 (sqs x y k).2)

def QK (k : Nat) : Rat := 1152921504606846976 * ((32 ^ k : Nat) : Rat)
theorem QK_succ (k : Nat) : QK (k + 1) = 32 * QK k := by
  unfold QK; rw [Nat.pow_succ, Rat.natCast_mul]
  have : ((32 : Nat) : Rat) = 32 := rfl
  rw [this]; grind
theorem QK_le (k : Nat) (h : k ≤ 10) : 32 * QK k ≤ Cx.p2 240 := by
  unfold QK
  have h1 : 32 ^ k ≤ 32 ^ 10 := Nat.pow_le_pow_right (by decide) h
  have h2 := Rat.natCast_le_natCast.2 h1
  have h3 : 32 * (1152921504606846976 * ((32 ^ 10 : Nat) : Rat)) ≤ Cx.p2 240 := by decide +kernel
  grind

structure StOk (x y k : Nat) : Prop where
  i : SqIn (st x y k).1 (st x y k).2 (QK k)
  lo : 9 / 10 ≤ nrm (st x y k).1 (st x y k).2
  hi : nrm (st x y k).1 (st x y k).2 ≤ 4194304

theorem st_ok {x y : Nat} (h : SqIn x y 1152921504606846976) (h1 : 9 / 10 ≤ nrm x y) (h2 : nrm x y ≤ 4194304) : ∀ k, k ≤ 9 → StOk x y k
  | 0, _ => ⟨by
      have : QK 0 = 1152921504606846976 := by decide +kernel
      rw [this]; exact h, h1, h2⟩
  | k + 1, hk => by
    have ih := st_ok h h1 h2 k (by omega)
    have s := sq_is ih.i
    have r := s.range ih.i (QK_le k (by omega))
    rw [← QK_succ] at r
    have n := s.norm ih.i
    have nn := n.near
    have hh := n.half (by rw [eps_val]; decide +kernel)
    rw [eps_val] at nn
    have l := ih.lo
    have u := ih.hi
    have n0 := nrm_nonneg (cre (st x y k).1 (st x y k).2) (cim (st x y k).1 (st x y k).2)
    refine ⟨r, le_of_sq_le n0 ?_, le_of_sq_le (by decide) ?_⟩
    · show 9 / 10 * (9 / 10) ≤ nrm (cre (st x y k).1 (st x y k).2) (cim (st x y k).1 (st x y k).2) * nrm (cre (st x y k).1 (st x y k).2) (cim (st x y k).1 (st x y k).2)
      grind
    · show nrm (cre (st x y k).1 (st x y k).2) (cim (st x y k).1 (st x y k).2) * nrm (cre (st x y k).1 (st x y k).2) (cim (st x y k).1 (st x y k).2) ≤ _
      grind

theorem StOk.is {x y k : Nat} (h : StOk x y k) : SqIs (st x y k).1 (st x y k).2 := sq_is h.i

structure AnOk (x y k : Nat) : Prop where
  f : fin (an (phw x y) k)
  le : ab (val (an (phw x y) k)) ≤ 4
  near : ab (val (phw (st x y k).1 (st x y k).2) - val (an (phw x y) k)) ≤ 401 * ea

theorem an_num {b c a d : Rat} (h1 : ab (2 * c - b) ≤ 400 * ea) (h2 : ab (b - a) ≤ 401 * ea) (h3 : ab (d - a / 2) ≤ 4 * (1 / 4503599627370496)) (h4 : ab a ≤ 4) : ab (c - d) ≤ 401 * ea ∧ ab d ≤ 4 := by
  rw [ea_val] at *
  rw [ab_le] at h1 h2 h3 h4
  constructor <;> rw [ab_le] <;> constructor <;> grind

theorem an_ok {x y : Nat} (S : ∀ k, k ≤ 9 → StOk x y k) : ∀ k, k ≤ 9 → AnOk x y k
  | 0, _ => by
    have P := ph_is (S 0 (by decide)).i.ph
    exact ⟨P.f, Rat.le_trans P.le (by decide +kernel), by
      show ab (val (phw x y) - val (phw x y)) ≤ _
      rw [Rat.sub_self, ab_zero]; decide +kernel⟩
  | k + 1, hk => by
    have ih := an_ok S k (by omega)
    have s := S k (by omega)
    have H := half_phase s.i s.is (QK_le k (by omega))
    obtain ⟨d1, d2, d3⟩ := fdiv_two ih.f ih.le (by decide +kernel) (by decide +kernel)
    have := an_num H ih.near d3 ih.le
    exact ⟨d2, this.2, this.1⟩

theorem an_div {x y k : Nat} (h : AnOk x y k) : Ieee.double.div (an (phw x y) k) two = some (an (phw x y) (k + 1)) := (fdiv_two h.f h.le (by decide +kernel) (by decide +kernel)).1

def EJ (j : Nat) : Rat := 100 * eps * ((3 ^ j : Nat) : Rat)
theorem EJ_succ (j : Nat) : EJ (j + 1) = 3 * EJ j := by
  unfold EJ; rw [Nat.pow_succ, Rat.natCast_mul]
  have : ((3 : Nat) : Rat) = 3 := rfl
  rw [this]; grind
theorem EJ_le (j : Nat) (h : j ≤ 8) : EJ j ≤ 656100 / 4503599627370496 ∧ 100 / 4503599627370496 ≤ EJ j := by
  unfold EJ
  have h1 : 3 ^ j ≤ 3 ^ 8 := Nat.pow_le_pow_right (by decide) h
  have h2 := Rat.natCast_le_natCast.2 h1
  have h3 : 1 ≤ 3 ^ j := Nat.pow_pos (by decide)
  have h4 := Rat.natCast_le_natCast.2 h3
  have h5 : ((3 ^ 8 : Nat) : Rat) = 6561 := by decide +kernel
  have h6 : ((1 : Nat) : Rat) = 1 := rfl
  rw [eps_val]
  constructor <;> grind

structure SjOk (x y k j : Nat) : Prop where
  f1 : fin (sqs (st x y k).1 (st x y k).2 j).1
  f2 : fin (sqs (st x y k).1 (st x y k).2 j).2
  cn : Cn (EJ j) ⟨val (sqs (st x y k).1 (st x y k).2 j).1, val (sqs (st x y k).1 (st x y k).2 j).2⟩ ⟨val (st x y (k - j)).1, val (st x y (k - j)).2⟩

theorem ej_num {e : Rat} (h1 : e ≤ 656100 / 4503599627370496) (h2 : 100 / 4503599627370496 ≤ e) :
    24 * eps + (e + e + 2 * (e * e)) + 2 * (24 * eps * (e + e + 2 * (e * e))) + 40 * eps + 2 * ((24 * eps + (e + e + 2 * (e * e)) + 2 * (24 * eps * (e + e + 2 * (e * e)))) * (40 * eps)) ≤ 3 * e := by
  have h3 : e * e ≤ e * (656100 / 4503599627370496) := Rat.mul_le_mul_of_nonneg_left h1 (by grind)
  rw [eps_val]
  grind

theorem sj_tm {x y k j : Nat} (S : ∀ k, k ≤ 9 → StOk x y k) (hk : k ≤ 8) (hj : j ≤ k) (h : SjOk x y k j) :
    TmOk (sqs (st x y k).1 (st x y k).2 j).1 (sqs (st x y k).1 (st x y k).2 j).2 (sqs (st x y k).1 (st x y k).2 j).1 (sqs (st x y k).1 (st x y k).2 j).2 := by
  have s := S (k - j) (by omega)
  obtain ⟨e1, e2⟩ := EJ_le j (by omega)
  have hp : 0 < (⟨val (st x y (k - j)).1, val (st x y (k - j)).2⟩ : Cq).norm := by rw [nrm_eq]; have := s.lo; grind
  have n := (h.cn.norm (by grind) hp)
  rw [nrm_eq, nrm_eq] at n
  have hh := n.half (by grind)
  have nn := n.near
  have l := s.lo
  have u := s.hi
  have hlo : 1 / 2 ≤ nrm (sqs (st x y k).1 (st x y k).2 j).1 (sqs (st x y k).1 (st x y k).2 j).2 := by
    have h3 := Rat.mul_le_mul_of_nonneg_left e1 (show 0 ≤ nrm (st x y (k - j)).1 (st x y (k - j)).2 by grind)
    grind
  exact tm_ok h.f1 h.f2 h.f1 h.f2 hlo hlo (by grind) (by grind)

theorem sj_ok {x y k : Nat} (S : ∀ k, k ≤ 9 → StOk x y k) (hk : k ≤ 8) : ∀ j, j ≤ k → SjOk x y k j
  | 0, _ => by
    have s := S k (by omega)
    refine ⟨s.i.fx, s.i.fy, ?_⟩
    have e := EJ_le 0 (by omega)
    exact (Cn.refl _).mono (by grind)
  | j + 1, hj => by
    have ih := sj_ok S hk j (by omega)
    have T := sj_tm S hk (by omega) ih
    have s := S (k - (j + 1)) (by omega)
    have q := s.is.sq
    have ek : k - j = k - (j + 1) + 1 := by omega
    have c := ih.cn
    rw [ek] at c
    have c2 := (T.cn.trans (c.mul c)).trans q
    obtain ⟨e1, e2⟩ := EJ_le j (by omega)
    have c3 := c2.mono (ej_num e1 e2)
    rw [← EJ_succ] at c3
    exact ⟨T.f1, T.f2, c3⟩

def wmil : Nat := 4696837146684686336
theorem fin_wmil : fin wmil := fin_of _ (by decide)
theorem val_wmil : val wmil = 1000000 := by decide +kernel

structure TowOk (x y k : Nat) : Prop where
  s : ∀ k, k ≤ 9 → StOk x y k
  a : ∀ k, k ≤ 9 → AnOk x y k
  j : ∀ j, j ≤ k → SjOk x y k j
  ph : PhOk x y
  ph2 : PhOk (st x y k).1 (st x y k).2
  fph2 : fin (phw (st x y k).1 (st x y k).2)
  n1 : NearOk (phw (st x y k).1 (st x y k).2) (an (phw x y) k) w10
  hyp : HypOk x y
  fh : fin (fhypt x y)
  hpos : val 0 < val (fhypt x y)
  fS : fin (fmul wmil (fhypt x y))
  n2 : NearOk (sqs (st x y k).1 (st x y k).2 k).1 x (fmul wmil (fhypt x y))
  n3 : NearOk (sqs (st x y k).1 (st x y k).2 k).2 y (fmul wmil (fhypt x y))

theorem tow_ok {x y k : Nat} (qx : Whl x 1024) (qy : Whl y 1024) (hz : ¬ (val x = val 0 ∧ val y = val 0)) (hk : k ≤ 8) : TowOk x y k := by
  have nz1 := nz_iv qx qy hz
  obtain ⟨fx, vx, bx⟩ := qx.iv
  obtain ⟨fy, vy, by'⟩ := qy.iv
  have bx : (iv x).natAbs ≤ 1024 := bx
  have by' : (iv y).natAbs ≤ 1024 := by'
  generalize iv x = a at *
  generalize iv y = b at *
  have i := sqin_int fx fy vx vy nz1 (by omega) (by omega)
  have en : nrm x y = ((a * a + b * b : Int) : Rat) := by unfold nrm; rw [vx, vy, Rat.intCast_add, Rat.intCast_mul, Rat.intCast_mul]
  have l1 : (1 : Rat) ≤ nrm x y := by
    rw [en]
    have := Rat.intCast_le_intCast.2 (one_le_sq nz1)
    exact this
  have u1 : nrm x y ≤ 4194304 := by
    rw [en]
    have t1 := sq_nat bx
    have t2 := sq_nat by'
    have := Rat.intCast_le_intCast.2 (show a * a + b * b ≤ 4194304 by omega)
    exact this
  have S := st_ok i (by grind) u1
  have A := an_ok S
  have J := sj_ok S hk
  have sk := S k (by omega)
  have P2 := ph_is sk.i.ph
  have Ak := A k (by omega)
  have n1 : NearOk (phw (st x y k).1 (st x y k).2) (an (phw x y) k) w10 := by
    refine near_c P2.f Ak.f fin_w10 val_w10 (by decide +kernel) (by decide +kernel) (Rat.le_trans P2.le (by decide +kernel)) (Rat.le_trans Ak.le (by decide +kernel)) (Rat.le_trans Ak.near (by decide +kernel))
  obtain ⟨h1, h2, _, h4, h5, h6⟩ := i.hyp
  have hS0 := h6.half (by rw [eps_val]; decide +kernel)
  have ss := (sum_sq (a := val x) (b := val y)).1
  have enrm : val x * val x + val y * val y = nrm x y := rfl
  rw [enrm] at ss
  have hl : 1 / 2 ≤ val (fhypt x y) := le_of_sq_le (Rat.le_of_lt h5) (by grind)
  have hu : val (fhypt x y) ≤ 4096 := le_of_sq_le (by decide) (by grind)
  have hB : ab (val x) + ab (val y) ≤ 2 * val (fhypt x y) := le_of_sq_le (by grind) (by grind)
  have hS := fmul_near (B := 4096000000) fin_wmil h4 (by rw [val_wmil, ab_of_nonneg (by grind)]; grind) (by decide +kernel) (by decide +kernel)
  rw [val_wmil] at hS
  obtain ⟨fS, eS⟩ := hS
  rw [ab_le] at eS
  have Jk := J k (Nat.le_refl _)
  have cn := Jk.cn
  rw [Nat.sub_self] at cn
  obtain ⟨e1, e2⟩ := EJ_le k hk
  have N := near_cn Jk.f1 Jk.f2 fx fy fS (cn.mono e1) (by decide +kernel) hB (by grind) (by grind) (by grind) (by grind)
  exact ⟨S, A, J, i.ph, sk.i.ph, P2.f, n1, ⟨fx, fy, fun _ => ⟨h1, h2⟩⟩, h4, by rw [val_zero]; exact h5, fS, N.1, N.2⟩
end Go.Proofs.Ytigckpmeppddcaa
