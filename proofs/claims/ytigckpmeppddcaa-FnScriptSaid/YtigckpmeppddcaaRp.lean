/- FnRootProduct: the law over the words, and the walk. -/
import Derived.Test.YtigckpmeppddcaaTm
import Derived.Test.YtigckpmeppddcaaParallelogram
set_option linter.unusedVariables false
namespace Go.Proofs.Ytigckpmeppddcaa
open Go.RowKit Cx

theorem near_cn {s t p q S : Nat} {u B : Rat} (fs : fin s) (ft : fin t) (fp : fin p) (fq : fin q) (fS : fin S) (hc : Cn u ⟨val s, val t⟩ ⟨val p, val q⟩) (hu : u ≤ 1) (hB : ab (val p) + ab (val q) ≤ B) (B2 : B ≤ 1125899906842624)
    (s1 : 1 / 1024 ≤ val S) (s2 : val S ≤ 1152921504606846976) (h : u * B ≤ val S * (1 / 2199023255552)) : NearOk s p S ∧ NearOk t q S := by
  obtain ⟨d1, d2⟩ := hc.dist
  simp only at d1 d2
  have u0 := hc.u0
  have n1 := ab_nonneg (val p)
  have n2 := ab_nonneg (val q)
  have hUB := Rat.mul_le_mul_of_nonneg_left hB u0
  have hU1 : u * (ab (val p) + ab (val q)) ≤ 1 * (ab (val p) + ab (val q)) := Rat.mul_le_mul_of_nonneg_right hu (by grind)
  have e41 : Cx.p2 (-41) = 1 / 2199023255552 := by decide +kernel
  have a1 := le_ab (val p)
  have a2 := neg_le_ab (val p)
  have a3 := le_ab (val q)
  have a4 := neg_le_ab (val q)
  have slo : Cx.p2 (-900) ≤ val S := Rat.le_trans (Rat.le_trans (p2_mono (show (-900 : Int) ≤ -10 by decide)) (by decide +kernel)) s1
  have shi : val S ≤ Cx.p2 1000 := le_1000 s2
  constructor
  · refine near_of fs fp fS (le_1000 ?_) (le_1000 (by grind)) slo shi (by rw [e41]; grind)
    rw [ab_le] at d1 ⊢; constructor <;> grind
  · refine near_of ft fq fS (le_1000 ?_) (le_1000 (by grind)) slo shi (by rw [e41]; grind)
    rw [ab_le] at d2 ⊢; constructor <;> grind

structure RpOk (x y u v : Nat) : Prop where
  i1 : SqIn x y 1152921504606846976
  i2 : SqIn u v 1152921504606846976
  m1 : fin (fmul x u)
  m2 : fin (fmul y v)
  m3 : fin (fmul x v)
  m4 : fin (fmul y u)
  i3 : SqIn (tre x y u v) (tim x y u v) 1152921504606846976
  s1 : SqIs x y
  s2 : SqIs u v
  s3 : SqIs (tre x y u v) (tim x y u v)
  t : TmOk (cre x y) (cim x y) (cre u v) (cim u v)
  hyp : HypOk (cre (tre x y u v) (tim x y u v)) (cim (tre x y u v) (tim x y u v))
  fh : fin (fhypt (cre (tre x y u v) (tim x y u v)) (cim (tre x y u v) (tim x y u v)))
  fS : fin (fmul thousand (fhypt (cre (tre x y u v) (tim x y u v)) (cim (tre x y u v) (tim x y u v))))
  pos : val 0 < val (fmul thousand (fhypt (cre (tre x y u v) (tim x y u v)) (cim (tre x y u v) (tim x y u v))))
  near : ∃ a b c d S, a = tre (cre x y) (cim x y) (cre u v) (cim u v) ∧ b = tim (cre x y) (cim x y) (cre u v) (cim u v) ∧ c = cre (tre x y u v) (tim x y u v) ∧ d = cim (tre x y u v) (tim x y u v) ∧
    S = fmul thousand (fhypt (cre (tre x y u v) (tim x y u v)) (cim (tre x y u v) (tim x y u v))) ∧ fin (fneg c) ∧ fin (fneg d) ∧ NearFin a c S ∧ NearFin b d S ∧
    ((NearOk a c S ∧ NearOk b d S) ∨ (NearOk a (fneg c) S ∧ NearOk b (fneg d) S))

theorem rp_num {A B : Rat} : 24 * eps + 24 * eps + 2 * (24 * eps * (24 * eps)) + (40 * eps + 40 * eps + 2 * (40 * eps * (40 * eps))) + 2 * ((24 * eps + 24 * eps + 2 * (24 * eps * (24 * eps))) * (40 * eps + 40 * eps + 2 * (40 * eps * (40 * eps)))) ≤ 130 * eps := by
  rw [eps_val]; decide +kernel

theorem rp_ok {x y u v : Nat} (h : Pair2 x y u v 256) : RpOk x y u v := by
  obtain ⟨⟨qx, qy, qz⟩, ⟨qu, qv, qw⟩⟩ := h
  have nz1 := nz_iv qx qy qz
  have nz2 := nz_iv qu qv qw
  obtain ⟨fx, vx, bx⟩ := qx.iv
  obtain ⟨fy, vy, by'⟩ := qy.iv
  obtain ⟨fu, vu, bu⟩ := qu.iv
  obtain ⟨fv, vv, bv⟩ := qv.iv
  have bx : (iv x).natAbs ≤ 256 := bx
  have by' : (iv y).natAbs ≤ 256 := by'
  have bu : (iv u).natAbs ≤ 256 := bu
  have bv : (iv v).natAbs ≤ 256 := bv
  generalize iv x = a at *
  generalize iv y = b at *
  generalize iv u = c at *
  generalize iv v = d at *
  have i1 := sqin_int fx fy vx vy nz1 (by omega) (by omega)
  have i2 := sqin_int fu fv vu vv nz2 (by omega) (by omega)
  have c1 := mul_natAbs_le bx bu
  have c2 := mul_natAbs_le by' bv
  have c3 := mul_natAbs_le bx bv
  have c4 := mul_natAbs_le by' bu
  obtain ⟨m1, w1⟩ := fmul_int fx fu vx vu (by omega)
  obtain ⟨m2, w2⟩ := fmul_int fy fv vy vv (by omega)
  obtain ⟨m3, w3⟩ := fmul_int fx fv vx vv (by omega)
  obtain ⟨m4, w4⟩ := fmul_int fy fu vy vu (by omega)
  obtain ⟨g1, z1⟩ := fsub_int m1 m2 w1 w2 (by omega)
  obtain ⟨g2, z2⟩ := fadd_int m3 m4 w3 w4 (by omega)
  have e1 : fsub (fmul x u) (fmul y v) = tre x y u v := rfl
  have e2 : fadd (fmul x v) (fmul y u) = tim x y u v := rfl
  rw [e1] at g1 z1
  rw [e2] at g2 z2
  have nz3 : ¬ (a * c - b * d = 0 ∧ a * d + b * c = 0) := by
    rintro ⟨h1, h2⟩
    have p1 := one_le_sq nz1
    have p2 := one_le_sq nz2
    have p3 := Int.mul_le_mul p1 p2 (by decide) (by omega)
    have p4 : (a * a + b * b) * (c * c + d * d) = (a * c - b * d) * (a * c - b * d) + (a * d + b * c) * (a * d + b * c) := by grind
    rw [p4, h1, h2] at p3
    omega
  have i3 := sqin_int g1 g2 z1 z2 nz3 (by omega) (by omega)
  have s1 := sq_is i1
  have s2 := sq_is i2
  have s3 := sq_is i3
  have K32 : 32 * (1152921504606846976 : Rat) ≤ Cx.p2 240 := by decide +kernel
  have r1 := s1.range i1 K32
  have r2 := s2.range i2 K32
  have r3 := s3.range i3 K32
  have up : ∀ {p q : Nat} {a b : Int}, SqIn p q 1152921504606846976 → SqIs p q → val p = a → val q = b → a.natAbs ≤ 131072 → b.natAbs ≤ 131072 → nrm (cre p q) (cim p q) ≤ 1048576 := by
    intro p q a b i s va vb ba bb
    have hn := (s.norm i).half (by rw [eps_val]; decide +kernel)
    have hz : nrm p q ≤ 34359738368 := by
      unfold nrm; rw [va, vb, ← Rat.intCast_mul, ← Rat.intCast_mul, ← Rat.intCast_add]
      have t1 := sq_nat ba
      have t2 := sq_nat bb
      have := Rat.intCast_le_intCast.2 (show a * a + b * b ≤ 34359738368 by omega)
      exact this
    exact le_of_sq_le (by decide) (by grind)
  have u1 := up i1 s1 vx vy (by omega) (by omega)
  have u2 := up i2 s2 vu vv (by omega) (by omega)
  have u3 := up i3 s3 z1 z2 (by omega) (by omega)
  have T := tm_ok s1.fp s1.fq s2.fp s2.fq r1.lo r2.lo (by grind) (by grind)
  obtain ⟨hy1, hy2, hy3, hy4, hy5, hy6⟩ := r3.hyp
  have hyp : HypOk (cre (tre x y u v) (tim x y u v)) (cim (tre x y u v) (tim x y u v)) := ⟨s3.fp, s3.fq, fun _ => ⟨hy1, hy2⟩⟩
  have hZ : (⟨val (tre x y u v), val (tim x y u v)⟩ : Cq) = (⟨val x, val y⟩ : Cq).mul ⟨val u, val v⟩ := by
    apply Cq.ext' <;> simp only [Cq.mul]
    · rw [z1, vx, vy, vu, vv, Rat.intCast_sub, Rat.intCast_mul, Rat.intCast_mul]
    · rw [z2, vx, vy, vu, vv, Rat.intCast_add, Rat.intCast_mul, Rat.intCast_mul]
  have hZn : 0 < (⟨val (tre x y u v), val (tim x y u v)⟩ : Cq).norm := by rw [nrm_eq]; have := i3.lo; grind
  have cz := s1.sq.mul s2.sq
  rw [← hZ] at cz
  have cp := (T.cn.mul T.cn)
  rw [Cq.mul_mul_mul] at cp
  have cpz := (cp.trans cz).mono (rp_num (A := 0) (B := 0))
  have R := Cn.roots cpz s3.sq (by rw [eps_val]; decide +kernel) (by rw [eps_val]; decide +kernel) hZn
  -- sizes
  have f1 := T.f1
  have f2 := T.f2
  generalize ha' : tre (cre x y) (cim x y) (cre u v) (cim u v) = A at *
  generalize hb' : tim (cre x y) (cim x y) (cre u v) (cim u v) = B at *
  have fp := s3.fp
  have fq := s3.fq
  have lo3 := r3.lo
  have hS0 := hy6.half (by rw [eps_val]; decide +kernel)
  have ss := (sum_sq (a := val (cre (tre x y u v) (tim x y u v))) (b := val (cim (tre x y u v) (tim x y u v)))).1
  have enrm : val (cre (tre x y u v) (tim x y u v)) * val (cre (tre x y u v) (tim x y u v)) + val (cim (tre x y u v) (tim x y u v)) * val (cim (tre x y u v) (tim x y u v)) = nrm (cre (tre x y u v) (tim x y u v)) (cim (tre x y u v) (tim x y u v)) := rfl
  rw [enrm] at ss
  have hl : 1 / 2 ≤ val (fhypt (cre (tre x y u v) (tim x y u v)) (cim (tre x y u v) (tim x y u v))) := le_of_sq_le (Rat.le_of_lt hy5) (by grind)
  have hu : val (fhypt (cre (tre x y u v) (tim x y u v)) (cim (tre x y u v) (tim x y u v))) ≤ 2048 := le_of_sq_le (by decide) (by grind)
  have hB : ab (val (cre (tre x y u v) (tim x y u v))) + ab (val (cim (tre x y u v) (tim x y u v))) ≤ 2 * val (fhypt (cre (tre x y u v) (tim x y u v)) (cim (tre x y u v) (tim x y u v))) := le_of_sq_le (by grind) (by grind)
  have hS := fmul_near (B := 2048000) fin_thousand hy4 (by rw [val_thousand, ab_of_nonneg (by grind)]; grind) (by decide +kernel) (by decide +kernel)
  rw [val_thousand] at hS
  obtain ⟨fS, eS⟩ := hS
  rw [ab_le] at eS
  refine ⟨i1, i2, m1, m2, m3, m4, i3, s1, s2, s3, T, hyp, hy4, fS, by rw [val_zero]; grind, A, B, _, _, _, ha'.symm, hb'.symm, rfl, rfl, rfl, (fneg_spec fp).1, (fneg_spec fq).1, ?_⟩
  generalize fhypt (cre (tre x y u v) (tim x y u v)) (cim (tre x y u v) (tim x y u v)) = hh at *
  generalize cre (tre x y u v) (tim x y u v) = C at *
  generalize cim (tre x y u v) (tim x y u v) = D at *
  have n1 := ab_nonneg (val C)
  have n2 := ab_nonneg (val D)
  have s1 : 1 / 1024 ≤ val (fmul thousand hh) := by grind
  have s2 : val (fmul thousand hh) ≤ 1152921504606846976 := by grind
  have e680 : 4 * (130 * eps + 40 * eps) = 680 / 4503599627370496 := by rw [eps_val]; decide +kernel
  rw [e680] at R
  have sz : (680 / 4503599627370496 : Rat) * (2 * val hh) ≤ val (fmul thousand hh) * (1 / 2199023255552) := by grind
  have szA : ab (val A) ≤ 1152921504606846976 ∧ ab (val B) ≤ 1152921504606846976 := by
    rcases R with R | R
    · have := R.dist
      simp only at this
      rw [ab_le, ab_le] at this
      have := le_ab (val C); have := neg_le_ab (val C); have := le_ab (val D); have := neg_le_ab (val D)
      rw [ab_le, ab_le]; constructor <;> constructor <;> grind
    · have := R.dist
      simp only at this
      rw [ab_le, ab_le, ab_neg, ab_neg] at this
      have := le_ab (val C); have := neg_le_ab (val C); have := le_ab (val D); have := neg_le_ab (val D)
      rw [ab_le, ab_le]; constructor <;> constructor <;> grind
  have nS : ab (val (fmul thousand hh)) ≤ 1152921504606846976 := by rw [ab_le]; constructor <;> grind
  refine ⟨near_fin f1 fp fS (le_1000 szA.1) (le_1000 (by grind)) (le_1000 nS), near_fin f2 fq fS (le_1000 szA.2) (le_1000 (by grind)) (le_1000 nS), ?_⟩
  obtain ⟨np, vp, _⟩ := fneg_spec fp
  obtain ⟨nq, vq, _⟩ := fneg_spec fq
  rcases R with R | R
  · left
    exact near_cn f1 f2 fp fq fS R (by decide +kernel) hB (by grind) s1 s2 sz
  · right
    refine near_cn f1 f2 np nq fS (u := 680 / 4503599627370496) (by rw [vp, vq]; exact R) (by decide +kernel) (B := 2 * val hh) (by rw [vp, vq, ab_neg, ab_neg]; exact hB) (by grind) s1 s2 sz
end Go.Proofs.Ytigckpmeppddcaa
