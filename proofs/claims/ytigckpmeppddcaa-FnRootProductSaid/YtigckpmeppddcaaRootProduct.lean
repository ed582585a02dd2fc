/- FnRootProduct: the walk. -/
import Derived.Test.YtigckpmeppddcaaRp
set_option linter.unusedVariables false
namespace Go.Proofs.Ytigckpmeppddcaa
open Go.RowKit Cx

set_option maxHeartbeats 2000000 in
theorem rootProduct_walk (x y u v : Nat) (w : World) (hx : x < 18446744073709551616) (hy : y < 18446744073709551616) (hu : u < 18446744073709551616) (hv : v < 18446744073709551616) :
    Calls Try.prog 15 #[.float .f64 x, .float .f64 y, .float .f64 u, .float .f64 v] w fun e w' => e = .returned (.bool true) ∧ Below w.heap.size w w' := by
  have fm : fin 4643211215818981376 := fin_of _ (by decide)
  have vm : val 4643211215818981376 = (256 : Int) := by decide +kernel
  have HM := Lib.hid vm
  clear vm
  have HB : Hid (∀ o1 o2, Below w.heap.size w ((w.alloc o1).alloc o2)) := Lib.hid (fun o1 o2 => ((Below.refl _ _).alloc (Nat.le_refl _) _).alloc (by simp) _)
  have f0 := fin_zero
  have f1000 := fin_thousand
  by_cases hall : Pair2 x y u v 256
  · have P := rp_ok hall
    have g1 := hall.1.1.1
    have g2 := hall.1.2.1.1
    have g3 := hall.2.1.1
    have g4 := hall.2.2.1.1
    have HA := Lib.hid (pair2_iff.2 hall)
    obtain ⟨i1, i2, m1, m2, m3, m4, i3, s1, s2, s3, t, hyp, fh, fS, pos, a, b, c, d, S, ea, eb, ec, ed, eS, k1, k2, k3, k4, hn⟩ := P
    have fa : fin a := by rw [ea]; exact t.f1
    have fb : fin b := by rw [eb]; exact t.f2
    have fc : fin c := by rw [ec]; exact s3.fp
    have fd : fin d := by rw [ed]; exact s3.fq
    have fS' : fin S := by rw [eS]; exact fS
    have q1 := s1.fp
    have q2 := s1.fq
    have q3 := s2.fp
    have q4 := s2.fq
    have q5 := s3.fp
    have q6 := s3.fq
    obtain ⟨t1, t2, t3, t4, t5, t6, _⟩ := t
    have N1 := Lib.hid (near_yes a c S)
    have N2 := Lib.hid (near_no a c S)
    have N3 := Lib.hid (near_yes b d S)
    have N4 := Lib.hid (near_no b d S)
    have N5 := Lib.hid (near_yes a (fneg c) S)
    have N6 := Lib.hid (near_yes b (fneg d) S)
    have K : Hid ((NearOk a c S ∧ NearOk b d S) ∨ (¬ NearOk a c S ∧ NearOk a (fneg c) S ∧ NearOk b (fneg d) S) ∨ (NearOk a c S ∧ ¬ NearOk b d S ∧ NearOk a (fneg c) S ∧ NearOk b (fneg d) S)) := Lib.hid (by
      by_cases h1 : NearOk a c S
      · by_cases h2 : NearOk b d S
        · exact Or.inl ⟨h1, h2⟩
        · right; right
          rcases hn with hn | hn
          · exact absurd hn.2 h2
          · exact ⟨h1, h2, hn.1, hn.2⟩
      · right; left
        rcases hn with hn | hn
        · exact absurd hn.1 h1
        · exact ⟨h1, hn.1, hn.2⟩)
    clear hall hn s1 s2 s3
    rcases K.out with ⟨h1, h2⟩ | ⟨h1, h2, h3⟩ | ⟨h1, h2, h3, h4⟩
    · have C1 := Lib.hid (fun w => N1.out w fa fc fS' h1)
      have C2 := Lib.hid (fun w => N3.out w fb fd fS' h2)
      subst ea eb ec ed eS
      clear K N1 N2 N3 N4 N5 N6 h1 h2 k3 k4
      unfold thousand at *
      go_enter Try.func15, Try.ntmps15
      go_wp2_with fail
      refine (allw_yes _ _ _ _ _ _ _ 256 (pairW x u) (pairW y v) _ (frow_pair hx hu (by simp) (by simp)) (frow_pair hy hv (by simp) (by simp)) fm HM.out (by omega) (by omega) HA.out).mono ?_
      rintro e w' ⟨rfl, rfl⟩
      go_wp2_with (first | (go_at_call 38; refine (sqrt_any _ _ 1152921504606846976 _ (by assumption)).mono ?_; rintro e w' ⟨rfl, rfl⟩) | (go_at_call 37; refine (times_any _ _ _ _ _ (by assumption) (by assumption) (by assumption) (by assumption) (by assumption) (by assumption) (by assumption) (by assumption)).mono ?_; rintro e w' ⟨rfl, rfl⟩) | (go_at_call 31; refine (abs_any _ _ _ (by assumption)).mono ?_; rintro e w' ⟨rfl, rfl⟩))
      refine (C1.out _).mono ?_
      rintro e w' ⟨rfl, rfl⟩
      go_wp2_with fail
      refine (C2.out _).mono ?_
      rintro e w' ⟨rfl, rfl⟩
      go_wp2
      go_ret
      exact ⟨rfl, HB.out _ _⟩
    · have C1 := Lib.hid (fun w => N2.out w fa fc fS' k3 h1)
      have C2 := Lib.hid (fun w => N5.out w fa k1 fS' h2)
      have C3 := Lib.hid (fun w => N6.out w fb k2 fS' h3)
      subst ea eb ec ed eS
      clear K N1 N2 N3 N4 N5 N6 h1 h2 h3 k3 k4
      unfold thousand at *
      go_enter Try.func15, Try.ntmps15
      go_wp2_with fail
      refine (allw_yes _ _ _ _ _ _ _ 256 (pairW x u) (pairW y v) _ (frow_pair hx hu (by simp) (by simp)) (frow_pair hy hv (by simp) (by simp)) fm HM.out (by omega) (by omega) HA.out).mono ?_
      rintro e w' ⟨rfl, rfl⟩
      go_wp2_with (first | (go_at_call 38; refine (sqrt_any _ _ 1152921504606846976 _ (by assumption)).mono ?_; rintro e w' ⟨rfl, rfl⟩) | (go_at_call 37; refine (times_any _ _ _ _ _ (by assumption) (by assumption) (by assumption) (by assumption) (by assumption) (by assumption) (by assumption) (by assumption)).mono ?_; rintro e w' ⟨rfl, rfl⟩) | (go_at_call 31; refine (abs_any _ _ _ (by assumption)).mono ?_; rintro e w' ⟨rfl, rfl⟩))
      refine (C1.out _).mono ?_
      rintro e w' ⟨rfl, rfl⟩
      go_wp2_with fail
      refine (C2.out _).mono ?_
      rintro e w' ⟨rfl, rfl⟩
      go_wp2_with fail
      refine (C3.out _).mono ?_
      rintro e w' ⟨rfl, rfl⟩
      go_wp2
      go_ret
      exact ⟨rfl, HB.out _ _⟩
    · have C1 := Lib.hid (fun w => N1.out w fa fc fS' h1)
      have C2 := Lib.hid (fun w => N4.out w fb fd fS' k4 h2)
      have C3 := Lib.hid (fun w => N5.out w fa k1 fS' h3)
      have C4 := Lib.hid (fun w => N6.out w fb k2 fS' h4)
      subst ea eb ec ed eS
      clear K N1 N2 N3 N4 N5 N6 h1 h2 h3 h4 k3 k4
      unfold thousand at *
      go_enter Try.func15, Try.ntmps15
      go_wp2_with fail
      refine (allw_yes _ _ _ _ _ _ _ 256 (pairW x u) (pairW y v) _ (frow_pair hx hu (by simp) (by simp)) (frow_pair hy hv (by simp) (by simp)) fm HM.out (by omega) (by omega) HA.out).mono ?_
      rintro e w' ⟨rfl, rfl⟩
      go_wp2_with (first | (go_at_call 38; refine (sqrt_any _ _ 1152921504606846976 _ (by assumption)).mono ?_; rintro e w' ⟨rfl, rfl⟩) | (go_at_call 37; refine (times_any _ _ _ _ _ (by assumption) (by assumption) (by assumption) (by assumption) (by assumption) (by assumption) (by assumption) (by assumption)).mono ?_; rintro e w' ⟨rfl, rfl⟩) | (go_at_call 31; refine (abs_any _ _ _ (by assumption)).mono ?_; rintro e w' ⟨rfl, rfl⟩))
      refine (C1.out _).mono ?_
      rintro e w' ⟨rfl, rfl⟩
      go_wp2_with fail
      refine (C2.out _).mono ?_
      rintro e w' ⟨rfl, rfl⟩
      go_wp2_with fail
      refine (C3.out _).mono ?_
      rintro e w' ⟨rfl, rfl⟩
      go_wp2_with fail
      refine (C4.out _).mono ?_
      rintro e w' ⟨rfl, rfl⟩
      go_wp2
      go_ret
      exact ⟨rfl, HB.out _ _⟩
  · have HA := Lib.hid (fun h => hall (pair2_iff.1 h))
    clear hall
    go_enter Try.func15, Try.ntmps15
    go_wp2_with fail
    refine (allw_no _ _ _ _ _ _ _ 256 (pairW x u) (pairW y v) _ (frow_pair hx hu (by simp) (by simp)) (frow_pair hy hv (by simp) (by simp)) fm HM.out (by omega) (by omega) HA.out).mono ?_
    rintro e w' ⟨rfl, rfl⟩
    go_wp2
    go_ret
    exact ⟨rfl, HB.out _ _⟩
end Go.Proofs.Ytigckpmeppddcaa
