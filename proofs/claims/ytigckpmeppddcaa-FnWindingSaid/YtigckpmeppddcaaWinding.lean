/- FnWinding: the walk: the phases from each point of a closed way to the next one add up to as many whole turns as the way winds around 0. -/
import Derived.Test.YtigckpmeppddcaaWn
set_option linter.unusedVariables false
namespace Go.Proofs.Ytigckpmeppddcaa
open Go.RowKit Cx

def alw (x y u v : Nat) : Nat := fadd (fmul x u) (fmul y v)
def ial (X Y : Nat → Nat) (i k : Nat) : Int := iv (X i) * iv (X k) + iv (Y i) * iv (Y k)
def icr (X Y : Nat → Nat) (i k : Nat) : Int := iv (X i) * iv (Y k) - iv (Y i) * iv (X k)

structure SegOk (X Y : Nat → Nat) (i k : Nat) : Prop where
  m1 : fin (fmul (X i) (Y k))
  m2 : fin (fmul (Y i) (X k))
  m3 : fin (fmul (X i) (X k))
  m4 : fin (fmul (Y i) (Y k))
  fc : fin (crw (X i) (Y i) (X k) (Y k))
  fa : fin (alw (X i) (Y i) (X k) (Y k))
  vc : val (crw (X i) (Y i) (X k) (Y k)) = icr X Y i k
  va : val (alw (X i) (Y i) (X k) (Y k)) = ial X Y i k
  dir : ¬ (icr X Y i k = 0 ∧ ial X Y i k ≤ 0) → DirOk (alw (X i) (Y i) (X k) (Y k)) (crw (X i) (Y i) (X k) (Y k)) (ial X Y i k) (icr X Y i k)
  step : ¬ (icr X Y i k = 0 ∧ ial X Y i k ≤ 0) → ab (val (phw (alw (X i) (Y i) (X k) (Y k)) (crw (X i) (Y i) (X k) (Y k))) - (tp (X k) (Y k) - tp (X i) (Y i)) - 2 * PI * ((crossing (iv (Y i)) (iv (Y k)) (icr X Y i k) : Int) : Rat)) ≤ 600 * ea

theorem seg_ok {X Y : Nat → Nat} {n : Nat} (h : AllW X Y n 1024) {i k : Nat} (hi : i < n) (hk : k < n) : SegOk X Y i k := by
  obtain ⟨h1, h2, h3⟩ := h i hi
  obtain ⟨g1, g2, g3⟩ := h k hk
  have D := dir_whl (by decide) h1 h2 h3
  have D' := dir_whl (by decide) g1 g2 g3
  obtain ⟨fx, ex, bx⟩ := h1.iv
  obtain ⟨fy, ey, by'⟩ := h2.iv
  obtain ⟨fu, eu, bu⟩ := g1.iv
  obtain ⟨fv, ev, bv⟩ := g2.iv
  have bx : (iv (X i)).natAbs ≤ 1024 := bx
  have by' : (iv (Y i)).natAbs ≤ 1024 := by'
  have bu : (iv (X k)).natAbs ≤ 1024 := bu
  have bv : (iv (Y k)).natAbs ≤ 1024 := bv
  have n1 := natAbs_mul_le bx bv
  have n2 := natAbs_mul_le by' bu
  have n3 := natAbs_mul_le bx bu
  have n4 := natAbs_mul_le by' bv
  obtain ⟨f1, v1⟩ := fmul_int fx fv ex ev (by omega)
  obtain ⟨f2, v2⟩ := fmul_int fy fu ey eu (by omega)
  obtain ⟨f3, v3⟩ := fmul_int fx fu ex eu (by omega)
  obtain ⟨f4, v4⟩ := fmul_int fy fv ey ev (by omega)
  obtain ⟨f5, v5⟩ := fsub_int f1 f2 v1 v2 (by omega)
  obtain ⟨f6, v6⟩ := fadd_int f3 f4 v3 v4 (by omega)
  have dir : ¬ (icr X Y i k = 0 ∧ ial X Y i k ≤ 0) → DirOk (alw (X i) (Y i) (X k) (Y k)) (crw (X i) (Y i) (X k) (Y k)) (ial X Y i k) (icr X Y i k) := by
    intro hok
    refine dir_ok f6 f5 v6 v5 (fun hh => hok ⟨hh.2, by omega⟩) ?_ ?_
    · unfold ial; omega
    · unfold icr; omega
  exact ⟨f1, f2, f3, f4, f5, f6, v5, v6, dir, fun hok => wind_step D D' bx by' bu bv (dir hok) hok⟩

def wT (X Y : Nat → Nat) (n : Nat) : Nat → Nat
  | 0 => 0
  | i + 1 => if crossing (iv (Y i)) (iv (Y ((i + 1) % n))) (icr X Y i ((i + 1) % n)) = 1 then fadd (wT X Y n i) Cx.one
      else if crossing (iv (Y i)) (iv (Y ((i + 1) % n))) (icr X Y i ((i + 1) % n)) = -1 then fsub (wT X Y n i) Cx.one else wT X Y n i
def wS (X Y : Nat → Nat) (n : Nat) : Nat → Nat
  | 0 => 0
  | i + 1 => fadd (wS X Y n i) (phw (alw (X i) (Y i) (X ((i + 1) % n)) (Y ((i + 1) % n))) (crw (X i) (Y i) (X ((i + 1) % n)) (Y ((i + 1) % n))))
def cI (X Y : Nat → Nat) (n : Nat) : Nat → Int
  | 0 => 0
  | i + 1 => cI X Y n i + crossing (iv (Y i)) (iv (Y ((i + 1) % n))) (icr X Y i ((i + 1) % n))

theorem crossing_le (b d c : Int) : crossing b d c = 1 ∨ crossing b d c = -1 ∨ crossing b d c = 0 := by
  unfold crossing; split
  · exact Or.inl rfl
  · split
    · exact Or.inr (Or.inl rfl)
    · exact Or.inr (Or.inr rfl)

structure WindAt (X Y : Nat → Nat) (n i : Nat) : Prop where
  ft : fin (wT X Y n i)
  fs : fin (wS X Y n i)
  vt : val (wT X Y n i) = (cI X Y n i : Int)
  bt : (cI X Y n i).natAbs ≤ i
  bs : ab (val (wS X Y n i)) ≤ 315 / 100 * (i : Rat)
  err : ab (val (wS X Y n i) - (tp (X (i % n)) (Y (i % n)) - tp (X 0) (Y 0)) - 2 * PI * ((cI X Y n i : Int) : Rat)) ≤ 610 * ea * (i : Rat)

theorem k_le60 {k : Nat} (h : k ≤ 60) : (k : Rat) ≤ 60 := by
  have : (k : Rat) ≤ ((60 : Nat) : Rat) := Rat.natCast_le_natCast.2 h
  exact this

def segFine (X Y : Nat → Nat) (n j : Nat) : Prop := ¬ (icr X Y j ((j + 1) % n) = 0 ∧ ial X Y j ((j + 1) % n) ≤ 0)

theorem wind_at {X Y : Nat → Nat} {n : Nat} (h : AllW X Y n 1024) (hn : n ≤ 60) : ∀ i, i ≤ n → (∀ j, j < i → segFine X Y n j) → WindAt X Y n i
  | 0, _, _ => by
    have z : ((0 : Nat) : Rat) = 0 := rfl
    have z0 : ((0 : Int) : Rat) = 0 := rfl
    refine ⟨fin_zero, fin_zero, val_zero, Nat.le_refl 0, ?_, ?_⟩
    · simp only [wS, z]; rw [val_zero]; decide +kernel
    · simp only [wS, cI, z, z0, Nat.zero_mod]
      rw [val_zero, show (0 : Rat) - (tp (X 0) (Y 0) - tp (X 0) (Y 0)) - 2 * PI * 0 = 0 by grind, ab_zero]; decide +kernel
  | i + 1, hi, hall => by
    have ih := wind_at h hn i (by omega) (fun j hj => hall j (by omega))
    have S := seg_ok h (show i < n by omega) (Nat.mod_lt (i + 1) (show 0 < n by omega))
    have ok := hall i (by omega)
    have D := S.dir ok
    have st := S.step ok
    have kb := k_le60 (show i ≤ 60 by omega)
    have kn := cast_nn i
    have hk1 := cast_succ i
    have he := ea_val
    have bs := ab_le.1 ih.bs
    have bd := ab_le.1 D.is.le
    have hmod : i % n = i := Nat.mod_eq_of_lt (by omega)
    have err := ih.err
    rw [hmod] at err
    obtain ⟨f, r⟩ := fadd_near (B := 256) ih.fs D.is.f (by rw [ab_le]; constructor <;> grind) (by decide +kernel) (by decide +kernel)
    have r' := ab_le.1 r
    have bt := ih.bt
    have T : fin (wT X Y n (i + 1)) ∧ val (wT X Y n (i + 1)) = (cI X Y n (i + 1) : Int) ∧ (cI X Y n (i + 1)).natAbs ≤ i + 1 := by
      simp only [wT, cI]
      rcases crossing_le (iv (Y i)) (iv (Y ((i + 1) % n))) (icr X Y i ((i + 1) % n)) with hc | hc | hc
      · rw [if_pos hc, hc]
        obtain ⟨g1, g2⟩ := fadd_int ih.ft fin_one ih.vt (b := 1) val_one (by omega)
        exact ⟨g1, g2, by omega⟩
      · rw [if_neg (by omega), if_pos hc, hc]
        obtain ⟨g1, g2⟩ := fsub_int ih.ft fin_one ih.vt (b := 1) val_one (by omega)
        exact ⟨g1, g2, by omega⟩
      · rw [if_neg (by omega), if_neg (by omega), hc]
        refine ⟨ih.ft, ?_, by omega⟩
        rw [Int.add_zero]; exact ih.vt
    refine ⟨T.1, f, T.2.1, T.2.2, ?_, ?_⟩
    · show ab (val (fadd _ _)) ≤ _
      rw [hk1, ab_le]; constructor <;> grind
    · show ab (val (fadd _ _) - _ - 2 * PI * ((cI X Y n i + crossing _ _ _ : Int) : Rat)) ≤ _
      rw [Rat.intCast_add, hk1]
      have err := ab_le.1 err
      have st := ab_le.1 st
      rw [he] at *
      generalize val (wS X Y n i) = s at *
      generalize val (phw (alw (X i) (Y i) (X ((i + 1) % n)) (Y ((i + 1) % n))) (crw (X i) (Y i) (X ((i + 1) % n)) (Y ((i + 1) % n)))) = p at *
      generalize val (fadd (wS X Y n i) (phw (alw (X i) (Y i) (X ((i + 1) % n)) (Y ((i + 1) % n))) (crw (X i) (Y i) (X ((i + 1) % n)) (Y ((i + 1) % n))))) = q at *
      generalize ((cI X Y n i : Int) : Rat) = c at *
      generalize ((crossing (iv (Y i)) (iv (Y ((i + 1) % n))) (icr X Y i ((i + 1) % n)) : Int) : Rat) = e at *
      rw [ab_le]
      have m1 : 2 * PI * (c + e) = 2 * PI * c + 2 * PI * e := by grind
      rw [m1]
      generalize 2 * PI * c = C at *
      generalize 2 * PI * e = E at *
      constructor <;> grind

def w2 : Nat := 4611686018427387904
theorem fin_w2 : fin w2 := fin_of _ (by decide)
theorem val_w2 : val w2 = ((2 : Int) : Rat) := by decide +kernel
def w1000 : Nat := 4652007308841189376
theorem fin_w1000 : fin w1000 := fin_of _ (by decide)
theorem val_w1000 : val w1000 = 1000 := by decide +kernel

structure WindEnd (t s : Nat) : Prop where
  f2 : fin (fmul t w2)
  f3 : fin (fmul (fmul t w2) wpi)
  near : NearOk s (fmul (fmul t w2) wpi) w1000

theorem wind_end {X Y : Nat → Nat} {n : Nat} (h : AllW X Y n 1024) (hn : n ≤ 60) (hall : ∀ j, j < n → segFine X Y n j) : WindEnd (wT X Y n n) (wS X Y n n) := by
  have W := wind_at h hn n (Nat.le_refl n) hall
  have bt := W.bt
  have kb := k_le60 hn
  have kn := cast_nn n
  obtain ⟨f2, v2⟩ := fmul_int W.ft fin_w2 W.vt val_w2 (by omega)
  have cb : ab ((cI X Y n n : Int) : Rat) ≤ 60 := by
    rw [← natAbs_rat]
    have : (((cI X Y n n).natAbs : Nat) : Rat) ≤ (n : Rat) := Rat.natCast_le_natCast.2 bt
    grind
  have cb' := ab_le.1 cb
  have hPI := PI_val
  rw [Rat.intCast_mul] at v2
  have z2 : ((2 : Int) : Rat) = 2 := rfl
  rw [z2] at v2
  obtain ⟨f3, r⟩ := fmul_near (B := 400) f2 fin_pi (by rw [v2, val_wpi, hPI, ab_le]; constructor <;> grind) (by decide +kernel) (by decide +kernel)
  refine ⟨f2, f3, ?_⟩
  rw [v2, val_wpi] at r
  have r' := ab_le.1 r
  have bs := ab_le.1 W.bs
  have he := ea_val
  have err := W.err
  rw [Nat.mod_self, show tp (X 0) (Y 0) - tp (X 0) (Y 0) = 0 by grind] at err
  have err := ab_le.1 err
  have q : ab (((cI X Y n n : Int) : Rat) * 2 * PI) ≤ 377 := by rw [hPI, ab_le]; constructor <;> grind
  have q' := ab_le.1 q
  refine near_c W.fs f3 fin_w1000 val_w1000 (by decide +kernel) (by decide +kernel) (by rw [ab_le]; constructor <;> grind) (by rw [ab_le]; constructor <;> grind) ?_
  rw [he] at err
  have m1 : 2 * PI * ((cI X Y n n : Int) : Rat) = ((cI X Y n n : Int) : Rat) * 2 * PI := by grind
  rw [m1] at err
  generalize ((cI X Y n n : Int) : Rat) * 2 * PI = C at *
  rw [ab_le]
  constructor <;> grind

theorem dle {x : Nat} {b : Int} (v : val x = b) : decide (val x ≤ val 0) = decide (b ≤ 0) := by
  rw [v, val_zero]; exact decide_eq_decide.2 (by rw [show (0 : Rat) = ((0 : Int) : Rat) from rfl]; exact Rat.intCast_le_intCast)
theorem dgt {x : Nat} {b : Int} (v : val x = b) : decide (val 0 < val x) = decide (0 < b) := by
  rw [v, val_zero]; exact decide_eq_decide.2 Rat.intCast_pos
theorem dlt {x : Nat} {b : Int} (v : val x = b) : decide (val x < val 0) = decide (b < 0) := by
  rw [v, val_zero]; exact decide_eq_decide.2 Rat.intCast_neg_iff
theorem deq {x : Nat} {b : Int} (v : val x = b) : decide (val x = val 0) = decide (b = 0) := by
  rw [v, val_zero]; exact decide_eq_decide.2 Rat.intCast_eq_zero_iff

set_option maxHeartbeats 4000000 in
set_option maxRecDepth 100000 in
theorem winding_walk (a0 : Option Addr) (n0 c0 : Nat) (X : Nat → Nat) (a1 : Option Addr) (n1 c1 : Nat) (Y : Nat → Nat) (w : World) (h0 : FRow w a0 n0 X) (h1 : FRow w a1 n1 Y) :
    Calls Try.prog 13 #[.slice a0 n0 c0, .slice a1 n1 c1] w fun e w' => e = .returned (.bool true) ∧ Below w.heap.size w w' := by
  have fm : fin 4652218415073722368 := fin_of _ (by decide)
  have vm : val 4652218415073722368 = (1024 : Int) := by decide +kernel
  have HM := Lib.hid vm
  clear vm
  have hl0 := h0.1
  have hl1 := h1.1
  have f0 := fin_zero
  by_cases hlen : n0 = n1 ∧ (n0 : Int) ≤ 60
  · obtain ⟨rfl, hle⟩ := hlen
    by_cases hall : AllW X Y n0 1024
    · have HA := Lib.hid hall
      have HR0 := Lib.hid h0
      have HR1 := Lib.hid h1
      have HC := Lib.hid (rows2 h0 h1)
      clear h0 h1 hall
      by_cases hn3 : (n0 : Int) < 3
      · go_enter Try.func13, Try.ntmps13
        go_wp2_with (go_at_call 21; refine (allw_yes _ _ _ _ _ _ _ 1024 X Y _ HR0.out HR1.out fm HM.out (by omega) (by omega) HA.out).mono ?_; rintro e w' ⟨rfl, rfl⟩)
        go_ret
        exact ⟨rfl, Below.refl _ _⟩
      · go_enter Try.func13, Try.ntmps13
        go_wp2_with (go_at_call 21; refine (allw_yes _ _ _ _ _ _ _ 1024 X Y _ HR0.out HR1.out fm HM.out (by omega) (by omega) HA.out).mono ?_; rintro e w' ⟨rfl, rfl⟩)
        go_loopw [5, 6, 22] (fun t s i wr => ∃ k : Nat, k ≤ n0 ∧ i = .int .i64 k ∧ t = .float .f64 (wT X Y n0 k) ∧ s = .float .f64 (wS X Y n0 k) ∧ Drew w wr ∧ Hid (∀ j, j < k → segFine X Y n0 j)) (fun _ _ i _ => n0 - (intOf i).toNat)
        case atStart => exact ⟨0, Nat.zero_le _, rfl, rfl, rfl, Drew.refl w, Lib.hid (fun j hj => absurd hj (by omega))⟩
        case round =>
          obtain ⟨i, hi, rfl, rfl, rfl, hd, HF⟩ := hrel
          have WA := wind_at HA.out (by omega) i hi HF.out
          have ft := WA.ft
          have fs := WA.fs
          clear WA
          by_cases hlt : i < n0
          · have hml : (i + 1) % n0 < n0 := Nat.mod_lt (i + 1) (by omega)
            have hrem : Int.tmod ((i : Int) + 1) (n0 : Int) = (((i + 1) % n0 : Nat) : Int) := by
              rw [show (i : Int) + 1 = ((i + 1 : Nat) : Int) by omega]; exact (Int.ofNat_tmod _ _).symm
            obtain ⟨b0, o0, b1, o1, rfl, rfl, hc⟩ := HC.out i hlt
            obtain ⟨x1, y1⟩ := hc i hlt
            obtain ⟨x2, y2⟩ := hc _ hml
            have x1 := hd.cell x1
            have y1 := hd.cell y1
            have x2 := hd.cell x2
            have y2 := hd.cell y2
            have S := seg_ok HA.out hlt hml
            have HS := Lib.hid S
            have s1 := S.m1
            have s2 := S.m2
            have s3 := S.m3
            have s4 := S.m4
            have s5 := S.fc
            have s6 := S.fa
            have g1 := (HA.out i hlt).1.1
            have g2 := (HA.out i hlt).2.1.1
            have g3 := (HA.out _ hml).1.1
            have g4 := (HA.out _ hml).2.1.1
            have i0 : (0 : Int) ≤ (i : Int) := by omega
            have i1 : (i : Int) < (n0 : Int) := by omega
            have ET : Hid (wT X Y n0 (i + 1) = if crossing (iv (Y i)) (iv (Y ((i + 1) % n0))) (icr X Y i ((i + 1) % n0)) = 1 then fadd (wT X Y n0 i) Cx.one
      else if crossing (iv (Y i)) (iv (Y ((i + 1) % n0))) (icr X Y i ((i + 1) % n0)) = -1 then fsub (wT X Y n0 i) Cx.one else wT X Y n0 i) := Lib.hid rfl
            have ES : Hid (wS X Y n0 (i + 1) = fadd (wS X Y n0 i) (phw (alw (X i) (Y i) (X ((i + 1) % n0)) (Y ((i + 1) % n0))) (crw (X i) (Y i) (X ((i + 1) % n0)) (Y ((i + 1) % n0))))) := Lib.hid rfl
            have HFI : Hid (segFine X Y n0 i ↔ ¬ (icr X Y i ((i + 1) % n0) = 0 ∧ ial X Y i ((i + 1) % n0) ≤ 0)) := Lib.hid Iff.rfl
            generalize (i + 1) % n0 = k at *
            have k0 : (0 : Int) ≤ (k : Int) := by omega
            have k1 : (k : Int) < (n0 : Int) := by omega
            unfold alw crw at *
            clear hc S
            have vyi := Lib.hid (HA.out i hlt).2.1.iv.2.1
            have vyk := Lib.hid (HA.out k hml).2.1.iv.2.1
            have vc := Lib.hid HS.out.vc
            have va := Lib.hid HS.out.va
            have HB := Lib.hid (fun n => (hd.more n).below)
            unfold crw at vc
            unfold alw at va
            clear hml
            go_wp2
            go_quiet (fail)
            go_wp2
            go_quiet (fail)
            by_cases hE : icr X Y i k = 0 ∧ ial X Y i k ≤ 0
            · have T1 := (deq vc.out).trans (decide_eq_true hE.1)
              have T2 := (dle va.out).trans (decide_eq_true hE.2)
              clear hd
              go_wp2
              go_ret
              exact ⟨rfl, HB.out _⟩
            · have DO := HS.out.dir hE
              have pk := DO.ok
              have pf := DO.is.f
              unfold crw alw at pk pf
              have HN : Hid (∀ j, j < i + 1 → segFine X Y n0 j) := Lib.hid (fun j hj => by
                by_cases hji : j = i
                · rw [hji]; exact HFI.out.2 hE
                · exact HF.out j (by omega))
              have f1 := fin_one
              unfold Cx.one at f1
              clear DO
              rcases Int.lt_trichotomy (icr X Y i k) 0 with hc' | hc' | hc' <;> by_cases hb : iv (Y i) ≤ 0 <;> by_cases hd' : iv (Y k) ≤ 0
              · have D1 := (dle vyi.out).trans (decide_eq_true (by omega))
                have D2 := (dgt vyk.out).trans (decide_eq_false (by omega))
                have D3 := (dgt vc.out).trans (decide_eq_false (by omega))
                have D4 := (dgt vyi.out).trans (decide_eq_false (by omega))
                have D5 := (dle vyk.out).trans (decide_eq_true (by omega))
                have D6 := (dlt vc.out).trans (decide_eq_true (by omega))
                have T1 := (deq vc.out).trans (decide_eq_false (by omega))
                have EW : Hid (wT X Y n0 (i + 1) = wT X Y n0 i) := Lib.hid (by rw [ET.out, if_neg (by unfold crossing; rw [if_neg (by omega), if_neg (by omega)]; decide), if_neg (by unfold crossing; rw [if_neg (by omega), if_neg (by omega)]; decide)])
                clear hE hb hd' hc'
                go_wp2_with (go_at_call 34; refine (phase_any _ _ _ pk).mono ?_; rintro e w' ⟨rfl, rfl⟩)
                go_roundw
                case rel => exact ⟨i + 1, by omega, by go_num, by rw [EW.out], by rw [ES.out], hd.more _, HN⟩
                case measure => simp [intOf]; omega
              · have D1 := (dle vyi.out).trans (decide_eq_true (by omega))
                have D2 := (dgt vyk.out).trans (decide_eq_true (by omega))
                have D3 := (dgt vc.out).trans (decide_eq_false (by omega))
                have D4 := (dgt vyi.out).trans (decide_eq_false (by omega))
                have D5 := (dle vyk.out).trans (decide_eq_false (by omega))
                have D6 := (dlt vc.out).trans (decide_eq_true (by omega))
                have T1 := (deq vc.out).trans (decide_eq_false (by omega))
                have EW : Hid (wT X Y n0 (i + 1) = wT X Y n0 i) := Lib.hid (by rw [ET.out, if_neg (by unfold crossing; rw [if_neg (by omega), if_neg (by omega)]; decide), if_neg (by unfold crossing; rw [if_neg (by omega), if_neg (by omega)]; decide)])
                clear hE hb hd' hc'
                go_wp2_with (go_at_call 34; refine (phase_any _ _ _ pk).mono ?_; rintro e w' ⟨rfl, rfl⟩)
                go_roundw
                case rel => exact ⟨i + 1, by omega, by go_num, by rw [EW.out], by rw [ES.out], hd.more _, HN⟩
                case measure => simp [intOf]; omega
              · have D1 := (dle vyi.out).trans (decide_eq_false (by omega))
                have D2 := (dgt vyk.out).trans (decide_eq_false (by omega))
                have D3 := (dgt vc.out).trans (decide_eq_false (by omega))
                have D4 := (dgt vyi.out).trans (decide_eq_true (by omega))
                have D5 := (dle vyk.out).trans (decide_eq_true (by omega))
                have D6 := (dlt vc.out).trans (decide_eq_true (by omega))
                have T1 := (deq vc.out).trans (decide_eq_false (by omega))
                have EW : Hid (wT X Y n0 (i + 1) = fsub (wT X Y n0 i) 4607182418800017408) := Lib.hid (by rw [ET.out, if_neg (by unfold crossing; rw [if_neg (by omega), if_pos (by omega)]; decide), if_pos (by unfold crossing; rw [if_neg (by omega), if_pos (by omega)])]; rfl)
                clear hE hb hd' hc'
                go_wp2_with (go_at_call 34; refine (phase_any _ _ _ pk).mono ?_; rintro e w' ⟨rfl, rfl⟩)
                go_roundw
                case rel => exact ⟨i + 1, by omega, by go_num, by rw [EW.out], by rw [ES.out], hd.more _, HN⟩
                case measure => simp [intOf]; omega
              · have D1 := (dle vyi.out).trans (decide_eq_false (by omega))
                have D2 := (dgt vyk.out).trans (decide_eq_true (by omega))
                have D3 := (dgt vc.out).trans (decide_eq_false (by omega))
                have D4 := (dgt vyi.out).trans (decide_eq_true (by omega))
                have D5 := (dle vyk.out).trans (decide_eq_false (by omega))
                have D6 := (dlt vc.out).trans (decide_eq_true (by omega))
                have T1 := (deq vc.out).trans (decide_eq_false (by omega))
                have EW : Hid (wT X Y n0 (i + 1) = wT X Y n0 i) := Lib.hid (by rw [ET.out, if_neg (by unfold crossing; rw [if_neg (by omega), if_neg (by omega)]; decide), if_neg (by unfold crossing; rw [if_neg (by omega), if_neg (by omega)]; decide)])
                clear hE hb hd' hc'
                go_wp2_with (go_at_call 34; refine (phase_any _ _ _ pk).mono ?_; rintro e w' ⟨rfl, rfl⟩)
                go_roundw
                case rel => exact ⟨i + 1, by omega, by go_num, by rw [EW.out], by rw [ES.out], hd.more _, HN⟩
                case measure => simp [intOf]; omega
              · have D1 := (dle vyi.out).trans (decide_eq_true (by omega))
                have D2 := (dgt vyk.out).trans (decide_eq_false (by omega))
                have D3 := (dgt vc.out).trans (decide_eq_false (by omega))
                have D4 := (dgt vyi.out).trans (decide_eq_false (by omega))
                have D5 := (dle vyk.out).trans (decide_eq_true (by omega))
                have D6 := (dlt vc.out).trans (decide_eq_false (by omega))
                have T1 := (deq vc.out).trans (decide_eq_true (by omega))
                have T2 := (dle va.out).trans (decide_eq_false (by omega))
                have EW : Hid (wT X Y n0 (i + 1) = wT X Y n0 i) := Lib.hid (by rw [ET.out, if_neg (by unfold crossing; rw [if_neg (by omega), if_neg (by omega)]; decide), if_neg (by unfold crossing; rw [if_neg (by omega), if_neg (by omega)]; decide)])
                clear hE hb hd' hc'
                go_wp2_with (go_at_call 34; refine (phase_any _ _ _ pk).mono ?_; rintro e w' ⟨rfl, rfl⟩)
                go_roundw
                case rel => exact ⟨i + 1, by omega, by go_num, by rw [EW.out], by rw [ES.out], hd.more _, HN⟩
                case measure => simp [intOf]; omega
              · have D1 := (dle vyi.out).trans (decide_eq_true (by omega))
                have D2 := (dgt vyk.out).trans (decide_eq_true (by omega))
                have D3 := (dgt vc.out).trans (decide_eq_false (by omega))
                have D4 := (dgt vyi.out).trans (decide_eq_false (by omega))
                have D5 := (dle vyk.out).trans (decide_eq_false (by omega))
                have D6 := (dlt vc.out).trans (decide_eq_false (by omega))
                have T1 := (deq vc.out).trans (decide_eq_true (by omega))
                have T2 := (dle va.out).trans (decide_eq_false (by omega))
                have EW : Hid (wT X Y n0 (i + 1) = wT X Y n0 i) := Lib.hid (by rw [ET.out, if_neg (by unfold crossing; rw [if_neg (by omega), if_neg (by omega)]; decide), if_neg (by unfold crossing; rw [if_neg (by omega), if_neg (by omega)]; decide)])
                clear hE hb hd' hc'
                go_wp2_with (go_at_call 34; refine (phase_any _ _ _ pk).mono ?_; rintro e w' ⟨rfl, rfl⟩)
                go_roundw
                case rel => exact ⟨i + 1, by omega, by go_num, by rw [EW.out], by rw [ES.out], hd.more _, HN⟩
                case measure => simp [intOf]; omega
              · have D1 := (dle vyi.out).trans (decide_eq_false (by omega))
                have D2 := (dgt vyk.out).trans (decide_eq_false (by omega))
                have D3 := (dgt vc.out).trans (decide_eq_false (by omega))
                have D4 := (dgt vyi.out).trans (decide_eq_true (by omega))
                have D5 := (dle vyk.out).trans (decide_eq_true (by omega))
                have D6 := (dlt vc.out).trans (decide_eq_false (by omega))
                have T1 := (deq vc.out).trans (decide_eq_true (by omega))
                have T2 := (dle va.out).trans (decide_eq_false (by omega))
                have EW : Hid (wT X Y n0 (i + 1) = wT X Y n0 i) := Lib.hid (by rw [ET.out, if_neg (by unfold crossing; rw [if_neg (by omega), if_neg (by omega)]; decide), if_neg (by unfold crossing; rw [if_neg (by omega), if_neg (by omega)]; decide)])
                clear hE hb hd' hc'
                go_wp2_with (go_at_call 34; refine (phase_any _ _ _ pk).mono ?_; rintro e w' ⟨rfl, rfl⟩)
                go_roundw
                case rel => exact ⟨i + 1, by omega, by go_num, by rw [EW.out], by rw [ES.out], hd.more _, HN⟩
                case measure => simp [intOf]; omega
              · have D1 := (dle vyi.out).trans (decide_eq_false (by omega))
                have D2 := (dgt vyk.out).trans (decide_eq_true (by omega))
                have D3 := (dgt vc.out).trans (decide_eq_false (by omega))
                have D4 := (dgt vyi.out).trans (decide_eq_true (by omega))
                have D5 := (dle vyk.out).trans (decide_eq_false (by omega))
                have D6 := (dlt vc.out).trans (decide_eq_false (by omega))
                have T1 := (deq vc.out).trans (decide_eq_true (by omega))
                have T2 := (dle va.out).trans (decide_eq_false (by omega))
                have EW : Hid (wT X Y n0 (i + 1) = wT X Y n0 i) := Lib.hid (by rw [ET.out, if_neg (by unfold crossing; rw [if_neg (by omega), if_neg (by omega)]; decide), if_neg (by unfold crossing; rw [if_neg (by omega), if_neg (by omega)]; decide)])
                clear hE hb hd' hc'
                go_wp2_with (go_at_call 34; refine (phase_any _ _ _ pk).mono ?_; rintro e w' ⟨rfl, rfl⟩)
                go_roundw
                case rel => exact ⟨i + 1, by omega, by go_num, by rw [EW.out], by rw [ES.out], hd.more _, HN⟩
                case measure => simp [intOf]; omega
              · have D1 := (dle vyi.out).trans (decide_eq_true (by omega))
                have D2 := (dgt vyk.out).trans (decide_eq_false (by omega))
                have D3 := (dgt vc.out).trans (decide_eq_true (by omega))
                have D4 := (dgt vyi.out).trans (decide_eq_false (by omega))
                have D5 := (dle vyk.out).trans (decide_eq_true (by omega))
                have D6 := (dlt vc.out).trans (decide_eq_false (by omega))
                have T1 := (deq vc.out).trans (decide_eq_false (by omega))
                have EW : Hid (wT X Y n0 (i + 1) = wT X Y n0 i) := Lib.hid (by rw [ET.out, if_neg (by unfold crossing; rw [if_neg (by omega), if_neg (by omega)]; decide), if_neg (by unfold crossing; rw [if_neg (by omega), if_neg (by omega)]; decide)])
                clear hE hb hd' hc'
                go_wp2_with (go_at_call 34; refine (phase_any _ _ _ pk).mono ?_; rintro e w' ⟨rfl, rfl⟩)
                go_roundw
                case rel => exact ⟨i + 1, by omega, by go_num, by rw [EW.out], by rw [ES.out], hd.more _, HN⟩
                case measure => simp [intOf]; omega
              · have D1 := (dle vyi.out).trans (decide_eq_true (by omega))
                have D2 := (dgt vyk.out).trans (decide_eq_true (by omega))
                have D3 := (dgt vc.out).trans (decide_eq_true (by omega))
                have D4 := (dgt vyi.out).trans (decide_eq_false (by omega))
                have D5 := (dle vyk.out).trans (decide_eq_false (by omega))
                have D6 := (dlt vc.out).trans (decide_eq_false (by omega))
                have T1 := (deq vc.out).trans (decide_eq_false (by omega))
                have EW : Hid (wT X Y n0 (i + 1) = fadd (wT X Y n0 i) 4607182418800017408) := Lib.hid (by rw [ET.out, if_pos (by unfold crossing; rw [if_pos (by omega)])]; rfl)
                clear hE hb hd' hc'
                go_wp2_with (go_at_call 34; refine (phase_any _ _ _ pk).mono ?_; rintro e w' ⟨rfl, rfl⟩)
                go_roundw
                case rel => exact ⟨i + 1, by omega, by go_num, by rw [EW.out], by rw [ES.out], hd.more _, HN⟩
                case measure => simp [intOf]; omega
              · have D1 := (dle vyi.out).trans (decide_eq_false (by omega))
                have D2 := (dgt vyk.out).trans (decide_eq_false (by omega))
                have D3 := (dgt vc.out).trans (decide_eq_true (by omega))
                have D4 := (dgt vyi.out).trans (decide_eq_true (by omega))
                have D5 := (dle vyk.out).trans (decide_eq_true (by omega))
                have D6 := (dlt vc.out).trans (decide_eq_false (by omega))
                have T1 := (deq vc.out).trans (decide_eq_false (by omega))
                have EW : Hid (wT X Y n0 (i + 1) = wT X Y n0 i) := Lib.hid (by rw [ET.out, if_neg (by unfold crossing; rw [if_neg (by omega), if_neg (by omega)]; decide), if_neg (by unfold crossing; rw [if_neg (by omega), if_neg (by omega)]; decide)])
                clear hE hb hd' hc'
                go_wp2_with (go_at_call 34; refine (phase_any _ _ _ pk).mono ?_; rintro e w' ⟨rfl, rfl⟩)
                go_roundw
                case rel => exact ⟨i + 1, by omega, by go_num, by rw [EW.out], by rw [ES.out], hd.more _, HN⟩
                case measure => simp [intOf]; omega
              · have D1 := (dle vyi.out).trans (decide_eq_false (by omega))
                have D2 := (dgt vyk.out).trans (decide_eq_true (by omega))
                have D3 := (dgt vc.out).trans (decide_eq_true (by omega))
                have D4 := (dgt vyi.out).trans (decide_eq_true (by omega))
                have D5 := (dle vyk.out).trans (decide_eq_false (by omega))
                have D6 := (dlt vc.out).trans (decide_eq_false (by omega))
                have T1 := (deq vc.out).trans (decide_eq_false (by omega))
                have EW : Hid (wT X Y n0 (i + 1) = wT X Y n0 i) := Lib.hid (by rw [ET.out, if_neg (by unfold crossing; rw [if_neg (by omega), if_neg (by omega)]; decide), if_neg (by unfold crossing; rw [if_neg (by omega), if_neg (by omega)]; decide)])
                clear hE hb hd' hc'
                go_wp2_with (go_at_call 34; refine (phase_any _ _ _ pk).mono ?_; rintro e w' ⟨rfl, rfl⟩)
                go_roundw
                case rel => exact ⟨i + 1, by omega, by go_num, by rw [EW.out], by rw [ES.out], hd.more _, HN⟩
                case measure => simp [intOf]; omega
          · obtain rfl : i = n0 := by omega
            have E := wind_end HA.out (by omega) HF.out
            have HB := Lib.hid (fun n => (hd.more n).below)
            have e1 := E.f2
            have e2 := E.f3
            have e3 := E.near
            have g1 := fin_w2
            have g2 := fin_pi
            have g3 := fin_w1000
            unfold w2 wpi w1000 at *
            clear E hd
            go_wp2_with (go_at_call 32; refine (near_yes _ _ _ _ fs e2 g3 e3).mono ?_; rintro e w' ⟨rfl, rfl⟩)
            go_ret
            exact ⟨rfl, HB.out 0⟩
    · have H0 := Lib.hid h0
      have H1 := Lib.hid h1
      have HA := Lib.hid hall
      clear h0 h1 hall
      go_enter Try.func13, Try.ntmps13
      go_wp2_with (go_at_call 21; refine (allw_no _ _ _ _ _ _ _ 1024 X Y _ H0.out H1.out fm HM.out (by omega) (by omega) HA.out).mono ?_; rintro e w' ⟨rfl, rfl⟩)
      go_ret
      exact ⟨rfl, Below.refl _ _⟩
  · have HL : Hid (n0 ≠ n1 ∨ (60 : Int) < (n0 : Int)) := Lib.hid (by omega)
    clear hlen h0 h1
    go_enter Try.func13, Try.ntmps13
    go_wp2_with (go_at_call 21; refine (allw_len _ _ _ _ _ _ _ _ _ hl0 hl1 HL.out).mono ?_; rintro e w' ⟨rfl, rfl⟩)
    go_ret
    exact ⟨rfl, Below.refl _ _⟩
end Go.Proofs.Ytigckpmeppddcaa
