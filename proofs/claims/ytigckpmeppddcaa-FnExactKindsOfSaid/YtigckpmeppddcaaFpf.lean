/- Whole numbers in doubles: sums, differences and products of whole numbers are exact up to 2^53. Plain: no program in sight. -/
import Derived.Test.YtigckpmeppddcaaFpe
set_option linter.unusedVariables false
namespace Cx
open Ieee

theorem int_small {a : Int} (h : a.natAbs ≤ 9007199254740992) : ab (a : Rat) < p2 1023 := by
  rw [← natAbs_rat]
  have h1 : ((a.natAbs : Nat) : Rat) ≤ ((9007199254740992 : Nat) : Rat) := Rat.natCast_le_natCast.2 h
  have h2 : ((9007199254740992 : Nat) : Rat) = p2 53 := by decide +kernel
  have h3 := p2_lt (show 53 < 1023 by decide)
  grind

theorem fadd_int {x y : Nat} {a b : Int} (hx : fin x) (hy : fin y) (ha : val x = a) (hb : val y = b) (h : (a + b).natAbs ≤ 9007199254740992) :
    fin (fadd x y) ∧ val (fadd x y) = ((a + b : Int) : Rat) := by
  have e : val x + val y = ((a + b : Int) : Rat) := by rw [ha, hb, Rat.intCast_add]
  have := add_rd hx hy (by rw [e]; exact int_small h)
  exact ⟨this.1, this.2.int _ e h⟩
theorem fsub_int {x y : Nat} {a b : Int} (hx : fin x) (hy : fin y) (ha : val x = a) (hb : val y = b) (h : (a - b).natAbs ≤ 9007199254740992) :
    fin (fsub x y) ∧ val (fsub x y) = ((a - b : Int) : Rat) := by
  have e : val x - val y = ((a - b : Int) : Rat) := by rw [ha, hb, Rat.intCast_sub]
  have := sub_rd hx hy (by rw [e]; exact int_small h)
  exact ⟨this.1, this.2.int _ e h⟩
theorem fmul_int {x y : Nat} {a b : Int} (hx : fin x) (hy : fin y) (ha : val x = a) (hb : val y = b) (h : (a * b).natAbs ≤ 9007199254740992) :
    fin (fmul x y) ∧ val (fmul x y) = ((a * b : Int) : Rat) := by
  have e : val x * val y = ((a * b : Int) : Rat) := by rw [ha, hb, Rat.intCast_mul]
  have := mul_rd hx hy (by rw [e]; exact int_small h)
  exact ⟨this.1, this.2.2.int _ e h⟩
theorem fneg_int {x : Nat} {a : Int} (hx : fin x) (ha : val x = a) : fin (fneg x) ∧ val (fneg x) = ((-a : Int) : Rat) := by
  have := fneg_spec hx
  exact ⟨this.1, by rw [this.2.1, ha, Rat.intCast_neg]⟩
end Cx
