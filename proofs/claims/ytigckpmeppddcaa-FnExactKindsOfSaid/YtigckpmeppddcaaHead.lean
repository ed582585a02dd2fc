/- Closed facts on the program's head line, reckoned by its words. Written by a program of ours (head.py). -/
import Derived.Test.YtigckpmeppddcaaRows
import Derived.JoinedOf
import Derived.KernelRfl
namespace Go.Proofs.Ytigckpmeppddcaa

def headA : List Nat := [
  104, 97, 114, 110, 101, 115, 115]
def headB : List Nat := [
  97, 52, 48, 102, 55, 57, 54, 101, 57, 53, 51, 102, 48, 53, 48, 101, 50, 100, 49, 49, 56, 101, 101, 56, 98, 57, 49, 49, 49, 50,
  101, 49, 57, 48, 101, 102, 102, 56, 48, 56, 100, 55, 57, 48, 54, 52, 55, 102, 102, 53, 102, 98, 102, 51, 51, 55, 54, 97, 101, 102,
  49, 100, 99, 56]
def headC : List Nat := [
  99, 117, 116]
def headR : List Nat := [
  97, 116, 32, 108, 111, 111, 112, 46, 101, 120, 97, 109, 112, 108, 101, 47, 108, 105, 98, 45, 103, 48, 49, 52, 51, 56, 47, 108, 97, 119,
  115, 46, 70, 110, 83, 117, 109, 67, 111, 110, 106, 32, 108, 111, 111, 112, 46, 101, 120, 97, 109, 112, 108, 101, 47, 108, 105, 98, 45, 103,
  48, 49, 52, 51, 56, 47, 108, 97, 119, 115, 46, 70, 110, 69, 120, 97, 99, 116, 75, 105, 110, 100, 115, 79, 102, 32, 108, 111, 111, 112,
  46, 101, 120, 97, 109, 112, 108, 101, 47, 108, 105, 98, 45, 103, 48, 49, 52, 51, 56, 47, 108, 97, 119, 115, 46, 70, 110, 65, 98, 115,
  79, 114, 100, 101, 114, 32, 108, 111, 111, 112, 46, 101, 120, 97, 109, 112, 108, 101, 47, 108, 105, 98, 45, 103, 48, 49, 52, 51, 56, 47,
  108, 97, 119, 115, 46, 70, 110, 65, 98, 115, 80, 114, 111, 100, 117, 99, 116, 32, 108, 111, 111, 112, 46, 101, 120, 97, 109, 112, 108, 101,
  47, 108, 105, 98, 45, 103, 48, 49, 52, 51, 56, 47, 108, 97, 119, 115, 46, 70, 110, 80, 97, 114, 97, 108, 108, 101, 108, 111, 103, 114,
  97, 109, 32, 108, 111, 111, 112, 46, 101, 120, 97, 109, 112, 108, 101, 47, 108, 105, 98, 45, 103, 48, 49, 52, 51, 56, 47, 108, 97, 119,
  115, 46, 70, 110, 80, 97, 116, 104, 32, 108, 111, 111, 112, 46, 101, 120, 97, 109, 112, 108, 101, 47, 108, 105, 98, 45, 103, 48, 49, 52,
  51, 56, 47, 108, 97, 119, 115, 46, 70, 110, 80, 104, 97, 115, 101, 79, 114, 100, 101, 114, 32, 108, 111, 111, 112, 46, 101, 120, 97, 109,
  112, 108, 101, 47, 108, 105, 98, 45, 103, 48, 49, 52, 51, 56, 47, 108, 97, 119, 115, 46, 70, 110, 80, 104, 97, 115, 101, 83, 99, 97,
  108, 101, 100, 32, 108, 111, 111, 112, 46, 101, 120, 97, 109, 112, 108, 101, 47, 108, 105, 98, 45, 103, 48, 49, 52, 51, 56, 47, 108, 97,
  119, 115, 46, 70, 110, 80, 104, 97, 115, 101, 83, 117, 109, 32, 108, 111, 111, 112, 46, 101, 120, 97, 109, 112, 108, 101, 47, 108, 105, 98,
  45, 103, 48, 49, 52, 51, 56, 47, 108, 97, 119, 115, 46, 70, 110, 84, 117, 114, 110, 101, 100, 32, 108, 111, 111, 112, 46, 101, 120, 97,
  109, 112, 108, 101, 47, 108, 105, 98, 45, 103, 48, 49, 52, 51, 56, 47, 108, 97, 119, 115, 46, 70, 110, 87, 105, 110, 100, 105, 110, 103,
  32, 108, 111, 111, 112, 46, 101, 120, 97, 109, 112, 108, 101, 47, 108, 105, 98, 45, 103, 48, 49, 52, 51, 56, 47, 108, 97, 119, 115, 46,
  70, 110, 81, 117, 97, 100, 114, 97, 116, 105, 99, 32, 108, 111, 111, 112, 46, 101, 120, 97, 109, 112, 108, 101, 47, 108, 105, 98, 45, 103,
  48, 49, 52, 51, 56, 47, 108, 97, 119, 115, 46, 70, 110, 82, 111, 111, 116, 80, 114, 111, 100, 117, 99, 116, 32, 108, 111, 111, 112, 46,
  101, 120, 97, 109, 112, 108, 101, 47, 108, 105, 98, 45, 103, 48, 49, 52, 51, 56, 47, 108, 97, 119, 115, 46, 70, 110, 83, 113, 114, 116,
  84, 111, 119, 101, 114, 32, 108, 111, 111, 112, 46, 101, 120, 97, 109, 112, 108, 101, 47, 108, 105, 98, 45, 103, 48, 49, 52, 51, 56, 47,
  108, 97, 119, 115, 46, 70, 110, 83, 99, 114, 105, 112, 116, 32, 108, 111, 111, 112, 46, 101, 120, 97, 109, 112, 108, 101, 47, 108, 105, 98,
  45, 103, 48, 49, 52, 51, 56, 47, 108, 97, 119, 115, 46, 70, 110, 76, 111, 103, 80, 114, 111, 100, 117, 99, 116, 32, 108, 111, 111, 112,
  46, 101, 120, 97, 109, 112, 108, 101, 47, 108, 105, 98, 45, 103, 48, 49, 52, 51, 56, 47, 108, 97, 119, 115, 46, 70, 110, 76, 111, 103,
  65, 98, 115, 32, 108, 111, 111, 112, 46, 101, 120, 97, 109, 112, 108, 101, 47, 108, 105, 98, 45, 103, 48, 49, 52, 51, 56, 47, 108, 97,
  119, 115, 46, 70, 110, 76, 111, 103, 83, 113, 114, 116]
def chars (l : List Nat) : List Char := l.map Char.ofNat

theorem init_str : Try.prog.initOrder = String.ofList (chars (headA ++ 32 :: (headB ++ 32 :: (headC ++ 32 :: headR)))) := by kernel_rfl
theorem init_list : Try.prog.initOrder.toList = chars (headA ++ 32 :: (headB ++ 32 :: (headC ++ 32 :: headR))) := by rw [init_str, String.toList_ofList]

theorem words_cons (c : Char) (r : List Char) (h : (c == Char.ofNat 32) = false) (w : List Char) (ws : List (List Char)) (hr : wordsSigns r = w :: ws) : wordsSigns (c :: r) = (c :: w) :: ws := by
  have hc : c ≠ Char.ofNat 32 := by intro e; rw [e] at h; exact absurd h (by decide)
  unfold wordsSigns
  split
  · rename_i he; cases he
  · rename_i he; injection he with h1 h2; exact absurd h1 hc
  · rename_i he; injection he with h1 h2; subst h1; subst h2; rw [hr]

theorem words_append : ∀ (l : List Nat) (r : List Char), (l.all fun n => (Char.ofNat n == Char.ofNat 32) == false) = true → wordsSigns (chars l ++ Char.ofNat 32 :: r) = chars l :: wordsSigns r
  | [], r, _ => rfl
  | n :: l, r, h => by
    simp only [List.all_cons, Bool.and_eq_true, beq_iff_eq] at h
    have ih := words_append l r (by simpa using h.2)
    exact words_cons _ _ (by simpa using h.1) _ _ ih

theorem chars_append (a b : List Nat) : chars (a ++ b) = chars a ++ chars b := List.map_append
theorem chars_cons (n : Nat) (b : List Nat) : chars (n :: b) = Char.ofNat n :: chars b := rfl

theorem head_words : wordsSigns Try.prog.initOrder.toList = chars headA :: chars headB :: chars headC :: wordsSigns (chars headR) := by
  rw [init_list, chars_append, chars_cons, words_append headA _ (by decide), chars_append, chars_cons, words_append headB _ (by decide), chars_append, chars_cons, words_append headC _ (by decide)]

theorem behind_main : behindMainWord (wordsSigns Try.prog.initOrder.toList) = chars headC :: wordsSigns (chars headR) := by
  rw [head_words]
  generalize wordsSigns (chars headR) = R
  kernel_rfl

theorem make_of (P : Program) (R : List (List Char)) (h : behindMainWord (wordsSigns P.initOrder.toList) = chars headC :: R) : P.make = some .cut := by
  unfold Program.make
  rw [h]
  generalize P.headLifts = L
  kernel_rfl
theorem lifts_of (P : Program) (R : List (List Char)) (h : behindMainWord (wordsSigns P.initOrder.toList) = chars headC :: R) : P.liftsFinal = false := by
  unfold Program.liftsFinal Program.headLifts
  rw [h]
  kernel_rfl
theorem enter_of (P : Program) (R : List (List Char)) (h : behindMainWord (wordsSigns P.initOrder.toList) = chars headC :: R)
    (h1 : P.laysLater = false) (h2 : P.bearsReflect = false) (h3 : P.doorFits [] = true) : P.mayEnter = true := by
  unfold Program.mayEnter
  rw [h]
  have e : stripLifts liftWords (chars headC :: R) = ([], chars headC :: R) := by kernel_rfl
  show ((_ && _) || _ || _) = true
  rw [e, h1, h2, h3]
  kernel_rfl
theorem lays_later : Try.prog.laysLater = false := by kernel_rfl
theorem bears_reflect : Try.prog.bearsReflect = false := by kernel_rfl
theorem door_fits : Try.prog.doorFits [] = true := by kernel_rfl
theorem checked_prog : Try.checked.prog = Try.prog := rfl
theorem may_enter : Try.checked.prog.mayEnter = true := by rw [checked_prog]; exact enter_of _ _ behind_main lays_later bears_reflect door_fits
theorem lifts_final : Try.checked.prog.liftsFinal = false := by rw [checked_prog]; exact lifts_of _ _ behind_main
theorem make_is : Try.checked.prog.make = some .cut := by rw [checked_prog]; exact make_of _ _ behind_main

/-- A row's closed facts, those on the head's words apart. -/
def rowForm (P : Program) (f : FuncId) (fn : Func) (s : ChangeSpec) (c : OpenClaim) :
    { t : Bool × Bool × Bool × Bool × Bool // joinedFacts P f fn s c = (t.1 && P.mayEnter && (c.lifted == P.liftsFinal) && (P.make == some c.make) && t.2.1 && t.2.2.1 && t.2.2.2.1 && t.2.2.2.2) } :=
  ⟨(_, _, _, _, _), rfl⟩

theorem joined_of (P : Program) (f : FuncId) (fn : Func) (s : ChangeSpec) (c : OpenClaim) (h1 : P.mayEnter = true) (h2 : P.liftsFinal = false) (h3 : P.make = some .cut)
    (hl : c.lifted = false) (hm : c.make = .cut)
    (a1 : (rowForm P f fn s c).1.1 = true) (a2 : (rowForm P f fn s c).1.2.1 = true) (a3 : (rowForm P f fn s c).1.2.2.1 = true) (a4 : (rowForm P f fn s c).1.2.2.2.1 = true) (a5 : (rowForm P f fn s c).1.2.2.2.2 = true) :
    joinedFacts P f fn s c = true := by
  rw [(rowForm P f fn s c).2, a1, a2, a3, a4, a5, h1, h2, h3, hl, hm]
  rfl
end Go.Proofs.Ytigckpmeppddcaa
