/-
  No cell of these rows narrows 'for every input' (looked for: loops, veiled, ifaces, maps, wideKeys, modest, calm, conditions, laid).
  DERIVED. THE GIVEN ROWS OF THIS SEAT. 18 by the template 'for every input the law returns true; each argument reads behind the call as it read before'; 0 by the template 'total and deterministic' (their statements: YtigckpmeppddcaaTotals.lean).
  GIVEN WITH THE SEED: the statements are not yours to turn. If you find one false, say at which input.
  Laid BY PROGRAM, IN A SANDBOX (cutbox-rows.mjs): the forced cells as the released guide's own fill.sh prints them over the translation 25ae13ff5956cbcd… (all of the seat's roots in one cut). By AI agents, Wed Nov 11 2026. No macro, syntax, notation, axiom, sorry.
-/
import Derived.Test.YtigckpmeppddcaaChecked
import GoSem.Claim
import GoSem.ClaimJoined
import GoSem.ClaimMapViews
import Derived.JoinedTies
import Derived.KernelRfl
namespace Go.Proofs.Ytigckpmeppddcaa
/- THE CELL 'sum', in the pinned program and in every row, IS THE sha256 OF THE DUMP (.gsa) THAT YtigckpmeppddcaaProg.lean LOADS. Nothing in Lean hashes anything: it is a label: what it is worth is what the hold of that sum in a sandbox is worth. -/
noncomputable def Try.pinned : Pinned := { name := "ytigckpmeppddcaa", sum := "25ae13ff5956cbcdc6d23d3f1df6af92139df4757ce04acbbfd871fdd3a84886", checked := Try.checked }
namespace Rows
def none {H : Type} : Left H := { results := [], args := [] }

/-- 'laws.FnSumConj': WHATEVER THE INPUT: true; the input reads as it did. -/
def fnSumConjSpec : ChangeSpec := { name := "fnSumConj", fn := fun _ => fun
  | [d1, d2] => { results := [.lit (.bool true)], args := [d1, d2] }
  | _ => none }
def fnSumConjRow : OpenClaim := { program := "ytigckpmeppddcaa", sum := "25ae13ff5956cbcdc6d23d3f1df6af92139df4757ce04acbbfd871fdd3a84886", func := "loop.example/lib-g01438/laws.FnSumConj", spec := "fnSumConj", apart := false }
def FnSumConjSaid : Prop := fnSumConjRow.holds Try.pinned (OpenSpec.ofChange fnSumConjSpec)

/-- ITS FALSE NEIGHBOUR: 'it returns false'. Refute it at one input. -/
def fnSumConjWrong : ChangeSpec := { name := "fnSumConj", fn := fun _ => fun
  | [d1, d2] => { results := [.lit (.bool false)], args := [d1, d2] }
  | _ => none }
def FnSumConjWrongFalsely : Prop := fnSumConjRow.holds Try.pinned (OpenSpec.ofChange fnSumConjWrong)

/-- 'laws.FnExactKindsOf': WHATEVER THE INPUT: true; the input reads as it did. -/
def fnExactKindsOfSpec : ChangeSpec := { name := "fnExactKindsOf", fn := fun _ => fun
  | [d1, d2] => { results := [.lit (.bool true)], args := [d1, d2] }
  | _ => none }
def fnExactKindsOfRow : OpenClaim := { program := "ytigckpmeppddcaa", sum := "25ae13ff5956cbcdc6d23d3f1df6af92139df4757ce04acbbfd871fdd3a84886", func := "loop.example/lib-g01438/laws.FnExactKindsOf", spec := "fnExactKindsOf", inPlace := ["math.Float64bits", "math.Float64frombits"], apart := false }
def FnExactKindsOfSaid : Prop := fnExactKindsOfRow.holds Try.pinned (OpenSpec.ofChange fnExactKindsOfSpec)

/-- ITS FALSE NEIGHBOUR: 'it returns false'. Refute it at one input. -/
def fnExactKindsOfWrong : ChangeSpec := { name := "fnExactKindsOf", fn := fun _ => fun
  | [d1, d2] => { results := [.lit (.bool false)], args := [d1, d2] }
  | _ => none }
def FnExactKindsOfWrongFalsely : Prop := fnExactKindsOfRow.holds Try.pinned (OpenSpec.ofChange fnExactKindsOfWrong)

/-- 'laws.FnAbsOrder': WHATEVER THE INPUT: true; the input reads as it did. -/
def fnAbsOrderSpec : ChangeSpec := { name := "fnAbsOrder", fn := fun _ => fun
  | [d1, d2] => { results := [.lit (.bool true)], args := [d1, d2] }
  | _ => none }
def fnAbsOrderRow : OpenClaim := { program := "ytigckpmeppddcaa", sum := "25ae13ff5956cbcdc6d23d3f1df6af92139df4757ce04acbbfd871fdd3a84886", func := "loop.example/lib-g01438/laws.FnAbsOrder", spec := "fnAbsOrder", inPlace := ["math.archHypot", "math.Float64bits", "math.Float64frombits", "math.sqrt"], apart := false }
def FnAbsOrderSaid : Prop := fnAbsOrderRow.holds Try.pinned (OpenSpec.ofChange fnAbsOrderSpec)

/-- ITS FALSE NEIGHBOUR: 'it returns false'. Refute it at one input. -/
def fnAbsOrderWrong : ChangeSpec := { name := "fnAbsOrder", fn := fun _ => fun
  | [d1, d2] => { results := [.lit (.bool false)], args := [d1, d2] }
  | _ => none }
def FnAbsOrderWrongFalsely : Prop := fnAbsOrderRow.holds Try.pinned (OpenSpec.ofChange fnAbsOrderWrong)

/-- 'laws.FnAbsProduct': WHATEVER THE INPUT: true; the input reads as it did. -/
def fnAbsProductSpec : ChangeSpec := { name := "fnAbsProduct", fn := fun _ => fun
  | [d1, d2] => { results := [.lit (.bool true)], args := [d1, d2] }
  | _ => none }
def fnAbsProductRow : OpenClaim := { program := "ytigckpmeppddcaa", sum := "25ae13ff5956cbcdc6d23d3f1df6af92139df4757ce04acbbfd871fdd3a84886", func := "loop.example/lib-g01438/laws.FnAbsProduct", spec := "fnAbsProduct", inPlace := ["math.archHypot", "math.Float64bits", "math.Float64frombits", "math.sqrt"], apart := false }
def FnAbsProductSaid : Prop := fnAbsProductRow.holds Try.pinned (OpenSpec.ofChange fnAbsProductSpec)

/-- ITS FALSE NEIGHBOUR: 'it returns false'. Refute it at one input. -/
def fnAbsProductWrong : ChangeSpec := { name := "fnAbsProduct", fn := fun _ => fun
  | [d1, d2] => { results := [.lit (.bool false)], args := [d1, d2] }
  | _ => none }
def FnAbsProductWrongFalsely : Prop := fnAbsProductRow.holds Try.pinned (OpenSpec.ofChange fnAbsProductWrong)

/-- 'laws.FnParallelogram': WHATEVER THE INPUT: true; the input reads as it did. -/
def fnParallelogramSpec : ChangeSpec := { name := "fnParallelogram", fn := fun _ => fun
  | [d1, d2, d3, d4] => { results := [.lit (.bool true)], args := [d1, d2, d3, d4] }
  | _ => none }
def fnParallelogramRow : OpenClaim := { program := "ytigckpmeppddcaa", sum := "25ae13ff5956cbcdc6d23d3f1df6af92139df4757ce04acbbfd871fdd3a84886", func := "loop.example/lib-g01438/laws.FnParallelogram", spec := "fnParallelogram", inPlace := ["math.archHypot", "math.Float64bits", "math.Float64frombits", "math.sqrt"], apart := false }
def FnParallelogramSaid : Prop := fnParallelogramRow.holds Try.pinned (OpenSpec.ofChange fnParallelogramSpec)

/-- ITS FALSE NEIGHBOUR: 'it returns false'. Refute it at one input. -/
def fnParallelogramWrong : ChangeSpec := { name := "fnParallelogram", fn := fun _ => fun
  | [d1, d2, d3, d4] => { results := [.lit (.bool false)], args := [d1, d2, d3, d4] }
  | _ => none }
def FnParallelogramWrongFalsely : Prop := fnParallelogramRow.holds Try.pinned (OpenSpec.ofChange fnParallelogramWrong)

/-- 'laws.FnPath': WHATEVER THE INPUT: true; the input reads as it did. -/
def fnPathSpec : ChangeSpec := { name := "fnPath", fn := fun _ => fun
  | [d1, d2] => { results := [.lit (.bool true)], args := [d1, d2] }
  | _ => none }
def fnPathRow : OpenClaim := { program := "ytigckpmeppddcaa", sum := "25ae13ff5956cbcdc6d23d3f1df6af92139df4757ce04acbbfd871fdd3a84886", func := "loop.example/lib-g01438/laws.FnPath", spec := "fnPath", inPlace := ["math.archHypot", "math.Float64bits", "math.Float64frombits", "math.sqrt"], apart := false }
def FnPathSaid : Prop := fnPathRow.holds Try.pinned (OpenSpec.ofChange fnPathSpec)

/-- ITS FALSE NEIGHBOUR: 'it returns false'. Refute it at one input. -/
def fnPathWrong : ChangeSpec := { name := "fnPath", fn := fun _ => fun
  | [d1, d2] => { results := [.lit (.bool false)], args := [d1, d2] }
  | _ => none }
def FnPathWrongFalsely : Prop := fnPathRow.holds Try.pinned (OpenSpec.ofChange fnPathWrong)

/-- 'laws.FnPhaseOrder': WHATEVER THE INPUT: true; the input reads as it did. -/
def fnPhaseOrderSpec : ChangeSpec := { name := "fnPhaseOrder", fn := fun _ => fun
  | [d1, d2] => { results := [.lit (.bool true)], args := [d1, d2] }
  | _ => none }
def fnPhaseOrderRow : OpenClaim := { program := "ytigckpmeppddcaa", sum := "25ae13ff5956cbcdc6d23d3f1df6af92139df4757ce04acbbfd871fdd3a84886", func := "loop.example/lib-g01438/laws.FnPhaseOrder", spec := "fnPhaseOrder", inPlace := ["math.Float64frombits", "math.Float64bits"], apart := false }
def FnPhaseOrderSaid : Prop := fnPhaseOrderRow.holds Try.pinned (OpenSpec.ofChange fnPhaseOrderSpec)

/-- ITS FALSE NEIGHBOUR: 'it returns false'. Refute it at one input. -/
def fnPhaseOrderWrong : ChangeSpec := { name := "fnPhaseOrder", fn := fun _ => fun
  | [d1, d2] => { results := [.lit (.bool false)], args := [d1, d2] }
  | _ => none }
def FnPhaseOrderWrongFalsely : Prop := fnPhaseOrderRow.holds Try.pinned (OpenSpec.ofChange fnPhaseOrderWrong)

/-- 'laws.FnPhaseScaled': WHATEVER THE INPUT: true; the input reads as it did. -/
def fnPhaseScaledSpec : ChangeSpec := { name := "fnPhaseScaled", fn := fun _ => fun
  | [d1, d2, d3] => { results := [.lit (.bool true)], args := [d1, d2, d3] }
  | _ => none }
def fnPhaseScaledRow : OpenClaim := { program := "ytigckpmeppddcaa", sum := "25ae13ff5956cbcdc6d23d3f1df6af92139df4757ce04acbbfd871fdd3a84886", func := "loop.example/lib-g01438/laws.FnPhaseScaled", spec := "fnPhaseScaled", inPlace := ["math.Float64frombits", "math.Float64bits"], apart := false }
def FnPhaseScaledSaid : Prop := fnPhaseScaledRow.holds Try.pinned (OpenSpec.ofChange fnPhaseScaledSpec)

/-- ITS FALSE NEIGHBOUR: 'it returns false'. Refute it at one input. -/
def fnPhaseScaledWrong : ChangeSpec := { name := "fnPhaseScaled", fn := fun _ => fun
  | [d1, d2, d3] => { results := [.lit (.bool false)], args := [d1, d2, d3] }
  | _ => none }
def FnPhaseScaledWrongFalsely : Prop := fnPhaseScaledRow.holds Try.pinned (OpenSpec.ofChange fnPhaseScaledWrong)

/-- 'laws.FnPhaseSum': WHATEVER THE INPUT: true; the input reads as it did. -/
def fnPhaseSumSpec : ChangeSpec := { name := "fnPhaseSum", fn := fun _ => fun
  | [d1, d2] => { results := [.lit (.bool true)], args := [d1, d2] }
  | _ => none }
def fnPhaseSumRow : OpenClaim := { program := "ytigckpmeppddcaa", sum := "25ae13ff5956cbcdc6d23d3f1df6af92139df4757ce04acbbfd871fdd3a84886", func := "loop.example/lib-g01438/laws.FnPhaseSum", spec := "fnPhaseSum", inPlace := ["math.Float64frombits", "math.Float64bits"], apart := false }
def FnPhaseSumSaid : Prop := fnPhaseSumRow.holds Try.pinned (OpenSpec.ofChange fnPhaseSumSpec)

/-- ITS FALSE NEIGHBOUR: 'it returns false'. Refute it at one input. -/
def fnPhaseSumWrong : ChangeSpec := { name := "fnPhaseSum", fn := fun _ => fun
  | [d1, d2] => { results := [.lit (.bool false)], args := [d1, d2] }
  | _ => none }
def FnPhaseSumWrongFalsely : Prop := fnPhaseSumRow.holds Try.pinned (OpenSpec.ofChange fnPhaseSumWrong)

/-- 'laws.FnTurned': WHATEVER THE INPUT: true; the input reads as it did. -/
def fnTurnedSpec : ChangeSpec := { name := "fnTurned", fn := fun _ => fun
  | [d1, d2] => { results := [.lit (.bool true)], args := [d1, d2] }
  | _ => none }
def fnTurnedRow : OpenClaim := { program := "ytigckpmeppddcaa", sum := "25ae13ff5956cbcdc6d23d3f1df6af92139df4757ce04acbbfd871fdd3a84886", func := "loop.example/lib-g01438/laws.FnTurned", spec := "fnTurned", inPlace := ["math.Float64frombits", "math.Float64bits"], apart := false }
def FnTurnedSaid : Prop := fnTurnedRow.holds Try.pinned (OpenSpec.ofChange fnTurnedSpec)

/-- ITS FALSE NEIGHBOUR: 'it returns false'. Refute it at one input. -/
def fnTurnedWrong : ChangeSpec := { name := "fnTurned", fn := fun _ => fun
  | [d1, d2] => { results := [.lit (.bool false)], args := [d1, d2] }
  | _ => none }
def FnTurnedWrongFalsely : Prop := fnTurnedRow.holds Try.pinned (OpenSpec.ofChange fnTurnedWrong)

/-- 'laws.FnWinding': WHATEVER THE INPUT: true; the input reads as it did. -/
def fnWindingSpec : ChangeSpec := { name := "fnWinding", fn := fun _ => fun
  | [d1, d2] => { results := [.lit (.bool true)], args := [d1, d2] }
  | _ => none }
def fnWindingRow : OpenClaim := { program := "ytigckpmeppddcaa", sum := "25ae13ff5956cbcdc6d23d3f1df6af92139df4757ce04acbbfd871fdd3a84886", func := "loop.example/lib-g01438/laws.FnWinding", spec := "fnWinding", inPlace := ["math.Float64frombits", "math.Float64bits"], apart := false }
def FnWindingSaid : Prop := fnWindingRow.holds Try.pinned (OpenSpec.ofChange fnWindingSpec)

/-- ITS FALSE NEIGHBOUR: 'it returns false'. Refute it at one input. -/
def fnWindingWrong : ChangeSpec := { name := "fnWinding", fn := fun _ => fun
  | [d1, d2] => { results := [.lit (.bool false)], args := [d1, d2] }
  | _ => none }
def FnWindingWrongFalsely : Prop := fnWindingRow.holds Try.pinned (OpenSpec.ofChange fnWindingWrong)

/-- 'laws.FnQuadratic': WHATEVER THE INPUT: true; the input reads as it did. -/
def fnQuadraticSpec : ChangeSpec := { name := "fnQuadratic", fn := fun _ => fun
  | [d1, d2, d3, d4] => { results := [.lit (.bool true)], args := [d1, d2, d3, d4] }
  | _ => none }
def fnQuadraticRow : OpenClaim := { program := "ytigckpmeppddcaa", sum := "25ae13ff5956cbcdc6d23d3f1df6af92139df4757ce04acbbfd871fdd3a84886", func := "loop.example/lib-g01438/laws.FnQuadratic", spec := "fnQuadratic", inPlace := ["math.sqrt", "math.Float64bits", "math.Float64frombits", "math.archHypot"], apart := false }
def FnQuadraticSaid : Prop := fnQuadraticRow.holds Try.pinned (OpenSpec.ofChange fnQuadraticSpec)

/-- ITS FALSE NEIGHBOUR: 'it returns false'. Refute it at one input. -/
def fnQuadraticWrong : ChangeSpec := { name := "fnQuadratic", fn := fun _ => fun
  | [d1, d2, d3, d4] => { results := [.lit (.bool false)], args := [d1, d2, d3, d4] }
  | _ => none }
def FnQuadraticWrongFalsely : Prop := fnQuadraticRow.holds Try.pinned (OpenSpec.ofChange fnQuadraticWrong)

/-- 'laws.FnRootProduct': WHATEVER THE INPUT: true; the input reads as it did. -/
def fnRootProductSpec : ChangeSpec := { name := "fnRootProduct", fn := fun _ => fun
  | [d1, d2, d3, d4] => { results := [.lit (.bool true)], args := [d1, d2, d3, d4] }
  | _ => none }
def fnRootProductRow : OpenClaim := { program := "ytigckpmeppddcaa", sum := "25ae13ff5956cbcdc6d23d3f1df6af92139df4757ce04acbbfd871fdd3a84886", func := "loop.example/lib-g01438/laws.FnRootProduct", spec := "fnRootProduct", inPlace := ["math.sqrt", "math.Float64bits", "math.Float64frombits", "math.archHypot"], apart := false }
def FnRootProductSaid : Prop := fnRootProductRow.holds Try.pinned (OpenSpec.ofChange fnRootProductSpec)

/-- ITS FALSE NEIGHBOUR: 'it returns false'. Refute it at one input. -/
def fnRootProductWrong : ChangeSpec := { name := "fnRootProduct", fn := fun _ => fun
  | [d1, d2, d3, d4] => { results := [.lit (.bool false)], args := [d1, d2, d3, d4] }
  | _ => none }
def FnRootProductWrongFalsely : Prop := fnRootProductRow.holds Try.pinned (OpenSpec.ofChange fnRootProductWrong)

/-- 'laws.FnSqrtTower': WHATEVER THE INPUT: true; the input reads as it did. -/
def fnSqrtTowerSpec : ChangeSpec := { name := "fnSqrtTower", fn := fun _ => fun
  | [d1, d2, d3] => { results := [.lit (.bool true)], args := [d1, d2, d3] }
  | _ => none }
def fnSqrtTowerRow : OpenClaim := { program := "ytigckpmeppddcaa", sum := "25ae13ff5956cbcdc6d23d3f1df6af92139df4757ce04acbbfd871fdd3a84886", func := "loop.example/lib-g01438/laws.FnSqrtTower", spec := "fnSqrtTower", inPlace := ["math.Float64frombits", "math.Float64bits", "math.sqrt", "math.archHypot"], apart := false }
def FnSqrtTowerSaid : Prop := fnSqrtTowerRow.holds Try.pinned (OpenSpec.ofChange fnSqrtTowerSpec)

/-- ITS FALSE NEIGHBOUR: 'it returns false'. Refute it at one input. -/
def fnSqrtTowerWrong : ChangeSpec := { name := "fnSqrtTower", fn := fun _ => fun
  | [d1, d2, d3] => { results := [.lit (.bool false)], args := [d1, d2, d3] }
  | _ => none }
def FnSqrtTowerWrongFalsely : Prop := fnSqrtTowerRow.holds Try.pinned (OpenSpec.ofChange fnSqrtTowerWrong)

/-- 'laws.FnScript': WHATEVER THE INPUT: true; the input reads as it did. -/
def fnScriptSpec : ChangeSpec := { name := "fnScript", fn := fun _ => fun
  | [d1, d2, d3] => { results := [.lit (.bool true)], args := [d1, d2, d3] }
  | _ => none }
def fnScriptRow : OpenClaim := { program := "ytigckpmeppddcaa", sum := "25ae13ff5956cbcdc6d23d3f1df6af92139df4757ce04acbbfd871fdd3a84886", func := "loop.example/lib-g01438/laws.FnScript", spec := "fnScript", inPlace := ["math.archHypot", "math.Float64bits", "math.Float64frombits", "math.sqrt"], apart := false }
def FnScriptSaid : Prop := fnScriptRow.holds Try.pinned (OpenSpec.ofChange fnScriptSpec)

/-- ITS FALSE NEIGHBOUR: 'it returns false'. Refute it at one input. -/
def fnScriptWrong : ChangeSpec := { name := "fnScript", fn := fun _ => fun
  | [d1, d2, d3] => { results := [.lit (.bool false)], args := [d1, d2, d3] }
  | _ => none }
def FnScriptWrongFalsely : Prop := fnScriptRow.holds Try.pinned (OpenSpec.ofChange fnScriptWrong)

/-- 'laws.FnLogProduct': WHATEVER THE INPUT: true; the input reads as it did. -/
def fnLogProductSpec : ChangeSpec := { name := "fnLogProduct", fn := fun _ => fun
  | [d1, d2] => { results := [.lit (.bool true)], args := [d1, d2] }
  | _ => none }
def fnLogProductRow : OpenClaim := { program := "ytigckpmeppddcaa", sum := "25ae13ff5956cbcdc6d23d3f1df6af92139df4757ce04acbbfd871fdd3a84886", func := "loop.example/lib-g01438/laws.FnLogProduct", spec := "fnLogProduct", inPlace := ["math.archHypot", "math.Float64bits", "math.Float64frombits", "math.sqrt", "math.archLog"], apart := false }
def FnLogProductSaid : Prop := fnLogProductRow.holds Try.pinned (OpenSpec.ofChange fnLogProductSpec)

/-- ITS FALSE NEIGHBOUR: 'it returns false'. Refute it at one input. -/
def fnLogProductWrong : ChangeSpec := { name := "fnLogProduct", fn := fun _ => fun
  | [d1, d2] => { results := [.lit (.bool false)], args := [d1, d2] }
  | _ => none }
def FnLogProductWrongFalsely : Prop := fnLogProductRow.holds Try.pinned (OpenSpec.ofChange fnLogProductWrong)

/-- 'laws.FnLogAbs': WHATEVER THE INPUT: true; the input reads as it did. -/
def fnLogAbsSpec : ChangeSpec := { name := "fnLogAbs", fn := fun _ => fun
  | [d1, d2] => { results := [.lit (.bool true)], args := [d1, d2] }
  | _ => none }
def fnLogAbsRow : OpenClaim := { program := "ytigckpmeppddcaa", sum := "25ae13ff5956cbcdc6d23d3f1df6af92139df4757ce04acbbfd871fdd3a84886", func := "loop.example/lib-g01438/laws.FnLogAbs", spec := "fnLogAbs", inPlace := ["math.archHypot", "math.Float64bits", "math.Float64frombits", "math.sqrt", "math.archLog"], apart := false }
def FnLogAbsSaid : Prop := fnLogAbsRow.holds Try.pinned (OpenSpec.ofChange fnLogAbsSpec)

/-- ITS FALSE NEIGHBOUR: 'it returns false'. Refute it at one input. -/
def fnLogAbsWrong : ChangeSpec := { name := "fnLogAbs", fn := fun _ => fun
  | [d1, d2] => { results := [.lit (.bool false)], args := [d1, d2] }
  | _ => none }
def FnLogAbsWrongFalsely : Prop := fnLogAbsRow.holds Try.pinned (OpenSpec.ofChange fnLogAbsWrong)

/-- 'laws.FnLogSqrt': WHATEVER THE INPUT: true; the input reads as it did. -/
def fnLogSqrtSpec : ChangeSpec := { name := "fnLogSqrt", fn := fun _ => fun
  | [d1, d2] => { results := [.lit (.bool true)], args := [d1, d2] }
  | _ => none }
def fnLogSqrtRow : OpenClaim := { program := "ytigckpmeppddcaa", sum := "25ae13ff5956cbcdc6d23d3f1df6af92139df4757ce04acbbfd871fdd3a84886", func := "loop.example/lib-g01438/laws.FnLogSqrt", spec := "fnLogSqrt", inPlace := ["math.sqrt", "math.Float64bits", "math.Float64frombits", "math.archHypot", "math.archLog"], apart := false }
def FnLogSqrtSaid : Prop := fnLogSqrtRow.holds Try.pinned (OpenSpec.ofChange fnLogSqrtSpec)

/-- ITS FALSE NEIGHBOUR: 'it returns false'. Refute it at one input. -/
def fnLogSqrtWrong : ChangeSpec := { name := "fnLogSqrt", fn := fun _ => fun
  | [d1, d2] => { results := [.lit (.bool false)], args := [d1, d2] }
  | _ => none }
def FnLogSqrtWrongFalsely : Prop := fnLogSqrtRow.holds Try.pinned (OpenSpec.ofChange fnLogSqrtWrong)

/- THE SECOND FORM. 'bulk': how many values and letters a reading holds, each counted each time it is reached (what is shared counts as often as it is met; a slice's spare places count too). A statement '..UptoSaid' is the law's where the arguments, and the package variables that the reading takes, are together of bulk at most 1048576: NARROWER than '..Said'. Prove '..Said' where nothing that the law and all that it calls make is longer than what came in: it says more and counts as full. Else prove '..UptoSaid'. A law counts once. -/
mutual
def uptoBulk {H : Type} : DataW H → Nat
  | .lit (.string bytes) => bytes.length + 1
  | .lit _ => 1
  | .nil => 1
  | .ptr d => uptoBulk d + 1
  | .slice elems spare => uptoBulkAll elems + uptoBulkAll spare + 1
  | .agg parts => uptoBulkAll parts + 1
  | .iface _ d => uptoBulk d + 1
  | .map entries => uptoBulkEntries entries + 1
  | .held _ => 1
def uptoBulkAll {H : Type} : List (DataW H) → Nat
  | [] => 0
  | d :: r => uptoBulk d + uptoBulkAll r
def uptoBulkEntries {H : Type} : List (Lit × DataW H) → Nat
  | [] => 0
  | x :: r => uptoBulkEntry x + uptoBulkEntries r
def uptoBulkEntry {H : Type} : Lit × DataW H → Nat
  | (.string bytes, d) => bytes.length + uptoBulk d + 1
  | (_, d) => uptoBulk d + 1
 end
def uptoSmall : (H : Type) → List (DataW H) → Bool := fun _ ds => decide (uptoBulkAll ds ≤ 1048576)
def OpenSpec.upto (s : _root_.Go.ChangeSpec) : _root_.Go.OpenSpec := { _root_.Go.OpenSpec.ofChange s with cond := some uptoSmall }

/-- 'laws.FnSumConj', WHERE WHAT IT READS IS OF BULK AT MOST 1048576: true; the input reads as it did. -/
def fnSumConjUptoRow : OpenClaim := { program := "ytigckpmeppddcaa", sum := "25ae13ff5956cbcdc6d23d3f1df6af92139df4757ce04acbbfd871fdd3a84886", func := "loop.example/lib-g01438/laws.FnSumConj", spec := "fnSumConj", apart := false, narrowed := true }
def FnSumConjUptoSaid : Prop := fnSumConjUptoRow.holds Try.pinned (OpenSpec.upto fnSumConjSpec)

/-- 'laws.FnExactKindsOf', WHERE WHAT IT READS IS OF BULK AT MOST 1048576: true; the input reads as it did. -/
def fnExactKindsOfUptoRow : OpenClaim := { program := "ytigckpmeppddcaa", sum := "25ae13ff5956cbcdc6d23d3f1df6af92139df4757ce04acbbfd871fdd3a84886", func := "loop.example/lib-g01438/laws.FnExactKindsOf", spec := "fnExactKindsOf", inPlace := ["math.Float64bits", "math.Float64frombits"], apart := false, narrowed := true }
def FnExactKindsOfUptoSaid : Prop := fnExactKindsOfUptoRow.holds Try.pinned (OpenSpec.upto fnExactKindsOfSpec)

/-- 'laws.FnAbsOrder', WHERE WHAT IT READS IS OF BULK AT MOST 1048576: true; the input reads as it did. -/
def fnAbsOrderUptoRow : OpenClaim := { program := "ytigckpmeppddcaa", sum := "25ae13ff5956cbcdc6d23d3f1df6af92139df4757ce04acbbfd871fdd3a84886", func := "loop.example/lib-g01438/laws.FnAbsOrder", spec := "fnAbsOrder", inPlace := ["math.archHypot", "math.Float64bits", "math.Float64frombits", "math.sqrt"], apart := false, narrowed := true }
def FnAbsOrderUptoSaid : Prop := fnAbsOrderUptoRow.holds Try.pinned (OpenSpec.upto fnAbsOrderSpec)

/-- 'laws.FnAbsProduct', WHERE WHAT IT READS IS OF BULK AT MOST 1048576: true; the input reads as it did. -/
def fnAbsProductUptoRow : OpenClaim := { program := "ytigckpmeppddcaa", sum := "25ae13ff5956cbcdc6d23d3f1df6af92139df4757ce04acbbfd871fdd3a84886", func := "loop.example/lib-g01438/laws.FnAbsProduct", spec := "fnAbsProduct", inPlace := ["math.archHypot", "math.Float64bits", "math.Float64frombits", "math.sqrt"], apart := false, narrowed := true }
def FnAbsProductUptoSaid : Prop := fnAbsProductUptoRow.holds Try.pinned (OpenSpec.upto fnAbsProductSpec)

/-- 'laws.FnParallelogram', WHERE WHAT IT READS IS OF BULK AT MOST 1048576: true; the input reads as it did. -/
def fnParallelogramUptoRow : OpenClaim := { program := "ytigckpmeppddcaa", sum := "25ae13ff5956cbcdc6d23d3f1df6af92139df4757ce04acbbfd871fdd3a84886", func := "loop.example/lib-g01438/laws.FnParallelogram", spec := "fnParallelogram", inPlace := ["math.archHypot", "math.Float64bits", "math.Float64frombits", "math.sqrt"], apart := false, narrowed := true }
def FnParallelogramUptoSaid : Prop := fnParallelogramUptoRow.holds Try.pinned (OpenSpec.upto fnParallelogramSpec)

/-- 'laws.FnPath', WHERE WHAT IT READS IS OF BULK AT MOST 1048576: true; the input reads as it did. -/
def fnPathUptoRow : OpenClaim := { program := "ytigckpmeppddcaa", sum := "25ae13ff5956cbcdc6d23d3f1df6af92139df4757ce04acbbfd871fdd3a84886", func := "loop.example/lib-g01438/laws.FnPath", spec := "fnPath", inPlace := ["math.archHypot", "math.Float64bits", "math.Float64frombits", "math.sqrt"], apart := false, narrowed := true }
def FnPathUptoSaid : Prop := fnPathUptoRow.holds Try.pinned (OpenSpec.upto fnPathSpec)

/-- 'laws.FnPhaseOrder', WHERE WHAT IT READS IS OF BULK AT MOST 1048576: true; the input reads as it did. -/
def fnPhaseOrderUptoRow : OpenClaim := { program := "ytigckpmeppddcaa", sum := "25ae13ff5956cbcdc6d23d3f1df6af92139df4757ce04acbbfd871fdd3a84886", func := "loop.example/lib-g01438/laws.FnPhaseOrder", spec := "fnPhaseOrder", inPlace := ["math.Float64frombits", "math.Float64bits"], apart := false, narrowed := true }
def FnPhaseOrderUptoSaid : Prop := fnPhaseOrderUptoRow.holds Try.pinned (OpenSpec.upto fnPhaseOrderSpec)

/-- 'laws.FnPhaseScaled', WHERE WHAT IT READS IS OF BULK AT MOST 1048576: true; the input reads as it did. -/
def fnPhaseScaledUptoRow : OpenClaim := { program := "ytigckpmeppddcaa", sum := "25ae13ff5956cbcdc6d23d3f1df6af92139df4757ce04acbbfd871fdd3a84886", func := "loop.example/lib-g01438/laws.FnPhaseScaled", spec := "fnPhaseScaled", inPlace := ["math.Float64frombits", "math.Float64bits"], apart := false, narrowed := true }
def FnPhaseScaledUptoSaid : Prop := fnPhaseScaledUptoRow.holds Try.pinned (OpenSpec.upto fnPhaseScaledSpec)

/-- 'laws.FnPhaseSum', WHERE WHAT IT READS IS OF BULK AT MOST 1048576: true; the input reads as it did. -/
def fnPhaseSumUptoRow : OpenClaim := { program := "ytigckpmeppddcaa", sum := "25ae13ff5956cbcdc6d23d3f1df6af92139df4757ce04acbbfd871fdd3a84886", func := "loop.example/lib-g01438/laws.FnPhaseSum", spec := "fnPhaseSum", inPlace := ["math.Float64frombits", "math.Float64bits"], apart := false, narrowed := true }
def FnPhaseSumUptoSaid : Prop := fnPhaseSumUptoRow.holds Try.pinned (OpenSpec.upto fnPhaseSumSpec)

/-- 'laws.FnTurned', WHERE WHAT IT READS IS OF BULK AT MOST 1048576: true; the input reads as it did. -/
def fnTurnedUptoRow : OpenClaim := { program := "ytigckpmeppddcaa", sum := "25ae13ff5956cbcdc6d23d3f1df6af92139df4757ce04acbbfd871fdd3a84886", func := "loop.example/lib-g01438/laws.FnTurned", spec := "fnTurned", inPlace := ["math.Float64frombits", "math.Float64bits"], apart := false, narrowed := true }
def FnTurnedUptoSaid : Prop := fnTurnedUptoRow.holds Try.pinned (OpenSpec.upto fnTurnedSpec)

/-- 'laws.FnWinding', WHERE WHAT IT READS IS OF BULK AT MOST 1048576: true; the input reads as it did. -/
def fnWindingUptoRow : OpenClaim := { program := "ytigckpmeppddcaa", sum := "25ae13ff5956cbcdc6d23d3f1df6af92139df4757ce04acbbfd871fdd3a84886", func := "loop.example/lib-g01438/laws.FnWinding", spec := "fnWinding", inPlace := ["math.Float64frombits", "math.Float64bits"], apart := false, narrowed := true }
def FnWindingUptoSaid : Prop := fnWindingUptoRow.holds Try.pinned (OpenSpec.upto fnWindingSpec)

/-- 'laws.FnQuadratic', WHERE WHAT IT READS IS OF BULK AT MOST 1048576: true; the input reads as it did. -/
def fnQuadraticUptoRow : OpenClaim := { program := "ytigckpmeppddcaa", sum := "25ae13ff5956cbcdc6d23d3f1df6af92139df4757ce04acbbfd871fdd3a84886", func := "loop.example/lib-g01438/laws.FnQuadratic", spec := "fnQuadratic", inPlace := ["math.sqrt", "math.Float64bits", "math.Float64frombits", "math.archHypot"], apart := false, narrowed := true }
def FnQuadraticUptoSaid : Prop := fnQuadraticUptoRow.holds Try.pinned (OpenSpec.upto fnQuadraticSpec)

/-- 'laws.FnRootProduct', WHERE WHAT IT READS IS OF BULK AT MOST 1048576: true; the input reads as it did. -/
def fnRootProductUptoRow : OpenClaim := { program := "ytigckpmeppddcaa", sum := "25ae13ff5956cbcdc6d23d3f1df6af92139df4757ce04acbbfd871fdd3a84886", func := "loop.example/lib-g01438/laws.FnRootProduct", spec := "fnRootProduct", inPlace := ["math.sqrt", "math.Float64bits", "math.Float64frombits", "math.archHypot"], apart := false, narrowed := true }
def FnRootProductUptoSaid : Prop := fnRootProductUptoRow.holds Try.pinned (OpenSpec.upto fnRootProductSpec)

/-- 'laws.FnSqrtTower', WHERE WHAT IT READS IS OF BULK AT MOST 1048576: true; the input reads as it did. -/
def fnSqrtTowerUptoRow : OpenClaim := { program := "ytigckpmeppddcaa", sum := "25ae13ff5956cbcdc6d23d3f1df6af92139df4757ce04acbbfd871fdd3a84886", func := "loop.example/lib-g01438/laws.FnSqrtTower", spec := "fnSqrtTower", inPlace := ["math.Float64frombits", "math.Float64bits", "math.sqrt", "math.archHypot"], apart := false, narrowed := true }
def FnSqrtTowerUptoSaid : Prop := fnSqrtTowerUptoRow.holds Try.pinned (OpenSpec.upto fnSqrtTowerSpec)

/-- 'laws.FnScript', WHERE WHAT IT READS IS OF BULK AT MOST 1048576: true; the input reads as it did. -/
def fnScriptUptoRow : OpenClaim := { program := "ytigckpmeppddcaa", sum := "25ae13ff5956cbcdc6d23d3f1df6af92139df4757ce04acbbfd871fdd3a84886", func := "loop.example/lib-g01438/laws.FnScript", spec := "fnScript", inPlace := ["math.archHypot", "math.Float64bits", "math.Float64frombits", "math.sqrt"], apart := false, narrowed := true }
def FnScriptUptoSaid : Prop := fnScriptUptoRow.holds Try.pinned (OpenSpec.upto fnScriptSpec)

/-- 'laws.FnLogProduct', WHERE WHAT IT READS IS OF BULK AT MOST 1048576: true; the input reads as it did. -/
def fnLogProductUptoRow : OpenClaim := { program := "ytigckpmeppddcaa", sum := "25ae13ff5956cbcdc6d23d3f1df6af92139df4757ce04acbbfd871fdd3a84886", func := "loop.example/lib-g01438/laws.FnLogProduct", spec := "fnLogProduct", inPlace := ["math.archHypot", "math.Float64bits", "math.Float64frombits", "math.sqrt", "math.archLog"], apart := false, narrowed := true }
def FnLogProductUptoSaid : Prop := fnLogProductUptoRow.holds Try.pinned (OpenSpec.upto fnLogProductSpec)

/-- 'laws.FnLogAbs', WHERE WHAT IT READS IS OF BULK AT MOST 1048576: true; the input reads as it did. -/
def fnLogAbsUptoRow : OpenClaim := { program := "ytigckpmeppddcaa", sum := "25ae13ff5956cbcdc6d23d3f1df6af92139df4757ce04acbbfd871fdd3a84886", func := "loop.example/lib-g01438/laws.FnLogAbs", spec := "fnLogAbs", inPlace := ["math.archHypot", "math.Float64bits", "math.Float64frombits", "math.sqrt", "math.archLog"], apart := false, narrowed := true }
def FnLogAbsUptoSaid : Prop := fnLogAbsUptoRow.holds Try.pinned (OpenSpec.upto fnLogAbsSpec)

/-- 'laws.FnLogSqrt', WHERE WHAT IT READS IS OF BULK AT MOST 1048576: true; the input reads as it did. -/
def fnLogSqrtUptoRow : OpenClaim := { program := "ytigckpmeppddcaa", sum := "25ae13ff5956cbcdc6d23d3f1df6af92139df4757ce04acbbfd871fdd3a84886", func := "loop.example/lib-g01438/laws.FnLogSqrt", spec := "fnLogSqrt", inPlace := ["math.sqrt", "math.Float64bits", "math.Float64frombits", "math.archHypot", "math.archLog"], apart := false, narrowed := true }
def FnLogSqrtUptoSaid : Prop := fnLogSqrtUptoRow.holds Try.pinned (OpenSpec.upto fnLogSqrtSpec)

end Rows
end Go.Proofs.Ytigckpmeppddcaa
