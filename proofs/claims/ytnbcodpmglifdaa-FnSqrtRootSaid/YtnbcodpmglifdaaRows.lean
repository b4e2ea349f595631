/-
  No cell of these rows narrows 'for every input' (looked for: loops, veiled, ifaces, maps, wideKeys, modest, calm, conditions, laid).
  DERIVED. THE GIVEN ROWS OF THIS SEAT. 12 by the template 'for every input the law returns true; each argument reads behind the call as it read before'; 0 by the template 'total and deterministic' (their statements: YtnbcodpmglifdaaTotals.lean).
  GIVEN WITH THE SEED: the statements are not yours to turn. If you find one false, say at which input.
  Laid BY PROGRAM, IN A SANDBOX (cutbox-rows.mjs): the forced cells as the released guide's own fill.sh prints them over the translation 6a12393a701879f9… (all of the seat's roots in one cut). By AI agents, Wed Nov 11 2026. No macro, syntax, notation, axiom, sorry.
-/
import Derived.Test.YtnbcodpmglifdaaChecked
import GoSem.Claim
import GoSem.ClaimJoined
import GoSem.ClaimMapViews
import Derived.JoinedTies
import Derived.KernelRfl
namespace Go.Proofs.Ytnbcodpmglifdaa
/- THE CELL 'sum', in the pinned program and in every row, IS THE sha256 OF THE DUMP (.gsa) THAT YtnbcodpmglifdaaProg.lean LOADS. Nothing in Lean hashes anything: it is a label: what it is worth is what the hold of that sum in a sandbox is worth. -/
noncomputable def Try.pinned : Pinned := { name := "ytnbcodpmglifdaa", sum := "6a12393a701879f96acaf606151e8dcbc358606e2413cf28d699fde9c5568db9", checked := Try.checked }
namespace Rows
def none {H : Type} : Left H := { results := [], args := [] }

/-- 'laws.FnConj': WHATEVER THE INPUT: true; the input reads as it did. -/
def fnConjSpec : ChangeSpec := { name := "fnConj", fn := fun _ => fun
  | [d1, d2] => { results := [.lit (.bool true)], args := [d1, d2] }
  | _ => none }
def fnConjRow : OpenClaim := { program := "ytnbcodpmglifdaa", sum := "6a12393a701879f96acaf606151e8dcbc358606e2413cf28d699fde9c5568db9", func := "loop.example/lib-g03227/laws.FnConj", spec := "fnConj", apart := false }
def FnConjSaid : Prop := fnConjRow.holds Try.pinned (OpenSpec.ofChange fnConjSpec)

/-- ITS FALSE NEIGHBOUR: 'it returns false'. Refute it at one input. -/
def fnConjWrong : ChangeSpec := { name := "fnConj", fn := fun _ => fun
  | [d1, d2] => { results := [.lit (.bool false)], args := [d1, d2] }
  | _ => none }
def FnConjWrongFalsely : Prop := fnConjRow.holds Try.pinned (OpenSpec.ofChange fnConjWrong)

/-- 'laws.FnInf': WHATEVER THE INPUT: true; the input reads as it did. -/
def fnInfSpec : ChangeSpec := { name := "fnInf", fn := fun _ => fun
  | [d] => { results := [.lit (.bool true)], args := [d] }
  | _ => none }
def fnInfRow : OpenClaim := { program := "ytnbcodpmglifdaa", sum := "6a12393a701879f96acaf606151e8dcbc358606e2413cf28d699fde9c5568db9", func := "loop.example/lib-g03227/laws.FnInf", spec := "fnInf", inPlace := ["math.Float64frombits"], apart := false }
def FnInfSaid : Prop := fnInfRow.holds Try.pinned (OpenSpec.ofChange fnInfSpec)

/-- ITS FALSE NEIGHBOUR: 'it returns false'. Refute it at one input. -/
def fnInfWrong : ChangeSpec := { name := "fnInf", fn := fun _ => fun
  | [d] => { results := [.lit (.bool false)], args := [d] }
  | _ => none }
def FnInfWrongFalsely : Prop := fnInfRow.holds Try.pinned (OpenSpec.ofChange fnInfWrong)

/-- 'laws.FnIsInf': WHATEVER THE INPUT: true; the input reads as it did. -/
def fnIsInfSpec : ChangeSpec := { name := "fnIsInf", fn := fun _ => fun
  | [d1, d2] => { results := [.lit (.bool true)], args := [d1, d2] }
  | _ => none }
def fnIsInfRow : OpenClaim := { program := "ytnbcodpmglifdaa", sum := "6a12393a701879f96acaf606151e8dcbc358606e2413cf28d699fde9c5568db9", func := "loop.example/lib-g03227/laws.FnIsInf", spec := "fnIsInf", inPlace := ["math.Float64bits", "math.Float64frombits"], apart := false }
def FnIsInfSaid : Prop := fnIsInfRow.holds Try.pinned (OpenSpec.ofChange fnIsInfSpec)

/-- ITS FALSE NEIGHBOUR: 'it returns false'. Refute it at one input. -/
def fnIsInfWrong : ChangeSpec := { name := "fnIsInf", fn := fun _ => fun
  | [d1, d2] => { results := [.lit (.bool false)], args := [d1, d2] }
  | _ => none }
def FnIsInfWrongFalsely : Prop := fnIsInfRow.holds Try.pinned (OpenSpec.ofChange fnIsInfWrong)

/-- 'laws.FnIsNaN': WHATEVER THE INPUT: true; the input reads as it did. -/
def fnIsNaNSpec : ChangeSpec := { name := "fnIsNaN", fn := fun _ => fun
  | [d1, d2] => { results := [.lit (.bool true)], args := [d1, d2] }
  | _ => none }
def fnIsNaNRow : OpenClaim := { program := "ytnbcodpmglifdaa", sum := "6a12393a701879f96acaf606151e8dcbc358606e2413cf28d699fde9c5568db9", func := "loop.example/lib-g03227/laws.FnIsNaN", spec := "fnIsNaN", inPlace := ["math.Float64bits", "math.Float64frombits"], apart := false }
def FnIsNaNSaid : Prop := fnIsNaNRow.holds Try.pinned (OpenSpec.ofChange fnIsNaNSpec)

/-- ITS FALSE NEIGHBOUR: 'it returns false'. Refute it at one input. -/
def fnIsNaNWrong : ChangeSpec := { name := "fnIsNaN", fn := fun _ => fun
  | [d1, d2] => { results := [.lit (.bool false)], args := [d1, d2] }
  | _ => none }
def FnIsNaNWrongFalsely : Prop := fnIsNaNRow.holds Try.pinned (OpenSpec.ofChange fnIsNaNWrong)

/-- 'laws.FnNaN': WHATEVER THE INPUT: true; the input reads as it did. -/
def fnNaNSpec : ChangeSpec := { name := "fnNaN", fn := fun _ => fun
  | [d1, d2] => { results := [.lit (.bool true)], args := [d1, d2] }
  | _ => none }
def fnNaNRow : OpenClaim := { program := "ytnbcodpmglifdaa", sum := "6a12393a701879f96acaf606151e8dcbc358606e2413cf28d699fde9c5568db9", func := "loop.example/lib-g03227/laws.FnNaN", spec := "fnNaN", inPlace := ["math.Float64frombits", "math.Float64bits"], apart := false }
def FnNaNSaid : Prop := fnNaNRow.holds Try.pinned (OpenSpec.ofChange fnNaNSpec)

/-- ITS FALSE NEIGHBOUR: 'it returns false'. Refute it at one input. -/
def fnNaNWrong : ChangeSpec := { name := "fnNaN", fn := fun _ => fun
  | [d1, d2] => { results := [.lit (.bool false)], args := [d1, d2] }
  | _ => none }
def FnNaNWrongFalsely : Prop := fnNaNRow.holds Try.pinned (OpenSpec.ofChange fnNaNWrong)

/-- 'laws.FnRealSqrt': WHATEVER THE INPUT: true; the input reads as it did. -/
def fnRealSqrtSpec : ChangeSpec := { name := "fnRealSqrt", fn := fun _ => fun
  | [d] => { results := [.lit (.bool true)], args := [d] }
  | _ => none }
def fnRealSqrtRow : OpenClaim := { program := "ytnbcodpmglifdaa", sum := "6a12393a701879f96acaf606151e8dcbc358606e2413cf28d699fde9c5568db9", func := "loop.example/lib-g03227/laws.FnRealSqrt", spec := "fnRealSqrt", inPlace := ["math.sqrt"], apart := false }
def FnRealSqrtSaid : Prop := fnRealSqrtRow.holds Try.pinned (OpenSpec.ofChange fnRealSqrtSpec)

/-- ITS FALSE NEIGHBOUR: 'it returns false'. Refute it at one input. -/
def fnRealSqrtWrong : ChangeSpec := { name := "fnRealSqrt", fn := fun _ => fun
  | [d] => { results := [.lit (.bool false)], args := [d] }
  | _ => none }
def FnRealSqrtWrongFalsely : Prop := fnRealSqrtRow.holds Try.pinned (OpenSpec.ofChange fnRealSqrtWrong)

/-- 'laws.FnSqrtRoot': WHATEVER THE INPUT: true; the input reads as it did. -/
def fnSqrtRootSpec : ChangeSpec := { name := "fnSqrtRoot", fn := fun _ => fun
  | [d1, d2] => { results := [.lit (.bool true)], args := [d1, d2] }
  | _ => none }
def fnSqrtRootRow : OpenClaim := { program := "ytnbcodpmglifdaa", sum := "6a12393a701879f96acaf606151e8dcbc358606e2413cf28d699fde9c5568db9", func := "loop.example/lib-g03227/laws.FnSqrtRoot", spec := "fnSqrtRoot", inPlace := ["math.sqrt"], apart := false }
def FnSqrtRootSaid : Prop := fnSqrtRootRow.holds Try.pinned (OpenSpec.ofChange fnSqrtRootSpec)

/-- ITS FALSE NEIGHBOUR: 'it returns false'. Refute it at one input. -/
def fnSqrtRootWrong : ChangeSpec := { name := "fnSqrtRoot", fn := fun _ => fun
  | [d1, d2] => { results := [.lit (.bool false)], args := [d1, d2] }
  | _ => none }
def FnSqrtRootWrongFalsely : Prop := fnSqrtRootRow.holds Try.pinned (OpenSpec.ofChange fnSqrtRootWrong)

/-- 'laws.FnRealHypot': WHATEVER THE INPUT: true; the input reads as it did. -/
def fnRealHypotSpec : ChangeSpec := { name := "fnRealHypot", fn := fun _ => fun
  | [d1, d2] => { results := [.lit (.bool true)], args := [d1, d2] }
  | _ => none }
def fnRealHypotRow : OpenClaim := { program := "ytnbcodpmglifdaa", sum := "6a12393a701879f96acaf606151e8dcbc358606e2413cf28d699fde9c5568db9", func := "loop.example/lib-g03227/laws.FnRealHypot", spec := "fnRealHypot", inPlace := ["math.archHypot", "math.Float64bits", "math.Float64frombits", "math.sqrt"], apart := false }
def FnRealHypotSaid : Prop := fnRealHypotRow.holds Try.pinned (OpenSpec.ofChange fnRealHypotSpec)

/-- ITS FALSE NEIGHBOUR: 'it returns false'. Refute it at one input. -/
def fnRealHypotWrong : ChangeSpec := { name := "fnRealHypot", fn := fun _ => fun
  | [d1, d2] => { results := [.lit (.bool false)], args := [d1, d2] }
  | _ => none }
def FnRealHypotWrongFalsely : Prop := fnRealHypotRow.holds Try.pinned (OpenSpec.ofChange fnRealHypotWrong)

/-- 'laws.FnAbs': WHATEVER THE INPUT: true; the input reads as it did. -/
def fnAbsSpec : ChangeSpec := { name := "fnAbs", fn := fun _ => fun
  | [d1, d2] => { results := [.lit (.bool true)], args := [d1, d2] }
  | _ => none }
def fnAbsRow : OpenClaim := { program := "ytnbcodpmglifdaa", sum := "6a12393a701879f96acaf606151e8dcbc358606e2413cf28d699fde9c5568db9", func := "loop.example/lib-g03227/laws.FnAbs", spec := "fnAbs", inPlace := ["math.archHypot", "math.Float64bits", "math.Float64frombits", "math.sqrt"], apart := false }
def FnAbsSaid : Prop := fnAbsRow.holds Try.pinned (OpenSpec.ofChange fnAbsSpec)

/-- ITS FALSE NEIGHBOUR: 'it returns false'. Refute it at one input. -/
def fnAbsWrong : ChangeSpec := { name := "fnAbs", fn := fun _ => fun
  | [d1, d2] => { results := [.lit (.bool false)], args := [d1, d2] }
  | _ => none }
def FnAbsWrongFalsely : Prop := fnAbsRow.holds Try.pinned (OpenSpec.ofChange fnAbsWrong)

/-- 'laws.FnAbsBetween': WHATEVER THE INPUT: true; the input reads as it did. -/
def fnAbsBetweenSpec : ChangeSpec := { name := "fnAbsBetween", fn := fun _ => fun
  | [d1, d2] => { results := [.lit (.bool true)], args := [d1, d2] }
  | _ => none }
def fnAbsBetweenRow : OpenClaim := { program := "ytnbcodpmglifdaa", sum := "6a12393a701879f96acaf606151e8dcbc358606e2413cf28d699fde9c5568db9", func := "loop.example/lib-g03227/laws.FnAbsBetween", spec := "fnAbsBetween", inPlace := ["math.archHypot", "math.Float64bits", "math.Float64frombits", "math.sqrt"], apart := false }
def FnAbsBetweenSaid : Prop := fnAbsBetweenRow.holds Try.pinned (OpenSpec.ofChange fnAbsBetweenSpec)

/-- ITS FALSE NEIGHBOUR: 'it returns false'. Refute it at one input. -/
def fnAbsBetweenWrong : ChangeSpec := { name := "fnAbsBetween", fn := fun _ => fun
  | [d1, d2] => { results := [.lit (.bool false)], args := [d1, d2] }
  | _ => none }
def FnAbsBetweenWrongFalsely : Prop := fnAbsBetweenRow.holds Try.pinned (OpenSpec.ofChange fnAbsBetweenWrong)

/-- 'laws.FnAbsSides': WHATEVER THE INPUT: true; the input reads as it did. -/
def fnAbsSidesSpec : ChangeSpec := { name := "fnAbsSides", fn := fun _ => fun
  | [d1, d2] => { results := [.lit (.bool true)], args := [d1, d2] }
  | _ => none }
def fnAbsSidesRow : OpenClaim := { program := "ytnbcodpmglifdaa", sum := "6a12393a701879f96acaf606151e8dcbc358606e2413cf28d699fde9c5568db9", func := "loop.example/lib-g03227/laws.FnAbsSides", spec := "fnAbsSides", inPlace := ["math.archHypot", "math.Float64bits", "math.Float64frombits", "math.sqrt"], apart := false }
def FnAbsSidesSaid : Prop := fnAbsSidesRow.holds Try.pinned (OpenSpec.ofChange fnAbsSidesSpec)

/-- ITS FALSE NEIGHBOUR: 'it returns false'. Refute it at one input. -/
def fnAbsSidesWrong : ChangeSpec := { name := "fnAbsSides", fn := fun _ => fun
  | [d1, d2] => { results := [.lit (.bool false)], args := [d1, d2] }
  | _ => none }
def FnAbsSidesWrongFalsely : Prop := fnAbsSidesRow.holds Try.pinned (OpenSpec.ofChange fnAbsSidesWrong)

/-- 'laws.FnAbsHypot': WHATEVER THE INPUT: true; the input reads as it did. -/
def fnAbsHypotSpec : ChangeSpec := { name := "fnAbsHypot", fn := fun _ => fun
  | [d1, d2] => { results := [.lit (.bool true)], args := [d1, d2] }
  | _ => none }
def fnAbsHypotRow : OpenClaim := { program := "ytnbcodpmglifdaa", sum := "6a12393a701879f96acaf606151e8dcbc358606e2413cf28d699fde9c5568db9", func := "loop.example/lib-g03227/laws.FnAbsHypot", spec := "fnAbsHypot", inPlace := ["math.archHypot", "math.Float64bits", "math.Float64frombits", "math.sqrt"], apart := false }
def FnAbsHypotSaid : Prop := fnAbsHypotRow.holds Try.pinned (OpenSpec.ofChange fnAbsHypotSpec)

/-- ITS FALSE NEIGHBOUR: 'it returns false'. Refute it at one input. -/
def fnAbsHypotWrong : ChangeSpec := { name := "fnAbsHypot", fn := fun _ => fun
  | [d1, d2] => { results := [.lit (.bool false)], args := [d1, d2] }
  | _ => none }
def FnAbsHypotWrongFalsely : Prop := fnAbsHypotRow.holds Try.pinned (OpenSpec.ofChange fnAbsHypotWrong)

/- THE SECOND FORM. 'bulk': how many values and letters a reading holds, each counted each time it is reached (what is shared counts as often as it is met; a slice's spare places count too). A statement '..UptoSaid' is the law's where the arguments, and the package variables that the reading takes, are together of bulk at most 1048576: NARROWER than '..Said'. Prove '..Said' where nothing that the law and all that it calls make is longer than what came in: it says more and counts as full. Else prove '..UptoSaid'. A law counts once. -/
mutual
def uptoBulk {H : Type} : DataW H → Nat
  | .lit (.string bytes) => bytes.length + 1
  | .lit _ => 1
  | .nil => 1
  | .ptr d => uptoBulk d + 1
  | .slice elems spare => uptoBulkAll elems + uptoBulkAll spare + 1
  | .agg parts => uptoBulkAll parts + 1
  | .iface _ d => uptoBulk d + 1
  | .map entries => uptoBulkEntries entries + 1
  | .held _ => 1
def uptoBulkAll {H : Type} : List (DataW H) → Nat
  | [] => 0
  | d :: r => uptoBulk d + uptoBulkAll r
def uptoBulkEntries {H : Type} : List (Lit × DataW H) → Nat
  | [] => 0
  | x :: r => uptoBulkEntry x + uptoBulkEntries r
def uptoBulkEntry {H : Type} : Lit × DataW H → Nat
  | (.string bytes, d) => bytes.length + uptoBulk d + 1
  | (_, d) => uptoBulk d + 1
 end
def uptoSmall : (H : Type) → List (DataW H) → Bool := fun _ ds => decide (uptoBulkAll ds ≤ 1048576)
def OpenSpec.upto (s : _root_.Go.ChangeSpec) : _root_.Go.OpenSpec := { _root_.Go.OpenSpec.ofChange s with cond := some uptoSmall }

/-- 'laws.FnConj', WHERE WHAT IT READS IS OF BULK AT MOST 1048576: true; the input reads as it did. -/
def fnConjUptoRow : OpenClaim := { program := "ytnbcodpmglifdaa", sum := "6a12393a701879f96acaf606151e8dcbc358606e2413cf28d699fde9c5568db9", func := "loop.example/lib-g03227/laws.FnConj", spec := "fnConj", apart := false, narrowed := true }
def FnConjUptoSaid : Prop := fnConjUptoRow.holds Try.pinned (OpenSpec.upto fnConjSpec)

/-- 'laws.FnInf', WHERE WHAT IT READS IS OF BULK AT MOST 1048576: true; the input reads as it did. -/
def fnInfUptoRow : OpenClaim := { program := "ytnbcodpmglifdaa", sum := "6a12393a701879f96acaf606151e8dcbc358606e2413cf28d699fde9c5568db9", func := "loop.example/lib-g03227/laws.FnInf", spec := "fnInf", inPlace := ["math.Float64frombits"], apart := false, narrowed := true }
def FnInfUptoSaid : Prop := fnInfUptoRow.holds Try.pinned (OpenSpec.upto fnInfSpec)

/-- 'laws.FnIsInf', WHERE WHAT IT READS IS OF BULK AT MOST 1048576: true; the input reads as it did. -/
def fnIsInfUptoRow : OpenClaim := { program := "ytnbcodpmglifdaa", sum := "6a12393a701879f96acaf606151e8dcbc358606e2413cf28d699fde9c5568db9", func := "loop.example/lib-g03227/laws.FnIsInf", spec := "fnIsInf", inPlace := ["math.Float64bits", "math.Float64frombits"], apart := false, narrowed := true }
def FnIsInfUptoSaid : Prop := fnIsInfUptoRow.holds Try.pinned (OpenSpec.upto fnIsInfSpec)

/-- 'laws.FnIsNaN', WHERE WHAT IT READS IS OF BULK AT MOST 1048576: true; the input reads as it did. -/
def fnIsNaNUptoRow : OpenClaim := { program := "ytnbcodpmglifdaa", sum := "6a12393a701879f96acaf606151e8dcbc358606e2413cf28d699fde9c5568db9", func := "loop.example/lib-g03227/laws.FnIsNaN", spec := "fnIsNaN", inPlace := ["math.Float64bits", "math.Float64frombits"], apart := false, narrowed := true }
def FnIsNaNUptoSaid : Prop := fnIsNaNUptoRow.holds Try.pinned (OpenSpec.upto fnIsNaNSpec)

/-- 'laws.FnNaN', WHERE WHAT IT READS IS OF BULK AT MOST 1048576: true; the input reads as it did. -/
def fnNaNUptoRow : OpenClaim := { program := "ytnbcodpmglifdaa", sum := "6a12393a701879f96acaf606151e8dcbc358606e2413cf28d699fde9c5568db9", func := "loop.example/lib-g03227/laws.FnNaN", spec := "fnNaN", inPlace := ["math.Float64frombits", "math.Float64bits"], apart := false, narrowed := true }
def FnNaNUptoSaid : Prop := fnNaNUptoRow.holds Try.pinned (OpenSpec.upto fnNaNSpec)

/-- 'laws.FnRealSqrt', WHERE WHAT IT READS IS OF BULK AT MOST 1048576: true; the input reads as it did. -/
def fnRealSqrtUptoRow : OpenClaim := { program := "ytnbcodpmglifdaa", sum := "6a12393a701879f96acaf606151e8dcbc358606e2413cf28d699fde9c5568db9", func := "loop.example/lib-g03227/laws.FnRealSqrt", spec := "fnRealSqrt", inPlace := ["math.sqrt"], apart := false, narrowed := true }
def FnRealSqrtUptoSaid : Prop := fnRealSqrtUptoRow.holds Try.pinned (OpenSpec.upto fnRealSqrtSpec)

/-- 'laws.FnSqrtRoot', WHERE WHAT IT READS IS OF BULK AT MOST 1048576: true; the input reads as it did. -/
def fnSqrtRootUptoRow : OpenClaim := { program := "ytnbcodpmglifdaa", sum := "6a12393a701879f96acaf606151e8dcbc358606e2413cf28d699fde9c5568db9", func := "loop.example/lib-g03227/laws.FnSqrtRoot", spec := "fnSqrtRoot", inPlace := ["math.sqrt"], apart := false, narrowed := true }
def FnSqrtRootUptoSaid : Prop := fnSqrtRootUptoRow.holds Try.pinned (OpenSpec.upto fnSqrtRootSpec)

/-- 'laws.FnRealHypot', WHERE WHAT IT READS IS OF BULK AT MOST 1048576: true; the input reads as it did. -/
def fnRealHypotUptoRow : OpenClaim := { program := "ytnbcodpmglifdaa", sum := "6a12393a701879f96acaf606151e8dcbc358606e2413cf28d699fde9c5568db9", func := "loop.example/lib-g03227/laws.FnRealHypot", spec := "fnRealHypot", inPlace := ["math.archHypot", "math.Float64bits", "math.Float64frombits", "math.sqrt"], apart := false, narrowed := true }
def FnRealHypotUptoSaid : Prop := fnRealHypotUptoRow.holds Try.pinned (OpenSpec.upto fnRealHypotSpec)

/-- 'laws.FnAbs', WHERE WHAT IT READS IS OF BULK AT MOST 1048576: true; the input reads as it did. -/
def fnAbsUptoRow : OpenClaim := { program := "ytnbcodpmglifdaa", sum := "6a12393a701879f96acaf606151e8dcbc358606e2413cf28d699fde9c5568db9", func := "loop.example/lib-g03227/laws.FnAbs", spec := "fnAbs", inPlace := ["math.archHypot", "math.Float64bits", "math.Float64frombits", "math.sqrt"], apart := false, narrowed := true }
def FnAbsUptoSaid : Prop := fnAbsUptoRow.holds Try.pinned (OpenSpec.upto fnAbsSpec)

/-- 'laws.FnAbsBetween', WHERE WHAT IT READS IS OF BULK AT MOST 1048576: true; the input reads as it did. -/
def fnAbsBetweenUptoRow : OpenClaim := { program := "ytnbcodpmglifdaa", sum := "6a12393a701879f96acaf606151e8dcbc358606e2413cf28d699fde9c5568db9", func := "loop.example/lib-g03227/laws.FnAbsBetween", spec := "fnAbsBetween", inPlace := ["math.archHypot", "math.Float64bits", "math.Float64frombits", "math.sqrt"], apart := false, narrowed := true }
def FnAbsBetweenUptoSaid : Prop := fnAbsBetweenUptoRow.holds Try.pinned (OpenSpec.upto fnAbsBetweenSpec)

/-- 'laws.FnAbsSides', WHERE WHAT IT READS IS OF BULK AT MOST 1048576: true; the input reads as it did. -/
def fnAbsSidesUptoRow : OpenClaim := { program := "ytnbcodpmglifdaa", sum := "6a12393a701879f96acaf606151e8dcbc358606e2413cf28d699fde9c5568db9", func := "loop.example/lib-g03227/laws.FnAbsSides", spec := "fnAbsSides", inPlace := ["math.archHypot", "math.Float64bits", "math.Float64frombits", "math.sqrt"], apart := false, narrowed := true }
def FnAbsSidesUptoSaid : Prop := fnAbsSidesUptoRow.holds Try.pinned (OpenSpec.upto fnAbsSidesSpec)

/-- 'laws.FnAbsHypot', WHERE WHAT IT READS IS OF BULK AT MOST 1048576: true; the input reads as it did. -/
def fnAbsHypotUptoRow : OpenClaim := { program := "ytnbcodpmglifdaa", sum := "6a12393a701879f96acaf606151e8dcbc358606e2413cf28d699fde9c5568db9", func := "loop.example/lib-g03227/laws.FnAbsHypot", spec := "fnAbsHypot", inPlace := ["math.archHypot", "math.Float64bits", "math.Float64frombits", "math.sqrt"], apart := false, narrowed := true }
def FnAbsHypotUptoSaid : Prop := fnAbsHypotUptoRow.holds Try.pinned (OpenSpec.upto fnAbsHypotSpec)

end Rows
end Go.Proofs.Ytnbcodpmglifdaa
