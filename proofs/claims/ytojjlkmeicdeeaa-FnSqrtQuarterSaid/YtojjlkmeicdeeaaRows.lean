/-
  No cell of these rows narrows 'for every input' (looked for: loops, veiled, ifaces, maps, wideKeys, modest, calm, conditions, laid).
  DERIVED. THE GIVEN ROWS OF THIS SEAT. 12 by the template 'for every input the law returns true; each argument reads behind the call as it read before'; 0 by the template 'total and deterministic' (their statements: YtojjlkmeicdeeaaTotals.lean).
  GIVEN WITH THE SEED: the statements are not yours to turn. If you find one false, say at which input.
  Laid BY PROGRAM, IN A SANDBOX (cutbox-rows.mjs): the forced cells as the released guide's own fill.sh prints them over the translation 90155e7b7e9ae238… (all of the seat's roots in one cut). By AI agents, Wed Nov 11 2026. No macro, syntax, notation, axiom, sorry.
-/
import Derived.Test.YtojjlkmeicdeeaaChecked
import GoSem.Claim
import GoSem.ClaimJoined
import GoSem.ClaimMapViews
import Derived.JoinedTies
import Derived.KernelRfl
namespace Go.Proofs.Ytojjlkmeicdeeaa
/- THE CELL 'sum', in the pinned program and in every row, IS THE sha256 OF THE DUMP (.gsa) THAT YtojjlkmeicdeeaaProg.lean LOADS. Nothing in Lean hashes anything: it is a label: what it is worth is what the hold of that sum in a sandbox is worth. -/
noncomputable def Try.pinned : Pinned := { name := "ytojjlkmeicdeeaa", sum := "90155e7b7e9ae238d50ab61f51eb911b03a58985f1852e12a2d83e966bd5e1b6", checked := Try.checked }
namespace Rows
def none {H : Type} : Left H := { results := [], args := [] }

/-- 'laws.FnKinds': WHATEVER THE INPUT: true; the input reads as it did. -/
def fnKindsSpec : ChangeSpec := { name := "fnKinds", fn := fun _ => fun
  | [d1, d2] => { results := [.lit (.bool true)], args := [d1, d2] }
  | _ => none }
def fnKindsRow : OpenClaim := { program := "ytojjlkmeicdeeaa", sum := "90155e7b7e9ae238d50ab61f51eb911b03a58985f1852e12a2d83e966bd5e1b6", func := "loop.example/lib-g03227/laws.FnKinds", spec := "fnKinds", inPlace := ["math.Float64bits", "math.Float64frombits", "math.archHypot", "math.sqrt"], apart := false }
def FnKindsSaid : Prop := fnKindsRow.holds Try.pinned (OpenSpec.ofChange fnKindsSpec)

/-- ITS FALSE NEIGHBOUR: 'it returns false'. Refute it at one input. -/
def fnKindsWrong : ChangeSpec := { name := "fnKinds", fn := fun _ => fun
  | [d1, d2] => { results := [.lit (.bool false)], args := [d1, d2] }
  | _ => none }
def FnKindsWrongFalsely : Prop := fnKindsRow.holds Try.pinned (OpenSpec.ofChange fnKindsWrong)

/-- 'laws.FnConjTwice': WHATEVER THE INPUT: true; the input reads as it did. -/
def fnConjTwiceSpec : ChangeSpec := { name := "fnConjTwice", fn := fun _ => fun
  | [d1, d2] => { results := [.lit (.bool true)], args := [d1, d2] }
  | _ => none }
def fnConjTwiceRow : OpenClaim := { program := "ytojjlkmeicdeeaa", sum := "90155e7b7e9ae238d50ab61f51eb911b03a58985f1852e12a2d83e966bd5e1b6", func := "loop.example/lib-g03227/laws.FnConjTwice", spec := "fnConjTwice", inPlace := ["math.Float64bits", "math.Float64frombits", "math.archHypot", "math.sqrt"], apart := false }
def FnConjTwiceSaid : Prop := fnConjTwiceRow.holds Try.pinned (OpenSpec.ofChange fnConjTwiceSpec)

/-- ITS FALSE NEIGHBOUR: 'it returns false'. Refute it at one input. -/
def fnConjTwiceWrong : ChangeSpec := { name := "fnConjTwice", fn := fun _ => fun
  | [d1, d2] => { results := [.lit (.bool false)], args := [d1, d2] }
  | _ => none }
def FnConjTwiceWrongFalsely : Prop := fnConjTwiceRow.holds Try.pinned (OpenSpec.ofChange fnConjTwiceWrong)

/-- 'laws.FnAbsScaled': WHATEVER THE INPUT: true; the input reads as it did. -/
def fnAbsScaledSpec : ChangeSpec := { name := "fnAbsScaled", fn := fun _ => fun
  | [d1, d2, d3] => { results := [.lit (.bool true)], args := [d1, d2, d3] }
  | _ => none }
def fnAbsScaledRow : OpenClaim := { program := "ytojjlkmeicdeeaa", sum := "90155e7b7e9ae238d50ab61f51eb911b03a58985f1852e12a2d83e966bd5e1b6", func := "loop.example/lib-g03227/laws.FnAbsScaled", spec := "fnAbsScaled", inPlace := ["math.archHypot", "math.Float64bits", "math.Float64frombits", "math.sqrt"], apart := false }
def FnAbsScaledSaid : Prop := fnAbsScaledRow.holds Try.pinned (OpenSpec.ofChange fnAbsScaledSpec)

/-- ITS FALSE NEIGHBOUR: 'it returns false'. Refute it at one input. -/
def fnAbsScaledWrong : ChangeSpec := { name := "fnAbsScaled", fn := fun _ => fun
  | [d1, d2, d3] => { results := [.lit (.bool false)], args := [d1, d2, d3] }
  | _ => none }
def FnAbsScaledWrongFalsely : Prop := fnAbsScaledRow.holds Try.pinned (OpenSpec.ofChange fnAbsScaledWrong)

/-- 'laws.FnAbsSquare': WHATEVER THE INPUT: true; the input reads as it did. -/
def fnAbsSquareSpec : ChangeSpec := { name := "fnAbsSquare", fn := fun _ => fun
  | [d1, d2] => { results := [.lit (.bool true)], args := [d1, d2] }
  | _ => none }
def fnAbsSquareRow : OpenClaim := { program := "ytojjlkmeicdeeaa", sum := "90155e7b7e9ae238d50ab61f51eb911b03a58985f1852e12a2d83e966bd5e1b6", func := "loop.example/lib-g03227/laws.FnAbsSquare", spec := "fnAbsSquare", inPlace := ["math.archHypot", "math.Float64bits", "math.Float64frombits", "math.sqrt"], apart := false }
def FnAbsSquareSaid : Prop := fnAbsSquareRow.holds Try.pinned (OpenSpec.ofChange fnAbsSquareSpec)

/-- ITS FALSE NEIGHBOUR: 'it returns false'. Refute it at one input. -/
def fnAbsSquareWrong : ChangeSpec := { name := "fnAbsSquare", fn := fun _ => fun
  | [d1, d2] => { results := [.lit (.bool false)], args := [d1, d2] }
  | _ => none }
def FnAbsSquareWrongFalsely : Prop := fnAbsSquareRow.holds Try.pinned (OpenSpec.ofChange fnAbsSquareWrong)

/-- 'laws.FnAbsTriple': WHATEVER THE INPUT: true; the input reads as it did. -/
def fnAbsTripleSpec : ChangeSpec := { name := "fnAbsTriple", fn := fun _ => fun
  | [d1, d2] => { results := [.lit (.bool true)], args := [d1, d2] }
  | _ => none }
def fnAbsTripleRow : OpenClaim := { program := "ytojjlkmeicdeeaa", sum := "90155e7b7e9ae238d50ab61f51eb911b03a58985f1852e12a2d83e966bd5e1b6", func := "loop.example/lib-g03227/laws.FnAbsTriple", spec := "fnAbsTriple", inPlace := ["math.archHypot", "math.Float64bits", "math.Float64frombits", "math.sqrt"], apart := false }
def FnAbsTripleSaid : Prop := fnAbsTripleRow.holds Try.pinned (OpenSpec.ofChange fnAbsTripleSpec)

/-- ITS FALSE NEIGHBOUR: 'it returns false'. Refute it at one input. -/
def fnAbsTripleWrong : ChangeSpec := { name := "fnAbsTriple", fn := fun _ => fun
  | [d1, d2] => { results := [.lit (.bool false)], args := [d1, d2] }
  | _ => none }
def FnAbsTripleWrongFalsely : Prop := fnAbsTripleRow.holds Try.pinned (OpenSpec.ofChange fnAbsTripleWrong)

/-- 'laws.FnSqrt': WHATEVER THE INPUT: true; the input reads as it did. -/
def fnSqrtSpec : ChangeSpec := { name := "fnSqrt", fn := fun _ => fun
  | [d1, d2] => { results := [.lit (.bool true)], args := [d1, d2] }
  | _ => none }
def fnSqrtRow : OpenClaim := { program := "ytojjlkmeicdeeaa", sum := "90155e7b7e9ae238d50ab61f51eb911b03a58985f1852e12a2d83e966bd5e1b6", func := "loop.example/lib-g03227/laws.FnSqrt", spec := "fnSqrt", inPlace := ["math.sqrt", "math.Float64bits", "math.Float64frombits", "math.archHypot"], apart := false }
def FnSqrtSaid : Prop := fnSqrtRow.holds Try.pinned (OpenSpec.ofChange fnSqrtSpec)

/-- ITS FALSE NEIGHBOUR: 'it returns false'. Refute it at one input. -/
def fnSqrtWrong : ChangeSpec := { name := "fnSqrt", fn := fun _ => fun
  | [d1, d2] => { results := [.lit (.bool false)], args := [d1, d2] }
  | _ => none }
def FnSqrtWrongFalsely : Prop := fnSqrtRow.holds Try.pinned (OpenSpec.ofChange fnSqrtWrong)

/-- 'laws.FnSqrtBack': WHATEVER THE INPUT: true; the input reads as it did. -/
def fnSqrtBackSpec : ChangeSpec := { name := "fnSqrtBack", fn := fun _ => fun
  | [d1, d2] => { results := [.lit (.bool true)], args := [d1, d2] }
  | _ => none }
def fnSqrtBackRow : OpenClaim := { program := "ytojjlkmeicdeeaa", sum := "90155e7b7e9ae238d50ab61f51eb911b03a58985f1852e12a2d83e966bd5e1b6", func := "loop.example/lib-g03227/laws.FnSqrtBack", spec := "fnSqrtBack", inPlace := ["math.sqrt", "math.Float64bits", "math.Float64frombits", "math.archHypot"], apart := false }
def FnSqrtBackSaid : Prop := fnSqrtBackRow.holds Try.pinned (OpenSpec.ofChange fnSqrtBackSpec)

/-- ITS FALSE NEIGHBOUR: 'it returns false'. Refute it at one input. -/
def fnSqrtBackWrong : ChangeSpec := { name := "fnSqrtBack", fn := fun _ => fun
  | [d1, d2] => { results := [.lit (.bool false)], args := [d1, d2] }
  | _ => none }
def FnSqrtBackWrongFalsely : Prop := fnSqrtBackRow.holds Try.pinned (OpenSpec.ofChange fnSqrtBackWrong)

/-- 'laws.FnSqrtQuarter': WHATEVER THE INPUT: true; the input reads as it did. -/
def fnSqrtQuarterSpec : ChangeSpec := { name := "fnSqrtQuarter", fn := fun _ => fun
  | [d1, d2, d3] => { results := [.lit (.bool true)], args := [d1, d2, d3] }
  | _ => none }
def fnSqrtQuarterRow : OpenClaim := { program := "ytojjlkmeicdeeaa", sum := "90155e7b7e9ae238d50ab61f51eb911b03a58985f1852e12a2d83e966bd5e1b6", func := "loop.example/lib-g03227/laws.FnSqrtQuarter", spec := "fnSqrtQuarter", inPlace := ["math.sqrt", "math.Float64bits", "math.Float64frombits", "math.archHypot"], apart := false }
def FnSqrtQuarterSaid : Prop := fnSqrtQuarterRow.holds Try.pinned (OpenSpec.ofChange fnSqrtQuarterSpec)

/-- ITS FALSE NEIGHBOUR: 'it returns false'. Refute it at one input. -/
def fnSqrtQuarterWrong : ChangeSpec := { name := "fnSqrtQuarter", fn := fun _ => fun
  | [d1, d2, d3] => { results := [.lit (.bool false)], args := [d1, d2, d3] }
  | _ => none }
def FnSqrtQuarterWrongFalsely : Prop := fnSqrtQuarterRow.holds Try.pinned (OpenSpec.ofChange fnSqrtQuarterWrong)

/-- 'laws.FnSqrtSigns': WHATEVER THE INPUT: true; the input reads as it did. -/
def fnSqrtSignsSpec : ChangeSpec := { name := "fnSqrtSigns", fn := fun _ => fun
  | [d1, d2] => { results := [.lit (.bool true)], args := [d1, d2] }
  | _ => none }
def fnSqrtSignsRow : OpenClaim := { program := "ytojjlkmeicdeeaa", sum := "90155e7b7e9ae238d50ab61f51eb911b03a58985f1852e12a2d83e966bd5e1b6", func := "loop.example/lib-g03227/laws.FnSqrtSigns", spec := "fnSqrtSigns", inPlace := ["math.sqrt", "math.Float64bits", "math.Float64frombits", "math.archHypot"], apart := false }
def FnSqrtSignsSaid : Prop := fnSqrtSignsRow.holds Try.pinned (OpenSpec.ofChange fnSqrtSignsSpec)

/-- ITS FALSE NEIGHBOUR: 'it returns false'. Refute it at one input. -/
def fnSqrtSignsWrong : ChangeSpec := { name := "fnSqrtSigns", fn := fun _ => fun
  | [d1, d2] => { results := [.lit (.bool false)], args := [d1, d2] }
  | _ => none }
def FnSqrtSignsWrongFalsely : Prop := fnSqrtSignsRow.holds Try.pinned (OpenSpec.ofChange fnSqrtSignsWrong)

/-- 'laws.FnSqrtSquare': WHATEVER THE INPUT: true; the input reads as it did. -/
def fnSqrtSquareSpec : ChangeSpec := { name := "fnSqrtSquare", fn := fun _ => fun
  | [d1, d2] => { results := [.lit (.bool true)], args := [d1, d2] }
  | _ => none }
def fnSqrtSquareRow : OpenClaim := { program := "ytojjlkmeicdeeaa", sum := "90155e7b7e9ae238d50ab61f51eb911b03a58985f1852e12a2d83e966bd5e1b6", func := "loop.example/lib-g03227/laws.FnSqrtSquare", spec := "fnSqrtSquare", inPlace := ["math.sqrt", "math.Float64bits", "math.Float64frombits", "math.archHypot"], apart := false }
def FnSqrtSquareSaid : Prop := fnSqrtSquareRow.holds Try.pinned (OpenSpec.ofChange fnSqrtSquareSpec)

/-- ITS FALSE NEIGHBOUR: 'it returns false'. Refute it at one input. -/
def fnSqrtSquareWrong : ChangeSpec := { name := "fnSqrtSquare", fn := fun _ => fun
  | [d1, d2] => { results := [.lit (.bool false)], args := [d1, d2] }
  | _ => none }
def FnSqrtSquareWrongFalsely : Prop := fnSqrtSquareRow.holds Try.pinned (OpenSpec.ofChange fnSqrtSquareWrong)

/-- 'laws.FnSqrtReal': WHATEVER THE INPUT: true; the input reads as it did. -/
def fnSqrtRealSpec : ChangeSpec := { name := "fnSqrtReal", fn := fun _ => fun
  | [d1, d2] => { results := [.lit (.bool true)], args := [d1, d2] }
  | _ => none }
def fnSqrtRealRow : OpenClaim := { program := "ytojjlkmeicdeeaa", sum := "90155e7b7e9ae238d50ab61f51eb911b03a58985f1852e12a2d83e966bd5e1b6", func := "loop.example/lib-g03227/laws.FnSqrtReal", spec := "fnSqrtReal", inPlace := ["math.sqrt", "math.Float64bits", "math.Float64frombits", "math.archHypot"], apart := false }
def FnSqrtRealSaid : Prop := fnSqrtRealRow.holds Try.pinned (OpenSpec.ofChange fnSqrtRealSpec)

/-- ITS FALSE NEIGHBOUR: 'it returns false'. Refute it at one input. -/
def fnSqrtRealWrong : ChangeSpec := { name := "fnSqrtReal", fn := fun _ => fun
  | [d1, d2] => { results := [.lit (.bool false)], args := [d1, d2] }
  | _ => none }
def FnSqrtRealWrongFalsely : Prop := fnSqrtRealRow.holds Try.pinned (OpenSpec.ofChange fnSqrtRealWrong)

/-- 'laws.FnRealLog': WHATEVER THE INPUT: true; the input reads as it did. -/
def fnRealLogSpec : ChangeSpec := { name := "fnRealLog", fn := fun _ => fun
  | [d] => { results := [.lit (.bool true)], args := [d] }
  | _ => none }
def fnRealLogRow : OpenClaim := { program := "ytojjlkmeicdeeaa", sum := "90155e7b7e9ae238d50ab61f51eb911b03a58985f1852e12a2d83e966bd5e1b6", func := "loop.example/lib-g03227/laws.FnRealLog", spec := "fnRealLog", inPlace := ["math.archLog", "math.Float64bits", "math.Float64frombits"], apart := false }
def FnRealLogSaid : Prop := fnRealLogRow.holds Try.pinned (OpenSpec.ofChange fnRealLogSpec)

/-- ITS FALSE NEIGHBOUR: 'it returns false'. Refute it at one input. -/
def fnRealLogWrong : ChangeSpec := { name := "fnRealLog", fn := fun _ => fun
  | [d] => { results := [.lit (.bool false)], args := [d] }
  | _ => none }
def FnRealLogWrongFalsely : Prop := fnRealLogRow.holds Try.pinned (OpenSpec.ofChange fnRealLogWrong)

/- THE SECOND FORM. 'bulk': how many values and letters a reading holds, each counted each time it is reached (what is shared counts as often as it is met; a slice's spare places count too). A statement '..UptoSaid' is the law's where the arguments, and the package variables that the reading takes, are together of bulk at most 1048576: NARROWER than '..Said'. Prove '..Said' where nothing that the law and all that it calls make is longer than what came in: it says more and counts as full. Else prove '..UptoSaid'. A law counts once. -/
mutual
def uptoBulk {H : Type} : DataW H → Nat
  | .lit (.string bytes) => bytes.length + 1
  | .lit _ => 1
  | .nil => 1
  | .ptr d => uptoBulk d + 1
  | .slice elems spare => uptoBulkAll elems + uptoBulkAll spare + 1
  | .agg parts => uptoBulkAll parts + 1
  | .iface _ d => uptoBulk d + 1
  | .map entries => uptoBulkEntries entries + 1
  | .held _ => 1
def uptoBulkAll {H : Type} : List (DataW H) → Nat
  | [] => 0
  | d :: r => uptoBulk d + uptoBulkAll r
def uptoBulkEntries {H : Type} : List (Lit × DataW H) → Nat
  | [] => 0
  | x :: r => uptoBulkEntry x + uptoBulkEntries r
def uptoBulkEntry {H : Type} : Lit × DataW H → Nat
  | (.string bytes, d) => bytes.length + uptoBulk d + 1
  | (_, d) => uptoBulk d + 1
 end
def uptoSmall : (H : Type) → List (DataW H) → Bool := fun _ ds => decide (uptoBulkAll ds ≤ 1048576)
def OpenSpec.upto (s : _root_.Go.ChangeSpec) : _root_.Go.OpenSpec := { _root_.Go.OpenSpec.ofChange s with cond := some uptoSmall }

/-- 'laws.FnKinds', WHERE WHAT IT READS IS OF BULK AT MOST 1048576: true; the input reads as it did. -/
def fnKindsUptoRow : OpenClaim := { program := "ytojjlkmeicdeeaa", sum := "90155e7b7e9ae238d50ab61f51eb911b03a58985f1852e12a2d83e966bd5e1b6", func := "loop.example/lib-g03227/laws.FnKinds", spec := "fnKinds", inPlace := ["math.Float64bits", "math.Float64frombits", "math.archHypot", "math.sqrt"], apart := false, narrowed := true }
def FnKindsUptoSaid : Prop := fnKindsUptoRow.holds Try.pinned (OpenSpec.upto fnKindsSpec)

/-- 'laws.FnConjTwice', WHERE WHAT IT READS IS OF BULK AT MOST 1048576: true; the input reads as it did. -/
def fnConjTwiceUptoRow : OpenClaim := { program := "ytojjlkmeicdeeaa", sum := "90155e7b7e9ae238d50ab61f51eb911b03a58985f1852e12a2d83e966bd5e1b6", func := "loop.example/lib-g03227/laws.FnConjTwice", spec := "fnConjTwice", inPlace := ["math.Float64bits", "math.Float64frombits", "math.archHypot", "math.sqrt"], apart := false, narrowed := true }
def FnConjTwiceUptoSaid : Prop := fnConjTwiceUptoRow.holds Try.pinned (OpenSpec.upto fnConjTwiceSpec)

/-- 'laws.FnAbsScaled', WHERE WHAT IT READS IS OF BULK AT MOST 1048576: true; the input reads as it did. -/
def fnAbsScaledUptoRow : OpenClaim := { program := "ytojjlkmeicdeeaa", sum := "90155e7b7e9ae238d50ab61f51eb911b03a58985f1852e12a2d83e966bd5e1b6", func := "loop.example/lib-g03227/laws.FnAbsScaled", spec := "fnAbsScaled", inPlace := ["math.archHypot", "math.Float64bits", "math.Float64frombits", "math.sqrt"], apart := false, narrowed := true }
def FnAbsScaledUptoSaid : Prop := fnAbsScaledUptoRow.holds Try.pinned (OpenSpec.upto fnAbsScaledSpec)

/-- 'laws.FnAbsSquare', WHERE WHAT IT READS IS OF BULK AT MOST 1048576: true; the input reads as it did. -/
def fnAbsSquareUptoRow : OpenClaim := { program := "ytojjlkmeicdeeaa", sum := "90155e7b7e9ae238d50ab61f51eb911b03a58985f1852e12a2d83e966bd5e1b6", func := "loop.example/lib-g03227/laws.FnAbsSquare", spec := "fnAbsSquare", inPlace := ["math.archHypot", "math.Float64bits", "math.Float64frombits", "math.sqrt"], apart := false, narrowed := true }
def FnAbsSquareUptoSaid : Prop := fnAbsSquareUptoRow.holds Try.pinned (OpenSpec.upto fnAbsSquareSpec)

/-- 'laws.FnAbsTriple', WHERE WHAT IT READS IS OF BULK AT MOST 1048576: true; the input reads as it did. -/
def fnAbsTripleUptoRow : OpenClaim := { program := "ytojjlkmeicdeeaa", sum := "90155e7b7e9ae238d50ab61f51eb911b03a58985f1852e12a2d83e966bd5e1b6", func := "loop.example/lib-g03227/laws.FnAbsTriple", spec := "fnAbsTriple", inPlace := ["math.archHypot", "math.Float64bits", "math.Float64frombits", "math.sqrt"], apart := false, narrowed := true }
def FnAbsTripleUptoSaid : Prop := fnAbsTripleUptoRow.holds Try.pinned (OpenSpec.upto fnAbsTripleSpec)

/-- 'laws.FnSqrt', WHERE WHAT IT READS IS OF BULK AT MOST 1048576: true; the input reads as it did. -/
def fnSqrtUptoRow : OpenClaim := { program := "ytojjlkmeicdeeaa", sum := "90155e7b7e9ae238d50ab61f51eb911b03a58985f1852e12a2d83e966bd5e1b6", func := "loop.example/lib-g03227/laws.FnSqrt", spec := "fnSqrt", inPlace := ["math.sqrt", "math.Float64bits", "math.Float64frombits", "math.archHypot"], apart := false, narrowed := true }
def FnSqrtUptoSaid : Prop := fnSqrtUptoRow.holds Try.pinned (OpenSpec.upto fnSqrtSpec)

/-- 'laws.FnSqrtBack', WHERE WHAT IT READS IS OF BULK AT MOST 1048576: true; the input reads as it did. -/
def fnSqrtBackUptoRow : OpenClaim := { program := "ytojjlkmeicdeeaa", sum := "90155e7b7e9ae238d50ab61f51eb911b03a58985f1852e12a2d83e966bd5e1b6", func := "loop.example/lib-g03227/laws.FnSqrtBack", spec := "fnSqrtBack", inPlace := ["math.sqrt", "math.Float64bits", "math.Float64frombits", "math.archHypot"], apart := false, narrowed := true }
def FnSqrtBackUptoSaid : Prop := fnSqrtBackUptoRow.holds Try.pinned (OpenSpec.upto fnSqrtBackSpec)

/-- 'laws.FnSqrtQuarter', WHERE WHAT IT READS IS OF BULK AT MOST 1048576: true; the input reads as it did. -/
def fnSqrtQuarterUptoRow : OpenClaim := { program := "ytojjlkmeicdeeaa", sum := "90155e7b7e9ae238d50ab61f51eb911b03a58985f1852e12a2d83e966bd5e1b6", func := "loop.example/lib-g03227/laws.FnSqrtQuarter", spec := "fnSqrtQuarter", inPlace := ["math.sqrt", "math.Float64bits", "math.Float64frombits", "math.archHypot"], apart := false, narrowed := true }
def FnSqrtQuarterUptoSaid : Prop := fnSqrtQuarterUptoRow.holds Try.pinned (OpenSpec.upto fnSqrtQuarterSpec)

/-- 'laws.FnSqrtSigns', WHERE WHAT IT READS IS OF BULK AT MOST 1048576: true; the input reads as it did. -/
def fnSqrtSignsUptoRow : OpenClaim := { program := "ytojjlkmeicdeeaa", sum := "90155e7b7e9ae238d50ab61f51eb911b03a58985f1852e12a2d83e966bd5e1b6", func := "loop.example/lib-g03227/laws.FnSqrtSigns", spec := "fnSqrtSigns", inPlace := ["math.sqrt", "math.Float64bits", "math.Float64frombits", "math.archHypot"], apart := false, narrowed := true }
def FnSqrtSignsUptoSaid : Prop := fnSqrtSignsUptoRow.holds Try.pinned (OpenSpec.upto fnSqrtSignsSpec)

/-- 'laws.FnSqrtSquare', WHERE WHAT IT READS IS OF BULK AT MOST 1048576: true; the input reads as it did. -/
def fnSqrtSquareUptoRow : OpenClaim := { program := "ytojjlkmeicdeeaa", sum := "90155e7b7e9ae238d50ab61f51eb911b03a58985f1852e12a2d83e966bd5e1b6", func := "loop.example/lib-g03227/laws.FnSqrtSquare", spec := "fnSqrtSquare", inPlace := ["math.sqrt", "math.Float64bits", "math.Float64frombits", "math.archHypot"], apart := false, narrowed := true }
def FnSqrtSquareUptoSaid : Prop := fnSqrtSquareUptoRow.holds Try.pinned (OpenSpec.upto fnSqrtSquareSpec)

/-- 'laws.FnSqrtReal', WHERE WHAT IT READS IS OF BULK AT MOST 1048576: true; the input reads as it did. -/
def fnSqrtRealUptoRow : OpenClaim := { program := "ytojjlkmeicdeeaa", sum := "90155e7b7e9ae238d50ab61f51eb911b03a58985f1852e12a2d83e966bd5e1b6", func := "loop.example/lib-g03227/laws.FnSqrtReal", spec := "fnSqrtReal", inPlace := ["math.sqrt", "math.Float64bits", "math.Float64frombits", "math.archHypot"], apart := false, narrowed := true }
def FnSqrtRealUptoSaid : Prop := fnSqrtRealUptoRow.holds Try.pinned (OpenSpec.upto fnSqrtRealSpec)

/-- 'laws.FnRealLog', WHERE WHAT IT READS IS OF BULK AT MOST 1048576: true; the input reads as it did. -/
def fnRealLogUptoRow : OpenClaim := { program := "ytojjlkmeicdeeaa", sum := "90155e7b7e9ae238d50ab61f51eb911b03a58985f1852e12a2d83e966bd5e1b6", func := "loop.example/lib-g03227/laws.FnRealLog", spec := "fnRealLog", inPlace := ["math.archLog", "math.Float64bits", "math.Float64frombits"], apart := false, narrowed := true }
def FnRealLogUptoSaid : Prop := fnRealLogUptoRow.holds Try.pinned (OpenSpec.upto fnRealLogSpec)

end Rows
end Go.Proofs.Ytojjlkmeicdeeaa
