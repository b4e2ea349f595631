/-
  No cell of these rows narrows 'for every input' (looked for: loops, veiled, ifaces, maps, wideKeys, modest, calm, conditions, laid).
  DERIVED. THE GIVEN ROWS OF THIS SEAT. 10 by the template 'for every input the law returns true; each argument reads behind the call as it read before'; 0 by the template 'total and deterministic' (their statements: YtnfidnfokfgepaaTotals.lean).
  GIVEN WITH THE SEED: the statements are not yours to turn. If you find one false, say at which input.
  Laid BY PROGRAM, IN A SANDBOX (cutbox-rows.mjs): the forced cells as the released guide's own fill.sh prints them over the translation cb0c37d3cf16156e… (all of the seat's roots in one cut). By AI agents, Wed Nov 11 2026. No macro, syntax, notation, axiom, sorry.
-/
import Derived.Test.YtnfidnfokfgepaaChecked
import GoSem.Claim
import GoSem.ClaimJoined
import GoSem.ClaimMapViews
import Derived.JoinedTies
import Derived.KernelRfl
namespace Go.Proofs.Ytnfidnfokfgepaa
/- THE CELL 'sum', in the pinned program and in every row, IS THE sha256 OF THE DUMP (.gsa) THAT YtnfidnfokfgepaaProg.lean LOADS. Nothing in Lean hashes anything: it is a label: what it is worth is what the hold of that sum in a sandbox is worth. -/
noncomputable def Try.pinned : Pinned := { name := "ytnfidnfokfgepaa", sum := "cb0c37d3cf16156ed6dc283f3e7f4ac8ef243bf88f7d304cb74dfed92bd1a752", checked := Try.checked }
namespace Rows
def none {H : Type} : Left H := { results := [], args := [] }

/-- 'laws.FnLogOne': WHATEVER THE INPUT: true; the input reads as it did. -/
def fnLogOneSpec : ChangeSpec := { name := "fnLogOne", fn := fun _ => fun
  | [d] => { results := [.lit (.bool true)], args := [d] }
  | _ => none }
def fnLogOneRow : OpenClaim := { program := "ytnfidnfokfgepaa", sum := "cb0c37d3cf16156ed6dc283f3e7f4ac8ef243bf88f7d304cb74dfed92bd1a752", func := "loop.example/lib-g03227/laws.FnLogOne", spec := "fnLogOne", inPlace := ["math.archHypot", "math.Float64bits", "math.Float64frombits", "math.sqrt", "math.archLog"], apart := false }
def FnLogOneSaid : Prop := fnLogOneRow.holds Try.pinned (OpenSpec.ofChange fnLogOneSpec)

/-- ITS FALSE NEIGHBOUR: 'it returns false'. Refute it at one input. -/
def fnLogOneWrong : ChangeSpec := { name := "fnLogOne", fn := fun _ => fun
  | [d] => { results := [.lit (.bool false)], args := [d] }
  | _ => none }
def FnLogOneWrongFalsely : Prop := fnLogOneRow.holds Try.pinned (OpenSpec.ofChange fnLogOneWrong)

/-- 'laws.FnLogReal': WHATEVER THE INPUT: true; the input reads as it did. -/
def fnLogRealSpec : ChangeSpec := { name := "fnLogReal", fn := fun _ => fun
  | [d1, d2] => { results := [.lit (.bool true)], args := [d1, d2] }
  | _ => none }
def fnLogRealRow : OpenClaim := { program := "ytnfidnfokfgepaa", sum := "cb0c37d3cf16156ed6dc283f3e7f4ac8ef243bf88f7d304cb74dfed92bd1a752", func := "loop.example/lib-g03227/laws.FnLogReal", spec := "fnLogReal", inPlace := ["math.archHypot", "math.Float64bits", "math.Float64frombits", "math.sqrt", "math.archLog"], apart := false }
def FnLogRealSaid : Prop := fnLogRealRow.holds Try.pinned (OpenSpec.ofChange fnLogRealSpec)

/-- ITS FALSE NEIGHBOUR: 'it returns false'. Refute it at one input. -/
def fnLogRealWrong : ChangeSpec := { name := "fnLogReal", fn := fun _ => fun
  | [d1, d2] => { results := [.lit (.bool false)], args := [d1, d2] }
  | _ => none }
def FnLogRealWrongFalsely : Prop := fnLogRealRow.holds Try.pinned (OpenSpec.ofChange fnLogRealWrong)

/-- 'laws.FnLogParts': WHATEVER THE INPUT: true; the input reads as it did. -/
def fnLogPartsSpec : ChangeSpec := { name := "fnLogParts", fn := fun _ => fun
  | [d1, d2] => { results := [.lit (.bool true)], args := [d1, d2] }
  | _ => none }
def fnLogPartsRow : OpenClaim := { program := "ytnfidnfokfgepaa", sum := "cb0c37d3cf16156ed6dc283f3e7f4ac8ef243bf88f7d304cb74dfed92bd1a752", func := "loop.example/lib-g03227/laws.FnLogParts", spec := "fnLogParts", inPlace := ["math.archHypot", "math.Float64bits", "math.Float64frombits", "math.sqrt", "math.archLog"], apart := false }
def FnLogPartsSaid : Prop := fnLogPartsRow.holds Try.pinned (OpenSpec.ofChange fnLogPartsSpec)

/-- ITS FALSE NEIGHBOUR: 'it returns false'. Refute it at one input. -/
def fnLogPartsWrong : ChangeSpec := { name := "fnLogParts", fn := fun _ => fun
  | [d1, d2] => { results := [.lit (.bool false)], args := [d1, d2] }
  | _ => none }
def FnLogPartsWrongFalsely : Prop := fnLogPartsRow.holds Try.pinned (OpenSpec.ofChange fnLogPartsWrong)

/-- 'laws.FnPhase': WHATEVER THE INPUT: true; the input reads as it did. -/
def fnPhaseSpec : ChangeSpec := { name := "fnPhase", fn := fun _ => fun
  | [d1, d2] => { results := [.lit (.bool true)], args := [d1, d2] }
  | _ => none }
def fnPhaseRow : OpenClaim := { program := "ytnfidnfokfgepaa", sum := "cb0c37d3cf16156ed6dc283f3e7f4ac8ef243bf88f7d304cb74dfed92bd1a752", func := "loop.example/lib-g03227/laws.FnPhase", spec := "fnPhase", inPlace := ["math.Float64frombits", "math.Float64bits"], apart := false }
def FnPhaseSaid : Prop := fnPhaseRow.holds Try.pinned (OpenSpec.ofChange fnPhaseSpec)

/-- ITS FALSE NEIGHBOUR: 'it returns false'. Refute it at one input. -/
def fnPhaseWrong : ChangeSpec := { name := "fnPhase", fn := fun _ => fun
  | [d1, d2] => { results := [.lit (.bool false)], args := [d1, d2] }
  | _ => none }
def FnPhaseWrongFalsely : Prop := fnPhaseRow.holds Try.pinned (OpenSpec.ofChange fnPhaseWrong)

/-- 'laws.FnDiagonal': WHATEVER THE INPUT: true; the input reads as it did. -/
def fnDiagonalSpec : ChangeSpec := { name := "fnDiagonal", fn := fun _ => fun
  | [d1, d2] => { results := [.lit (.bool true)], args := [d1, d2] }
  | _ => none }
def fnDiagonalRow : OpenClaim := { program := "ytnfidnfokfgepaa", sum := "cb0c37d3cf16156ed6dc283f3e7f4ac8ef243bf88f7d304cb74dfed92bd1a752", func := "loop.example/lib-g03227/laws.FnDiagonal", spec := "fnDiagonal", inPlace := ["math.archHypot", "math.Float64bits", "math.Float64frombits", "math.sqrt"], apart := false }
def FnDiagonalSaid : Prop := fnDiagonalRow.holds Try.pinned (OpenSpec.ofChange fnDiagonalSpec)

/-- ITS FALSE NEIGHBOUR: 'it returns false'. Refute it at one input. -/
def fnDiagonalWrong : ChangeSpec := { name := "fnDiagonal", fn := fun _ => fun
  | [d1, d2] => { results := [.lit (.bool false)], args := [d1, d2] }
  | _ => none }
def FnDiagonalWrongFalsely : Prop := fnDiagonalRow.holds Try.pinned (OpenSpec.ofChange fnDiagonalWrong)

/-- 'laws.FnPolar': WHATEVER THE INPUT: true; the input reads as it did. -/
def fnPolarSpec : ChangeSpec := { name := "fnPolar", fn := fun _ => fun
  | [d1, d2] => { results := [.lit (.bool true)], args := [d1, d2] }
  | _ => none }
def fnPolarRow : OpenClaim := { program := "ytnfidnfokfgepaa", sum := "cb0c37d3cf16156ed6dc283f3e7f4ac8ef243bf88f7d304cb74dfed92bd1a752", func := "loop.example/lib-g03227/laws.FnPolar", spec := "fnPolar", inPlace := ["math.archHypot", "math.Float64bits", "math.Float64frombits", "math.sqrt"], apart := false }
def FnPolarSaid : Prop := fnPolarRow.holds Try.pinned (OpenSpec.ofChange fnPolarSpec)

/-- ITS FALSE NEIGHBOUR: 'it returns false'. Refute it at one input. -/
def fnPolarWrong : ChangeSpec := { name := "fnPolar", fn := fun _ => fun
  | [d1, d2] => { results := [.lit (.bool false)], args := [d1, d2] }
  | _ => none }
def FnPolarWrongFalsely : Prop := fnPolarRow.holds Try.pinned (OpenSpec.ofChange fnPolarWrong)

/-- 'laws.FnPolarSides': WHATEVER THE INPUT: true; the input reads as it did. -/
def fnPolarSidesSpec : ChangeSpec := { name := "fnPolarSides", fn := fun _ => fun
  | [d1, d2] => { results := [.lit (.bool true)], args := [d1, d2] }
  | _ => none }
def fnPolarSidesRow : OpenClaim := { program := "ytnfidnfokfgepaa", sum := "cb0c37d3cf16156ed6dc283f3e7f4ac8ef243bf88f7d304cb74dfed92bd1a752", func := "loop.example/lib-g03227/laws.FnPolarSides", spec := "fnPolarSides", inPlace := ["math.archHypot", "math.Float64bits", "math.Float64frombits", "math.sqrt"], apart := false }
def FnPolarSidesSaid : Prop := fnPolarSidesRow.holds Try.pinned (OpenSpec.ofChange fnPolarSidesSpec)

/-- ITS FALSE NEIGHBOUR: 'it returns false'. Refute it at one input. -/
def fnPolarSidesWrong : ChangeSpec := { name := "fnPolarSides", fn := fun _ => fun
  | [d1, d2] => { results := [.lit (.bool false)], args := [d1, d2] }
  | _ => none }
def FnPolarSidesWrongFalsely : Prop := fnPolarSidesRow.holds Try.pinned (OpenSpec.ofChange fnPolarSidesWrong)

/-- 'laws.FnPolarParts': WHATEVER THE INPUT: true; the input reads as it did. -/
def fnPolarPartsSpec : ChangeSpec := { name := "fnPolarParts", fn := fun _ => fun
  | [d1, d2] => { results := [.lit (.bool true)], args := [d1, d2] }
  | _ => none }
def fnPolarPartsRow : OpenClaim := { program := "ytnfidnfokfgepaa", sum := "cb0c37d3cf16156ed6dc283f3e7f4ac8ef243bf88f7d304cb74dfed92bd1a752", func := "loop.example/lib-g03227/laws.FnPolarParts", spec := "fnPolarParts", inPlace := ["math.archHypot", "math.Float64bits", "math.Float64frombits", "math.sqrt"], apart := false }
def FnPolarPartsSaid : Prop := fnPolarPartsRow.holds Try.pinned (OpenSpec.ofChange fnPolarPartsSpec)

/-- ITS FALSE NEIGHBOUR: 'it returns false'. Refute it at one input. -/
def fnPolarPartsWrong : ChangeSpec := { name := "fnPolarParts", fn := fun _ => fun
  | [d1, d2] => { results := [.lit (.bool false)], args := [d1, d2] }
  | _ => none }
def FnPolarPartsWrongFalsely : Prop := fnPolarPartsRow.holds Try.pinned (OpenSpec.ofChange fnPolarPartsWrong)

/-- 'laws.FnPolarPhase': WHATEVER THE INPUT: true; the input reads as it did. -/
def fnPolarPhaseSpec : ChangeSpec := { name := "fnPolarPhase", fn := fun _ => fun
  | [d1, d2] => { results := [.lit (.bool true)], args := [d1, d2] }
  | _ => none }
def fnPolarPhaseRow : OpenClaim := { program := "ytnfidnfokfgepaa", sum := "cb0c37d3cf16156ed6dc283f3e7f4ac8ef243bf88f7d304cb74dfed92bd1a752", func := "loop.example/lib-g03227/laws.FnPolarPhase", spec := "fnPolarPhase", inPlace := ["math.archHypot", "math.Float64bits", "math.Float64frombits", "math.sqrt"], apart := false }
def FnPolarPhaseSaid : Prop := fnPolarPhaseRow.holds Try.pinned (OpenSpec.ofChange fnPolarPhaseSpec)

/-- ITS FALSE NEIGHBOUR: 'it returns false'. Refute it at one input. -/
def fnPolarPhaseWrong : ChangeSpec := { name := "fnPolarPhase", fn := fun _ => fun
  | [d1, d2] => { results := [.lit (.bool false)], args := [d1, d2] }
  | _ => none }
def FnPolarPhaseWrongFalsely : Prop := fnPolarPhaseRow.holds Try.pinned (OpenSpec.ofChange fnPolarPhaseWrong)

/-- 'laws.FnLog': WHATEVER THE INPUT: true; the input reads as it did. -/
def fnLogSpec : ChangeSpec := { name := "fnLog", fn := fun _ => fun
  | [d1, d2] => { results := [.lit (.bool true)], args := [d1, d2] }
  | _ => none }
def fnLogRow : OpenClaim := { program := "ytnfidnfokfgepaa", sum := "cb0c37d3cf16156ed6dc283f3e7f4ac8ef243bf88f7d304cb74dfed92bd1a752", func := "loop.example/lib-g03227/laws.FnLog", spec := "fnLog", inPlace := ["math.archHypot", "math.Float64bits", "math.Float64frombits", "math.sqrt", "math.archLog"], apart := false }
def FnLogSaid : Prop := fnLogRow.holds Try.pinned (OpenSpec.ofChange fnLogSpec)

/-- ITS FALSE NEIGHBOUR: 'it returns false'. Refute it at one input. -/
def fnLogWrong : ChangeSpec := { name := "fnLog", fn := fun _ => fun
  | [d1, d2] => { results := [.lit (.bool false)], args := [d1, d2] }
  | _ => none }
def FnLogWrongFalsely : Prop := fnLogRow.holds Try.pinned (OpenSpec.ofChange fnLogWrong)

/- THE SECOND FORM. 'bulk': how many values and letters a reading holds, each counted each time it is reached (what is shared counts as often as it is met; a slice's spare places count too). A statement '..UptoSaid' is the law's where the arguments, and the package variables that the reading takes, are together of bulk at most 1048576: NARROWER than '..Said'. Prove '..Said' where nothing that the law and all that it calls make is longer than what came in: it says more and counts as full. Else prove '..UptoSaid'. A law counts once. -/
mutual
def uptoBulk {H : Type} : DataW H → Nat
  | .lit (.string bytes) => bytes.length + 1
  | .lit _ => 1
  | .nil => 1
  | .ptr d => uptoBulk d + 1
  | .slice elems spare => uptoBulkAll elems + uptoBulkAll spare + 1
  | .agg parts => uptoBulkAll parts + 1
  | .iface _ d => uptoBulk d + 1
  | .map entries => uptoBulkEntries entries + 1
  | .held _ => 1
def uptoBulkAll {H : Type} : List (DataW H) → Nat
  | [] => 0
  | d :: r => uptoBulk d + uptoBulkAll r
def uptoBulkEntries {H : Type} : List (Lit × DataW H) → Nat
  | [] => 0
  | x :: r => uptoBulkEntry x + uptoBulkEntries r
def uptoBulkEntry {H : Type} : Lit × DataW H → Nat
  | (.string bytes, d) => bytes.length + uptoBulk d + 1
  | (_, d) => uptoBulk d + 1
 end
def uptoSmall : (H : Type) → List (DataW H) → Bool := fun _ ds => decide (uptoBulkAll ds ≤ 1048576)
def OpenSpec.upto (s : _root_.Go.ChangeSpec) : _root_.Go.OpenSpec := { _root_.Go.OpenSpec.ofChange s with cond := some uptoSmall }

/-- 'laws.FnLogOne', WHERE WHAT IT READS IS OF BULK AT MOST 1048576: true; the input reads as it did. -/
def fnLogOneUptoRow : OpenClaim := { program := "ytnfidnfokfgepaa", sum := "cb0c37d3cf16156ed6dc283f3e7f4ac8ef243bf88f7d304cb74dfed92bd1a752", func := "loop.example/lib-g03227/laws.FnLogOne", spec := "fnLogOne", inPlace := ["math.archHypot", "math.Float64bits", "math.Float64frombits", "math.sqrt", "math.archLog"], apart := false, narrowed := true }
def FnLogOneUptoSaid : Prop := fnLogOneUptoRow.holds Try.pinned (OpenSpec.upto fnLogOneSpec)

/-- 'laws.FnLogReal', WHERE WHAT IT READS IS OF BULK AT MOST 1048576: true; the input reads as it did. -/
def fnLogRealUptoRow : OpenClaim := { program := "ytnfidnfokfgepaa", sum := "cb0c37d3cf16156ed6dc283f3e7f4ac8ef243bf88f7d304cb74dfed92bd1a752", func := "loop.example/lib-g03227/laws.FnLogReal", spec := "fnLogReal", inPlace := ["math.archHypot", "math.Float64bits", "math.Float64frombits", "math.sqrt", "math.archLog"], apart := false, narrowed := true }
def FnLogRealUptoSaid : Prop := fnLogRealUptoRow.holds Try.pinned (OpenSpec.upto fnLogRealSpec)

/-- 'laws.FnLogParts', WHERE WHAT IT READS IS OF BULK AT MOST 1048576: true; the input reads as it did. -/
def fnLogPartsUptoRow : OpenClaim := { program := "ytnfidnfokfgepaa", sum := "cb0c37d3cf16156ed6dc283f3e7f4ac8ef243bf88f7d304cb74dfed92bd1a752", func := "loop.example/lib-g03227/laws.FnLogParts", spec := "fnLogParts", inPlace := ["math.archHypot", "math.Float64bits", "math.Float64frombits", "math.sqrt", "math.archLog"], apart := false, narrowed := true }
def FnLogPartsUptoSaid : Prop := fnLogPartsUptoRow.holds Try.pinned (OpenSpec.upto fnLogPartsSpec)

/-- 'laws.FnPhase', WHERE WHAT IT READS IS OF BULK AT MOST 1048576: true; the input reads as it did. -/
def fnPhaseUptoRow : OpenClaim := { program := "ytnfidnfokfgepaa", sum := "cb0c37d3cf16156ed6dc283f3e7f4ac8ef243bf88f7d304cb74dfed92bd1a752", func := "loop.example/lib-g03227/laws.FnPhase", spec := "fnPhase", inPlace := ["math.Float64frombits", "math.Float64bits"], apart := false, narrowed := true }
def FnPhaseUptoSaid : Prop := fnPhaseUptoRow.holds Try.pinned (OpenSpec.upto fnPhaseSpec)

/-- 'laws.FnDiagonal', WHERE WHAT IT READS IS OF BULK AT MOST 1048576: true; the input reads as it did. -/
def fnDiagonalUptoRow : OpenClaim := { program := "ytnfidnfokfgepaa", sum := "cb0c37d3cf16156ed6dc283f3e7f4ac8ef243bf88f7d304cb74dfed92bd1a752", func := "loop.example/lib-g03227/laws.FnDiagonal", spec := "fnDiagonal", inPlace := ["math.archHypot", "math.Float64bits", "math.Float64frombits", "math.sqrt"], apart := false, narrowed := true }
def FnDiagonalUptoSaid : Prop := fnDiagonalUptoRow.holds Try.pinned (OpenSpec.upto fnDiagonalSpec)

/-- 'laws.FnPolar', WHERE WHAT IT READS IS OF BULK AT MOST 1048576: true; the input reads as it did. -/
def fnPolarUptoRow : OpenClaim := { program := "ytnfidnfokfgepaa", sum := "cb0c37d3cf16156ed6dc283f3e7f4ac8ef243bf88f7d304cb74dfed92bd1a752", func := "loop.example/lib-g03227/laws.FnPolar", spec := "fnPolar", inPlace := ["math.archHypot", "math.Float64bits", "math.Float64frombits", "math.sqrt"], apart := false, narrowed := true }
def FnPolarUptoSaid : Prop := fnPolarUptoRow.holds Try.pinned (OpenSpec.upto fnPolarSpec)

/-- 'laws.FnPolarSides', WHERE WHAT IT READS IS OF BULK AT MOST 1048576: true; the input reads as it did. -/
def fnPolarSidesUptoRow : OpenClaim := { program := "ytnfidnfokfgepaa", sum := "cb0c37d3cf16156ed6dc283f3e7f4ac8ef243bf88f7d304cb74dfed92bd1a752", func := "loop.example/lib-g03227/laws.FnPolarSides", spec := "fnPolarSides", inPlace := ["math.archHypot", "math.Float64bits", "math.Float64frombits", "math.sqrt"], apart := false, narrowed := true }
def FnPolarSidesUptoSaid : Prop := fnPolarSidesUptoRow.holds Try.pinned (OpenSpec.upto fnPolarSidesSpec)

/-- 'laws.FnPolarParts', WHERE WHAT IT READS IS OF BULK AT MOST 1048576: true; the input reads as it did. -/
def fnPolarPartsUptoRow : OpenClaim := { program := "ytnfidnfokfgepaa", sum := "cb0c37d3cf16156ed6dc283f3e7f4ac8ef243bf88f7d304cb74dfed92bd1a752", func := "loop.example/lib-g03227/laws.FnPolarParts", spec := "fnPolarParts", inPlace := ["math.archHypot", "math.Float64bits", "math.Float64frombits", "math.sqrt"], apart := false, narrowed := true }
def FnPolarPartsUptoSaid : Prop := fnPolarPartsUptoRow.holds Try.pinned (OpenSpec.upto fnPolarPartsSpec)

/-- 'laws.FnPolarPhase', WHERE WHAT IT READS IS OF BULK AT MOST 1048576: true; the input reads as it did. -/
def fnPolarPhaseUptoRow : OpenClaim := { program := "ytnfidnfokfgepaa", sum := "cb0c37d3cf16156ed6dc283f3e7f4ac8ef243bf88f7d304cb74dfed92bd1a752", func := "loop.example/lib-g03227/laws.FnPolarPhase", spec := "fnPolarPhase", inPlace := ["math.archHypot", "math.Float64bits", "math.Float64frombits", "math.sqrt"], apart := false, narrowed := true }
def FnPolarPhaseUptoSaid : Prop := fnPolarPhaseUptoRow.holds Try.pinned (OpenSpec.upto fnPolarPhaseSpec)

/-- 'laws.FnLog', WHERE WHAT IT READS IS OF BULK AT MOST 1048576: true; the input reads as it did. -/
def fnLogUptoRow : OpenClaim := { program := "ytnfidnfokfgepaa", sum := "cb0c37d3cf16156ed6dc283f3e7f4ac8ef243bf88f7d304cb74dfed92bd1a752", func := "loop.example/lib-g03227/laws.FnLog", spec := "fnLog", inPlace := ["math.archHypot", "math.Float64bits", "math.Float64frombits", "math.sqrt", "math.archLog"], apart := false, narrowed := true }
def FnLogUptoSaid : Prop := fnLogUptoRow.holds Try.pinned (OpenSpec.upto fnLogSpec)

end Rows
end Go.Proofs.Ytnfidnfokfgepaa
