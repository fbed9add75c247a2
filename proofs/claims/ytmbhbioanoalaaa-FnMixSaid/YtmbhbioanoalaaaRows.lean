/-
  No cell of these rows narrows 'for every input' (looked for: loops, veiled, ifaces, maps, wideKeys, modest, calm, conditions, laid).
  DERIVED. THE GIVEN ROWS OF THIS SEAT. 10 by the template 'for every input the law returns true; each argument reads behind the call as it read before'; 0 by the template 'total and deterministic' (their statements: YtmbhbioanoalaaaTotals.lean).
  GIVEN WITH THE SEED: the statements are not yours to turn. If you find one false, say at which input.
  Laid BY PROGRAM, IN A SANDBOX (cutbox-rows.mjs): the forced cells as the released guide's own fill.sh prints them over the translation 9ddec191df05491e… (all of the seat's roots in one cut). By AI agents, Wed Nov 11 2026. No macro, syntax, notation, axiom, sorry.
-/
import Derived.Test.YtmbhbioanoalaaaChecked
import GoSem.Claim
import GoSem.ClaimJoined
import GoSem.ClaimMapViews
import Derived.JoinedTies
import Derived.KernelRfl
namespace Go.Proofs.Ytmbhbioanoalaaa
/- THE CELL 'sum', in the pinned program and in every row, IS THE sha256 OF THE DUMP (.gsa) THAT YtmbhbioanoalaaaProg.lean LOADS. Nothing in Lean hashes anything: it is a label: what it is worth is what the hold of that sum in a sandbox is worth. -/
noncomputable def Try.pinned : Pinned := { name := "ytmbhbioanoalaaa", sum := "9ddec191df05491ea9d0f556ec6da1f7060743e4dbdaceb5b1d95e2bf45481dd", checked := Try.checked }
namespace Rows
def none {H : Type} : Left H := { results := [], args := [] }

/-- 'laws.FnLargest': WHATEVER THE INPUT: true; the input reads as it did. -/
def fnLargestSpec : ChangeSpec := { name := "fnLargest", fn := fun _ => fun
  | [d1, d2, d3] => { results := [.lit (.bool true)], args := [d1, d2, d3] }
  | _ => none }
def fnLargestRow : OpenClaim := { program := "ytmbhbioanoalaaa", sum := "9ddec191df05491ea9d0f556ec6da1f7060743e4dbdaceb5b1d95e2bf45481dd", func := "loop.example/pub-g01479/laws.FnLargest", spec := "fnLargest", apart := false }
def FnLargestSaid : Prop := fnLargestRow.holds Try.pinned (OpenSpec.ofChange fnLargestSpec)

/-- ITS FALSE NEIGHBOUR: 'it returns false'. Refute it at one input. -/
def fnLargestWrong : ChangeSpec := { name := "fnLargest", fn := fun _ => fun
  | [d1, d2, d3] => { results := [.lit (.bool false)], args := [d1, d2, d3] }
  | _ => none }
def FnLargestWrongFalsely : Prop := fnLargestRow.holds Try.pinned (OpenSpec.ofChange fnLargestWrong)

/-- 'laws.FnSmallest': WHATEVER THE INPUT: true; the input reads as it did. -/
def fnSmallestSpec : ChangeSpec := { name := "fnSmallest", fn := fun _ => fun
  | [d1, d2, d3] => { results := [.lit (.bool true)], args := [d1, d2, d3] }
  | _ => none }
def fnSmallestRow : OpenClaim := { program := "ytmbhbioanoalaaa", sum := "9ddec191df05491ea9d0f556ec6da1f7060743e4dbdaceb5b1d95e2bf45481dd", func := "loop.example/pub-g01479/laws.FnSmallest", spec := "fnSmallest", apart := false }
def FnSmallestSaid : Prop := fnSmallestRow.holds Try.pinned (OpenSpec.ofChange fnSmallestSpec)

/-- ITS FALSE NEIGHBOUR: 'it returns false'. Refute it at one input. -/
def fnSmallestWrong : ChangeSpec := { name := "fnSmallest", fn := fun _ => fun
  | [d1, d2, d3] => { results := [.lit (.bool false)], args := [d1, d2, d3] }
  | _ => none }
def FnSmallestWrongFalsely : Prop := fnSmallestRow.holds Try.pinned (OpenSpec.ofChange fnSmallestWrong)

/-- 'laws.FnMul128': WHATEVER THE INPUT: true; the input reads as it did. -/
def fnMul128Spec : ChangeSpec := { name := "fnMul128", fn := fun _ => fun
  | [d1, d2] => { results := [.lit (.bool true)], args := [d1, d2] }
  | _ => none }
def fnMul128Row : OpenClaim := { program := "ytmbhbioanoalaaa", sum := "9ddec191df05491ea9d0f556ec6da1f7060743e4dbdaceb5b1d95e2bf45481dd", func := "loop.example/pub-g01479/laws.FnMul128", spec := "fnMul128", apart := false }
def FnMul128Said : Prop := fnMul128Row.holds Try.pinned (OpenSpec.ofChange fnMul128Spec)

/-- ITS FALSE NEIGHBOUR: 'it returns false'. Refute it at one input. -/
def fnMul128Wrong : ChangeSpec := { name := "fnMul128", fn := fun _ => fun
  | [d1, d2] => { results := [.lit (.bool false)], args := [d1, d2] }
  | _ => none }
def FnMul128WrongFalsely : Prop := fnMul128Row.holds Try.pinned (OpenSpec.ofChange fnMul128Wrong)

/-- 'laws.FnMul128Sum': WHATEVER THE INPUT: true; the input reads as it did. -/
def fnMul128SumSpec : ChangeSpec := { name := "fnMul128Sum", fn := fun _ => fun
  | [d1, d2, d3] => { results := [.lit (.bool true)], args := [d1, d2, d3] }
  | _ => none }
def fnMul128SumRow : OpenClaim := { program := "ytmbhbioanoalaaa", sum := "9ddec191df05491ea9d0f556ec6da1f7060743e4dbdaceb5b1d95e2bf45481dd", func := "loop.example/pub-g01479/laws.FnMul128Sum", spec := "fnMul128Sum", apart := false }
def FnMul128SumSaid : Prop := fnMul128SumRow.holds Try.pinned (OpenSpec.ofChange fnMul128SumSpec)

/-- ITS FALSE NEIGHBOUR: 'it returns false'. Refute it at one input. -/
def fnMul128SumWrong : ChangeSpec := { name := "fnMul128Sum", fn := fun _ => fun
  | [d1, d2, d3] => { results := [.lit (.bool false)], args := [d1, d2, d3] }
  | _ => none }
def FnMul128SumWrongFalsely : Prop := fnMul128SumRow.holds Try.pinned (OpenSpec.ofChange fnMul128SumWrong)

/-- 'laws.FnGcd': WHATEVER THE INPUT: true; the input reads as it did. -/
def fnGcdSpec : ChangeSpec := { name := "fnGcd", fn := fun _ => fun
  | [d1, d2, d3] => { results := [.lit (.bool true)], args := [d1, d2, d3] }
  | _ => none }
def fnGcdRow : OpenClaim := { program := "ytmbhbioanoalaaa", sum := "9ddec191df05491ea9d0f556ec6da1f7060743e4dbdaceb5b1d95e2bf45481dd", func := "loop.example/pub-g01479/laws.FnGcd", spec := "fnGcd", apart := false }
def FnGcdSaid : Prop := fnGcdRow.holds Try.pinned (OpenSpec.ofChange fnGcdSpec)

/-- ITS FALSE NEIGHBOUR: 'it returns false'. Refute it at one input. -/
def fnGcdWrong : ChangeSpec := { name := "fnGcd", fn := fun _ => fun
  | [d1, d2, d3] => { results := [.lit (.bool false)], args := [d1, d2, d3] }
  | _ => none }
def FnGcdWrongFalsely : Prop := fnGcdRow.holds Try.pinned (OpenSpec.ofChange fnGcdWrong)

/-- 'laws.FnGcdDivides': WHATEVER THE INPUT: true; the input reads as it did. -/
def fnGcdDividesSpec : ChangeSpec := { name := "fnGcdDivides", fn := fun _ => fun
  | [d1, d2] => { results := [.lit (.bool true)], args := [d1, d2] }
  | _ => none }
def fnGcdDividesRow : OpenClaim := { program := "ytmbhbioanoalaaa", sum := "9ddec191df05491ea9d0f556ec6da1f7060743e4dbdaceb5b1d95e2bf45481dd", func := "loop.example/pub-g01479/laws.FnGcdDivides", spec := "fnGcdDivides", apart := false }
def FnGcdDividesSaid : Prop := fnGcdDividesRow.holds Try.pinned (OpenSpec.ofChange fnGcdDividesSpec)

/-- ITS FALSE NEIGHBOUR: 'it returns false'. Refute it at one input. -/
def fnGcdDividesWrong : ChangeSpec := { name := "fnGcdDivides", fn := fun _ => fun
  | [d1, d2] => { results := [.lit (.bool false)], args := [d1, d2] }
  | _ => none }
def FnGcdDividesWrongFalsely : Prop := fnGcdDividesRow.holds Try.pinned (OpenSpec.ofChange fnGcdDividesWrong)

/-- 'laws.FnGcdTimes': WHATEVER THE INPUT: true; the input reads as it did. -/
def fnGcdTimesSpec : ChangeSpec := { name := "fnGcdTimes", fn := fun _ => fun
  | [d1, d2, d3] => { results := [.lit (.bool true)], args := [d1, d2, d3] }
  | _ => none }
def fnGcdTimesRow : OpenClaim := { program := "ytmbhbioanoalaaa", sum := "9ddec191df05491ea9d0f556ec6da1f7060743e4dbdaceb5b1d95e2bf45481dd", func := "loop.example/pub-g01479/laws.FnGcdTimes", spec := "fnGcdTimes", apart := false }
def FnGcdTimesSaid : Prop := fnGcdTimesRow.holds Try.pinned (OpenSpec.ofChange fnGcdTimesSpec)

/-- ITS FALSE NEIGHBOUR: 'it returns false'. Refute it at one input. -/
def fnGcdTimesWrong : ChangeSpec := { name := "fnGcdTimes", fn := fun _ => fun
  | [d1, d2, d3] => { results := [.lit (.bool false)], args := [d1, d2, d3] }
  | _ => none }
def FnGcdTimesWrongFalsely : Prop := fnGcdTimesRow.holds Try.pinned (OpenSpec.ofChange fnGcdTimesWrong)

/-- 'laws.FnProbably32': WHATEVER THE INPUT: true; the input reads as it did. -/
def fnProbably32Spec : ChangeSpec := { name := "fnProbably32", fn := fun _ => fun
  | [d1, d2] => { results := [.lit (.bool true)], args := [d1, d2] }
  | _ => none }
def fnProbably32Row : OpenClaim := { program := "ytmbhbioanoalaaa", sum := "9ddec191df05491ea9d0f556ec6da1f7060743e4dbdaceb5b1d95e2bf45481dd", func := "loop.example/pub-g01479/laws.FnProbably32", spec := "fnProbably32", apart := false }
def FnProbably32Said : Prop := fnProbably32Row.holds Try.pinned (OpenSpec.ofChange fnProbably32Spec)

/-- ITS FALSE NEIGHBOUR: 'it returns false'. Refute it at one input. -/
def fnProbably32Wrong : ChangeSpec := { name := "fnProbably32", fn := fun _ => fun
  | [d1, d2] => { results := [.lit (.bool false)], args := [d1, d2] }
  | _ => none }
def FnProbably32WrongFalsely : Prop := fnProbably32Row.holds Try.pinned (OpenSpec.ofChange fnProbably32Wrong)

/-- 'laws.FnMix': WHATEVER THE INPUT: true; the input reads as it did. -/
def fnMixSpec : ChangeSpec := { name := "fnMix", fn := fun _ => fun
  | [d1, d2] => { results := [.lit (.bool true)], args := [d1, d2] }
  | _ => none }
def fnMixRow : OpenClaim := { program := "ytmbhbioanoalaaa", sum := "9ddec191df05491ea9d0f556ec6da1f7060743e4dbdaceb5b1d95e2bf45481dd", func := "loop.example/pub-g01479/laws.FnMix", spec := "fnMix", apart := false }
def FnMixSaid : Prop := fnMixRow.holds Try.pinned (OpenSpec.ofChange fnMixSpec)

/-- ITS FALSE NEIGHBOUR: 'it returns false'. Refute it at one input. -/
def fnMixWrong : ChangeSpec := { name := "fnMix", fn := fun _ => fun
  | [d1, d2] => { results := [.lit (.bool false)], args := [d1, d2] }
  | _ => none }
def FnMixWrongFalsely : Prop := fnMixRow.holds Try.pinned (OpenSpec.ofChange fnMixWrong)

/-- 'laws.FnMul128Square': WHATEVER THE INPUT: true; the input reads as it did. -/
def fnMul128SquareSpec : ChangeSpec := { name := "fnMul128Square", fn := fun _ => fun
  | [d] => { results := [.lit (.bool true)], args := [d] }
  | _ => none }
def fnMul128SquareRow : OpenClaim := { program := "ytmbhbioanoalaaa", sum := "9ddec191df05491ea9d0f556ec6da1f7060743e4dbdaceb5b1d95e2bf45481dd", func := "loop.example/pub-g01479/laws.FnMul128Square", spec := "fnMul128Square", apart := false }
def FnMul128SquareSaid : Prop := fnMul128SquareRow.holds Try.pinned (OpenSpec.ofChange fnMul128SquareSpec)

/-- ITS FALSE NEIGHBOUR: 'it returns false'. Refute it at one input. -/
def fnMul128SquareWrong : ChangeSpec := { name := "fnMul128Square", fn := fun _ => fun
  | [d] => { results := [.lit (.bool false)], args := [d] }
  | _ => none }
def FnMul128SquareWrongFalsely : Prop := fnMul128SquareRow.holds Try.pinned (OpenSpec.ofChange fnMul128SquareWrong)

/- THE SECOND FORM. 'bulk': how many values and letters a reading holds, each counted each time it is reached (what is shared counts as often as it is met; a slice's spare places count too). A statement '..UptoSaid' is the law's where the arguments, and the package variables that the reading takes, are together of bulk at most 1048576: NARROWER than '..Said'. Prove '..Said' where nothing that the law and all that it calls make is longer than what came in: it says more and counts as full. Else prove '..UptoSaid'. A law counts once. -/
mutual
def uptoBulk {H : Type} : DataW H → Nat
  | .lit (.string bytes) => bytes.length + 1
  | .lit _ => 1
  | .nil => 1
  | .ptr d => uptoBulk d + 1
  | .slice elems spare => uptoBulkAll elems + uptoBulkAll spare + 1
  | .agg parts => uptoBulkAll parts + 1
  | .iface _ d => uptoBulk d + 1
  | .map entries => uptoBulkEntries entries + 1
  | .held _ => 1
def uptoBulkAll {H : Type} : List (DataW H) → Nat
  | [] => 0
  | d :: r => uptoBulk d + uptoBulkAll r
def uptoBulkEntries {H : Type} : List (Lit × DataW H) → Nat
  | [] => 0
  | x :: r => uptoBulkEntry x + uptoBulkEntries r
def uptoBulkEntry {H : Type} : Lit × DataW H → Nat
  | (.string bytes, d) => bytes.length + uptoBulk d + 1
  | (_, d) => uptoBulk d + 1
 end
def uptoSmall : (H : Type) → List (DataW H) → Bool := fun _ ds => decide (uptoBulkAll ds ≤ 1048576)
def OpenSpec.upto (s : _root_.Go.ChangeSpec) : _root_.Go.OpenSpec := { _root_.Go.OpenSpec.ofChange s with cond := some uptoSmall }

/-- 'laws.FnLargest', WHERE WHAT IT READS IS OF BULK AT MOST 1048576: true; the input reads as it did. -/
def fnLargestUptoRow : OpenClaim := { program := "ytmbhbioanoalaaa", sum := "9ddec191df05491ea9d0f556ec6da1f7060743e4dbdaceb5b1d95e2bf45481dd", func := "loop.example/pub-g01479/laws.FnLargest", spec := "fnLargest", apart := false, narrowed := true }
def FnLargestUptoSaid : Prop := fnLargestUptoRow.holds Try.pinned (OpenSpec.upto fnLargestSpec)

/-- 'laws.FnSmallest', WHERE WHAT IT READS IS OF BULK AT MOST 1048576: true; the input reads as it did. -/
def fnSmallestUptoRow : OpenClaim := { program := "ytmbhbioanoalaaa", sum := "9ddec191df05491ea9d0f556ec6da1f7060743e4dbdaceb5b1d95e2bf45481dd", func := "loop.example/pub-g01479/laws.FnSmallest", spec := "fnSmallest", apart := false, narrowed := true }
def FnSmallestUptoSaid : Prop := fnSmallestUptoRow.holds Try.pinned (OpenSpec.upto fnSmallestSpec)

/-- 'laws.FnMul128', WHERE WHAT IT READS IS OF BULK AT MOST 1048576: true; the input reads as it did. -/
def fnMul128UptoRow : OpenClaim := { program := "ytmbhbioanoalaaa", sum := "9ddec191df05491ea9d0f556ec6da1f7060743e4dbdaceb5b1d95e2bf45481dd", func := "loop.example/pub-g01479/laws.FnMul128", spec := "fnMul128", apart := false, narrowed := true }
def FnMul128UptoSaid : Prop := fnMul128UptoRow.holds Try.pinned (OpenSpec.upto fnMul128Spec)

/-- 'laws.FnMul128Sum', WHERE WHAT IT READS IS OF BULK AT MOST 1048576: true; the input reads as it did. -/
def fnMul128SumUptoRow : OpenClaim := { program := "ytmbhbioanoalaaa", sum := "9ddec191df05491ea9d0f556ec6da1f7060743e4dbdaceb5b1d95e2bf45481dd", func := "loop.example/pub-g01479/laws.FnMul128Sum", spec := "fnMul128Sum", apart := false, narrowed := true }
def FnMul128SumUptoSaid : Prop := fnMul128SumUptoRow.holds Try.pinned (OpenSpec.upto fnMul128SumSpec)

/-- 'laws.FnGcd', WHERE WHAT IT READS IS OF BULK AT MOST 1048576: true; the input reads as it did. -/
def fnGcdUptoRow : OpenClaim := { program := "ytmbhbioanoalaaa", sum := "9ddec191df05491ea9d0f556ec6da1f7060743e4dbdaceb5b1d95e2bf45481dd", func := "loop.example/pub-g01479/laws.FnGcd", spec := "fnGcd", apart := false, narrowed := true }
def FnGcdUptoSaid : Prop := fnGcdUptoRow.holds Try.pinned (OpenSpec.upto fnGcdSpec)

/-- 'laws.FnGcdDivides', WHERE WHAT IT READS IS OF BULK AT MOST 1048576: true; the input reads as it did. -/
def fnGcdDividesUptoRow : OpenClaim := { program := "ytmbhbioanoalaaa", sum := "9ddec191df05491ea9d0f556ec6da1f7060743e4dbdaceb5b1d95e2bf45481dd", func := "loop.example/pub-g01479/laws.FnGcdDivides", spec := "fnGcdDivides", apart := false, narrowed := true }
def FnGcdDividesUptoSaid : Prop := fnGcdDividesUptoRow.holds Try.pinned (OpenSpec.upto fnGcdDividesSpec)

/-- 'laws.FnGcdTimes', WHERE WHAT IT READS IS OF BULK AT MOST 1048576: true; the input reads as it did. -/
def fnGcdTimesUptoRow : OpenClaim := { program := "ytmbhbioanoalaaa", sum := "9ddec191df05491ea9d0f556ec6da1f7060743e4dbdaceb5b1d95e2bf45481dd", func := "loop.example/pub-g01479/laws.FnGcdTimes", spec := "fnGcdTimes", apart := false, narrowed := true }
def FnGcdTimesUptoSaid : Prop := fnGcdTimesUptoRow.holds Try.pinned (OpenSpec.upto fnGcdTimesSpec)

/-- 'laws.FnProbably32', WHERE WHAT IT READS IS OF BULK AT MOST 1048576: true; the input reads as it did. -/
def fnProbably32UptoRow : OpenClaim := { program := "ytmbhbioanoalaaa", sum := "9ddec191df05491ea9d0f556ec6da1f7060743e4dbdaceb5b1d95e2bf45481dd", func := "loop.example/pub-g01479/laws.FnProbably32", spec := "fnProbably32", apart := false, narrowed := true }
def FnProbably32UptoSaid : Prop := fnProbably32UptoRow.holds Try.pinned (OpenSpec.upto fnProbably32Spec)

/-- 'laws.FnMix', WHERE WHAT IT READS IS OF BULK AT MOST 1048576: true; the input reads as it did. -/
def fnMixUptoRow : OpenClaim := { program := "ytmbhbioanoalaaa", sum := "9ddec191df05491ea9d0f556ec6da1f7060743e4dbdaceb5b1d95e2bf45481dd", func := "loop.example/pub-g01479/laws.FnMix", spec := "fnMix", apart := false, narrowed := true }
def FnMixUptoSaid : Prop := fnMixUptoRow.holds Try.pinned (OpenSpec.upto fnMixSpec)

/-- 'laws.FnMul128Square', WHERE WHAT IT READS IS OF BULK AT MOST 1048576: true; the input reads as it did. -/
def fnMul128SquareUptoRow : OpenClaim := { program := "ytmbhbioanoalaaa", sum := "9ddec191df05491ea9d0f556ec6da1f7060743e4dbdaceb5b1d95e2bf45481dd", func := "loop.example/pub-g01479/laws.FnMul128Square", spec := "fnMul128Square", apart := false, narrowed := true }
def FnMul128SquareUptoSaid : Prop := fnMul128SquareUptoRow.holds Try.pinned (OpenSpec.upto fnMul128SquareSpec)

end Rows
end Go.Proofs.Ytmbhbioanoalaaa
