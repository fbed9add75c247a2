/-
  No cell of these rows narrows 'for every input' (looked for: loops, veiled, ifaces, maps, wideKeys, modest, calm, conditions, laid).
  DERIVED. THE GIVEN ROWS OF THIS SEAT. 9 by the template 'for every input the law returns true; each argument reads behind the call as it read before'; 0 by the template 'total and deterministic' (their statements: YtfnimhjabbnldaaTotals.lean).
  GIVEN WITH THE SEED: the statements are not yours to turn. If you find one false, say at which input.
  Laid BY PROGRAM, IN A SANDBOX (cutbox-rows.mjs): the forced cells as the released guide's own fill.sh prints them over the translation ebd5cb199b9b75e8… (all of the seat's roots in one cut). By AI agents, Wed Nov 11 2026. No macro, syntax, notation, axiom, sorry.
-/
import Derived.Test.YtfnimhjabbnldaaChecked
import GoSem.Claim
import GoSem.ClaimJoined
import GoSem.ClaimMapViews
import Derived.JoinedTies
import Derived.KernelRfl
namespace Go.Proofs.Ytfnimhjabbnldaa
/- THE CELL 'sum', in the pinned program and in every row, IS THE sha256 OF THE DUMP (.gsa) THAT YtfnimhjabbnldaaProg.lean LOADS. Nothing in Lean hashes anything: it is a label: what it is worth is what the hold of that sum in a sandbox is worth. -/
noncomputable def Try.pinned : Pinned := { name := "ytfnimhjabbnldaa", sum := "ebd5cb199b9b75e82af601d549f263294b873911b3d9614fc8f66383d53b588c", checked := Try.checked }
namespace Rows
def none {H : Type} : Left H := { results := [], args := [] }

/-- 'laws.FnInt128Add': WHATEVER THE INPUT: true; the input reads as it did. -/
def fnInt128AddSpec : ChangeSpec := { name := "fnInt128Add", fn := fun _ => fun
  | [d1, d2, d3, d4] => { results := [.lit (.bool true)], args := [d1, d2, d3, d4] }
  | _ => none }
def fnInt128AddRow : OpenClaim := { program := "ytfnimhjabbnldaa", sum := "ebd5cb199b9b75e82af601d549f263294b873911b3d9614fc8f66383d53b588c", func := "loop.example/pub-g01479/laws.FnInt128Add", spec := "fnInt128Add", apart := false }
def FnInt128AddSaid : Prop := fnInt128AddRow.holds Try.pinned (OpenSpec.ofChange fnInt128AddSpec)

/-- ITS FALSE NEIGHBOUR: 'it returns false'. Refute it at one input. -/
def fnInt128AddWrong : ChangeSpec := { name := "fnInt128Add", fn := fun _ => fun
  | [d1, d2, d3, d4] => { results := [.lit (.bool false)], args := [d1, d2, d3, d4] }
  | _ => none }
def FnInt128AddWrongFalsely : Prop := fnInt128AddRow.holds Try.pinned (OpenSpec.ofChange fnInt128AddWrong)

/-- 'laws.FnInt128Carry': WHATEVER THE INPUT: true; the input reads as it did. -/
def fnInt128CarrySpec : ChangeSpec := { name := "fnInt128Carry", fn := fun _ => fun
  | [d1, d2, d3, d4] => { results := [.lit (.bool true)], args := [d1, d2, d3, d4] }
  | _ => none }
def fnInt128CarryRow : OpenClaim := { program := "ytfnimhjabbnldaa", sum := "ebd5cb199b9b75e82af601d549f263294b873911b3d9614fc8f66383d53b588c", func := "loop.example/pub-g01479/laws.FnInt128Carry", spec := "fnInt128Carry", apart := false }
def FnInt128CarrySaid : Prop := fnInt128CarryRow.holds Try.pinned (OpenSpec.ofChange fnInt128CarrySpec)

/-- ITS FALSE NEIGHBOUR: 'it returns false'. Refute it at one input. -/
def fnInt128CarryWrong : ChangeSpec := { name := "fnInt128Carry", fn := fun _ => fun
  | [d1, d2, d3, d4] => { results := [.lit (.bool false)], args := [d1, d2, d3, d4] }
  | _ => none }
def FnInt128CarryWrongFalsely : Prop := fnInt128CarryRow.holds Try.pinned (OpenSpec.ofChange fnInt128CarryWrong)

/-- 'laws.FnInt128Cmp': WHATEVER THE INPUT: true; the input reads as it did. -/
def fnInt128CmpSpec : ChangeSpec := { name := "fnInt128Cmp", fn := fun _ => fun
  | [d1, d2, d3, d4] => { results := [.lit (.bool true)], args := [d1, d2, d3, d4] }
  | _ => none }
def fnInt128CmpRow : OpenClaim := { program := "ytfnimhjabbnldaa", sum := "ebd5cb199b9b75e82af601d549f263294b873911b3d9614fc8f66383d53b588c", func := "loop.example/pub-g01479/laws.FnInt128Cmp", spec := "fnInt128Cmp", apart := false }
def FnInt128CmpSaid : Prop := fnInt128CmpRow.holds Try.pinned (OpenSpec.ofChange fnInt128CmpSpec)

/-- ITS FALSE NEIGHBOUR: 'it returns false'. Refute it at one input. -/
def fnInt128CmpWrong : ChangeSpec := { name := "fnInt128Cmp", fn := fun _ => fun
  | [d1, d2, d3, d4] => { results := [.lit (.bool false)], args := [d1, d2, d3, d4] }
  | _ => none }
def FnInt128CmpWrongFalsely : Prop := fnInt128CmpRow.holds Try.pinned (OpenSpec.ofChange fnInt128CmpWrong)

/-- 'laws.FnInt128Sign': WHATEVER THE INPUT: true; the input reads as it did. -/
def fnInt128SignSpec : ChangeSpec := { name := "fnInt128Sign", fn := fun _ => fun
  | [d1, d2] => { results := [.lit (.bool true)], args := [d1, d2] }
  | _ => none }
def fnInt128SignRow : OpenClaim := { program := "ytfnimhjabbnldaa", sum := "ebd5cb199b9b75e82af601d549f263294b873911b3d9614fc8f66383d53b588c", func := "loop.example/pub-g01479/laws.FnInt128Sign", spec := "fnInt128Sign", apart := false }
def FnInt128SignSaid : Prop := fnInt128SignRow.holds Try.pinned (OpenSpec.ofChange fnInt128SignSpec)

/-- ITS FALSE NEIGHBOUR: 'it returns false'. Refute it at one input. -/
def fnInt128SignWrong : ChangeSpec := { name := "fnInt128Sign", fn := fun _ => fun
  | [d1, d2] => { results := [.lit (.bool false)], args := [d1, d2] }
  | _ => none }
def FnInt128SignWrongFalsely : Prop := fnInt128SignRow.holds Try.pinned (OpenSpec.ofChange fnInt128SignWrong)

/-- 'laws.FnInt128Neg': WHATEVER THE INPUT: true; the input reads as it did. -/
def fnInt128NegSpec : ChangeSpec := { name := "fnInt128Neg", fn := fun _ => fun
  | [d1, d2] => { results := [.lit (.bool true)], args := [d1, d2] }
  | _ => none }
def fnInt128NegRow : OpenClaim := { program := "ytfnimhjabbnldaa", sum := "ebd5cb199b9b75e82af601d549f263294b873911b3d9614fc8f66383d53b588c", func := "loop.example/pub-g01479/laws.FnInt128Neg", spec := "fnInt128Neg", apart := false }
def FnInt128NegSaid : Prop := fnInt128NegRow.holds Try.pinned (OpenSpec.ofChange fnInt128NegSpec)

/-- ITS FALSE NEIGHBOUR: 'it returns false'. Refute it at one input. -/
def fnInt128NegWrong : ChangeSpec := { name := "fnInt128Neg", fn := fun _ => fun
  | [d1, d2] => { results := [.lit (.bool false)], args := [d1, d2] }
  | _ => none }
def FnInt128NegWrongFalsely : Prop := fnInt128NegRow.holds Try.pinned (OpenSpec.ofChange fnInt128NegWrong)

/-- 'laws.FnInt128Of': WHATEVER THE INPUT: true; the input reads as it did. -/
def fnInt128OfSpec : ChangeSpec := { name := "fnInt128Of", fn := fun _ => fun
  | [d1, d2] => { results := [.lit (.bool true)], args := [d1, d2] }
  | _ => none }
def fnInt128OfRow : OpenClaim := { program := "ytfnimhjabbnldaa", sum := "ebd5cb199b9b75e82af601d549f263294b873911b3d9614fc8f66383d53b588c", func := "loop.example/pub-g01479/laws.FnInt128Of", spec := "fnInt128Of", apart := false }
def FnInt128OfSaid : Prop := fnInt128OfRow.holds Try.pinned (OpenSpec.ofChange fnInt128OfSpec)

/-- ITS FALSE NEIGHBOUR: 'it returns false'. Refute it at one input. -/
def fnInt128OfWrong : ChangeSpec := { name := "fnInt128Of", fn := fun _ => fun
  | [d1, d2] => { results := [.lit (.bool false)], args := [d1, d2] }
  | _ => none }
def FnInt128OfWrongFalsely : Prop := fnInt128OfRow.holds Try.pinned (OpenSpec.ofChange fnInt128OfWrong)

/-- 'laws.FnAddOverflow': WHATEVER THE INPUT: true; the input reads as it did. -/
def fnAddOverflowSpec : ChangeSpec := { name := "fnAddOverflow", fn := fun _ => fun
  | [d1, d2, d3] => { results := [.lit (.bool true)], args := [d1, d2, d3] }
  | _ => none }
def fnAddOverflowRow : OpenClaim := { program := "ytfnimhjabbnldaa", sum := "ebd5cb199b9b75e82af601d549f263294b873911b3d9614fc8f66383d53b588c", func := "loop.example/pub-g01479/laws.FnAddOverflow", spec := "fnAddOverflow", apart := false }
def FnAddOverflowSaid : Prop := fnAddOverflowRow.holds Try.pinned (OpenSpec.ofChange fnAddOverflowSpec)

/-- ITS FALSE NEIGHBOUR: 'it returns false'. Refute it at one input. -/
def fnAddOverflowWrong : ChangeSpec := { name := "fnAddOverflow", fn := fun _ => fun
  | [d1, d2, d3] => { results := [.lit (.bool false)], args := [d1, d2, d3] }
  | _ => none }
def FnAddOverflowWrongFalsely : Prop := fnAddOverflowRow.holds Try.pinned (OpenSpec.ofChange fnAddOverflowWrong)

/-- 'laws.FnMulOverflow': WHATEVER THE INPUT: true; the input reads as it did. -/
def fnMulOverflowSpec : ChangeSpec := { name := "fnMulOverflow", fn := fun _ => fun
  | [d1, d2, d3] => { results := [.lit (.bool true)], args := [d1, d2, d3] }
  | _ => none }
def fnMulOverflowRow : OpenClaim := { program := "ytfnimhjabbnldaa", sum := "ebd5cb199b9b75e82af601d549f263294b873911b3d9614fc8f66383d53b588c", func := "loop.example/pub-g01479/laws.FnMulOverflow", spec := "fnMulOverflow", apart := false }
def FnMulOverflowSaid : Prop := fnMulOverflowRow.holds Try.pinned (OpenSpec.ofChange fnMulOverflowSpec)

/-- ITS FALSE NEIGHBOUR: 'it returns false'. Refute it at one input. -/
def fnMulOverflowWrong : ChangeSpec := { name := "fnMulOverflow", fn := fun _ => fun
  | [d1, d2, d3] => { results := [.lit (.bool false)], args := [d1, d2, d3] }
  | _ => none }
def FnMulOverflowWrongFalsely : Prop := fnMulOverflowRow.holds Try.pinned (OpenSpec.ofChange fnMulOverflowWrong)

/-- 'laws.FnSubOverflow': WHATEVER THE INPUT: true; the input reads as it did. -/
def fnSubOverflowSpec : ChangeSpec := { name := "fnSubOverflow", fn := fun _ => fun
  | [d1, d2, d3] => { results := [.lit (.bool true)], args := [d1, d2, d3] }
  | _ => none }
def fnSubOverflowRow : OpenClaim := { program := "ytfnimhjabbnldaa", sum := "ebd5cb199b9b75e82af601d549f263294b873911b3d9614fc8f66383d53b588c", func := "loop.example/pub-g01479/laws.FnSubOverflow", spec := "fnSubOverflow", apart := false }
def FnSubOverflowSaid : Prop := fnSubOverflowRow.holds Try.pinned (OpenSpec.ofChange fnSubOverflowSpec)

/-- ITS FALSE NEIGHBOUR: 'it returns false'. Refute it at one input. -/
def fnSubOverflowWrong : ChangeSpec := { name := "fnSubOverflow", fn := fun _ => fun
  | [d1, d2, d3] => { results := [.lit (.bool false)], args := [d1, d2, d3] }
  | _ => none }
def FnSubOverflowWrongFalsely : Prop := fnSubOverflowRow.holds Try.pinned (OpenSpec.ofChange fnSubOverflowWrong)

/- THE SECOND FORM. 'bulk': how many values and letters a reading holds, each counted each time it is reached (what is shared counts as often as it is met; a slice's spare places count too). A statement '..UptoSaid' is the law's where the arguments, and the package variables that the reading takes, are together of bulk at most 1048576: NARROWER than '..Said'. Prove '..Said' where nothing that the law and all that it calls make is longer than what came in: it says more and counts as full. Else prove '..UptoSaid'. A law counts once. -/
mutual
def uptoBulk {H : Type} : DataW H → Nat
  | .lit (.string bytes) => bytes.length + 1
  | .lit _ => 1
  | .nil => 1
  | .ptr d => uptoBulk d + 1
  | .slice elems spare => uptoBulkAll elems + uptoBulkAll spare + 1
  | .agg parts => uptoBulkAll parts + 1
  | .iface _ d => uptoBulk d + 1
  | .map entries => uptoBulkEntries entries + 1
  | .held _ => 1
def uptoBulkAll {H : Type} : List (DataW H) → Nat
  | [] => 0
  | d :: r => uptoBulk d + uptoBulkAll r
def uptoBulkEntries {H : Type} : List (Lit × DataW H) → Nat
  | [] => 0
  | x :: r => uptoBulkEntry x + uptoBulkEntries r
def uptoBulkEntry {H : Type} : Lit × DataW H → Nat
  | (.string bytes, d) => bytes.length + uptoBulk d + 1
  | (_, d) => uptoBulk d + 1
 end
def uptoSmall : (H : Type) → List (DataW H) → Bool := fun _ ds => decide (uptoBulkAll ds ≤ 1048576)
def OpenSpec.upto (s : _root_.Go.ChangeSpec) : _root_.Go.OpenSpec := { _root_.Go.OpenSpec.ofChange s with cond := some uptoSmall }

/-- 'laws.FnInt128Add', WHERE WHAT IT READS IS OF BULK AT MOST 1048576: true; the input reads as it did. -/
def fnInt128AddUptoRow : OpenClaim := { program := "ytfnimhjabbnldaa", sum := "ebd5cb199b9b75e82af601d549f263294b873911b3d9614fc8f66383d53b588c", func := "loop.example/pub-g01479/laws.FnInt128Add", spec := "fnInt128Add", apart := false, narrowed := true }
def FnInt128AddUptoSaid : Prop := fnInt128AddUptoRow.holds Try.pinned (OpenSpec.upto fnInt128AddSpec)

/-- 'laws.FnInt128Carry', WHERE WHAT IT READS IS OF BULK AT MOST 1048576: true; the input reads as it did. -/
def fnInt128CarryUptoRow : OpenClaim := { program := "ytfnimhjabbnldaa", sum := "ebd5cb199b9b75e82af601d549f263294b873911b3d9614fc8f66383d53b588c", func := "loop.example/pub-g01479/laws.FnInt128Carry", spec := "fnInt128Carry", apart := false, narrowed := true }
def FnInt128CarryUptoSaid : Prop := fnInt128CarryUptoRow.holds Try.pinned (OpenSpec.upto fnInt128CarrySpec)

/-- 'laws.FnInt128Cmp', WHERE WHAT IT READS IS OF BULK AT MOST 1048576: true; the input reads as it did. -/
def fnInt128CmpUptoRow : OpenClaim := { program := "ytfnimhjabbnldaa", sum := "ebd5cb199b9b75e82af601d549f263294b873911b3d9614fc8f66383d53b588c", func := "loop.example/pub-g01479/laws.FnInt128Cmp", spec := "fnInt128Cmp", apart := false, narrowed := true }
def FnInt128CmpUptoSaid : Prop := fnInt128CmpUptoRow.holds Try.pinned (OpenSpec.upto fnInt128CmpSpec)

/-- 'laws.FnInt128Sign', WHERE WHAT IT READS IS OF BULK AT MOST 1048576: true; the input reads as it did. -/
def fnInt128SignUptoRow : OpenClaim := { program := "ytfnimhjabbnldaa", sum := "ebd5cb199b9b75e82af601d549f263294b873911b3d9614fc8f66383d53b588c", func := "loop.example/pub-g01479/laws.FnInt128Sign", spec := "fnInt128Sign", apart := false, narrowed := true }
def FnInt128SignUptoSaid : Prop := fnInt128SignUptoRow.holds Try.pinned (OpenSpec.upto fnInt128SignSpec)

/-- 'laws.FnInt128Neg', WHERE WHAT IT READS IS OF BULK AT MOST 1048576: true; the input reads as it did. -/
def fnInt128NegUptoRow : OpenClaim := { program := "ytfnimhjabbnldaa", sum := "ebd5cb199b9b75e82af601d549f263294b873911b3d9614fc8f66383d53b588c", func := "loop.example/pub-g01479/laws.FnInt128Neg", spec := "fnInt128Neg", apart := false, narrowed := true }
def FnInt128NegUptoSaid : Prop := fnInt128NegUptoRow.holds Try.pinned (OpenSpec.upto fnInt128NegSpec)

/-- 'laws.FnInt128Of', WHERE WHAT IT READS IS OF BULK AT MOST 1048576: true; the input reads as it did. -/
def fnInt128OfUptoRow : OpenClaim := { program := "ytfnimhjabbnldaa", sum := "ebd5cb199b9b75e82af601d549f263294b873911b3d9614fc8f66383d53b588c", func := "loop.example/pub-g01479/laws.FnInt128Of", spec := "fnInt128Of", apart := false, narrowed := true }
def FnInt128OfUptoSaid : Prop := fnInt128OfUptoRow.holds Try.pinned (OpenSpec.upto fnInt128OfSpec)

/-- 'laws.FnAddOverflow', WHERE WHAT IT READS IS OF BULK AT MOST 1048576: true; the input reads as it did. -/
def fnAddOverflowUptoRow : OpenClaim := { program := "ytfnimhjabbnldaa", sum := "ebd5cb199b9b75e82af601d549f263294b873911b3d9614fc8f66383d53b588c", func := "loop.example/pub-g01479/laws.FnAddOverflow", spec := "fnAddOverflow", apart := false, narrowed := true }
def FnAddOverflowUptoSaid : Prop := fnAddOverflowUptoRow.holds Try.pinned (OpenSpec.upto fnAddOverflowSpec)

/-- 'laws.FnMulOverflow', WHERE WHAT IT READS IS OF BULK AT MOST 1048576: true; the input reads as it did. -/
def fnMulOverflowUptoRow : OpenClaim := { program := "ytfnimhjabbnldaa", sum := "ebd5cb199b9b75e82af601d549f263294b873911b3d9614fc8f66383d53b588c", func := "loop.example/pub-g01479/laws.FnMulOverflow", spec := "fnMulOverflow", apart := false, narrowed := true }
def FnMulOverflowUptoSaid : Prop := fnMulOverflowUptoRow.holds Try.pinned (OpenSpec.upto fnMulOverflowSpec)

/-- 'laws.FnSubOverflow', WHERE WHAT IT READS IS OF BULK AT MOST 1048576: true; the input reads as it did. -/
def fnSubOverflowUptoRow : OpenClaim := { program := "ytfnimhjabbnldaa", sum := "ebd5cb199b9b75e82af601d549f263294b873911b3d9614fc8f66383d53b588c", func := "loop.example/pub-g01479/laws.FnSubOverflow", spec := "fnSubOverflow", apart := false, narrowed := true }
def FnSubOverflowUptoSaid : Prop := fnSubOverflowUptoRow.holds Try.pinned (OpenSpec.upto fnSubOverflowSpec)

end Rows
end Go.Proofs.Ytfnimhjabbnldaa
