/-
  No cell of these rows narrows 'for every input' (looked for: loops, veiled, ifaces, maps, wideKeys, modest, calm, conditions, laid).
  DERIVED. THE GIVEN ROWS OF THIS SEAT. 12 by the template 'for every input the law returns true; each argument reads behind the call as it read before'; 0 by the template 'total and deterministic' (their statements: YtjfefhjnpokcbaaTotals.lean).
  GIVEN WITH THE SEED: the statements are not yours to turn. If you find one false, say at which input.
  Laid BY PROGRAM, IN A SANDBOX (cutbox-rows.mjs): the forced cells as the released guide's own fill.sh prints them over the translation 03f96efba7481118… (all of the seat's roots in one cut). By AI agents, Wed Nov 11 2026. No macro, syntax, notation, axiom, sorry.
-/
import Derived.Test.YtjfefhjnpokcbaaChecked
import GoSem.Claim
import GoSem.ClaimJoined
import GoSem.ClaimMapViews
import Derived.JoinedTies
import Derived.KernelRfl
namespace Go.Proofs.Ytjfefhjnpokcbaa
/- THE CELL 'sum', in the pinned program and in every row, IS THE sha256 OF THE DUMP (.gsa) THAT YtjfefhjnpokcbaaProg.lean LOADS. Nothing in Lean hashes anything: it is a label: what it is worth is what the hold of that sum in a sandbox is worth. -/
noncomputable def Try.pinned : Pinned := { name := "ytjfefhjnpokcbaa", sum := "03f96efba748111861d93e193666d494c0081e90c402830b755b4a7246f76bc2", checked := Try.checked }
namespace Rows
def none {H : Type} : Left H := { results := [], args := [] }

/-- 'laws.FnCheckAdd': WHATEVER THE INPUT: true; the input reads as it did. -/
def fnCheckAddSpec : ChangeSpec := { name := "fnCheckAdd", fn := fun _ => fun
  | [d1, d2] => { results := [.lit (.bool true)], args := [d1, d2] }
  | _ => none }
def fnCheckAddRow : OpenClaim := { program := "ytjfefhjnpokcbaa", sum := "03f96efba748111861d93e193666d494c0081e90c402830b755b4a7246f76bc2", func := "loop.example/pub-g01479/laws.FnCheckAdd", spec := "fnCheckAdd", apart := false }
def FnCheckAddSaid : Prop := fnCheckAddRow.holds Try.pinned (OpenSpec.ofChange fnCheckAddSpec)

/-- ITS FALSE NEIGHBOUR: 'it returns false'. Refute it at one input. -/
def fnCheckAddWrong : ChangeSpec := { name := "fnCheckAdd", fn := fun _ => fun
  | [d1, d2] => { results := [.lit (.bool false)], args := [d1, d2] }
  | _ => none }
def FnCheckAddWrongFalsely : Prop := fnCheckAddRow.holds Try.pinned (OpenSpec.ofChange fnCheckAddWrong)

/-- 'laws.FnCheckSub': WHATEVER THE INPUT: true; the input reads as it did. -/
def fnCheckSubSpec : ChangeSpec := { name := "fnCheckSub", fn := fun _ => fun
  | [d1, d2] => { results := [.lit (.bool true)], args := [d1, d2] }
  | _ => none }
def fnCheckSubRow : OpenClaim := { program := "ytjfefhjnpokcbaa", sum := "03f96efba748111861d93e193666d494c0081e90c402830b755b4a7246f76bc2", func := "loop.example/pub-g01479/laws.FnCheckSub", spec := "fnCheckSub", apart := false }
def FnCheckSubSaid : Prop := fnCheckSubRow.holds Try.pinned (OpenSpec.ofChange fnCheckSubSpec)

/-- ITS FALSE NEIGHBOUR: 'it returns false'. Refute it at one input. -/
def fnCheckSubWrong : ChangeSpec := { name := "fnCheckSub", fn := fun _ => fun
  | [d1, d2] => { results := [.lit (.bool false)], args := [d1, d2] }
  | _ => none }
def FnCheckSubWrongFalsely : Prop := fnCheckSubRow.holds Try.pinned (OpenSpec.ofChange fnCheckSubWrong)

/-- 'laws.FnQScale': WHATEVER THE INPUT: true; the input reads as it did. -/
def fnQScaleSpec : ChangeSpec := { name := "fnQScale", fn := fun _ => fun
  | [d1, d2, d3] => { results := [.lit (.bool true)], args := [d1, d2, d3] }
  | _ => none }
def fnQScaleRow : OpenClaim := { program := "ytjfefhjnpokcbaa", sum := "03f96efba748111861d93e193666d494c0081e90c402830b755b4a7246f76bc2", func := "loop.example/pub-g01479/laws.FnQScale", spec := "fnQScale", apart := false }
def FnQScaleSaid : Prop := fnQScaleRow.holds Try.pinned (OpenSpec.ofChange fnQScaleSpec)

/-- ITS FALSE NEIGHBOUR: 'it returns false'. Refute it at one input. -/
def fnQScaleWrong : ChangeSpec := { name := "fnQScale", fn := fun _ => fun
  | [d1, d2, d3] => { results := [.lit (.bool false)], args := [d1, d2, d3] }
  | _ => none }
def FnQScaleWrongFalsely : Prop := fnQScaleRow.holds Try.pinned (OpenSpec.ofChange fnQScaleWrong)

/-- 'laws.FnPlus128': WHATEVER THE INPUT: true; the input reads as it did. -/
def fnPlus128Spec : ChangeSpec := { name := "fnPlus128", fn := fun _ => fun
  | [d1, d2] => { results := [.lit (.bool true)], args := [d1, d2] }
  | _ => none }
def fnPlus128Row : OpenClaim := { program := "ytjfefhjnpokcbaa", sum := "03f96efba748111861d93e193666d494c0081e90c402830b755b4a7246f76bc2", func := "loop.example/pub-g01479/laws.FnPlus128", spec := "fnPlus128", apart := false }
def FnPlus128Said : Prop := fnPlus128Row.holds Try.pinned (OpenSpec.ofChange fnPlus128Spec)

/-- ITS FALSE NEIGHBOUR: 'it returns false'. Refute it at one input. -/
def fnPlus128Wrong : ChangeSpec := { name := "fnPlus128", fn := fun _ => fun
  | [d1, d2] => { results := [.lit (.bool false)], args := [d1, d2] }
  | _ => none }
def FnPlus128WrongFalsely : Prop := fnPlus128Row.holds Try.pinned (OpenSpec.ofChange fnPlus128Wrong)

/-- 'laws.FnAbs': WHATEVER THE INPUT: true; the input reads as it did. -/
def fnAbsSpec : ChangeSpec := { name := "fnAbs", fn := fun _ => fun
  | [d] => { results := [.lit (.bool true)], args := [d] }
  | _ => none }
def fnAbsRow : OpenClaim := { program := "ytjfefhjnpokcbaa", sum := "03f96efba748111861d93e193666d494c0081e90c402830b755b4a7246f76bc2", func := "loop.example/pub-g01479/laws.FnAbs", spec := "fnAbs", apart := false }
def FnAbsSaid : Prop := fnAbsRow.holds Try.pinned (OpenSpec.ofChange fnAbsSpec)

/-- ITS FALSE NEIGHBOUR: 'it returns false'. Refute it at one input. -/
def fnAbsWrong : ChangeSpec := { name := "fnAbs", fn := fun _ => fun
  | [d] => { results := [.lit (.bool false)], args := [d] }
  | _ => none }
def FnAbsWrongFalsely : Prop := fnAbsRow.holds Try.pinned (OpenSpec.ofChange fnAbsWrong)

/-- 'laws.FnRol': WHATEVER THE INPUT: true; the input reads as it did. -/
def fnRolSpec : ChangeSpec := { name := "fnRol", fn := fun _ => fun
  | [d1, d2] => { results := [.lit (.bool true)], args := [d1, d2] }
  | _ => none }
def fnRolRow : OpenClaim := { program := "ytjfefhjnpokcbaa", sum := "03f96efba748111861d93e193666d494c0081e90c402830b755b4a7246f76bc2", func := "loop.example/pub-g01479/laws.FnRol", spec := "fnRol", apart := false }
def FnRolSaid : Prop := fnRolRow.holds Try.pinned (OpenSpec.ofChange fnRolSpec)

/-- ITS FALSE NEIGHBOUR: 'it returns false'. Refute it at one input. -/
def fnRolWrong : ChangeSpec := { name := "fnRol", fn := fun _ => fun
  | [d1, d2] => { results := [.lit (.bool false)], args := [d1, d2] }
  | _ => none }
def FnRolWrongFalsely : Prop := fnRolRow.holds Try.pinned (OpenSpec.ofChange fnRolWrong)

/-- 'laws.FnQCmp': WHATEVER THE INPUT: true; the input reads as it did. -/
def fnQCmpSpec : ChangeSpec := { name := "fnQCmp", fn := fun _ => fun
  | [d1, d2, d3, d4] => { results := [.lit (.bool true)], args := [d1, d2, d3, d4] }
  | _ => none }
def fnQCmpRow : OpenClaim := { program := "ytjfefhjnpokcbaa", sum := "03f96efba748111861d93e193666d494c0081e90c402830b755b4a7246f76bc2", func := "loop.example/pub-g01479/laws.FnQCmp", spec := "fnQCmp", apart := false }
def FnQCmpSaid : Prop := fnQCmpRow.holds Try.pinned (OpenSpec.ofChange fnQCmpSpec)

/-- ITS FALSE NEIGHBOUR: 'it returns false'. Refute it at one input. -/
def fnQCmpWrong : ChangeSpec := { name := "fnQCmp", fn := fun _ => fun
  | [d1, d2, d3, d4] => { results := [.lit (.bool false)], args := [d1, d2, d3, d4] }
  | _ => none }
def FnQCmpWrongFalsely : Prop := fnQCmpRow.holds Try.pinned (OpenSpec.ofChange fnQCmpWrong)

/-- 'laws.FnRoot32': WHATEVER THE INPUT: true; the input reads as it did. -/
def fnRoot32Spec : ChangeSpec := { name := "fnRoot32", fn := fun _ => fun
  | [d] => { results := [.lit (.bool true)], args := [d] }
  | _ => none }
def fnRoot32Row : OpenClaim := { program := "ytjfefhjnpokcbaa", sum := "03f96efba748111861d93e193666d494c0081e90c402830b755b4a7246f76bc2", func := "loop.example/pub-g01479/laws.FnRoot32", spec := "fnRoot32", apart := false }
def FnRoot32Said : Prop := fnRoot32Row.holds Try.pinned (OpenSpec.ofChange fnRoot32Spec)

/-- ITS FALSE NEIGHBOUR: 'it returns false'. Refute it at one input. -/
def fnRoot32Wrong : ChangeSpec := { name := "fnRoot32", fn := fun _ => fun
  | [d] => { results := [.lit (.bool false)], args := [d] }
  | _ => none }
def FnRoot32WrongFalsely : Prop := fnRoot32Row.holds Try.pinned (OpenSpec.ofChange fnRoot32Wrong)

/-- 'laws.FnRoot32Squares': WHATEVER THE INPUT: true; the input reads as it did. -/
def fnRoot32SquaresSpec : ChangeSpec := { name := "fnRoot32Squares", fn := fun _ => fun
  | [d] => { results := [.lit (.bool true)], args := [d] }
  | _ => none }
def fnRoot32SquaresRow : OpenClaim := { program := "ytjfefhjnpokcbaa", sum := "03f96efba748111861d93e193666d494c0081e90c402830b755b4a7246f76bc2", func := "loop.example/pub-g01479/laws.FnRoot32Squares", spec := "fnRoot32Squares", apart := false }
def FnRoot32SquaresSaid : Prop := fnRoot32SquaresRow.holds Try.pinned (OpenSpec.ofChange fnRoot32SquaresSpec)

/-- ITS FALSE NEIGHBOUR: 'it returns false'. Refute it at one input. -/
def fnRoot32SquaresWrong : ChangeSpec := { name := "fnRoot32Squares", fn := fun _ => fun
  | [d] => { results := [.lit (.bool false)], args := [d] }
  | _ => none }
def FnRoot32SquaresWrongFalsely : Prop := fnRoot32SquaresRow.holds Try.pinned (OpenSpec.ofChange fnRoot32SquaresWrong)

/-- 'laws.FnRoot64': WHATEVER THE INPUT: true; the input reads as it did. -/
def fnRoot64Spec : ChangeSpec := { name := "fnRoot64", fn := fun _ => fun
  | [d] => { results := [.lit (.bool true)], args := [d] }
  | _ => none }
def fnRoot64Row : OpenClaim := { program := "ytjfefhjnpokcbaa", sum := "03f96efba748111861d93e193666d494c0081e90c402830b755b4a7246f76bc2", func := "loop.example/pub-g01479/laws.FnRoot64", spec := "fnRoot64", apart := false }
def FnRoot64Said : Prop := fnRoot64Row.holds Try.pinned (OpenSpec.ofChange fnRoot64Spec)

/-- ITS FALSE NEIGHBOUR: 'it returns false'. Refute it at one input. -/
def fnRoot64Wrong : ChangeSpec := { name := "fnRoot64", fn := fun _ => fun
  | [d] => { results := [.lit (.bool false)], args := [d] }
  | _ => none }
def FnRoot64WrongFalsely : Prop := fnRoot64Row.holds Try.pinned (OpenSpec.ofChange fnRoot64Wrong)

/-- 'laws.FnRoot64Squares': WHATEVER THE INPUT: true; the input reads as it did. -/
def fnRoot64SquaresSpec : ChangeSpec := { name := "fnRoot64Squares", fn := fun _ => fun
  | [d] => { results := [.lit (.bool true)], args := [d] }
  | _ => none }
def fnRoot64SquaresRow : OpenClaim := { program := "ytjfefhjnpokcbaa", sum := "03f96efba748111861d93e193666d494c0081e90c402830b755b4a7246f76bc2", func := "loop.example/pub-g01479/laws.FnRoot64Squares", spec := "fnRoot64Squares", apart := false }
def FnRoot64SquaresSaid : Prop := fnRoot64SquaresRow.holds Try.pinned (OpenSpec.ofChange fnRoot64SquaresSpec)

/-- ITS FALSE NEIGHBOUR: 'it returns false'. Refute it at one input. -/
def fnRoot64SquaresWrong : ChangeSpec := { name := "fnRoot64Squares", fn := fun _ => fun
  | [d] => { results := [.lit (.bool false)], args := [d] }
  | _ => none }
def FnRoot64SquaresWrongFalsely : Prop := fnRoot64SquaresRow.holds Try.pinned (OpenSpec.ofChange fnRoot64SquaresWrong)

/-- 'laws.FnDelete': WHATEVER THE INPUT: true; the input reads as it did. -/
def fnDeleteSpec : ChangeSpec := { name := "fnDelete", fn := fun _ => fun
  | [d1, d2] => { results := [.lit (.bool true)], args := [d1, d2] }
  | _ => none }
def fnDeleteRow : OpenClaim := { program := "ytjfefhjnpokcbaa", sum := "03f96efba748111861d93e193666d494c0081e90c402830b755b4a7246f76bc2", func := "loop.example/pub-g01479/laws.FnDelete", spec := "fnDelete", apart := false }
def FnDeleteSaid : Prop := fnDeleteRow.holds Try.pinned (OpenSpec.ofChange fnDeleteSpec)

/-- ITS FALSE NEIGHBOUR: 'it returns false'. Refute it at one input. -/
def fnDeleteWrong : ChangeSpec := { name := "fnDelete", fn := fun _ => fun
  | [d1, d2] => { results := [.lit (.bool false)], args := [d1, d2] }
  | _ => none }
def FnDeleteWrongFalsely : Prop := fnDeleteRow.holds Try.pinned (OpenSpec.ofChange fnDeleteWrong)

/- THE SECOND FORM. 'bulk': how many values and letters a reading holds, each counted each time it is reached (what is shared counts as often as it is met; a slice's spare places count too). A statement '..UptoSaid' is the law's where the arguments, and the package variables that the reading takes, are together of bulk at most 1048576: NARROWER than '..Said'. Prove '..Said' where nothing that the law and all that it calls make is longer than what came in: it says more and counts as full. Else prove '..UptoSaid'. A law counts once. -/
mutual
def uptoBulk {H : Type} : DataW H → Nat
  | .lit (.string bytes) => bytes.length + 1
  | .lit _ => 1
  | .nil => 1
  | .ptr d => uptoBulk d + 1
  | .slice elems spare => uptoBulkAll elems + uptoBulkAll spare + 1
  | .agg parts => uptoBulkAll parts + 1
  | .iface _ d => uptoBulk d + 1
  | .map entries => uptoBulkEntries entries + 1
  | .held _ => 1
def uptoBulkAll {H : Type} : List (DataW H) → Nat
  | [] => 0
  | d :: r => uptoBulk d + uptoBulkAll r
def uptoBulkEntries {H : Type} : List (Lit × DataW H) → Nat
  | [] => 0
  | x :: r => uptoBulkEntry x + uptoBulkEntries r
def uptoBulkEntry {H : Type} : Lit × DataW H → Nat
  | (.string bytes, d) => bytes.length + uptoBulk d + 1
  | (_, d) => uptoBulk d + 1
 end
def uptoSmall : (H : Type) → List (DataW H) → Bool := fun _ ds => decide (uptoBulkAll ds ≤ 1048576)
def OpenSpec.upto (s : _root_.Go.ChangeSpec) : _root_.Go.OpenSpec := { _root_.Go.OpenSpec.ofChange s with cond := some uptoSmall }

/-- 'laws.FnCheckAdd', WHERE WHAT IT READS IS OF BULK AT MOST 1048576: true; the input reads as it did. -/
def fnCheckAddUptoRow : OpenClaim := { program := "ytjfefhjnpokcbaa", sum := "03f96efba748111861d93e193666d494c0081e90c402830b755b4a7246f76bc2", func := "loop.example/pub-g01479/laws.FnCheckAdd", spec := "fnCheckAdd", apart := false, narrowed := true }
def FnCheckAddUptoSaid : Prop := fnCheckAddUptoRow.holds Try.pinned (OpenSpec.upto fnCheckAddSpec)

/-- 'laws.FnCheckSub', WHERE WHAT IT READS IS OF BULK AT MOST 1048576: true; the input reads as it did. -/
def fnCheckSubUptoRow : OpenClaim := { program := "ytjfefhjnpokcbaa", sum := "03f96efba748111861d93e193666d494c0081e90c402830b755b4a7246f76bc2", func := "loop.example/pub-g01479/laws.FnCheckSub", spec := "fnCheckSub", apart := false, narrowed := true }
def FnCheckSubUptoSaid : Prop := fnCheckSubUptoRow.holds Try.pinned (OpenSpec.upto fnCheckSubSpec)

/-- 'laws.FnQScale', WHERE WHAT IT READS IS OF BULK AT MOST 1048576: true; the input reads as it did. -/
def fnQScaleUptoRow : OpenClaim := { program := "ytjfefhjnpokcbaa", sum := "03f96efba748111861d93e193666d494c0081e90c402830b755b4a7246f76bc2", func := "loop.example/pub-g01479/laws.FnQScale", spec := "fnQScale", apart := false, narrowed := true }
def FnQScaleUptoSaid : Prop := fnQScaleUptoRow.holds Try.pinned (OpenSpec.upto fnQScaleSpec)

/-- 'laws.FnPlus128', WHERE WHAT IT READS IS OF BULK AT MOST 1048576: true; the input reads as it did. -/
def fnPlus128UptoRow : OpenClaim := { program := "ytjfefhjnpokcbaa", sum := "03f96efba748111861d93e193666d494c0081e90c402830b755b4a7246f76bc2", func := "loop.example/pub-g01479/laws.FnPlus128", spec := "fnPlus128", apart := false, narrowed := true }
def FnPlus128UptoSaid : Prop := fnPlus128UptoRow.holds Try.pinned (OpenSpec.upto fnPlus128Spec)

/-- 'laws.FnAbs', WHERE WHAT IT READS IS OF BULK AT MOST 1048576: true; the input reads as it did. -/
def fnAbsUptoRow : OpenClaim := { program := "ytjfefhjnpokcbaa", sum := "03f96efba748111861d93e193666d494c0081e90c402830b755b4a7246f76bc2", func := "loop.example/pub-g01479/laws.FnAbs", spec := "fnAbs", apart := false, narrowed := true }
def FnAbsUptoSaid : Prop := fnAbsUptoRow.holds Try.pinned (OpenSpec.upto fnAbsSpec)

/-- 'laws.FnRol', WHERE WHAT IT READS IS OF BULK AT MOST 1048576: true; the input reads as it did. -/
def fnRolUptoRow : OpenClaim := { program := "ytjfefhjnpokcbaa", sum := "03f96efba748111861d93e193666d494c0081e90c402830b755b4a7246f76bc2", func := "loop.example/pub-g01479/laws.FnRol", spec := "fnRol", apart := false, narrowed := true }
def FnRolUptoSaid : Prop := fnRolUptoRow.holds Try.pinned (OpenSpec.upto fnRolSpec)

/-- 'laws.FnQCmp', WHERE WHAT IT READS IS OF BULK AT MOST 1048576: true; the input reads as it did. -/
def fnQCmpUptoRow : OpenClaim := { program := "ytjfefhjnpokcbaa", sum := "03f96efba748111861d93e193666d494c0081e90c402830b755b4a7246f76bc2", func := "loop.example/pub-g01479/laws.FnQCmp", spec := "fnQCmp", apart := false, narrowed := true }
def FnQCmpUptoSaid : Prop := fnQCmpUptoRow.holds Try.pinned (OpenSpec.upto fnQCmpSpec)

/-- 'laws.FnRoot32', WHERE WHAT IT READS IS OF BULK AT MOST 1048576: true; the input reads as it did. -/
def fnRoot32UptoRow : OpenClaim := { program := "ytjfefhjnpokcbaa", sum := "03f96efba748111861d93e193666d494c0081e90c402830b755b4a7246f76bc2", func := "loop.example/pub-g01479/laws.FnRoot32", spec := "fnRoot32", apart := false, narrowed := true }
def FnRoot32UptoSaid : Prop := fnRoot32UptoRow.holds Try.pinned (OpenSpec.upto fnRoot32Spec)

/-- 'laws.FnRoot32Squares', WHERE WHAT IT READS IS OF BULK AT MOST 1048576: true; the input reads as it did. -/
def fnRoot32SquaresUptoRow : OpenClaim := { program := "ytjfefhjnpokcbaa", sum := "03f96efba748111861d93e193666d494c0081e90c402830b755b4a7246f76bc2", func := "loop.example/pub-g01479/laws.FnRoot32Squares", spec := "fnRoot32Squares", apart := false, narrowed := true }
def FnRoot32SquaresUptoSaid : Prop := fnRoot32SquaresUptoRow.holds Try.pinned (OpenSpec.upto fnRoot32SquaresSpec)

/-- 'laws.FnRoot64', WHERE WHAT IT READS IS OF BULK AT MOST 1048576: true; the input reads as it did. -/
def fnRoot64UptoRow : OpenClaim := { program := "ytjfefhjnpokcbaa", sum := "03f96efba748111861d93e193666d494c0081e90c402830b755b4a7246f76bc2", func := "loop.example/pub-g01479/laws.FnRoot64", spec := "fnRoot64", apart := false, narrowed := true }
def FnRoot64UptoSaid : Prop := fnRoot64UptoRow.holds Try.pinned (OpenSpec.upto fnRoot64Spec)

/-- 'laws.FnRoot64Squares', WHERE WHAT IT READS IS OF BULK AT MOST 1048576: true; the input reads as it did. -/
def fnRoot64SquaresUptoRow : OpenClaim := { program := "ytjfefhjnpokcbaa", sum := "03f96efba748111861d93e193666d494c0081e90c402830b755b4a7246f76bc2", func := "loop.example/pub-g01479/laws.FnRoot64Squares", spec := "fnRoot64Squares", apart := false, narrowed := true }
def FnRoot64SquaresUptoSaid : Prop := fnRoot64SquaresUptoRow.holds Try.pinned (OpenSpec.upto fnRoot64SquaresSpec)

/-- 'laws.FnDelete', WHERE WHAT IT READS IS OF BULK AT MOST 1048576: true; the input reads as it did. -/
def fnDeleteUptoRow : OpenClaim := { program := "ytjfefhjnpokcbaa", sum := "03f96efba748111861d93e193666d494c0081e90c402830b755b4a7246f76bc2", func := "loop.example/pub-g01479/laws.FnDelete", spec := "fnDelete", apart := false, narrowed := true }
def FnDeleteUptoSaid : Prop := fnDeleteUptoRow.holds Try.pinned (OpenSpec.upto fnDeleteSpec)

end Rows
end Go.Proofs.Ytjfefhjnpokcbaa
