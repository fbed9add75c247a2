/-
  NARROWER THAN 'FOR EVERY INPUT', by the rows' own cells (each row's printed sentence says how): FnDiscriminant: laid · FnQuadFactors: laid · FnQuadMade: laid.
  DERIVED. THE GIVEN ROWS OF THIS SEAT. 3 by the template 'for every input the law returns true; each argument reads behind the call as it read before'; 0 by the template 'total and deterministic' (their statements: YtpelipdecjooeaaDoorTotals.lean).
  GIVEN WITH THE SEED: the statements are not yours to turn. If you find one false, say at which input.
  Laid BY PROGRAM, IN A SANDBOX (cutbox-rows.mjs): the forced cells as the released guide's own fill.sh prints them over the translation f1b3bed224dda995… (all of the seat's roots in one cut). By AI agents, Wed Nov 11 2026. No macro, syntax, notation, axiom, sorry.
-/
import Derived.Test.YtpelipdecjooeaaDoorChecked
import GoSem.Claim
import GoSem.ClaimJoined
import GoSem.ClaimMapViews
import Derived.JoinedTies
import Derived.KernelRfl
namespace Go.Proofs.YtpelipdecjooeaaDoor
/- THE CELL 'sum', in the pinned program and in every row, IS THE sha256 OF THE DUMP (.gsa) THAT YtpelipdecjooeaaDoorProg.lean LOADS. Nothing in Lean hashes anything: it is a label: what it is worth is what the hold of that sum in a sandbox is worth. -/
noncomputable def Tryd.pinned : Pinned := { name := "ytpelipdecjooeaadoor", sum := "f1b3bed224dda995b50c99bbaa394a4dce6d94ae73de6ee1e7d4fe3266559f6d", checked := Tryd.checked }
namespace Rows
def none {H : Type} : Left H := { results := [], args := [] }

/- WHAT THE LISTED PACKAGE-LEVEL VARIABLES READ AS WHEN THE CALL BEGINS. Each datum BY PROGRAM (the guide's laid-datum.mjs) off the statement by which the dump's own 'gosem.cut.vars' lays the variable. In a bare row this is a premise. The card (YtpelipdecjooeaaDoorCards.lean) ties it to the program's text. -/
def laid_loop_example_pub_g01479_pub_mathutil_log2 {H : Type} : DataW H := .agg [.lit (.int .i64 (-1)), .lit (.int .i64 0), .lit (.int .i64 1), .lit (.int .i64 1), .lit (.int .i64 2), .lit (.int .i64 2), .lit (.int .i64 2), .lit (.int .i64 2), .lit (.int .i64 3), .lit (.int .i64 3), .lit (.int .i64 3), .lit (.int .i64 3), .lit (.int .i64 3), .lit (.int .i64 3), .lit (.int .i64 3), .lit (.int .i64 3), .lit (.int .i64 4), .lit (.int .i64 4), .lit (.int .i64 4), .lit (.int .i64 4), .lit (.int .i64 4), .lit (.int .i64 4), .lit (.int .i64 4), .lit (.int .i64 4), .lit (.int .i64 4), .lit (.int .i64 4), .lit (.int .i64 4), .lit (.int .i64 4), .lit (.int .i64 4), .lit (.int .i64 4), .lit (.int .i64 4), .lit (.int .i64 4), .lit (.int .i64 5), .lit (.int .i64 5), .lit (.int .i64 5), .lit (.int .i64 5), .lit (.int .i64 5), .lit (.int .i64 5), .lit (.int .i64 5), .lit (.int .i64 5), .lit (.int .i64 5), .lit (.int .i64 5), .lit (.int .i64 5), .lit (.int .i64 5), .lit (.int .i64 5), .lit (.int .i64 5), .lit (.int .i64 5), .lit (.int .i64 5), .lit (.int .i64 5), .lit (.int .i64 5), .lit (.int .i64 5), .lit (.int .i64 5), .lit (.int .i64 5), .lit (.int .i64 5), .lit (.int .i64 5), .lit (.int .i64 5), .lit (.int .i64 5), .lit (.int .i64 5), .lit (.int .i64 5), .lit (.int .i64 5), .lit (.int .i64 5), .lit (.int .i64 5), .lit (.int .i64 5), .lit (.int .i64 5), .lit (.int .i64 6), .lit (.int .i64 6), .lit (.int .i64 6), .lit (.int .i64 6), .lit (.int .i64 6), .lit (.int .i64 6), .lit (.int .i64 6), .lit (.int .i64 6), .lit (.int .i64 6), .lit (.int .i64 6), .lit (.int .i64 6), .lit (.int .i64 6), .lit (.int .i64 6), .lit (.int .i64 6), .lit (.int .i64 6), .lit (.int .i64 6), .lit (.int .i64 6), .lit (.int .i64 6), .lit (.int .i64 6), .lit (.int .i64 6), .lit (.int .i64 6), .lit (.int .i64 6), .lit (.int .i64 6), .lit (.int .i64 6), .lit (.int .i64 6), .lit (.int .i64 6), .lit (.int .i64 6), .lit (.int .i64 6), .lit (.int .i64 6), .lit (.int .i64 6), .lit (.int .i64 6), .lit (.int .i64 6), .lit (.int .i64 6), .lit (.int .i64 6), .lit (.int .i64 6), .lit (.int .i64 6), .lit (.int .i64 6), .lit (.int .i64 6), .lit (.int .i64 6), .lit (.int .i64 6), .lit (.int .i64 6), .lit (.int .i64 6), .lit (.int .i64 6), .lit (.int .i64 6), .lit (.int .i64 6), .lit (.int .i64 6), .lit (.int .i64 6), .lit (.int .i64 6), .lit (.int .i64 6), .lit (.int .i64 6), .lit (.int .i64 6), .lit (.int .i64 6), .lit (.int .i64 6), .lit (.int .i64 6), .lit (.int .i64 6), .lit (.int .i64 6), .lit (.int .i64 6), .lit (.int .i64 6), .lit (.int .i64 6), .lit (.int .i64 6), .lit (.int .i64 6), .lit (.int .i64 6), .lit (.int .i64 6), .lit (.int .i64 6), .lit (.int .i64 7), .lit (.int .i64 7), .lit (.int .i64 7), .lit (.int .i64 7), .lit (.int .i64 7), .lit (.int .i64 7), .lit (.int .i64 7), .lit (.int .i64 7), .lit (.int .i64 7), .lit (.int .i64 7), .lit (.int .i64 7), .lit (.int .i64 7), .lit (.int .i64 7), .lit (.int .i64 7), .lit (.int .i64 7), .lit (.int .i64 7), .lit (.int .i64 7), .lit (.int .i64 7), .lit (.int .i64 7), .lit (.int .i64 7), .lit (.int .i64 7), .lit (.int .i64 7), .lit (.int .i64 7), .lit (.int .i64 7), .lit (.int .i64 7), .lit (.int .i64 7), .lit (.int .i64 7), .lit (.int .i64 7), .lit (.int .i64 7), .lit (.int .i64 7), .lit (.int .i64 7), .lit (.int .i64 7), .lit (.int .i64 7), .lit (.int .i64 7), .lit (.int .i64 7), .lit (.int .i64 7), .lit (.int .i64 7), .lit (.int .i64 7), .lit (.int .i64 7), .lit (.int .i64 7), .lit (.int .i64 7), .lit (.int .i64 7), .lit (.int .i64 7), .lit (.int .i64 7), .lit (.int .i64 7), .lit (.int .i64 7), .lit (.int .i64 7), .lit (.int .i64 7), .lit (.int .i64 7), .lit (.int .i64 7), .lit (.int .i64 7), .lit (.int .i64 7), .lit (.int .i64 7), .lit (.int .i64 7), .lit (.int .i64 7), .lit (.int .i64 7), .lit (.int .i64 7), .lit (.int .i64 7), .lit (.int .i64 7), .lit (.int .i64 7), .lit (.int .i64 7), .lit (.int .i64 7), .lit (.int .i64 7), .lit (.int .i64 7), .lit (.int .i64 7), .lit (.int .i64 7), .lit (.int .i64 7), .lit (.int .i64 7), .lit (.int .i64 7), .lit (.int .i64 7), .lit (.int .i64 7), .lit (.int .i64 7), .lit (.int .i64 7), .lit (.int .i64 7), .lit (.int .i64 7), .lit (.int .i64 7), .lit (.int .i64 7), .lit (.int .i64 7), .lit (.int .i64 7), .lit (.int .i64 7), .lit (.int .i64 7), .lit (.int .i64 7), .lit (.int .i64 7), .lit (.int .i64 7), .lit (.int .i64 7), .lit (.int .i64 7), .lit (.int .i64 7), .lit (.int .i64 7), .lit (.int .i64 7), .lit (.int .i64 7), .lit (.int .i64 7), .lit (.int .i64 7), .lit (.int .i64 7), .lit (.int .i64 7), .lit (.int .i64 7), .lit (.int .i64 7), .lit (.int .i64 7), .lit (.int .i64 7), .lit (.int .i64 7), .lit (.int .i64 7), .lit (.int .i64 7), .lit (.int .i64 7), .lit (.int .i64 7), .lit (.int .i64 7), .lit (.int .i64 7), .lit (.int .i64 7), .lit (.int .i64 7), .lit (.int .i64 7), .lit (.int .i64 7), .lit (.int .i64 7), .lit (.int .i64 7), .lit (.int .i64 7), .lit (.int .i64 7), .lit (.int .i64 7), .lit (.int .i64 7), .lit (.int .i64 7), .lit (.int .i64 7), .lit (.int .i64 7), .lit (.int .i64 7), .lit (.int .i64 7), .lit (.int .i64 7), .lit (.int .i64 7), .lit (.int .i64 7), .lit (.int .i64 7), .lit (.int .i64 7), .lit (.int .i64 7), .lit (.int .i64 7), .lit (.int .i64 7)]

/-- 'laws.FnDiscriminant': WHATEVER THE INPUT: true; the input reads as it did. -/
def fnDiscriminantSpec : ChangeSpec := { name := "fnDiscriminant", vars := ["loop.example/pub-g01479/pub/mathutil.log2"], fn := fun _ => fun
  | [d1, d2, d3, g1] => { results := [.lit (.bool true)], args := [d1, d2, d3], vars := [g1] }
  | _ => none }
def fnDiscriminantRow : OpenClaim := { program := "ytpelipdecjooeaadoor", sum := "f1b3bed224dda995b50c99bbaa394a4dce6d94ae73de6ee1e7d4fe3266559f6d", func := "loop.example/pub-g01479/laws.FnDiscriminant", spec := "fnDiscriminant", named := ["loop.example/pub-g01479/pub/mathutil.log2"], apart := false, laid := [("loop.example/pub-g01479/pub/mathutil.log2", laid_loop_example_pub_g01479_pub_mathutil_log2)] }
def FnDiscriminantSaid : Prop := fnDiscriminantRow.holds Tryd.pinned (OpenSpec.ofChange fnDiscriminantSpec)

/-- ITS FALSE NEIGHBOUR: 'it returns false'. Refute it at one input. -/
def fnDiscriminantWrong : ChangeSpec := { name := "fnDiscriminant", vars := ["loop.example/pub-g01479/pub/mathutil.log2"], fn := fun _ => fun
  | [d1, d2, d3, g1] => { results := [.lit (.bool false)], args := [d1, d2, d3], vars := [g1] }
  | _ => none }
def FnDiscriminantWrongFalsely : Prop := fnDiscriminantRow.holds Tryd.pinned (OpenSpec.ofChange fnDiscriminantWrong)

/-- 'laws.FnQuadFactors': WHATEVER THE INPUT: true; the input reads as it did. -/
def fnQuadFactorsSpec : ChangeSpec := { name := "fnQuadFactors", vars := ["loop.example/pub-g01479/pub/mathutil.log2"], fn := fun _ => fun
  | [d1, d2, d3, g1] => { results := [.lit (.bool true)], args := [d1, d2, d3], vars := [g1] }
  | _ => none }
def fnQuadFactorsRow : OpenClaim := { program := "ytpelipdecjooeaadoor", sum := "f1b3bed224dda995b50c99bbaa394a4dce6d94ae73de6ee1e7d4fe3266559f6d", func := "loop.example/pub-g01479/laws.FnQuadFactors", spec := "fnQuadFactors", named := ["loop.example/pub-g01479/pub/mathutil.log2"], apart := false, laid := [("loop.example/pub-g01479/pub/mathutil.log2", laid_loop_example_pub_g01479_pub_mathutil_log2)] }
def FnQuadFactorsSaid : Prop := fnQuadFactorsRow.holds Tryd.pinned (OpenSpec.ofChange fnQuadFactorsSpec)

/-- ITS FALSE NEIGHBOUR: 'it returns false'. Refute it at one input. -/
def fnQuadFactorsWrong : ChangeSpec := { name := "fnQuadFactors", vars := ["loop.example/pub-g01479/pub/mathutil.log2"], fn := fun _ => fun
  | [d1, d2, d3, g1] => { results := [.lit (.bool false)], args := [d1, d2, d3], vars := [g1] }
  | _ => none }
def FnQuadFactorsWrongFalsely : Prop := fnQuadFactorsRow.holds Tryd.pinned (OpenSpec.ofChange fnQuadFactorsWrong)

/-- 'laws.FnQuadMade': WHATEVER THE INPUT: true; the input reads as it did. -/
def fnQuadMadeSpec : ChangeSpec := { name := "fnQuadMade", vars := ["loop.example/pub-g01479/pub/mathutil.log2"], fn := fun _ => fun
  | [d1, d2, d3, d4, d5, g1] => { results := [.lit (.bool true)], args := [d1, d2, d3, d4, d5], vars := [g1] }
  | _ => none }
def fnQuadMadeRow : OpenClaim := { program := "ytpelipdecjooeaadoor", sum := "f1b3bed224dda995b50c99bbaa394a4dce6d94ae73de6ee1e7d4fe3266559f6d", func := "loop.example/pub-g01479/laws.FnQuadMade", spec := "fnQuadMade", named := ["loop.example/pub-g01479/pub/mathutil.log2"], apart := false, laid := [("loop.example/pub-g01479/pub/mathutil.log2", laid_loop_example_pub_g01479_pub_mathutil_log2)] }
def FnQuadMadeSaid : Prop := fnQuadMadeRow.holds Tryd.pinned (OpenSpec.ofChange fnQuadMadeSpec)

/-- ITS FALSE NEIGHBOUR: 'it returns false'. Refute it at one input. -/
def fnQuadMadeWrong : ChangeSpec := { name := "fnQuadMade", vars := ["loop.example/pub-g01479/pub/mathutil.log2"], fn := fun _ => fun
  | [d1, d2, d3, d4, d5, g1] => { results := [.lit (.bool false)], args := [d1, d2, d3, d4, d5], vars := [g1] }
  | _ => none }
def FnQuadMadeWrongFalsely : Prop := fnQuadMadeRow.holds Tryd.pinned (OpenSpec.ofChange fnQuadMadeWrong)

/- THE SECOND FORM. 'bulk': how many values and letters a reading holds, each counted each time it is reached (what is shared counts as often as it is met; a slice's spare places count too). A statement '..UptoSaid' is the law's where the arguments, and the package variables that the reading takes, are together of bulk at most 1048576: NARROWER than '..Said'. Prove '..Said' where nothing that the law and all that it calls make is longer than what came in: it says more and counts as full. Else prove '..UptoSaid'. A law counts once. -/
mutual
def uptoBulk {H : Type} : DataW H → Nat
  | .lit (.string bytes) => bytes.length + 1
  | .lit _ => 1
  | .nil => 1
  | .ptr d => uptoBulk d + 1
  | .slice elems spare => uptoBulkAll elems + uptoBulkAll spare + 1
  | .agg parts => uptoBulkAll parts + 1
  | .iface _ d => uptoBulk d + 1
  | .map entries => uptoBulkEntries entries + 1
  | .held _ => 1
def uptoBulkAll {H : Type} : List (DataW H) → Nat
  | [] => 0
  | d :: r => uptoBulk d + uptoBulkAll r
def uptoBulkEntries {H : Type} : List (Lit × DataW H) → Nat
  | [] => 0
  | x :: r => uptoBulkEntry x + uptoBulkEntries r
def uptoBulkEntry {H : Type} : Lit × DataW H → Nat
  | (.string bytes, d) => bytes.length + uptoBulk d + 1
  | (_, d) => uptoBulk d + 1
 end
def uptoSmall : (H : Type) → List (DataW H) → Bool := fun _ ds => decide (uptoBulkAll ds ≤ 1048576)
def OpenSpec.upto (s : _root_.Go.ChangeSpec) : _root_.Go.OpenSpec := { _root_.Go.OpenSpec.ofChange s with cond := some uptoSmall }

/-- 'laws.FnDiscriminant', WHERE WHAT IT READS IS OF BULK AT MOST 1048576: true; the input reads as it did. -/
def fnDiscriminantUptoRow : OpenClaim := { program := "ytpelipdecjooeaadoor", sum := "f1b3bed224dda995b50c99bbaa394a4dce6d94ae73de6ee1e7d4fe3266559f6d", func := "loop.example/pub-g01479/laws.FnDiscriminant", spec := "fnDiscriminant", named := ["loop.example/pub-g01479/pub/mathutil.log2"], apart := false, laid := [("loop.example/pub-g01479/pub/mathutil.log2", laid_loop_example_pub_g01479_pub_mathutil_log2)], narrowed := true }
def FnDiscriminantUptoSaid : Prop := fnDiscriminantUptoRow.holds Tryd.pinned (OpenSpec.upto fnDiscriminantSpec)

/-- 'laws.FnQuadFactors', WHERE WHAT IT READS IS OF BULK AT MOST 1048576: true; the input reads as it did. -/
def fnQuadFactorsUptoRow : OpenClaim := { program := "ytpelipdecjooeaadoor", sum := "f1b3bed224dda995b50c99bbaa394a4dce6d94ae73de6ee1e7d4fe3266559f6d", func := "loop.example/pub-g01479/laws.FnQuadFactors", spec := "fnQuadFactors", named := ["loop.example/pub-g01479/pub/mathutil.log2"], apart := false, laid := [("loop.example/pub-g01479/pub/mathutil.log2", laid_loop_example_pub_g01479_pub_mathutil_log2)], narrowed := true }
def FnQuadFactorsUptoSaid : Prop := fnQuadFactorsUptoRow.holds Tryd.pinned (OpenSpec.upto fnQuadFactorsSpec)

/-- 'laws.FnQuadMade', WHERE WHAT IT READS IS OF BULK AT MOST 1048576: true; the input reads as it did. -/
def fnQuadMadeUptoRow : OpenClaim := { program := "ytpelipdecjooeaadoor", sum := "f1b3bed224dda995b50c99bbaa394a4dce6d94ae73de6ee1e7d4fe3266559f6d", func := "loop.example/pub-g01479/laws.FnQuadMade", spec := "fnQuadMade", named := ["loop.example/pub-g01479/pub/mathutil.log2"], apart := false, laid := [("loop.example/pub-g01479/pub/mathutil.log2", laid_loop_example_pub_g01479_pub_mathutil_log2)], narrowed := true }
def FnQuadMadeUptoSaid : Prop := fnQuadMadeUptoRow.holds Tryd.pinned (OpenSpec.upto fnQuadMadeSpec)

end Rows
end Go.Proofs.YtpelipdecjooeaaDoor
