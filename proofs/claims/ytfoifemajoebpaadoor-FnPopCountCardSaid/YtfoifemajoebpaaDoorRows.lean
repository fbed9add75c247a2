/-
  NARROWER THAN 'FOR EVERY INPUT', by the rows' own cells (each row's printed sentence says how): FnBitLen: laid · FnLog2: laid · FnPopCount: laid · FnPopJoined: laid.
  DERIVED. THE GIVEN ROWS OF THIS SEAT. 4 by the template 'for every input the law returns true; each argument reads behind the call as it read before'; 0 by the template 'total and deterministic' (their statements: YtfoifemajoebpaaDoorTotals.lean).
  GIVEN WITH THE SEED: the statements are not yours to turn. If you find one false, say at which input.
  Laid BY PROGRAM, IN A SANDBOX (cutbox-rows.mjs): the forced cells as the released guide's own fill.sh prints them over the translation 7640e1bda727997d… (all of the seat's roots in one cut). By AI agents, Wed Nov 11 2026. No macro, syntax, notation, axiom, sorry.
-/
import Derived.Test.YtfoifemajoebpaaDoorChecked
import GoSem.Claim
import GoSem.ClaimJoined
import GoSem.ClaimMapViews
import Derived.JoinedTies
import Derived.KernelRfl
namespace Go.Proofs.YtfoifemajoebpaaDoor
/- THE CELL 'sum', in the pinned program and in every row, IS THE sha256 OF THE DUMP (.gsa) THAT YtfoifemajoebpaaDoorProg.lean LOADS. Nothing in Lean hashes anything: it is a label: what it is worth is what the hold of that sum in a sandbox is worth. -/
noncomputable def Tryd.pinned : Pinned := { name := "ytfoifemajoebpaadoor", sum := "7640e1bda727997d438128bce8f976a661e464c92667efdc8a207a011a8568bc", checked := Tryd.checked }
namespace Rows
def none {H : Type} : Left H := { results := [], args := [] }

/- WHAT THE LISTED PACKAGE-LEVEL VARIABLES READ AS WHEN THE CALL BEGINS. Each datum BY PROGRAM (the guide's laid-datum.mjs) off the statement by which the dump's own 'gosem.cut.vars' lays the variable. In a bare row this is a premise. The card (YtfoifemajoebpaaDoorCards.lean) ties it to the program's text. -/
def laid_loop_example_pub_g01479_pub_mathutil_popcnt {H : Type} : DataW H := .agg [.lit (.int .u8 0), .lit (.int .u8 1), .lit (.int .u8 1), .lit (.int .u8 2), .lit (.int .u8 1), .lit (.int .u8 2), .lit (.int .u8 2), .lit (.int .u8 3), .lit (.int .u8 1), .lit (.int .u8 2), .lit (.int .u8 2), .lit (.int .u8 3), .lit (.int .u8 2), .lit (.int .u8 3), .lit (.int .u8 3), .lit (.int .u8 4), .lit (.int .u8 1), .lit (.int .u8 2), .lit (.int .u8 2), .lit (.int .u8 3), .lit (.int .u8 2), .lit (.int .u8 3), .lit (.int .u8 3), .lit (.int .u8 4), .lit (.int .u8 2), .lit (.int .u8 3), .lit (.int .u8 3), .lit (.int .u8 4), .lit (.int .u8 3), .lit (.int .u8 4), .lit (.int .u8 4), .lit (.int .u8 5), .lit (.int .u8 1), .lit (.int .u8 2), .lit (.int .u8 2), .lit (.int .u8 3), .lit (.int .u8 2), .lit (.int .u8 3), .lit (.int .u8 3), .lit (.int .u8 4), .lit (.int .u8 2), .lit (.int .u8 3), .lit (.int .u8 3), .lit (.int .u8 4), .lit (.int .u8 3), .lit (.int .u8 4), .lit (.int .u8 4), .lit (.int .u8 5), .lit (.int .u8 2), .lit (.int .u8 3), .lit (.int .u8 3), .lit (.int .u8 4), .lit (.int .u8 3), .lit (.int .u8 4), .lit (.int .u8 4), .lit (.int .u8 5), .lit (.int .u8 3), .lit (.int .u8 4), .lit (.int .u8 4), .lit (.int .u8 5), .lit (.int .u8 4), .lit (.int .u8 5), .lit (.int .u8 5), .lit (.int .u8 6), .lit (.int .u8 1), .lit (.int .u8 2), .lit (.int .u8 2), .lit (.int .u8 3), .lit (.int .u8 2), .lit (.int .u8 3), .lit (.int .u8 3), .lit (.int .u8 4), .lit (.int .u8 2), .lit (.int .u8 3), .lit (.int .u8 3), .lit (.int .u8 4), .lit (.int .u8 3), .lit (.int .u8 4), .lit (.int .u8 4), .lit (.int .u8 5), .lit (.int .u8 2), .lit (.int .u8 3), .lit (.int .u8 3), .lit (.int .u8 4), .lit (.int .u8 3), .lit (.int .u8 4), .lit (.int .u8 4), .lit (.int .u8 5), .lit (.int .u8 3), .lit (.int .u8 4), .lit (.int .u8 4), .lit (.int .u8 5), .lit (.int .u8 4), .lit (.int .u8 5), .lit (.int .u8 5), .lit (.int .u8 6), .lit (.int .u8 2), .lit (.int .u8 3), .lit (.int .u8 3), .lit (.int .u8 4), .lit (.int .u8 3), .lit (.int .u8 4), .lit (.int .u8 4), .lit (.int .u8 5), .lit (.int .u8 3), .lit (.int .u8 4), .lit (.int .u8 4), .lit (.int .u8 5), .lit (.int .u8 4), .lit (.int .u8 5), .lit (.int .u8 5), .lit (.int .u8 6), .lit (.int .u8 3), .lit (.int .u8 4), .lit (.int .u8 4), .lit (.int .u8 5), .lit (.int .u8 4), .lit (.int .u8 5), .lit (.int .u8 5), .lit (.int .u8 6), .lit (.int .u8 4), .lit (.int .u8 5), .lit (.int .u8 5), .lit (.int .u8 6), .lit (.int .u8 5), .lit (.int .u8 6), .lit (.int .u8 6), .lit (.int .u8 7), .lit (.int .u8 1), .lit (.int .u8 2), .lit (.int .u8 2), .lit (.int .u8 3), .lit (.int .u8 2), .lit (.int .u8 3), .lit (.int .u8 3), .lit (.int .u8 4), .lit (.int .u8 2), .lit (.int .u8 3), .lit (.int .u8 3), .lit (.int .u8 4), .lit (.int .u8 3), .lit (.int .u8 4), .lit (.int .u8 4), .lit (.int .u8 5), .lit (.int .u8 2), .lit (.int .u8 3), .lit (.int .u8 3), .lit (.int .u8 4), .lit (.int .u8 3), .lit (.int .u8 4), .lit (.int .u8 4), .lit (.int .u8 5), .lit (.int .u8 3), .lit (.int .u8 4), .lit (.int .u8 4), .lit (.int .u8 5), .lit (.int .u8 4), .lit (.int .u8 5), .lit (.int .u8 5), .lit (.int .u8 6), .lit (.int .u8 2), .lit (.int .u8 3), .lit (.int .u8 3), .lit (.int .u8 4), .lit (.int .u8 3), .lit (.int .u8 4), .lit (.int .u8 4), .lit (.int .u8 5), .lit (.int .u8 3), .lit (.int .u8 4), .lit (.int .u8 4), .lit (.int .u8 5), .lit (.int .u8 4), .lit (.int .u8 5), .lit (.int .u8 5), .lit (.int .u8 6), .lit (.int .u8 3), .lit (.int .u8 4), .lit (.int .u8 4), .lit (.int .u8 5), .lit (.int .u8 4), .lit (.int .u8 5), .lit (.int .u8 5), .lit (.int .u8 6), .lit (.int .u8 4), .lit (.int .u8 5), .lit (.int .u8 5), .lit (.int .u8 6), .lit (.int .u8 5), .lit (.int .u8 6), .lit (.int .u8 6), .lit (.int .u8 7), .lit (.int .u8 2), .lit (.int .u8 3), .lit (.int .u8 3), .lit (.int .u8 4), .lit (.int .u8 3), .lit (.int .u8 4), .lit (.int .u8 4), .lit (.int .u8 5), .lit (.int .u8 3), .lit (.int .u8 4), .lit (.int .u8 4), .lit (.int .u8 5), .lit (.int .u8 4), .lit (.int .u8 5), .lit (.int .u8 5), .lit (.int .u8 6), .lit (.int .u8 3), .lit (.int .u8 4), .lit (.int .u8 4), .lit (.int .u8 5), .lit (.int .u8 4), .lit (.int .u8 5), .lit (.int .u8 5), .lit (.int .u8 6), .lit (.int .u8 4), .lit (.int .u8 5), .lit (.int .u8 5), .lit (.int .u8 6), .lit (.int .u8 5), .lit (.int .u8 6), .lit (.int .u8 6), .lit (.int .u8 7), .lit (.int .u8 3), .lit (.int .u8 4), .lit (.int .u8 4), .lit (.int .u8 5), .lit (.int .u8 4), .lit (.int .u8 5), .lit (.int .u8 5), .lit (.int .u8 6), .lit (.int .u8 4), .lit (.int .u8 5), .lit (.int .u8 5), .lit (.int .u8 6), .lit (.int .u8 5), .lit (.int .u8 6), .lit (.int .u8 6), .lit (.int .u8 7), .lit (.int .u8 4), .lit (.int .u8 5), .lit (.int .u8 5), .lit (.int .u8 6), .lit (.int .u8 5), .lit (.int .u8 6), .lit (.int .u8 6), .lit (.int .u8 7), .lit (.int .u8 5), .lit (.int .u8 6), .lit (.int .u8 6), .lit (.int .u8 7), .lit (.int .u8 6), .lit (.int .u8 7), .lit (.int .u8 7), .lit (.int .u8 8)]
def laid_loop_example_pub_g01479_pub_mathutil_log2 {H : Type} : DataW H := .agg [.lit (.int .i64 (-1)), .lit (.int .i64 0), .lit (.int .i64 1), .lit (.int .i64 1), .lit (.int .i64 2), .lit (.int .i64 2), .lit (.int .i64 2), .lit (.int .i64 2), .lit (.int .i64 3), .lit (.int .i64 3), .lit (.int .i64 3), .lit (.int .i64 3), .lit (.int .i64 3), .lit (.int .i64 3), .lit (.int .i64 3), .lit (.int .i64 3), .lit (.int .i64 4), .lit (.int .i64 4), .lit (.int .i64 4), .lit (.int .i64 4), .lit (.int .i64 4), .lit (.int .i64 4), .lit (.int .i64 4), .lit (.int .i64 4), .lit (.int .i64 4), .lit (.int .i64 4), .lit (.int .i64 4), .lit (.int .i64 4), .lit (.int .i64 4), .lit (.int .i64 4), .lit (.int .i64 4), .lit (.int .i64 4), .lit (.int .i64 5), .lit (.int .i64 5), .lit (.int .i64 5), .lit (.int .i64 5), .lit (.int .i64 5), .lit (.int .i64 5), .lit (.int .i64 5), .lit (.int .i64 5), .lit (.int .i64 5), .lit (.int .i64 5), .lit (.int .i64 5), .lit (.int .i64 5), .lit (.int .i64 5), .lit (.int .i64 5), .lit (.int .i64 5), .lit (.int .i64 5), .lit (.int .i64 5), .lit (.int .i64 5), .lit (.int .i64 5), .lit (.int .i64 5), .lit (.int .i64 5), .lit (.int .i64 5), .lit (.int .i64 5), .lit (.int .i64 5), .lit (.int .i64 5), .lit (.int .i64 5), .lit (.int .i64 5), .lit (.int .i64 5), .lit (.int .i64 5), .lit (.int .i64 5), .lit (.int .i64 5), .lit (.int .i64 5), .lit (.int .i64 6), .lit (.int .i64 6), .lit (.int .i64 6), .lit (.int .i64 6), .lit (.int .i64 6), .lit (.int .i64 6), .lit (.int .i64 6), .lit (.int .i64 6), .lit (.int .i64 6), .lit (.int .i64 6), .lit (.int .i64 6), .lit (.int .i64 6), .lit (.int .i64 6), .lit (.int .i64 6), .lit (.int .i64 6), .lit (.int .i64 6), .lit (.int .i64 6), .lit (.int .i64 6), .lit (.int .i64 6), .lit (.int .i64 6), .lit (.int .i64 6), .lit (.int .i64 6), .lit (.int .i64 6), .lit (.int .i64 6), .lit (.int .i64 6), .lit (.int .i64 6), .lit (.int .i64 6), .lit (.int .i64 6), .lit (.int .i64 6), .lit (.int .i64 6), .lit (.int .i64 6), .lit (.int .i64 6), .lit (.int .i64 6), .lit (.int .i64 6), .lit (.int .i64 6), .lit (.int .i64 6), .lit (.int .i64 6), .lit (.int .i64 6), .lit (.int .i64 6), .lit (.int .i64 6), .lit (.int .i64 6), .lit (.int .i64 6), .lit (.int .i64 6), .lit (.int .i64 6), .lit (.int .i64 6), .lit (.int .i64 6), .lit (.int .i64 6), .lit (.int .i64 6), .lit (.int .i64 6), .lit (.int .i64 6), .lit (.int .i64 6), .lit (.int .i64 6), .lit (.int .i64 6), .lit (.int .i64 6), .lit (.int .i64 6), .lit (.int .i64 6), .lit (.int .i64 6), .lit (.int .i64 6), .lit (.int .i64 6), .lit (.int .i64 6), .lit (.int .i64 6), .lit (.int .i64 6), .lit (.int .i64 6), .lit (.int .i64 6), .lit (.int .i64 7), .lit (.int .i64 7), .lit (.int .i64 7), .lit (.int .i64 7), .lit (.int .i64 7), .lit (.int .i64 7), .lit (.int .i64 7), .lit (.int .i64 7), .lit (.int .i64 7), .lit (.int .i64 7), .lit (.int .i64 7), .lit (.int .i64 7), .lit (.int .i64 7), .lit (.int .i64 7), .lit (.int .i64 7), .lit (.int .i64 7), .lit (.int .i64 7), .lit (.int .i64 7), .lit (.int .i64 7), .lit (.int .i64 7), .lit (.int .i64 7), .lit (.int .i64 7), .lit (.int .i64 7), .lit (.int .i64 7), .lit (.int .i64 7), .lit (.int .i64 7), .lit (.int .i64 7), .lit (.int .i64 7), .lit (.int .i64 7), .lit (.int .i64 7), .lit (.int .i64 7), .lit (.int .i64 7), .lit (.int .i64 7), .lit (.int .i64 7), .lit (.int .i64 7), .lit (.int .i64 7), .lit (.int .i64 7), .lit (.int .i64 7), .lit (.int .i64 7), .lit (.int .i64 7), .lit (.int .i64 7), .lit (.int .i64 7), .lit (.int .i64 7), .lit (.int .i64 7), .lit (.int .i64 7), .lit (.int .i64 7), .lit (.int .i64 7), .lit (.int .i64 7), .lit (.int .i64 7), .lit (.int .i64 7), .lit (.int .i64 7), .lit (.int .i64 7), .lit (.int .i64 7), .lit (.int .i64 7), .lit (.int .i64 7), .lit (.int .i64 7), .lit (.int .i64 7), .lit (.int .i64 7), .lit (.int .i64 7), .lit (.int .i64 7), .lit (.int .i64 7), .lit (.int .i64 7), .lit (.int .i64 7), .lit (.int .i64 7), .lit (.int .i64 7), .lit (.int .i64 7), .lit (.int .i64 7), .lit (.int .i64 7), .lit (.int .i64 7), .lit (.int .i64 7), .lit (.int .i64 7), .lit (.int .i64 7), .lit (.int .i64 7), .lit (.int .i64 7), .lit (.int .i64 7), .lit (.int .i64 7), .lit (.int .i64 7), .lit (.int .i64 7), .lit (.int .i64 7), .lit (.int .i64 7), .lit (.int .i64 7), .lit (.int .i64 7), .lit (.int .i64 7), .lit (.int .i64 7), .lit (.int .i64 7), .lit (.int .i64 7), .lit (.int .i64 7), .lit (.int .i64 7), .lit (.int .i64 7), .lit (.int .i64 7), .lit (.int .i64 7), .lit (.int .i64 7), .lit (.int .i64 7), .lit (.int .i64 7), .lit (.int .i64 7), .lit (.int .i64 7), .lit (.int .i64 7), .lit (.int .i64 7), .lit (.int .i64 7), .lit (.int .i64 7), .lit (.int .i64 7), .lit (.int .i64 7), .lit (.int .i64 7), .lit (.int .i64 7), .lit (.int .i64 7), .lit (.int .i64 7), .lit (.int .i64 7), .lit (.int .i64 7), .lit (.int .i64 7), .lit (.int .i64 7), .lit (.int .i64 7), .lit (.int .i64 7), .lit (.int .i64 7), .lit (.int .i64 7), .lit (.int .i64 7), .lit (.int .i64 7), .lit (.int .i64 7), .lit (.int .i64 7), .lit (.int .i64 7), .lit (.int .i64 7), .lit (.int .i64 7), .lit (.int .i64 7), .lit (.int .i64 7), .lit (.int .i64 7), .lit (.int .i64 7), .lit (.int .i64 7), .lit (.int .i64 7), .lit (.int .i64 7)]

/-- 'laws.FnBitLen': WHATEVER THE INPUT: true; the input reads as it did. -/
def fnBitLenSpec : ChangeSpec := { name := "fnBitLen", vars := ["loop.example/pub-g01479/pub/mathutil.log2", "loop.example/pub-g01479/pub/mathutil.popcnt"], fn := fun _ => fun
  | [d1, d2, g1, g2] => { results := [.lit (.bool true)], args := [d1, d2], vars := [g1, g2] }
  | _ => none }
def fnBitLenRow : OpenClaim := { program := "ytfoifemajoebpaadoor", sum := "7640e1bda727997d438128bce8f976a661e464c92667efdc8a207a011a8568bc", func := "loop.example/pub-g01479/laws.FnBitLen", spec := "fnBitLen", named := ["loop.example/pub-g01479/pub/mathutil.log2", "loop.example/pub-g01479/pub/mathutil.popcnt"], apart := false, laid := [("loop.example/pub-g01479/pub/mathutil.popcnt", laid_loop_example_pub_g01479_pub_mathutil_popcnt), ("loop.example/pub-g01479/pub/mathutil.log2", laid_loop_example_pub_g01479_pub_mathutil_log2)] }
def FnBitLenSaid : Prop := fnBitLenRow.holds Tryd.pinned (OpenSpec.ofChange fnBitLenSpec)

/-- ITS FALSE NEIGHBOUR: 'it returns false'. Refute it at one input. -/
def fnBitLenWrong : ChangeSpec := { name := "fnBitLen", vars := ["loop.example/pub-g01479/pub/mathutil.log2", "loop.example/pub-g01479/pub/mathutil.popcnt"], fn := fun _ => fun
  | [d1, d2, g1, g2] => { results := [.lit (.bool false)], args := [d1, d2], vars := [g1, g2] }
  | _ => none }
def FnBitLenWrongFalsely : Prop := fnBitLenRow.holds Tryd.pinned (OpenSpec.ofChange fnBitLenWrong)

/-- 'laws.FnLog2': WHATEVER THE INPUT: true; the input reads as it did. -/
def fnLog2Spec : ChangeSpec := { name := "fnLog2", vars := ["loop.example/pub-g01479/pub/mathutil.log2", "loop.example/pub-g01479/pub/mathutil.popcnt"], fn := fun _ => fun
  | [d1, d2, g1, g2] => { results := [.lit (.bool true)], args := [d1, d2], vars := [g1, g2] }
  | _ => none }
def fnLog2Row : OpenClaim := { program := "ytfoifemajoebpaadoor", sum := "7640e1bda727997d438128bce8f976a661e464c92667efdc8a207a011a8568bc", func := "loop.example/pub-g01479/laws.FnLog2", spec := "fnLog2", named := ["loop.example/pub-g01479/pub/mathutil.log2", "loop.example/pub-g01479/pub/mathutil.popcnt"], apart := false, laid := [("loop.example/pub-g01479/pub/mathutil.popcnt", laid_loop_example_pub_g01479_pub_mathutil_popcnt), ("loop.example/pub-g01479/pub/mathutil.log2", laid_loop_example_pub_g01479_pub_mathutil_log2)] }
def FnLog2Said : Prop := fnLog2Row.holds Tryd.pinned (OpenSpec.ofChange fnLog2Spec)

/-- ITS FALSE NEIGHBOUR: 'it returns false'. Refute it at one input. -/
def fnLog2Wrong : ChangeSpec := { name := "fnLog2", vars := ["loop.example/pub-g01479/pub/mathutil.log2", "loop.example/pub-g01479/pub/mathutil.popcnt"], fn := fun _ => fun
  | [d1, d2, g1, g2] => { results := [.lit (.bool false)], args := [d1, d2], vars := [g1, g2] }
  | _ => none }
def FnLog2WrongFalsely : Prop := fnLog2Row.holds Tryd.pinned (OpenSpec.ofChange fnLog2Wrong)

/-- 'laws.FnPopCount': WHATEVER THE INPUT: true; the input reads as it did. -/
def fnPopCountSpec : ChangeSpec := { name := "fnPopCount", vars := ["loop.example/pub-g01479/pub/mathutil.log2", "loop.example/pub-g01479/pub/mathutil.popcnt"], fn := fun _ => fun
  | [d1, d2, g1, g2] => { results := [.lit (.bool true)], args := [d1, d2], vars := [g1, g2] }
  | _ => none }
def fnPopCountRow : OpenClaim := { program := "ytfoifemajoebpaadoor", sum := "7640e1bda727997d438128bce8f976a661e464c92667efdc8a207a011a8568bc", func := "loop.example/pub-g01479/laws.FnPopCount", spec := "fnPopCount", named := ["loop.example/pub-g01479/pub/mathutil.log2", "loop.example/pub-g01479/pub/mathutil.popcnt"], apart := false, laid := [("loop.example/pub-g01479/pub/mathutil.popcnt", laid_loop_example_pub_g01479_pub_mathutil_popcnt), ("loop.example/pub-g01479/pub/mathutil.log2", laid_loop_example_pub_g01479_pub_mathutil_log2)] }
def FnPopCountSaid : Prop := fnPopCountRow.holds Tryd.pinned (OpenSpec.ofChange fnPopCountSpec)

/-- ITS FALSE NEIGHBOUR: 'it returns false'. Refute it at one input. -/
def fnPopCountWrong : ChangeSpec := { name := "fnPopCount", vars := ["loop.example/pub-g01479/pub/mathutil.log2", "loop.example/pub-g01479/pub/mathutil.popcnt"], fn := fun _ => fun
  | [d1, d2, g1, g2] => { results := [.lit (.bool false)], args := [d1, d2], vars := [g1, g2] }
  | _ => none }
def FnPopCountWrongFalsely : Prop := fnPopCountRow.holds Tryd.pinned (OpenSpec.ofChange fnPopCountWrong)

/-- 'laws.FnPopJoined': WHATEVER THE INPUT: true; the input reads as it did. -/
def fnPopJoinedSpec : ChangeSpec := { name := "fnPopJoined", vars := ["loop.example/pub-g01479/pub/mathutil.log2", "loop.example/pub-g01479/pub/mathutil.popcnt"], fn := fun _ => fun
  | [d1, d2, g1, g2] => { results := [.lit (.bool true)], args := [d1, d2], vars := [g1, g2] }
  | _ => none }
def fnPopJoinedRow : OpenClaim := { program := "ytfoifemajoebpaadoor", sum := "7640e1bda727997d438128bce8f976a661e464c92667efdc8a207a011a8568bc", func := "loop.example/pub-g01479/laws.FnPopJoined", spec := "fnPopJoined", named := ["loop.example/pub-g01479/pub/mathutil.log2", "loop.example/pub-g01479/pub/mathutil.popcnt"], apart := false, laid := [("loop.example/pub-g01479/pub/mathutil.popcnt", laid_loop_example_pub_g01479_pub_mathutil_popcnt), ("loop.example/pub-g01479/pub/mathutil.log2", laid_loop_example_pub_g01479_pub_mathutil_log2)] }
def FnPopJoinedSaid : Prop := fnPopJoinedRow.holds Tryd.pinned (OpenSpec.ofChange fnPopJoinedSpec)

/-- ITS FALSE NEIGHBOUR: 'it returns false'. Refute it at one input. -/
def fnPopJoinedWrong : ChangeSpec := { name := "fnPopJoined", vars := ["loop.example/pub-g01479/pub/mathutil.log2", "loop.example/pub-g01479/pub/mathutil.popcnt"], fn := fun _ => fun
  | [d1, d2, g1, g2] => { results := [.lit (.bool false)], args := [d1, d2], vars := [g1, g2] }
  | _ => none }
def FnPopJoinedWrongFalsely : Prop := fnPopJoinedRow.holds Tryd.pinned (OpenSpec.ofChange fnPopJoinedWrong)

/- THE SECOND FORM. 'bulk': how many values and letters a reading holds, each counted each time it is reached (what is shared counts as often as it is met; a slice's spare places count too). A statement '..UptoSaid' is the law's where the arguments, and the package variables that the reading takes, are together of bulk at most 1048576: NARROWER than '..Said'. Prove '..Said' where nothing that the law and all that it calls make is longer than what came in: it says more and counts as full. Else prove '..UptoSaid'. A law counts once. -/
mutual
def uptoBulk {H : Type} : DataW H → Nat
  | .lit (.string bytes) => bytes.length + 1
  | .lit _ => 1
  | .nil => 1
  | .ptr d => uptoBulk d + 1
  | .slice elems spare => uptoBulkAll elems + uptoBulkAll spare + 1
  | .agg parts => uptoBulkAll parts + 1
  | .iface _ d => uptoBulk d + 1
  | .map entries => uptoBulkEntries entries + 1
  | .held _ => 1
def uptoBulkAll {H : Type} : List (DataW H) → Nat
  | [] => 0
  | d :: r => uptoBulk d + uptoBulkAll r
def uptoBulkEntries {H : Type} : List (Lit × DataW H) → Nat
  | [] => 0
  | x :: r => uptoBulkEntry x + uptoBulkEntries r
def uptoBulkEntry {H : Type} : Lit × DataW H → Nat
  | (.string bytes, d) => bytes.length + uptoBulk d + 1
  | (_, d) => uptoBulk d + 1
 end
def uptoSmall : (H : Type) → List (DataW H) → Bool := fun _ ds => decide (uptoBulkAll ds ≤ 1048576)
def OpenSpec.upto (s : _root_.Go.ChangeSpec) : _root_.Go.OpenSpec := { _root_.Go.OpenSpec.ofChange s with cond := some uptoSmall }

/-- 'laws.FnBitLen', WHERE WHAT IT READS IS OF BULK AT MOST 1048576: true; the input reads as it did. -/
def fnBitLenUptoRow : OpenClaim := { program := "ytfoifemajoebpaadoor", sum := "7640e1bda727997d438128bce8f976a661e464c92667efdc8a207a011a8568bc", func := "loop.example/pub-g01479/laws.FnBitLen", spec := "fnBitLen", named := ["loop.example/pub-g01479/pub/mathutil.log2", "loop.example/pub-g01479/pub/mathutil.popcnt"], apart := false, laid := [("loop.example/pub-g01479/pub/mathutil.popcnt", laid_loop_example_pub_g01479_pub_mathutil_popcnt), ("loop.example/pub-g01479/pub/mathutil.log2", laid_loop_example_pub_g01479_pub_mathutil_log2)], narrowed := true }
def FnBitLenUptoSaid : Prop := fnBitLenUptoRow.holds Tryd.pinned (OpenSpec.upto fnBitLenSpec)

/-- 'laws.FnLog2', WHERE WHAT IT READS IS OF BULK AT MOST 1048576: true; the input reads as it did. -/
def fnLog2UptoRow : OpenClaim := { program := "ytfoifemajoebpaadoor", sum := "7640e1bda727997d438128bce8f976a661e464c92667efdc8a207a011a8568bc", func := "loop.example/pub-g01479/laws.FnLog2", spec := "fnLog2", named := ["loop.example/pub-g01479/pub/mathutil.log2", "loop.example/pub-g01479/pub/mathutil.popcnt"], apart := false, laid := [("loop.example/pub-g01479/pub/mathutil.popcnt", laid_loop_example_pub_g01479_pub_mathutil_popcnt), ("loop.example/pub-g01479/pub/mathutil.log2", laid_loop_example_pub_g01479_pub_mathutil_log2)], narrowed := true }
def FnLog2UptoSaid : Prop := fnLog2UptoRow.holds Tryd.pinned (OpenSpec.upto fnLog2Spec)

/-- 'laws.FnPopCount', WHERE WHAT IT READS IS OF BULK AT MOST 1048576: true; the input reads as it did. -/
def fnPopCountUptoRow : OpenClaim := { program := "ytfoifemajoebpaadoor", sum := "7640e1bda727997d438128bce8f976a661e464c92667efdc8a207a011a8568bc", func := "loop.example/pub-g01479/laws.FnPopCount", spec := "fnPopCount", named := ["loop.example/pub-g01479/pub/mathutil.log2", "loop.example/pub-g01479/pub/mathutil.popcnt"], apart := false, laid := [("loop.example/pub-g01479/pub/mathutil.popcnt", laid_loop_example_pub_g01479_pub_mathutil_popcnt), ("loop.example/pub-g01479/pub/mathutil.log2", laid_loop_example_pub_g01479_pub_mathutil_log2)], narrowed := true }
def FnPopCountUptoSaid : Prop := fnPopCountUptoRow.holds Tryd.pinned (OpenSpec.upto fnPopCountSpec)

/-- 'laws.FnPopJoined', WHERE WHAT IT READS IS OF BULK AT MOST 1048576: true; the input reads as it did. -/
def fnPopJoinedUptoRow : OpenClaim := { program := "ytfoifemajoebpaadoor", sum := "7640e1bda727997d438128bce8f976a661e464c92667efdc8a207a011a8568bc", func := "loop.example/pub-g01479/laws.FnPopJoined", spec := "fnPopJoined", named := ["loop.example/pub-g01479/pub/mathutil.log2", "loop.example/pub-g01479/pub/mathutil.popcnt"], apart := false, laid := [("loop.example/pub-g01479/pub/mathutil.popcnt", laid_loop_example_pub_g01479_pub_mathutil_popcnt), ("loop.example/pub-g01479/pub/mathutil.log2", laid_loop_example_pub_g01479_pub_mathutil_log2)], narrowed := true }
def FnPopJoinedUptoSaid : Prop := fnPopJoinedUptoRow.holds Tryd.pinned (OpenSpec.upto fnPopJoinedSpec)

end Rows
end Go.Proofs.YtfoifemajoebpaaDoor
