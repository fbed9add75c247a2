/-
  No cell of these rows narrows 'for every input' (looked for: loops, veiled, ifaces, maps, wideKeys, modest, calm, conditions, laid).
  DERIVED. THE GIVEN ROWS OF THIS SEAT. 3 by the template 'for every input the law returns true; each argument reads behind the call as it read before'; 0 by the template 'total and deterministic' (their statements: YtpelipdecjooeaaTotals.lean).
  GIVEN WITH THE SEED: the statements are not yours to turn. If you find one false, say at which input.
  Laid BY PROGRAM, IN A SANDBOX (cutbox-rows.mjs): the forced cells as the released guide's own fill.sh prints them over the translation 186c0a051a1773d4… (all of the seat's roots in one cut). By AI agents, Wed Nov 11 2026. No macro, syntax, notation, axiom, sorry.
-/
import Derived.Test.YtpelipdecjooeaaChecked
import GoSem.Claim
import GoSem.ClaimJoined
import GoSem.ClaimMapViews
import Derived.JoinedTies
import Derived.KernelRfl
namespace Go.Proofs.Ytpelipdecjooeaa
/- THE CELL 'sum', in the pinned program and in every row, IS THE sha256 OF THE DUMP (.gsa) THAT YtpelipdecjooeaaProg.lean LOADS. Nothing in Lean hashes anything: it is a label: what it is worth is what the hold of that sum in a sandbox is worth. -/
noncomputable def Try.pinned : Pinned := { name := "ytpelipdecjooeaa", sum := "186c0a051a1773d4382fbdbf7808bb7ff470f8fa3893bad7998cb00fa087956e", checked := Try.checked }
namespace Rows
def none {H : Type} : Left H := { results := [], args := [] }

/-- 'laws.FnPermutationAll': WHATEVER THE INPUT: true; the input reads as it did. -/
def fnPermutationAllSpec : ChangeSpec := { name := "fnPermutationAll", fn := fun _ => fun
  | [d] => { results := [.lit (.bool true)], args := [d] }
  | _ => none }
def fnPermutationAllRow : OpenClaim := { program := "ytpelipdecjooeaa", sum := "186c0a051a1773d4382fbdbf7808bb7ff470f8fa3893bad7998cb00fa087956e", func := "loop.example/pub-g01479/laws.FnPermutationAll", spec := "fnPermutationAll", unfollowed := true, recurses := true, apart := false }
def FnPermutationAllSaid : Prop := fnPermutationAllRow.holds Try.pinned (OpenSpec.ofChange fnPermutationAllSpec)

/-- ITS FALSE NEIGHBOUR: 'it returns false'. Refute it at one input. -/
def fnPermutationAllWrong : ChangeSpec := { name := "fnPermutationAll", fn := fun _ => fun
  | [d] => { results := [.lit (.bool false)], args := [d] }
  | _ => none }
def FnPermutationAllWrongFalsely : Prop := fnPermutationAllRow.holds Try.pinned (OpenSpec.ofChange fnPermutationAllWrong)

/-- 'laws.FnPermutationFirst': WHATEVER THE INPUT: true; the input reads as it did. -/
def fnPermutationFirstSpec : ChangeSpec := { name := "fnPermutationFirst", fn := fun _ => fun
  | [d] => { results := [.lit (.bool true)], args := [d] }
  | _ => none }
def fnPermutationFirstRow : OpenClaim := { program := "ytpelipdecjooeaa", sum := "186c0a051a1773d4382fbdbf7808bb7ff470f8fa3893bad7998cb00fa087956e", func := "loop.example/pub-g01479/laws.FnPermutationFirst", spec := "fnPermutationFirst", unfollowed := true, recurses := true, apart := false }
def FnPermutationFirstSaid : Prop := fnPermutationFirstRow.holds Try.pinned (OpenSpec.ofChange fnPermutationFirstSpec)

/-- ITS FALSE NEIGHBOUR: 'it returns false'. Refute it at one input. -/
def fnPermutationFirstWrong : ChangeSpec := { name := "fnPermutationFirst", fn := fun _ => fun
  | [d] => { results := [.lit (.bool false)], args := [d] }
  | _ => none }
def FnPermutationFirstWrongFalsely : Prop := fnPermutationFirstRow.holds Try.pinned (OpenSpec.ofChange fnPermutationFirstWrong)

/-- 'laws.FnPermutationNext': WHATEVER THE INPUT: true; the input reads as it did. -/
def fnPermutationNextSpec : ChangeSpec := { name := "fnPermutationNext", fn := fun _ => fun
  | [d] => { results := [.lit (.bool true)], args := [d] }
  | _ => none }
def fnPermutationNextRow : OpenClaim := { program := "ytpelipdecjooeaa", sum := "186c0a051a1773d4382fbdbf7808bb7ff470f8fa3893bad7998cb00fa087956e", func := "loop.example/pub-g01479/laws.FnPermutationNext", spec := "fnPermutationNext", unfollowed := true, recurses := true, apart := false }
def FnPermutationNextSaid : Prop := fnPermutationNextRow.holds Try.pinned (OpenSpec.ofChange fnPermutationNextSpec)

/-- ITS FALSE NEIGHBOUR: 'it returns false'. Refute it at one input. -/
def fnPermutationNextWrong : ChangeSpec := { name := "fnPermutationNext", fn := fun _ => fun
  | [d] => { results := [.lit (.bool false)], args := [d] }
  | _ => none }
def FnPermutationNextWrongFalsely : Prop := fnPermutationNextRow.holds Try.pinned (OpenSpec.ofChange fnPermutationNextWrong)

/- THE SECOND FORM. 'bulk': how many values and letters a reading holds, each counted each time it is reached (what is shared counts as often as it is met; a slice's spare places count too). A statement '..UptoSaid' is the law's where the arguments, and the package variables that the reading takes, are together of bulk at most 1048576: NARROWER than '..Said'. Prove '..Said' where nothing that the law and all that it calls make is longer than what came in: it says more and counts as full. Else prove '..UptoSaid'. A law counts once. -/
mutual
def uptoBulk {H : Type} : DataW H → Nat
  | .lit (.string bytes) => bytes.length + 1
  | .lit _ => 1
  | .nil => 1
  | .ptr d => uptoBulk d + 1
  | .slice elems spare => uptoBulkAll elems + uptoBulkAll spare + 1
  | .agg parts => uptoBulkAll parts + 1
  | .iface _ d => uptoBulk d + 1
  | .map entries => uptoBulkEntries entries + 1
  | .held _ => 1
def uptoBulkAll {H : Type} : List (DataW H) → Nat
  | [] => 0
  | d :: r => uptoBulk d + uptoBulkAll r
def uptoBulkEntries {H : Type} : List (Lit × DataW H) → Nat
  | [] => 0
  | x :: r => uptoBulkEntry x + uptoBulkEntries r
def uptoBulkEntry {H : Type} : Lit × DataW H → Nat
  | (.string bytes, d) => bytes.length + uptoBulk d + 1
  | (_, d) => uptoBulk d + 1
 end
def uptoSmall : (H : Type) → List (DataW H) → Bool := fun _ ds => decide (uptoBulkAll ds ≤ 1048576)
def OpenSpec.upto (s : _root_.Go.ChangeSpec) : _root_.Go.OpenSpec := { _root_.Go.OpenSpec.ofChange s with cond := some uptoSmall }

/-- 'laws.FnPermutationAll', WHERE WHAT IT READS IS OF BULK AT MOST 1048576: true; the input reads as it did. -/
def fnPermutationAllUptoRow : OpenClaim := { program := "ytpelipdecjooeaa", sum := "186c0a051a1773d4382fbdbf7808bb7ff470f8fa3893bad7998cb00fa087956e", func := "loop.example/pub-g01479/laws.FnPermutationAll", spec := "fnPermutationAll", unfollowed := true, recurses := true, apart := false, narrowed := true }
def FnPermutationAllUptoSaid : Prop := fnPermutationAllUptoRow.holds Try.pinned (OpenSpec.upto fnPermutationAllSpec)

/-- 'laws.FnPermutationFirst', WHERE WHAT IT READS IS OF BULK AT MOST 1048576: true; the input reads as it did. -/
def fnPermutationFirstUptoRow : OpenClaim := { program := "ytpelipdecjooeaa", sum := "186c0a051a1773d4382fbdbf7808bb7ff470f8fa3893bad7998cb00fa087956e", func := "loop.example/pub-g01479/laws.FnPermutationFirst", spec := "fnPermutationFirst", unfollowed := true, recurses := true, apart := false, narrowed := true }
def FnPermutationFirstUptoSaid : Prop := fnPermutationFirstUptoRow.holds Try.pinned (OpenSpec.upto fnPermutationFirstSpec)

/-- 'laws.FnPermutationNext', WHERE WHAT IT READS IS OF BULK AT MOST 1048576: true; the input reads as it did. -/
def fnPermutationNextUptoRow : OpenClaim := { program := "ytpelipdecjooeaa", sum := "186c0a051a1773d4382fbdbf7808bb7ff470f8fa3893bad7998cb00fa087956e", func := "loop.example/pub-g01479/laws.FnPermutationNext", spec := "fnPermutationNext", unfollowed := true, recurses := true, apart := false, narrowed := true }
def FnPermutationNextUptoSaid : Prop := fnPermutationNextUptoRow.holds Try.pinned (OpenSpec.upto fnPermutationNextSpec)

end Rows
end Go.Proofs.Ytpelipdecjooeaa
