/-
  DERIVED. GIVEN WITH THE SEED: THE CARDS: each row of YtmmnopmccamjcaaDoorRows.lean that lists a variable, with what it lists TIED to the program's text (the seventh form; the later family's looks); each row that meets fmt, with fmt's text TOLD by the authors' own Lean function (tested against real Go, not proved from fmt's source: count such statements apart). THE CARD IS WHAT COUNTS. Prove the row's statement (the work); the ties are given (YtmmnopmccamjcaaDoorTie.lean); close each card by the builder's one call (the guide's Derived/Test/ToyasCard.lean, 'card_holds'). Laid BY PROGRAM, IN A SANDBOX (cutbox-door.mjs). By AI agents, Wed Nov 11 2026. No macro, syntax, notation, axiom, sorry.
-/
import Derived.Test.YtmmnopmccamjcaaDoorRows
import GoSem.ClaimSeven
namespace Go.Proofs.YtmmnopmccamjcaaDoor
namespace Rows

/-- THE TIED CARD OF 'laws.FnProbably64'. -/
def fnProbably64Card : Claim7 := { stood := { row := fnProbably64Row, standIns := [], harness := (true, "56146e1d67976f6a616cc78ca3cbbcd88f68601bfb025534f0c03ca3313099bd"), looks := false }, kinds := [], alts := [], laidByText := true, laidKinds := [.data, .data, .data, .data], laidTests := true, laidLooks := .later }
def FnProbably64CardSaid : Prop := Claim7.holds Tryd.pinned (.plain (OpenSpec.ofChange fnProbably64Spec)) fnProbably64Card

/-- THE TIED CARD OF 'laws.FnModPowSum'. -/
def fnModPowSumCard : Claim7 := { stood := { row := fnModPowSumRow, standIns := [], harness := (true, "56146e1d67976f6a616cc78ca3cbbcd88f68601bfb025534f0c03ca3313099bd"), looks := false }, kinds := [], alts := [], laidByText := true, laidKinds := [.data, .data, .data, .data], laidTests := true, laidLooks := .later }
def FnModPowSumCardSaid : Prop := Claim7.holds Tryd.pinned (.plain (OpenSpec.ofChange fnModPowSumSpec)) fnModPowSumCard

/-- THE SECOND FORM's CARD OF 'laws.FnProbably64'. -/
def fnProbably64UptoCard : Claim7 := { stood := { row := fnProbably64UptoRow, standIns := [], harness := (true, "56146e1d67976f6a616cc78ca3cbbcd88f68601bfb025534f0c03ca3313099bd"), looks := false }, kinds := [], alts := [], laidByText := true, laidKinds := [.data, .data, .data, .data], laidTests := true, laidLooks := .later }
def FnProbably64UptoCardSaid : Prop := Claim7.holds Tryd.pinned (.plain (OpenSpec.upto fnProbably64Spec)) fnProbably64UptoCard

/-- THE SECOND FORM's CARD OF 'laws.FnModPowSum'. -/
def fnModPowSumUptoCard : Claim7 := { stood := { row := fnModPowSumUptoRow, standIns := [], harness := (true, "56146e1d67976f6a616cc78ca3cbbcd88f68601bfb025534f0c03ca3313099bd"), looks := false }, kinds := [], alts := [], laidByText := true, laidKinds := [.data, .data, .data, .data], laidTests := true, laidLooks := .later }
def FnModPowSumUptoCardSaid : Prop := Claim7.holds Tryd.pinned (.plain (OpenSpec.upto fnModPowSumSpec)) fnModPowSumUptoCard
end Rows
end Go.Proofs.YtmmnopmccamjcaaDoor
