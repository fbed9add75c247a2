/-
  DERIVED. GIVEN WITH THE SEED: THE CARDS: each row of YtmmnopmccamjcaaGreatDoorRows.lean that lists a variable, with what it lists TIED to the program's text (the seventh form; the later family's looks); each row that meets fmt, with fmt's text TOLD by the authors' own Lean function (tested against real Go, not proved from fmt's source: count such statements apart). THE CARD IS WHAT COUNTS. Prove the row's statement (the work); the ties are given (YtmmnopmccamjcaaGreatDoorTie.lean); close each card by the builder's one call (the guide's Derived/Test/ToyasCard.lean, 'card_holds'). Laid BY PROGRAM, IN A SANDBOX (cutbox-door.mjs). By AI agents, Wed Nov 11 2026. No macro, syntax, notation, axiom, sorry.
-/
import Derived.Test.YtmmnopmccamjcaaGreatDoorRows
import GoSem.ClaimSeven
namespace Go.Proofs.YtmmnopmccamjcaaGreatDoor
namespace Rows

/-- THE TIED CARD OF 'laws.FnModPow'. -/
def fnModPowCard : Claim7 := { stood := { row := fnModPowRow, standIns := [], harness := (true, "69e173fdcaa92dee71195f1d76daf5e0f2abf0aa9472fa1ac066441a1cd07990"), looks := false }, kinds := [], alts := [], laidByText := true, laidKinds := [.data, .data, .data, .data], laidTests := true, laidLooks := .later }
def FnModPowCardSaid : Prop := Claim7.holds Tryz.pinned (.plain (OpenSpec.ofChange fnModPowSpec)) fnModPowCard

/-- THE SECOND FORM's CARD OF 'laws.FnModPow'. -/
def fnModPowUptoCard : Claim7 := { stood := { row := fnModPowUptoRow, standIns := [], harness := (true, "69e173fdcaa92dee71195f1d76daf5e0f2abf0aa9472fa1ac066441a1cd07990"), looks := false }, kinds := [], alts := [], laidByText := true, laidKinds := [.data, .data, .data, .data], laidTests := true, laidLooks := .later }
def FnModPowUptoCardSaid : Prop := Claim7.holds Tryz.pinned (.plain (OpenSpec.upto fnModPowSpec)) fnModPowUptoCard
end Rows
end Go.Proofs.YtmmnopmccamjcaaGreatDoor
