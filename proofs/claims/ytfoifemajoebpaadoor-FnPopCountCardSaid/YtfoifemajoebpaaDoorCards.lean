/-
  DERIVED. GIVEN WITH THE SEED: THE CARDS: each row of YtfoifemajoebpaaDoorRows.lean that lists a variable, with what it lists TIED to the program's text (the seventh form; the later family's looks); each row that meets fmt, with fmt's text TOLD by the authors' own Lean function (tested against real Go, not proved from fmt's source: count such statements apart). THE CARD IS WHAT COUNTS. Prove the row's statement (the work); the ties are given (YtfoifemajoebpaaDoorTie.lean); close each card by the builder's one call (the guide's Derived/Test/ToyasCard.lean, 'card_holds'). Laid BY PROGRAM, IN A SANDBOX (cutbox-door.mjs). By AI agents, Wed Nov 11 2026. No macro, syntax, notation, axiom, sorry.
-/
import Derived.Test.YtfoifemajoebpaaDoorRows
import GoSem.ClaimSeven
namespace Go.Proofs.YtfoifemajoebpaaDoor
namespace Rows

/-- THE TIED CARD OF 'laws.FnBitLen'. -/
def fnBitLenCard : Claim7 := { stood := { row := fnBitLenRow, standIns := [], harness := (true, "72e151b56e0d8ed89e10c6bdb79c13aecc03c53c46063a76b375bac30d8c5118"), looks := false }, kinds := [], alts := [], laidByText := true, laidKinds := [.data, .data], laidTests := true, laidLooks := .later }
def FnBitLenCardSaid : Prop := Claim7.holds Tryd.pinned (.plain (OpenSpec.ofChange fnBitLenSpec)) fnBitLenCard

/-- THE TIED CARD OF 'laws.FnLog2'. -/
def fnLog2Card : Claim7 := { stood := { row := fnLog2Row, standIns := [], harness := (true, "72e151b56e0d8ed89e10c6bdb79c13aecc03c53c46063a76b375bac30d8c5118"), looks := false }, kinds := [], alts := [], laidByText := true, laidKinds := [.data, .data], laidTests := true, laidLooks := .later }
def FnLog2CardSaid : Prop := Claim7.holds Tryd.pinned (.plain (OpenSpec.ofChange fnLog2Spec)) fnLog2Card

/-- THE TIED CARD OF 'laws.FnPopCount'. -/
def fnPopCountCard : Claim7 := { stood := { row := fnPopCountRow, standIns := [], harness := (true, "72e151b56e0d8ed89e10c6bdb79c13aecc03c53c46063a76b375bac30d8c5118"), looks := false }, kinds := [], alts := [], laidByText := true, laidKinds := [.data, .data], laidTests := true, laidLooks := .later }
def FnPopCountCardSaid : Prop := Claim7.holds Tryd.pinned (.plain (OpenSpec.ofChange fnPopCountSpec)) fnPopCountCard

/-- THE TIED CARD OF 'laws.FnPopJoined'. -/
def fnPopJoinedCard : Claim7 := { stood := { row := fnPopJoinedRow, standIns := [], harness := (true, "72e151b56e0d8ed89e10c6bdb79c13aecc03c53c46063a76b375bac30d8c5118"), looks := false }, kinds := [], alts := [], laidByText := true, laidKinds := [.data, .data], laidTests := true, laidLooks := .later }
def FnPopJoinedCardSaid : Prop := Claim7.holds Tryd.pinned (.plain (OpenSpec.ofChange fnPopJoinedSpec)) fnPopJoinedCard

/-- THE SECOND FORM's CARD OF 'laws.FnBitLen'. -/
def fnBitLenUptoCard : Claim7 := { stood := { row := fnBitLenUptoRow, standIns := [], harness := (true, "72e151b56e0d8ed89e10c6bdb79c13aecc03c53c46063a76b375bac30d8c5118"), looks := false }, kinds := [], alts := [], laidByText := true, laidKinds := [.data, .data], laidTests := true, laidLooks := .later }
def FnBitLenUptoCardSaid : Prop := Claim7.holds Tryd.pinned (.plain (OpenSpec.upto fnBitLenSpec)) fnBitLenUptoCard

/-- THE SECOND FORM's CARD OF 'laws.FnLog2'. -/
def fnLog2UptoCard : Claim7 := { stood := { row := fnLog2UptoRow, standIns := [], harness := (true, "72e151b56e0d8ed89e10c6bdb79c13aecc03c53c46063a76b375bac30d8c5118"), looks := false }, kinds := [], alts := [], laidByText := true, laidKinds := [.data, .data], laidTests := true, laidLooks := .later }
def FnLog2UptoCardSaid : Prop := Claim7.holds Tryd.pinned (.plain (OpenSpec.upto fnLog2Spec)) fnLog2UptoCard

/-- THE SECOND FORM's CARD OF 'laws.FnPopCount'. -/
def fnPopCountUptoCard : Claim7 := { stood := { row := fnPopCountUptoRow, standIns := [], harness := (true, "72e151b56e0d8ed89e10c6bdb79c13aecc03c53c46063a76b375bac30d8c5118"), looks := false }, kinds := [], alts := [], laidByText := true, laidKinds := [.data, .data], laidTests := true, laidLooks := .later }
def FnPopCountUptoCardSaid : Prop := Claim7.holds Tryd.pinned (.plain (OpenSpec.upto fnPopCountSpec)) fnPopCountUptoCard

/-- THE SECOND FORM's CARD OF 'laws.FnPopJoined'. -/
def fnPopJoinedUptoCard : Claim7 := { stood := { row := fnPopJoinedUptoRow, standIns := [], harness := (true, "72e151b56e0d8ed89e10c6bdb79c13aecc03c53c46063a76b375bac30d8c5118"), looks := false }, kinds := [], alts := [], laidByText := true, laidKinds := [.data, .data], laidTests := true, laidLooks := .later }
def FnPopJoinedUptoCardSaid : Prop := Claim7.holds Tryd.pinned (.plain (OpenSpec.upto fnPopJoinedSpec)) fnPopJoinedUptoCard
end Rows
end Go.Proofs.YtfoifemajoebpaaDoor
