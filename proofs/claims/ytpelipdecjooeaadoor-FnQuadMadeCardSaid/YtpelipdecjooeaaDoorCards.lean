/-
  DERIVED. GIVEN WITH THE SEED: THE CARDS: each row of YtpelipdecjooeaaDoorRows.lean that lists a variable, with what it lists TIED to the program's text (the seventh form; the later family's looks); each row that meets fmt, with fmt's text TOLD by the authors' own Lean function (tested against real Go, not proved from fmt's source: count such statements apart). THE CARD IS WHAT COUNTS. Prove the row's statement (the work); the ties are given (YtpelipdecjooeaaDoorTie.lean); close each card by the builder's one call (the guide's Derived/Test/ToyasCard.lean, 'card_holds'). Laid BY PROGRAM, IN A SANDBOX (cutbox-door.mjs). By AI agents, Wed Nov 11 2026. No macro, syntax, notation, axiom, sorry.
-/
import Derived.Test.YtpelipdecjooeaaDoorRows
import GoSem.ClaimSeven
namespace Go.Proofs.YtpelipdecjooeaaDoor
namespace Rows

/-- THE TIED CARD OF 'laws.FnDiscriminant'. -/
def fnDiscriminantCard : Claim7 := { stood := { row := fnDiscriminantRow, standIns := [], harness := (true, "400332dbed49300a73d4dc7fd8fcd4cb175f9155342e71f66bccf65ff26bbfd8"), looks := false }, kinds := [], alts := [], laidByText := true, laidKinds := [.data], laidTests := true, laidLooks := .later }
def FnDiscriminantCardSaid : Prop := Claim7.holds Tryd.pinned (.plain (OpenSpec.ofChange fnDiscriminantSpec)) fnDiscriminantCard

/-- THE TIED CARD OF 'laws.FnQuadFactors'. -/
def fnQuadFactorsCard : Claim7 := { stood := { row := fnQuadFactorsRow, standIns := [], harness := (true, "400332dbed49300a73d4dc7fd8fcd4cb175f9155342e71f66bccf65ff26bbfd8"), looks := false }, kinds := [], alts := [], laidByText := true, laidKinds := [.data], laidTests := true, laidLooks := .later }
def FnQuadFactorsCardSaid : Prop := Claim7.holds Tryd.pinned (.plain (OpenSpec.ofChange fnQuadFactorsSpec)) fnQuadFactorsCard

/-- THE TIED CARD OF 'laws.FnQuadMade'. -/
def fnQuadMadeCard : Claim7 := { stood := { row := fnQuadMadeRow, standIns := [], harness := (true, "400332dbed49300a73d4dc7fd8fcd4cb175f9155342e71f66bccf65ff26bbfd8"), looks := false }, kinds := [], alts := [], laidByText := true, laidKinds := [.data], laidTests := true, laidLooks := .later }
def FnQuadMadeCardSaid : Prop := Claim7.holds Tryd.pinned (.plain (OpenSpec.ofChange fnQuadMadeSpec)) fnQuadMadeCard

/-- THE SECOND FORM's CARD OF 'laws.FnDiscriminant'. -/
def fnDiscriminantUptoCard : Claim7 := { stood := { row := fnDiscriminantUptoRow, standIns := [], harness := (true, "400332dbed49300a73d4dc7fd8fcd4cb175f9155342e71f66bccf65ff26bbfd8"), looks := false }, kinds := [], alts := [], laidByText := true, laidKinds := [.data], laidTests := true, laidLooks := .later }
def FnDiscriminantUptoCardSaid : Prop := Claim7.holds Tryd.pinned (.plain (OpenSpec.upto fnDiscriminantSpec)) fnDiscriminantUptoCard

/-- THE SECOND FORM's CARD OF 'laws.FnQuadFactors'. -/
def fnQuadFactorsUptoCard : Claim7 := { stood := { row := fnQuadFactorsUptoRow, standIns := [], harness := (true, "400332dbed49300a73d4dc7fd8fcd4cb175f9155342e71f66bccf65ff26bbfd8"), looks := false }, kinds := [], alts := [], laidByText := true, laidKinds := [.data], laidTests := true, laidLooks := .later }
def FnQuadFactorsUptoCardSaid : Prop := Claim7.holds Tryd.pinned (.plain (OpenSpec.upto fnQuadFactorsSpec)) fnQuadFactorsUptoCard

/-- THE SECOND FORM's CARD OF 'laws.FnQuadMade'. -/
def fnQuadMadeUptoCard : Claim7 := { stood := { row := fnQuadMadeUptoRow, standIns := [], harness := (true, "400332dbed49300a73d4dc7fd8fcd4cb175f9155342e71f66bccf65ff26bbfd8"), looks := false }, kinds := [], alts := [], laidByText := true, laidKinds := [.data], laidTests := true, laidLooks := .later }
def FnQuadMadeUptoCardSaid : Prop := Claim7.holds Tryd.pinned (.plain (OpenSpec.upto fnQuadMadeSpec)) fnQuadMadeUptoCard
end Rows
end Go.Proofs.YtpelipdecjooeaaDoor
