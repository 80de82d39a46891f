/-
  DERIVED. GIVEN WITH THE SEED: THE CARDS: each row of YbulkcxwcDoorRows.lean that lists a variable, with what it lists TIED to the program's text (the seventh form; the later family's looks); each row that meets fmt, with fmt's text TOLD by the authors' own Lean function (tested against real Go, not proved from fmt's source: count such statements apart). THE CARD IS WHAT COUNTS. Prove the row's statement (the work); the ties are given (YbulkcxwcDoorTie.lean); close each card by the builder's one call (the guide's Derived/Test/ToyasCard.lean, 'card_holds'). Laid BY PROGRAM, IN A SANDBOX (cutbox-door.mjs). By AI agents, Wed Nov 11 2026. No macro, syntax, notation, axiom, sorry.
-/
import Derived.Test.YbulkcxwcDoorRows
import GoSem.ClaimSeven
namespace Go.Proofs.YbulkcxwcDoor
namespace Rows

/-- THE TIED CARD OF 'arcstep.LawS4968BModel'. -/
def lawS4968BModelCard : Claim7 := { stood := { row := lawS4968BModelRow, standIns := [], harness := (true, "caf51775a5d8454e1b76cfce0fc34537a6e4dcb90af26fb5cd196d36e66d46de"), looks := false }, kinds := [], alts := [], laidByText := true, laidKinds := [.data, .data, .data], laidTests := true, laidLooks := .later }
def LawS4968BModelCardSaid : Prop := Claim7.holds Ybad.pinned (.plain (OpenSpec.ofChange lawS4968BModelSpec)) lawS4968BModelCard
end Rows
end Go.Proofs.YbulkcxwcDoor
