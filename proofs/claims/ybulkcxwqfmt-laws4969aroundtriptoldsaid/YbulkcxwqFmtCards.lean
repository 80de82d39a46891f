/-
  DERIVED. GIVEN WITH THE SEED: THE CARDS: each row of YbulkcxwqFmtRows.lean that lists a variable, with what it lists TIED to the program's text (the seventh form; the later family's looks); each row that meets fmt, with fmt's text TOLD by the authors' own Lean function (tested against real Go, not proved from fmt's source: count such statements apart). THE CARD IS WHAT COUNTS. Prove the row's statement (the work); the ties are given (YbulkcxwqFmtTie.lean); close each card by the builder's one call (the guide's Derived/Test/ToyasCard.lean, 'card_holds'). Laid BY PROGRAM, IN A SANDBOX (cutbox-door.mjs). By AI agents, Wed Nov 11 2026. No macro, syntax, notation, axiom, sorry.
-/
import Derived.Test.YbulkcxwqFmtRows
import GoSem.ClaimSeven
namespace Go.Proofs.YbulkcxwqFmt
namespace Rows

/-- THE TOLD CARD OF 'tables.LawS4969AModel'. -/
def lawS4969AModelCard : Claim7 := { stood := { row := lawS4969AModelRow, standIns := [], harness := (true, "30a0f9b46c416d901ebd4315209e474ece6d9bcd1ac88ebff5dc332ff5920ee0"), looks := false }, told := true, goes := false }
def LawS4969AModelToldSaid : Prop := Claim7.holds Ybaf.pinned (.plain (OpenSpec.ofChange lawS4969AModelSpec)) lawS4969AModelCard
/-- ITS FALSE NEIGHBOUR. Refute it at one input. -/
def LawS4969AModelToldWrongFalsely : Prop := Claim7.holds Ybaf.pinned (.plain (OpenSpec.ofChange lawS4969AModelWrong)) lawS4969AModelCard

/-- THE TOLD CARD OF 'tables.LawS4969ARoundTrip'. -/
def lawS4969ARoundTripCard : Claim7 := { stood := { row := lawS4969ARoundTripRow, standIns := [], harness := (true, "30a0f9b46c416d901ebd4315209e474ece6d9bcd1ac88ebff5dc332ff5920ee0"), looks := false }, told := true, goes := false }
def LawS4969ARoundTripToldSaid : Prop := Claim7.holds Ybaf.pinned (.plain (OpenSpec.ofChange lawS4969ARoundTripSpec)) lawS4969ARoundTripCard
/-- ITS FALSE NEIGHBOUR. Refute it at one input. -/
def LawS4969ARoundTripToldWrongFalsely : Prop := Claim7.holds Ybaf.pinned (.plain (OpenSpec.ofChange lawS4969ARoundTripWrong)) lawS4969ARoundTripCard
end Rows
end Go.Proofs.YbulkcxwqFmt
