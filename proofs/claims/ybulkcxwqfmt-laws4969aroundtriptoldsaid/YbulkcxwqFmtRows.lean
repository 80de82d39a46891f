/-
  No cell of these rows narrows 'for every input' (looked for: loops, veiled, ifaces, maps, wideKeys, modest, calm, conditions, laid).
  DERIVED. THE GIVEN ROWS OF THIS SEAT. 2 by the template 'for every input the law returns true; each argument reads behind the call as it read before'; 0 by the template 'total and deterministic' (their statements: YbulkcxwqFmtTotals.lean).
  GIVEN WITH THE SEED: the statements are not yours to turn. If you find one false, say at which input.
  Laid BY PROGRAM, IN A SANDBOX (cutbox-rows.mjs): the forced cells as the released guide's own fill.sh prints them over the translation 0a8ad325c975a0d0… (all of the seat's roots in one cut). By AI agents, Wed Nov 11 2026. No macro, syntax, notation, axiom, sorry.
-/
import Derived.Test.YbulkcxwqFmtChecked
import GoSem.Claim
import GoSem.ClaimJoined
import GoSem.ClaimMapViews
import Derived.JoinedTies
import Derived.KernelRfl
namespace Go.Proofs.YbulkcxwqFmt
/- THE CELL 'sum', in the pinned program and in every row, IS THE sha256 OF THE DUMP (.gsa) THAT YbulkcxwqFmtProg.lean LOADS. Nothing in Lean hashes anything: it is a label: what it is worth is what the hold of that sum in a sandbox is worth. -/
noncomputable def Ybaf.pinned : Pinned := { name := "ybulkcxwqfmt", sum := "0a8ad325c975a0d0d6d0c895c2bac2fbfa2dc544cf7aae1f4c9969118ca231d2", checked := Ybaf.checked }
namespace Rows
def none {H : Type} : Left H := { results := [], args := [] }

/-- 'tables.LawS4969AModel': WHATEVER THE INPUT: true; the input reads as it did. -/
def lawS4969AModelSpec : ChangeSpec := { name := "lawS4969AModel", fn := fun _ => fun
  | [d1, d2] => { results := [.lit (.bool true)], args := [d1, d2] }
  | _ => none }
def lawS4969AModelRow : OpenClaim := { program := "ybulkcxwqfmt", sum := "0a8ad325c975a0d0d6d0c895c2bac2fbfa2dc544cf7aae1f4c9969118ca231d2", func := "example.com/syncbyte/syncbyte/tables.LawS4969AModel", spec := "lawS4969AModel", stops := ["fmt.errorf"], inPlace := ["fmt.errorf"], named := ["encoding/binary.BigEndian"], apart := false }
/-- NO THEOREM (fmt's text is open here; it may be false): for the released tool's asking of the row's closed facts alone. THE STATEMENT IS 'LawS4969AModelToldSaid' (YbulkcxwqFmtCards.lean). -/
def LawS4969AModelFormAsk : Prop := lawS4969AModelRow.holds Ybaf.pinned (OpenSpec.ofChange lawS4969AModelSpec)

/-- ITS FALSE NEIGHBOUR: 'it returns false'. Refute it at one input. -/
def lawS4969AModelWrong : ChangeSpec := { name := "lawS4969AModel", fn := fun _ => fun
  | [d1, d2] => { results := [.lit (.bool false)], args := [d1, d2] }
  | _ => none }
def LawS4969AModelWrongFormAsk : Prop := lawS4969AModelRow.holds Ybaf.pinned (OpenSpec.ofChange lawS4969AModelWrong)

/-- 'tables.LawS4969ARoundTrip': WHATEVER THE INPUT: true; the input reads as it did. -/
def lawS4969ARoundTripSpec : ChangeSpec := { name := "lawS4969ARoundTrip", fn := fun _ => fun
  | [d1, d2, d3, d4] => { results := [.lit (.bool true)], args := [d1, d2, d3, d4] }
  | _ => none }
def lawS4969ARoundTripRow : OpenClaim := { program := "ybulkcxwqfmt", sum := "0a8ad325c975a0d0d6d0c895c2bac2fbfa2dc544cf7aae1f4c9969118ca231d2", func := "example.com/syncbyte/syncbyte/tables.LawS4969ARoundTrip", spec := "lawS4969ARoundTrip", stops := ["fmt.errorf"], inPlace := ["fmt.errorf"], named := ["encoding/binary.BigEndian"], apart := false }
/-- NO THEOREM (fmt's text is open here; it may be false): for the released tool's asking of the row's closed facts alone. THE STATEMENT IS 'LawS4969ARoundTripToldSaid' (YbulkcxwqFmtCards.lean). -/
def LawS4969ARoundTripFormAsk : Prop := lawS4969ARoundTripRow.holds Ybaf.pinned (OpenSpec.ofChange lawS4969ARoundTripSpec)

/-- ITS FALSE NEIGHBOUR: 'it returns false'. Refute it at one input. -/
def lawS4969ARoundTripWrong : ChangeSpec := { name := "lawS4969ARoundTrip", fn := fun _ => fun
  | [d1, d2, d3, d4] => { results := [.lit (.bool false)], args := [d1, d2, d3, d4] }
  | _ => none }
def LawS4969ARoundTripWrongFormAsk : Prop := lawS4969ARoundTripRow.holds Ybaf.pinned (OpenSpec.ofChange lawS4969ARoundTripWrong)

end Rows
end Go.Proofs.YbulkcxwqFmt
