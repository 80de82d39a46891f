/-
  No cell of these rows narrows 'for every input' (looked for: loops, veiled, ifaces, maps, wideKeys, modest, calm, conditions, laid).
  DERIVED. THE GIVEN ROWS OF THIS SEAT. 1 by the template 'for every input the law returns true; each argument reads behind the call as it read before'; 0 by the template 'total and deterministic' (their statements: YbulkcxwcTotals.lean).
  GIVEN WITH THE SEED: the statements are not yours to turn. If you find one false, say at which input.
  Laid BY PROGRAM, IN A SANDBOX (cutbox-rows.mjs): the forced cells as the released guide's own fill.sh prints them over the translation 6cd2f2fcab7fd226… (all of the seat's roots in one cut). By AI agents, Wed Nov 11 2026. No macro, syntax, notation, axiom, sorry.
-/
import Derived.Test.YbulkcxwcChecked
import GoSem.Claim
import GoSem.ClaimJoined
import GoSem.ClaimMapViews
import Derived.JoinedTies
import Derived.KernelRfl
namespace Go.Proofs.Ybulkcxwc
/- THE CELL 'sum', in the pinned program and in every row, IS THE sha256 OF THE DUMP (.gsa) THAT YbulkcxwcProg.lean LOADS. Nothing in Lean hashes anything: it is a label: what it is worth is what the hold of that sum in a sandbox is worth. -/
noncomputable def Yba.pinned : Pinned := { name := "ybulkcxwc", sum := "6cd2f2fcab7fd226ecc5b42083efce03924168c92936bd8aaa05b5fcd18475f5", checked := Yba.checked }
namespace Rows
def none {H : Type} : Left H := { results := [], args := [] }

/-- 'arcstep.LawS4968AModel': WHATEVER THE INPUT: true; the input reads as it did. -/
def lawS4968AModelSpec : ChangeSpec := { name := "lawS4968AModel", fn := fun _ => fun
  | [d1, d2, d3, d4, d5, d6] => { results := [.lit (.bool true)], args := [d1, d2, d3, d4, d5, d6] }
  | _ => none }
def lawS4968AModelRow : OpenClaim := { program := "ybulkcxwc", sum := "6cd2f2fcab7fd226ecc5b42083efce03924168c92936bd8aaa05b5fcd18475f5", func := "example.com/arcstep/arcstep.LawS4968AModel", spec := "lawS4968AModel", apart := false }
def LawS4968AModelSaid : Prop := lawS4968AModelRow.holds Yba.pinned (OpenSpec.ofChange lawS4968AModelSpec)

/-- ITS FALSE NEIGHBOUR: 'it returns false'. Refute it at one input. -/
def lawS4968AModelWrong : ChangeSpec := { name := "lawS4968AModel", fn := fun _ => fun
  | [d1, d2, d3, d4, d5, d6] => { results := [.lit (.bool false)], args := [d1, d2, d3, d4, d5, d6] }
  | _ => none }
def LawS4968AModelWrongFalsely : Prop := lawS4968AModelRow.holds Yba.pinned (OpenSpec.ofChange lawS4968AModelWrong)

end Rows
end Go.Proofs.Ybulkcxwc
