/-
  No cell of these rows narrows 'for every input' (looked for: loops, veiled, ifaces, maps, wideKeys, modest, calm, conditions, laid).
  DERIVED. THE GIVEN ROWS OF THIS SEAT. 2 by the template 'for every input the law returns true; each argument reads behind the call as it read before'; 0 by the template 'total and deterministic' (their statements: YbulkcxyuTotals.lean).
  GIVEN WITH THE SEED: the statements are not yours to turn. If you find one false, say at which input.
  Laid BY PROGRAM, IN A SANDBOX (cutbox-rows.mjs): the forced cells as the released guide's own fill.sh prints them over the translation fcfa9b89b38b8192… (all of the seat's roots in one cut). By AI agents, Wed Nov 11 2026. No macro, syntax, notation, axiom, sorry.
-/
import Derived.Test.YbulkcxyuChecked
import GoSem.Claim
import GoSem.ClaimJoined
import GoSem.ClaimMapViews
import Derived.JoinedTies
import Derived.KernelRfl
namespace Go.Proofs.Ybulkcxyu
/- THE CELL 'sum', in the pinned program and in every row, IS THE sha256 OF THE DUMP (.gsa) THAT YbulkcxyuProg.lean LOADS. Nothing in Lean hashes anything: it is a label: what it is worth is what the hold of that sum in a sandbox is worth. -/
noncomputable def Yba.pinned : Pinned := { name := "ybulkcxyu", sum := "fcfa9b89b38b8192a1a8d75e84f75af9abc4a62b809f67e8934b7b92e07403d5", checked := Yba.checked }
namespace Rows
def none {H : Type} : Left H := { results := [], args := [] }

/-- 'bounds-on-behavior.LawS4973CInts': WHATEVER THE INPUT: true; the input reads as it did. -/
def lawS4973CIntsSpec : ChangeSpec := { name := "lawS4973CInts", fn := fun _ => fun
  | [d1, d2] => { results := [.lit (.bool true)], args := [d1, d2] }
  | _ => none }
def lawS4973CIntsRow : OpenClaim := { program := "ybulkcxyu", sum := "fcfa9b89b38b8192a1a8d75e84f75af9abc4a62b809f67e8934b7b92e07403d5", func := "example.com/bounds-on-behavior/bounds-on-behavior.LawS4973CInts", spec := "lawS4973CInts", apart := false }
def LawS4973CIntsSaid : Prop := lawS4973CIntsRow.holds Yba.pinned (OpenSpec.ofChange lawS4973CIntsSpec)

/-- ITS FALSE NEIGHBOUR: 'it returns false'. Refute it at one input. -/
def lawS4973CIntsWrong : ChangeSpec := { name := "lawS4973CInts", fn := fun _ => fun
  | [d1, d2] => { results := [.lit (.bool false)], args := [d1, d2] }
  | _ => none }
def LawS4973CIntsWrongFalsely : Prop := lawS4973CIntsRow.holds Yba.pinned (OpenSpec.ofChange lawS4973CIntsWrong)

/-- 'bounds-on-behavior.LawS4973CStrings': WHATEVER THE INPUT: true; the input reads as it did. -/
def lawS4973CStringsSpec : ChangeSpec := { name := "lawS4973CStrings", fn := fun _ => fun
  | [d1, d2] => { results := [.lit (.bool true)], args := [d1, d2] }
  | _ => none }
def lawS4973CStringsRow : OpenClaim := { program := "ybulkcxyu", sum := "fcfa9b89b38b8192a1a8d75e84f75af9abc4a62b809f67e8934b7b92e07403d5", func := "example.com/bounds-on-behavior/bounds-on-behavior.LawS4973CStrings", spec := "lawS4973CStrings", apart := false }
def LawS4973CStringsSaid : Prop := lawS4973CStringsRow.holds Yba.pinned (OpenSpec.ofChange lawS4973CStringsSpec)

/-- ITS FALSE NEIGHBOUR: 'it returns false'. Refute it at one input. -/
def lawS4973CStringsWrong : ChangeSpec := { name := "lawS4973CStrings", fn := fun _ => fun
  | [d1, d2] => { results := [.lit (.bool false)], args := [d1, d2] }
  | _ => none }
def LawS4973CStringsWrongFalsely : Prop := lawS4973CStringsRow.holds Yba.pinned (OpenSpec.ofChange lawS4973CStringsWrong)

end Rows
end Go.Proofs.Ybulkcxyu
