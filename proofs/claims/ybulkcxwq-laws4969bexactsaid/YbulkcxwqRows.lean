/-
  No cell of these rows narrows 'for every input' (looked for: loops, veiled, ifaces, maps, wideKeys, modest, calm, conditions, laid).
  DERIVED. THE GIVEN ROWS OF THIS SEAT. 2 by the template 'for every input the law returns true; each argument reads behind the call as it read before'; 0 by the template 'total and deterministic' (their statements: YbulkcxwqTotals.lean).
  GIVEN WITH THE SEED: the statements are not yours to turn. If you find one false, say at which input.
  Laid BY PROGRAM, IN A SANDBOX (cutbox-rows.mjs): the forced cells as the released guide's own fill.sh prints them over the translation aa1fd53569814703… (all of the seat's roots in one cut). By AI agents, Wed Nov 11 2026. No macro, syntax, notation, axiom, sorry.
-/
import Derived.Test.YbulkcxwqChecked
import GoSem.Claim
import GoSem.ClaimJoined
import GoSem.ClaimMapViews
import Derived.JoinedTies
import Derived.KernelRfl
namespace Go.Proofs.Ybulkcxwq
/- THE CELL 'sum', in the pinned program and in every row, IS THE sha256 OF THE DUMP (.gsa) THAT YbulkcxwqProg.lean LOADS. Nothing in Lean hashes anything: it is a label: what it is worth is what the hold of that sum in a sandbox is worth. -/
noncomputable def Yba.pinned : Pinned := { name := "ybulkcxwq", sum := "aa1fd53569814703ef54da7696241d2fc464cb123da05009dbef0332a669161a", checked := Yba.checked }
namespace Rows
def none {H : Type} : Left H := { results := [], args := [] }

/-- 'scte35.LawS4969BExact': WHATEVER THE INPUT: true; the input reads as it did. -/
def lawS4969BExactSpec : ChangeSpec := { name := "lawS4969BExact", fn := fun _ => fun
  | [d1, d2, d3] => { results := [.lit (.bool true)], args := [d1, d2, d3] }
  | _ => none }
def lawS4969BExactRow : OpenClaim := { program := "ybulkcxwq", sum := "aa1fd53569814703ef54da7696241d2fc464cb123da05009dbef0332a669161a", func := "example.com/syncbyte/syncbyte/scte35.LawS4969BExact", spec := "lawS4969BExact", named := ["encoding/binary.BigEndian"], apart := false }
def LawS4969BExactSaid : Prop := lawS4969BExactRow.holds Yba.pinned (OpenSpec.ofChange lawS4969BExactSpec)

/-- ITS FALSE NEIGHBOUR: 'it returns false'. Refute it at one input. -/
def lawS4969BExactWrong : ChangeSpec := { name := "lawS4969BExact", fn := fun _ => fun
  | [d1, d2, d3] => { results := [.lit (.bool false)], args := [d1, d2, d3] }
  | _ => none }
def LawS4969BExactWrongFalsely : Prop := lawS4969BExactRow.holds Yba.pinned (OpenSpec.ofChange lawS4969BExactWrong)

/-- 'scte35.LawS4969BSplit': WHATEVER THE INPUT: true; the input reads as it did. -/
def lawS4969BSplitSpec : ChangeSpec := { name := "lawS4969BSplit", fn := fun _ => fun
  | [d1, d2, d3] => { results := [.lit (.bool true)], args := [d1, d2, d3] }
  | _ => none }
def lawS4969BSplitRow : OpenClaim := { program := "ybulkcxwq", sum := "aa1fd53569814703ef54da7696241d2fc464cb123da05009dbef0332a669161a", func := "example.com/syncbyte/syncbyte/scte35.LawS4969BSplit", spec := "lawS4969BSplit", apart := false }
def LawS4969BSplitSaid : Prop := lawS4969BSplitRow.holds Yba.pinned (OpenSpec.ofChange lawS4969BSplitSpec)

/-- ITS FALSE NEIGHBOUR: 'it returns false'. Refute it at one input. -/
def lawS4969BSplitWrong : ChangeSpec := { name := "lawS4969BSplit", fn := fun _ => fun
  | [d1, d2, d3] => { results := [.lit (.bool false)], args := [d1, d2, d3] }
  | _ => none }
def LawS4969BSplitWrongFalsely : Prop := lawS4969BSplitRow.holds Yba.pinned (OpenSpec.ofChange lawS4969BSplitWrong)

end Rows
end Go.Proofs.Ybulkcxwq
