/-
  No cell of these rows narrows 'for every input' (looked for: loops, veiled, ifaces, maps, wideKeys, modest, calm, conditions, laid).
  DERIVED. THE GIVEN ROWS OF THIS SEAT. 3 by the template 'for every input the law returns true; each argument reads behind the call as it read before'; 0 by the template 'total and deterministic' (their statements: YbulkcydqTotals.lean).
  GIVEN WITH THE SEED: the statements are not yours to turn. If you find one false, say at which input.
  Laid BY PROGRAM, IN A SANDBOX (cutbox-rows.mjs): the forced cells as the released guide's own fill.sh prints them over the translation 25b9caa1fa660409… (all of the seat's roots in one cut). By AI agents, Wed Nov 11 2026. No macro, syntax, notation, axiom, sorry.
-/
import Derived.Test.YbulkcydqChecked
import GoSem.Claim
import GoSem.ClaimJoined
import GoSem.ClaimMapViews
import Derived.JoinedTies
import Derived.KernelRfl
namespace Go.Proofs.Ybulkcydq
/- THE CELL 'sum', in the pinned program and in every row, IS THE sha256 OF THE DUMP (.gsa) THAT YbulkcydqProg.lean LOADS. Nothing in Lean hashes anything: it is a label: what it is worth is what the hold of that sum in a sandbox is worth. -/
noncomputable def Yba.pinned : Pinned := { name := "ybulkcydq", sum := "25b9caa1fa6604098777182eaeff2aef337aebc973a5966090178287b6d54843", checked := Yba.checked }
namespace Rows
def none {H : Type} : Left H := { results := [], args := [] }

/-- 'client.LawS4982AExact': WHATEVER THE INPUT: true; the input reads as it did. -/
def lawS4982AExactSpec : ChangeSpec := { name := "lawS4982AExact", fn := fun _ => fun
  | [d1, d2, d3, d4, d5] => { results := [.lit (.bool true)], args := [d1, d2, d3, d4, d5] }
  | _ => none }
def lawS4982AExactRow : OpenClaim := { program := "ybulkcydq", sum := "25b9caa1fa6604098777182eaeff2aef337aebc973a5966090178287b6d54843", func := "example.com/slackline/slackline/client.LawS4982AExact", spec := "lawS4982AExact", unfollowed := true, recurses := true, apart := false }
def LawS4982AExactSaid : Prop := lawS4982AExactRow.holds Yba.pinned (OpenSpec.ofChange lawS4982AExactSpec)

/-- ITS FALSE NEIGHBOUR: 'it returns false'. Refute it at one input. -/
def lawS4982AExactWrong : ChangeSpec := { name := "lawS4982AExact", fn := fun _ => fun
  | [d1, d2, d3, d4, d5] => { results := [.lit (.bool false)], args := [d1, d2, d3, d4, d5] }
  | _ => none }
def LawS4982AExactWrongFalsely : Prop := lawS4982AExactRow.holds Yba.pinned (OpenSpec.ofChange lawS4982AExactWrong)

/-- 'membership.LawS4982BCopy': WHATEVER THE INPUT: true; the input reads as it did. -/
def lawS4982BCopySpec : ChangeSpec := { name := "lawS4982BCopy", fn := fun _ => fun
  | [d1, d2, d3, d4] => { results := [.lit (.bool true)], args := [d1, d2, d3, d4] }
  | _ => none }
def lawS4982BCopyRow : OpenClaim := { program := "ybulkcydq", sum := "25b9caa1fa6604098777182eaeff2aef337aebc973a5966090178287b6d54843", func := "example.com/slackline/slackline/membership.LawS4982BCopy", spec := "lawS4982BCopy", apart := false }
def LawS4982BCopySaid : Prop := lawS4982BCopyRow.holds Yba.pinned (OpenSpec.ofChange lawS4982BCopySpec)

/-- ITS FALSE NEIGHBOUR: 'it returns false'. Refute it at one input. -/
def lawS4982BCopyWrong : ChangeSpec := { name := "lawS4982BCopy", fn := fun _ => fun
  | [d1, d2, d3, d4] => { results := [.lit (.bool false)], args := [d1, d2, d3, d4] }
  | _ => none }
def LawS4982BCopyWrongFalsely : Prop := lawS4982BCopyRow.holds Yba.pinned (OpenSpec.ofChange lawS4982BCopyWrong)

/-- 'membership.LawS4982BApart': WHATEVER THE INPUT: true; the input reads as it did. -/
def lawS4982BApartSpec : ChangeSpec := { name := "lawS4982BApart", fn := fun _ => fun
  | [d1, d2, d3, d4] => { results := [.lit (.bool true)], args := [d1, d2, d3, d4] }
  | _ => none }
def lawS4982BApartRow : OpenClaim := { program := "ybulkcydq", sum := "25b9caa1fa6604098777182eaeff2aef337aebc973a5966090178287b6d54843", func := "example.com/slackline/slackline/membership.LawS4982BApart", spec := "lawS4982BApart", apart := false }
def LawS4982BApartSaid : Prop := lawS4982BApartRow.holds Yba.pinned (OpenSpec.ofChange lawS4982BApartSpec)

/-- ITS FALSE NEIGHBOUR: 'it returns false'. Refute it at one input. -/
def lawS4982BApartWrong : ChangeSpec := { name := "lawS4982BApart", fn := fun _ => fun
  | [d1, d2, d3, d4] => { results := [.lit (.bool false)], args := [d1, d2, d3, d4] }
  | _ => none }
def LawS4982BApartWrongFalsely : Prop := lawS4982BApartRow.holds Yba.pinned (OpenSpec.ofChange lawS4982BApartWrong)

end Rows
end Go.Proofs.Ybulkcydq
