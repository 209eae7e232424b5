/-
  No cell of these rows narrows 'for every input' (looked for: loops, veiled, ifaces, maps, wideKeys, modest, calm, conditions, laid).
  DERIVED. THE GIVEN ROWS OF THIS SEAT. 3 by the template 'for every input the law returns true; each argument reads behind the call as it read before'; 0 by the template 'total and deterministic' (their statements: YbulkabaTotals.lean).
  GIVEN WITH THE SEED: the statements are not yours to turn. If you find one false, say at which input.
  Laid BY PROGRAM, IN A SANDBOX (cutbox-rows.mjs): the forced cells as the released guide's own fill.sh prints them over the translation fe4d5f6cd1b0b840… (all of the seat's roots in one cut). By AI agents, Wed Nov 11 2026. No macro, syntax, notation, axiom, sorry.
-/
import Derived.Test.YbulkabaChecked
import GoSem.Claim
import GoSem.ClaimJoined
import GoSem.ClaimMapViews
import Derived.JoinedTies
import Derived.KernelRfl
namespace Go.Proofs.Ybulkaba
/- THE CELL 'sum', in the pinned program and in every row, IS THE sha256 OF THE DUMP (.gsa) THAT YbulkabaProg.lean LOADS. Nothing in Lean hashes anything: it is a label: what it is worth is what the hold of that sum in a sandbox is worth. -/
noncomputable def Yba.pinned : Pinned := { name := "ybulkaba", sum := "fe4d5f6cd1b0b840a696dd41259ce274614841f73c0acc00ed628b37fe1158df", checked := Yba.checked }
namespace Rows
def none {H : Type} : Left H := { results := [], args := [] }

/-- 'graph.LawS0052ASortedPerm': WHATEVER THE INPUT: true; the input reads as it did. -/
def lawS0052ASortedPermSpec : ChangeSpec := { name := "lawS0052ASortedPerm", fn := fun _ => fun
  | [d1, d2] => { results := [.lit (.bool true)], args := [d1, d2] }
  | _ => none }
def lawS0052ASortedPermRow : OpenClaim := { program := "ybulkaba", sum := "fe4d5f6cd1b0b840a696dd41259ce274614841f73c0acc00ed628b37fe1158df", func := "example.com/seriatim/seriatim/graph.LawS0052ASortedPerm", spec := "lawS0052ASortedPerm", unfollowed := true, recurses := true, apart := false }
def LawS0052ASortedPermSaid : Prop := lawS0052ASortedPermRow.holds Yba.pinned (OpenSpec.ofChange lawS0052ASortedPermSpec)

/-- ITS FALSE NEIGHBOUR: 'it returns false'. Refute it at one input. -/
def lawS0052ASortedPermWrong : ChangeSpec := { name := "lawS0052ASortedPerm", fn := fun _ => fun
  | [d1, d2] => { results := [.lit (.bool false)], args := [d1, d2] }
  | _ => none }
def LawS0052ASortedPermWrongFalsely : Prop := lawS0052ASortedPermRow.holds Yba.pinned (OpenSpec.ofChange lawS0052ASortedPermWrong)

/-- 'graph.LawS0052AExact': WHATEVER THE INPUT: true; the input reads as it did. -/
def lawS0052AExactSpec : ChangeSpec := { name := "lawS0052AExact", fn := fun _ => fun
  | [d1, d2] => { results := [.lit (.bool true)], args := [d1, d2] }
  | _ => none }
def lawS0052AExactRow : OpenClaim := { program := "ybulkaba", sum := "fe4d5f6cd1b0b840a696dd41259ce274614841f73c0acc00ed628b37fe1158df", func := "example.com/seriatim/seriatim/graph.LawS0052AExact", spec := "lawS0052AExact", unfollowed := true, recurses := true, apart := false }
def LawS0052AExactSaid : Prop := lawS0052AExactRow.holds Yba.pinned (OpenSpec.ofChange lawS0052AExactSpec)

/-- ITS FALSE NEIGHBOUR: 'it returns false'. Refute it at one input. -/
def lawS0052AExactWrong : ChangeSpec := { name := "lawS0052AExact", fn := fun _ => fun
  | [d1, d2] => { results := [.lit (.bool false)], args := [d1, d2] }
  | _ => none }
def LawS0052AExactWrongFalsely : Prop := lawS0052AExactRow.holds Yba.pinned (OpenSpec.ofChange lawS0052AExactWrong)

/-- 'graph.LawS0052BLink': WHATEVER THE INPUT: true; the input reads as it did. -/
def lawS0052BLinkSpec : ChangeSpec := { name := "lawS0052BLink", fn := fun _ => fun
  | [d1, d2, d3, d4] => { results := [.lit (.bool true)], args := [d1, d2, d3, d4] }
  | _ => none }
def lawS0052BLinkRow : OpenClaim := { program := "ybulkaba", sum := "fe4d5f6cd1b0b840a696dd41259ce274614841f73c0acc00ed628b37fe1158df", func := "example.com/seriatim/seriatim/graph.LawS0052BLink", spec := "lawS0052BLink", apart := false }
def LawS0052BLinkSaid : Prop := lawS0052BLinkRow.holds Yba.pinned (OpenSpec.ofChange lawS0052BLinkSpec)

/-- ITS FALSE NEIGHBOUR: 'it returns false'. Refute it at one input. -/
def lawS0052BLinkWrong : ChangeSpec := { name := "lawS0052BLink", fn := fun _ => fun
  | [d1, d2, d3, d4] => { results := [.lit (.bool false)], args := [d1, d2, d3, d4] }
  | _ => none }
def LawS0052BLinkWrongFalsely : Prop := lawS0052BLinkRow.holds Yba.pinned (OpenSpec.ofChange lawS0052BLinkWrong)

end Rows
end Go.Proofs.Ybulkaba
