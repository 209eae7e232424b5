/-
  No cell of these rows narrows 'for every input' (looked for: loops, veiled, ifaces, maps, wideKeys, modest, calm, conditions, laid).
  DERIVED. THE GIVEN ROWS OF THIS SEAT. 1 by the template 'for every input the law returns true; each argument reads behind the call as it read before'; 0 by the template 'total and deterministic' (their statements: YbulkadsTotals.lean).
  GIVEN WITH THE SEED: the statements are not yours to turn. If you find one false, say at which input.
  Laid BY PROGRAM, IN A SANDBOX (cutbox-rows.mjs): the forced cells as the released guide's own fill.sh prints them over the translation e5a1aa23ad3f66f6… (all of the seat's roots in one cut). By AI agents, Wed Nov 11 2026. No macro, syntax, notation, axiom, sorry.
-/
import Derived.Test.YbulkadsChecked
import GoSem.Claim
import GoSem.ClaimJoined
import GoSem.ClaimMapViews
import Derived.JoinedTies
import Derived.KernelRfl
namespace Go.Proofs.Ybulkads
/- THE CELL 'sum', in the pinned program and in every row, IS THE sha256 OF THE DUMP (.gsa) THAT YbulkadsProg.lean LOADS. Nothing in Lean hashes anything: it is a label: what it is worth is what the hold of that sum in a sandbox is worth. -/
noncomputable def Yba.pinned : Pinned := { name := "ybulkads", sum := "e5a1aa23ad3f66f6a230858435e4a44fdace17a93147282a69b9a7c6ff9821de", checked := Yba.checked }
namespace Rows
def none {H : Type} : Left H := { results := [], args := [] }

/-- 'sim.LawS0057ALayout': WHATEVER THE INPUT: true; the input reads as it did. -/
def lawS0057ALayoutSpec : ChangeSpec := { name := "lawS0057ALayout", fn := fun _ => fun
  | [d1, d2, d3] => { results := [.lit (.bool true)], args := [d1, d2, d3] }
  | _ => none }
def lawS0057ALayoutRow : OpenClaim := { program := "ybulkads", sum := "e5a1aa23ad3f66f6a230858435e4a44fdace17a93147282a69b9a7c6ff9821de", func := "example.com/holdfast/holdfast/internal/sim.LawS0057ALayout", spec := "lawS0057ALayout", unfollowed := true, recurses := true, apart := false }
def LawS0057ALayoutSaid : Prop := lawS0057ALayoutRow.holds Yba.pinned (OpenSpec.ofChange lawS0057ALayoutSpec)

/-- ITS FALSE NEIGHBOUR: 'it returns false'. Refute it at one input. -/
def lawS0057ALayoutWrong : ChangeSpec := { name := "lawS0057ALayout", fn := fun _ => fun
  | [d1, d2, d3] => { results := [.lit (.bool false)], args := [d1, d2, d3] }
  | _ => none }
def LawS0057ALayoutWrongFalsely : Prop := lawS0057ALayoutRow.holds Yba.pinned (OpenSpec.ofChange lawS0057ALayoutWrong)

end Rows
end Go.Proofs.Ybulkads
