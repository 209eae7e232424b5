/-
  No cell of these rows narrows 'for every input' (looked for: loops, veiled, ifaces, maps, wideKeys, modest, calm, conditions, laid).
  DERIVED. THE GIVEN ROWS OF THIS SEAT. 3 by the template 'for every input the law returns true; each argument reads behind the call as it read before'; 0 by the template 'total and deterministic' (their statements: YbulkacqTotals.lean).
  GIVEN WITH THE SEED: the statements are not yours to turn. If you find one false, say at which input.
  Laid BY PROGRAM, IN A SANDBOX (cutbox-rows.mjs): the forced cells as the released guide's own fill.sh prints them over the translation 714504388e20c705… (all of the seat's roots in one cut). By AI agents, Wed Nov 11 2026. No macro, syntax, notation, axiom, sorry.
-/
import Derived.Test.YbulkacqChecked
import GoSem.Claim
import GoSem.ClaimJoined
import GoSem.ClaimMapViews
import Derived.JoinedTies
import Derived.KernelRfl
namespace Go.Proofs.Ybulkacq
/- THE CELL 'sum', in the pinned program and in every row, IS THE sha256 OF THE DUMP (.gsa) THAT YbulkacqProg.lean LOADS. Nothing in Lean hashes anything: it is a label: what it is worth is what the hold of that sum in a sandbox is worth. -/
noncomputable def Yba.pinned : Pinned := { name := "ybulkacq", sum := "714504388e20c7058eab228caf7ada7789c78b88859b2727ac7912012f58b40a", checked := Yba.checked }
namespace Rows
def none {H : Type} : Left H := { results := [], args := [] }

/-- 'strategos.LawS0055ANamed': WHATEVER THE INPUT: true; the input reads as it did. -/
def lawS0055ANamedSpec : ChangeSpec := { name := "lawS0055ANamed", fn := fun _ => fun
  | [d1, d2, d3, d4, d5, d6] => { results := [.lit (.bool true)], args := [d1, d2, d3, d4, d5, d6] }
  | _ => none }
def lawS0055ANamedRow : OpenClaim := { program := "ybulkacq", sum := "714504388e20c7058eab228caf7ada7789c78b88859b2727ac7912012f58b40a", func := "example.com/strategos/strategos.LawS0055ANamed", spec := "lawS0055ANamed", unfollowed := true, recurses := true, plainKeys := false, apart := false }
def LawS0055ANamedSaid : Prop := lawS0055ANamedRow.holds Yba.pinned (OpenSpec.ofChange lawS0055ANamedSpec)

/-- ITS FALSE NEIGHBOUR: 'it returns false'. Refute it at one input. -/
def lawS0055ANamedWrong : ChangeSpec := { name := "lawS0055ANamed", fn := fun _ => fun
  | [d1, d2, d3, d4, d5, d6] => { results := [.lit (.bool false)], args := [d1, d2, d3, d4, d5, d6] }
  | _ => none }
def LawS0055ANamedWrongFalsely : Prop := lawS0055ANamedRow.holds Yba.pinned (OpenSpec.ofChange lawS0055ANamedWrong)

/-- 'strategos.LawS0055AIdempotent': WHATEVER THE INPUT: true; the input reads as it did. -/
def lawS0055AIdempotentSpec : ChangeSpec := { name := "lawS0055AIdempotent", fn := fun _ => fun
  | [d1, d2, d3] => { results := [.lit (.bool true)], args := [d1, d2, d3] }
  | _ => none }
def lawS0055AIdempotentRow : OpenClaim := { program := "ybulkacq", sum := "714504388e20c7058eab228caf7ada7789c78b88859b2727ac7912012f58b40a", func := "example.com/strategos/strategos.LawS0055AIdempotent", spec := "lawS0055AIdempotent", unfollowed := true, recurses := true, plainKeys := false, apart := false }
def LawS0055AIdempotentSaid : Prop := lawS0055AIdempotentRow.holds Yba.pinned (OpenSpec.ofChange lawS0055AIdempotentSpec)

/-- ITS FALSE NEIGHBOUR: 'it returns false'. Refute it at one input. -/
def lawS0055AIdempotentWrong : ChangeSpec := { name := "lawS0055AIdempotent", fn := fun _ => fun
  | [d1, d2, d3] => { results := [.lit (.bool false)], args := [d1, d2, d3] }
  | _ => none }
def LawS0055AIdempotentWrongFalsely : Prop := lawS0055AIdempotentRow.holds Yba.pinned (OpenSpec.ofChange lawS0055AIdempotentWrong)

/-- 'strategos.LawS0055BBuild': WHATEVER THE INPUT: true; the input reads as it did. -/
def lawS0055BBuildSpec : ChangeSpec := { name := "lawS0055BBuild", fn := fun _ => fun
  | [d1, d2, d3, d4, d5] => { results := [.lit (.bool true)], args := [d1, d2, d3, d4, d5] }
  | _ => none }
def lawS0055BBuildRow : OpenClaim := { program := "ybulkacq", sum := "714504388e20c7058eab228caf7ada7789c78b88859b2727ac7912012f58b40a", func := "example.com/strategos/strategos.LawS0055BBuild", spec := "lawS0055BBuild", plainKeys := false, apart := false }
def LawS0055BBuildSaid : Prop := lawS0055BBuildRow.holds Yba.pinned (OpenSpec.ofChange lawS0055BBuildSpec)

/-- ITS FALSE NEIGHBOUR: 'it returns false'. Refute it at one input. -/
def lawS0055BBuildWrong : ChangeSpec := { name := "lawS0055BBuild", fn := fun _ => fun
  | [d1, d2, d3, d4, d5] => { results := [.lit (.bool false)], args := [d1, d2, d3, d4, d5] }
  | _ => none }
def LawS0055BBuildWrongFalsely : Prop := lawS0055BBuildRow.holds Yba.pinned (OpenSpec.ofChange lawS0055BBuildWrong)

end Rows
end Go.Proofs.Ybulkacq
