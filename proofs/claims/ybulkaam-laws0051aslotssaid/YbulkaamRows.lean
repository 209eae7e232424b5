/-
  No cell of these rows narrows 'for every input' (looked for: loops, veiled, ifaces, maps, wideKeys, modest, calm, conditions, laid).
  DERIVED. THE GIVEN ROWS OF THIS SEAT. 4 by the template 'for every input the law returns true; each argument reads behind the call as it read before'; 0 by the template 'total and deterministic' (their statements: YbulkaamTotals.lean).
  GIVEN WITH THE SEED: the statements are not yours to turn. If you find one false, say at which input.
  Laid BY PROGRAM, IN A SANDBOX (cutbox-rows.mjs): the forced cells as the released guide's own fill.sh prints them over the translation d8b7be99a82dbbaa… (all of the seat's roots in one cut). By AI agents, Wed Nov 11 2026. No macro, syntax, notation, axiom, sorry.
-/
import Derived.Test.YbulkaamChecked
import GoSem.Claim
import GoSem.ClaimJoined
import GoSem.ClaimMapViews
import Derived.JoinedTies
import Derived.KernelRfl
namespace Go.Proofs.Ybulkaam
/- THE CELL 'sum', in the pinned program and in every row, IS THE sha256 OF THE DUMP (.gsa) THAT YbulkaamProg.lean LOADS. Nothing in Lean hashes anything: it is a label: what it is worth is what the hold of that sum in a sandbox is worth. -/
noncomputable def Yba.pinned : Pinned := { name := "ybulkaam", sum := "d8b7be99a82dbbaa114bae49e32e0ff1ab8b25f1134635602be88314e49ffbab", checked := Yba.checked }
namespace Rows
def none {H : Type} : Left H := { results := [], args := [] }

/-- 'sched.LawS0051ACopy': WHATEVER THE INPUT: true; the input reads as it did. -/
def lawS0051ACopySpec : ChangeSpec := { name := "lawS0051ACopy", fn := fun _ => fun
  | [d1, d2] => { results := [.lit (.bool true)], args := [d1, d2] }
  | _ => none }
def lawS0051ACopyRow : OpenClaim := { program := "ybulkaam", sum := "d8b7be99a82dbbaa114bae49e32e0ff1ab8b25f1134635602be88314e49ffbab", func := "example.com/pivotweave/pivotweave/internal/sched.LawS0051ACopy", spec := "lawS0051ACopy", inPlace := ["maps.clone"], plainKeys := false, apart := false }
def LawS0051ACopySaid : Prop := lawS0051ACopyRow.holds Yba.pinned (OpenSpec.ofChange lawS0051ACopySpec)

/-- ITS FALSE NEIGHBOUR: 'it returns false'. Refute it at one input. -/
def lawS0051ACopyWrong : ChangeSpec := { name := "lawS0051ACopy", fn := fun _ => fun
  | [d1, d2] => { results := [.lit (.bool false)], args := [d1, d2] }
  | _ => none }
def LawS0051ACopyWrongFalsely : Prop := lawS0051ACopyRow.holds Yba.pinned (OpenSpec.ofChange lawS0051ACopyWrong)

/-- 'sched.LawS0051ASlots': WHATEVER THE INPUT: true; the input reads as it did. -/
def lawS0051ASlotsSpec : ChangeSpec := { name := "lawS0051ASlots", fn := fun _ => fun
  | [d1, d2, d3] => { results := [.lit (.bool true)], args := [d1, d2, d3] }
  | _ => none }
def lawS0051ASlotsRow : OpenClaim := { program := "ybulkaam", sum := "d8b7be99a82dbbaa114bae49e32e0ff1ab8b25f1134635602be88314e49ffbab", func := "example.com/pivotweave/pivotweave/internal/sched.LawS0051ASlots", spec := "lawS0051ASlots", inPlace := ["maps.clone"], plainKeys := false, apart := false }
def LawS0051ASlotsSaid : Prop := lawS0051ASlotsRow.holds Yba.pinned (OpenSpec.ofChange lawS0051ASlotsSpec)

/-- ITS FALSE NEIGHBOUR: 'it returns false'. Refute it at one input. -/
def lawS0051ASlotsWrong : ChangeSpec := { name := "lawS0051ASlots", fn := fun _ => fun
  | [d1, d2, d3] => { results := [.lit (.bool false)], args := [d1, d2, d3] }
  | _ => none }
def LawS0051ASlotsWrongFalsely : Prop := lawS0051ASlotsRow.holds Yba.pinned (OpenSpec.ofChange lawS0051ASlotsWrong)

/-- 'engine.LawS0051BState': WHATEVER THE INPUT: true; the input reads as it did. -/
def lawS0051BStateSpec : ChangeSpec := { name := "lawS0051BState", fn := fun _ => fun
  | [d1, d2, d3] => { results := [.lit (.bool true)], args := [d1, d2, d3] }
  | _ => none }
def lawS0051BStateRow : OpenClaim := { program := "ybulkaam", sum := "d8b7be99a82dbbaa114bae49e32e0ff1ab8b25f1134635602be88314e49ffbab", func := "example.com/pivotweave/pivotweave/internal/engine.LawS0051BState", spec := "lawS0051BState", inPlace := ["(*internal/sync.Mutex).Lock", "internal/race.Disable", "sync/atomic.CompareAndSwapInt32", "internal/race.Enable", "internal/race.Acquire", "(*internal/sync.Mutex).lockSlow", "internal/sync.runtime_canSpin", "internal/sync.runtime_doSpin", "internal/sync.throw", "internal/sync.runtime_nanotime", "internal/sync.runtime_SemacquireMutex", "sync/atomic.AddInt32", "(*internal/sync.Mutex).Unlock", "internal/race.ReleaseMerge", "(*internal/sync.Mutex).unlockSlow", "internal/sync.fatal", "internal/sync.runtime_Semrelease", "(*internal/sync.Mutex).TryLock"], plainKeys := false, apart := false }
def LawS0051BStateSaid : Prop := lawS0051BStateRow.holds Yba.pinned (OpenSpec.ofChange lawS0051BStateSpec)

/-- ITS FALSE NEIGHBOUR: 'it returns false'. Refute it at one input. -/
def lawS0051BStateWrong : ChangeSpec := { name := "lawS0051BState", fn := fun _ => fun
  | [d1, d2, d3] => { results := [.lit (.bool false)], args := [d1, d2, d3] }
  | _ => none }
def LawS0051BStateWrongFalsely : Prop := lawS0051BStateRow.holds Yba.pinned (OpenSpec.ofChange lawS0051BStateWrong)

/-- 'engine.LawS0051BTwice': WHATEVER THE INPUT: true; the input reads as it did. -/
def lawS0051BTwiceSpec : ChangeSpec := { name := "lawS0051BTwice", fn := fun _ => fun
  | [d1, d2, d3] => { results := [.lit (.bool true)], args := [d1, d2, d3] }
  | _ => none }
def lawS0051BTwiceRow : OpenClaim := { program := "ybulkaam", sum := "d8b7be99a82dbbaa114bae49e32e0ff1ab8b25f1134635602be88314e49ffbab", func := "example.com/pivotweave/pivotweave/internal/engine.LawS0051BTwice", spec := "lawS0051BTwice", inPlace := ["(*internal/sync.Mutex).Lock", "internal/race.Disable", "sync/atomic.CompareAndSwapInt32", "internal/race.Enable", "internal/race.Acquire", "(*internal/sync.Mutex).lockSlow", "internal/sync.runtime_canSpin", "internal/sync.runtime_doSpin", "internal/sync.throw", "internal/sync.runtime_nanotime", "internal/sync.runtime_SemacquireMutex", "sync/atomic.AddInt32", "(*internal/sync.Mutex).Unlock", "internal/race.ReleaseMerge", "(*internal/sync.Mutex).unlockSlow", "internal/sync.fatal", "internal/sync.runtime_Semrelease", "(*internal/sync.Mutex).TryLock"], plainKeys := false, apart := false }
def LawS0051BTwiceSaid : Prop := lawS0051BTwiceRow.holds Yba.pinned (OpenSpec.ofChange lawS0051BTwiceSpec)

/-- ITS FALSE NEIGHBOUR: 'it returns false'. Refute it at one input. -/
def lawS0051BTwiceWrong : ChangeSpec := { name := "lawS0051BTwice", fn := fun _ => fun
  | [d1, d2, d3] => { results := [.lit (.bool false)], args := [d1, d2, d3] }
  | _ => none }
def LawS0051BTwiceWrongFalsely : Prop := lawS0051BTwiceRow.holds Yba.pinned (OpenSpec.ofChange lawS0051BTwiceWrong)

end Rows
end Go.Proofs.Ybulkaam
