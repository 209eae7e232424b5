import Derived.Test.YbulkaamM
import Derived.Laws.Externs
import Derived.MapKept
namespace Go.Proofs.Ybulkaam
open Go.RowKit Go.ChangeMaps

theorem run_mclone {w : World} {r : Nat} {es : Array MapEntry} {clock : Nat} (t : TypeId) (hb : w.heap[r]? = some (.map es clock)) :
    (Extern.MapsClone.clone #[.iface t (.map (some r))]).run Yba.prog w = .ok (.iface t (.map (some w.heap.size))) (w.alloc (.map es clock)) := by
  have e : Extern.MapsClone.clone #[.iface t (.map (some r))] = (getObj r >>= fun o => match o with
      | .map entries clock => (newObj (.map entries clock) >>= fun n => pure (.iface t (.map (some n))))
      | _ => stuck "maps.clone: a map expected") := rfl
  rw [e]
  simp [MapKept.run_getObj_map hb, Result.andThen, go_sem]
theorem nil64 (w : World) (b : Nat) : (binOp .eql 64 (.map (some b)) (.map none)).run Yba.prog w = .ok (.bool false) w := by
  have h : ∀ d : Nat, (Op.equalIn (d + 1) 64 (.map (some b)) (.map none)).run Yba.prog w = .ok false w := fun d => by simp [Op.equalIn, run_underlying Yba.underlying64]
  simp only [binOp]
  simp [Op.equal, Op.maxDepth, h 9999]
theorem assert64 (w : World) (v : Value) : (Instr.typeAssert (.iface 64 v) 20 64 false).run Yba.prog w = .ok v w := by
  simp [Instr.typeAssert, run_underlying Yba.underlying64, go_sem, Result.andThen]

set_option maxRecDepth 100000 in
set_option maxHeartbeats 2000000 in
theorem mclone_walk (b : Nat) (es : Array MapEntry) (clock : Nat) (w : World) (hb : w.heap[b]? = some (.map es clock)) :
    Calls Yba.prog 20 #[.map (some b)] w fun e w' => e = .returned (.map (some w.heap.size)) ∧ w' = w.alloc (.map es clock) := by
  have hq := fun w => nil64 w b
  go_enter Yba.func20, Yba.ntmps20
  go_wp2
  rw [run_callFunc_extern Yba.func25 (by kernel_rfl) (by kernel_rfl) (by kernel_rfl) (e := Extern.MapsClone.clone) (by kernel_rfl), run_mclone 64 hb]
  simp only [Result.andThen]
  rw [Oper.upon_value]
  go_wp2
  rw [assert64]
  simp only [Result.andThen]
  rw [Oper.upon_value]
  go_wp2
  go_ret
  exact ⟨rfl, rfl⟩

/-! ### pointers to slotGroups held against each other -/
theorem info66 : (Yba.prog.info? 66).map (fun i => i.size) = some 5 := by kernel_rfl
theorem sameIn62 (d : Nat) (a : Addr) (w : World) : (Op.equalIn (d + 1) 62 (.pointer (some a)) (.pointer (some a))).run Yba.prog w = .ok true w := by
  obtain ⟨i, hi, hs⟩ := Option.map_eq_some_iff.1 info66
  simp [Op.equalIn, run_underlying Yba.underlying62, sizeOf, typeInfo, hi, run_sameAddr_same]
theorem neqSame62 (a : Addr) (w : World) : (binOp .neq 62 (.pointer (some a)) (.pointer (some a))).run Yba.prog w = .ok (.bool false) w := by
  simp only [binOp]
  simp [Op.equal, Op.maxDepth, sameIn62 9999]
theorem eqlNil62 (a : Addr) (w : World) : (binOp .eql 62 (.pointer (some a)) (.pointer none)).run Yba.prog w = .ok (.bool false) w := by
  have h : ∀ d : Nat, (Op.equalIn (d + 1) 62 (.pointer (some a)) (.pointer none)).run Yba.prog w = .ok false w := fun d => by simp [Op.equalIn, run_underlying Yba.underlying62]
  simp only [binOp]
  simp [Op.equal, Op.maxDepth, h 9999]
theorem neqNil62 (a : Addr) (w : World) : (binOp .neq 62 (.pointer (some a)) (.pointer none)).run Yba.prog w = .ok (.bool true) w := by
  have h : ∀ d : Nat, (Op.equalIn (d + 1) 62 (.pointer (some a)) (.pointer none)).run Yba.prog w = .ok false w := fun d => by simp [Op.equalIn, run_underlying Yba.underlying62]
  simp only [binOp]
  simp [Op.equal, Op.maxDepth, h 9999]
theorem neqNone62 (w : World) : (binOp .neq 62 (.pointer none) (.pointer none)).run Yba.prog w = .ok (.bool false) w := by
  have h : ∀ d : Nat, (Op.equalIn (d + 1) 62 (.pointer none) (.pointer none)).run Yba.prog w = .ok true w := fun d => by simp [Op.equalIn, run_underlying Yba.underlying62]
  simp only [binOp]
  simp [Op.equal, Op.maxDepth, h 9999]
theorem eqlOther62 {a b : Addr} {w : World} {ca cb : Array Value} {ta tb : TypeId} (hne : a ≠ b) (ha : w.heap[a.block]? = some (.cells ca ta (0, 0))) (hb : w.heap[b.block]? = some (.cells cb tb (0, 0))) :
    (binOp .eql 62 (.pointer (some a)) (.pointer (some b))).run Yba.prog w = .ok (.bool false) w := by
  obtain ⟨i, hi, hs⟩ := Option.map_eq_some_iff.1 info66
  have h : ∀ d : Nat, (Op.equalIn (d + 1) 62 (.pointer (some a)) (.pointer (some b))).run Yba.prog w = .ok false w := fun d => by
    simp [Op.equalIn, run_underlying Yba.underlying62, sizeOf, typeInfo, hi, hs, run_sameAddr_other w hne ha hb]
  simp only [binOp]
  simp [Op.equal, Op.maxDepth, h 9999]
end Go.Proofs.Ybulkaam
