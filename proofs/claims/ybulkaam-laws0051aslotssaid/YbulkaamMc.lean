import Derived.Test.YbulkaamM
import Derived.Shelf.SlMaps.Clone
import Derived.Shelf.SlGeneric
namespace Go.Proofs
shelf_lay_g SlLaysW.n5 Slmc 5 at Yba 20 as Yba.l20
end Go.Proofs
namespace Go.Proofs.Ybulkaam
open Go.RowKit Go.ChangeMaps

/-- maps.Clone at map[int]bool: the shelf's contract at this dump -/
theorem mclone_walk (b : Nat) (es : Array MapEntry) (clock : Nat) (w : World) (hb : w.heap[b]? = some (.map es clock)) :
    Calls Yba.prog 20 #[.map (some b)] w fun e w' => e = .returned (.map (some w.heap.size)) ∧ w' = w.alloc (.map es clock) :=
  AnyW.maps_Clone Yba.l20 b es clock w hb

/-! ### pointers to slotGroups held against each other -/
theorem info66 : (Yba.prog.info? 66).map (fun i => i.size) = some 5 := by kernel_rfl
theorem sameIn62 (d : Nat) (a : Addr) (w : World) : (Op.equalIn (d + 1) 62 (.pointer (some a)) (.pointer (some a))).run Yba.prog w = .ok true w := by
  obtain ⟨i, hi, hs⟩ := Option.map_eq_some_iff.1 info66
  simp [Op.equalIn, run_underlying Yba.underlying62, sizeOf, typeInfo, hi, run_sameAddr_same]
theorem neqSame62 (a : Addr) (w : World) : (binOp .neq 62 (.pointer (some a)) (.pointer (some a))).run Yba.prog w = .ok (.bool false) w := by
  simp only [binOp]
  simp [Op.equal, Op.maxDepth, sameIn62 9999]
theorem eqlNil62 (a : Addr) (w : World) : (binOp .eql 62 (.pointer (some a)) (.pointer none)).run Yba.prog w = .ok (.bool false) w := by
  have h : ∀ d : Nat, (Op.equalIn (d + 1) 62 (.pointer (some a)) (.pointer none)).run Yba.prog w = .ok false w := fun d => by simp [Op.equalIn, run_underlying Yba.underlying62]
  simp only [binOp]
  simp [Op.equal, Op.maxDepth, h 9999]
theorem neqNil62 (a : Addr) (w : World) : (binOp .neq 62 (.pointer (some a)) (.pointer none)).run Yba.prog w = .ok (.bool true) w := by
  have h : ∀ d : Nat, (Op.equalIn (d + 1) 62 (.pointer (some a)) (.pointer none)).run Yba.prog w = .ok false w := fun d => by simp [Op.equalIn, run_underlying Yba.underlying62]
  simp only [binOp]
  simp [Op.equal, Op.maxDepth, h 9999]
theorem neqNone62 (w : World) : (binOp .neq 62 (.pointer none) (.pointer none)).run Yba.prog w = .ok (.bool false) w := by
  have h : ∀ d : Nat, (Op.equalIn (d + 1) 62 (.pointer none) (.pointer none)).run Yba.prog w = .ok true w := fun d => by simp [Op.equalIn, run_underlying Yba.underlying62]
  simp only [binOp]
  simp [Op.equal, Op.maxDepth, h 9999]
theorem eqlOther62 {a b : Addr} {w : World} {ca cb : Array Value} {ta tb : TypeId} (hne : a ≠ b) (ha : w.heap[a.block]? = some (.cells ca ta (0, 0))) (hb : w.heap[b.block]? = some (.cells cb tb (0, 0))) :
    (binOp .eql 62 (.pointer (some a)) (.pointer (some b))).run Yba.prog w = .ok (.bool false) w := by
  obtain ⟨i, hi, hs⟩ := Option.map_eq_some_iff.1 info66
  have h : ∀ d : Nat, (Op.equalIn (d + 1) 62 (.pointer (some a)) (.pointer (some b))).run Yba.prog w = .ok false w := fun d => by
    simp [Op.equalIn, run_underlying Yba.underlying62, sizeOf, typeInfo, hi, hs, run_sameAddr_other w hne ha hb]
  simp only [binOp]
  simp [Op.equal, Op.maxDepth, h 9999]
end Go.Proofs.Ybulkaam
