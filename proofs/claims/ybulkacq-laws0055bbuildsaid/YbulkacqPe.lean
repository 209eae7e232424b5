import Derived.Test.YbulkacqMem
import Derived.LaidEqlPtr
namespace Go.Proofs.Ybulkacq
open Go.RowKit
theorem i45 : (Yba.prog.info? 45).isSome = true := by kernel_rfl
theorem i53 : (Yba.prog.info? 53).isSome = true := by kernel_rfl
theorem u96 : Yba.prog.underlying 96 = some (.pointer 53) := by kernel_rfl
theorem u41 : Yba.prog.underlying 41 = some (.pointer 45) := by kernel_rfl
theorem neq_same {tp te : TypeId} (a : Addr) (w : World) (hp : Yba.prog.underlying tp = some (.pointer te)) (hi : (Yba.prog.info? te).isSome = true) :
    (binOp .neq tp (.pointer (some a)) (.pointer (some a))).run Yba.prog w = .ok (.bool false) w := by
  obtain ⟨j, hj⟩ := Option.isSome_iff_exists.1 hi
  have h : ∀ d : Nat, (Op.equalIn (d + 1) tp (.pointer (some a)) (.pointer (some a))).run Yba.prog w = .ok true w := fun d => by
    simp [Op.equalIn, run_underlying hp, sizeOf, typeInfo, hj, run_sameAddr_same]
  simp only [binOp]
  simp [Op.equal, Op.maxDepth, h 9999]

theorem nums_at (ps : Nat → Int × Int) (p : Int × Int) : ∀ m i, i < m → ps i = p → (numsTo ps p m)[(numsTo ps p i).length]? = some (i : Int)
  | 0, i, h, _ => by omega
  | m + 1, i, h, e => by
    by_cases h2 : i = m
    · subst h2
      rw [numsTo, if_pos e]
      simp
    · have ih := nums_at ps p m i (by omega) e
      rw [numsTo]
      split
      · rw [List.getElem?_append_left (List.getElem?_eq_some_iff.1 ih).1]; exact ih
      · exact ih
theorem nums_hit {ps : Nat → Int × Int} {p : Int × Int} {i : Nat} (h : ps i = p) : (numsTo ps p (i + 1)).length = (numsTo ps p i).length + 1 := by simp [numsTo, h]
theorem nums_miss {ps : Nat → Int × Int} {p : Int × Int} {i : Nat} (h : ¬ ps i = p) : numsTo ps p (i + 1) = numsTo ps p i := by simp [numsTo, h]
theorem keys_hit {ps : Nat → Int × Int} {i j : Nat} (hj : j < i) (h : ps i = ps j) : keysTo ps (i + 1) = keysTo ps i := by
  have : ps i ∈ keysTo ps i := (mem_keys ps _ i).2 ⟨j, hj, h.symm⟩
  simp [keysTo, ins, this]
theorem keys_miss {ps : Nat → Int × Int} {i : Nat} (h : ∀ j, j < i → ¬ ps i = ps j) : (keysTo ps (i + 1)).length = (keysTo ps i).length + 1 := by
  have : ps i ∉ keysTo ps i := fun e => by
    obtain ⟨j, h1, h2⟩ := (mem_keys ps _ i).1 e
    exact h j h1 h2.symm
  simp [keysTo, ins, this]
theorem keys_len (ps : Nat → Int × Int) : ∀ k, (keysTo ps k).length ≤ k
  | 0 => by simp [keysTo]
  | k + 1 => by
    have := keys_len ps k
    rw [keysTo]; unfold ins
    split
    · omega
    · simp; omega

/-- the row that the map hands out for the k-th line's key -/
theorem Built.row {w' : World} {D m : Nat} {n st seed : Int} {rnd : Bool} {bl : Nat} {dv : Addr} {ps : Nat → Int × Int} {L M C G base : Nat} {val : Nat → Value} {xs : Nat → List Int}
    (B : Built w' D m n st seed rnd bl dv ps L M C G base val xs) {k : Nat} (hk : k < m) :
    ∃ g cap, (∀ w'', w'.grownBy w'' none → (Instr.lookup 69 (.map (some L)) (.agg #[.int .i64 (ps k).1, .int .i64 (ps k).2]) false).run Yba.prog w'' = .ok (.slice (some ⟨g, 0, none⟩) (numsTo ps (ps k) m).length cap) w'') ∧
      ∀ i, i < m → ps i = ps k → w'.cell? ⟨g, (numsTo ps (ps k) i).length, none⟩ = some (.int .i64 i) ∧ (numsTo ps (ps k) i).length < (numsTo ps (ps k) m).length := by
  have hmem : ps k ∈ keysTo ps m := (mem_keys ps _ m).2 ⟨k, hk, rfl⟩
  have hl := fun w'' (g : w'.grownBy w'' none) => look98 (kb g B.hL) hmem
  have hj : (keysTo ps m).idxOf (ps k) < (keysTo ps m).length := List.idxOf_lt_length_iff.2 hmem
  have hx := B.sp.at_ _ (ps k) (by rw [List.getElem?_eq_getElem hj, List.getElem_idxOf hj])
  have ho := B.owns ((keysTo ps m).idxOf (ps k))
  rw [hx] at ho
  have hne := nums_at ps (ps k) m k hk rfl
  have hpos : 0 < (numsTo ps (ps k) m).length := Nat.lt_of_le_of_lt (Nat.zero_le _) (List.getElem?_eq_some_iff.1 hne).1
  obtain ⟨g, cap, hv, _⟩ := ho.form hpos
  rw [hv] at ho
  simp only [hv] at hl
  refine ⟨g, cap, hl, fun i hi he => ?_⟩
  have h1 := nums_at ps (ps k) m i hi he
  refine ⟨?_, (List.getElem?_eq_some_iff.1 h1).1⟩
  have h2 : ((numsTo ps (ps k) m).map (Value.int .i64))[(numsTo ps (ps k) i).length]? = some (.int .i64 i) := by simp [h1]
  have := ho.cells (g := g) rfl _ _ h2
  rwa [add_zero_addr] at this
end Go.Proofs.Ybulkacq
namespace Go.Proofs.Ybulkacq
theorem eqm93 (C : Nat) (x : World) : (binOp .eql 93 (.map (some C)) (.map none)).run Yba.prog x = .ok (.bool false) x := by
  have h : ∀ d : Nat, (Op.equalIn (d + 1) 93 (.map (some C)) (.map none)).run Yba.prog x = .ok false x := fun d => by
    simp [Op.equalIn, run_underlying Yba.underlying93]
  simp only [binOp]
  simp [Op.equal, Op.maxDepth, h 9999]
theorem eqm69 (C : Nat) (x : World) : (binOp .eql 69 (.map (some C)) (.map none)).run Yba.prog x = .ok (.bool false) x := by
  have h : ∀ d : Nat, (Op.equalIn (d + 1) 69 (.map (some C)) (.map none)).run Yba.prog x = .ok false x := fun d => by
    simp [Op.equalIn, run_underlying Yba.underlying69]
  simp only [binOp]
  simp [Op.equal, Op.maxDepth, h 9999]
end Go.Proofs.Ybulkacq
namespace Go.Proofs.Ybulkacq
theorem lenm93 {w : World} {C c : Nat} {es : Array MapEntry} (h : w.heap[C]? = some (.map es c)) : (Builtin.len_ #[93] 3 #[.map (some C)]).run Yba.prog w = .ok (.int .i64 es.size) w := by
  simp [Builtin.len_, run_underlying Yba.underlying93, MapKept.run_getObj_map h, goInt]
theorem lenm69 {w : World} {C c : Nat} {es : Array MapEntry} (h : w.heap[C]? = some (.map es c)) : (Builtin.len_ #[69] 3 #[.map (some C)]).run Yba.prog w = .ok (.int .i64 es.size) w := by
  simp [Builtin.len_, run_underlying Yba.underlying69, MapKept.run_getObj_map h, goInt]
end Go.Proofs.Ybulkacq
