import Derived.Test.YbulkacqDrop
namespace Go.Proofs.Ybulkacq
open Go.RowKit Go.ChangeMaps

theorem zero33 (w : World) : (zeroValue 33).run Yba.prog w = .ok (.agg #[.string ⟨#[]⟩, .nilIface, .map none, .string ⟨#[]⟩, .int .i64 0, .int .i64 0, .int .i64 0, .bool false, .slice none 0 0, .int .i64 0, .int .i64 0, .int .i64 0, .int .i64 0, .slice none 0 0, .bool false, .bool false, .int .i64 0, .pointer none, .slice none 0 0, .bool false, .slice none 0 0, .string ⟨#[]⟩, .slice none 0 0, .int .u64 0]) w := by kernel_rfl
theorem zero66 (w : World) : (zeroValue 66).run Yba.prog w = .ok (.agg #[.nilIface, .string ⟨#[]⟩, .nilIface, .map none, .string ⟨#[]⟩, .int .i64 0, .int .i64 0, .int .i64 0, .bool false, .slice none 0 0, .int .i64 0, .int .i64 0, .int .i64 0, .int .i64 0, .slice none 0 0, .bool false, .bool false, .int .i64 0, .pointer none, .slice none 0 0, .bool false, .slice none 0 0, .string ⟨#[]⟩, .slice none 0 0, .int .u64 0, .slice none 0 0, .pointer none, .nilIface, .int .i64 0, .int .i64 0, .slice none 0 0, .pointer none, .map none, .bool false, .pointer none, .slice none 0 0, .pointer none, .pointer none]) w := by kernel_rfl
theorem zero45 (w : World) : (zeroValue 45).run Yba.prog w = .ok (.agg #[.int .i64 0, .int .i64 0, .slice none 0 0, .slice none 0 0, .slice none 0 0, .slice none 0 0, .bool false]) w := by kernel_rfl
theorem info53 : (Yba.prog.info? 53).map (fun i => (i.zero, i.size, i.bytes)) = some (some (.agg #[.int .i64 0, .int .i64 0, .int .i64 0, .int .i64 0, .nilIface]), 5, 48) := by kernel_rfl

theorem mk47 (n : Nat) (h : n ≤ 1024) : ∃ c : Array Value, c.size = n * 5 ∧ ∀ w : World, (Instr.makeSlice 47 (.int .i64 n) (.int .i64 n)).run Yba.prog w = .ok (.slice (some ⟨w.heap.size, 0, none⟩) n n) (w.alloc (.cells c 53)) := by
  obtain ⟨i, h0, h1⟩ := Option.map_eq_some_iff.1 info53
  simp only [Prod.mk.injEq] at h1
  obtain ⟨h1, h2, h3⟩ := h1
  refine ⟨madeCells (Value.agg #[.int .i64 0, .int .i64 0, .int .i64 0, .int .i64 0, .nilIface]).cells (n * 5), size_madeCells _ _, fun w => ?_⟩
  have := run_make (P := Yba.prog) w 47 53 i _ Yba.underlying47 h0 h1 .i64 .i64 (n : Int) (n : Int) (by omega) (by omega) (by rw [h3, ← Int.natCast_mul]; omega) (by omega)
  rw [this, h2]
  simp

/-- the drops as they are handed in: three cells each -/
def Args (a : Option Addr) (m : Nat) (R F T : Nat → Int) (w : World) : Prop :=
  ∀ k, k < m → ∃ b off, a = some ⟨b, off, none⟩ ∧ w.cell? ⟨b, off + k * 3, none⟩ = some (.int .i64 (R k)) ∧ w.cell? ⟨b, off + k * 3 + 1, none⟩ = some (.int .i64 (F k)) ∧ w.cell? ⟨b, off + k * 3 + 2, none⟩ = some (.int .i64 (T k))

/-- the list is filled up to k -/
structure Fill (w wr : World) (bd m k : Nat) (ps : Nat → Int × Int) : Prop where
  blk : ∃ c : Array Value, c.size = m * 5 ∧ wr.heap[bd]? = some (.cells c 53)
  dr : Dr bd k ps wr
  g : w.grownBy wr none
  ge : w.heap.size ≤ bd
theorem heap_setCell_cells {w : World} {b i : Nat} {v : Value} {c : Array Value} {t : TypeId} (h : w.heap[b]? = some (.cells c t)) : (w.setCell ⟨b, i, none⟩ v).heap[b]? = some (.cells (c.setIfInBounds i v) t) := by
  simp only [World.setCell, Array.getElem?_modify, h, if_true]
  simp
theorem set_cell {w : World} {b m : Nat} (h : ∃ c : Array Value, c.size = m ∧ w.heap[b]? = some (.cells c 53)) {i : Nat} (hi : i < m) (v : Value) :
    (∃ c : Array Value, c.size = m ∧ (w.setCell ⟨b, i, none⟩ v).heap[b]? = some (.cells c 53)) ∧ (w.setCell ⟨b, i, none⟩ v).cell? ⟨b, i, none⟩ = some v ∧ ∀ j u, j ≠ i → w.cell? ⟨b, j, none⟩ = some u → (w.setCell ⟨b, i, none⟩ v).cell? ⟨b, j, none⟩ = some u := by
  obtain ⟨c, hc, hb⟩ := h
  refine ⟨⟨_, by simpa using hc, heap_setCell_cells hb⟩, ?_, fun j u hj hu => ?_⟩
  · simp [World.cell?, heap_setCell_cells hb, hc, hi]
  · rw [World.cell?_setCell_other _ _ _ _ (by simp)]; exact hu
theorem Fill.next {w wr : World} {bd m k : Nat} {ps : Nat → Int × Int} (h : Fill w wr bd m k ps) (hk : k < m) (l t : Int) (o : Obj) :
    Fill w ((((((wr.setCell ⟨bd, k * 5, none⟩ (.int .i64 l)).setCell ⟨bd, k * 5 + 1, none⟩ (.int .i64 (ps k).1)).setCell ⟨bd, k * 5 + 2, none⟩ (.int .i64 (ps k).2)).setCell ⟨bd, k * 5 + 3, none⟩ (.int .i64 t)).setCell ⟨bd, k * 5 + 4, none⟩ .nilIface).alloc o) bd m (k + 1) ps := by
  obtain ⟨b0, a0, r0⟩ := set_cell h.blk (i := k * 5) (by omega) (.int .i64 l)
  obtain ⟨b1, a1, r1⟩ := set_cell b0 (i := k * 5 + 1) (by omega) (.int .i64 (ps k).1)
  obtain ⟨b2, a2, r2⟩ := set_cell b1 (i := k * 5 + 2) (by omega) (.int .i64 (ps k).2)
  obtain ⟨b3, a3, r3⟩ := set_cell b2 (i := k * 5 + 3) (by omega) (.int .i64 t)
  obtain ⟨b4, a4, r4⟩ := set_cell b3 (i := k * 5 + 4) (by omega) .nilIface
  have g1 := fun (x : World) (i : Nat) (v : Value) => grown_setCell x ⟨bd, i, none⟩ v
  have old : ∀ j u, j < k * 5 → wr.cell? ⟨bd, j, none⟩ = some u → _ := fun j u hj hu => kc (o := o) (r4 j u (by omega) (r3 j u (by omega) (r2 j u (by omega) (r1 j u (by omega) (r0 j u (by omega) hu)))))
  refine ⟨?_, fun i hi => ?_, ?_, h.ge⟩
  · obtain ⟨c, hc, hb⟩ := b4
    exact ⟨c, hc, kh hb⟩
  · by_cases e : i = k
    · subst e
      exact ⟨l, t, kc (r4 _ _ (by omega) (r3 _ _ (by omega) (r2 _ _ (by omega) (r1 _ _ (by omega) a0)))), kc (r4 _ _ (by omega) (r3 _ _ (by omega) (r2 _ _ (by omega) a1))), kc (r4 _ _ (by omega) (r3 _ _ (by omega) a2)), kc (r4 _ _ (by omega) a3), kc a4⟩
    · obtain ⟨l', t', q0, q1, q2, q3, q4⟩ := h.dr i (by omega)
      exact ⟨l', t', old _ _ (by omega) q0, old _ _ (by omega) q1, old _ _ (by omega) q2, old _ _ (by omega) q3, old _ _ (by omega) q4⟩
  · have e0 := grown_above h.g (g1 wr (k * 5) (.int .i64 l)) h.ge
    have e1 := grown_above e0 (g1 _ (k * 5 + 1) (.int .i64 (ps k).1)) h.ge
    have e2 := grown_above e1 (g1 _ (k * 5 + 2) (.int .i64 (ps k).2)) h.ge
    have e3 := grown_above e2 (g1 _ (k * 5 + 3) (.int .i64 t)) h.ge
    have e4 := grown_above e3 (g1 _ (k * 5 + 4) .nilIface) h.ge
    exact e4.trans (World.grownBy_alloc _ o none)
theorem Fill.zero (w : World) (o : Obj) (c : Array Value) (m : Nat) (ps : Nat → Int × Int) (h : c.size = m * 5) : Fill w ((w.alloc o).alloc (.cells c 53)) (w.heap.size + 1) m 0 ps := by
  refine ⟨⟨c, h, ?_⟩, fun i hi => by omega, (World.grownBy_alloc w o none).trans (World.grownBy_alloc _ _ none), by omega⟩
  simp only [World.alloc, Array.getElem?_push, Array.size_push]
  rw [if_pos trivial]
end Go.Proofs.Ybulkacq
