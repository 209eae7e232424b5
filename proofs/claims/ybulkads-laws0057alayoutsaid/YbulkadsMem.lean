import Derived.Test.YbulkadsReg
namespace Go.Proofs.Ybulkads
open Go.RowKit

theorem kc {w : World} {o : Obj} {x : Addr} {v : Value} (h : w.cell? x = some v) : (w.alloc o).cell? x = some v :=
  (World.grownBy_alloc w o none).cell h (by simp)
theorem kh {w : World} {o : Obj} {m : Nat} {x : Obj} (h : w.heap[m]? = some x) : (w.alloc o).heap[m]? = some x :=
  ((World.grownBy_alloc w o none).block m (Array.getElem?_eq_some_iff.1 h).1 (by simp)).trans h
theorem kb {w w' : World} (g : w.grownBy w' none) {m : Nat} {x : Obj} (h : w.heap[m]? = some x) : w'.heap[m]? = some x :=
  (g.block m (Array.getElem?_eq_some_iff.1 h).1 (by simp)).trans h
theorem kO {w w' : World} {O : Nat} (g : w.grownBy w' (some O)) {m : Nat} {x : Obj} (h : w.heap[m]? = some x) (hn : m ≠ O) : w'.heap[m]? = some x :=
  (g.block m (Array.getElem?_eq_some_iff.1 h).1 (by simpa using hn)).trans h
theorem cell_of {w : World} {b k : Nat} {c : Array Value} {t : TypeId} {v : Value} {f : Nat × Nat} (h : w.heap[b]? = some (.cells c t f)) (hv : c[k]? = some v) : w.cell? ⟨b, k, none⟩ = some v := by
  simp [World.cell?, h, hv]
theorem froz_of {w : World} {b : Nat} {c : Array Value} {t : TypeId} (h : w.heap[b]? = some (.cells c t)) (k : Nat) : w.frozen? ⟨b, k, none⟩ = false := by
  simp [World.frozen?, h]
theorem heap_set {w : World} {b i : Nat} {v : Value} {c : Array Value} {t : TypeId} (h : w.heap[b]? = some (.cells c t)) : (w.setCell ⟨b, i, none⟩ v).heap[b]? = some (.cells (c.setIfInBounds i v) t) := by
  simp only [World.setCell, Array.getElem?_modify, h, if_true]
  simp
theorem heap_set_other {w : World} {b b' i : Nat} {v : Value} {x : Obj} (h : w.heap[b']? = some x) (hn : b' ≠ b) : (w.setCell ⟨b, i, none⟩ v).heap[b']? = some x :=
  (Below.heap_setCell w ⟨b, i, none⟩ v b' hn).trans h
theorem heap_new (w : World) (o : Obj) : (w.alloc o).heap[w.heap.size]? = some o := by
  simp only [World.alloc, Array.getElem?_push]
  rw [if_pos trivial]
theorem cell_lt {w : World} {a : Addr} {v : Value} (h : w.cell? a = some v) : a.block < w.heap.size := by
  simp only [World.cell?] at h
  split at h
  · rename_i h2; exact (Array.getElem?_eq_some_iff.1 h2).1
  · cases h
/-- a write into a block that is new, or into O -/
theorem grown_set {w wr : World} {O b i : Nat} {v : Value} (h : w.grownBy wr (some O)) (hb : b = O ∨ w.heap.size ≤ b) : w.grownBy (wr.setCell ⟨b, i, none⟩ v) (some O) :=
  ⟨h.1, h.2, h.3, by have := h.size; simpa using this, fun k hk hkO => by
    rw [Below.heap_setCell wr ⟨b, i, none⟩ v k (fun e => by
      have e : k = b := e
      rcases hb with rfl | hb
      · exact hkO (by rw [e])
      · omega)]
    exact h.block k hk hkO⟩
def reps (n : Nat) (z : Value) : Array Value := (List.replicate n z).toArray
theorem size_reps (n : Nat) (z : Value) : (reps n z).size = n := by simp [reps]
theorem run_mk {P : Program} (t e bytes : Nat) (z : Value) (ht : P.underlying t = some (.slice e)) (hi : (P.info? e).map (fun i => (i.zero, i.size, i.bytes)) = some (some z, 1, bytes)) (hz : z.cells = #[z])
    (n : Nat) (hb : bytes * n ≤ 281474976710656) (hn : n ≤ 9223372036854775807) (w : World) :
    (Instr.makeSlice t (.int .i64 n) (.int .i64 n)).run P w = .ok (.slice (some ⟨w.heap.size, 0, none⟩) n n) (w.alloc (.cells (reps n z) e)) := by
  obtain ⟨i, h0, h1⟩ := Option.map_eq_some_iff.1 hi
  simp only [Prod.mk.injEq] at h1
  obtain ⟨h1, h2, h3⟩ := h1
  have := run_make (P := P) w t e i z ht h0 h1 .i64 .i64 (n : Int) (n : Int) (by omega) (by omega) (by rw [h3, ← Int.natCast_mul]; omega) (by omega)
  rw [this]
  have e1 : madeCells z.cells ((n : Int).toNat * i.size) = reps n z := by
    rw [hz, h2]
    apply Array.ext'
    simp [toList_madeCells_one, reps]
  rw [e1]
  simp
theorem info5 : (Yba.prog.info? 5).map (fun i => (i.zero, i.size, i.bytes)) = some (some (.int .u8 0), 1, 1) := by kernel_rfl
theorem info3 : (Yba.prog.info? 3).map (fun i => (i.zero, i.size, i.bytes)) = some (some (.int .i64 0), 1, 8) := by kernel_rfl
theorem mk43 (n : Nat) (h : n ≤ 4096) (w : World) : (Instr.makeSlice 43 (.int .i64 n) (.int .i64 n)).run Yba.prog w = .ok (.slice (some ⟨w.heap.size, 0, none⟩) n n) (w.alloc (.cells (reps n (.int .u8 0)) 5)) :=
  run_mk 43 5 1 _ Yba.underlying43 info5 rfl n (by omega) (by omega) w
theorem mk44 (n : Nat) (h : n ≤ 4096) (w : World) : (Instr.makeSlice 44 (.int .i64 n) (.int .i64 n)).run Yba.prog w = .ok (.slice (some ⟨w.heap.size, 0, none⟩) n n) (w.alloc (.cells (reps n (.int .i64 0)) 3)) :=
  run_mk 44 3 8 _ Yba.underlying44 info3 rfl n (by omega) (by omega) w
end Go.Proofs.Ybulkads
