import Derived.Test.YbulkadsL5
import Derived.Test.YbulkadsLayW
import Derived.Below
namespace Go.Proofs.Ybulkads
open Go.RowKit

theorem info32' : (Yba.prog.info? 32).map (fun i => (i.zero, i.size, i.bytes)) = some (some (.agg #[.int .u8 0, .int .u8 0, .int .u8 0, .int .u8 0, .int .u8 0, .int .u8 0, .int .u8 0, .int .u8 0, .int .u8 0, .int .u8 0, .int .u8 0, .int .u8 0, .int .u8 0, .int .u8 0, .int .u8 0, .int .u8 0, .int .u8 0, .int .u8 0, .int .u8 0, .int .u8 0]), 20, 20) := by kernel_rfl
theorem info34' : (Yba.prog.info? 34).map (fun i => (i.zero, i.size, i.bytes)) = some (some (.agg #[.int .u8 0, .int .u8 0, .int .u8 0, .int .u8 0, .int .u8 0, .int .u8 0, .int .u8 0, .int .u8 0, .int .u8 0, .int .u8 0, .int .u8 0, .int .u8 0, .int .u8 0, .int .u8 0, .int .u8 0, .int .u8 0, .int .u8 0, .int .u8 0, .int .u8 0, .int .u8 0, .int .i32 0, .int .u64 0, .int .u64 0, .int .u64 0]), 24, 48) := by kernel_rfl
theorem info35 : (Yba.prog.info? 35).map (fun i => (i.zero, i.size, i.bytes)) = some (some (.slice none 0 0), 1, 24) := by kernel_rfl
theorem mk23 (n : Nat) (h : n ≤ 1024) : ∃ c : Array Value, c.size = n * 20 ∧ (∀ x, x < n * 20 → c[x]? = some (.int .u8 0)) ∧ ∀ w : World, (Instr.makeSlice 23 (.int .i64 n) (.int .i64 n)).run Yba.prog w = .ok (.slice (some ⟨w.heap.size, 0, none⟩) n n) (w.alloc (.cells c 32)) := by
  obtain ⟨i, h0, h1⟩ := Option.map_eq_some_iff.1 info32'
  simp only [Prod.mk.injEq] at h1
  obtain ⟨h1, h2, h3⟩ := h1
  refine ⟨madeCells (Value.agg #[.int .u8 0, .int .u8 0, .int .u8 0, .int .u8 0, .int .u8 0, .int .u8 0, .int .u8 0, .int .u8 0, .int .u8 0, .int .u8 0, .int .u8 0, .int .u8 0, .int .u8 0, .int .u8 0, .int .u8 0, .int .u8 0, .int .u8 0, .int .u8 0, .int .u8 0, .int .u8 0]).cells (n * 20), size_madeCells _ _, fun x hx => ?_, fun w => ?_⟩
  · have e : (Value.agg #[.int .u8 0, .int .u8 0, .int .u8 0, .int .u8 0, .int .u8 0, .int .u8 0, .int .u8 0, .int .u8 0, .int .u8 0, .int .u8 0, .int .u8 0, .int .u8 0, .int .u8 0, .int .u8 0, .int .u8 0, .int .u8 0, .int .u8 0, .int .u8 0, .int .u8 0, .int .u8 0]).cells = Array.replicate 20 (.int .u8 0) := rfl
    rw [e]
    have hl : x % 20 < 20 := Nat.mod_lt _ (by omega)
    simp [madeCells, hx, hl]
  · have := run_make (P := Yba.prog) w 23 32 i _ Yba.underlying23 h0 h1 .i64 .i64 (n : Int) (n : Int) (by omega) (by omega) (by rw [h3, ← Int.natCast_mul]; omega) (by omega)
    rw [this, h2]
    simp
theorem mk24 (n : Nat) (h : n ≤ 1024) : ∃ c : Array Value, c.size = n * 24 ∧ ∀ w : World, (Instr.makeSlice 24 (.int .i64 n) (.int .i64 n)).run Yba.prog w = .ok (.slice (some ⟨w.heap.size, 0, none⟩) n n) (w.alloc (.cells c 34)) := by
  obtain ⟨i, h0, h1⟩ := Option.map_eq_some_iff.1 info34'
  simp only [Prod.mk.injEq] at h1
  obtain ⟨h1, h2, h3⟩ := h1
  refine ⟨madeCells (Value.agg #[.int .u8 0, .int .u8 0, .int .u8 0, .int .u8 0, .int .u8 0, .int .u8 0, .int .u8 0, .int .u8 0, .int .u8 0, .int .u8 0, .int .u8 0, .int .u8 0, .int .u8 0, .int .u8 0, .int .u8 0, .int .u8 0, .int .u8 0, .int .u8 0, .int .u8 0, .int .u8 0, .int .i32 0, .int .u64 0, .int .u64 0, .int .u64 0]).cells (n * 24), size_madeCells _ _, fun w => ?_⟩
  · have := run_make (P := Yba.prog) w 24 34 i _ Yba.underlying24 h0 h1 .i64 .i64 (n : Int) (n : Int) (by omega) (by omega) (by rw [h3, ← Int.natCast_mul]; omega) (by omega)
    rw [this, h2]
    simp
theorem mk25 (h : Nat) (h4 : h ≤ 4) (w : World) : (Instr.makeSlice 25 (.int .i64 h) (.int .i64 h)).run Yba.prog w = .ok (.slice (some ⟨w.heap.size, 0, none⟩) h h) (w.alloc (.cells (reps h (.slice none 0 0)) 35)) :=
  run_mk 25 35 24 _ Yba.underlying25 info35 rfl h (by omega) (by omega) w
theorem zero46 (w : World) : (zeroValue 46).run Yba.prog w = .ok (.agg #[.int .i64 0, .int .i64 0, .slice none 0 0, .slice none 0 0, .slice none 0 0, .slice none 0 0, .int .i64 0, .slice none 0 0, .slice none 0 0, .slice none 0 0, .slice none 0 0, .int .i64 0, .int .i64 0, .slice none 0 0, .slice none 0 0, .int .i64 0, .slice none 0 0, .slice none 0 0]) w := by kernel_rfl
theorem zero38 (w : World) : (zeroValue 38).run Yba.prog w = .ok (.agg #[.int .i64 0, .int .i64 0]) w := by kernel_rfl
theorem Fl.start (w : World) (n h : Nat) (K : Nat → Nat) (f u : Nat → Int) {c23 c24 : Array Value} (s23 : ∀ x, x < n * 20 → c23[x]? = some (.int .u8 0)) (s24 : c24.size = n * 24) :
    Fl w (((w.alloc (.cells c23 32)).alloc (.cells c24 34)).alloc (.cells (reps h (.slice none 0 0)) 35)) (((w.alloc (.cells c23 32)).alloc (.cells c24 34)).alloc (.cells (reps h (.slice none 0 0)) 35)) w.heap.size (w.heap.size + 1) (w.heap.size + 1 + 1) n h K f u (fun _ => []) (fun _ => .slice none 0 0) 0 0 0 := by
  have e1 : (((w.alloc (.cells c23 32)).alloc (.cells c24 34)).alloc (.cells (reps h (.slice none 0 0)) 35)).heap[w.heap.size]? = some (.cells c23 32) := kh (kh (heap_new w _))
  have e2 : (((w.alloc (.cells c23 32)).alloc (.cells c24 34)).alloc (.cells (reps h (.slice none 0 0)) 35)).heap[w.heap.size + 1]? = some (.cells c24 34) := by
    have := heap_new (w.alloc (.cells c23 32)) (.cells c24 34)
    simp only [World.size_alloc] at this
    exact kh this
  have e3 : (((w.alloc (.cells c23 32)).alloc (.cells c24 34)).alloc (.cells (reps h (.slice none 0 0)) 35)).heap[w.heap.size + 1 + 1]? = some (.cells (reps h (.slice none 0 0)) 35) := by
    have := heap_new ((w.alloc (.cells c23 32)).alloc (.cells c24 34)) (.cells (reps h (.slice none 0 0)) 35)
    simp only [World.size_alloc] at this
    exact this
  refine ⟨fun i c hi hc => ?_, froz_of e1, fun x hx => ⟨?_, froz_of e2 x⟩, fun i hi => by omega, ⟨_, e3, size_reps _ _, fun j hj => by simp [reps, hj]⟩, fun j => by simpa using World.ownsRow_nil _ _ 21 1, fun j j' b e => by simp [Value.ownBlock] at e, ((World.grownBy_alloc w _ none).trans (World.grownBy_alloc _ _ none)).trans (World.grownBy_alloc _ _ none), ?_⟩
  · rw [cell_of e1 (s23 (i * 20 + c) (by omega))]
    simp
  · rw [cell_of e2 (Array.getElem?_eq_getElem (by omega))]; rfl
  · simp only [World.size_alloc]
    omega
end Go.Proofs.Ybulkads
