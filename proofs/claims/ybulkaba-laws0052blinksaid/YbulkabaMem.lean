import Derived.Test.YbulkabaRows
import Derived.WalkKit
import Derived.WalkSpells
import Derived.WalkLawsBesides
import Derived.WalkSmall
import Derived.Deep.WholeRow
import Derived.Deep.QuietTactic
import Derived.BigQuiet
import Derived.Laws.CopyRow
import Derived.Lib.SliceRun
namespace Go.Proofs.Ybulkaba
open Go.RowKit

/-- n cells z (a plain name, so that no walk lays it open) -/
def reps (n : Nat) (z : Value) : Array Value := (List.replicate n z).toArray
theorem size_reps (n : Nat) (z : Value) : (reps n z).size = n := by simp [reps]
theorem get_reps (n : Nat) (z : Value) (i : Nat) (h : i < n) : (reps n z)[i]? = some z := by simp [reps, h]

/-- integers as cells -/
def ints (zs : List Int) : Array Value := (zs.map (Value.int .i64)).toArray
theorem size_ints (zs : List Int) : (ints zs).size = zs.length := by simp [ints]
theorem get_ints (zs : List Int) (i : Nat) (h : i < zs.length) : (ints zs)[i]? = some (.int .i64 (zs.getD i 0)) := by simp [ints, h]

theorem run_mk {P : Program} (t e bytes : Nat) (z : Value) (ht : P.underlying t = some (.slice e)) (hi : (P.info? e).map (fun i => (i.zero, i.size, i.bytes)) = some (some z, 1, bytes)) (hz : z.cells = #[z])
    (n : Nat) (hb : bytes * n ≤ 281474976710656) (hn : n ≤ 9223372036854775807) (w : World) :
    (Instr.makeSlice t (.int .i64 n) (.int .i64 n)).run P w = .ok (.slice (some ⟨w.heap.size, 0, none⟩) n n) (w.alloc (.cells (reps n z) e)) := by
  obtain ⟨i, h0, h1⟩ := Option.map_eq_some_iff.1 hi
  simp only [Prod.mk.injEq] at h1
  obtain ⟨h1, h2, h3⟩ := h1
  have := run_make (P := P) w t e i z ht h0 h1 .i64 .i64 (n : Int) (n : Int) (by omega) (by omega) (by rw [h3, ← Int.natCast_mul]; omega) (by omega)
  rw [this]
  have e1 : madeCells z.cells ((n : Int).toNat * i.size) = reps n z := by
    rw [hz, h2]
    apply Array.ext'
    simp [toList_madeCells_one, reps]
  rw [e1]
  simp

/-- a slice value over integers zs, in whatever memory -/
def IntsAt (w : World) (v : Value) (zs : List Int) : Prop :=
  ∃ (a : Option Addr) (cap : Nat), v = .slice a zs.length cap ∧ (a = none → zs.length = 0 ∧ cap = 0) ∧ ∀ x, a = some x → ∀ i, i < zs.length → w.cell? (x.add i) = some (.int .i64 (zs.getD i 0))

/-- the same, with no spare room -/
def IntsFull (w : World) (v : Value) (zs : List Int) : Prop :=
  ∃ (a : Option Addr), v = .slice a zs.length zs.length ∧ (a = none → zs.length = 0) ∧ ∀ x, a = some x → ∀ i, i < zs.length → w.cell? (x.add i) = some (.int .i64 (zs.getD i 0))

theorem IntsFull.at {w v zs} (h : IntsFull w v zs) : IntsAt w v zs := by
  obtain ⟨a, rfl, h1, h2⟩ := h
  exact ⟨a, _, rfl, fun e => ⟨h1 e, h1 e⟩, h2⟩

theorem cell_keep {w w' : World} (hb : Below w.heap.size w w') {x : Addr} {v : Value} (h : w.cell? x = some v) : w'.cell? x = some v :=
  (hb.cell (World.block_lt_of_cell? w x h)).trans h

theorem IntsAt.keep {w w' v zs} (h : IntsAt w v zs) (hb : Below w.heap.size w w') : IntsAt w' v zs := by
  obtain ⟨a, cap, rfl, h1, h2⟩ := h
  exact ⟨a, cap, rfl, h1, fun x hx i hi => cell_keep hb (h2 x hx i hi)⟩
theorem IntsFull.keep {w w' v zs} (h : IntsFull w v zs) (hb : Below w.heap.size w w') : IntsFull w' v zs := by
  obtain ⟨a, rfl, h1, h2⟩ := h
  exact ⟨a, rfl, h1, fun x hx i hi => cell_keep hb (h2 x hx i hi)⟩

theorem add_zero_addr (g j : Nat) : (⟨g, 0, none⟩ : Addr).add j = ⟨g, j, none⟩ := by unfold Addr.add; split <;> simp_all

theorem add_off (b off j : Nat) : (⟨b, off, none⟩ : Addr).add j = ⟨b, off + j, none⟩ := by unfold Addr.add; split <;> simp_all

theorem ints_new (w : World) (zs : List Int) (t : TypeId) : IntsFull (w.alloc (.cells (ints zs) t)) (.slice (some ⟨w.heap.size, 0, none⟩) zs.length zs.length) zs := by
  refine ⟨_, rfl, (fun h => by cases h), fun x hx i hi => ?_⟩
  obtain rfl := Option.some.inj hx
  rw [add_zero_addr, cell_of_row _ _ i _ _ _ (heap_alloc_new w _), get_ints zs i hi]

theorem info3 : (Yba.prog.info? 3).map (fun i => (i.zero, i.size, i.bytes)) = some (some (.int .i64 0), 1, 8) := by kernel_rfl
theorem info25 : (Yba.prog.info? 25).map (fun i => (i.zero, i.size, i.bytes)) = some (some (.slice none 0 0), 1, 24) := by kernel_rfl

theorem mk25 (n : Nat) (h : n ≤ 1024) (w : World) : (Instr.makeSlice 25 (.int .i64 n) (.int .i64 n)).run Yba.prog w = .ok (.slice (some ⟨w.heap.size, 0, none⟩) n n) (w.alloc (.cells (reps n (.int .i64 0)) 3)) :=
  run_mk 25 3 8 _ Yba.underlying25 info3 rfl n (by omega) (by omega) w
theorem mk27 (n : Nat) (h : n ≤ 1024) (w : World) : (Instr.makeSlice 27 (.int .i64 n) (.int .i64 n)).run Yba.prog w = .ok (.slice (some ⟨w.heap.size, 0, none⟩) n n) (w.alloc (.cells (reps n (.slice none 0 0)) 25)) :=
  run_mk 27 25 24 _ Yba.underlying27 info25 rfl n (by omega) (by omega) w

theorem copy_new (w : World) (ty : TypeId) (x : Addr) (zs : List Int) (cap : Nat) (h : ∀ i, i < zs.length → w.cell? (x.add i) = some (.int .i64 (zs.getD i 0))) :
    (Builtin.copy_ #[25, 25] ty #[.slice (some ⟨w.heap.size, 0, none⟩) zs.length zs.length, .slice (some x) zs.length cap]).run Yba.prog (w.alloc (.cells (reps zs.length (.int .i64 0)) 3)) =
      .ok (goInt zs.length) (w.alloc (.cells (ints zs) 3)) := by
  have hi : (Yba.prog.info? 3).map (·.size) = some 1 := by kernel_rfl
  have h0 := run_copy_row (P := Yba.prog) (w.alloc (.cells (reps zs.length (.int .i64 0)) 3)) 25 25 ty 3 w.heap.size 0 zs.length zs.length x zs.length cap (reps zs.length (.int .i64 0)) 3 (zs.map (Value.int .i64)) Yba.underlying25 hi (heap_alloc_new w _) (by simp)
    (fun j v hv => by
      have hj : j < zs.length := by have := (List.getElem?_eq_some_iff.1 hv).1; simpa using this
      have := h j hj
      have hlt := World.block_lt_of_cell? w _ this
      rw [World.cell?_of_block (w := w) (Below.heap_alloc w _ _ hlt), this]
      simp [hj] at hv
      simp [← hv, hj]) (by simp [size_reps]) (by simp [Value.oneCell'])
  rw [h0, World.setRow_alloc_new]
  have e1 : ((reps zs.length (Value.int .i64 0)).toList.take 0 ++ zs.map (Value.int .i64) ++ (reps zs.length (Value.int .i64 0)).toList.drop (0 + (zs.map (Value.int .i64)).length)).toArray = ints zs := by
    simp [reps, ints]
  rw [e1]
  simp

set_option maxRecDepth 100000 in
set_option maxHeartbeats 400000 in
theorem clone_any (w : World) (v : Value) (zs : List Int) (h : IntsAt w v zs) (hn : zs.length ≤ 1024) :
    Calls Yba.prog 9 #[v] w fun e w' => ∃ v', e = .returned v' ∧ IntsFull w' v' zs ∧ Below w.heap.size w w' := by
  obtain ⟨a, cap, rfl, h1, h2⟩ := h
  have hnil := fun w => Lib.run_eql_slice_nil (P := Yba.prog) w 25 3 a zs.length cap 0 0 Yba.underlying25
  cases a with
  | none =>
    obtain ⟨h0, h3⟩ := h1 rfl
    have hE : IntsFull w (.slice none 0 0) zs := ⟨none, by rw [h0], fun _ => h0, fun x hx => by cases hx⟩
    have H : Hid (IntsFull w (.slice none 0 0) zs) := hE
    clear h1 h2 h0 h3 hE
    go_enter Yba.func9, Yba.ntmps9
    go_wp2
    go_ret
    exact ⟨_, rfl, H.out, Below.refl _ _⟩
  | some x =>
    have hmk := mk25 zs.length hn
    have hcp := fun ty => copy_new w ty x zs cap (h2 x rfl)
    have H : Hid (IntsFull (w.alloc (.cells (ints zs) 3)) (.slice (some ⟨w.heap.size, 0, none⟩) zs.length zs.length) zs) := ints_new w zs 3
    clear h1 h2
    go_enter Yba.func9, Yba.ntmps9
    go_wp2
    go_ret
    exact ⟨_, rfl, H.out, (Below.refl _ _).alloc (Nat.le_refl _) _⟩
end Go.Proofs.Ybulkaba
