import Derived.Test.YbulkaamEqual
import Derived.Laws.IdiomRangeMap
namespace Go.Proofs.Ybulkaam
open Go.RowKit
set_option maxRecDepth 100000 in
theorem clip_strs (w : World) (a : Option Addr) (n cap : Nat) (h : n ≤ cap) (h0 : a = none → n = 0 ∧ cap = 0) (hl : n ≤ 4096) : Calls Yba.prog 18 #[.slice a n cap] w fun e w' => e = .returned (.slice a n n) ∧ w = w' := by
  cases a with
  | none =>
    obtain ⟨rfl, rfl⟩ := h0 rfl
    go_enter Yba.func18, Yba.ntmps18
    go_wp2
    go_ret
    exact ⟨rfl, rfl⟩
  | some b =>
    clear h0
    have i1 : (0 : Int) ≤ (n : Int) := by omega
    have i2 : (n : Int) ≤ (cap : Int) := by omega
    go_enter Yba.func18, Yba.ntmps18
    go_wp2
    go_ret
    exact ⟨rfl, rfl⟩
set_option maxRecDepth 100000 in
theorem clip_ints (w : World) (a : Option Addr) (n cap : Nat) (h : n ≤ cap) (h0 : a = none → n = 0 ∧ cap = 0) (hl : n ≤ 4096) : Calls Yba.prog 19 #[.slice a n cap] w fun e w' => e = .returned (.slice a n n) ∧ w = w' := by
  cases a with
  | none =>
    obtain ⟨rfl, rfl⟩ := h0 rfl
    go_enter Yba.func19, Yba.ntmps19
    go_wp2
    go_ret
    exact ⟨rfl, rfl⟩
  | some b =>
    clear h0
    have i1 : (0 : Int) ≤ (n : Int) := by omega
    have i2 : (n : Int) ≤ (cap : Int) := by omega
    go_enter Yba.func19, Yba.ntmps19
    go_wp2
    go_ret
    exact ⟨rfl, rfl⟩

/-- v[:len(v):len(v)] -/
def clip : Value → Value
  | .slice a n _ => .slice a n n
  | v => v

/-- what a row's value is: nil, or a slice with room -/
theorem St.full {w0 w : World} {val : Nat → Nat → Value} {ty : Nat → TypeId} {xs : Nat → Nat → List Value} (S : St w0 w val ty xs) (k y : Nat) :
    ∃ a cap, val k y = .slice a (xs k y).length cap ∧ (xs k y).length ≤ cap ∧ (a = none → (xs k y).length = 0 ∧ cap = 0) := by
  rcases (S.owns k y).2 with ⟨h0, h1⟩ | ⟨g', cap', cur, hv', _, _, hn, _⟩
  · exact ⟨none, 0, by rw [h0, h1], by omega, fun _ => ⟨h1, rfl⟩⟩
  · exact ⟨_, cap', hv', hn, fun h => by cases h⟩

/-- n cells z (a plain name, so that no walk lays it open) -/
def reps (n : Nat) (z : Value) : Array Value := (List.replicate n z).toArray
theorem size_reps (n : Nat) (z : Value) : (reps n z).size = n := by simp [reps]

theorem run_mk {P : Program} (t e bytes : Nat) (z : Value) (ht : P.underlying t = some (.slice e)) (hi : (P.info? e).map (fun i => (i.zero, i.size, i.bytes)) = some (some z, 1, bytes)) (hz : z.cells = #[z])
    (n : Nat) (hb : bytes * n ≤ 281474976710656) (hn : n ≤ 9223372036854775807) (w : World) :
    (Instr.makeSlice t (.int .i64 n) (.int .i64 n)).run P w = .ok (.slice (some ⟨w.heap.size, 0, none⟩) n n) (w.alloc (.cells (reps n z) e)) := by
  obtain ⟨i, h0, h1⟩ := Option.map_eq_some_iff.1 hi
  simp only [Prod.mk.injEq] at h1
  obtain ⟨h1, h2, h3⟩ := h1
  have := run_make (P := P) w t e i z ht h0 h1 .i64 .i64 (n : Int) (n : Int) (by omega) (by omega) (by rw [h3, ← Int.natCast_mul]; omega) (by omega)
  rw [this]
  have e1 : madeCells z.cells ((n : Int).toNat * i.size) = reps n z := by
    rw [hz, h2]
    apply Array.ext'
    simp [toList_madeCells_one, reps]
  rw [e1]
  simp
theorem mk25 (n : Nat) (h : n ≤ 4096) (w : World) : (Instr.makeSlice 25 (.int .i64 n) (.int .i64 n)).run Yba.prog w = .ok (.slice (some ⟨w.heap.size, 0, none⟩) n n) (w.alloc (.cells (reps n (.slice none 0 0)) 44)) :=
  run_mk 25 44 24 _ Yba.underlying25 info44 rfl n (by omega) (by omega) w

/-- a new block as a new row -/
theorem St.fresh {w0 w : World} {val : Nat → Nat → Value} {ty : Nat → TypeId} {xs : Nat → Nat → List Value} (S : St w0 w val ty xs) (k : Nat) (cs : Array Value) (e : TypeId) (hty : ty k = e) (hn : cs.size ≤ maxLen) :
    St w0 (w.alloc (.cells cs e)) (upd val k 0 (.slice (some ⟨w.heap.size, 0, none⟩) cs.size cs.size)) ty (upd xs k 0 cs.toList) := by
  refine S.put (World.grownBy_alloc w _ none) (.inl rfl) ?_ (fun b hb => .inr ?_)
  · exact ⟨by simp, .inr ⟨w.heap.size, cs.size, cs, by simp, S.bel.size, by rw [hty]; exact heap_alloc_new w _, by simp, hn, by simp, by simp [List.take_of_length_le]⟩⟩
  · simp [Value.ownBlock] at hb; omega

theorem mm26 (w : World) : (Instr.makeMap 26 (some (.int .i64 0))).run Yba.prog w = .ok (.map (some w.heap.size)) (w.alloc (.map #[] 0)) := by
  simp [Instr.makeMap, run_underlying Yba.underlying26, asInt, asIntOf]

theorem range_none (w : World) (m : Nat) (h : w.heap[m]? = some (.map #[] 0)) : (Instr.range 26 (.map (some m))).run Yba.prog w = .ok (.pointer (some ⟨w.heap.size, 0, none⟩)) (w.alloc (.mapIter (some m) 0 #[] 0)) :=
  run_range_map w 26 _ _ m #[] 0 Yba.underlying26 h
theorem next_none (w : World) (ty : TypeId) (m : Nat) (h : w.heap[m]? = some (.map #[] 0)) : (Instr.next (.pointer (some ⟨w.heap.size, 0, none⟩)) false ty).run Yba.prog (w.alloc (.mapIter (some m) 0 #[] 0)) = .ok (.tuple #[.bool false]) (w.alloc (.mapIter (some m) 0 #[] 0)) := by
  rcases run_next_map (P := Yba.prog) w ty m 0 0 #[] #[] 0 h (by simp) (Nat.le_refl _) with ⟨_, h2⟩ | ⟨e, he, _⟩
  · exact h2
  · simp [leftOf] at he
end Go.Proofs.Ybulkaam
