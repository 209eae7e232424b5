import Derived.Test.YbulkaamLocks
import Derived.Conc.LoneCalls
import Derived.Defers
import Derived.BigQuiet
import Derived.WalkSpells
namespace Go.Proofs.Ybulkaam
open Go.Conc Go.RowKit Go.MuLone

theorem bytes74 : ∃ i, Yba.prog.info? 74 = some i ∧ i.bytes = 0 := by
  have h : (Yba.prog.info? 74).map (·.bytes) = some 0 := by kernel_rfl
  obtain ⟨i, hi, hb⟩ := Option.map_eq_some_iff.1 h
  exact ⟨i, hi, hb⟩
theorem mk0 (w : World) : (Instr.makeChan 71 (.int .i64 0)).run Yba.prog w = .ok (.chan (some w.heap.size)) (w.alloc (.chan 0 #[] false 0 0 false)) := by
  obtain ⟨i, hi, hb⟩ := bytes74
  simpa using run_makeChan (P := Yba.prog) (w := w) Yba.underlying71 hi .i64 0 (by omega) (by rw [hb]; omega)

/-- the world with channel c closed -/
def shutChan (w : World) (c : Nat) : World := w.setChan c 0 #[] true 0 0 false

theorem shut_cell {w : World} {c b o : Nat} (hb : b ≠ c) : (shutChan w c).cell? ⟨b, o, none⟩ = w.cell? ⟨b, o, none⟩ := by
  apply World.cell?_of_block
  simp only [shutChan, World.setChan]
  rw [Array.getElem?_setIfInBounds_ne (by simpa using fun e => hb e.symm)]
theorem shut_frozen {w : World} {c b o : Nat} (hb : b ≠ c) : (shutChan w c).frozen? ⟨b, o, none⟩ = w.frozen? ⟨b, o, none⟩ := by
  apply World.frozen?_of_block
  simp only [shutChan, World.setChan]
  rw [Array.getElem?_setIfInBounds_ne (by simpa using fun e => hb e.symm)]
theorem shut_heap_other {w : World} {c k : Nat} (hb : k ≠ c) : (shutChan w c).heap[k]? = w.heap[k]? := by
  simp only [shutChan, World.setChan]
  rw [Array.getElem?_setIfInBounds_ne (by simpa using fun e => hb e.symm)]
theorem shut_heap_same {w : World} {c : Nat} {o : Obj} (h : w.heap[c]? = some o) : (shutChan w c).heap[c]? = some (.chan 0 #[] true 0 0 false) := by
  have hc : c < w.heap.size := (Array.getElem?_eq_some_iff.1 h).1
  exact heap_setChan w c 0 #[] true 0 0 false hc
theorem run_close {w : World} {c : Nat} (h : w.heap[c]? = some (.chan 0 #[] false 0 0 false)) (ats : Array TypeId) (ty : TypeId) :
    (Builtin.close_ ats ty #[.chan (some c)]).run Yba.prog w = .ok (.tuple #[]) (shutChan w c) :=
  run_close_open ats ty h

/-- The Engine in block b: its lock's word, going, stopped, quieted; its channels h (halt) and q (quiet), closed or not. -/
structure Eng (w : World) (b h q : Nat) (m g : Int) (s d hc qc : Bool) : Prop where
  mu : w.cell? ⟨b, 3, none⟩ = some (.int .i32 m)
  going : w.cell? ⟨b, 8, none⟩ = some (.int .i64 g)
  stopped : w.cell? ⟨b, 14, none⟩ = some (.bool s)
  halt : w.cell? ⟨b, 15, none⟩ = some (.chan (some h))
  quiet : w.cell? ⟨b, 21, none⟩ = some (.chan (some q))
  quieted : w.cell? ⟨b, 22, none⟩ = some (.bool d)
  fmu : w.frozen? ⟨b, 3, none⟩ = false
  fst : w.frozen? ⟨b, 14, none⟩ = false
  fqd : w.frozen? ⟨b, 22, none⟩ = false
  hh : w.heap[h]? = some (.chan 0 #[] hc 0 0 false)
  hq : w.heap[q]? = some (.chan 0 #[] qc 0 0 false)
  bh : b ≠ h
  bq : b ≠ q
  hne : h ≠ q

theorem Eng.setMu {w b h q m g s d hc qc} (E : Eng w b h q m g s d hc qc) (n : Int) : Eng (w.setCell ⟨b, 3, none⟩ (.int .i32 n)) b h q n g s d hc qc := by
  obtain ⟨h1, h2, h3, h4, h5, h6, f1, f2, f3, c1, c2, n1, n2, n3⟩ := E
  refine ⟨?_, ?_, ?_, ?_, ?_, ?_, ?_, ?_, ?_, ?_, ?_, n1, n2, n3⟩ <;> first | (simp [go_sem, *]; done) | (rw [Below.heap_setCell _ _ _ _ (by simpa using fun e => by omega)]; assumption)
theorem Eng.setStopped {w b h q m g s d hc qc} (E : Eng w b h q m g s d hc qc) (n : Bool) : Eng (w.setCell ⟨b, 14, none⟩ (.bool n)) b h q m g n d hc qc := by
  obtain ⟨h1, h2, h3, h4, h5, h6, f1, f2, f3, c1, c2, n1, n2, n3⟩ := E
  refine ⟨?_, ?_, ?_, ?_, ?_, ?_, ?_, ?_, ?_, ?_, ?_, n1, n2, n3⟩ <;> first | (simp [go_sem, *]; done) | (rw [Below.heap_setCell _ _ _ _ (by simpa using fun e => by omega)]; assumption)
theorem Eng.setQuieted {w b h q m g s d hc qc} (E : Eng w b h q m g s d hc qc) (n : Bool) : Eng (w.setCell ⟨b, 22, none⟩ (.bool n)) b h q m g s n hc qc := by
  obtain ⟨h1, h2, h3, h4, h5, h6, f1, f2, f3, c1, c2, n1, n2, n3⟩ := E
  refine ⟨?_, ?_, ?_, ?_, ?_, ?_, ?_, ?_, ?_, ?_, ?_, n1, n2, n3⟩ <;> first | (simp [go_sem, *]; done) | (rw [Below.heap_setCell _ _ _ _ (by simpa using fun e => by omega)]; assumption)
theorem Eng.shutHalt {w b h q m g s d hc qc} (E : Eng w b h q m g s d hc qc) : Eng (shutChan w h) b h q m g s d true qc := by
  obtain ⟨h1, h2, h3, h4, h5, h6, f1, f2, f3, c1, c2, n1, n2, n3⟩ := E
  refine ⟨?_, ?_, ?_, ?_, ?_, ?_, ?_, ?_, ?_, ?_, ?_, n1, n2, n3⟩ <;> first | (rw [shut_cell n1]; assumption) | (rw [shut_frozen n1]; assumption) | (exact shut_heap_same c1) | (rw [shut_heap_other (Ne.symm n3)]; assumption)
theorem Eng.shutQuiet {w b h q m g s d hc qc} (E : Eng w b h q m g s d hc qc) : Eng (shutChan w q) b h q m g s d hc true := by
  obtain ⟨h1, h2, h3, h4, h5, h6, f1, f2, f3, c1, c2, n1, n2, n3⟩ := E
  refine ⟨?_, ?_, ?_, ?_, ?_, ?_, ?_, ?_, ?_, ?_, ?_, n1, n2, n3⟩ <;> first | (rw [shut_cell n2]; assumption) | (rw [shut_frozen n2]; assumption) | (rw [shut_heap_other n3]; assumption) | (exact shut_heap_same c2)
theorem below_shut {B : Nat} {a w : World} (h : Below B a w) {c : Nat} (hc : B ≤ c) : Below B a (shutChan w c) := below_setChan h hc _ _ _ _ _ _

end Go.Proofs.Ybulkaam
