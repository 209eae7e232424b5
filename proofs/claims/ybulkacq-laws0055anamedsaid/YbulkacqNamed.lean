import Derived.Test.YbulkacqRows
import Derived.WalkKit
import Derived.WalkSpells
import Derived.WalkLawsBesides
import Derived.WideLaws
import Derived.LaidEql
import Derived.Deep.WholeRow
namespace Go.Proofs.Ybulkacq
open Go.RowKit

theorem info33 : (Yba.prog.info? 33).map (·.size) = some 24 := by kernel_rfl

/-- zero cells of Settings -/
def z33 : Array Value := #[.string ⟨#[]⟩, .nilIface, .map none, .string ⟨#[]⟩, .int .i64 0, .int .i64 0, .int .i64 0, .bool false, .slice none 0 0, .int .i64 0, .int .i64 0, .int .i64 0, .int .i64 0, .slice none 0 0, .bool false, .bool false, .int .i64 0, .pointer none, .slice none 0 0, .bool false, .slice none 0 0, .string ⟨#[]⟩, .slice none 0 0, .int .u64 0]

theorem one_set {cs : Array Value} (hone : cs.all (·.oneCell') = true) (nm : ByteArray) : (cs.setIfInBounds 0 (.string nm)).all (·.oneCell') = true := by
  rw [Array.all_eq_true_iff_forall_mem] at hone ⊢
  intro x hx
  rcases Array.mem_or_eq_of_mem_setIfInBounds hx with h | h
  · exact hone x h
  · subst h; rfl
theorem set_new (w : World) (c c' : Array Value) (o : Obj) : ((w.alloc o).alloc (.cells c 33)).setRow (w.heap.size + 1) c' = (w.alloc o).alloc (.cells c' 33) := by
  have := World.setRow_alloc_new (w.alloc o) c c' 33
  simpa using this

set_option maxRecDepth 100000 in
set_option maxHeartbeats 800000 in
theorem named_nil (cs : Array Value) (h24 : cs.size = 24) (h1 : cs[1]? = some .nilIface) (hone : cs.all (·.oneCell') = true) (w : World) :
    Calls Yba.prog 6 #[.agg cs] w fun e w' => e = .returned (.agg cs) ∧ w' = (w.alloc (.cells cs 33)).alloc (.cells cs 33) := by
  have hsz : (Yba.prog.info? 33).map (·.size) = some cs.size := by rw [h24]; exact info33
  have H24 : Hid (cs.size = 24) := h24
  have HS : Hid ((Yba.prog.info? 33).map (·.size) = some cs.size) := hsz
  have HO : Hid (cs.all (·.oneCell') = true) := hone
  clear hsz hone h24
  go_enter Yba.func6, Yba.ntmps6
  go_wp2_with (first
    | (refine wpList_load_row rfl 33 _ rfl w.heap.size rfl 33 cs (0, 0) _ (heap_alloc2_old w _ _) Yba.underlying33 rfl HS.out ?_)
    | (refine wpList_store_row rfl 33 _ _ rfl (w.heap.size + 1) cs rfl rfl 33 _ (heap_alloc2_new w _ _) HS.out (by rw [H24.out]; rfl) HO.out ?_))
  rw [set_new]
  refine bodyPost_ret (v := .agg cs) (results_cell_row rfl _ _ (w.heap.size + 1) 33 cs (0, 0) _ rfl (heap_alloc2_new w _ _) Yba.underlying33 rfl HS.out) rfl ⟨rfl, rfl⟩

set_option maxRecDepth 100000 in
set_option maxHeartbeats 800000 in
theorem named_keep (cs : Array Value) (a : Addr) (alg : ByteArray) (h24 : cs.size = 24) (h0 : cs[0]? = some (.string alg)) (h1 : cs[1]? = some (.iface 34 (.pointer (some a)))) (hne : alg.toList.isEmpty = false)
    (hone : cs.all (·.oneCell') = true) (w : World) :
    Calls Yba.prog 6 #[.agg cs] w fun e w' => e = .returned (.agg cs) ∧ w' = (w.alloc (.cells cs 33)).alloc (.cells cs 33) := by
  have hsz : (Yba.prog.info? 33).map (·.size) = some cs.size := by rw [h24]; exact info33
  have H24 : Hid (cs.size = 24) := h24
  have HS : Hid ((Yba.prog.info? 33).map (·.size) = some cs.size) := hsz
  have HO : Hid (cs.all (·.oneCell') = true) := hone
  clear hsz hone h24
  go_enter Yba.func6, Yba.ntmps6
  go_wp2_with (first
    | (refine wpList_load_row rfl 33 _ rfl w.heap.size rfl 33 cs (0, 0) _ (heap_alloc2_old w _ _) Yba.underlying33 rfl HS.out ?_)
    | (refine wpList_store_row rfl 33 _ _ rfl (w.heap.size + 1) cs rfl rfl 33 _ (heap_alloc2_new w _ _) HS.out (by rw [H24.out]; rfl) HO.out ?_))
  rw [set_new]
  refine bodyPost_ret (v := .agg cs) (results_cell_row rfl _ _ (w.heap.size + 1) 33 cs (0, 0) _ rfl (heap_alloc2_new w _ _) Yba.underlying33 rfl HS.out) rfl ⟨rfl, rfl⟩

theorem method_name (a : Addr) (w : World) : (method 287 34 (.pointer (some a)) "Name").run Yba.prog w = .ok (34, .pointer (some a)) w := by kernel_rfl

set_option maxRecDepth 100000 in
theorem name_any (b : Nat) (nm : ByteArray) (w : World) (n0 : w.cell? ⟨b, 0, none⟩ = some (.string nm)) (n1 : w.cell? ⟨b, 1, none⟩ = some (.int .i64 0)) (f1 : w.frozen? ⟨b, 1, none⟩ = false) :
    Calls Yba.prog 34 #[.pointer (some ⟨b, 0, none⟩)] w fun e w' => e = .returned (.string nm) ∧ w' = w.setCell ⟨b, 1, none⟩ (.int .i64 1) := by
  go_enter Yba.func34, Yba.ntmps34
  go_wp2
  go_ret
  exact ⟨rfl, rfl⟩

set_option maxRecDepth 100000 in
set_option maxHeartbeats 800000 in
theorem named_fill (cs : Array Value) (b : Nat) (alg nm : ByteArray) (h24 : cs.size = 24) (h0 : cs[0]? = some (.string alg)) (h1 : cs[1]? = some (.iface 34 (.pointer (some ⟨b, 0, none⟩)))) (hne : alg.toList.isEmpty = true)
    (hone : cs.all (·.oneCell') = true) (w : World) (n0 : w.cell? ⟨b, 0, none⟩ = some (.string nm)) (n1 : w.cell? ⟨b, 1, none⟩ = some (.int .i64 0)) (f1 : w.frozen? ⟨b, 1, none⟩ = false) (hb : b < w.heap.size) :
    Calls Yba.prog 6 #[.agg cs] w fun e w' => e = .returned (.agg (cs.setIfInBounds 0 (.string nm))) ∧
      w' = ((w.setCell ⟨b, 1, none⟩ (.int .i64 1)).alloc (.cells (cs.setIfInBounds 0 (.string nm)) 33)).alloc (.cells (cs.setIfInBounds 0 (.string nm)) 33) := by
  have hsz : (Yba.prog.info? 33).map (·.size) = some (cs.setIfInBounds 0 (.string nm)).size := by rw [Array.size_setIfInBounds, h24]; exact info33
  have H24 : Hid (cs.size = 24) := h24
  have HS : Hid ((Yba.prog.info? 33).map (·.size) = some (cs.setIfInBounds 0 (.string nm)).size) := hsz
  have HO : Hid ((cs.setIfInBounds 0 (.string nm)).all (·.oneCell') = true) := one_set hone nm
  have hmn := method_name
  have c0 : ∀ o o' : Obj, ((w.alloc o).alloc o').cell? ⟨b, 0, none⟩ = some (.string nm) := fun o o' => by simp [go_sem, hb, n0]
  have c1 : ∀ o o' : Obj, ((w.alloc o).alloc o').cell? ⟨b, 1, none⟩ = some (.int .i64 0) := fun o o' => by simp [go_sem, hb, n1]
  have g1 : ∀ o o' : Obj, ((w.alloc o).alloc o').frozen? ⟨b, 1, none⟩ = false := fun o o' => by simp [go_sem, hb, f1]
  clear hsz hone h24
  go_enter Yba.func6, Yba.ntmps6
  go_wp2_with fail
  refine (name_any b nm _ (c0 _ _) (c1 _ _) (g1 _ _)).mono ?_
  rintro e w' ⟨rfl, rfl⟩
  clear c0 c1 g1
  have ho : Hid (∀ A B : Obj, (((w.setCell ⟨b, 1, none⟩ (.int .i64 1)).alloc A).alloc B).heap[w.heap.size]? = some A) := fun A B => by
    simpa using heap_alloc2_old (w.setCell ⟨b, 1, none⟩ (.int .i64 1)) A B
  have hn : Hid (∀ A B : Obj, (((w.setCell ⟨b, 1, none⟩ (.int .i64 1)).alloc A).alloc B).heap[w.heap.size + 1]? = some B) := fun A B => by
    simpa using heap_alloc2_new (w.setCell ⟨b, 1, none⟩ (.int .i64 1)) A B
  have hs : Hid (∀ c c' : Array Value, ∀ o : Obj, (((w.setCell ⟨b, 1, none⟩ (.int .i64 1)).alloc o).alloc (.cells c 33)).setRow (w.heap.size + 1) c' = ((w.setCell ⟨b, 1, none⟩ (.int .i64 1)).alloc o).alloc (.cells c' 33)) := fun c c' o => by
    simpa using set_new (w.setCell ⟨b, 1, none⟩ (.int .i64 1)) c c' o
  go_wp2_with (first
    | (refine wpList_load_row rfl 33 _ rfl w.heap.size rfl 33 (cs.setIfInBounds 0 (.string nm)) (0, 0) _ (ho.out _ _) Yba.underlying33 rfl HS.out ?_)
    | (refine wpList_store_row rfl 33 _ _ rfl (w.heap.size + 1) (cs.setIfInBounds 0 (.string nm)) rfl rfl 33 _ (hn.out _ _) HS.out (by rw [Array.size_setIfInBounds, H24.out]; rfl) HO.out ?_))
  rw [hs.out]
  refine bodyPost_ret (v := .agg (cs.setIfInBounds 0 (.string nm))) (results_cell_row rfl _ _ (w.heap.size + 1) 33 (cs.setIfInBounds 0 (.string nm)) (0, 0) _ rfl (hn.out _ _) Yba.underlying33 rfl HS.out) rfl ⟨rfl, rfl⟩
end Go.Proofs.Ybulkacq
