import Derived.Test.YbulkaamG
namespace Go.Proofs.Ybulkaam
open Go.RowKit

theorem St.none (w : World) (ty : Nat → TypeId) : St w w (fun _ _ => .slice none 0 0) ty (fun _ _ => []) :=
  ⟨fun _ _ => World.ownsRow_nil w _ _ _, fun _ _ _ _ b h => by simp [Value.ownBlock] at h, Below.refl _ _⟩

set_option maxRecDepth 100000 in
theorem newGraph_any (ad : Addr) (w : World) : Calls Yba.prog 7 #[.pointer (some ad)] w fun e w' =>
    e = .returned (.agg #[.pointer (some ad), .slice none 0 0, .slice none 0 0, .map (some (w.heap.size + 1))]) ∧
    w' = (w.alloc (.cells #[.pointer (some ad), .slice none 0 0, .slice none 0 0, .map (some (w.heap.size + 1))] 28)).alloc (.map #[] 0) := by
  have hmm := @run_makeMap Yba.prog
  go_enter Yba.func7, Yba.ntmps7
  go_wp2
  exact bodyPost_ret (v := .agg #[.pointer (some ad), .slice none 0 0, .slice none 0 0, .map (some (w.heap.size + 1))]) (by simp [results, Yba.results7, go_sem]) rfl ⟨rfl, rfl⟩

theorem G.born (w : World) (o1 o2 : Obj) (ad : Addr) : ∃ val xs, G w ((((w.alloc o1).alloc o2).alloc (.map #[] 0)).alloc (.cells #[.pointer (some ad), .slice none 0 0, .slice none 0 0, .map (some (w.heap.size + 1 + 1))] 28)) val xs
    (w.heap.size + 1 + 1 + 1) (w.heap.size + 1 + 1) ad 0 [] (fun _ => []) := by
  have S := ((((St.none w tyf).alloc o1).alloc o2).alloc (.map #[] 0)).fresh 0 #[.pointer (some ad), .slice none 0 0, .slice none 0 0, .map (some (w.heap.size + 1 + 1))] 28 rfl (by simp [maxLen])
  simp only [World.size_alloc] at S
  refine ⟨_, _, S, ?_, ?_, ?_, ?_, ?_, ?_, ?_, rfl⟩
  · rw [upd_same]; rfl
  · rw [upd_same, upd_other _ _ _ _ (by omega), upd_other _ _ _ _ (by omega)]
  · refine (Below.heap_alloc _ _ _ (by simp)).trans ?_
    show ((((w.heap.push _).push _).push _))[_]? = _
    simp only [Array.getElem?_push, Array.size_push]; simp
  · rw [upd_other _ _ _ _ (by omega)]; rfl
  · rw [upd_other _ _ _ _ (by omega)]; rfl
  · intro y; rw [upd_other _ _ _ _ (by omega)]; rfl
  · intro y _; rw [upd_other _ _ _ _ (by omega)]
end Go.Proofs.Ybulkaam
