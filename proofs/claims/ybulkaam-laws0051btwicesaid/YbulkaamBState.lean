import Derived.Test.YbulkaamStop

namespace Go.Proofs.Ybulkaam
open Go.Conc Go.RowKit Go.MuLone

theorem born (w : World) (a0 : Int) (a1 a2 : Bool) (h q : Nat) (hh : (h = w.heap.size ∧ q = w.heap.size + 1) ∨ (h = w.heap.size + 1 ∧ q = w.heap.size)) :
    Eng (((w.alloc (Obj.chan 0 #[] false 0 0 false)).alloc (Obj.chan 0 #[] false 0 0 false)).alloc
        (Obj.cells
          #[Value.pointer none, Value.map none, Value.nilFunc, Value.int IntKind.i32 0, Value.int IntKind.u32 0,
            Value.pointer none, Value.map none, Value.slice none 0 0, Value.int IntKind.i64 a0, Value.int IntKind.i64 0,
            Value.int IntKind.i64 0, Value.int IntKind.i64 0, Value.int IntKind.u64 0, Value.bool false, Value.bool a1,
            Value.chan (some h), Value.slice none 0 0, Value.int IntKind.i64 0, Value.slice none 0 0,
            Value.nilFunc, Value.nilFunc, Value.chan (some q), Value.bool a2]
          90)).drew (w.heap.size + 1 + 1) h q 0 a0 a1 a2 false false := by
  refine ⟨?_, ?_, ?_, ?_, ?_, ?_, ?_, ?_, ?_, ?_, ?_, by omega, by omega, by omega⟩
  all_goals try (simp [go_sem]; done)
  all_goals
    show ((((w.heap.push _).push _).push _))[_]? = _
    simp only [Array.getElem?_push, Array.size_push]
    rcases hh with ⟨rfl, rfl⟩ | ⟨rfl, rfl⟩ <;> simp <;> omega
set_option maxRecDepth 100000 in
set_option maxHeartbeats 1600000 in
theorem bstate_walk (a0 : Int) (a1 : Bool) (a2 : Bool) (w : World) :
    Calls Yba.prog 5 #[.int .i64 a0, .bool a1, .bool a2] w fun e w' => e = .returned (.bool true) ∧ Below w.heap.size w w' := by
  have hm := mk0
  go_enter Yba.func5, Yba.ntmps5
  go_wp2
  go_region
  all_goals go_wp2_with fail
  refine (Stop_any (born w a0 a1 a2 w.heap.size (w.heap.size + 1) (.inl ⟨rfl, rfl⟩)) (fun _ => rfl) (fun _ => rfl) (B := w.heap.size) (by omega) (by omega) (by omega)).mono ?_
  rotate_left
  refine (Stop_any (born w a0 a1 a2 (w.heap.size + 1) w.heap.size (.inr ⟨rfl, rfl⟩)) (fun _ => rfl) (fun _ => rfl) (B := w.heap.size) (by omega) (by omega) (by omega)).mono ?_
  all_goals
    rintro e w1 ⟨rfl, hb, hE1⟩
    have hbel : Hid (Below w.heap.size w w1) := (((((Below.refl _ w).alloc (Nat.le_refl _) _).alloc (by simp) _).alloc (by simp; omega) _).drew).trans hb
    clear hb
    go_wp2_with fail
    refine (try_free ⟨w.heap.size + 1 + 1, 3, none⟩ _ hE1.mu hE1.fmu).mono ?_
    rintro e w' ⟨rfl, rfl⟩
    have hE2 := hE1.setMu 1
    go_wp2_with fail
    refine (unlock_held Yba.muLib ⟨w.heap.size + 1 + 1, 3, none⟩ _ hE2.mu hE2.fmu).mono ?_
    rintro e w' ⟨rfl, rfl⟩
    clear hE2
    obtain ⟨h1, h2, h3, h4, h5, h6, f1, f2, f3, c1, c2, n1, n2, n3⟩ := hE1
    clear c1 c2 n1 n2 n3 f2 f3 h4 h5
    have hfin : Hid (Below w.heap.size w ((w1.setCell ⟨w.heap.size + 1 + 1, 3, none⟩ (.int .i32 1)).setCell ⟨w.heap.size + 1 + 1, 3, none⟩ (.int .i32 0))) := (hbel.out.setCell (by simp; omega) _).setCell (by simp; omega) _
    clear hbel
    by_cases hg : a0 = 0
    · have hg' : (a0 == 0) = true := by simp [hg]
      simp only [hg, decide_true] at h6
      clear hg
      cases a1 <;> cases a2 <;> (simp at h6; go_wp2; go_ret; exact ⟨by simp, hfin.out⟩)
    · have hg' : (a0 == 0) = false := by simp [hg]
      simp only [hg, decide_false] at h6
      clear hg
      cases a1 <;> cases a2 <;> (simp at h6; go_wp2; go_ret; exact ⟨by simp, hfin.out⟩)
end Go.Proofs.Ybulkaam
