import Derived.Test.YbulkaamArrow
import Derived.Lib.SliceRun
namespace Go.Proofs.Ybulkaam
open Go.RowKit

/-- a slice value whose elements can be read, in whatever memory -/
def View (w : World) (v : Value) (ys : List Value) : Prop :=
  ∃ ao cap, v = .slice ao ys.length cap ∧ (ao = none → ys.length = 0) ∧ ∀ b, ao = some b → ∀ j u, ys[j]? = some u → w.cell? (b.add j) = some u

theorem View.kept {w w' : World} {v : Value} {ys : List Value} (h : View w v ys) (g : w.grownBy w' none) : View w' v ys := by
  obtain ⟨ao, cap, h1, h2, h3⟩ := h
  exact ⟨ao, cap, h1, h2, fun b hb j u hu => g.cell (h3 b hb j u hu) (by simp)⟩
theorem view_own {w : World} {base : Nat} {e : TypeId} {v : Value} {ys : List Value} (h : w.ownsRow base e 1 v ys.length ys) : View w v ys := by
  rcases h.2 with ⟨rfl, h0⟩ | ⟨g, cap, cur, rfl, _⟩
  · exact ⟨none, 0, by rw [h0], fun _ => h0, fun b hb => by cases hb⟩
  · refine ⟨_, cap, rfl, (fun h => by cases h), fun b hb j u hu => ?_⟩
    obtain rfl := Option.some.inj hb
    exact h.cells rfl j u hu

/-- what a clone is: a new row with the same elements -/
def Cloned (w w' : World) (e : TypeId) (v : Value) (ys : List Value) : Prop := w.grownBy w' none ∧ w'.ownsRow w.heap.size e 1 v ys.length ys

theorem cloned_of {w w' : World} {e : TypeId} {v : Value} {ys : List Value} {o : Obj} (ho : w'.ownsRow w.heap.size e 1 v (0 + ys.length) ([] ++ ys)) (hg : (w.alloc o).grownBy w' (some w.heap.size)) : Cloned w w' e v ys :=
  ⟨⟨hg.os, hg.tape, hg.output, Nat.le_trans (by simp) hg.size, fun k hk _ => (hg.block k (by simp; omega) (by simp; omega)).trans (Below.heap_alloc w o k hk)⟩, by simpa using ho⟩

set_option maxRecDepth 100000 in
set_option maxHeartbeats 800000 in
theorem clone_strs {w : World} {v : Value} {ys : List Value} (h : View w v ys) (h1 : ∀ u ∈ ys, u.oneCell' = true) (hl : ys.length ≤ 4096) :
    Calls Yba.prog 10 #[v] w fun e w' => ∃ v', e = .returned v' ∧ Cloned w w' 9 v' ys := by
  obtain ⟨i9, h91, h92, h93, h94⟩ := info_parts info9
  obtain ⟨ao, cap, rfl, h2, h3⟩ := h
  have hnil := fun w => Lib.run_eql_slice_nil (P := Yba.prog) w 22 9 ao ys.length cap 0 0 Yba.underlying22
  cases ao with
  | none =>
    have h0 := h2 rfl
    have H : Hid (Cloned w w 9 (.slice none 0 0) ys) := ⟨⟨rfl, rfl, rfl, Nat.le_refl _, fun _ _ _ => rfl⟩, by simp [h0], .inl ⟨rfl, h0⟩⟩
    clear h2 h3 h0 h1
    go_enter Yba.func10, Yba.ntmps10
    go_wp2
    go_ret
    exact ⟨_, rfl, H.out⟩
  | some b =>
    have hc := hide (h3 b rfl)
    have H1 := hide h1
    clear h2 h3 h1
    go_enter Yba.func10, Yba.ntmps10
    go_wp2_with (at_builtin; refine wpList_append_own _ rfl _ _ 22 rfl w.heap.size 9 i9 _ 1 16 Yba.underlying22 h91 h92 h93 h94 rfl (by omega) (.slice (some ⟨w.heap.size, 0, none⟩) 0 0) 0 [] rfl (World.ownsRow_made w #[] 0 (Nat.le_refl _) (Nat.zero_le _) rfl) b ys.length cap ys rfl (by simp) (fun j u hu => (World.grownBy_alloc w _ none).cell ((unhide hc) j u hu) (by simp)) (unhide H1) (by simp only [maxLen]; omega) (by omega) (by simp) ?_; intro v' w1 ho hg hh)
    go_ret
    exact ⟨_, rfl, cloned_of ho hg⟩
set_option maxRecDepth 100000 in
set_option maxHeartbeats 800000 in
theorem clone_ints {w : World} {v : Value} {ys : List Value} (h : View w v ys) (h1 : ∀ u ∈ ys, u.oneCell' = true) (hl : ys.length ≤ 4096) :
    Calls Yba.prog 11 #[v] w fun e w' => ∃ v', e = .returned v' ∧ Cloned w w' 3 v' ys := by
  obtain ⟨i9, h91, h92, h93, h94⟩ := info_parts info3
  obtain ⟨ao, cap, rfl, h2, h3⟩ := h
  have hnil := fun w => Lib.run_eql_slice_nil (P := Yba.prog) w 44 3 ao ys.length cap 0 0 Yba.underlying44
  cases ao with
  | none =>
    have h0 := h2 rfl
    have H : Hid (Cloned w w 3 (.slice none 0 0) ys) := ⟨⟨rfl, rfl, rfl, Nat.le_refl _, fun _ _ _ => rfl⟩, by simp [h0], .inl ⟨rfl, h0⟩⟩
    clear h2 h3 h0 h1
    go_enter Yba.func11, Yba.ntmps11
    go_wp2
    go_ret
    exact ⟨_, rfl, H.out⟩
  | some b =>
    have hc := hide (h3 b rfl)
    have H1 := hide h1
    clear h2 h3 h1
    go_enter Yba.func11, Yba.ntmps11
    go_wp2_with (at_builtin; refine wpList_append_own _ rfl _ _ 44 rfl w.heap.size 3 i9 _ 1 8 Yba.underlying44 h91 h92 h93 h94 rfl (by omega) (.slice (some ⟨w.heap.size, 0, none⟩) 0 0) 0 [] rfl (World.ownsRow_made w #[] 0 (Nat.le_refl _) (Nat.zero_le _) rfl) b ys.length cap ys rfl (by simp) (fun j u hu => (World.grownBy_alloc w _ none).cell ((unhide hc) j u hu) (by simp)) (unhide H1) (by simp only [maxLen]; omega) (by omega) (by simp) ?_; intro v' w1 ho hg hh)
    go_ret
    exact ⟨_, rfl, cloned_of ho hg⟩
end Go.Proofs.Ybulkaam
