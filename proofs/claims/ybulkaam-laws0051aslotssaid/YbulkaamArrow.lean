import Derived.Test.YbulkaamNode
namespace Go.Proofs.Ybulkaam
open Go.RowKit

theorem arrow_same (bg : Addr) (a : Nat) (w : World) : Calls Yba.prog 9 #[.pointer (some bg), .int .i64 a, .int .i64 a] w fun e w' => e = .returned (.tuple #[]) ∧ w = w' := by
  go_enter Yba.func9, Yba.ntmps9
  go_wp2
  go_end0
  exact ⟨rfl, rfl⟩

theorem St.appendedD {w0 w : World} {val : Nat → Nat → Value} {ty : Nat → TypeId} {xs : Nat → Nat → List Value} (S : St w0 w val ty xs) {k y g cap : Nat} {o : Obj} {w1 : World} {ys : List Value} {u : Value} {row : Option Nat} (hr : row = none ∨ row = (val k y).ownBlock)
    (ho : w1.ownsRow w0.heap.size (ty k) 1 (.slice (some ⟨g, 0, none⟩) (ys.length + 1) cap) (ys.length + 1) (ys ++ [u])) (hg : (w.alloc o).drew.grownBy w1 row) (hb : row = some g ∨ (w.alloc o).drew.heap.size ≤ g) :
    St w0 w1 (upd val k y (.slice (some ⟨g, 0, none⟩) (ys.length + 1) cap)) ty (upd xs k y (ys ++ [u])) :=
  (S.alloc o).drew.put hg hr (by simpa using ho) (row_blk hr hb)

theorem arrow_end {w0 w w1 : World} {val : Nat → Nat → Value} {ty : Nat → TypeId} {xs : Nat → Nat → List Value} (S : St w0 w val ty xs) {kA kR ga n capA a g cap : Nat} {row : Option Nat} {rv : Value} {xr : List Value} {u : Value} {o : Obj}
    (hA : val kA 0 = .slice (some ⟨ga, 0, none⟩) n capA) (hrv : (xs kA 0)[a]? = some rv) (rR : row = none ∨ row = (val kR a).ownBlock) (tR : ty kR = 3) (n1 : kR ≠ kA)
    (ho : w1.ownsRow w0.heap.size 3 1 (.slice (some ⟨g, 0, none⟩) (xr.length + 1) cap) (xr.length + 1) (xr ++ [u])) (hg : (w.alloc o).drew.grownBy w1 row) (hb : row = some g ∨ (w.alloc o).drew.heap.size ≤ g) :
    (∃ val' xs', St w0 (w1.setCell ⟨ga, a, none⟩ (.slice (some ⟨g, 0, none⟩) (xr.length + 1) cap)) val' ty xs' ∧ xs' kR a = xr ++ [u] ∧ xs' kA 0 = (xs kA 0).set a (val' kR a) ∧
      (∀ k y, ¬ (k = kR ∧ y = a) → val' k y = val k y) ∧ (∀ k y, ¬ (k = kR ∧ y = a) → ¬ (k = kA ∧ y = 0) → xs' k y = xs k y)) ∧
    Aside w (w1.setCell ⟨ga, a, none⟩ (.slice (some ⟨g, 0, none⟩) (xr.length + 1) cap)) val ∧
    (∀ k y b n c i v, ¬ (k = kR ∧ y = a) → val k y = .slice (some ⟨b, 0, none⟩) n c → (xs k y)[i]? = some v → w1.cell? ⟨b, i, none⟩ = some v ∧ w1.frozen? ⟨b, i, none⟩ = false) := by
  have S1 := S.appendedD (k := kR) (y := a) rR (by rw [tR]; exact ho) hg hb
  have hA1 : upd val kR a (.slice (some ⟨g, 0, none⟩) (xr.length + 1) cap) kA 0 = .slice (some ⟨ga, 0, none⟩) n capA := by rw [upd_other _ _ _ _ (fun e => n1 e.1.symm)]; exact hA
  have hX1 : upd xs kR a (xr ++ [u]) kA 0 = xs kA 0 := by rw [upd_other _ _ _ _ (fun e => n1 e.1.symm)]
  have hlt : a < (xs kA 0).length := (List.getElem?_eq_some_iff.1 hrv).1
  have S2 := S1.set hA1 (i := a) (by rw [hX1]; exact hlt) (.slice (some ⟨g, 0, none⟩) (xr.length + 1) cap)
  rw [hX1] at S2
  refine ⟨⟨_, _, S2, ?_, ?_, ?_, ?_⟩, ?_, ?_⟩
  · rw [upd_other _ _ _ _ (fun e => n1 e.1), upd_same]
  · rw [upd_same, upd_same]
  · intro k y h; rw [upd_other _ _ _ _ h]
  · intro k y h1 h2; rw [upd_other _ _ _ _ h2, upd_other _ _ _ _ h1]
  · have B1 := (Aside.refl w val).grown (World.grownBy_alloc w o none) (Nat.le_refl _) (by simp)
    have B2 := B1.grown (grown_drew _) (by simp) (by simp)
    have hz : w.heap.size ≤ (w.alloc o).drew.heap.size := by show w.heap.size ≤ (w.heap.push o).size; simp
    have B3 := B2.grown hg hz (fun b hb => by
      rcases rR with r | r
      · rw [r] at hb; cases hb
      · exact .inl ⟨kR, a, r ▸ hb⟩)
    exact B3.grown (grown_setCell w1 ⟨ga, a, none⟩ _) (Nat.le_trans hz hg.size) (fun b hb => .inl ⟨kA, 0, by simp at hb; subst hb; rw [hA]; rfl⟩)
  · intro k y b n' c i v hk hv hx
    have hv1 : upd val kR a (.slice (some ⟨g, 0, none⟩) (xr.length + 1) cap) k y = .slice (some ⟨b, 0, none⟩) n' c := by rw [upd_other _ _ _ _ hk]; exact hv
    exact ⟨S1.cell hv1 (by rw [upd_other _ _ _ _ hk]; exact hx), S1.frozen i hv1⟩

set_option maxRecDepth 100000 in
set_option maxHeartbeats 1600000 in
theorem arrow_st {w0 w : World} {val : Nat → Nat → Value} {ty : Nat → TypeId} {xs : Nat → Nat → List Value} (S : St w0 w val ty xs) (kS kA kR bg ga n capA a b : Nat) (d vN m rv : Value) (xr : List Value) (row : Option Nat)
    (hS : val kS 0 = .slice (some ⟨bg, 0, none⟩) 4 4) (hxS : xs kS 0 = [d, vN, val kA 0, m]) (hA : val kA 0 = .slice (some ⟨ga, 0, none⟩) n capA) (hrv : (xs kA 0)[a]? = some rv)
    (aR : App w w0.heap.size 3 rv xr row) (rR : row = none ∨ row = (val kR a).ownBlock) (tR : ty kR = 3) (n1 : kR ≠ kA) (n2 : kR ≠ kS) (ha : a < n) (hab : a ≠ b) (lR : xr.length ≤ 4096) :
    Calls Yba.prog 9 #[.pointer (some ⟨bg, 0, none⟩), .int .i64 a, .int .i64 b] w fun e w' => e = .returned (.tuple #[]) ∧ ∃ val' xs', St w0 w' val' ty xs' ∧ Aside w w' val ∧ xs' kR a = xr ++ [.int .i64 b] ∧ xs' kA 0 = (xs kA 0).set a (val' kR a) ∧
      (∀ k y, ¬ (k = kR ∧ y = a) → val' k y = val k y) ∧ (∀ k y, ¬ (k = kR ∧ y = a) → ¬ (k = kA ∧ y = 0) → xs' k y = xs k y) := by
  obtain ⟨i0, hi, hz0, hz1, hz2⟩ := info_parts info3
  have f2 : w.cell? ⟨bg, 2, none⟩ = some (.slice (some ⟨ga, 0, none⟩) n capA) := S.cell hS (by rw [hxS, ← hA]; rfl)
  have ca : w.cell? ⟨ga, a, none⟩ = some rv := S.cell hA hrv
  have lga := (S.len hA).2.1
  have lbg := (S.len hS).2.1
  have hsz := S.bel.size
  have t1 : ((a : Int) == (b : Int)) = false := by simp; omega
  have i1 : (0 : Int) ≤ (a : Int) := by omega
  have i3 : (a : Int) < (n : Int) := by omega
  have HS := hide S
  have HaR := hide aR
  have HhS := hide hS
  have HxS := hide hxS
  have HhA := hide hA
  have HrR := hide rR
  have HtR := hide tR
  have Hrv := hide hrv
  have HN := hide (And.intro n1 n2)
  clear S aR hS hxS hA rR tR hrv n1 n2
  go_enter Yba.func9, Yba.ntmps9
  go_wp2
  go_region_law
    ((refine step_append_app (by rfl) _ _ _ (by rfl) w0.heap.size 3 i0 (.int .i64 0) 8 Yba.underlying44 hi hz0 hz1 hz2 rfl rv xr row (by rfl) (((unhide HaR).kept (World.grownBy_alloc w _ none)).kept (grown_drew _)) ⟨w.heap.size, 0, none⟩ (.int .i64 b) (by rfl) (by simp [go_sem]) rfl (by simp only [maxLen]; omega) (by omega) (by simp; omega) ?_; intro g cap w1 ho hg hb1; have R := arrow_end (unhide HS) (unhide HhA) (unhide Hrv) (unhide HrR) (unhide HtR) (unhide HN).1 ho hg hb1; have q0 := (R.2.2 kS 0 bg 4 4 2 _ (fun e => (unhide HN).2 e.1.symm) (unhide HhS) (by rw [unhide HxS, unhide HhA]; rfl)).1; have q1 := (R.2.2 kA 0 ga n capA a _ (fun e => (unhide HN).1 e.1.symm) (unhide HhA) (unhide Hrv)).1; have q2 := (R.2.2 kA 0 ga n capA a _ (fun e => (unhide HN).1 e.1.symm) (unhide HhA) (unhide Hrv)).2; have HR := hide (And.intro R.1 R.2.1); clear R ho hg hb1))
  all_goals
    clear q0 q1 q2 f2 ca
    go_wp2
    go_end0
    obtain ⟨⟨val', xs', r1, r2, r3, r4, r5⟩, rB⟩ := unhide HR
    exact ⟨rfl, val', xs', r1, rB, r2, r3, r4, r5⟩
end Go.Proofs.Ybulkaam
