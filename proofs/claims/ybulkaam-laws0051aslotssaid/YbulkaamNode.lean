import Derived.Test.YbulkaamSt
namespace Go.Proofs.Ybulkaam
open Go.RowKit

theorem info9 : (Yba.prog.info? 9).map (fun i => (i.zero, i.size, i.bytes)) = some (some (.string ⟨#[]⟩), 1, 16) := by kernel_rfl
theorem info44 : (Yba.prog.info? 44).map (fun i => (i.zero, i.size, i.bytes)) = some (some (.slice none 0 0), 1, 24) := by kernel_rfl
theorem info3 : (Yba.prog.info? 3).map (fun i => (i.zero, i.size, i.bytes)) = some (some (.int .i64 0), 1, 8) := by kernel_rfl

/-- blocks that no row owns are as they were -/
def Aside (w w' : World) (val : Nat → Nat → Value) : Prop := ∀ b, b < w.heap.size → (∀ k y, (val k y).ownBlock ≠ some b) → w'.heap[b]? = w.heap[b]?

theorem row_blk {v : Value} {row : Option Nat} {g n cap H : Nat} (hr : row = none ∨ row = v.ownBlock) (hg : row = some g ∨ H ≤ g) : ∀ b, (Value.slice (some ⟨g, 0, none⟩) n cap).ownBlock = some b → v.ownBlock = some b ∨ H ≤ b := by
  intro b hb
  simp [Value.ownBlock] at hb
  subst hb
  rcases hg with h | h
  · rcases hr with r | r
    · rw [r] at h; cases h
    · exact .inl (r ▸ h)
  · exact .inr h

theorem Aside.grown {w w1 w2 : World} {val : Nat → Nat → Value} {row : Option Nat} (h : Aside w w1 val) (g : w1.grownBy w2 row) (hs : w.heap.size ≤ w1.heap.size) (hr : ∀ b, row = some b → (∃ k y, (val k y).ownBlock = some b) ∨ w.heap.size ≤ b) : Aside w w2 val := fun b hb hn => by
  rw [g.block b (by omega) (fun e => by rcases hr b e.symm with ⟨k, y, hk⟩ | hk; exact hn k y hk; omega)]
  exact h b hb hn
theorem Aside.refl (w : World) (val : Nat → Nat → Value) : Aside w w val := fun _ _ _ => rfl

section
variable {w0 w : World} {val : Nat → Nat → Value} {ty : Nat → TypeId} {xs : Nat → Nat → List Value}
/-- append to row (k, y), as a new state -/
theorem St.appended (S : St w0 w val ty xs) {k y g cap : Nat} {o : Obj} {w1 : World} {ys : List Value} {u : Value} {row : Option Nat} (hr : row = none ∨ row = (val k y).ownBlock)
    (ho : w1.ownsRow w0.heap.size (ty k) 1 (.slice (some ⟨g, 0, none⟩) (ys.length + 1) cap) (ys.length + 1) (ys ++ [u])) (hg : (w.alloc o).grownBy w1 row) (hb : row = some g ∨ (w.alloc o).heap.size ≤ g) :
    St w0 w1 (upd val k y (.slice (some ⟨g, 0, none⟩) (ys.length + 1) cap)) ty (upd xs k y (ys ++ [u])) :=
  (S.alloc o).put hg hr (by simpa using ho) (row_blk hr hb)
theorem Aside.appended {k y : Nat} {o : Obj} {w1 wA : World} {row : Option Nat} {val0 : Nat → Nat → Value} (h : Aside wA w val0) (hs : wA.heap.size ≤ w.heap.size) (hr : row = none ∨ row = (val k y).ownBlock) (hg : (w.alloc o).grownBy w1 row)
    (hv : ∀ b, (val k y).ownBlock = some b → (∃ k y, (val0 k y).ownBlock = some b) ∨ wA.heap.size ≤ b) : Aside wA w1 val0 := by
  refine (h.grown (World.grownBy_alloc w o none) hs (by simp)).grown hg (by simp; omega) (fun b hb => ?_)
  rcases hr with r | r
  · rw [r] at hb; cases hb
  · exact hv b (r ▸ hb)
end

theorem node_mid {w0 w1 : World} {val : Nat → Nat → Value} {ty : Nat → TypeId} {xs : Nat → Nat → List Value} {kS kN kA bg : Nat} {d vN m v1 vA : Value} {x1 xA : List Value}
    (S1 : St w0 w1 (upd val kN 0 v1) ty (upd xs kN 0 x1)) (hS1 : upd val kN 0 v1 kS 0 = .slice (some ⟨bg, 0, none⟩) 4 4) (hX1 : upd xs kN 0 x1 kS 0 = [d, vN, val kA 0, m])
    (HN : kN ≠ kS ∧ kA ≠ kS ∧ kN ≠ kA) (tA : ty kA = 44) (eA : vA = val kA 0) (eX : xA = xs kA 0) :
    St w0 (w1.setCell ⟨bg, 1, none⟩ v1) (upd val kN 0 v1) ty (upd (upd xs kN 0 x1) kS 0 [d, v1, val kA 0, m]) ∧ (∀ o, App ((w1.setCell ⟨bg, 1, none⟩ v1).alloc o) w0.heap.size 44 vA xA vA.ownBlock) ∧
      w1.heap.size = (w1.setCell ⟨bg, 1, none⟩ v1).heap.size ∧ upd val kN 0 v1 kS 0 = .slice (some ⟨bg, 0, none⟩) 4 4 := by
  have S2 := S1.set hS1 (i := 1) (by rw [hX1]; simp) v1
  rw [hX1] at S2
  refine ⟨S2, fun o => .inl ⟨?_, rfl⟩, by simp, hS1⟩
  have h := (S2.alloc o).owns kA 0
  rw [upd_other _ _ _ _ (fun e => HN.2.2 e.1.symm), upd_other _ _ _ _ (fun e => HN.2.1 e.1), upd_other _ _ _ _ (fun e => HN.2.2 e.1.symm), ← eA, ← eX, tA] at h
  exact h

theorem node_end {w0 w w1 w2 : World} {val : Nat → Nat → Value} {ty : Nat → TypeId} {xs : Nat → Nat → List Value} {kS kN kA bg g2 cap2 : Nat} {d vN m v1 vA : Value} {x1 xA : List Value} {o : Obj}
    (HN : kN ≠ kS ∧ kA ≠ kS ∧ kN ≠ kA) (tA : ty kA = 44) (eA : vA = val kA 0) (_eX : xA = xs kA 0) (_hX : xs kS 0 = [d, vN, val kA 0, m])
    (P1 : St w0 (w1.setCell ⟨bg, 1, none⟩ v1) (upd val kN 0 v1) ty (upd (upd xs kN 0 x1) kS 0 [d, v1, val kA 0, m]) ∧ (∀ o, App ((w1.setCell ⟨bg, 1, none⟩ v1).alloc o) w0.heap.size 44 vA xA vA.ownBlock) ∧
      w1.heap.size = (w1.setCell ⟨bg, 1, none⟩ v1).heap.size ∧ upd val kN 0 v1 kS 0 = .slice (some ⟨bg, 0, none⟩) 4 4)
    (A1 : Aside w w1 val) (hsz : w.heap.size ≤ w1.heap.size)
    (ho2 : w2.ownsRow w0.heap.size 44 1 (.slice (some ⟨g2, 0, none⟩) (xA.length + 1) cap2) (xA.length + 1) (xA ++ [.slice none 0 0])) (hg2 : ((w1.setCell ⟨bg, 1, none⟩ v1).alloc o).grownBy w2 vA.ownBlock)
    (hb2 : vA.ownBlock = some g2 ∨ ((w1.setCell ⟨bg, 1, none⟩ v1).alloc o).heap.size ≤ g2) :
    (∃ val' xs', St w0 (w2.setCell ⟨bg, 2, none⟩ (.slice (some ⟨g2, 0, none⟩) (xA.length + 1) cap2)) val' ty xs' ∧ xs' kN 0 = x1 ∧ xs' kA 0 = xA ++ [.slice none 0 0] ∧ xs' kS 0 = [d, val' kN 0, val' kA 0, m] ∧ val' kS 0 = .slice (some ⟨bg, 0, none⟩) 4 4 ∧
      (∀ k y, ¬ (k = kN ∧ y = 0) → ¬ (k = kA ∧ y = 0) → val' k y = val k y) ∧ (∀ k y, ¬ (k = kN ∧ y = 0) → ¬ (k = kA ∧ y = 0) → ¬ (k = kS ∧ y = 0) → xs' k y = xs k y)) ∧
    Aside w (w2.setCell ⟨bg, 2, none⟩ (.slice (some ⟨g2, 0, none⟩) (xA.length + 1) cap2)) val ∧ w2.cell? ⟨bg, 1, none⟩ = some v1 ∧ w2.cell? ⟨bg, 2, none⟩ = some vA ∧ w2.frozen? ⟨bg, 1, none⟩ = false ∧ w2.frozen? ⟨bg, 2, none⟩ = false := by
  obtain ⟨S2, _, _, hS⟩ := P1
  have eA' : upd val kN 0 v1 kA 0 = vA := by rw [upd_other _ _ _ _ (fun e => HN.2.2 e.1.symm), eA]
  have S3 := S2.appended (k := kA) (y := 0) (ys := xA) (u := .slice none 0 0) (.inr (by rw [eA'])) (by rw [tA]; exact ho2) hg2 hb2
  have hS3 : upd (upd val kN 0 v1) kA 0 (.slice (some ⟨g2, 0, none⟩) (xA.length + 1) cap2) kS 0 = .slice (some ⟨bg, 0, none⟩) 4 4 := by rw [upd_other _ _ _ _ (fun e => HN.2.1 e.1.symm)]; exact hS
  have hX3 : upd (upd (upd xs kN 0 x1) kS 0 [d, v1, val kA 0, m]) kA 0 (xA ++ [.slice none 0 0]) kS 0 = [d, v1, val kA 0, m] := by rw [upd_other _ _ _ _ (fun e => HN.2.1 e.1.symm), upd_same]
  have S4 := S3.set hS3 (i := 2) (by rw [hX3]; simp) (.slice (some ⟨g2, 0, none⟩) (xA.length + 1) cap2)
  rw [hX3] at S4
  have hbg : ∃ k y, (val k y).ownBlock = some bg := ⟨kS, 0, by rw [upd_other _ _ _ _ (fun e => HN.1 e.1.symm)] at hS; rw [hS]; rfl⟩
  have hz1 : w1.heap.size = (w1.setCell ⟨bg, 1, none⟩ v1).heap.size := by simp
  have hz2 := hg2.size
  have hz3 : (w1.setCell ⟨bg, 1, none⟩ v1).heap.size ≤ ((w1.setCell ⟨bg, 1, none⟩ v1).alloc o).heap.size := by simp
  have B1 := A1.grown (grown_setCell w1 ⟨bg, 1, none⟩ v1) hsz (fun b hb => .inl (by simp at hb; subst hb; exact hbg))
  have B2 := B1.grown (World.grownBy_alloc _ o none) (by omega) (by simp)
  have B3 := B2.grown hg2 (by omega) (fun b hb => .inl ⟨kA, 0, by rw [← eA]; exact hb⟩)
  have B4 := B3.grown (grown_setCell w2 ⟨bg, 2, none⟩ (.slice (some ⟨g2, 0, none⟩) (xA.length + 1) cap2)) (by omega) (fun b hb => .inl (by simp at hb; subst hb; exact hbg))
  refine ⟨⟨_, _, S4, ?_, ?_, ?_, hS3, ?_, ?_⟩, B4, S3.cell (i := 1) hS3 (by rw [hX3]; rfl), S3.cell (i := 2) hS3 (by rw [hX3, eA]; rfl), S3.frozen 1 hS3, S3.frozen 2 hS3⟩
  · rw [upd_other _ _ _ _ (fun e => HN.1 e.1), upd_other _ _ _ _ (fun e => HN.2.2 e.1), upd_other _ _ _ _ (fun e => HN.1 e.1), upd_same]
  · rw [upd_other _ _ _ _ (fun e => HN.2.1 e.1), upd_same]
  · rw [upd_same, upd_same, upd_other _ _ _ _ (fun e => HN.2.2 e.1), upd_same]; rfl
  · intro k y h1 h2; rw [upd_other _ _ _ _ h2, upd_other _ _ _ _ h1]
  · intro k y h1 h2 h3; rw [upd_other _ _ _ _ h3, upd_other _ _ _ _ h2, upd_other _ _ _ _ h3, upd_other _ _ _ _ h1]

set_option maxRecDepth 100000 in
set_option maxHeartbeats 1600000 in
theorem node_st {w0 w : World} {val : Nat → Nat → Value} {ty : Nat → TypeId} {xs : Nat → Nat → List Value} (S : St w0 w val ty xs) (kS kN kA bg : Nat) (d vN m : Value) (xN : List Value) (rowN : Option Nat) (nm : ByteArray)
    (hS : val kS 0 = .slice (some ⟨bg, 0, none⟩) 4 4) (hxS : xs kS 0 = [d, vN, val kA 0, m])
    (aN : App w w0.heap.size 9 vN xN rowN) (rN : rowN = none ∨ rowN = (val kN 0).ownBlock) (tN : ty kN = 9) (tA : ty kA = 44)
    (n1 : kN ≠ kS) (n2 : kA ≠ kS) (n3 : kN ≠ kA) (lN : xN.length ≤ 4096) (lA : (xs kA 0).length ≤ 4096) :
    Calls Yba.prog 8 #[.pointer (some ⟨bg, 0, none⟩), .string nm] w fun e w' => e = .returned (.int .i64 xN.length) ∧ ∃ val' xs', St w0 w' val' ty xs' ∧ Aside w w' val ∧
      xs' kN 0 = xN ++ [.string nm] ∧ xs' kA 0 = xs kA 0 ++ [.slice none 0 0] ∧ xs' kS 0 = [d, val' kN 0, val' kA 0, m] ∧ val' kS 0 = .slice (some ⟨bg, 0, none⟩) 4 4 ∧
      (∀ k y, ¬ (k = kN ∧ y = 0) → ¬ (k = kA ∧ y = 0) → val' k y = val k y) ∧ (∀ k y, ¬ (k = kN ∧ y = 0) → ¬ (k = kA ∧ y = 0) → ¬ (k = kS ∧ y = 0) → xs' k y = xs k y) := by
  obtain ⟨i9, h91, h92, h93, h94⟩ := info_parts info9
  obtain ⟨i44, h41, h42, h43, h44⟩ := info_parts info44
  have c1 : w.cell? ⟨bg, 1, none⟩ = some vN := S.cell hS (by rw [hxS]; rfl)
  have lbg := (S.len hS).2.1
  have hsz := S.bel.size
  have HS := hide S
  have HaN := hide aN
  have HhS := hide hS
  have HxS := hide hxS
  have HrN := hide rN
  have HtN := hide tN
  have HtA := hide tA
  have HN := hide (And.intro n1 (And.intro n2 n3))
  obtain ⟨vA, eA⟩ : ∃ v, v = val kA 0 := ⟨_, rfl⟩
  obtain ⟨xA, exA⟩ : ∃ l, l = xs kA 0 := ⟨_, rfl⟩
  have lA' : xA.length ≤ 4096 := by rw [exA]; exact lA
  have EA := hide eA
  have EX := hide exA
  clear S aN hS hxS rN tN tA n1 n2 n3 eA exA lA
  go_enter Yba.func8, Yba.ntmps8
  go_wp2_with (first
    | (at_builtin; refine wpList_append_app rfl (.tmp 9) (.tmp 11) 22 rfl w0.heap.size 9 i9 _ 16 Yba.underlying22 h91 h92 h93 h94 rfl vN xN rowN rfl ((unhide HaN).kept (World.grownBy_alloc w _ none)) ⟨w.heap.size, 0, none⟩ (.string nm) rfl (by simp [go_sem]) rfl (by simp only [maxLen]; omega) (by omega) (by simp; omega) ?_; intro g1 cap1 w1 ho1 hg1 hb1; have S1 := hide ((unhide HS).appended (k := kN) (y := 0) (unhide HrN) (by rw [unhide HtN]; exact ho1) hg1 hb1); have A1 := hide (Aside.appended (val := val) (k := kN) (y := 0) (Aside.refl w val) (Nat.le_refl _) (unhide HrN) hg1 (fun b hb => .inl ⟨kN, 0, hb⟩)); have hS1 := hide ((upd_other val kN 0 (.slice (some ⟨g1, 0, none⟩) (xN.length + 1) cap1) (k' := kS) (y' := 0) (fun e => (unhide HN).1 e.1.symm)).trans (unhide HhS)); have hX1 := hide ((upd_other xs kN 0 (xN ++ [.string nm]) (k' := kS) (y' := 0) (fun e => (unhide HN).1 e.1.symm)).trans (unhide HxS)); have q1 := (unhide S1).cell (i := 1) (u := vN) (unhide hS1) (by rw [unhide hX1]; rfl); have q2 := (unhide S1).cell (i := 2) (u := vA) (unhide hS1) (by rw [unhide hX1, unhide EA]; rfl); have q3 := (unhide S1).frozen 1 (unhide hS1); have q4 := (unhide S1).frozen 2 (unhide hS1); have P1 := hide (node_mid (unhide S1) (unhide hS1) (unhide hX1) (unhide HN) (unhide HtA) (unhide EA) (unhide EX)); have hz1 : w.heap.size ≤ w1.heap.size := Nat.le_trans (by simp) hg1.size; clear ho1 hg1 hb1)
    | (at_builtin; refine wpList_append_app rfl (.tmp 19) (.tmp 20) 25 rfl w0.heap.size 44 i44 _ 24 Yba.underlying25 h41 h42 h43 h44 rfl vA xA vA.ownBlock rfl ((unhide P1).2.1 _) ⟨w1.heap.size, 0, none⟩ (.slice none 0 0) rfl (by simp [go_sem]) rfl (by simp only [maxLen]; omega) (by omega) (by have := (unhide S1).bel.size; simp; omega) ?_; intro g2 cap2 w2 ho2 hg2 hb2; have R := node_end (unhide HN) (unhide HtA) (unhide EA) (unhide EX) (unhide HxS) (unhide P1) (unhide A1) hz1 ho2 hg2 hb2; have q5 := R.2.2.1; have q6 := R.2.2.2.1; have q7 := R.2.2.2.2.1; have q8 := R.2.2.2.2.2; have HR := hide (And.intro R.1 R.2.1); clear R ho2 hg2 hb2 q1 q2 q3 q4))
  go_ret
  obtain ⟨⟨val', xs', r1, r2, r3, r4, r5, r6, r7⟩, rB⟩ := unhide HR
  exact ⟨by simp, val', xs', r1, rB, r2, by rw [← unhide EX]; exact r3, r4, r5, r6, r7⟩
end Go.Proofs.Ybulkaam
