import Derived.Test.YbulkacqMap
namespace Go.Proofs.Ybulkacq
open Go.RowKit Go.ChangeMaps

theorem size_setBlock (w : World) (b : Nat) (o : Obj) : (setBlock w b o).heap.size = w.heap.size := by simp [setBlock]
theorem heap_setBlock {w : World} {b : Nat} (h : b < w.heap.size) (o : Obj) : (setBlock w b o).heap[b]? = some o := by simp [setBlock, h]
theorem heap_setBlock_other (w : World) {b b' : Nat} (h : b ≠ b') (o : Obj) : (setBlock w b o).heap[b']? = w.heap[b']? := by simp [setBlock, h]
theorem grown_setBlock (w : World) (b : Nat) (o : Obj) : w.grownBy (setBlock w b o) (some b) :=
  ⟨rfl, rfl, rfl, Nat.le_of_eq (size_setBlock w b o).symm, fun k _ hk => heap_setBlock_other w (fun e => hk (by rw [e])) o⟩
theorem wp_entry98 {w : World} {o : Oper} {a : Act} {K : Act → World → Prop} {Q : Exit → Act → World → Prop} (m k : Operand) (ho : o.op = .mapEntry 69 m k) (b : Nat) (ks : List (Int × Int)) (val : Nat → Value) (p : Int × Int)
    (hm : a.eval m = .map (some b)) (hk : a.eval k = key p) (hb : w.heap[b]? = some (.map (ents ks val) ks.length)) (hz : val ks.length = .slice none 0 0)
    (h : ∀ j w1, Hid (j = (ins p ks).idxOf p) → Hid (w1 = setBlock w b (.map (ents (ins p ks) val) (ins p ks).length)) → K (a.put o.dst (.tuple #[val j, .int .i64 j])) w1) : o.wp Yba.prog a w K Q := by
  have hr := entry98 hb hz p
  unfold Oper.wp execOp
  simp only [ho, hm, hk, Sem.run_bind, Sem.run_pure, Result.andThen_ok, hr]
  exact h _ _ rfl rfl
theorem step_entry98 {w : World} {ops : Array Oper} {o : Oper} {a : Act} {K : Act → World → Prop} {Q : Exit → Act → World → Prop} {E : Prop} (hgd : o.guard = none) (m k : Operand) (ho : o.op = .mapEntry 69 m k) (b : Nat) (ks : List (Int × Int)) (val : Nat → Value) (p : Int × Int)
    (hm : a.eval m = .map (some b)) (hk : a.eval k = key p) (hb : w.heap[b]? = some (.map (ents ks val) ks.length)) (hz : val ks.length = .slice none 0 0)
    (h : ∀ j w1, Hid (j = (ins p ks).idxOf p) → Hid (w1 = setBlock w b (.map (ents (ins p ks) val) (ins p ks).length)) → K (a.put o.dst (.tuple #[val j, .int .i64 j])) w1) :
    if Region.wanted o (yielded ops a.tmps) = true then Oper.wp Yba.prog o a w K Q else E := by
  have hw : Region.wanted o (yielded ops a.tmps) = true := by simp [Region.wanted, hgd]
  rw [if_pos hw]
  exact wp_entry98 m k ho b ks val p hm hk hb hz h
theorem wp_store98 {w : World} {o : Oper} {a : Act} {K : Act → World → Prop} {Q : Exit → Act → World → Prop} (m s x : Operand) (ho : o.op = .entryStore 69 m s x) (b : Nat) (ks : List (Int × Int)) (val : Nat → Value) (j : Nat) (v : Value)
    (hm : a.eval m = .map (some b)) (hs : a.eval s = .int .i64 j) (hx : a.eval x = v) (hb : w.heap[b]? = some (.map (ents ks val) ks.length)) (hj : j < ks.length)
    (h : ∀ w1, Hid (w1 = setBlock w b (.map (ents ks (put1 val j v)) ks.length)) → K (a.put o.dst undef) w1) : o.wp Yba.prog a w K Q := by
  have hr := store98 hb hj v
  unfold Oper.wp execOp
  have hg : goInt (j : Nat) = .int .i64 j := rfl
  rw [hg] at hr
  simp only [ho, hm, hs, hx, Sem.run_bind, Sem.run_pure, Result.andThen_ok, hr]
  exact h _ rfl
theorem step_store98 {w : World} {ops : Array Oper} {o : Oper} {a : Act} {K : Act → World → Prop} {Q : Exit → Act → World → Prop} {E : Prop} (hgd : o.guard = none) (m s x : Operand) (ho : o.op = .entryStore 69 m s x) (b : Nat) (ks : List (Int × Int)) (val : Nat → Value) (j : Nat) (v : Value)
    (hm : a.eval m = .map (some b)) (hs : a.eval s = .int .i64 j) (hx : a.eval x = v) (hb : w.heap[b]? = some (.map (ents ks val) ks.length)) (hj : j < ks.length)
    (h : ∀ w1, Hid (w1 = setBlock w b (.map (ents ks (put1 val j v)) ks.length)) → K (a.put o.dst undef) w1) :
    if Region.wanted o (yielded ops a.tmps) = true then Oper.wp Yba.prog o a w K Q else E := by
  have hw : Region.wanted o (yielded ops a.tmps) = true := by simp [Region.wanted, hgd]
  rw [if_pos hw]
  exact wp_store98 m s x ho b ks val j v hm hs hx hb hj h

/-- the map at block L, its keys ks, the slice of the j-th key and its numbers; since wc nothing else that was there has turned -/
structure Gr (wc w : World) (L : Nat) (ks : List (Int × Int)) (val : Nat → Value) (xs : Nat → List Int) : Prop where
  owns : ∀ j, w.ownsRow wc.heap.size 3 1 (val j) (xs j).length ((xs j).map (Value.int .i64))
  inj : ∀ j j' b, (val j).ownBlock = some b → (val j').ownBlock = some b → j = j'
  hm : w.heap[L]? = some (.map (ents ks val) ks.length)
  nil : ∀ j, ks.length ≤ j → val j = .slice none 0 0
  g : wc.grownBy w (some L)
  lt : L < wc.heap.size

section
variable {wc w : World} {L : Nat} {ks : List (Int × Int)} {val : Nat → Value} {xs : Nat → List Int}
theorem Gr.out (h : Gr wc w L ks val xs) {j b : Nat} (hb : (val j).ownBlock = some b) : wc.heap.size ≤ b := ((h.owns j).lt b hb).1
theorem Gr.ne (h : Gr wc w L ks val xs) (j : Nat) : (val j).ownBlock ≠ some L := fun e => by have := h.out e; have := h.lt; omega
theorem Gr.ins (h : Gr wc w L ks val xs) (p : Int × Int) {w1 : World} (e : w1 = setBlock w L (.map (ents (ins p ks) val) (ins p ks).length)) : Gr wc w1 L (ins p ks) val xs := by
  subst e
  have hlt : L < w.heap.size := Nat.lt_of_lt_of_le h.lt h.g.size
  refine ⟨fun j => (h.owns j).kept (grown_setBlock w L _) ?_, h.inj, heap_setBlock hlt _, fun j hj => h.nil j ?_, ?_, h.lt⟩
  · have := h.ne j
    cases hv : (val j).ownBlock with
    | none => exact .inl rfl
    | some c => exact .inr (fun e => this (hv.trans e))
  · have : ks.length ≤ (Ybulkacq.ins p ks).length := by unfold Ybulkacq.ins; split <;> simp
    omega
  · have hg := grown_setBlock w L (.map (ents (Ybulkacq.ins p ks) val) (Ybulkacq.ins p ks).length)
    exact h.g.trans hg
theorem Gr.kept (h : Gr wc w L ks val xs) {w' : World} (g : w.grownBy w' none) : Gr wc w' L ks val xs := by
  have hlt : L < w.heap.size := Nat.lt_of_lt_of_le h.lt h.g.size
  refine ⟨fun j => (h.owns j).kept g (by cases (val j).ownBlock <;> simp), h.inj, (g.block L hlt (by simp)).trans h.hm, h.nil, h.g.trans ?_, h.lt⟩
  exact g.but _
theorem Gr.app (h : Gr wc w L ks val xs) (j : Nat) : App w wc.heap.size 3 (val j) ((xs j).map (Value.int .i64)) (val j).ownBlock := .inl ⟨by have := h.owns j; simpa using this, rfl⟩
/-- the append to the j-th key's slice -/
theorem Gr.put (h : Gr wc w L ks val xs) {j g cap : Nat} {x : Int} {w3 : World} (hj : j < ks.length) (ho : w3.ownsRow wc.heap.size 3 1 (.slice (some ⟨g, 0, none⟩) (((xs j).map (Value.int .i64)).length + 1) cap) (((xs j).map (Value.int .i64)).length + 1) ((xs j).map (Value.int .i64) ++ [.int .i64 x]))
    (hg : w.grownBy w3 (val j).ownBlock) (hb : (val j).ownBlock = some g ∨ w.heap.size ≤ g) :
    w3.heap[L]? = some (.map (ents ks val) ks.length) ∧
    ∀ w4, w4 = setBlock w3 L (.map (ents ks (put1 val j (.slice (some ⟨g, 0, none⟩) (((xs j).map (Value.int .i64)).length + 1) cap))) ks.length) →
      Gr wc w4 L ks (put1 val j (.slice (some ⟨g, 0, none⟩) (((xs j).map (Value.int .i64)).length + 1) cap)) (fun i => if i = j then xs j ++ [x] else xs i) := by
  have hlt : L < w.heap.size := Nat.lt_of_lt_of_le h.lt h.g.size
  have hL3 := (hg.block L hlt (fun e => h.ne j e.symm)).trans h.hm
  refine ⟨hL3, ?_⟩
  rintro w4 rfl
  have hlt3 : L < w3.heap.size := Nat.lt_of_lt_of_le hlt hg.size
  have hwg : wc.heap.size ≤ g := by
    rcases hb with e | e
    · exact h.out e
    · exact Nat.le_trans h.g.size e
  have hgL : g ≠ L := fun e => by have := h.lt; omega
  have hG4 := grown_setBlock w3 L (.map (ents ks (put1 val j (.slice (some ⟨g, 0, none⟩) (((xs j).map (Value.int .i64)).length + 1) cap))) ks.length)
  refine ⟨fun i => ?_, fun i i' b h1 h2 => ?_, heap_setBlock hlt3 _, fun i hi => ?_, ?_, h.lt⟩
  · by_cases e : i = j
    · subst e
      have := ho.kept hG4 (.inr (by simp [Value.ownBlock, hgL]))
      simpa [put1] using this
    · have h1 := (h.owns i).kept hg (by
        cases hv : (val i).ownBlock with
        | none => exact .inl rfl
        | some c => exact .inr (fun e2 => e (h.inj i j c hv e2.symm)))
      have h2 := h1.kept hG4 (by
        have := h.ne i
        cases hv : (val i).ownBlock with
        | none => exact .inl rfl
        | some c => exact .inr (fun e2 => this (hv.trans e2)))
      simpa [put1, e] using h2
  · have key : ∀ i, i ≠ j → (val i).ownBlock = some b → (Value.slice (some ⟨g, 0, none⟩) (((xs j).map (Value.int .i64)).length + 1) cap).ownBlock = some b → False := fun i hi h1 h2 => by
      simp [Value.ownBlock] at h2
      subst h2
      rcases hb with e | e
      · exact hi (h.inj i j _ h1 e)
      · have := ((h.owns i).lt _ h1).2; omega
    by_cases e1 : i = j
    · by_cases e2 : i' = j
      · rw [e1, e2]
      · simp only [put1, e1, e2, if_true, if_false] at h1 h2
        exact (key i' e2 h2 h1).elim
    · by_cases e2 : i' = j
      · simp only [put1, e1, e2, if_true, if_false] at h1 h2
        exact (key i e1 h1 h2).elim
      · simp only [put1, e1, e2, if_false] at h1 h2
        exact h.inj i i' b h1 h2
  · have : ¬ i = j := by omega
    simp only [put1, this, if_false]
    exact h.nil i hi
  · refine World.grownBy.trans ?_ hG4
    exact ⟨by rw [hg.1, h.g.1], by rw [hg.2, h.g.2], by rw [hg.3, h.g.3], Nat.le_trans h.g.size hg.size, fun b hb2 hbL => by
      rw [hg.block b (Nat.lt_of_lt_of_le hb2 h.g.size) (fun e => by have := h.out e.symm; omega)]
      exact h.g.block b hb2 hbL⟩
end
end Go.Proofs.Ybulkacq
