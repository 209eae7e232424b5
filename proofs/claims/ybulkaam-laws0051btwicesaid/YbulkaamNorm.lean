import Derived.Conc.LoneCalls
import Derived.WalkKit
namespace Go.Proofs.Ybulkaam
open Go.Conc

/-- Code.wp in a frame that is no early one: there a receive can be met. -/
def wpN (P : Program) (c : Code) (Q : Exit → Act → World → Prop) (a : Act) (w : World) : Prop :=
  ∀ (b : Frame) (_ : b.kind ≠ .early) (k : List Item) (cs : List Frame),
    ∃ e a' w', Q e a' w' ∧ Arrives P (lone (b.at a (.code c :: k)) cs w) b k cs e a' w'

section
variable {P : Program} {Q : Exit → Act → World → Prop} {a : Act} {w : World}

theorem wpN_of_wp {c : Code} (h : c.wp P Q a w) : wpN P c Q a w := fun b _ k cs => h b k cs

theorem wpN_seqN {x y : Code} (h : wpN P x (Exit.then (wpN P y Q) Q) a w) : wpN P (Code.seq x y) Q a w := by
  intro b hb k cs
  obtain ⟨e, a₁, w₁, hq, harr⟩ := h b hb (.code y :: k) cs
  cases e with
  | normal =>
    obtain ⟨e₂, a₂, w₂, hq₂, harr₂⟩ := hq b hb k cs
    exact ⟨e₂, a₂, w₂, hq₂, .of_steps (.head step_seq harr) harr₂⟩
  | exit id => exact ⟨_, a₁, w₁, hq, .of_steps (.one step_seq) (.pass (x := .code y) rfl (fun _ _ => .inl (by simp)) harr)⟩
  | goto l => exact ⟨_, a₁, w₁, hq, .of_steps (.one step_seq) (.pass (x := .code y) rfl (fun _ _ => .inl (by simp)) harr)⟩
  | ret => exact ⟨_, a₁, w₁, hq, .of_steps (.one step_seq) (.pass (x := .code y) rfl (fun _ _ => .inl (by simp)) harr)⟩
  | panic ch => exact ⟨_, a₁, w₁, hq, .of_steps (.one step_seq) (.pass (x := .code y) rfl (fun _ _ => .inl (by simp)) harr)⟩
  | outgrown => exact ⟨_, a₁, w₁, hq, .of_steps (.one step_seq) (.pass (x := .code y) rfl (fun _ _ => .inl (by simp)) harr)⟩

theorem wpN_seq {x y : Code} (h : ∀ K : Act → World → Prop, (∀ a w, wpN P y Q a w → K a w) → x.wp P (Exit.then K Q) a w) : wpN P (Code.seq x y) Q a w :=
  wpN_seqN (wpN_of_wp (h _ fun _ _ h => h))

theorem wpN_cond_true {c : Operand} {x y : Code} (hc : a.eval c = .bool true) (h : wpN P x Q a w) : wpN P (Code.cond c x y) Q a w :=
  fun b hb k cs => let ⟨e, a', w', q, r⟩ := h b hb k cs; ⟨e, a', w', q, .of_steps (.one (step_cond hc)) r⟩
theorem wpN_cond_false {c : Operand} {x y : Code} (hc : a.eval c = .bool false) (h : wpN P y Q a w) : wpN P (Code.cond c x y) Q a w :=
  fun b hb k cs => let ⟨e, a', w', q, r⟩ := h b hb k cs; ⟨e, a', w', q, .of_steps (.one (step_cond hc)) r⟩

theorem calls_of_wpN {f : FuncId} {fn : Func} {c : Code} {args : Array Value} {R : Ending → World → Prop}
    (hf : P.funcs[f]? = some fn) (hb : fn.body = some c)
    (h : wpN P c (bodyPost P fn R) { tmps := args ++ Array.replicate (fn.ntmps - args.size) undef, defers := [] } w) :
    Calls P f args w R := by
  intro cs
  let b : Frame := { (default : Frame) with fn := f, kind := .normal }
  have henter : Frame.enter P f args .normal =
      b.at { tmps := args ++ Array.replicate (fn.ntmps - args.size) undef, defers := [] } [.code c] := by
    simp [Frame.enter, Frame.at, hf, hb, b]
  obtain ⟨e, a', w', hq, harr⟩ := h b (by simp [b]) [] cs
  rw [← henter] at harr
  cases e with
  | normal =>
    obtain ⟨hd, v, hr, hR⟩ := hq
    exact ⟨.returned v, w', _, hR, Steps.trans harr (.one step_end), rfl, rfl, hd, rfl, fn, hf, hr⟩
  | ret =>
    obtain ⟨hd, v, hr, hR⟩ := hq
    obtain ⟨todo, hs⟩ := harr
    exact ⟨.returned v, w', _, hR, hs, rfl, rfl, hd, rfl, fn, hf, hr⟩
  | panic chain =>
    obtain ⟨hd, hR⟩ := hq
    obtain ⟨todo, hs⟩ := harr
    exact ⟨.panicked chain, w', _, hR, hs, rfl, rfl, hd, fn, hf⟩
  | exit id => exact hq.elim
  | goto l => exact hq.elim
  | outgrown => exact ⟨.outgrown, w', b, hq, harr.resolve_left (by simp [b]), rfl, trivial⟩

/-- One operation that yields a value. -/
theorem step_op_value {b : Frame} {k : List Item} {cs : List Frame} {ops : Array Oper} {i : Nat} {rest : List Nat} {o : Oper} {v : Value} {w' : World}
    (ho : ops[i]? = some o) (hw : Region.wanted o (yielded ops a.tmps) = true) (hr : (execOp a.eval o).run P w = .ok (.value v) w') :
    step P (lone (b.at a (.inRegion ops (i :: rest) :: k)) cs w) = .next (lone (b.at (a.put o.dst v) (.inRegion ops rest :: k)) cs w') := by
  have hg := stepG_op (P := P) (b := b) (k := k) (cs := cs) (w := w) (rest := rest) ho hw
  have hfin : ∀ v, (b.at a (.inRegion ops (i :: rest) :: k)).finish v = b.at (a.put o.dst v) (.inRegion ops rest :: k) := by
    intro v; rw [Frame.finish_at, ho]; rfl
  refine step_lone_go ?_
  rw [hg, ← hfin]; simp [stepG.apply, hr]

/-- A receive from a closed channel whose buffer is empty: the zero value, at once. -/
theorem step_op_recv {b : Frame} (hb : b.kind ≠ .early) {k : List Item} {cs : List Frame} {ops : Array Oper} {i : Nat} {rest : List Nat} {o : Oper} {z : Value} {c cap s r : Nat} {tm : Bool}
    (ho : ops[i]? = some o) (hw : Region.wanted o (yielded ops a.tmps) = true) (hr : (execOp a.eval o).run P w = .ok (.comm #[rcase c z] true (.recv false)) w)
    (hc : w.heap[c]? = some (.chan cap #[] true s r tm)) :
    step P (lone (b.at a (.inRegion ops (i :: rest) :: k)) cs w) = .next (lone (b.at (a.put o.dst z) (.inRegion ops rest :: k)) cs w) := by
  have h := step_lone_recv_shut (P := P) false (stepG_comm (P := P) (main := true) (b := b) (k := k) (cs := cs) (rest := rest) ho hw hb hr) hc
  rw [Frame.finish_at, ho] at h
  simpa [got, lone_eq_solo] using h

/-- 'move; nilCheck; fieldAddr; load; recv': a region of five operations whose last receives. -/
theorem wpN_recv5 {id : Nat} {o0 o1 o2 o3 o4 : Oper} {v0 v1 v2 z : Value} {c cap s r : Nat} {tm : Bool}
    (g0 : o0.guard = none) (g1 : o1.guard = none) (g2 : o2.guard = none) (g3 : o3.guard = none) (g4 : o4.guard = none)
    (h0 : (execOp a.eval o0).run P w = .ok (.value v0) w)
    (h1 : (execOp (a.put o0.dst v0).eval o1).run P w = .ok (.value v1) w)
    (h2 : (execOp ((a.put o0.dst v0).put o1.dst v1).eval o2).run P w = .ok (.value v2) w)
    (h3 : (execOp (((a.put o0.dst v0).put o1.dst v1).put o2.dst v2).eval o3).run P w = .ok (.value (.chan (some c))) w)
    (h4 : (execOp ((((a.put o0.dst v0).put o1.dst v1).put o2.dst v2).put o3.dst (.chan (some c))).eval o4).run P w = .ok (.comm #[rcase c z] true (.recv false)) w)
    (hc : w.heap[c]? = some (.chan cap #[] true s r tm))
    (hQ : Q .normal (((((a.put o0.dst v0).put o1.dst v1).put o2.dst v2).put o3.dst (.chan (some c))).put o4.dst z) w) :
    wpN P (Code.region id #[o0, o1, o2, o3, o4] false) Q a w := by
  intro b hb k cs
  refine ⟨.normal, _, w, hQ, ?_⟩
  show Steps _ _ _
  refine .head step_region ?_
  refine .head (step_op_value (i := 0) (rest := [1, 2, 3, 4]) rfl (by simp [Region.wanted, g0]) h0) ?_
  refine .head (step_op_value (i := 1) (rest := [2, 3, 4]) rfl (by simp [Region.wanted, g1]) h1) ?_
  refine .head (step_op_value (i := 2) (rest := [3, 4]) rfl (by simp [Region.wanted, g2]) h2) ?_
  refine .head (step_op_value (i := 3) (rest := [4]) rfl (by simp [Region.wanted, g3]) h3) ?_
  refine .head (step_op_recv hb (i := 4) (rest := []) rfl (by simp [Region.wanted, g4]) h4 hc) ?_
  exact .one step_region_end
end
end Go.Proofs.Ybulkaam
