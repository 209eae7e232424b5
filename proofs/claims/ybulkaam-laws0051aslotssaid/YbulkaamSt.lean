import Derived.Test.YbulkaamRows
import Derived.WalkKit
import Derived.WalkSpells
import Derived.WalkLawsBesides
import Derived.WalkSmall
import Derived.ArgAppend
import Derived.Deep.WholeRow
import Derived.Deep.AppendLies
import Derived.Deep.QuietTactic
import Derived.BigQuiet
import Derived.Deep.DeepCutAuto
import Derived.Deep.LoopGhost
import Derived.Deep.RegionLaw
namespace Go.Proofs.Ybulkaam
open Go.RowKit

theorem hide {p : Prop} (h : p) : Hid p := h
theorem unhide {p : Prop} (h : Hid p) : p := h

theorem add_zero_addr (g j : Nat) : (⟨g, 0, none⟩ : Addr).add j = ⟨g, j, none⟩ := by unfold Addr.add; split <;> simp_all
theorem add_off (b off j : Nat) : (⟨b, off, none⟩ : Addr).add j = ⟨b, off + j, none⟩ := by unfold Addr.add; split <;> simp_all

/-! ### the state: rows that the call owns, in blocks apart from one another -/

def upd {α : Type} (f : Nat → Nat → α) (k y : Nat) (v : α) : Nat → Nat → α := fun k' y' => if k' = k ∧ y' = y then v else f k' y'
theorem upd_same {α : Type} (f : Nat → Nat → α) (k y : Nat) (v : α) : upd f k y v k y = v := by simp [upd]
theorem upd_other {α : Type} (f : Nat → Nat → α) (k y : Nat) (v : α) {k' y' : Nat} (h : ¬ (k' = k ∧ y' = y)) : upd f k y v k' y' = f k' y' := by simp [upd, h]

/-- Row (k, y) has the slice value val k y and the cells xs k y; ty k: the element type of the rows of kind k (a struct counts as a row, too). -/
structure St (w0 w : World) (val : Nat → Nat → Value) (ty : Nat → TypeId) (xs : Nat → Nat → List Value) : Prop where
  owns : ∀ k y, w.ownsRow w0.heap.size (ty k) 1 (val k y) (xs k y).length (xs k y)
  inj : ∀ k y k' y' b, (val k y).ownBlock = some b → (val k' y').ownBlock = some b → k = k' ∧ y = y'
  bel : Below w0.heap.size w0 w

section
variable {w0 w w' : World} {val : Nat → Nat → Value} {ty : Nat → TypeId} {xs : Nat → Nat → List Value}

theorem St.kept (h : St w0 w val ty xs) (g : w.grownBy w' none) : St w0 w' val ty xs :=
  ⟨fun k y => (h.owns k y).kept g (by cases hv : (val k y).ownBlock <;> simp), h.inj, h.bel.grown g h.bel.size (by simp)⟩
theorem St.alloc (h : St w0 w val ty xs) (o : Obj) : St w0 (w.alloc o) val ty xs := h.kept (World.grownBy_alloc w o none)
theorem grown_drew (w : World) : w.grownBy w.drew none := ⟨rfl, rfl, rfl, Nat.le_refl _, fun _ _ _ => rfl⟩
theorem grown_drewN (w : World) (n : Nat) : w.grownBy (w.drewN n) none := ⟨rfl, rfl, rfl, Nat.le_refl _, fun _ _ _ => rfl⟩
theorem St.drew (h : St w0 w val ty xs) : St w0 w.drew val ty xs := h.kept (grown_drew w)
theorem St.drewN (h : St w0 w val ty xs) (n : Nat) : St w0 (w.drewN n) val ty xs := h.kept (grown_drewN w n)

/-- a row has been appended to, or written anew: in its own block, or in a new one -/
theorem St.put (h : St w0 w val ty xs) {k y : Nat} {v' : Value} {ys : List Value} {row : Option Nat} (g : w.grownBy w' row) (hrow : row = none ∨ row = (val k y).ownBlock)
    (ho : w'.ownsRow w0.heap.size (ty k) 1 v' ys.length ys) (hb : ∀ b, v'.ownBlock = some b → (val k y).ownBlock = some b ∨ w.heap.size ≤ b) : St w0 w' (upd val k y v') ty (upd xs k y ys) := by
  have hlt := fun k y => (h.owns k y).lt
  refine ⟨fun k' y' => ?_, fun k1 y1 k2 y2 b h1 h2 => ?_, ?_⟩
  · by_cases e : k' = k ∧ y' = y
    · obtain ⟨rfl, rfl⟩ := e; rw [upd_same, upd_same]; exact ho
    · rw [upd_other _ _ _ _ e, upd_other _ _ _ _ e]
      refine (h.owns k' y').kept g ?_
      cases hv : (val k' y').ownBlock with
      | none => exact .inl rfl
      | some c =>
        refine .inr ?_
        rcases hrow with r | r
        · rw [r]; simp
        · rw [r]; intro e2; exact e (h.inj k' y' k y c hv e2.symm)
  · by_cases e1 : k1 = k ∧ y1 = y
    · by_cases e2 : k2 = k ∧ y2 = y
      · exact ⟨e1.1.trans e2.1.symm, e1.2.trans e2.2.symm⟩
      · obtain ⟨rfl, rfl⟩ := e1
        rw [upd_same] at h1; rw [upd_other _ _ _ _ e2] at h2
        rcases hb b h1 with h3 | h3
        · have := h.inj k2 y2 k1 y1 b h2 h3; exact absurd this e2
        · have := (hlt k2 y2 b h2).2; omega
    · by_cases e2 : k2 = k ∧ y2 = y
      · obtain ⟨rfl, rfl⟩ := e2
        rw [upd_same] at h2; rw [upd_other _ _ _ _ e1] at h1
        rcases hb b h2 with h3 | h3
        · have := h.inj k1 y1 k2 y2 b h1 h3; exact absurd this e1
        · have := (hlt k1 y1 b h1).2; omega
      · rw [upd_other _ _ _ _ e1] at h1; rw [upd_other _ _ _ _ e2] at h2
        exact h.inj k1 y1 k2 y2 b h1 h2
  · refine h.bel.grown g h.bel.size (fun c hc => ?_)
    rcases hrow with r | r
    · rw [r] at hc; cases hc
    · exact ((hlt k y) c (r ▸ hc)).1

theorem grown_setCell (w : World) (a : Addr) (u : Value) : w.grownBy (w.setCell a u) (some a.block) :=
  ⟨rfl, rfl, rfl, by simp, fun k _ hk => Below.heap_setCell w a u k (fun e => hk (by rw [e]))⟩

theorem take_set (l : List Value) (n i : Nat) (u : Value) : (l.set i u).take n = (l.take n).set i u := by
  rw [List.take_set]

/-- an element of a row is written -/
theorem St.set (h : St w0 w val ty xs) {k y g n cap i : Nat} (hv : val k y = .slice (some ⟨g, 0, none⟩) n cap) (hi : i < (xs k y).length) (u : Value) :
    St w0 (w.setCell ⟨g, i, none⟩ u) val ty (upd xs k y ((xs k y).set i u)) := by
  have hself : upd val k y (val k y) = val := by
    funext k' y'; by_cases e : k' = k ∧ y' = y
    · obtain ⟨rfl, rfl⟩ := e; rw [upd_same]
    · rw [upd_other _ _ _ _ e]
  have ho : (w.setCell ⟨g, i, none⟩ u).ownsRow w0.heap.size (ty k) 1 (val k y) ((xs k y).set i u).length ((xs k y).set i u) := by
    rcases (h.owns k y).2 with ⟨h0, h1⟩ | ⟨g', cap', cur, hv', hb, hg, hn, hm, hs, ht⟩
    · omega
    · rw [hv] at hv'
      simp only [Value.slice.injEq, Option.some.injEq, Addr.mk.injEq] at hv'
      obtain ⟨⟨rfl, _⟩, rfl, rfl⟩ := hv'
      refine ⟨by simp, .inr ⟨g, cap, cur.setIfInBounds i u, by rw [hv]; simp, hb, heap_setCell_same w g i cur _ u hg, by simpa using hn, hm, by simpa using hs, ?_⟩⟩
      rw [Array.toList_setIfInBounds, List.length_set, take_set, ht]
  have := h.put (k := k) (y := y) (v' := val k y) (ys := (xs k y).set i u) (grown_setCell w ⟨g, i, none⟩ u) (.inr (by rw [hv]; rfl)) ho (fun b hb => .inl hb)
  rwa [hself] at this

theorem St.cell (h : St w0 w val ty xs) {k y g n cap i : Nat} {u : Value} (hv : val k y = .slice (some ⟨g, 0, none⟩) n cap) (hu : (xs k y)[i]? = some u) : w.cell? ⟨g, i, none⟩ = some u := by
  have := (h.owns k y).cells (g := g) (by rw [hv]; rfl) i u hu
  rwa [add_zero_addr] at this
theorem St.frozen (h : St w0 w val ty xs) {k y g n cap : Nat} (i : Nat) (hv : val k y = .slice (some ⟨g, 0, none⟩) n cap) : w.frozen? ⟨g, i, none⟩ = false := by
  rcases (h.owns k y).2 with ⟨h0, h1⟩ | ⟨g', cap', cur, hv', hb, hg, _⟩
  · rw [hv] at h0; cases h0
  · rw [hv] at hv'
    simp only [Value.slice.injEq, Option.some.injEq, Addr.mk.injEq] at hv'
    obtain ⟨⟨rfl, _⟩, rfl, rfl⟩ := hv'
    exact frozen_of_row w g i cur _ hg
theorem St.len (h : St w0 w val ty xs) {k y g n cap : Nat} (hv : val k y = .slice (some ⟨g, 0, none⟩) n cap) : n = (xs k y).length ∧ g < w.heap.size ∧ w0.heap.size ≤ g := by
  have hl := (h.owns k y).lt g (by rw [hv]; rfl)
  rcases (h.owns k y).2 with ⟨h0, h1⟩ | ⟨g', cap', cur, hv', _⟩
  · rw [hv] at h0; cases h0
  · rw [hv] at hv'
    simp only [Value.slice.injEq] at hv'
    exact ⟨hv'.2.1, hl.2, hl.1⟩
theorem St.form (h : St w0 w val ty xs) {k y : Nat} (hn : 0 < (xs k y).length) : ∃ g cap, val k y = .slice (some ⟨g, 0, none⟩) (xs k y).length cap :=
  let ⟨g, cap, e, _⟩ := (h.owns k y).form hn; ⟨g, cap, e⟩
/-- a row's value: nil, or a slice at the head of its block -/
theorem St.shape (h : St w0 w val ty xs) (k y : Nat) : ∃ a cap, val k y = .slice a (xs k y).length cap := by
  rcases (h.owns k y).2 with ⟨h0, h1⟩ | ⟨g', cap', cur, hv', _⟩
  · exact ⟨none, 0, by rw [h0, h1]⟩
  · exact ⟨_, cap', hv'⟩

/-! ### append of one element to a row that is owned, or to a slice with no room -/
def App (w : World) (base : Nat) (e : TypeId) (v : Value) (xs : List Value) (row : Option Nat) : Prop :=
  (w.ownsRow base e 1 v xs.length xs ∧ row = v.ownBlock) ∨
  (∃ ao, v = .slice ao xs.length xs.length ∧ (ao = none → xs.length = 0) ∧ (∀ b, ao = some b → ∀ j u, xs[j]? = some u → w.cell? (b.add j) = some u) ∧ row = none)

theorem App.kept {base : Nat} {e : TypeId} {v : Value} {ys : List Value} {row : Option Nat} (h : App w base e v ys row) (g : w.grownBy w' none) : App w' base e v ys row := by
  rcases h with ⟨h1, h2⟩ | ⟨ao, h1, h2, h3, h4⟩
  · exact .inl ⟨h1.kept g (by cases hv : v.ownBlock <;> simp), h2⟩
  · exact .inr ⟨ao, h1, h2, fun b hb j u hu => g.cell (h3 b hb j u hu) (by simp), h4⟩

theorem run_append_app {P : Program} (w : World) (t ty : TypeId) (base : Nat) (e : TypeId) (i : TypeInfo) (z : Value) (bytes : Nat) (ht : P.underlying t = some (.slice e)) (hi : P.info? e = some i) (hz : i.zero = some z)
    (hsize : i.size = 1) (hby : i.bytes = bytes) (hzs : z.cells.size = 1)
    (v : Value) (ys : List Value) (row : Option Nat) (hA : App w base e v ys row) (ad : Addr) (x : Value) (hnews : w.cell? ad = some x) (h1 : x.oneCell' = true)
    (h63 : ys.length + 1 ≤ maxLen) (hbytes : (ys.length + 1) * bytes ≤ 140737488355328) (hbase : base ≤ w.heap.size) :
    ∃ g cap w', (Builtin.append_ #[t, t] ty #[v, .slice (some ad) 1 1]).run P w = .ok (.slice (some ⟨g, 0, none⟩) (ys.length + 1) cap) w' ∧
      w'.ownsRow base e 1 (.slice (some ⟨g, 0, none⟩) (ys.length + 1) cap) (ys.length + 1) (ys ++ [x]) ∧ w.grownBy w' row ∧ (row = some g ∨ w.heap.size ≤ g) := by
  have hn : ∀ j u, [x][j]? = some u → w.cell? (ad.add j) = some u := fun j u hu => by
    match j, hu with
    | 0, hu => simp at hu; subst hu; simpa [Addr.add] using hnews
  rcases hA with ⟨ho, rfl⟩ | ⟨ao, rfl, hnone, hc, rfl⟩
  · obtain ⟨g, cap, w', r1, r2, r3, r4, _⟩ := run_append_lies (P := P) w t ty base e i z 1 bytes ht hi hz hsize hby hzs (by omega) v ys.length ys ho ad 1 1 [x] (by simp) hn (by simpa using h1) (by omega) h63 hbytes hbase w.heap.size rfl
    exact ⟨g, cap, w', r1, r2, r3, r4.imp id (fun h => by omega)⟩
  · cases ao with
    | some b =>
      obtain ⟨v', w', hrun, r1, r2⟩ := run_append_arg_grows (P := P) w t ty e i z 1 bytes ht hi hz hsize hby hzs (by omega) b ys.length ys.length ys (by simp) (hc b rfl) ad 1 1 [x] (by simp) hn (by omega) h63 hbytes
      obtain ⟨g, cap, rfl, hg, _⟩ := r1.form (by omega)
      refine ⟨g, cap, w', hrun, ?_, r2, .inr hg⟩
      refine ⟨r1.1, ?_⟩
      rcases r1.2 with h | ⟨g', c', cur, a1, a2, a3⟩
      · exact .inl h
      · exact .inr ⟨g', c', cur, a1, by omega, a3⟩
    | none =>
      have h0 := hnone rfl
      obtain rfl : ys = [] := List.eq_nil_of_length_eq_zero h0
      obtain ⟨g, cap, w', r1, r2, r3, r4, _⟩ := run_append_lies (P := P) w t ty base e i z 1 bytes ht hi hz hsize hby hzs (by omega) (.slice none 0 0) 0 [] (World.ownsRow_nil w _ e 1) ad 1 1 [x] (by simp) hn (by simpa using h1) (by omega) (by simpa using h63) (by simpa using hbytes) hbase w.heap.size rfl
      refine ⟨g, cap, w', by simpa using r1, by simpa using r2, r3, .inr ?_⟩
      rcases r4 with r | r
      · simp [Value.ownBlock] at r
      · omega

theorem wp_append_app {P : Program} {w : World} {o : Oper} {a : Act} {K : Act → World → Prop} {Q : Exit → Act → World → Prop} (s x : Operand) (t : TypeId)
    (ho : o.op = .call { callee := .builtin .append, args := #[s, x], argTypes := #[t, t] })
    (base : Nat) (e : TypeId) (i : TypeInfo) (z : Value) (bytes : Nat) (ht : P.underlying t = some (.slice e)) (hi : P.info? e = some i) (hz : i.zero = some z) (hsize : i.size = 1) (hby : i.bytes = bytes) (hzs : z.cells.size = 1)
    (v : Value) (ys : List Value) (row : Option Nat) (hs : a.eval s = v) (hA : App w base e v ys row) (ad : Addr) (u : Value) (hx : a.eval x = .slice (some ad) 1 1) (hnews : w.cell? ad = some u) (h1 : u.oneCell' = true)
    (h63 : ys.length + 1 ≤ maxLen) (hbytes : (ys.length + 1) * bytes ≤ 140737488355328) (hbase : base ≤ w.heap.size)
    (h : ∀ g cap w', w'.ownsRow base e 1 (.slice (some ⟨g, 0, none⟩) (ys.length + 1) cap) (ys.length + 1) (ys ++ [u]) → w.grownBy w' row → (row = some g ∨ w.heap.size ≤ g) → K (a.put o.dst (.slice (some ⟨g, 0, none⟩) (ys.length + 1) cap)) w') : o.wp P a w K Q := by
  obtain ⟨g, cap, w', hr, h2, h3, h4⟩ := run_append_app (P := P) w t o.type base e i z bytes ht hi hz hsize hby hzs v ys row hA ad u hnews h1 h63 hbytes hbase
  unfold Oper.wp execOp
  simp only [ho, resolve, invoke, builtin, Sem.run_bind, Sem.run_pure, Result.andThen_ok, List.map_toArray, List.map_cons, List.map_nil, hs, hx, hr]
  exact h g cap w' h2 h3 h4
theorem wpList_append_app {P : Program} {w : World} {ops : Array Oper} {rest : List Oper} {o : Oper} {a : Act} {Q : Exit → Act → World → Prop} (hgd : o.guard = none) (s x : Operand) (t : TypeId)
    (ho : o.op = .call { callee := .builtin .append, args := #[s, x], argTypes := #[t, t] })
    (base : Nat) (e : TypeId) (i : TypeInfo) (z : Value) (bytes : Nat) (ht : P.underlying t = some (.slice e)) (hi : P.info? e = some i) (hz : i.zero = some z) (hsize : i.size = 1) (hby : i.bytes = bytes) (hzs : z.cells.size = 1)
    (v : Value) (ys : List Value) (row : Option Nat) (hs : a.eval s = v) (hA : App w base e v ys row) (ad : Addr) (u : Value) (hx : a.eval x = .slice (some ad) 1 1) (hnews : w.cell? ad = some u) (h1 : u.oneCell' = true)
    (h63 : ys.length + 1 ≤ maxLen) (hbytes : (ys.length + 1) * bytes ≤ 140737488355328) (hbase : base ≤ w.heap.size)
    (h : ∀ g cap w', w'.ownsRow base e 1 (.slice (some ⟨g, 0, none⟩) (ys.length + 1) cap) (ys.length + 1) (ys ++ [u]) → w.grownBy w' row → (row = some g ∨ w.heap.size ≤ g) → wpList P ops Q rest (a.put o.dst (.slice (some ⟨g, 0, none⟩) (ys.length + 1) cap)) w') : wpList P ops Q (o :: rest) a w :=
  wpList_plain hgd fun _ hK => wp_append_app s x t ho base e i z bytes ht hi hz hsize hby hzs v ys row hs hA ad u hx hnews h1 h63 hbytes hbase fun g cap w' h2 h3 h4 => hK _ _ (h g cap w' h2 h3 h4)
theorem step_append_app {P : Program} {w : World} {ops : Array Oper} {o : Oper} {a : Act} {K : Act → World → Prop} {Q : Exit → Act → World → Prop} {E : Prop} (hgd : o.guard = none) (s x : Operand) (t : TypeId)
    (ho : o.op = .call { callee := .builtin .append, args := #[s, x], argTypes := #[t, t] })
    (base : Nat) (e : TypeId) (i : TypeInfo) (z : Value) (bytes : Nat) (ht : P.underlying t = some (.slice e)) (hi : P.info? e = some i) (hz : i.zero = some z) (hsize : i.size = 1) (hby : i.bytes = bytes) (hzs : z.cells.size = 1)
    (v : Value) (ys : List Value) (row : Option Nat) (hs : a.eval s = v) (hA : App w base e v ys row) (ad : Addr) (u : Value) (hx : a.eval x = .slice (some ad) 1 1) (hnews : w.cell? ad = some u) (h1 : u.oneCell' = true)
    (h63 : ys.length + 1 ≤ maxLen) (hbytes : (ys.length + 1) * bytes ≤ 140737488355328) (hbase : base ≤ w.heap.size)
    (h : ∀ g cap w', w'.ownsRow base e 1 (.slice (some ⟨g, 0, none⟩) (ys.length + 1) cap) (ys.length + 1) (ys ++ [u]) → w.grownBy w' row → (row = some g ∨ w.heap.size ≤ g) → K (a.put o.dst (.slice (some ⟨g, 0, none⟩) (ys.length + 1) cap)) w') :
    if Region.wanted o (yielded ops a.tmps) = true then Oper.wp P o a w K Q else E := by
  have hw : Region.wanted o (yielded ops a.tmps) = true := by simp [Region.wanted, hgd]
  rw [if_pos hw]
  exact wp_append_app s x t ho base e i z bytes ht hi hz hsize hby hzs v ys row hs hA ad u hx hnews h1 h63 hbytes hbase h
end
end Go.Proofs.Ybulkaam
