import Derived.Test.YbulkadsLay
import Derived.Deep.Upon
namespace Go.Proofs.Ybulkads
open Go.RowKit

/-- the nodes below k on host j -/
def hsTo (H : Nat → Nat) (h j : Nat) : Nat → List Nat
  | 0 => []
  | k + 1 => if H k % h = j then hsTo H h j k ++ [k] else hsTo H h j k
theorem hs_lt (H : Nat → Nat) (h j : Nat) : ∀ k v, v ∈ hsTo H h j k → v < k ∧ H v % h = j
  | 0, v, hv => by simp [hsTo] at hv
  | k + 1, v, hv => by
    rw [hsTo] at hv
    split at hv
    · rcases List.mem_append.1 hv with hv | hv
      · have := hs_lt H h j k v hv; exact ⟨by omega, this.2⟩
      · simp at hv; subst hv; rename_i e; exact ⟨by omega, e⟩
    · have := hs_lt H h j k v hv; exact ⟨by omega, this.2⟩
theorem hs_len (H : Nat → Nat) (h j : Nat) : ∀ k, (hsTo H h j k).length ≤ k
  | 0 => by simp [hsTo]
  | k + 1 => by
    have := hs_len H h j k
    rw [hsTo]; split
    · simp; omega
    · omega
theorem hs_nodup (H : Nat → Nat) (h j : Nat) : ∀ k, (hsTo H h j k).Nodup
  | 0 => List.nodup_nil
  | k + 1 => by
    rw [hsTo]; split
    · rw [List.nodup_append]
      refine ⟨hs_nodup H h j k, by simp, fun a ha b hb e => ?_⟩
      have := (hs_lt H h j k _ ha).1
      simp at hb; omega
    · exact hs_nodup H h j k
theorem hs_inj (H : Nat → Nat) (h k : Nat) : ∀ j q j' q' v : Nat, (hsTo H h j k)[q]? = some v → (hsTo H h j' k)[q']? = some v → j = j' ∧ q = q' := fun j q j' q' v h1 h2 => by
  have e1 := (hs_lt H h j k v (List.mem_of_getElem? h1)).2
  have e2 := (hs_lt H h j' k v (List.mem_of_getElem? h2)).2
  have e3 : j = j' := by omega
  subst e3
  exact ⟨rfl, (List.getElem?_inj (List.getElem?_eq_some_iff.1 h1).1 (hs_nodup H h j k)).1 (h1.trans h2.symm)⟩

/-- the lists while they are filled: k identifiers and m bytes of the next, p spans, the hosts' rows hs -/
structure Fl (w w1 wr : World) (bi be bh n h : Nat) (K : Nat → Nat) (f u : Nat → Int) (hs : Nat → List Nat) (val : Nat → Value) (k m p : Nat) : Prop where
  ids : ∀ i c, i < n → c < 20 → wr.cell? ⟨bi, i * 20 + c, none⟩ = some (.int .u8 (if i < k ∨ (i = k ∧ c < m) then bt (K i) c else 0 : Nat))
  fi : ∀ x, wr.frozen? ⟨bi, x, none⟩ = false
  thr : ∀ x, x < n * 24 → (wr.cell? ⟨be, x, none⟩).isSome = true ∧ wr.frozen? ⟨be, x, none⟩ = false
  idn : ∀ i, i < p → wr.cell? ⟨be, i * 24 + 22, none⟩ = some (.int .u64 (f i)) ∧ wr.cell? ⟨be, i * 24 + 23, none⟩ = some (.int .u64 (u i))
  hb : ∃ c : Array Value, wr.heap[bh]? = some (.cells c 35) ∧ c.size = h ∧ ∀ j, j < h → c[j]? = some (val j)
  owns : ∀ j, wr.ownsRow w1.heap.size 21 1 (val j) (hs j).length ((hs j).map (fun v : Nat => Value.int .i32 (v : Int)))
  inj : ∀ j j' b, (val j).ownBlock = some b → (val j').ownBlock = some b → j = j'
  g : w.grownBy wr none
  ge : w.heap.size ≤ bi ∧ w.heap.size ≤ be ∧ w.heap.size ≤ bh ∧ bi < w1.heap.size ∧ be < w1.heap.size ∧ bh < w1.heap.size ∧ bi ≠ be ∧ bi ≠ bh ∧ be ≠ bh ∧ w1.heap.size ≤ wr.heap.size

theorem grown_setCells (w : World) (b : Nat) : ∀ (vs : List Value) (o : Nat), w.grownBy (w.setCells b o vs) (some b)
  | [], _ => World.grownBy.refl w _
  | v :: r, o => by
    have h1 := grown_setCell w ⟨b, o, none⟩ v
    have h2 := grown_setCells (w.setCell ⟨b, o, none⟩ v) b r (o + 1)
    exact h1.trans h2
theorem grown_above {w wd wr : World} {L : Nat} (h1 : w.grownBy wd none) (h2 : wd.grownBy wr (some L)) (hL : w.heap.size ≤ L) : w.grownBy wr none :=
  ⟨by rw [h2.1, h1.1], by rw [h2.2, h1.2], by rw [h2.3, h1.3], Nat.le_trans h1.size h2.size, fun b hb _ => by
    rw [h2.block b (Nat.lt_of_lt_of_le hb h1.size) (by simp; omega)]
    exact h1.block b hb (by simp)⟩
theorem froz_grown {w w' : World} {L : Option Nat} (g : w.grownBy w' L) {a : Addr} (h : w.frozen? a = false) (hl : a.block < w.heap.size) (hn : some a.block ≠ L) : w'.frozen? a = false := by
  have : w'.frozen? a = w.frozen? a := by simp [World.frozen?, g.block a.block hl hn]
  rw [this]; exact h

section
variable {w w1 wr : World} {bi be bh n h : Nat} {K : Nat → Nat} {f u : Nat → Int} {hs : Nat → List Nat} {val : Nat → Value} {k m p : Nat}
theorem Fl.grown (F : Fl w w1 wr bi be bh n h K f u hs val k m p) {w' : World} (g : wr.grownBy w' none) : Fl w w1 w' bi be bh n h K f u hs val k m p := by
  have ge := F.ge
  obtain ⟨c, h1, h2⟩ := F.hb
  refine ⟨fun i c hi hc => g.cell (F.ids i c hi hc) (by simp), fun x => froz_grown g (F.fi x) (by simp; omega) (by simp), fun x hx => ?_, fun i hi => ⟨g.cell (F.idn i hi).1 (by simp), g.cell (F.idn i hi).2 (by simp)⟩, ⟨c, kb g h1, h2⟩, fun j => (F.owns j).kept g (by cases (val j).ownBlock <;> simp), F.inj, F.g.trans g, ?_⟩
  · obtain ⟨h3, h4⟩ := F.thr x hx
    obtain ⟨v, hv⟩ := Option.isSome_iff_exists.1 h3
    exact ⟨by rw [g.cell hv (by simp)]; rfl, froz_grown g h4 (by simp; omega) (by simp)⟩
  · have := g.size; omega
theorem Fl.rowNe (F : Fl w w1 wr bi be bh n h K f u hs val k m p) (j : Nat) {b : Nat} (hb : b < w1.heap.size) : (val j).ownBlock = none ∨ (val j).ownBlock ≠ some b := by
  cases hv : (val j).ownBlock with
  | none => exact .inl rfl
  | some c =>
    refine .inr (fun e => ?_)
    have := ((F.owns j).lt c hv).1
    simp at e; omega
/-- a byte of an identifier is written -/
theorem Fl.byte (F : Fl w w1 wr bi be bh n h K f u hs val k m p) (hk : k < n) (hm : m < 20) : Fl w w1 (wr.setCell ⟨bi, k * 20 + m, none⟩ (.int .u8 (bt (K k) m))) bi be bh n h K f u hs val k (m + 1) p := by
  have ge := F.ge
  have gs := grown_setCell wr ⟨bi, k * 20 + m, none⟩ (.int .u8 (bt (K k) m))
  obtain ⟨c0, h1, h2⟩ := F.hb
  refine ⟨fun i c hi hc => ?_, fun x => by rw [World.frozen?_setCell]; exact F.fi x, fun x hx => ?_, fun i hi => ⟨gs.cell (F.idn i hi).1 (by simp; omega), gs.cell (F.idn i hi).2 (by simp; omega)⟩, ⟨c0, kO gs h1 (by simp; omega), h2⟩, fun j => (F.owns j).kept gs (F.rowNe j ge.2.2.2.1), F.inj, grown_above F.g gs ge.1, ?_⟩
  · by_cases e : i = k ∧ c = m
    · obtain ⟨rfl, rfl⟩ := e
      rw [World.cell?_setCell_same _ _ _ (F.ids i c hi hc)]
      simp
    · rw [World.cell?_setCell_other _ _ _ _ (fun e2 => by injection e2 with _ e3; omega), F.ids i c hi hc]
      have : (i < k ∨ i = k ∧ c < m) ↔ (i < k ∨ i = k ∧ c < m + 1) := by omega
      simp only [this]
  · rw [World.cell?_setCell_other _ _ _ _ (fun e2 => by injection e2 with e3 _; omega), World.frozen?_setCell]
    exact F.thr x hx
  · have := gs.size; omega
/-- four bytes are an identifier -/
theorem Fl.row (F : Fl w w1 wr bi be bh n h K f u hs val k 4 p) : Fl w w1 wr bi be bh n h K f u hs val (k + 1) 0 p :=
  ⟨fun i c hi hc => by
    rw [F.ids i c hi hc]
    by_cases e : i = k
    · subst e
      by_cases e2 : c < 4
      · simp [e2]
      · simp [bt, e2]
    · have : (i < k ∨ i = k ∧ c < 4) ↔ (i < k + 1 ∨ i = k + 1 ∧ c < 0) := by omega
      simp only [this], F.fi, F.thr, F.idn, F.hb, F.owns, F.inj, F.g, F.ge⟩
/-- a span is written -/
theorem Fl.span (F : Fl w w1 wr bi be bh n h K f u hs val k m p) (hp : p < n) (cs : List Value) (hl : cs.length = 24) (h22 : cs[22]? = some (.int .u64 (f p))) (h23 : cs[23]? = some (.int .u64 (u p))) :
    Fl w w1 (wr.setCells be (p * 24) cs) bi be bh n h K f u hs val k m (p + 1) := by
  have ge := F.ge
  have gs := grown_setCells wr be cs (p * 24)
  obtain ⟨c0, h1, h2⟩ := F.hb
  have hin := World.cell?_setCells_in be cs (p * 24) wr (fun j hj => (F.thr (p * 24 + j) (by omega)).1)
  refine ⟨fun i c hi hc => gs.cell (F.ids i c hi hc) (by simp; omega), fun x => by rw [World.frozen?_setCells]; exact F.fi x, fun x hx => ?_, fun i hi => ?_, ⟨c0, kO gs h1 (by omega), h2⟩, fun j => (F.owns j).kept gs (F.rowNe j ge.2.2.2.2.1), F.inj, grown_above F.g gs ge.2.1, ?_⟩
  · obtain ⟨h3, h4⟩ := F.thr x hx
    exact ⟨World.isSome_setCells be cs (p * 24) wr _ h3, by rw [World.frozen?_setCells]; exact h4⟩
  · by_cases e : i = p
    · subst e
      have a := hin 22 (by omega)
      have b := hin 23 (by omega)
      rw [List.getElem?_eq_getElem (by omega)] at h22 h23
      simp at h22 h23
      rw [h22] at a; rw [h23] at b
      exact ⟨a, b⟩
    · have := F.idn i (by omega)
      rw [World.cell?_setCells_out be cs (p * 24) wr _ (fun _ _ => by simp; omega), World.cell?_setCells_out be cs (p * 24) wr _ (fun _ _ => by simp; omega)]
      exact this
  · have := gs.size; omega
def put1 {α : Type} (val : Nat → α) (j : Nat) (v : α) : Nat → α := fun i => if i = j then v else val i
/-- a node is appended to its host's row -/
theorem Fl.app (F : Fl w w1 wr bi be bh n h K f u hs val k m p) {j g cap v : Nat} {w3 : World} (hj : j < h) (ho : w3.ownsRow w1.heap.size 21 1 (.slice (some ⟨g, 0, none⟩) (((hs j).map (fun v : Nat => Value.int .i32 (v : Int))).length + 1) cap) (((hs j).map (fun v : Nat => Value.int .i32 (v : Int))).length + 1) ((hs j).map (fun v : Nat => Value.int .i32 (v : Int)) ++ [.int .i32 (v : Int)]))
    (hg : wr.grownBy w3 (val j).ownBlock) (hb : (val j).ownBlock = some g ∨ wr.heap.size ≤ g) :
    Fl w w1 (w3.setCell ⟨bh, j, none⟩ (.slice (some ⟨g, 0, none⟩) (((hs j).map (fun v : Nat => Value.int .i32 (v : Int))).length + 1) cap)) bi be bh n h K f u (put1 hs j (hs j ++ [v])) (put1 val j (.slice (some ⟨g, 0, none⟩) (((hs j).map (fun v : Nat => Value.int .i32 (v : Int))).length + 1) cap)) k m p := by
  have ge := F.ge
  have out : ∀ {c}, (val j).ownBlock = some c → w1.heap.size ≤ c := fun e => ((F.owns j).lt _ e).1
  have ne : ∀ b, b < w1.heap.size → some b ≠ (val j).ownBlock := fun b hb e => by have := out e.symm; omega
  have gg : w1.heap.size ≤ g := by
    rcases hb with e | e
    · exact out e
    · omega
  generalize hsl : Value.slice (some ⟨g, 0, none⟩) (((hs j).map (fun v : Nat => Value.int .i32 (v : Int))).length + 1) cap = sl at *
  have hob : sl.ownBlock = some g := by rw [← hsl]; rfl
  have gs := grown_setCell w3 ⟨bh, j, none⟩ sl
  obtain ⟨c0, h1, h2, h3⟩ := F.hb
  have h1' : w3.heap[bh]? = some (.cells c0 35) := (hg.block bh (Array.getElem?_eq_some_iff.1 h1).1 (ne bh ge.2.2.2.2.2.1)).trans h1
  refine ⟨fun i c hi hc => gs.cell (hg.cell (F.ids i c hi hc) (ne bi ge.2.2.2.1)) (by simp; omega), fun x => by rw [World.frozen?_setCell]; exact froz_grown hg (F.fi x) (by simp; omega) (ne bi ge.2.2.2.1), fun x hx => ?_, fun i hi => ⟨gs.cell (hg.cell (F.idn i hi).1 (ne be ge.2.2.2.2.1)) (by simp; omega), gs.cell (hg.cell (F.idn i hi).2 (ne be ge.2.2.2.2.1)) (by simp; omega)⟩,
    ⟨_, heap_set h1', by simpa using h2, fun i hi => ?_⟩, fun i => ?_, fun i i' b e1 e2 => ?_, ?_, ?_⟩
  · obtain ⟨h4, h5⟩ := F.thr x hx
    obtain ⟨v, hv⟩ := Option.isSome_iff_exists.1 h4
    have := gs.cell (hg.cell hv (ne be ge.2.2.2.2.1)) (by simp; omega)
    exact ⟨by rw [this]; rfl, by rw [World.frozen?_setCell]; exact froz_grown hg h5 (by simp; omega) (ne be ge.2.2.2.2.1)⟩
  · by_cases e : j = i
    · subst e; simp [put1, h2, hj]
    · have e' : ¬ i = j := fun h => e h.symm
      simp only [Array.getElem?_setIfInBounds, e, if_false, put1, e']
      exact h3 i hi
  · by_cases e : i = j
    · subst e
      have := ho.kept gs (.inr (by rw [hob]; simp; omega))
      simpa [put1] using this
    · have a1 := (F.owns i).kept hg (by
        cases hv : (val i).ownBlock with
        | none => exact .inl rfl
        | some c => exact .inr (fun e2 => e (F.inj i j c hv e2.symm)))
      have a2 := a1.kept gs (F.rowNe i ge.2.2.2.2.2.1)
      simpa [put1, e] using a2
  · have key : ∀ i, i ≠ j → (val i).ownBlock = some b → sl.ownBlock = some b → False := fun i hi e1 e2 => by
      rw [hob] at e2
      simp at e2; subst e2
      rcases hb with e | e
      · exact hi (F.inj i j _ e1 e)
      · have := ((F.owns i).lt _ e1).2; omega
    by_cases d1 : i = j
    · by_cases d2 : i' = j
      · rw [d1, d2]
      · simp only [put1, d1, d2, if_true, if_false] at e1 e2
        exact (key i' d2 e2 e1).elim
    · by_cases d2 : i' = j
      · simp only [put1, d1, d2, if_true, if_false] at e1 e2
        exact (key i d1 e1 e2).elim
      · simp only [put1, d1, d2, if_false] at e1 e2
        exact F.inj i i' b e1 e2
  · have a : w.grownBy w3 none := ⟨by rw [hg.1, F.g.1], by rw [hg.2, F.g.2], by rw [hg.3, F.g.3], Nat.le_trans F.g.size hg.size, fun b hb2 _ => by
      rw [hg.block b (Nat.lt_of_lt_of_le hb2 F.g.size) (ne b (by omega))]
      exact F.g.block b hb2 (by simp)⟩
    exact grown_above a gs ge.2.2.1
  · have := gs.size; have := hg.size; omega
end
end Go.Proofs.Ybulkads
