import Derived.Test.YbulkaamMc
import Derived.Deep.RegionHeld3
namespace Go.Proofs.Ybulkaam
open Go.RowKit Go.ChangeMaps

theorem kc {w : World} {o : Obj} {x : Addr} {v : Value} (h : w.cell? x = some v) : (w.alloc o).cell? x = some v :=
  (World.cell?_of_block (w := w) (Below.heap_alloc w o _ (World.block_lt_of_cell? w _ h))).trans h
theorem kh {w : World} {o : Obj} {m : Nat} {x : Obj} (h : w.heap[m]? = some x) : (w.alloc o).heap[m]? = some x :=
  (Below.heap_alloc w o m (Array.getElem?_eq_some_iff.1 h).1).trans h
theorem hlt {w : World} {m : Nat} {x : Obj} (h : w.heap[m]? = some x) : m < w.heap.size := (Array.getElem?_eq_some_iff.1 h).1
theorem cell_at {w : World} {b i : Nat} {arr : Array Value} {ty : TypeId} {v : Value} (h : w.heap[b]? = some (.cells arr ty)) (hv : arr[i]? = some v) : w.cell? ⟨b, i, none⟩ = some v := by
  simp [World.cell?, h, hv]
theorem gk {w w' : World} {row : Option Nat} (g : w.grownBy w' row) {b : Nat} {o : Obj} (h : w.heap[b]? = some o) (hb : row ≠ some b) : w'.heap[b]? = some o :=
  (g.block b (hlt h) (fun e => hb e.symm)).trans h

theorem nodup_inj {α : Type} : ∀ {l : List α}, l.Nodup → ∀ {i j : Nat} (hi : i < l.length) (hj : j < l.length), l[i] = l[j] → i = j
  | a :: l, h, 0, 0, _, _, _ => rfl
  | a :: l, h, 0, j + 1, hi, hj, e => by
    have h' := List.nodup_cons.1 h
    simp at e hj
    exact absurd (e ▸ List.getElem_mem (by simpa using hj)) h'.1
  | a :: l, h, i + 1, 0, hi, hj, e => by
    have h' := List.nodup_cons.1 h
    simp at e hi
    exact absurd (e ▸ List.getElem_mem (by simpa using hi)) h'.1
  | a :: l, h, i + 1, j + 1, hi, hj, e => by
    have h' := List.nodup_cons.1 h
    simp at e hi hj
    rw [nodup_inj h'.2 hi hj e]
/-- what the slots hold: of the j-th the struct's block, cur's and prev's blocks, the side, via, the keys of cur -/
structure Dat where
  sb : Nat → Nat
  cb : Nat → Nat
  pb : Nat → Nat
  side : Nat → Int
  via : Nat → Int
  cs : Nat → List Int
def Dat.row (D : Dat) (h : Nat → Nat) (j : Nat) : Array Value := #[.int .i64 (D.side j), .map (some (h j)), .map (some (D.pb j)), .int .i64 (D.via j), .int .i64 (-(D.via j))]
structure En (w : World) (D : Dat) (j : Nat) : Prop where
  hs : w.heap[D.sb j]? = some (.cells (D.row D.cb j) 66)
  hc : w.heap[D.cb j]? = some (.map (ime (D.cs j)) (D.cs j).length)
  hp : w.heap[D.pb j]? = some (.map (ime [D.via j]) 1)
theorem En.kept {w w' : World} {D : Dat} {j : Nat} {row : Option Nat} (h : En w D j) (g : w.grownBy w' row) (h1 : row ≠ some (D.sb j)) (h2 : row ≠ some (D.cb j)) (h3 : row ≠ some (D.pb j)) : En w' D j :=
  ⟨gk g h.hs h1, gk g h.hc h2, gk g h.hp h3⟩

abbrev sptr (f : Nat → Nat) : Nat → Value := fun j => .pointer (some ⟨f j, 0, none⟩)
/-- the map of the clone, the slots of 'seen' laid, in that order -/
def cents (c : Nat) (ks : List ByteArray) (f : Nat → Nat) (seen : List Nat) : Array MapEntry := ents (skey c) (seen.map fun j => ks.getD j ByteArray.empty) (fun i => sptr f (seen.getD i 0))

/-- the clone, its slots of 'seen' laid -/
structure Cd (w w' : World) (ad : Addr) (c : Nat) (ks : List ByteArray) (D : Dat) (bc mc : Nat) (f h : Nat → Nat) (seen : List Nat) : Prop where
  g : w.grownBy w' none
  hb : ∃ v, w'.heap[bc]? = some (.cells #[.pointer (some ad), .slice none 0 0, v, .map (some mc)] 28)
  hm : w'.heap[mc]? = some (.map (cents c ks f seen) seen.length)
  hf : ∀ j ∈ seen, w'.heap[f j]? = some (.cells (D.row h j) 66)
  hh : ∀ j ∈ seen, w'.heap[h j]? = some (.map (ime (D.cs j)) (D.cs j).length)
  inj : ∀ i ∈ seen, ∀ j ∈ seen, h i = h j → i = j
  lf : ∀ j ∈ seen, w.heap.size ≤ f j
  lh : ∀ j ∈ seen, w.heap.size ≤ h j
  ne : ∀ j ∈ seen, h j ≠ mc
  nd : seen.Nodup
  lt : ∀ j ∈ seen, j < ks.length
  lb : w.heap.size ≤ bc
  lm : w.heap.size ≤ mc

section
variable {w w' w2 : World} {ad : Addr} {c : Nat} {ks : List ByteArray} {D : Dat} {bc mc : Nat} {f h : Nat → Nat} {seen : List Nat}
theorem Cd.kept (C : Cd w w' ad c ks D bc mc f h seen) (g : w'.grownBy w2 none) : Cd w w2 ad c ks D bc mc f h seen :=
  ⟨C.g.trans g, let ⟨v, e⟩ := C.hb; ⟨v, gk g e (by simp)⟩, gk g C.hm (by simp), fun j hj => gk g (C.hf j hj) (by simp), fun j hj => gk g (C.hh j hj) (by simp), C.inj, C.lf, C.lh, C.ne, C.nd, C.lt, C.lb, C.lm⟩

theorem cents_snoc (c : Nat) (ks : List ByteArray) (f : Nat → Nat) (seen : List Nat) (j b : Nat) (hj : j ∉ seen) :
    cents c ks (fun i => if i = j then b else f i) (seen ++ [j]) = ents (skey c) (seen.map (fun j => ks.getD j ByteArray.empty) ++ [ks.getD j ByteArray.empty]) (fun i => if i = seen.length then sptr (fun _ => b) 0 else sptr f (seen.getD i 0)) := by
  unfold cents
  rw [List.map_append, List.map_cons, List.map_nil]
  refine ents_val _ _ fun i hi => ?_
  simp at hi
  by_cases e : i = seen.length
  · subst e; simp [List.getD]
  · have hi' : i < seen.length := by omega
    have e1 : (seen ++ [j]).getD i 0 = seen.getD i 0 := by simp [List.getD, List.getElem?_append_left hi']
    have hne : seen.getD i 0 ≠ j := fun e2 => hj (by rw [← e2]; simp [List.getD, List.getElem?_eq_getElem hi'])
    simp only [e1, e, if_false, sptr, hne]

/-- one more slot is laid -/
theorem Cd.step (C : Cd w w' ad c ks D bc mc f h seen) {j fb hb : Nat} {w3 : World} (hj : j < ks.length) (hn : j ∉ seen) (g : w'.grownBy w3 none)
    (h1 : w3.heap[fb]? = some (.cells #[.int .i64 (D.side j), .map (some hb), .map (some (D.pb j)), .int .i64 (D.via j), .int .i64 (-(D.via j))] 66)) (h2 : w3.heap[hb]? = some (.map (ime (D.cs j)) (D.cs j).length)) (l1 : w'.heap.size ≤ fb) (l2 : w'.heap.size ≤ hb) (hk : ks.Nodup) :
    ∃ w4, (Instr.mapUpdate 26 (.map (some mc)) (skey c (ks.getD j ByteArray.empty)) (.pointer (some ⟨fb, 0, none⟩))).run Yba.prog w3 = .ok () w4 ∧
      w3.grownBy w4 (some mc) ∧ Cd w w4 ad c ks D bc mc (fun i => if i = j then fb else f i) (fun i => if i = j then hb else h i) (seen ++ [j]) := by
  have C3 := C.kept g
  have hsz := g.size
  have hmlt := hlt C.hm
  have hp : ks.getD j ByteArray.empty ∉ seen.map (fun j => ks.getD j ByteArray.empty) := by
    intro hm
    obtain ⟨i, hi, e⟩ := List.mem_map.1 hm
    have hil := C.lt i hi
    have e' : ks[i] = ks[j] := by simpa [List.getD, List.getElem?_eq_getElem hil, List.getElem?_eq_getElem hj] using e
    have := nodup_inj hk hil hj e'
    exact hn (this ▸ hi)
  have hm3 := C3.hm
  have e0 : cents c ks f seen = ents (skey c) (seen.map fun j => ks.getD j ByteArray.empty) (fun i => if i = seen.length then sptr (fun _ => fb) 0 else sptr f (seen.getD i 0)) := by
    refine ents_val _ _ fun i hi => ?_
    simp at hi
    have : ¬ i = seen.length := by omega
    simp only [this, if_false]
  rw [e0] at hm3
  have hrun := put61 (w := w3) (b := mc) (c := c) (ks := seen.map fun j => ks.getD j ByteArray.empty) (val := fun i => if i = seen.length then sptr (fun _ => fb) 0 else sptr f (seen.getD i 0)) (by simpa using hm3) (p := ks.getD j ByteArray.empty) hp
  rw [← cents_snoc c ks f seen j fb hn] at hrun
  simp only [List.length_map, if_true] at hrun
  have hG := grown_setBlock w3 mc (.map (cents c ks (fun i => if i = j then fb else f i) (seen ++ [j])) (seen.length + 1))
  have hmc3 := hlt C3.hm
  refine ⟨_, hrun, hG, ?_⟩
  have hfm : ∀ i ∈ seen, f i ≠ mc := fun i hi e => by have := C3.hf i hi; rw [e, C3.hm] at this; cases this
  have hbm : bc ≠ mc := fun e => by obtain ⟨v, hv⟩ := C3.hb; rw [e, C3.hm] at hv; cases hv
  refine ⟨?_, ?_, ?_, ?_, ?_, ?_, ?_, ?_, ?_, ?_, ?_, C.lb, C.lm⟩
  · have hg2 := C3.g
    refine ⟨hg2.os, hg2.tape, hg2.output, by rw [size_setBlock]; exact hg2.size, fun k hk1 _ => ?_⟩
    rw [heap_setBlock_other _ (by have := C.lm; omega)]
    exact hg2.block k hk1 (by simp)
  · obtain ⟨v, hv⟩ := C3.hb
    exact ⟨v, gk hG hv (by simp [Ne.symm hbm])⟩
  · rw [heap_setBlock hmc3]; simp
  · intro i hi
    by_cases e : i = j
    · subst e
      simp only [Dat.row, if_true]
      exact gk hG h1 (by simp; omega)
    · have hi' : i ∈ seen := by simpa [e] using hi
      simp only [Dat.row, e, if_false]
      exact gk hG (C3.hf i hi') (by simp [Ne.symm (hfm i hi')])
  · intro i hi
    by_cases e : i = j
    · subst e
      simp only [if_true]
      exact gk hG h2 (by simp; omega)
    · have hi' : i ∈ seen := by simpa [e] using hi
      simp only [e, if_false]
      exact gk hG (C3.hh i hi') (by simp [Ne.symm (C.ne i hi')])
  · intro i hi k hk' e
    have hlt' : ∀ i ∈ seen, h i < w'.heap.size := fun i hi => hlt (C.hh i hi)
    by_cases ei : i = j <;> by_cases ek : k = j
    · rw [ei, ek]
    · have hk2 : k ∈ seen := by simpa [ek] using hk'
      simp only [ei, ek, if_true, if_false] at e
      have := hlt' k hk2; omega
    · have hi2 : i ∈ seen := by simpa [ei] using hi
      simp only [ei, ek, if_true, if_false] at e
      have := hlt' i hi2; omega
    · have hi2 : i ∈ seen := by simpa [ei] using hi
      have hk2 : k ∈ seen := by simpa [ek] using hk'
      simp only [ei, ek, if_false] at e
      exact C.inj i hi2 k hk2 e
  · intro i hi
    by_cases e : i = j
    · simp only [e, if_true]; have := C.g.size; omega
    · have hi' : i ∈ seen := by simpa [e] using hi
      simp only [e, if_false]; exact C.lf i hi'
  · intro i hi
    by_cases e : i = j
    · simp only [e, if_true]; have := C.g.size; omega
    · have hi' : i ∈ seen := by simpa [e] using hi
      simp only [e, if_false]; exact C.lh i hi'
  · intro i hi
    by_cases e : i = j
    · simp only [e, if_true]; omega
    · have hi' : i ∈ seen := by simpa [e] using hi
      simp only [e, if_false]; exact C.ne i hi'
  · rw [List.nodup_append]
    exact ⟨C.nd, by simp, fun a ha b hb e => by simp at hb; subst hb; exact hn (e ▸ ha)⟩
  · intro i hi
    rcases List.mem_append.1 hi with h | h
    · exact C.lt i h
    · simp at h; rw [h]; exact hj
end
end Go.Proofs.Ybulkaam
