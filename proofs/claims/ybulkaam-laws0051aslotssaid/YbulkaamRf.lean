import Derived.Test.YbulkaamL5
namespace Go.Proofs.Ybulkaam
open Go.RowKit Go.ChangeMaps

/-- what a round of the last loop reads -/
structure Rf (w : World) (c mg bg mc bc : Nat) (ds : List Slot) (f : Nat → Nat) (seen : List Nat) (s : Slot) (fk hk b24 : Nat) : Prop where
  g3 : w.cell? ⟨bg, 3, none⟩ = some (.map (some mg))
  k3 : w.cell? ⟨bc, 3, none⟩ = some (.map (some mc))
  hmg : w.heap[mg]? = some (.map (ents (skey c) (keys ds) (sptr (dat ds).sb)) ds.length)
  hmc : w.heap[mc]? = some (.map (cents c (keys ds) f seen) seen.length)
  sl : Sl w s
  hf : w.heap[fk]? = some (.cells #[.int .i64 s.side, .map (some hk), .map (some s.pb), .int .i64 s.via, .int .i64 (-s.via)] 66)
  hh : w.heap[hk]? = some (.map (ime s.cs) s.cs.length)
  e24 : w.heap[b24]? = some (.cells #[.pointer (some ⟨c, 0, none⟩), .string s.key, .pointer (some ⟨s.sb, 0, none⟩), s.val, .int .i64 s.cs.length] 68)
theorem Rf.kept {w w' : World} {c mg bg mc bc : Nat} {ds : List Slot} {f : Nat → Nat} {seen : List Nat} {s : Slot} {fk hk b24 : Nat} (R : Rf w c mg bg mc bc ds f seen s fk hk b24) (g : w.grownBy w' none) : Rf w' c mg bg mc bc ds f seen s fk hk b24 :=
  ⟨g.cell R.g3 (by simp), g.cell R.k3 (by simp), gk g R.hmg (by simp), gk g R.hmc (by simp), R.sl.kept g (by simp) (by simp) (by simp), gk g R.hf (by simp), gk g R.hh (by simp), gk g R.e24 (by simp)⟩

theorem idx_nodup {l : List ByteArray} (h : l.Nodup) {j : Nat} (hj : j < l.length) : l.idxOf l[j] = j := by
  have hm : l[j] ∈ l := List.getElem_mem hj
  have hl : l.idxOf l[j] < l.length := List.idxOf_lt_length_iff.2 hm
  exact nodup_inj h hl hj (List.getElem_idxOf hl)

theorem Rf.lookG {w : World} {c mg bg mc bc : Nat} {ds : List Slot} {f : Nat → Nat} {seen : List Nat} {k fk hk b24 : Nat} (R : Rf w c mg bg mc bc ds f seen (ds.getD k noSlot) fk hk b24) (nd : (keys ds).Nodup) (hk' : k < ds.length) :
    (Instr.lookup 26 (.map (some mg)) (skey c (ds.getD k noSlot).key) false).run Yba.prog w = .ok (.pointer (some ⟨(ds.getD k noSlot).sb, 0, none⟩)) w := by
  have hkl : k < (keys ds).length := by rw [keys_len]; exact hk'
  have e : (keys ds)[k] = (ds.getD k noSlot).key := by
    have := keys_get hk'
    rw [List.getElem?_eq_getElem hkl] at this
    exact Option.some.inj this
  have := look61 R.hmg (p := (ds.getD k noSlot).key) (e ▸ List.getElem_mem hkl)
  rw [← e, idx_nodup nd hkl, e] at this
  exact this
theorem Rf.lookC {w : World} {c mg bg mc bc : Nat} {ds : List Slot} {f : Nat → Nat} {seen : List Nat} {k fk hk b24 : Nat} (R : Rf w c mg bg mc bc ds f seen (ds.getD k noSlot) fk hk b24) (nd : (keys ds).Nodup) (hk' : k < ds.length) (hs : k ∈ seen) (hl : ∀ j ∈ seen, j < (keys ds).length) :
    (Instr.lookup 26 (.map (some mc)) (skey c (ds.getD k noSlot).key) false).run Yba.prog w = .ok (.pointer (some ⟨f k, 0, none⟩)) w := by
  have hkl : k < (keys ds).length := by rw [keys_len]; exact hk'
  have e0 : (keys ds).getD k ByteArray.empty = (ds.getD k noSlot).key := by
    have := keys_get hk'
    simp only [List.getD, this]; rfl
  have hmem : (ds.getD k noSlot).key ∈ seen.map (fun j => (keys ds).getD j ByteArray.empty) := List.mem_map.2 ⟨k, hs, e0⟩
  have hlk := look61 (ks := seen.map (fun j => (keys ds).getD j ByteArray.empty)) (val := fun i => sptr f (seen.getD i 0)) R.hmc hmem
  have hi := List.idxOf_lt_length_iff.2 hmem
  have hg := List.getElem_idxOf hi
  generalize (seen.map (fun j => (keys ds).getD j ByteArray.empty)).idxOf (ds.getD k noSlot).key = i at hlk hi hg
  have hi' : i < seen.length := by simpa using hi
  have hsi : seen[i] ∈ seen := List.getElem_mem hi'
  have hsl := hl _ hsi
  have e1 : (keys ds)[seen[i]] = (keys ds)[k] := by
    simp only [List.getElem_map] at hg
    rw [← e0] at hg
    simpa [List.getD, List.getElem?_eq_getElem hsl, List.getElem?_eq_getElem hkl] using hg
  have e2 := nodup_inj nd hsl hkl e1
  have e3 : seen.getD i 0 = k := by simp [List.getD, List.getElem?_eq_getElem hi', e2]
  simp only [e3, sptr] at hlk
  exact hlk

theorem no1000 {w : World} {a : Option Addr} {xs : List Int} (h : Bytes w a xs) : (1000 : Int) ∉ xs := fun e => by
  obtain ⟨i, hi, he⟩ := List.mem_iff_getElem.1 e
  have := (h i hi).2.2
  simp [List.getD, List.getElem?_eq_getElem hi, he] at this
/-- the last loop: of what was there only the first k clones' curs have turned -/
structure Lv (w0 wd wr : World) (h : Nat → Nat) (k : Nat) : Prop where
  blk : ∀ b, b < wd.heap.size → (∀ j, j < k → b ≠ h j) → wr.heap[b]? = wd.heap[b]?
  bel : Below w0.heap.size w0 wr
  sz : wd.heap.size ≤ wr.heap.size
section
variable {w0 wd wr w' : World} {h : Nat → Nat} {k : Nat}
theorem Lv.kept (L : Lv w0 wd wr h k) (g : wr.grownBy w' none) : Lv w0 wd w' h k :=
  ⟨fun b hb hn => (g.block b (Nat.lt_of_lt_of_le hb L.sz) (by simp)).trans (L.blk b hb hn), L.bel.grown g L.bel.size (by simp), Nat.le_trans L.sz g.size⟩
theorem Lv.put (L : Lv w0 wd wr h k) (hk : w0.heap.size ≤ h k) (g : wr.grownBy w' (some (h k))) : Lv w0 wd w' h (k + 1) :=
  ⟨fun b hb hn => (g.block b (Nat.lt_of_lt_of_le hb L.sz) (fun e => hn k (by omega) (by simpa using e))).trans (L.blk b hb (fun j hj => hn j (by omega))), L.bel.grown g L.bel.size (fun b hb => by simp at hb; omega), Nat.le_trans L.sz g.size⟩
theorem Lv.get (L : Lv w0 wd wr h k) {b : Nat} {o : Obj} (hb : wd.heap[b]? = some o) (hn : ∀ j, j < k → b ≠ h j) : wr.heap[b]? = some o := (L.blk b (hlt hb) hn).trans hb
end

theorem flat5 (c : Nat) : ∀ (ds : List Slot) (k i : Nat), k < ds.length → i < 5 → (ds.flatMap (rowOf c))[k * 5 + i]? = (rowOf c (ds.getD k noSlot))[i]?
  | [], k, i, h, _ => by simp at h
  | s :: ds, 0, i, _, hi => by
    rw [List.flatMap_cons, List.getElem?_append_left (by simp [rowOf]; omega)]
    simp
  | s :: ds, k + 1, i, h, hi => by
    have e : (k + 1) * 5 + i = (rowOf c s).length + (k * 5 + i) := by simp [rowOf]; omega
    rw [List.flatMap_cons, e, List.getElem?_append_right (by omega)]
    have := flat5 c ds k i (by simpa using h) hi
    simpa using this
/-- what stands when the clone is made -/
structure Rd (w0 w1 wq wd : World) (c mg bg : Nat) (ad : Addr) (ds : List Slot) (v : Value) (bc mc : Nat) (f h : Nat → Nat) (seen : List Nat) : Prop where
  F : Fs w0 w1 wq c mg bg ad ds ds v
  C : Cd wq wd ad c (keys ds) (dat ds) bc mc f h seen
  all : ∀ j, j < (keys ds).length → j ∈ seen
theorem ne_kind {w : World} {b b' : Nat} {o o' : Obj} (h : w.heap[b]? = some o) (h' : w.heap[b']? = some o') (hn : o ≠ o') : b ≠ b' := fun e => by
  rw [e, h'] at h; exact hn (Option.some.inj h).symm
theorem Rd.round {w0 w1 wq wd wr : World} {c mg bg : Nat} {ad : Addr} {ds : List Slot} {v : Value} {bc mc : Nat} {f h : Nat → Nat} {seen : List Nat} {k : Nat} (R : Rd w0 w1 wq wd c mg bg ad ds v bc mc f h seen) (L : Lv w0 wd wr h k) (hk : k < ds.length) :
    Rf (wr.alloc (.cells #[.pointer (some ⟨c, 0, none⟩), .string (ds.getD k noSlot).key, .pointer (some ⟨(ds.getD k noSlot).sb, 0, none⟩), (ds.getD k noSlot).val, .int .i64 (ds.getD k noSlot).cs.length] 68)) c mg bg mc bc ds f seen (ds.getD k noSlot) (f k) (h k) wr.heap.size ∧ (∃ g cap, v = .slice (some ⟨g, 0, none⟩) ds.length cap ∧ ∀ i u, (rowOf c (ds.getD k noSlot))[i]? = some u → wr.cell? ⟨g, k * 5 + i, none⟩ = some u) := by
  have hks : ∀ j, j < ds.length → j ∈ seen := fun j hj => R.all j (by rw [keys_len]; exact hj)
  have Fd := R.F.kept R.C.g
  have hm : ds.getD k noSlot ∈ ds := by simp [List.getD, List.getElem?_eq_getElem hk]
  have hS := Fd.en _ hm
  have hSq := R.F.en _ hm
  have hh : ∀ j, j < k → wd.heap[h j]? = some (.map (ime ((dat ds).cs j)) ((dat ds).cs j).length) := fun j hj => R.C.hh j (hks j (by omega))
  have hl : ∀ j, j < k → wq.heap.size ≤ h j := fun j hj => R.C.lh j (hks j (by omega))
  have nc : ∀ {b : Nat} {cs : Array Value} {t : TypeId}, wd.heap[b]? = some (.cells cs t) → ∀ j, j < k → b ≠ h j := fun hb j hj => ne_kind hb (hh j hj) (by simp)
  have nl : ∀ {b : Nat} {o : Obj}, wq.heap[b]? = some o → ∀ j, j < k → b ≠ h j := fun hb j hj => by have := hlt hb; have := hl j hj; omega
  obtain ⟨va, hva⟩ := R.C.hb
  have hfk := R.C.hf k (hks k hk)
  have hhk := R.C.hh k (hks k hk)
  have A : wr.grownBy (wr.alloc (.cells #[.pointer (some ⟨c, 0, none⟩), .string (ds.getD k noSlot).key, .pointer (some ⟨(ds.getD k noSlot).sb, 0, none⟩), (ds.getD k noSlot).val, .int .i64 (ds.getD k noSlot).cs.length] 68)) none := World.grownBy_alloc _ _ none
  have row := Fd.row
  obtain ⟨g, cap, cur, hv, hg1, hg2, hg3, hg4, hg5, hg6⟩ : ∃ g cap cur, v = .slice (some ⟨g, 0, none⟩) ds.length cap ∧ w1.heap.size ≤ g ∧ wd.heap[g]? = some (.cells cur 68 (0, 0)) ∧ ds.length ≤ cap ∧ cap ≤ maxLen ∧ cur.size = cap * 5 ∧ cur.toList.take (ds.length * 5) = ds.flatMap (rowOf c) := by
    rcases row.2 with ⟨_, h0⟩ | h
    · omega
    · exact h
  refine ⟨⟨?_, ?_, gk A (L.get Fd.hm (nl R.F.hm)) (by simp), gk A (L.get R.C.hm (fun j hj e => R.C.ne j (hks j (by omega)) e.symm)) (by simp), ⟨gk A (L.get hS.hs (nc hS.hs)) (by simp), gk A (L.get hS.hc (nl hSq.hc)) (by simp), gk A (L.get hS.hp (nl hSq.hp)) (by simp)⟩, gk A (L.get hfk (nc hfk)) (by simp), gk A (L.get hhk (fun j hj e => ?_)) (by simp), heap_alloc_new _ _⟩, g, cap, hv, fun i u hu => ?_⟩
  · exact cell_at (gk A (L.get Fd.hb (nc Fd.hb)) (by simp)) rfl
  · exact cell_at (gk A (L.get hva (nc hva)) (by simp)) rfl
  · have := R.C.inj k (hks k hk) j (hks j (by omega)) e; omega
  · have hi : i < 5 := by have := (List.getElem?_eq_some_iff.1 hu).1; simpa [rowOf] using this
    refine cell_at (L.get hg2 (nc hg2)) ?_
    have e1 : (ds.flatMap (rowOf c))[k * 5 + i]? = some u := by
      rw [flat5 c ds k i hk hi]; exact hu
    rw [← hg6] at e1
    have hlt' : k * 5 + i < ds.length * 5 := by omega
    rw [List.getElem?_take_of_lt hlt', Array.getElem?_toList] at e1
    exact e1
end Go.Proofs.Ybulkaam
