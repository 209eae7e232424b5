import Derived.Test.YbulkaamL3
namespace Go.Proofs.Ybulkaam
open Go.RowKit Go.ChangeMaps

set_option maxRecDepth 100000 in
theorem newGraph_any (ad : Addr) (w : World) : Calls Yba.prog 7 #[.pointer (some ad)] w fun e w' =>
    e = .returned (.agg #[.pointer (some ad), .slice none 0 0, .slice none 0 0, .map (some (w.heap.size + 1))]) ∧
    w' = (w.alloc (.cells #[.pointer (some ad), .slice none 0 0, .slice none 0 0, .map (some (w.heap.size + 1))] 28)).alloc (.map #[] 0) := by
  have hmm := @run_makeMap Yba.prog
  go_enter Yba.func7, Yba.ntmps7
  go_wp2
  exact bodyPost_ret (v := .agg #[.pointer (some ad), .slice none 0 0, .slice none 0 0, .map (some (w.heap.size + 1))]) (by simp [results, Yba.results7, go_sem]) rfl ⟨rfl, rfl⟩

/-- one slot: its key, the blocks of its struct, of cur and of prev, its side, its via, the keys of cur, the slice that cur was filled from -/
structure Slot where
  key : ByteArray
  sb : Nat
  cb : Nat
  pb : Nat
  side : Int
  via : Int
  cs : List Int
  val : Value
def noSlot : Slot := ⟨ByteArray.empty, 0, 0, 0, 0, 0, [], .slice none 0 0⟩
def dat (ds : List Slot) : Dat := ⟨fun j => (ds.getD j noSlot).sb, fun j => (ds.getD j noSlot).cb, fun j => (ds.getD j noSlot).pb, fun j => (ds.getD j noSlot).side, fun j => (ds.getD j noSlot).via, fun j => (ds.getD j noSlot).cs⟩
def keys (ds : List Slot) : List ByteArray := ds.map (·.key)
structure Sl (w : World) (s : Slot) : Prop where
  hs : w.heap[s.sb]? = some (.cells #[.int .i64 s.side, .map (some s.cb), .map (some s.pb), .int .i64 s.via, .int .i64 (-s.via)] 66)
  hc : w.heap[s.cb]? = some (.map (ime s.cs) s.cs.length)
  hp : w.heap[s.pb]? = some (.map (ime [s.via]) 1)
theorem Sl.kept {w w' : World} {s : Slot} {row : Option Nat} (h : Sl w s) (g : w.grownBy w' row) (h1 : row ≠ some s.sb) (h2 : row ≠ some s.cb) (h3 : row ≠ some s.pb) : Sl w' s :=
  ⟨gk g h.hs h1, gk g h.hc h2, gk g h.hp h3⟩
theorem Sl.en {w : World} {ds : List Slot} (h : ∀ s ∈ ds, Sl w s) {j : Nat} (hj : j < ds.length) : En w (dat ds) j := by
  have hm : ds.getD j noSlot ∈ ds := by simp [List.getD, List.getElem?_eq_getElem hj]
  have := h _ hm
  exact ⟨this.hs, this.hc, this.hp⟩
/-- the slice that cur was filled from, as it was handed in -/
def Vw (w0 : World) (s : Slot) : Prop := ∃ a n cp xs, s.val = .slice a n cp ∧ xs.length = n ∧ n ≤ 256 ∧ Bytes w0 a xs ∧ ∀ x, x ∈ s.cs ↔ x ∈ xs
def rowOf (c : Nat) (s : Slot) : List Value := [.pointer (some ⟨c, 0, none⟩), .string s.key, .pointer (some ⟨s.sb, 0, none⟩), s.val, .int .i64 s.cs.length]

structure Fs (w0 w1 w : World) (c mg bg : Nat) (ad : Addr) (ds dr : List Slot) (v : Value) : Prop where
  hb : w.heap[bg]? = some (.cells #[.pointer (some ad), .slice none 0 0, .slice none 0 0, .map (some mg)] 28)
  hm : w.heap[mg]? = some (.map (ents (skey c) (keys ds) (sptr (dat ds).sb)) ds.length)
  en : ∀ s ∈ ds, Sl w s
  lo : ∀ s ∈ ds, w1.heap.size ≤ s.sb ∧ w1.heap.size ≤ s.cb ∧ w1.heap.size ≤ s.pb
  nd : (keys ds).Nodup
  row : w.ownsRow w1.heap.size 68 5 v dr.length (dr.flatMap (rowOf c))
  vw : ∀ s ∈ ds, Vw w0 s
  bel : Below w0.heap.size w0 w
  sz : w1.heap.size ≤ w.heap.size
  lt : w0.heap.size ≤ mg ∧ mg < w1.heap.size ∧ w0.heap.size ≤ bg ∧ bg < w1.heap.size

section
variable {w0 w1 w w' : World} {c mg bg : Nat} {ad : Addr} {ds dr : List Slot} {v : Value}
theorem Fs.kept (F : Fs w0 w1 w c mg bg ad ds dr v) (g : w.grownBy w' none) : Fs w0 w1 w' c mg bg ad ds dr v :=
  ⟨gk g F.hb (by simp), gk g F.hm (by simp), fun s hs => (F.en s hs).kept g (by simp) (by simp) (by simp), F.lo, F.nd, F.row.kept g (by cases v.ownBlock <;> simp), F.vw, F.bel.grown g F.bel.size (by simp), Nat.le_trans F.sz g.size, F.lt⟩
theorem Fs.start (bel : Below w0.heap.size w0 w1) (hb : w1.heap[bg]? = some (.cells #[.pointer (some ad), .slice none 0 0, .slice none 0 0, .map (some mg)] 28)) (hm : w1.heap[mg]? = some (.map #[] 0)) (l1 : w0.heap.size ≤ mg) (l2 : w0.heap.size ≤ bg) : Fs w0 w1 w1 c mg bg ad [] [] (.slice none 0 0) :=
  ⟨hb, hm, by simp, by simp, by simp [keys], World.ownsRow_nil w1 _ _ _, by simp, bel, Nat.le_refl _, l1, hlt hm, l2, hlt hb⟩
theorem keys_get {j : Nat} (hj : j < ds.length) : (keys ds)[j]? = some (ds.getD j noSlot).key := by
  simp [keys, List.getD, List.getElem?_eq_getElem hj]
theorem keys_len : (keys ds).length = ds.length := by simp [keys]
theorem dat_old (s : Slot) {j : Nat} (hj : j < ds.length) : (dat (ds ++ [s])).sb j = (dat ds).sb j := by
  simp [dat, List.getD, List.getElem?_append_left hj]
theorem ents_snoc (s : Slot) : ents (skey c) (keys ds) (sptr (dat ds).sb) = ents (skey c) (keys ds) (sptr (dat (ds ++ [s])).sb) :=
  ents_val _ _ fun j hj => by rw [keys_len] at hj; simp only [sptr, dat_old s hj]
/-- one slot more in the map -/
theorem Fs.put (F : Fs w0 w1 w c mg bg ad ds dr v) (s : Slot) (hs : Sl w s) (lo : w1.heap.size ≤ s.sb ∧ w1.heap.size ≤ s.cb ∧ w1.heap.size ≤ s.pb) (hk : s.key ∉ keys ds) (hv : Vw w0 s) :
    ∃ w', (Instr.mapUpdate 26 (.map (some mg)) (skey c s.key) (.pointer (some ⟨s.sb, 0, none⟩))).run Yba.prog w = .ok () w' ∧ w.grownBy w' (some mg) ∧ Fs w0 w1 w' c mg bg ad (ds ++ [s]) dr v := by
  have hm := F.hm
  rw [ents_snoc s, ← keys_len] at hm
  have hrun := put61 hm hk
  have e1 : sptr (dat (ds ++ [s])).sb (keys ds).length = .pointer (some ⟨s.sb, 0, none⟩) := by rw [keys_len]; simp [sptr, dat, List.getD]
  rw [e1] at hrun
  have e2 : keys ds ++ [s.key] = keys (ds ++ [s]) := by simp [keys]
  rw [e2] at hrun
  have hG := grown_setBlock w mg (.map (ents (skey c) (keys (ds ++ [s])) (sptr (dat (ds ++ [s])).sb)) ((keys ds).length + 1))
  have hbm : bg ≠ mg := fun e => by have := F.hb; rw [e, F.hm] at this; cases this
  have lt := F.lt
  refine ⟨_, hrun, hG, gk hG F.hb (by simp [Ne.symm hbm]), ?_, ?_, ?_, ?_, F.row.kept hG ?_, ?_, F.bel.grown hG F.bel.size (fun b hb => by simp at hb; omega), by rw [size_setBlock]; exact F.sz, lt⟩
  · rw [heap_setBlock (hlt F.hm)]; simp [keys_len]
  · intro t ht
    rcases List.mem_append.1 ht with h | h
    · have := F.lo t h
      exact (F.en t h).kept hG (by simp; omega) (by simp; omega) (by simp; omega)
    · simp at h; subst h
      exact hs.kept hG (by simp; omega) (by simp; omega) (by simp; omega)
  · intro t ht
    rcases List.mem_append.1 ht with h | h
    · exact F.lo t h
    · simp at h; subst h; exact lo
  · rw [← e2, List.nodup_append]
    exact ⟨F.nd, by simp, fun a ha b hb e => by simp at hb; subst hb; exact hk (e ▸ ha)⟩
  · cases hvb : v.ownBlock with
    | none => exact .inl rfl
    | some b => exact .inr (fun e => by have := (F.row.lt b hvb).1; simp at e; omega)
  · intro t ht
    rcases List.mem_append.1 ht with h | h
    · exact F.vw t h
    · simp at h; subst h; exact hv
/-- the row is appended to -/
theorem Fs.app (F : Fs w0 w1 w c mg bg ad ds dr v) {s : Slot} {v' : Value} (ho : w'.ownsRow w1.heap.size 68 5 v' (dr.length + 1) (dr.flatMap (rowOf c) ++ rowOf c s)) (g : w.grownBy w' v.ownBlock) : Fs w0 w1 w' c mg bg ad ds (dr ++ [s]) v' := by
  have lt := F.lt
  have hk : ∀ b o, w.heap[b]? = some o → (∀ cur, o ≠ .cells cur 68) → v.ownBlock ≠ some b := fun b o hb hn e => by
    rcases F.row.2 with ⟨h0, _⟩ | ⟨g', cap', cur, hv', _, hg, _⟩
    · rw [h0] at e; cases e
    · rw [hv'] at e
      simp [Value.ownBlock] at e
      subst e
      rw [hg] at hb
      exact hn cur (Option.some.inj hb).symm
  refine ⟨gk g F.hb (hk _ _ F.hb (by simp)), gk g F.hm (hk _ _ F.hm (by simp)), fun s hs => (F.en s hs).kept g (hk _ _ (F.en s hs).hs (by simp)) (hk _ _ (F.en s hs).hc (by simp)) (hk _ _ (F.en s hs).hp (by simp)), F.lo, F.nd, by simpa using ho, F.vw, F.bel.grown g F.bel.size (fun b hb => ?_), Nat.le_trans F.sz g.size, lt⟩
  have := (F.row.lt b hb).1
  omega
end
theorem Bytes.below {w w' : World} {a : Option Addr} {xs : List Int} (h : Bytes w a xs) (b : Below w.heap.size w w') : Bytes w' a xs := fun i hi => by
  obtain ⟨⟨c, off, e, hc⟩, h1, h2⟩ := h i hi
  exact ⟨⟨c, off, e, (b.cell (World.block_lt_of_cell? w _ hc)).trans hc⟩, h1, h2⟩
theorem news5 (w : World) (c : Nat) (s : Slot) : ∀ j u, (rowOf c s)[j]? = some u → (w.alloc (.cells #[.pointer (some ⟨c, 0, none⟩), .string s.key, .pointer (some ⟨s.sb, 0, none⟩), s.val, .int .i64 s.cs.length] 68)).cell? ((⟨w.heap.size, 0, none⟩ : Addr).add j) = some u := fun j u hu =>
  World.news_of_block (cs := #[.pointer (some ⟨c, 0, none⟩), .string s.key, .pointer (some ⟨s.sb, 0, none⟩), s.val, .int .i64 s.cs.length]) (heap_alloc_new w _) j u hu
theorem one5 (c : Nat) (p : ByteArray) (sb cb pb : Nat) (sd k : Int) (cs : List Int) (a : Option Addr) (l cp : Nat) : ∀ u ∈ rowOf c ⟨p, sb, cb, pb, sd, k, cs, .slice a l cp⟩, u.oneCell' = true := by
  intro u hu
  simp only [rowOf, List.mem_cons, List.not_mem_nil, or_false] at hu
  rcases hu with rfl | rfl | rfl | rfl | rfl <;> rfl
theorem info68 : (Yba.prog.info? 68).map (fun i => (i.zero, i.size, i.bytes)) = some (some (.agg #[.pointer none, .string ByteArray.empty, .pointer none, .slice none 0 0, .int .i64 0]), 5, 64) := by kernel_rfl
end Go.Proofs.Ybulkaam
