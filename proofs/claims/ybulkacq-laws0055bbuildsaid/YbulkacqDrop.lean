import Derived.Test.YbulkacqMix
import Derived.Test.YbulkacqGrp
import Derived.Deep.RegionHeld3
namespace Go.Proofs.Ybulkacq
open Go.RowKit Go.ChangeMaps

theorem kc {w : World} {o : Obj} {x : Addr} {v : Value} (h : w.cell? x = some v) : (w.alloc o).cell? x = some v :=
  (World.grownBy_alloc w o none).cell h (by simp)
theorem kh {w : World} {o : Obj} {m : Nat} {x : Obj} (h : w.heap[m]? = some x) : (w.alloc o).heap[m]? = some x :=
  ((World.grownBy_alloc w o none).block m (Array.getElem?_eq_some_iff.1 h).1 (by simp)).trans h

theorem info4 : (Yba.prog.info? 4).map (fun i => (i.zero, i.size, i.bytes)) = some (some (.bool false), 1, 1) := by kernel_rfl
theorem mm69 (w : World) : (Instr.makeMap 69 none).run Yba.prog w = .ok (.map (some w.heap.size)) (w.alloc (.map #[] 0)) := by
  simp [Instr.makeMap]
theorem mm93 (w : World) : (Instr.makeMap 93 none).run Yba.prog w = .ok (.map (some w.heap.size)) (w.alloc (.map #[] 0)) := by
  simp [Instr.makeMap]

theorem zero95 (w : World) : (zeroValue 95).run Yba.prog w = .ok (.agg #[.int .i64 0, .int .i64 0, .pointer none, .pointer none, .slice none 0 0, .map none, .slice none 0 0, .slice none 0 0, .int .i64 0, .slice none 0 0, .slice none 0 0, .int .i64 0, .slice none 0 0, .int .i64 0, .int .i64 0, .int .i64 0, .slice none 0 0, .int .i64 0, .int .u64 0, .slice none 0 0, .nilIface, .string ⟨#[]⟩, .bool false, .int .i64 0, .int .i64 0, .bool false, .pointer none, .bool false, .int .i64 0, .slice none 0 0, .slice none 0 0, .int .i64 0, .slice none 0 0, .int .i64 0, .int .u64 0, .slice none 0 0, .nilIface, .string ⟨#[]⟩, .bool false, .int .i64 0, .int .i64 0, .bool false, .pointer none, .bool false, .int .i64 0, .slice none 0 0, .slice none 0 0, .slice none 0 0, .slice none 0 0, .map none, .int .i64 0, .slice none 0 0, .int .i64 0, .int .u64 0, .slice none 0 0, .nilIface, .string ⟨#[]⟩, .bool false, .int .i64 0, .int .i64 0, .bool false, .pointer none, .bool false, .int .i64 0, .slice none 0 0, .slice none 0 0]) w := by kernel_rfl

/-- the run's settings as the function reads them -/
def Ex (be m : Nat) (n st seed : Int) (rnd : Bool) (bl : Nat) (dv : Addr) (w : World) : Prop :=
  w.cell? ⟨be, 5, none⟩ = some (.int .i64 n) ∧ w.cell? ⟨be, 13, none⟩ = some (.int .i64 st) ∧ w.cell? ⟨be, 15, none⟩ = some (.bool rnd) ∧ w.cell? ⟨be, 24, none⟩ = some (.int .u64 seed) ∧
    w.cell? ⟨be, 26, none⟩ = some (.pointer (some ⟨bl, 0, none⟩)) ∧ w.cell? ⟨be, 35, none⟩ = some (.slice (some dv) m m)
/-- n cells z (a plain name, so that no walk lays it open) -/
def reps (n : Nat) (z : Value) : Array Value := (List.replicate n z).toArray
theorem size_reps (n : Nat) (z : Value) : (reps n z).size = n := by simp [reps]

theorem run_mk {P : Program} (t e bytes : Nat) (z : Value) (ht : P.underlying t = some (.slice e)) (hi : (P.info? e).map (fun i => (i.zero, i.size, i.bytes)) = some (some z, 1, bytes)) (hz : z.cells = #[z])
    (n : Nat) (hb : bytes * n ≤ 281474976710656) (hn : n ≤ 9223372036854775807) (w : World) :
    (Instr.makeSlice t (.int .i64 n) (.int .i64 n)).run P w = .ok (.slice (some ⟨w.heap.size, 0, none⟩) n n) (w.alloc (.cells (reps n z) e)) := by
  obtain ⟨i, h0, h1⟩ := Option.map_eq_some_iff.1 hi
  simp only [Prod.mk.injEq] at h1
  obtain ⟨h1, h2, h3⟩ := h1
  have := run_make (P := P) w t e i z ht h0 h1 .i64 .i64 (n : Int) (n : Int) (by omega) (by omega) (by rw [h3, ← Int.natCast_mul]; omega) (by omega)
  rw [this]
  have e1 : madeCells z.cells ((n : Int).toNat * i.size) = reps n z := by
    rw [hz, h2]
    apply Array.ext'
    simp [toList_madeCells_one, reps]
  rw [e1]
  simp
theorem mk57 (n : Nat) (h : n ≤ 4096) (w : World) : (Instr.makeSlice 57 (.int .i64 n) (.int .i64 n)).run Yba.prog w = .ok (.slice (some ⟨w.heap.size, 0, none⟩) n n) (w.alloc (.cells (reps n (.bool false)) 4)) :=
  run_mk 57 4 1 _ Yba.underlying57 info4 rfl n (by omega) (by omega) w
theorem Ex.alloc {be m : Nat} {n st seed : Int} {rnd : Bool} {bl : Nat} {dv : Addr} {w : World} (h : Ex be m n st seed rnd bl dv w) (o : Obj) : Ex be m n st seed rnd bl dv (w.alloc o) :=
  ⟨kc h.1, kc h.2.1, kc h.2.2.1, kc h.2.2.2.1, kc h.2.2.2.2.1, kc h.2.2.2.2.2⟩

/-- what the struct literal has laid -/
structure Born (w wc : World) (D L M C m : Nat) (n st : Int) (bl : Nat) (dv : Addr) (ag : Option Addr) : Prop where
  c0 : wc.cell? ⟨D, 0, none⟩ = some (.int .i64 n)
  c1 : wc.cell? ⟨D, 1, none⟩ = some (.int .i64 st)
  c2 : wc.cell? ⟨D, 2, none⟩ = some (.pointer (some ⟨bl, 0, none⟩))
  c3 : wc.cell? ⟨D, 3, none⟩ = some (.pointer ag)
  c4 : wc.cell? ⟨D, 4, none⟩ = some (.slice (some dv) m m)
  c5 : wc.cell? ⟨D, 5, none⟩ = some (.map (some L))
  c6 : wc.cell? ⟨D, 6, none⟩ = some (.slice (some ⟨M, 0, none⟩) m m)
  c49 : wc.cell? ⟨D, 49, none⟩ = some (.map (some C))
  f3 : wc.frozen? ⟨D, 3, none⟩ = false
  hL : wc.heap[L]? = some (.map #[] 0)
  hC : wc.heap[C]? = some (.map #[] 0)
  hM : wc.heap[M]? = some (.cells (reps m (.bool false)) 4)
  ne : L ≠ C
  md : M ≠ D
  ge : w.heap.size ≤ L ∧ w.heap.size ≤ C ∧ w.heap.size ≤ M ∧ w.heap.size ≤ D
  g : w.grownBy wc none


theorem heap4 (w : World) (o1 o2 o3 o4 : Obj) :
    ((((((w.alloc o1).alloc o2).alloc o3).alloc o4).drew).heap[w.heap.size]? = some o1 ∧ (((((w.alloc o1).alloc o2).alloc o3).alloc o4).drew).heap[w.heap.size + 1]? = some o2 ∧
     (((((w.alloc o1).alloc o2).alloc o3).alloc o4).drew).heap[w.heap.size + 1 + 1]? = some o3 ∧ (((((w.alloc o1).alloc o2).alloc o3).alloc o4).drew).heap[w.heap.size + 1 + 1 + 1]? = some o4) := by
  refine ⟨?_, ?_, ?_, ?_⟩
  all_goals
    simp only [World.alloc, World.drew, Array.getElem?_push, Array.size_push]
    repeat (first | rw [if_pos trivial] | rw [if_neg (by omega)])
theorem grown4 (w : World) (o1 o2 o3 o4 : Obj) : w.grownBy (((((w.alloc o1).alloc o2).alloc o3).alloc o4).drew) none :=
  ((((World.grownBy_alloc w o1 none).trans (World.grownBy_alloc _ o2 none)).trans (World.grownBy_alloc _ o3 none)).trans (World.grownBy_alloc _ o4 none)).trans (grown_drew _)
theorem cell_of {w : World} {b k : Nat} {c : Array Value} {t : TypeId} {v : Value} {f : Nat × Nat} (h : w.heap[b]? = some (.cells c t f)) (hv : c[k]? = some v) : w.cell? ⟨b, k, none⟩ = some v := by
  simp [World.cell?, h, hv]

theorem born_of {w wc : World} {D L M C m : Nat} {n st : Int} {bl : Nat} {dv : Addr} {ag : Option Addr} {c : Array Value} (hD : wc.heap[D]? = some (.cells c 95 (0, 0)))
    (h0 : c[0]? = some (.int .i64 n)) (h1 : c[1]? = some (.int .i64 st)) (h2 : c[2]? = some (.pointer (some ⟨bl, 0, none⟩))) (h3 : c[3]? = some (.pointer ag)) (h4 : c[4]? = some (.slice (some dv) m m))
    (h5 : c[5]? = some (.map (some L))) (h6 : c[6]? = some (.slice (some ⟨M, 0, none⟩) m m)) (h49 : c[49]? = some (.map (some C)))
    (hL : wc.heap[L]? = some (.map #[] 0)) (hC : wc.heap[C]? = some (.map #[] 0)) (hM : wc.heap[M]? = some (.cells (reps m (.bool false)) 4)) (ne : L ≠ C) (md : M ≠ D)
    (ge : w.heap.size ≤ L ∧ w.heap.size ≤ C ∧ w.heap.size ≤ M ∧ w.heap.size ≤ D) (g : w.grownBy wc none) : Born w wc D L M C m n st bl dv ag :=
  ⟨cell_of hD h0, cell_of hD h1, cell_of hD h2, cell_of hD h3, cell_of hD h4, cell_of hD h5, cell_of hD h6, cell_of hD h49, by simp [World.frozen?, hD], hL, hC, hM, ne, md, ge, g⟩

/-- the keys of the first k lines, in the order in which they come -/
def keysTo (ps : Nat → Int × Int) : Nat → List (Int × Int)
  | 0 => []
  | k + 1 => ins (ps k) (keysTo ps k)
/-- the numbers of the lines below k with key p -/
def numsTo (ps : Nat → Int × Int) (p : Int × Int) : Nat → List Int
  | 0 => []
  | k + 1 => if ps k = p then numsTo ps p k ++ [(k : Int)] else numsTo ps p k

/-- the drops lie at bd, five cells each -/
def Dr (bd m : Nat) (ps : Nat → Int × Int) (w : World) : Prop :=
  ∀ k, k < m → ∃ l t : Int, w.cell? ⟨bd, k * 5, none⟩ = some (.int .i64 l) ∧ w.cell? ⟨bd, k * 5 + 1, none⟩ = some (.int .i64 (ps k).1) ∧ w.cell? ⟨bd, k * 5 + 2, none⟩ = some (.int .i64 (ps k).2) ∧ w.cell? ⟨bd, k * 5 + 3, none⟩ = some (.int .i64 t) ∧ w.cell? ⟨bd, k * 5 + 4, none⟩ = some .nilIface

theorem mem_ins_iff (p q : Int × Int) (ks : List (Int × Int)) : q ∈ ins p ks ↔ q ∈ ks ∨ q = p := by
  unfold ins
  split
  · constructor
    · exact .inl
    · rintro (h | rfl) <;> assumption
  · simp
theorem nodup_ins {p : Int × Int} {ks : List (Int × Int)} (h : ks.Nodup) : (ins p ks).Nodup := by
  unfold ins
  split
  · exact h
  · rename_i hp
    rw [List.nodup_append]
    refine ⟨h, by simp, ?_⟩
    intro a ha b hb e
    simp at hb
    subst hb; subst e
    exact hp ha
theorem keys_nodup (ps : Nat → Int × Int) : ∀ k, (keysTo ps k).Nodup
  | 0 => List.nodup_nil
  | k + 1 => nodup_ins (keys_nodup ps k)
theorem mem_keys (ps : Nat → Int × Int) (q : Int × Int) : ∀ k, q ∈ keysTo ps k ↔ ∃ i, i < k ∧ ps i = q
  | 0 => by simp [keysTo]
  | k + 1 => by
    rw [keysTo, mem_ins_iff, mem_keys ps q k]
    constructor
    · rintro (⟨i, h1, h2⟩ | rfl)
      · exact ⟨i, by omega, h2⟩
      · exact ⟨k, by omega, rfl⟩
    · rintro ⟨i, h1, h2⟩
      by_cases e : i = k
      · subst e; exact .inr h2.symm
      · exact .inl ⟨i, by omega, h2⟩
theorem nums_nil (ps : Nat → Int × Int) (q : Int × Int) : ∀ k, q ∉ keysTo ps k → numsTo ps q k = []
  | 0, _ => rfl
  | k + 1, h => by
    rw [keysTo, mem_ins_iff] at h
    have h1 : ¬ ps k = q := fun e => h (.inr e.symm)
    rw [numsTo, if_neg h1]
    exact nums_nil ps q k (fun e => h (.inl e))

/-- the rows' numbers after k lines -/
structure Sp (ps : Nat → Int × Int) (k : Nat) (xs : Nat → List Int) : Prop where
  at_ : ∀ i q, (keysTo ps k)[i]? = some q → xs i = numsTo ps q k
  out : ∀ i, (keysTo ps k).length ≤ i → xs i = []
theorem Sp.zero (ps : Nat → Int × Int) : Sp ps 0 (fun _ => []) := ⟨fun i q h => by simp [keysTo] at h, fun _ _ => rfl⟩
theorem Sp.next {ps : Nat → Int × Int} {k : Nat} {xs : Nat → List Int} (S : Sp ps k xs) {j : Nat} (hj : j = (ins (ps k) (keysTo ps k)).idxOf (ps k)) :
    Sp ps (k + 1) (fun i => if i = j then xs j ++ [(k : Int)] else xs i) := by
  have hlt := idx_ins_lt (ps k) (keysTo ps k)
  rw [← hj] at hlt
  have hat : (ins (ps k) (keysTo ps k))[j]? = some (ps k) := by
    rw [List.getElem?_eq_getElem hlt]
    subst hj
    rw [List.getElem_idxOf hlt]
  have hxj : xs j = numsTo ps (ps k) k := by
    by_cases hp : ps k ∈ keysTo ps k
    · refine S.at_ j _ ?_
      rw [← hat]; simp [ins, hp]
    · have e1 : ins (ps k) (keysTo ps k) = keysTo ps k ++ [ps k] := by simp [ins, hp]
      rw [e1] at hj hlt
      have : j = (keysTo ps k).length := by rw [hj, List.idxOf_append]; simp [hp]
      rw [S.out j (by omega), nums_nil ps _ k hp]
  refine ⟨fun i q hq => ?_, fun i hi => ?_⟩
  · rw [keysTo] at hq
    by_cases e : i = j
    · subst e
      rw [hat] at hq
      simp at hq
      subst hq
      simp [numsTo, hxj]
    · have hil := (List.getElem?_eq_some_iff.1 hq).1
      have hne : ¬ ps k = q := fun h => by
        subst h
        exact e ((List.getElem?_inj hil (nodup_ins (keys_nodup ps k))).1 (hq.trans hat.symm))
      simp only [e, if_false, numsTo, hne]
      refine S.at_ i q ?_
      unfold ins at hq
      split at hq
      · exact hq
      · rw [List.getElem?_append] at hq
        split at hq
        · exact hq
        · have := List.getElem?_eq_some_iff.1 hq
          obtain ⟨h1, h2⟩ := this
          simp at h2
          exact (hne h2).elim
  · rw [keysTo] at hi
    have : ¬ i = j := by omega
    simp only [this, if_false]
    refine S.out i (Nat.le_trans ?_ hi)
    unfold ins
    split <;> simp
theorem nums_len (ps : Nat → Int × Int) (q : Int × Int) : ∀ k, (numsTo ps q k).length ≤ k
  | 0 => by simp [numsTo]
  | k + 1 => by
    have := nums_len ps q k
    rw [numsTo]
    split
    · simp; omega
    · omega
theorem Sp.len {ps : Nat → Int × Int} {k : Nat} {xs : Nat → List Int} (S : Sp ps k xs) (i : Nat) : (xs i).length ≤ k := by
  by_cases h : i < (keysTo ps k).length
  · rw [S.at_ i _ (List.getElem?_eq_getElem h)]; exact nums_len ps _ k
  · rw [S.out i (by omega)]; simp

/-- what the function hands back -/
structure Built (w' : World) (D m : Nat) (n st seed : Int) (rnd : Bool) (bl : Nat) (dv : Addr) (ps : Nat → Int × Int) (L M C G base : Nat) (val : Nat → Value) (xs : Nat → List Int) : Prop where
  c0 : w'.cell? ⟨D, 0, none⟩ = some (.int .i64 n)
  c1 : w'.cell? ⟨D, 1, none⟩ = some (.int .i64 st)
  c2 : w'.cell? ⟨D, 2, none⟩ = some (.pointer (some ⟨bl, 0, none⟩))
  c3 : w'.cell? ⟨D, 3, none⟩ = some (.pointer (if rnd then some ⟨G, 0, none⟩ else none))
  c4 : w'.cell? ⟨D, 4, none⟩ = some (.slice (some dv) m m)
  c5 : w'.cell? ⟨D, 5, none⟩ = some (.map (some L))
  c6 : w'.cell? ⟨D, 6, none⟩ = some (.slice (some ⟨M, 0, none⟩) m m)
  c49 : w'.cell? ⟨D, 49, none⟩ = some (.map (some C))
  g0 : rnd = true → w'.cell? ⟨G, 0, none⟩ = some (.int .u64 (start seed))
  g1 : rnd = true → w'.cell? ⟨G, 1, none⟩ = some (.int .u64 (mix (start seed)))
  hL : w'.heap[L]? = some (.map (ents (keysTo ps m) val) (keysTo ps m).length)
  hC : w'.heap[C]? = some (.map #[] 0)
  hM : w'.heap[M]? = some (.cells (reps m (.bool false)) 4)
  owns : ∀ j, w'.ownsRow base 3 1 (val j) (xs j).length ((xs j).map (Value.int .i64))
  sp : Sp ps m xs
theorem kb {w w' : World} (g : w.grownBy w' none) {m : Nat} {x : Obj} (h : w.heap[m]? = some x) : w'.heap[m]? = some x :=
  (g.block m (Array.getElem?_eq_some_iff.1 h).1 (by simp)).trans h
theorem Built.kept {w w' : World} {D m : Nat} {n st seed : Int} {rnd : Bool} {bl : Nat} {dv : Addr} {ps : Nat → Int × Int} {L M C G base : Nat} {val : Nat → Value} {xs : Nat → List Int} (h : Built w D m n st seed rnd bl dv ps L M C G base val xs) (g : w.grownBy w' none) :
    Built w' D m n st seed rnd bl dv ps L M C G base val xs :=
  ⟨g.cell h.c0 (by simp), g.cell h.c1 (by simp), g.cell h.c2 (by simp), g.cell h.c3 (by simp), g.cell h.c4 (by simp), g.cell h.c5 (by simp), g.cell h.c6 (by simp), g.cell h.c49 (by simp), fun e => g.cell (h.g0 e) (by simp), fun e => g.cell (h.g1 e) (by simp),
    kb g h.hL, kb g h.hC, kb g h.hM, fun j => (h.owns j).kept g (by cases (val j).ownBlock <;> simp), h.sp⟩
/-- a cell lies in no map -/
theorem cell_ne {w : World} {a : Addr} {v : Value} {L : Nat} {es : Array MapEntry} {c : Nat} (h : w.cell? a = some v) (hL : w.heap[L]? = some (.map es c)) : a.block ≠ L := fun e => by
  simp [World.cell?, e, hL] at h
theorem grown_above {w wd wr : World} {L : Nat} (h1 : w.grownBy wd none) (h2 : wd.grownBy wr (some L)) (hL : w.heap.size ≤ L) : w.grownBy wr none :=
  ⟨by rw [h2.1, h1.1], by rw [h2.2, h1.2], by rw [h2.3, h1.3], Nat.le_trans h1.size h2.size, fun b hb _ => by
    rw [h2.block b (Nat.lt_of_lt_of_le hb h1.size) (by simp; omega)]
    exact h1.block b hb (by simp)⟩
theorem kL {w w' : World} {L : Nat} (g : w.grownBy w' (some L)) {m : Nat} {x : Obj} (h : w.heap[m]? = some x) (hn : m ≠ L) : w'.heap[m]? = some x :=
  (g.block m (Array.getElem?_eq_some_iff.1 h).1 (by simpa using hn)).trans h
theorem kLc {w w' : World} {L : Nat} (g : w.grownBy w' (some L)) {a : Addr} {v : Value} {es : Array MapEntry} {c : Nat} (h : w.cell? a = some v) (hL : w.heap[L]? = some (.map es c)) : w'.cell? a = some v :=
  g.cell h (by have := cell_ne h hL; simpa using this)
theorem built_of {w wd wr : World} {D m : Nat} {n st seed : Int} {rnd : Bool} {bl : Nat} {dv : Addr} {ps : Nat → Int × Int} {L M C G : Nat} {val : Nat → Value} {xs : Nat → List Int}
    (B : Born w wd D L M C m n st bl dv (if rnd then some ⟨G, 0, none⟩ else none)) (hg : rnd = true → wd.cell? ⟨G, 0, none⟩ = some (.int .u64 (start seed)) ∧ wd.cell? ⟨G, 1, none⟩ = some (.int .u64 (mix (start seed))))
    (R : Gr wd wr L (keysTo ps m) val xs) (S : Sp ps m xs) : Built wr D m n st seed rnd bl dv ps L M C G wd.heap.size val xs :=
  ⟨kLc R.g B.c0 B.hL, kLc R.g B.c1 B.hL, kLc R.g B.c2 B.hL, kLc R.g B.c3 B.hL, kLc R.g B.c4 B.hL, kLc R.g B.c5 B.hL, kLc R.g B.c6 B.hL, kLc R.g B.c49 B.hL, fun e => kLc R.g (hg e).1 B.hL, fun e => kLc R.g (hg e).2 B.hL,
    R.hm, kL R.g B.hC B.ne.symm, kL R.g B.hM (fun e => by have := B.hM; rw [e, B.hL] at this; cases this), R.owns, S⟩
/-- the generator is laid in field 3 -/
theorem born_gen {w wc w1 : World} {D L M C m : Nat} {n st : Int} {bl : Nat} {dv : Addr} {a0 : Option Addr} (B : Born w wc D L M C m n st bl dv a0) (g : wc.grownBy w1 none) (a : Addr) :
    Born w (w1.setCell ⟨D, 3, none⟩ (.pointer (some a))) D L M C m n st bl dv (some a) := by
  have h3 := g.cell B.c3 (by simp)
  have kc : ∀ i v, i ≠ 3 → wc.cell? ⟨D, i, none⟩ = some v → (w1.setCell ⟨D, 3, none⟩ (.pointer (some a))).cell? ⟨D, i, none⟩ = some v := fun i v hi h => by
    have := g.cell h (by simp)
    rw [World.cell?_setCell_other _ _ _ _ (by simp)]
    exact this
  have nm : ∀ b es c, wc.heap[b]? = some (.map es c) → D ≠ b := fun b es c h => cell_ne (a := ⟨D, 3, none⟩) B.c3 h
  have gs := grown_setCell w1 ⟨D, 3, none⟩ (.pointer (some a))
  refine ⟨kc 0 _ (by decide) B.c0, kc 1 _ (by decide) B.c1, kc 2 _ (by decide) B.c2, ?_, kc 4 _ (by decide) B.c4, kc 5 _ (by decide) B.c5, kc 6 _ (by decide) B.c6, kc 49 _ (by decide) B.c49, ?_, ?_, ?_, ?_, B.ne, B.md, B.ge, ?_⟩
  · exact World.cell?_setCell_same _ _ _ h3
  · rw [World.frozen?_setCell]
    have hd : D < wc.heap.size := by
      have := B.c3
      simp only [World.cell?] at this
      split at this
      · rename_i h; exact (Array.getElem?_eq_some_iff.1 h).1
      · cases this
    have : w1.frozen? ⟨D, 3, none⟩ = wc.frozen? ⟨D, 3, none⟩ := by simp [World.frozen?, g.block D hd (by simp)]
    rw [this]; exact B.f3
  · exact (gs.block L (Array.getElem?_eq_some_iff.1 (kb g B.hL)).1 (by have := nm _ _ _ B.hL; simpa using this.symm)).trans (kb g B.hL)
  · exact (gs.block C (Array.getElem?_eq_some_iff.1 (kb g B.hC)).1 (by have := nm _ _ _ B.hC; simpa using this.symm)).trans (kb g B.hC)
  · exact (gs.block M (Array.getElem?_eq_some_iff.1 (kb g B.hM)).1 (by have := B.md; simpa using this)).trans (kb g B.hM)
  · exact grown_above (B.g.trans g) gs B.ge.2.2.2
theorem cell_lt {w : World} {a : Addr} {v : Value} (h : w.cell? a = some v) : a.block < w.heap.size := by
  simp only [World.cell?] at h
  split at h
  · rename_i h2; exact (Array.getElem?_eq_some_iff.1 h2).1
  · cases h
theorem kf {w w' : World} (g : w.grownBy w' none) {a : Addr} {v : Value} (h : w.cell? a = some v) (hf : w.frozen? a = false) : w'.frozen? a = false := by
  have : w'.frozen? a = w.frozen? a := by simp [World.frozen?, g.block a.block (cell_lt h) (by simp)]
  rw [this]; exact hf
theorem gen_cell {w wc w1 : World} {D L M C m : Nat} {n st : Int} {bl : Nat} {dv : Addr} {a0 : Option Addr} (B : Born w wc D L M C m n st bl dv a0) {i : Nat} {u v : Value} (h : w1.cell? ⟨wc.heap.size, i, none⟩ = some v) :
    (w1.setCell ⟨D, 3, none⟩ u).cell? ⟨wc.heap.size, i, none⟩ = some v := by
  have := cell_lt B.c3
  rw [World.cell?_setCell_other _ _ _ _ (by simp at this; intro e; injection e with e _; omega)]
  exact h
theorem Dr.grown {bd m : Nat} {ps : Nat → Int × Int} {w w' : World} (h : Dr bd m ps w) (g : w.grownBy w' none) : Dr bd m ps w' := fun k hk => by
  obtain ⟨l, t, h0, h1, h2, h3, h4⟩ := h k hk
  exact ⟨l, t, g.cell h0 (by simp), g.cell h1 (by simp), g.cell h2 (by simp), g.cell h3 (by simp), g.cell h4 (by simp)⟩
theorem entry_cell {wc w1 w2 : World} {L : Nat} {ks : List (Int × Int)} {val : Nat → Value} {xs : Nat → List Int} (R : Gr wc w1 L ks val xs) {v : Value} {o : Obj} (e : w2 = setBlock (w1.alloc (.cells #[v] 3)).drew L o) :
    w2.cell? ⟨w1.heap.size, 0, none⟩ = some v := by
  have h : ((w1.alloc (.cells #[v] 3)).drew).cell? ⟨w1.heap.size, 0, none⟩ = some v := by simp [go_sem]
  have hL : w1.heap.size ≠ L := fun e => by have := Nat.lt_of_lt_of_le R.lt R.g.size; omega
  subst e
  exact (grown_setBlock _ L o).cell h (by simpa using hL)
theorem Gr.zero {wd : World} {L : Nat} (h : wd.heap[L]? = some (.map #[] 0)) : Gr wd wd L [] (fun _ => .slice none 0 0) (fun _ => []) :=
  ⟨fun j => by simpa using World.ownsRow_nil wd _ 3 1, fun j j' b h => by simp [Value.ownBlock] at h, h, fun _ _ => rfl, World.grownBy.refl wd _, (Array.getElem?_eq_some_iff.1 h).1⟩
end Go.Proofs.Ybulkacq
