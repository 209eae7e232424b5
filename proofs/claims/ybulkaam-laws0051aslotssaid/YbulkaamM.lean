import Derived.Test.YbulkaamClip
import Derived.WideKeyEntry
import Derived.LaidEql
import Derived.Maps.RangeRun
namespace Go.Proofs.Ybulkaam
open Go.RowKit Go.ChangeMaps

theorem size_setBlock (w : World) (b : Nat) (o : Obj) : (setBlock w b o).heap.size = w.heap.size := by simp [setBlock]
theorem heap_setBlock {w : World} {b : Nat} (h : b < w.heap.size) (o : Obj) : (setBlock w b o).heap[b]? = some o := by simp [setBlock, h]
theorem heap_setBlock_other (w : World) {b b' : Nat} (h : b ≠ b') (o : Obj) : (setBlock w b o).heap[b']? = w.heap[b']? := by simp [setBlock, h]
theorem grown_setBlock (w : World) (b : Nat) (o : Obj) : w.grownBy (setBlock w b o) (some b) :=
  ⟨rfl, rfl, rfl, Nat.le_of_eq (size_setBlock w b o).symm, fun k _ hk => heap_setBlock_other w (fun e => hk (by rw [e])) o⟩

/-! ### the entries of a map: the keys in the order in which they came, each with the number of its coming -/
section
variable {α : Type} (kf : α → Value)
def entl (val : Nat → Value) : Nat → List α → List MapEntry
  | _, [] => []
  | i, p :: ps => ⟨kf p, val i, i⟩ :: entl val (i + 1) ps
def ents (ks : List α) (val : Nat → Value) : Array MapEntry := (entl kf val 0 ks).toArray

theorem entl_len (val : Nat → Value) : ∀ (i : Nat) (ks : List α), (entl kf val i ks).length = ks.length
  | _, [] => rfl
  | i, _ :: ps => by simp [entl, entl_len val (i + 1) ps]
theorem entl_get (val : Nat → Value) : ∀ (i : Nat) (ks : List α) (j : Nat) (p : α), ks[j]? = some p → (entl kf val i ks)[j]? = some ⟨kf p, val (i + j), i + j⟩
  | _, [], _, _, h => by simp at h
  | i, q :: ps, 0, p, h => by simp at h; subst h; simp [entl]
  | i, q :: ps, j + 1, p, h => by
    simp at h
    simp only [entl, List.getElem?_cons_succ]
    rw [entl_get val (i + 1) ps j p h]
    have : i + 1 + j = i + (j + 1) := by omega
    rw [this]
theorem entl_snoc (val : Nat → Value) (p : α) : ∀ (i : Nat) (ks : List α), entl kf val i (ks ++ [p]) = entl kf val i ks ++ [⟨kf p, val (i + ks.length), i + ks.length⟩]
  | _, [] => rfl
  | i, q :: ps => by
    simp only [List.cons_append, entl, entl_snoc val p (i + 1) ps, List.length_cons]
    have : i + 1 + ps.length = i + (ps.length + 1) := by omega
    rw [this]
theorem ents_push (ks : List α) (val : Nat → Value) (p : α) : (ents kf ks val).push ⟨kf p, val ks.length, ks.length⟩ = ents kf (ks ++ [p]) val := by
  apply Array.ext'
  simp [ents, entl_snoc]
theorem ents_size (ks : List α) (val : Nat → Value) : (ents kf ks val).size = ks.length := by simp [ents, entl_len]
theorem ents_get {ks : List α} {val : Nat → Value} {j : Nat} {p : α} (h : ks[j]? = some p) : (ents kf ks val)[j]? = some ⟨kf p, val j, j⟩ := by
  have := entl_get kf val 0 ks j p h
  simpa [ents] using this
theorem entl_val {v v' : Nat → Value} : ∀ (i : Nat) (ks : List α), (∀ j, i ≤ j → j < i + ks.length → v j = v' j) → entl kf v i ks = entl kf v' i ks
  | _, [], _ => rfl
  | i, q :: ps, h => by
    simp only [entl, List.cons.injEq, MapEntry.mk.injEq, true_and, and_true]
    exact ⟨h i (Nat.le_refl _) (by simp), entl_val (i + 1) ps (fun j h1 h2 => h j (by omega) (by simp; omega))⟩
theorem ents_val {v v' : Nat → Value} (ks : List α) (h : ∀ j, j < ks.length → v j = v' j) : ents kf ks v = ents kf ks v' := by
  unfold ents; rw [entl_val kf 0 ks (fun j _ h2 => h j (by omega))]
theorem ents_born (ks : List α) (val : Nat → Value) : ((ents kf ks val).toList.map (·.born)) = List.range ks.length := by
  have : ∀ (i : Nat) (l : List α), (entl kf val i l).map (·.born) = List.range' i l.length := fun i l => by
    induction l generalizing i with
    | nil => rfl
    | cons a r ih => simp [entl, ih, List.range'_succ]
  simp only [ents]
  rw [this, List.range_eq_range']
theorem ents_mem {ks : List α} {val : Nat → Value} {e : MapEntry} (h : e ∈ (ents kf ks val).toList) : ∃ j p, ks[j]? = some p ∧ e = ⟨kf p, val j, j⟩ := by
  obtain ⟨j, hj⟩ := List.getElem?_of_mem h
  have hl : j < ks.length := by
    have := (List.getElem?_eq_some_iff.1 hj).1
    rwa [Array.length_toList, ents_size] at this
  have := ents_get kf (val := val) (List.getElem?_eq_getElem hl)
  rw [Array.getElem?_toList, this] at hj
  exact ⟨j, _, List.getElem?_eq_getElem hl, (Option.some.inj hj).symm⟩
end

/-! ### the keys of the slots: a pointer and a string -/
instance lawBytes : LawfulBEq ByteArray where
  eq_of_beq h := (MapKept.bytes_beq _ _).1 h
  rfl := (MapKept.bytes_beq _ _).2 rfl
abbrev skey (c : Nat) (s : ByteArray) : Value := .agg #[.pointer (some ⟨c, 0, none⟩), .string s]
theorem info54 : (Yba.prog.info? 54).map (fun i => i.size) = some 1 := by kernel_rfl
theorem info9s : (Yba.prog.info? 9).map (fun i => i.size) = some 1 := by kernel_rfl
theorem info58 : (Yba.prog.info? 58).isSome = true := by kernel_rfl
theorem eqIn61 (c : Nat) (p q : ByteArray) (w : World) (d : Nat) : (Op.equalIn (d + 2) 61 (skey c p) (skey c q)).run Yba.prog w = .ok (decide (p = q)) w := by
  obtain ⟨i, hi, hs⟩ := Option.map_eq_some_iff.1 info54
  obtain ⟨i9, hi9, hs9⟩ := Option.map_eq_some_iff.1 info9s
  obtain ⟨j, hj⟩ := Option.isSome_iff_exists.1 info58
  have hb : (p == q) = decide (p = q) := by
    by_cases h : p = q
    · rw [(MapKept.bytes_beq p q).2 h]; simp [h]
    · have : ¬ (p == q) = true := fun e => h ((MapKept.bytes_beq p q).1 e)
      simp only [Bool.not_eq_true] at this
      rw [this]; simp [h]
  simp [Op.equalIn, run_underlying Yba.underlying61, run_underlying Yba.underlying54, run_underlying Yba.underlying9, skey, part, typeInfo, hi, hs, hi9, hs9, hj, sizeOf, run_sameAddr_same, hb]
  split <;> simp_all
theorem eq61 (c : Nat) (p q : ByteArray) (w : World) : (Op.equal 61 (skey c p) (skey c q)).run Yba.prog w = .ok (decide (p = q)) w := eqIn61 c p q w 9998
theorem checkIn61 (em : Bool) (c : Nat) (p : ByteArray) (w : World) (d : Nat) : (Instr.checkKey em (d + 2) 61 (skey c p)).run Yba.prog w = .ok () w := by
  obtain ⟨i, hi, hs⟩ := Option.map_eq_some_iff.1 info54
  obtain ⟨i9, hi9, hs9⟩ := Option.map_eq_some_iff.1 info9s
  simp [Instr.checkKey, run_underlying Yba.underlying61, run_underlying Yba.underlying54, run_underlying Yba.underlying9, skey, part, typeInfo, hi, hs, hi9, hs9, sizeOf]
theorem check61 (em : Bool) (c : Nat) (p : ByteArray) (w : World) : (Instr.checkKey em 10000 61 (skey c p)).run Yba.prog w = .ok () w := checkIn61 em c p w 9998
theorem asking61 (c : Nat) (p : ByteArray) (w : World) (val : Nat → Value) : ∀ (i : Nat) (ks : List ByteArray),
    (Instr.findAsking 61 (skey c p) (entl (skey c) val i ks) i).run Yba.prog w = .ok (if p ∈ ks then some (i + ks.idxOf p, val (i + ks.idxOf p)) else none) w
  | i, [] => by simp [entl, Instr.findAsking]
  | i, q :: ps => by
    have ih := asking61 c p w val (i + 1) ps
    by_cases e : p = q
    · subst e
      simp [entl, Instr.findAsking, eq61 c p p w]
    · have e' : ¬ q = p := fun h => e h.symm
      have e2 : i + 1 + ps.idxOf p = i + (ps.idxOf p + 1) := by omega
      rw [e2] at ih
      have hq : (q == p) = false := by simpa using e'
      simp [entl, Instr.findAsking, eq61 c p q w, e, ih, List.idxOf_cons, hq]
theorem find61 (c : Nat) (p : ByteArray) (w : World) (val : Nat → Value) (ks : List ByteArray) :
    (Instr.findKey 61 (skey c p) (ents (skey c) ks val).toList).run Yba.prog w = .ok (if p ∈ ks then some (ks.idxOf p, val (ks.idxOf p)) else none) w := by
  cases ks with
  | nil => simp [Instr.findKey, run_underlying Yba.underlying61, ents, entl, Instr.findNow]
  | cons q ps =>
    have h := asking61 c p w val 0 (q :: ps)
    have hn : ∀ fs, Instr.findNow (.struct fs) (skey c p) (entl (skey c) val 0 (q :: ps)) 0 = none := fun fs => by simp [entl, Instr.findNow, Instr.sameNow]
    simp only [Nat.zero_add] at h
    simp [Instr.findKey, run_underlying Yba.underlying61, ents, hn, h]
theorem zero62 (w : World) : (zeroValue 62).run Yba.prog w = .ok (.pointer none) w := by kernel_rfl

theorem look61 {w : World} {b c k : Nat} {ks : List ByteArray} {val : Nat → Value} (hb : w.heap[b]? = some (.map (ents (skey c) ks val) k)) {p : ByteArray} (h : p ∈ ks) :
    (Instr.lookup 26 (.map (some b)) (skey c p) false).run Yba.prog w = .ok (val (ks.idxOf p)) w := by
  simp [Instr.lookup, run_underlying Yba.underlying26, MapKept.run_getObj_map hb, check61, find61, h, Result.andThen]
theorem lookNone61 {w : World} {b c k : Nat} {ks : List ByteArray} {val : Nat → Value} (hb : w.heap[b]? = some (.map (ents (skey c) ks val) k)) {p : ByteArray} (h : p ∉ ks) :
    (Instr.lookup 26 (.map (some b)) (skey c p) false).run Yba.prog w = .ok (.pointer none) w := by
  simp [Instr.lookup, run_underlying Yba.underlying26, MapKept.run_getObj_map hb, check61, find61, h, Result.andThen, zero62 w]
theorem put61 {w : World} {b c : Nat} {ks : List ByteArray} {val : Nat → Value} (hb : w.heap[b]? = some (.map (ents (skey c) ks val) ks.length)) {p : ByteArray} (h : p ∉ ks) :
    (Instr.mapUpdate 26 (.map (some b)) (skey c p) (val ks.length)).run Yba.prog w = .ok () (setBlock w b (.map (ents (skey c) (ks ++ [p]) val) (ks.length + 1))) := by
  have hp := ents_push (skey c) ks val p
  simp [Instr.mapUpdate, run_underlying Yba.underlying26, MapKept.run_getObj_map hb, check61, find61, h, hp, MapKept.run_setObj_map _ hb, Result.andThen, setBlock]

/-! ### the maps of int to bool: every value true -/
abbrev ikey (p : Int) : Value := .int .i64 p
abbrev ttrue : Nat → Value := fun _ => .bool true
abbrev ime (ks : List Int) : Array MapEntry := ents ikey ks ttrue
theorem now3 (p : Int) (val : Nat → Value) : ∀ (i : Nat) (ks : List Int),
    Instr.findNow (.int .i64) (ikey p) (entl ikey val i ks) i = some (if p ∈ ks then some (i + ks.idxOf p, val (i + ks.idxOf p)) else none)
  | i, [] => by simp [entl, Instr.findNow]
  | i, q :: ps => by
    have ih := now3 p val (i + 1) ps
    by_cases e : p = q
    · subst e
      simp [entl, Instr.findNow, Instr.sameNow]
    · have e' : ¬ q = p := fun h => e h.symm
      have e2 : i + 1 + ps.idxOf p = i + (ps.idxOf p + 1) := by omega
      rw [e2] at ih
      have hq : (q == p) = false := by simpa using e'
      have hp : (p == q) = false := by simpa using e
      simp [entl, Instr.findNow, Instr.sameNow, e, ih, List.idxOf_cons, hq, hp]
theorem find3 (p : Int) (w : World) (val : Nat → Value) (ks : List Int) :
    (Instr.findKey 3 (ikey p) (ents ikey ks val).toList).run Yba.prog w = .ok (if p ∈ ks then some (ks.idxOf p, val (ks.idxOf p)) else none) w := by
  have h := now3 p val 0 ks
  simp only [Nat.zero_add] at h
  simp [Instr.findKey, run_underlying Yba.underlying3, ents, h]
theorem check3 (em : Bool) (p : Int) (w : World) : (Instr.checkKey em 10000 3 (ikey p)).run Yba.prog w = .ok () w := by
  have : ∀ d, (Instr.checkKey em (d + 1) 3 (ikey p)).run Yba.prog w = .ok () w := fun d => by simp [Instr.checkKey, run_underlying Yba.underlying3]
  exact this 9999
theorem zero4 (w : World) : (zeroValue 4).run Yba.prog w = .ok (.bool false) w := by kernel_rfl
theorem stays3 (p : Int) (w : World) : (Instr.keyThatStays (ikey p) (ikey p)).run Yba.prog w = .ok (ikey p) w := by
  have : Instr.sameBits 10000 (ikey p) (ikey p) = true := by simp [Instr.sameBits]
  simp [Instr.keyThatStays, this]
theorem look3 {w : World} {b k : Nat} {ks : List Int} (hb : w.heap[b]? = some (.map (ime ks) k)) (p : Int) :
    (Instr.lookup 64 (.map (some b)) (.int .i64 p) false).run Yba.prog w = .ok (.bool (decide (p ∈ ks))) w := by
  by_cases h : p ∈ ks
  · simp [Instr.lookup, run_underlying Yba.underlying64, MapKept.run_getObj_map hb, check3, find3, h, Result.andThen]
  · simp [Instr.lookup, run_underlying Yba.underlying64, MapKept.run_getObj_map hb, check3, find3, h, Result.andThen, zero4 w]
def ins (p : Int) (ks : List Int) : List Int := if p ∈ ks then ks else ks ++ [p]
theorem mem_ins {p q : Int} {ks : List Int} : q ∈ ins p ks ↔ q = p ∨ q ∈ ks := by
  unfold ins; split
  · constructor
    · exact .inr
    · rintro (rfl | h) <;> assumption
  · simp [or_comm]
theorem put3 {w : World} {b : Nat} {ks : List Int} (hb : w.heap[b]? = some (.map (ime ks) ks.length)) (p : Int) :
    (Instr.mapUpdate 64 (.map (some b)) (.int .i64 p) (.bool true)).run Yba.prog w = .ok () (setBlock w b (.map (ime (ins p ks)) (ins p ks).length)) := by
  by_cases h : p ∈ ks
  · have hj : ks.idxOf p < ks.length := List.idxOf_lt_length_iff.2 h
    have hg : ks[ks.idxOf p]? = some p := by rw [List.getElem?_eq_getElem hj, List.getElem_idxOf hj]
    have he := ents_get ikey (val := ttrue) hg
    have hs : (ime ks).modify (ks.idxOf p) (fun _ => ⟨ikey p, .bool true, ks.idxOf p⟩) = ime ks := by
      apply Array.ext'
      apply List.ext_getElem?
      intro i
      simp only [Array.toList_modify, List.getElem?_modify]
      by_cases e : ks.idxOf p = i
      · subst e; rw [Array.getElem?_toList, he]; simp
      · simp [e]
    have hs' : (ime ks).modify (ks.idxOf p) (fun e => { e with key := ikey p, val := .bool true }) = ime ks := by
      apply Array.ext'
      apply List.ext_getElem?
      intro i
      simp only [Array.toList_modify, List.getElem?_modify]
      by_cases e : ks.idxOf p = i
      · subst e; rw [Array.getElem?_toList, he]; simp
      · simp [e]
    have hi : ins p ks = ks := by simp [ins, h]
    rw [hi]
    simp [Instr.mapUpdate, run_underlying Yba.underlying64, MapKept.run_getObj_map hb, check3, find3, h, he, stays3, hs', MapKept.run_setObj_map _ hb, Result.andThen, setBlock]
  · have hi : ins p ks = ks ++ [p] := by simp [ins, h]
    have hp := ents_push ikey ks ttrue p
    rw [hi]
    simp [Instr.mapUpdate, run_underlying Yba.underlying64, MapKept.run_getObj_map hb, check3, find3, h, hp, MapKept.run_setObj_map _ hb, Result.andThen, setBlock]
theorem ime_nil : ime [] = #[] := rfl
theorem len64 {w : World} {b k : Nat} {ks : List Int} (hb : w.heap[b]? = some (.map (ime ks) k)) (ty : TypeId) : (Builtin.len_ #[64] ty #[.map (some b)]).run Yba.prog w = .ok (.int .i64 ks.length) w := by
  have hu : Yba.prog.underlying 64 = some (.map (Yba.prog.mapKeyOf 64) (Yba.prog.mapElemOf 64)) := by kernel_rfl
  have := run_len_map (P := Yba.prog) (w := w) 64 ty b _ k hu hb
  simpa [goInt, ents_size] using this
theorem lenS {w : World} {b c k : Nat} {ks : List ByteArray} {val : Nat → Value} (hb : w.heap[b]? = some (.map (ents (skey c) ks val) k)) (ty : TypeId) : (Builtin.len_ #[26] ty #[.map (some b)]).run Yba.prog w = .ok (.int .i64 ks.length) w := by
  have hu : Yba.prog.underlying 26 = some (.map (Yba.prog.mapKeyOf 26) (Yba.prog.mapElemOf 26)) := by kernel_rfl
  have := run_len_map (P := Yba.prog) (w := w) 26 ty b _ k hu hb
  simpa [goInt, ents_size] using this
end Go.Proofs.Ybulkaam
