import Derived.Test.YbulkacqSt
import Derived.WideKeyEntry
namespace Go.Proofs.Ybulkacq
open Go.RowKit Go.ChangeMaps

abbrev key (p : Int × Int) : Value := .agg #[.int .i64 p.1, .int .i64 p.2]
theorem info3 : (Yba.prog.info? 3).map (fun i => (i.zero, i.size, i.bytes)) = some (some (.int .i64 0), 1, 8) := by kernel_rfl

theorem eqIn98 (p q : Int × Int) (w : World) (d : Nat) : (Op.equalIn (d + 2) 98 (key p) (key q)).run Yba.prog w = .ok (decide (p = q)) w := by
  obtain ⟨i, hi, hz, hs, hb⟩ := info_parts info3
  obtain ⟨a, b⟩ := p
  obtain ⟨a', b'⟩ := q
  simp [Op.equalIn, run_underlying Yba.underlying98, run_underlying Yba.underlying3, key, part, typeInfo, hi, hs, sizeOf]
  by_cases h1 : a = a' <;> by_cases h2 : b = b' <;> simp [h1, h2]
theorem eq98 (p q : Int × Int) (w : World) : (Op.equal 98 (key p) (key q)).run Yba.prog w = .ok (decide (p = q)) w := eqIn98 p q w 9998
theorem checkIn98 (em : Bool) (p : Int × Int) (w : World) (d : Nat) : (Instr.checkKey em (d + 2) 98 (key p)).run Yba.prog w = .ok () w := by
  obtain ⟨i, hi, hz, hs, hb⟩ := info_parts info3
  simp [Instr.checkKey, run_underlying Yba.underlying98, run_underlying Yba.underlying3, key, part, typeInfo, hi, hs, sizeOf]
theorem check98 (em : Bool) (p : Int × Int) (w : World) : (Instr.checkKey em 10000 98 (key p)).run Yba.prog w = .ok () w := checkIn98 em p w 9998
theorem stays98 (p : Int × Int) (w : World) : (Instr.keyThatStays (key p) (key p)).run Yba.prog w = .ok (key p) w := by
  have : Instr.sameBits 10000 (key p) (key p) = true := by
    have h : ∀ d, Instr.sameBits (d + 2) (key p) (key p) = true := fun d => by simp [Instr.sameBits]
    exact h 9998
  simp [Instr.keyThatStays, this]

/-- the entries: the keys in the order in which they came, each with the number of its coming -/
def entl (val : Nat → Value) : Nat → List (Int × Int) → List MapEntry
  | _, [] => []
  | i, p :: ps => ⟨key p, val i, i⟩ :: entl val (i + 1) ps
def ents (ks : List (Int × Int)) (val : Nat → Value) : Array MapEntry := (entl val 0 ks).toArray

theorem entl_len (val : Nat → Value) : ∀ (i : Nat) (ks : List (Int × Int)), (entl val i ks).length = ks.length
  | _, [] => rfl
  | i, _ :: ps => by simp [entl, entl_len val (i + 1) ps]
theorem entl_get (val : Nat → Value) : ∀ (i : Nat) (ks : List (Int × Int)) (j : Nat) (p : Int × Int), ks[j]? = some p → (entl val i ks)[j]? = some ⟨key p, val (i + j), i + j⟩
  | _, [], _, _, h => by simp at h
  | i, q :: ps, 0, p, h => by simp at h; subst h; simp [entl]
  | i, q :: ps, j + 1, p, h => by
    simp at h
    simp only [entl, List.getElem?_cons_succ]
    rw [entl_get val (i + 1) ps j p h]
    have : i + 1 + j = i + (j + 1) := by omega
    rw [this]
theorem entl_snoc (val : Nat → Value) (p : Int × Int) : ∀ (i : Nat) (ks : List (Int × Int)), entl val i (ks ++ [p]) = entl val i ks ++ [⟨key p, val (i + ks.length), i + ks.length⟩]
  | _, [] => rfl
  | i, q :: ps => by
    simp only [List.cons_append, entl, entl_snoc val p (i + 1) ps, List.length_cons]
    have : i + 1 + ps.length = i + (ps.length + 1) := by omega
    rw [this]
theorem ents_push (ks : List (Int × Int)) (val : Nat → Value) (p : Int × Int) : (ents ks val).push ⟨key p, val ks.length, ks.length⟩ = ents (ks ++ [p]) val := by
  apply Array.ext'
  simp [ents, entl_snoc]
theorem ents_size (ks : List (Int × Int)) (val : Nat → Value) : (ents ks val).size = ks.length := by simp [ents, entl_len]
theorem ents_get {ks : List (Int × Int)} {val : Nat → Value} {j : Nat} {p : Int × Int} (h : ks[j]? = some p) : (ents ks val)[j]? = some ⟨key p, val j, j⟩ := by
  have := entl_get val 0 ks j p h
  simpa [ents] using this

def put1 (val : Nat → Value) (j : Nat) (v : Value) : Nat → Value := fun i => if i = j then v else val i
theorem ents_set (ks : List (Int × Int)) (val : Nat → Value) (j : Nat) (v : Value) : (ents ks val).modify j (fun e => { e with val := v }) = ents ks (put1 val j v) := by
  apply Array.ext'
  apply List.ext_getElem?
  intro i
  simp only [Array.toList_modify, List.getElem?_modify]
  have e1 : ∀ v, (ents ks v).toList[i]? = (ks[i]?).map (fun p => ⟨key p, v i, i⟩) := fun v => by
    cases h : ks[i]? with
    | none =>
      have : ks.length ≤ i := List.getElem?_eq_none_iff.1 h
      rw [List.getElem?_eq_none_iff.2 (by rw [Array.length_toList, ents_size]; omega)]; rfl
    | some p =>
      have := ents_get (val := v) h
      rw [Array.getElem?_toList, this]; rfl
  rw [e1, e1]
  cases h : ks[i]? with
  | none => by_cases e : j = i <;> simp
  | some p => by_cases e : j = i <;> simp [put1, e, Ne.symm]

theorem asking (p : Int × Int) (w : World) (val : Nat → Value) : ∀ (i : Nat) (ks : List (Int × Int)),
    (Instr.findAsking 98 (key p) (entl val i ks) i).run Yba.prog w = .ok (if p ∈ ks then some (i + ks.idxOf p, val (i + ks.idxOf p)) else none) w
  | i, [] => by simp [entl, Instr.findAsking]
  | i, q :: ps => by
    have ih := asking p w val (i + 1) ps
    by_cases e : p = q
    · subst e
      simp [entl, Instr.findAsking, eq98 p p w]
    · have e' : ¬ q = p := fun h => e h.symm
      have e2 : i + 1 + ps.idxOf p = i + (ps.idxOf p + 1) := by omega
      rw [e2] at ih
      have hq : (q == p) = false := by simpa using e'
      simp [entl, Instr.findAsking, eq98 p q w, e, ih, List.idxOf_cons, hq]
theorem find98 (p : Int × Int) (w : World) (val : Nat → Value) (ks : List (Int × Int)) :
    (Instr.findKey 98 (key p) (ents ks val).toList).run Yba.prog w = .ok (if p ∈ ks then some (ks.idxOf p, val (ks.idxOf p)) else none) w := by
  cases ks with
  | nil => simp [Instr.findKey, run_underlying Yba.underlying98, ents, entl, Instr.findNow]
  | cons q ps =>
    have h := asking p w val 0 (q :: ps)
    have hn : ∀ fs, Instr.findNow (.struct fs) (key p) (entl val 0 (q :: ps)) 0 = none := fun fs => by simp [entl, Instr.findNow, Instr.sameNow]
    simp only [Nat.zero_add] at h
    simp [Instr.findKey, run_underlying Yba.underlying98, ents, hn, h]

def ins (p : Int × Int) (ks : List (Int × Int)) : List (Int × Int) := if p ∈ ks then ks else ks ++ [p]
theorem mem_ins (p : Int × Int) (ks : List (Int × Int)) : p ∈ ins p ks := by unfold ins; split <;> simp_all
theorem idx_ins_lt (p : Int × Int) (ks : List (Int × Int)) : (ins p ks).idxOf p < (ins p ks).length := List.idxOf_lt_length_iff.2 (mem_ins p ks)
theorem zero27 (w : World) : (zeroValue 27).run Yba.prog w = .ok (.slice none 0 0) w := by kernel_rfl

theorem entry98 {w : World} {b : Nat} {ks : List (Int × Int)} {val : Nat → Value} (hb : w.heap[b]? = some (.map (ents ks val) ks.length)) (hz : val ks.length = .slice none 0 0) (p : Int × Int) :
    (Instr.mapEntry 69 (.map (some b)) (key p)).run Yba.prog w = .ok (.tuple #[val ((ins p ks).idxOf p), goInt ((ins p ks).idxOf p : Nat)]) (setBlock w b (.map (ents (ins p ks) val) (ins p ks).length)) := by
  by_cases h : p ∈ ks
  · have hj : ks.idxOf p < ks.length := List.idxOf_lt_length_iff.2 h
    have hg : ks[ks.idxOf p]? = some p := by rw [List.getElem?_eq_getElem hj, List.getElem_idxOf hj]
    have he := ents_get (val := val) hg
    have hs : (ents ks val).modify (ks.idxOf p) (fun e => { e with key := key p }) = ents ks val := by
      apply Array.ext'
      apply List.ext_getElem?
      intro i
      simp only [Array.toList_modify, List.getElem?_modify]
      by_cases e : ks.idxOf p = i
      · subst e; rw [Array.getElem?_toList, he]; simp
      · simp [e]
    have hi : ins p ks = ks := by simp [ins, h]
    rw [hi]
    simp [Instr.mapEntry, run_underlying Yba.underlying69, MapKept.run_getObj_map hb, check98, find98, h, he, stays98, hs, MapKept.run_setObj_map _ hb, Result.andThen, setBlock]
  · have hi : ins p ks = ks ++ [p] := by simp [ins, h]
    have hx : (ks ++ [p]).idxOf p = ks.length := by rw [List.idxOf_append]; simp [h]
    have hp := ents_push ks val p
    rw [hz] at hp
    rw [hi, hx, hz]
    simp [Instr.mapEntry, run_underlying Yba.underlying69, MapKept.run_getObj_map hb, check98, find98, h, hp, MapKept.run_setObj_map _ hb, Result.andThen, setBlock]

theorem ents_idx {ks : List (Int × Int)} {val : Nat → Value} {j : Nat} (hj : j < ks.length) : (ents ks val).findIdx? (fun e => ((e.born : Nat) : Int) == (j : Int)) = some j := by
  rw [WideElems.findIdx_arr]
  have hg : (ents ks val).toList[j]? = some ⟨key ks[j], val j, j⟩ := by rw [Array.getElem?_toList]; exact ents_get (List.getElem?_eq_getElem hj)
  refine WideElems.findIdx_born (e0 := ⟨key ks[j], val j, j⟩) ?_ hg
  have : ∀ (i : Nat) (l : List (Int × Int)), (entl val i l).map (·.born) = List.range' i l.length := fun i l => by
    induction l generalizing i with
    | nil => rfl
    | cons a r ih => simp [entl, ih, List.range'_succ]
  simp only [ents]
  rw [this]
  exact List.nodup_range'

theorem store98 {w : World} {b : Nat} {ks : List (Int × Int)} {val : Nat → Value} (hb : w.heap[b]? = some (.map (ents ks val) ks.length)) {j : Nat} (hj : j < ks.length) (v : Value) :
    (Instr.entryStore 69 (.map (some b)) (goInt (j : Nat)) v).run Yba.prog w = .ok () (setBlock w b (.map (ents ks (put1 val j v)) ks.length)) := by
  simp [Instr.entryStore, MapKept.run_getObj_map hb, asInt, asIntOf, goInt, ents_idx hj, ents_set, MapKept.run_setObj_map _ hb, Result.andThen, setBlock]

theorem look98 {w : World} {b : Nat} {ks : List (Int × Int)} {val : Nat → Value} (hb : w.heap[b]? = some (.map (ents ks val) ks.length)) {p : Int × Int} (h : p ∈ ks) :
    (Instr.lookup 69 (.map (some b)) (key p) false).run Yba.prog w = .ok (val (ks.idxOf p)) w := by
  simp [Instr.lookup, run_underlying Yba.underlying69, MapKept.run_getObj_map hb, check98, find98, h, Result.andThen]
end Go.Proofs.Ybulkacq
