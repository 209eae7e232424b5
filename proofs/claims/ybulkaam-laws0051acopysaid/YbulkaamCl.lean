import Derived.Test.YbulkaamClip
import Derived.Deep.RegionHeld3
namespace Go.Proofs.Ybulkaam
open Go.RowKit

def tyf : Nat → TypeId
  | 0 => 28 | 1 => 9 | 2 => 44 | 3 => 3 | 4 => 28 | 5 => 9 | 6 => 44 | 7 => 3 | 8 => 9 | 9 => 44 | _ => 3

theorem kc {w : World} {o : Obj} {x : Addr} {v : Value} (h : w.cell? x = some v) : (w.alloc o).cell? x = some v :=
  (World.cell?_of_block (w := w) (Below.heap_alloc w o _ (World.block_lt_of_cell? w _ h))).trans h
theorem kh {w : World} {o : Obj} {m : Nat} {x : Obj} (h : w.heap[m]? = some x) : (w.alloc o).heap[m]? = some x :=
  (Below.heap_alloc w o m (Array.getElem?_eq_some_iff.1 h).1).trans h

theorem len26 (w : World) (m : Nat) (ty : TypeId) (h : w.heap[m]? = some (.map #[] 0)) : (Builtin.len_ #[26] ty #[.map (some m)]).run Yba.prog w = .ok (.int .i64 0) w := by
  have hu : Yba.prog.underlying 26 = some (.map (Yba.prog.mapKeyOf 26) (Yba.prog.mapElemOf 26)) := by kernel_rfl
  have := run_len_map (P := Yba.prog) (w := w) 26 ty m #[] 0 hu h
  simpa [goInt] using this

def CS (bg mg : Nat) (d vN vA : Value) (w : World) : Prop :=
  w.cell? ⟨bg, 0, none⟩ = some d ∧ w.cell? ⟨bg, 1, none⟩ = some vN ∧ w.cell? ⟨bg, 2, none⟩ = some vA ∧ w.cell? ⟨bg, 3, none⟩ = some (.map (some mg)) ∧ w.heap[mg]? = some (.map #[] 0)
theorem CS.alloc {bg mg d vN vA w} (h : CS bg mg d vN vA w) (o : Obj) : CS bg mg d vN vA (w.alloc o) := ⟨kc h.1, kc h.2.1, kc h.2.2.1, kc h.2.2.2.1, kh h.2.2.2.2⟩

theorem St.notMap {w0 w : World} {val : Nat → Nat → Value} {ty : Nat → TypeId} {xs : Nat → Nat → List Value} (S : St w0 w val ty xs) {m c : Nat} {es : Array MapEntry} (h : w.heap[m]? = some (.map es c)) (k y : Nat) : (val k y).ownBlock ≠ some m := by
  intro e
  rcases (S.owns k y).2 with ⟨h0, _⟩ | ⟨g', cap', cur, hv', _, hg, _⟩
  · rw [h0] at e; cases e
  · rw [hv'] at e
    simp [Value.ownBlock] at e
    subst e
    rw [hg] at h
    cases h
theorem Aside.map {w w' w0 : World} {val : Nat → Nat → Value} {ty : Nat → TypeId} {xs : Nat → Nat → List Value} (A : Aside w w' val) (S : St w0 w val ty xs) {m c : Nat} {es : Array MapEntry} (h : w.heap[m]? = some (.map es c)) : w'.heap[m]? = some (.map es c) :=
  (A m (Array.getElem?_eq_some_iff.1 h).1 (S.notMap h)).trans h

/-- the clone's struct and its arrows, the first k of them laid -/
def caRow (val : Nat → Nat → Value) (n k : Nat) : List Value := (List.range n).map (fun y => if y < k then clip (val 3 y) else .slice none 0 0)
theorem caRow_zero (val : Nat → Nat → Value) (n : Nat) : caRow val n 0 = List.replicate n (.slice none 0 0) := by
  apply List.ext_getElem?
  intro i
  by_cases h : i < n <;> simp [caRow, h]
theorem caRow_set (val : Nat → Nat → Value) (n k : Nat) (_h : k < n) : (caRow val n k).set k (clip (val 3 k)) = caRow val n (k + 1) := by
  apply List.ext_getElem?
  intro i
  by_cases hi : i < n
  · by_cases e : k = i
    · subst e; simp [caRow, hi]
    · have : (i < k + 1) = (i < k) := by apply propext; omega
      simp [caRow, hi, e, this]
  · by_cases e : k = i
    · omega
    · simp [caRow, hi]
theorem caRow_len (val : Nat → Nat → Value) (n k : Nat) : (caRow val n k).length = n := by simp [caRow]

structure CL (w0 w wc : World) (val : Nat → Nat → Value) (xs : Nat → Nat → List Value) (ad : Addr) (n k bc ca mg mc : Nat) : Prop where
  st : St w0 wc (upd (upd val 6 0 (.slice (some ⟨ca, 0, none⟩) n n)) 4 0 (.slice (some ⟨bc, 0, none⟩) 4 4)) tyf (upd (upd xs 6 0 (caRow val n k)) 4 0 [.pointer (some ad), clip (val 1 0), .slice (some ⟨ca, 0, none⟩) n n, .map (some mc)])
  mg : wc.heap[mg]? = some (.map #[] 0)
  mc : wc.heap[mc]? = some (.map #[] 0)
  aside : Aside w wc val
  size : w.heap.size ≤ wc.heap.size

theorem reps_toList (n : Nat) (z : Value) : (reps n z).toList = List.replicate n z := by simp [reps]

theorem clone_bornA {w0 w : World} {val : Nat → Nat → Value} {xs : Nat → Nat → List Value} (S : St w0 w val tyf xs) (mg n : Nat) (ad : Addr) (hm : w.heap[mg]? = some (.map #[] 0)) (hn : n ≤ 256) :
    CL w0 w (((w.alloc (.cells (reps n (.slice none 0 0)) 44)).alloc (.map #[] 0)).alloc (.cells #[.pointer (some ad), clip (val 1 0), .slice (some ⟨w.heap.size, 0, none⟩) n n, .map (some (w.heap.size + 1))] 28)).drew val xs ad n 0 (w.heap.size + 1 + 1) w.heap.size mg (w.heap.size + 1) := by
  have S1 := S.fresh 6 (reps n (.slice none 0 0)) 44 rfl (by rw [size_reps]; simp only [maxLen]; omega)
  rw [size_reps, reps_toList, ← caRow_zero val n] at S1
  have S2 := S1.alloc (.map #[] 0)
  have S3 := (S2.fresh 4 #[.pointer (some ad), clip (val 1 0), .slice (some ⟨w.heap.size, 0, none⟩) n n, .map (some (w.heap.size + 1))] 28 rfl (by simp [maxLen])).drew
  simp only [World.size_alloc] at S3
  refine ⟨S3, kh (kh (kh hm)), ?_, ?_, by show w.heap.size ≤ (((w.heap.push _).push _).push _).size; simp; omega⟩
  · show ((((w.heap.push _).push _).push _))[_]? = _
    simp only [Array.getElem?_push, Array.size_push]; simp
  · exact fun b hb _ => (Below.heap_alloc _ _ b (by simp; omega)).trans ((Below.heap_alloc _ _ b (by simp; omega)).trans (Below.heap_alloc w _ b hb))
theorem clone_bornB {w0 w : World} {val : Nat → Nat → Value} {xs : Nat → Nat → List Value} (S : St w0 w val tyf xs) (mg n : Nat) (ad : Addr) (hm : w.heap[mg]? = some (.map #[] 0)) (hn : n ≤ 256) :
    CL w0 w (((w.alloc (.map #[] 0)).alloc (.cells (reps n (.slice none 0 0)) 44)).alloc (.cells #[.pointer (some ad), clip (val 1 0), .slice (some ⟨w.heap.size + 1, 0, none⟩) n n, .map (some w.heap.size)] 28)).drew val xs ad n 0 (w.heap.size + 1 + 1) (w.heap.size + 1) mg w.heap.size := by
  have S1 := (S.alloc (.map #[] 0)).fresh 6 (reps n (.slice none 0 0)) 44 rfl (by rw [size_reps]; simp only [maxLen]; omega)
  rw [size_reps, reps_toList, ← caRow_zero val n] at S1
  simp only [World.size_alloc] at S1
  have S3 := (S1.fresh 4 #[.pointer (some ad), clip (val 1 0), .slice (some ⟨w.heap.size + 1, 0, none⟩) n n, .map (some w.heap.size)] 28 rfl (by simp [maxLen])).drew
  simp only [World.size_alloc] at S3
  refine ⟨S3, kh (kh (kh hm)), ?_, ?_, by show w.heap.size ≤ (((w.heap.push _).push _).push _).size; simp; omega⟩
  · show ((((w.heap.push _).push _).push _))[_]? = _
    simp only [Array.getElem?_push, Array.size_push]; simp <;> omega
  · exact fun b hb _ => (Below.heap_alloc _ _ b (by simp; omega)).trans ((Below.heap_alloc _ _ b (by simp; omega)).trans (Below.heap_alloc w _ b hb))


theorem upd_set {α : Type} (f : Nat → Nat → α) (x x' z : α) : upd (upd (upd f 6 0 x) 4 0 z) 6 0 x' = upd (upd f 6 0 x') 4 0 z := by
  funext k y
  by_cases h1 : k = 6 ∧ y = 0
  · obtain ⟨rfl, rfl⟩ := h1; rw [upd_same, upd_other _ _ _ _ (by omega), upd_same]
  · by_cases h2 : k = 4 ∧ y = 0
    · obtain ⟨rfl, rfl⟩ := h2; rw [upd_other _ _ _ _ h1, upd_same, upd_same]
    · rw [upd_other _ _ _ _ h1, upd_other _ _ _ _ h2, upd_other _ _ _ _ h1, upd_other _ _ _ _ h2, upd_other _ _ _ _ h1]

section
variable {w0 w wr : World} {val : Nat → Nat → Value} {xs : Nat → Nat → List Value} {ad : Addr} {n k bc ca mg mc : Nat}
theorem CL.hca (_h : CL w0 w wr val xs ad n k bc ca mg mc) : upd (upd val 6 0 (.slice (some ⟨ca, 0, none⟩) n n)) 4 0 (.slice (some ⟨bc, 0, none⟩) 4 4) 6 0 = .slice (some ⟨ca, 0, none⟩) n n := by
  rw [upd_other _ _ _ _ (by omega), upd_same]
theorem CL.hbc (_h : CL w0 w wr val xs ad n k bc ca mg mc) : upd (upd val 6 0 (.slice (some ⟨ca, 0, none⟩) n n)) 4 0 (.slice (some ⟨bc, 0, none⟩) 4 4) 4 0 = .slice (some ⟨bc, 0, none⟩) 4 4 := by
  rw [upd_same]
theorem CL.old (h : CL w0 w wr val xs ad n k bc ca mg mc) {j y b l c i : Nat} {v : Value} (hj : j ≠ 6 ∧ j ≠ 4) (hv : val j y = .slice (some ⟨b, 0, none⟩) l c) (hx : (xs j y)[i]? = some v) : wr.cell? ⟨b, i, none⟩ = some v :=
  h.st.cell (k := j) (y := y) (by rw [upd_other _ _ _ _ (by omega), upd_other _ _ _ _ (by omega)]; exact hv) (by rw [upd_other _ _ _ _ (by omega), upd_other _ _ _ _ (by omega)]; exact hx)
theorem CL.cell2 (h : CL w0 w wr val xs ad n k bc ca mg mc) : wr.cell? ⟨bc, 2, none⟩ = some (.slice (some ⟨ca, 0, none⟩) n n) := h.st.cell h.hbc (by rw [upd_same]; rfl)
theorem CL.cellA (h : CL w0 w wr val xs ad n k bc ca mg mc) {i : Nat} (hi : i < n) : ∃ v, wr.cell? ⟨ca, i, none⟩ = some v := by
  have hl : i < (caRow val n k).length := by rw [caRow_len]; exact hi
  exact ⟨_, h.st.cell (i := i) h.hca (by rw [upd_other _ _ _ _ (by omega), upd_same]; exact List.getElem?_eq_getElem hl)⟩
theorem CL.frzA (h : CL w0 w wr val xs ad n k bc ca mg mc) (i : Nat) : wr.frozen? ⟨ca, i, none⟩ = false := h.st.frozen i h.hca
theorem CL.grown (h : CL w0 w wr val xs ad n k bc ca mg mc) {w2 : World} (g : wr.grownBy w2 none) : CL w0 w w2 val xs ad n k bc ca mg mc :=
  ⟨h.st.kept g, (g.block mg (Array.getElem?_eq_some_iff.1 h.mg).1 (by simp)).trans h.mg, (g.block mc (Array.getElem?_eq_some_iff.1 h.mc).1 (by simp)).trans h.mc, h.aside.grown g h.size (by simp), Nat.le_trans h.size g.size⟩
theorem CL.step (h : CL w0 w wr val xs ad n k bc ca mg mc) (hk : k < n) (hca : w.heap.size ≤ ca) : CL w0 w (wr.setCell ⟨ca, k, none⟩ (clip (val 3 k))) val xs ad n (k + 1) bc ca mg mc := by
  have hx : upd (upd xs 6 0 (caRow val n k)) 4 0 [.pointer (some ad), clip (val 1 0), .slice (some ⟨ca, 0, none⟩) n n, .map (some mc)] 6 0 = caRow val n k := by rw [upd_other _ _ _ _ (by omega), upd_same]
  have S2 := h.st.set h.hca (i := k) (by rw [hx, caRow_len]; exact hk) (clip (val 3 k))
  rw [hx, caRow_set val n k hk, upd_set] at S2
  have hm : ∀ m : Nat, wr.heap[m]? = some (Obj.map #[] 0) → (wr.setCell ⟨ca, k, none⟩ (clip (val 3 k))).heap[m]? = some (Obj.map #[] 0) := fun m hm => by
    rw [Below.heap_setCell _ _ _ _ (fun e => by
      have := h.st.notMap hm 6 0
      rw [h.hca] at this
      exact this (by rw [e]; rfl))]
    exact hm
  refine ⟨S2, hm mg h.mg, hm mc h.mc, ?_, by simpa using h.size⟩
  exact h.aside.grown (grown_setCell wr ⟨ca, k, none⟩ _) h.size (fun b hb => .inr (by simp at hb; omega))
end
end Go.Proofs.Ybulkaam
