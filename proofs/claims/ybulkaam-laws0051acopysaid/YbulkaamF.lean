import Derived.Test.YbulkaamGb
namespace Go.Proofs.Ybulkaam
open Go.RowKit

section
variable {w0 w w' : World} {val : Nat → Nat → Value} {xs : Nat → Nat → List Value} {bg mg : Nat} {ad : Addr} {n : Nat} {N : List ByteArray} {Z : Nat → List Int}

theorem G.upd (g : G w0 w val xs bg mg ad n N Z) {k y : Nat} {v : Value} {l : List Value} (hk : 4 ≤ k) (S : St w0 w' (upd val k y v) tyf (upd xs k y l)) (hm : w'.heap[mg]? = some (.map #[] 0)) :
    G w0 w' (Ybulkaam.upd val k y v) (Ybulkaam.upd xs k y l) bg mg ad n N Z := by
  have e3 : Ybulkaam.upd val k y v 3 = val 3 := funext fun z => upd_other _ _ _ _ (by omega)
  refine ⟨S, ?_, ?_, hm, ?_, ?_, ?_, ?_, g.hn⟩
  · rw [upd_other _ _ _ _ (by omega)]; exact g.hS
  · rw [upd_other _ _ _ _ (by omega), upd_other _ _ _ _ (by omega), upd_other _ _ _ _ (by omega)]; exact g.hx
  · rw [upd_other _ _ _ _ (by omega)]; exact g.hN
  · rw [upd_other _ _ _ _ (by omega), e3]; exact g.hA
  · intro z; rw [upd_other _ _ _ _ (by omega)]; exact g.hR z
  · intro z hz; rw [e3]; exact g.hU z hz

theorem St.cloned (S : St w0 w val tyf xs) {k y : Nat} {v : Value} {ys : List Value} {e : TypeId} (he : tyf k = e) (c : Cloned w w' e v ys) : St w0 w' (Ybulkaam.upd val k y v) tyf (Ybulkaam.upd xs k y ys) := by
  refine S.put c.1 (.inl rfl) ?_ (fun b hb => .inr (c.2.lt b hb).1)
  rw [he]
  refine ⟨c.2.1, ?_⟩
  rcases c.2.2 with h | ⟨g, cap, cur, h1, h2, h3⟩
  · exact .inl h
  · exact .inr ⟨g, cap, cur, h1, Nat.le_trans S.bel.size h2, h3⟩

theorem grown_map {m c : Nat} {es : Array MapEntry} (g : w.grownBy w' none) (h : w.heap[m]? = some (.map es c)) : w'.heap[m]? = some (.map es c) :=
  (g.block m (Array.getElem?_eq_some_iff.1 h).1 (by simp)).trans h

/-- the snapshots: of the names, and of the arrows out of the first k nodes -/
structure Sn (w0 w : World) (val : Nat → Nat → Value) (xs : Nat → Nat → List Value) (bg mg : Nat) (ad : Addr) (n : Nat) (N : List ByteArray) (Z : Nat → List Int) (bs k : Nat) : Prop where
  g : G w0 w val xs bg mg ad n N Z
  s8 : xs 8 0 = strs N
  v9 : val 9 0 = .slice (some ⟨bs, 0, none⟩) n n
  s9 : xs 9 0 = (List.range n).map (fun y => if y < k then val 10 y else .slice none 0 0)
  s10 : ∀ y, y < k → xs 10 y = ints (Z y)

theorem Sn.kept {bs k : Nat} (s : Sn w0 w val xs bg mg ad n N Z bs k) (h : w.grownBy w' none) : Sn w0 w' val xs bg mg ad n N Z bs k := ⟨s.g.kept h, s.s8, s.v9, s.s9, s.s10⟩

theorem Sn.born (g : G w0 w val xs bg mg ad n N Z) (s8 : xs 8 0 = strs N) (hn : n ≤ 4096) : ∃ val' xs', val' 8 0 = val 8 0 ∧ Sn w0 (w.alloc (.cells (reps n (.slice none 0 0)) 44)) val' xs' bg mg ad n N Z w.heap.size 0 := by
  have S := g.st.fresh 9 (reps n (.slice none 0 0)) 44 rfl (by rw [size_reps]; simp only [maxLen]; omega)
  rw [size_reps, reps_toList] at S
  refine ⟨_, _, by rw [upd_other _ _ _ _ (by omega)], g.upd (by omega) S (grown_map (World.grownBy_alloc w _ none) g.hm), ?_, ?_, ?_, fun y hy => by omega⟩
  · rw [upd_other _ _ _ _ (by omega)]; exact s8
  · rw [upd_same]
  · rw [upd_same]
    apply List.ext_getElem?
    intro i
    by_cases h : i < n <;> simp [h]

/-- snapArrows[k] = v, v a clone of g.arrows[k] -/
theorem Sn.step {bs k : Nat} (s : Sn w0 w val xs bg mg ad n N Z bs k) (hk : k < n) {v : Value} (c : Cloned w w' 3 v (ints (Z k))) :
    ∃ val' xs', val' 8 0 = val 8 0 ∧ Sn w0 (w'.setCell ⟨bs, k, none⟩ v) val' xs' bg mg ad n N Z bs (k + 1) := by
  have S1 := s.g.st.cloned (k := 10) (y := k) rfl c
  have g1 := s.g.upd (by omega) S1 (grown_map c.1 s.g.hm)
  have v9 : upd val 10 k v 9 0 = .slice (some ⟨bs, 0, none⟩) n n := by rw [upd_other _ _ _ _ (by omega)]; exact s.v9
  have x9 : upd xs 10 k (ints (Z k)) 9 0 = (List.range n).map (fun y => if y < k then val 10 y else .slice none 0 0) := by rw [upd_other _ _ _ _ (by omega)]; exact s.s9
  have S2 := S1.set v9 (i := k) (by rw [x9]; simp [hk]) v
  have hself : upd (upd val 10 k v) 9 0 (upd val 10 k v 9 0) = upd val 10 k v := by
    funext a b
    by_cases h : a = 9 ∧ b = 0
    · obtain ⟨rfl, rfl⟩ := h; rw [upd_same]
    · rw [upd_other _ _ _ _ h]
  rw [← hself] at S2
  have hm2 : (w'.setCell ⟨bs, k, none⟩ v).heap[mg]? = some (.map #[] 0) := by
    rw [Below.heap_setCell _ _ _ _ (fun e => by
      have := S1.notMap (grown_map c.1 s.g.hm) 9 0
      rw [v9] at this
      exact this (by rw [e]; rfl))]
    exact grown_map c.1 s.g.hm
  have g2 := g1.upd (by omega) S2 hm2
  rw [hself] at g2
  refine ⟨_, _, by rw [upd_other _ _ _ _ (by omega)], g2, ?_, v9, ?_, ?_⟩
  · rw [upd_other _ _ _ _ (by omega), upd_other _ _ _ _ (by omega)]; exact s.s8
  · rw [upd_same, x9]
    apply List.ext_getElem?
    intro i
    by_cases hi : i < n
    · by_cases e : k = i
      · subst e; simp [hk, upd_same]
      · have : (i < k + 1) = (i < k) := by apply propext; omega
        simp [hi, e, this, upd_other val 10 k v (k' := 10) (y' := i) (by omega)]
    · by_cases e : k = i
      · omega
      · simp [hi]
  · intro y hy
    rw [upd_other _ _ _ _ (by omega)]
    by_cases e : y = k
    · subst e; rw [upd_same]
    · rw [upd_other _ _ _ _ (by omega)]; exact s.s10 y (by omega)
end
end Go.Proofs.Ybulkaam
