import Derived.Test.YbulkaamGClone
namespace Go.Proofs.Ybulkaam
open Go.RowKit

/-- the graph g: n nodes named N, the arrows out of node y: Z y -/
structure G (w0 w : World) (val : Nat → Nat → Value) (xs : Nat → Nat → List Value) (bg mg : Nat) (ad : Addr) (n : Nat) (N : List ByteArray) (Z : Nat → List Int) : Prop where
  st : St w0 w val tyf xs
  hS : val 0 0 = .slice (some ⟨bg, 0, none⟩) 4 4
  hx : xs 0 0 = [.pointer (some ad), val 1 0, val 2 0, .map (some mg)]
  hm : w.heap[mg]? = some (.map #[] 0)
  hN : xs 1 0 = strs N
  hA : xs 2 0 = (List.range n).map (val 3)
  hR : ∀ y, xs 3 y = ints (Z y)
  hU : ∀ y, n ≤ y → val 3 y = .slice none 0 0
  hn : N.length = n

theorem strs_snoc (N : List ByteArray) (s : ByteArray) : strs N ++ [.string s] = strs (N ++ [s]) := by simp [strs]
theorem ints_snoc (Z : List Int) (s : Int) : ints Z ++ [.int .i64 s] = ints (Z ++ [s]) := by simp [ints]

section
variable {w0 w : World} {val : Nat → Nat → Value} {xs : Nat → Nat → List Value} {bg mg : Nat} {ad : Addr} {n : Nat} {N : List ByteArray} {Z : Nat → List Int}

theorem G.kept (g : G w0 w val xs bg mg ad n N Z) {w' : World} (h : w.grownBy w' none) : G w0 w' val xs bg mg ad n N Z :=
  ⟨g.st.kept h, g.hS, g.hx, (h.block mg (Array.getElem?_eq_some_iff.1 g.hm).1 (by simp)).trans g.hm, g.hN, g.hA, g.hR, g.hU, g.hn⟩

theorem G.node (g : G w0 w val xs bg mg ad n N Z) (hn : n ≤ 4000) (nm : ByteArray) :
    Calls Yba.prog 8 #[.pointer (some ⟨bg, 0, none⟩), .string nm] w fun e w' => e = .returned (.int .i64 n) ∧ ∃ val' xs', G w0 w' val' xs' bg mg ad (n + 1) (N ++ [nm]) Z := by
  refine (node_st g.st 0 1 2 bg (.pointer (some ad)) (val 1 0) (.map (some mg)) (xs 1 0) (val 1 0).ownBlock nm g.hS g.hx (.inl ⟨g.st.owns 1 0, rfl⟩) (.inr rfl) rfl rfl (by omega) (by omega) (by omega) (by rw [g.hN, len_strs, g.hn]; omega) (by rw [g.hA]; simp; omega)).mono ?_
  rintro e w' ⟨rfl, val', xs', S, A, r1, r2, r3, r4, r5, r6⟩
  have h3 : val' 3 = val 3 := funext fun y => r5 3 y (by omega) (by omega)
  refine ⟨by rw [g.hN, len_strs, g.hn], val', xs', S, r4, r3, A.map g.st g.hm, by rw [r1, g.hN, strs_snoc], ?_, fun y => by rw [r6 3 y (by omega) (by omega) (by omega)]; exact g.hR y, fun y hy => by rw [h3]; exact g.hU y (by omega), by simp [g.hn]⟩
  rw [r2, g.hA, h3, List.range_succ, List.map_append, List.map_cons, List.map_nil, g.hU n (Nat.le_refl _)]

theorem set_range (f f' : Nat → Value) (n a : Nat) (h : ∀ y, y ≠ a → f' y = f y) : ((List.range n).map f).set a (f' a) = (List.range n).map f' := by
  apply List.ext_getElem?
  intro i
  by_cases hi : i < n
  · by_cases e : a = i
    · subst e; simp [hi]
    · simp [hi, e, h i (fun h => e h.symm)]
  · by_cases e : a = i
    · subst e; simp [hi]
    · simp [hi]

theorem G.arrow (g : G w0 w val xs bg mg ad n N Z) (hn : n ≤ 4000) (a b : Nat) (ha : a < n) (hl : (Z a).length ≤ 4000) :
    Calls Yba.prog 9 #[.pointer (some ⟨bg, 0, none⟩), .int .i64 a, .int .i64 b] w fun e w' => e = .returned (.tuple #[]) ∧ ∃ val' xs', G w0 w' val' xs' bg mg ad n N (fun y => if y = a ∧ a ≠ b then Z a ++ [(b : Int)] else Z y) := by
  by_cases e : a = b
  · subst e
    refine (arrow_same _ a w).mono ?_
    rintro e w' ⟨rfl, rfl⟩
    exact ⟨rfl, val, xs, g.st, g.hS, g.hx, g.hm, g.hN, g.hA, fun y => by rw [if_neg (by simp)]; exact g.hR y, g.hU, g.hn⟩
  · obtain ⟨ga, cA, hvA⟩ := g.st.form (k := 2) (y := 0) (by rw [g.hA]; simp; omega)
    have hlen : (xs 2 0).length = n := by rw [g.hA]; simp
    rw [hlen] at hvA
    refine (arrow_st g.st 0 2 3 bg ga n cA a b (.pointer (some ad)) (val 1 0) (.map (some mg)) (val 3 a) (xs 3 a) (val 3 a).ownBlock g.hS g.hx hvA (by rw [g.hA]; simp [ha]) (.inl ⟨g.st.owns 3 a, rfl⟩) (.inr rfl) rfl (by omega) (by omega) ha e (by rw [g.hR, len_ints]; omega)).mono ?_
    rintro e' w' ⟨rfl, val', xs', S, A, r1, r2, r3, r4⟩
    have h3 : ∀ y, y ≠ a → val' 3 y = val 3 y := fun y hy => r3 3 y (by omega)
    refine ⟨rfl, val', xs', S, ?_, ?_, A.map g.st g.hm, ?_, ?_, ?_, fun y hy => by rw [h3 y (by omega)]; exact g.hU y hy, g.hn⟩
    · rw [r3 0 0 (by omega)]; exact g.hS
    · rw [r4 0 0 (by omega) (by omega), r3 1 0 (by omega), r3 2 0 (by omega)]; exact g.hx
    · rw [r4 1 0 (by omega) (by omega)]; exact g.hN
    · rw [r2, g.hA]; exact set_range (val 3) (val' 3) n a h3
    · intro y
      by_cases hy : y = a
      · subst hy; rw [if_pos ⟨rfl, e⟩, r1, g.hR, ints_snoc]
      · rw [if_neg (fun h => hy h.1), r4 3 y (by omega) (by omega)]; exact g.hR y
end
end Go.Proofs.Ybulkaam
