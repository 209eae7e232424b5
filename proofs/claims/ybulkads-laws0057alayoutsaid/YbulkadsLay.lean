import Derived.Test.YbulkadsTab
namespace Go.Proofs.Ybulkads
open Go.RowKit

theorem pow_bd (b : Nat) (h1 : 1 ≤ b) (h4 : b ≤ 4) : (1 : Int) ≤ 2 ^ b ∧ (2 : Int) ^ b ≤ 16 := by
  match b, h1, h4 with
  | 1, _, _ => decide
  | 2, _, _ => decide
  | 3, _, _ => decide
  | 4, _, _ => decide
theorem mul_bd {x p : Int} (h0 : 0 ≤ x) (h1 : x ≤ 161) (p1 : 1 ≤ p) (p2 : p ≤ 16) : 0 ≤ x * p ∧ x * p ≤ 2576 := by
  have a := Int.mul_nonneg h0 (by omega : 0 ≤ p)
  have b := Int.mul_le_mul h1 p2 (by omega) (by omega)
  omega
/-- the page of the first q nodes of a host -/
def pgTo (r : Nat → Int) (b : Nat) (l : List Nat) (q : Nat) : Int := (l.take q).foldl (fun p v => max p (r v * 2 ^ b)) 0
def pg (r : Nat → Int) (b : Nat) (l : List Nat) : Int := pgTo r b l l.length
theorem pg_succ (r : Nat → Int) (b : Nat) {l : List Nat} {q v : Nat} (h : l[q]? = some v) : pgTo r b l (q + 1) = max (pgTo r b l q) (r v * 2 ^ b) := by
  unfold pgTo
  rw [List.take_add_one, h]
  simp
theorem pg_bd (r : Nat → Int) (b : Nat) (h1 : 1 ≤ b) (h4 : b ≤ 4) (l : List Nat) (hr : ∀ v, 0 ≤ r v ∧ r v ≤ 161) : ∀ q, 0 ≤ pgTo r b l q ∧ pgTo r b l q ≤ 2576
  | 0 => by simp [pgTo]
  | q + 1 => by
    have ih := pg_bd r b h1 h4 l hr q
    cases h : l[q]? with
    | none =>
      have : l.take (q + 1) = l.take q := by rw [List.take_add_one, h]; simp
      unfold pgTo at *
      rw [this]; exact ih
    | some v =>
      rw [pg_succ r b h]
      have := mul_bd (hr v).1 (hr v).2 (pow_bd b h1 h4).1 (pow_bd b h1 h4).2
      omega
/-- where host j's pages begin -/
def bas (r : Nat → Int) (b : Nat) (hs : Nat → List Nat) : Nat → Int
  | 0 => 0
  | j + 1 => bas r b hs j + 2 * pg r b (hs j)
theorem bas_bd (r : Nat → Int) (b : Nat) (h1 : 1 ≤ b) (h4 : b ≤ 4) (hs : Nat → List Nat) (hr : ∀ v, 0 ≤ r v ∧ r v ≤ 161) : ∀ j, 0 ≤ bas r b hs j ∧ bas r b hs j ≤ 5152 * j
  | 0 => by simp [bas]
  | j + 1 => by
    have := bas_bd r b h1 h4 hs hr j
    have h2 := pg_bd r b h1 h4 (hs j) hr (hs j).length
    rw [bas]; unfold pg
    omega

/-- the hosts' nodes -/
structure Hn (O Cb bh h n : Nat) (hs : Nat → List Nat) (w : World) : Prop where
  c45 : w.cell? ⟨Cb, 45, none⟩ = some (.slice (some ⟨bh, 0, none⟩) h h)
  row : ∀ j, j < h → ∃ a cap, w.cell? ⟨bh, j, none⟩ = some (.slice a (hs j).length cap) ∧ ∀ q v : Nat, (hs j)[q]? = some v → ∃ p, a = some ⟨p, 0, none⟩ ∧ p ≠ O ∧ w.cell? ⟨p, q, none⟩ = some (.int .i32 v)
  lt : ∀ j q v : Nat, (hs j)[q]? = some v → v < n
  inj : ∀ j q j' q' v : Nat, (hs j)[q]? = some v → (hs j')[q']? = some v → j = j' ∧ q = q'
  ne : Cb ≠ O ∧ bh ≠ O
  len : ∀ j, (hs j).length ≤ n
theorem Hn.grown {O Cb bh h n : Nat} {hs : Nat → List Nat} {w w' : World} (H : Hn O Cb bh h n hs w) (g : w.grownBy w' (some O)) : Hn O Cb bh h n hs w' :=
  ⟨g.cell H.c45 (by have := H.ne.1; simpa using this), fun j hj => by
    obtain ⟨a, cap, h1, h2⟩ := H.row j hj
    refine ⟨a, cap, g.cell h1 (by have := H.ne.2; simpa using this), fun q v hv => ?_⟩
    obtain ⟨p, h3, h4, h5⟩ := h2 q v hv
    exact ⟨p, h3, h4, g.cell h5 (by simpa using h4)⟩, H.lt, H.inj, H.ne, H.len⟩

/-- what has been laid: hosts below j whole, the first q of host j -/
structure Ly (w wr : World) (O bi b n br bs : Nat) (r : Nat → Int) (hs : Nat → List Nat) (j q : Nat) : Prop where
  tb : Tb w wr O bi b n br bs r n
  ent : wr.cell? ⟨O, 15, none⟩ = some (.int .i64 (bas r b hs j))
  st : ∀ j' q' v : Nat, (j' < j ∨ j' = j ∧ q' < q) → (hs j')[q']? = some v → wr.cell? ⟨bs, v, none⟩ = some (.int .i64 (bas r b hs j' + (q' % 2 : Nat) * pg r b (hs j')))
section
variable {w wr : World} {O bi b n br bs : Nat} {r : Nat → Int} {hs : Nat → List Nat} {j q : Nat}
theorem Ly.grown (h : Ly w wr O bi b n br bs r hs j q) {w' : World} (g : wr.grownBy w' none) : Ly w w' O bi b n br bs r hs j q :=
  ⟨h.tb.grown g, g.cell h.ent (by simp), fun j' q' v hj hv => g.cell (h.st j' q' v hj hv) (by simp)⟩
theorem Ly.zero (h : Tb w wr O bi b n br bs r n) : Ly w (wr.setCell ⟨O, 15, none⟩ (.int .i64 0)) O bi b n br bs r hs 0 0 := by
  obtain ⟨_, _, _, _, ⟨z, h15⟩, _⟩ := h.look
  exact ⟨h.setE 0, World.cell?_setCell_same _ _ _ h15, fun j' q' v hj _ => by omega⟩
theorem Ly.put (h : Ly w wr O bi b n br bs r hs j q) {v : Nat} (hv : (hs j)[q]? = some v) (hlt : v < n) (inj : ∀ j q j' q' v : Nat, (hs j)[q]? = some v → (hs j')[q']? = some v → j = j' ∧ q = q') :
    Ly w (wr.setCell ⟨bs, v, none⟩ (.int .i64 (bas r b hs j + (q % 2 : Nat) * pg r b (hs j)))) O bi b n br bs r hs j (q + 1) := by
  have hne := h.tb.ne
  obtain ⟨_, _, _, _, _, _, _, _, _, xs⟩ := h.tb.look
  obtain ⟨v0, y0⟩ := xs v hlt
  refine ⟨h.tb.setS _ _, ?_, fun j' q' v' hj hv' => ?_⟩
  · rw [World.cell?_setCell_other _ _ _ _ (fun e => hne.2 (by injection e))]
    exact h.ent
  · by_cases e : v' = v
    · subst e
      obtain ⟨rfl, rfl⟩ := inj _ _ _ _ _ hv' hv
      exact World.cell?_setCell_same _ _ _ y0
    · rw [World.cell?_setCell_other _ _ _ _ (fun e2 => e (by injection e2 with _ e3; exact e3.symm))]
      refine h.st j' q' v' ?_ hv'
      rcases hj with hj | ⟨rfl, hj⟩
      · exact .inl hj
      · by_cases eq : q' = q
        · subst eq
          rw [hv] at hv'
          exact (e (by simpa using hv'.symm)).elim
        · exact .inr ⟨rfl, by omega⟩
theorem Ly.next (h : Ly w wr O bi b n br bs r hs j (hs j).length) : Ly w (wr.setCell ⟨O, 15, none⟩ (.int .i64 (bas r b hs j + 2 * pg r b (hs j)))) O bi b n br bs r hs (j + 1) 0 := by
  have hne := h.tb.ne
  refine ⟨h.tb.setE _, World.cell?_setCell_same _ _ _ h.ent, fun j' q' v hj hv => ?_⟩
  rw [World.cell?_setCell_other _ _ _ _ (fun e => hne.2 (by injection e with e _; exact e.symm))]
  refine h.st j' q' v ?_ hv
  rcases hj with hj | hj
  · by_cases e : j' = j
    · subst e; exact .inr ⟨rfl, (List.getElem?_eq_some_iff.1 hv).1⟩
    · exact .inl (by omega)
  · omega
end
end Go.Proofs.Ybulkads
