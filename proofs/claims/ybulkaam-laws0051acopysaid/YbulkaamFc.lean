import Derived.Test.YbulkaamF
namespace Go.Proofs.Ybulkaam
open Go.RowKit

def s1 (n y : Nat) : Nat := (y + 1) % n
def s2 (n y : Nat) : Nat := (y + 2) % n

/-- g and its clone c, the arrows of the law drawn on the first kc nodes of c and the first kg of g -/
structure F (w0 w : World) (val : Nat → Nat → Value) (xs : Nat → Nat → List Value) (bg mg : Nat) (ad : Addr) (n : Nat) (N : List ByteArray) (Z : Nat → List Int) (bs bc mc kc kg : Nat) : Prop where
  st : St w0 w val tyf xs
  hS : val 0 0 = .slice (some ⟨bg, 0, none⟩) 4 4
  hx : xs 0 0 = [.pointer (some ad), val 1 0, val 2 0, .map (some mg)]
  hm : w.heap[mg]? = some (.map #[] 0)
  hN : xs 1 0 = strs N
  hA : xs 2 0 = (List.range n).map (val 3)
  hR : ∀ y, xs 3 y = ints (if y < kg then Z y ++ [(s2 n y : Int)] else Z y)
  hn : N.length = n
  hC : val 4 0 = .slice (some ⟨bc, 0, none⟩) 4 4
  hxC : xs 4 0 = [.pointer (some ad), clip (val 1 0), val 6 0, .map (some mc)]
  hmc : w.heap[mc]? = some (.map #[] 0)
  h6 : xs 6 0 = (List.range n).map (fun y => if y < kc then val 7 y else clip (val 3 y))
  v6 : ∃ ca, val 6 0 = .slice (some ⟨ca, 0, none⟩) n n
  h7 : ∀ y, y < kc → xs 7 y = ints (Z y ++ [(s1 n y : Int)])
  s8 : xs 8 0 = strs N
  v9 : val 9 0 = .slice (some ⟨bs, 0, none⟩) n n
  s9 : xs 9 0 = (List.range n).map (val 10)
  s10 : ∀ y, y < n → xs 10 y = ints (Z y)

section
variable {w0 w w' : World} {val : Nat → Nat → Value} {xs : Nat → Nat → List Value} {bg mg : Nat} {ad : Addr} {n : Nat} {N : List ByteArray} {Z : Nat → List Int} {bs bc mc kc kg : Nat}

theorem F.kept (f : F w0 w val xs bg mg ad n N Z bs bc mc kc kg) (h : w.grownBy w' none) : F w0 w' val xs bg mg ad n N Z bs bc mc kc kg :=
  ⟨f.st.kept h, f.hS, f.hx, grown_map h f.hm, f.hN, f.hA, f.hR, f.hn, f.hC, f.hxC, grown_map h f.hmc, f.h6, f.v6, f.h7, f.s8, f.v9, f.s9, f.s10⟩

theorem F.born {ca : Nat} (s : Sn w0 w val xs bg mg ad n N Z bs n) (c : CL w0 w w' val xs ad n n bc ca mg mc) :
    ∃ val' xs', val' 8 0 = val 8 0 ∧ F w0 w' val' xs' bg mg ad n N Z bs bc mc 0 0 := by
  have o : ∀ {α : Type} (f : Nat → Nat → α) (a b : α) (k y : Nat), k ≠ 6 ∧ k ≠ 4 → upd (upd f 6 0 a) 4 0 b k y = f k y := fun f a b k y h => by
    rw [upd_other _ _ _ _ (by omega), upd_other _ _ _ _ (by omega)]
  have e3 : upd (upd val 6 0 (.slice (some ⟨ca, 0, none⟩) n n)) 4 0 (.slice (some ⟨bc, 0, none⟩) 4 4) 3 = val 3 := funext fun y => o _ _ _ 3 y (by omega)
  have e10 : upd (upd val 6 0 (.slice (some ⟨ca, 0, none⟩) n n)) 4 0 (.slice (some ⟨bc, 0, none⟩) 4 4) 10 = val 10 := funext fun y => o _ _ _ 10 y (by omega)
  refine ⟨_, _, o _ _ _ 8 0 (by omega), c.st, ?_, ?_, c.mg, ?_, ?_, ?_, s.g.hn, c.hbc, ?_, c.mc, ?_, ⟨ca, c.hca⟩, fun y hy => by omega, ?_, ?_, ?_, ?_⟩
  · rw [o _ _ _ 0 0 (by omega)]; exact s.g.hS
  · rw [o _ _ _ 0 0 (by omega), o _ _ _ 1 0 (by omega), o _ _ _ 2 0 (by omega)]; exact s.g.hx
  · rw [o _ _ _ 1 0 (by omega)]; exact s.g.hN
  · rw [o _ _ _ 2 0 (by omega), e3]; exact s.g.hA
  · intro y; rw [o _ _ _ 3 y (by omega), if_neg (by omega)]; exact s.g.hR y
  · rw [upd_same, o _ _ _ 1 0 (by omega), c.hca]
  · rw [upd_other _ _ _ _ (by omega), upd_same, e3]
    unfold caRow
    apply List.map_congr_left
    intro y hy
    rw [if_pos (List.mem_range.1 hy), if_neg (by omega)]
  · rw [o _ _ _ 8 0 (by omega)]; exact s.s8
  · rw [o _ _ _ 9 0 (by omega)]; exact s.v9
  · rw [o _ _ _ 9 0 (by omega), e10, s.s9]
    apply List.map_congr_left
    intro y hy
    rw [if_pos (List.mem_range.1 hy)]
  · intro y hy; rw [o _ _ _ 10 y (by omega)]; exact s.s10 y hy

theorem clip_app (S : St w0 w val tyf xs) (k y : Nat) : App w w0.heap.size (tyf k) (clip (val k y)) (xs k y) none := by
  obtain ⟨a, cap, hv, _, h0⟩ := S.full k y
  refine .inr ⟨a, by rw [hv]; rfl, fun e => (h0 e).1, fun b hb j u hu => ?_, rfl⟩
  obtain ⟨a', cap', hv', _, hc⟩ := view_own (S.owns k y)
  rw [hv] at hv'
  simp only [Value.slice.injEq] at hv'
  obtain ⟨rfl, _, _⟩ := hv'
  exact hc b hb j u hu

theorem F.carrow (f : F w0 w val xs bg mg ad n N Z bs bc mc kc kg) (_hn : n ≤ 4000) (hk : kc = kg) (hlt : kc < n) (h3 : kc ≠ s1 n kc) (hl : (Z kc).length ≤ 4000) :
    Calls Yba.prog 9 #[.pointer (some ⟨bc, 0, none⟩), .int .i64 kc, .int .i64 (s1 n kc)] w fun e w' => e = .returned (.tuple #[]) ∧ ∃ val' xs', val' 8 0 = val 8 0 ∧ F w0 w' val' xs' bg mg ad n N Z bs bc mc (kc + 1) kg := by
  obtain ⟨ca, hv6⟩ := f.v6
  have hx3 : xs 3 kc = ints (Z kc) := by rw [f.hR, if_neg (by omega)]
  have hA := clip_app f.st 3 kc
  rw [hx3] at hA
  refine (arrow_st f.st 4 6 7 bc ca n n kc (s1 n kc) (.pointer (some ad)) (clip (val 1 0)) (.map (some mc)) (clip (val 3 kc)) (ints (Z kc)) none f.hC f.hxC hv6 (by rw [f.h6]; simp [hlt]) hA (.inl rfl) rfl (by omega) (by omega) hlt h3 (by rw [len_ints]; omega)).mono ?_
  rintro e' w' ⟨rfl, val', xs', S, A, r1, r2, r3, r4⟩
  have e3 : val' 3 = val 3 := funext fun y => r3 3 y (by omega)
  have e10 : val' 10 = val 10 := funext fun y => r3 10 y (by omega)
  have e7 : ∀ y, y ≠ kc → val' 7 y = val 7 y := fun y hy => r3 7 y (by omega)
  refine ⟨rfl, val', xs', r3 8 0 (by omega), S, ?_, ?_, A.map f.st f.hm, ?_, ?_, ?_, f.hn, ?_, ?_, A.map f.st f.hmc, ?_, ⟨ca, ?_⟩, ?_, ?_, ?_, ?_, ?_⟩
  · rw [r3 0 0 (by omega)]; exact f.hS
  · rw [r4 0 0 (by omega) (by omega), r3 1 0 (by omega), r3 2 0 (by omega)]; exact f.hx
  · rw [r4 1 0 (by omega) (by omega)]; exact f.hN
  · rw [r4 2 0 (by omega) (by omega), e3]; exact f.hA
  · intro y; rw [r4 3 y (by omega) (by omega)]; exact f.hR y
  · rw [r3 4 0 (by omega)]; exact f.hC
  · rw [r4 4 0 (by omega) (by omega), r3 1 0 (by omega), r3 6 0 (by omega)]; exact f.hxC
  · rw [r2, f.h6, e3]
    apply List.ext_getElem?
    intro i
    by_cases hi : i < n
    · by_cases e : kc = i
      · subst e; simp [hlt]
      · have : (i < kc + 1) = (i < kc) := by apply propext; omega
        simp [hi, e, this, e7 i (by omega)]
    · by_cases e : kc = i
      · omega
      · simp [hi]
  · rw [r3 6 0 (by omega)]; exact hv6
  · intro y hy
    by_cases e : y = kc
    · subst e; rw [r1, ints_snoc]
    · rw [r4 7 y (by omega) (by omega)]; exact f.h7 y (by omega)
  · rw [r4 8 0 (by omega) (by omega)]; exact f.s8
  · rw [r3 9 0 (by omega)]; exact f.v9
  · rw [r4 9 0 (by omega) (by omega), e10]; exact f.s9
  · intro y hy; rw [r4 10 y (by omega) (by omega)]; exact f.s10 y hy

theorem F.garrow (f : F w0 w val xs bg mg ad n N Z bs bc mc kc kg) (_hn : n ≤ 4000) (hk : kc = kg + 1) (hlt : kg < n) (h3 : kg ≠ s2 n kg) (hl : (Z kg).length ≤ 4000) :
    Calls Yba.prog 9 #[.pointer (some ⟨bg, 0, none⟩), .int .i64 kg, .int .i64 (s2 n kg)] w fun e w' => e = .returned (.tuple #[]) ∧ ∃ val' xs', val' 8 0 = val 8 0 ∧ F w0 w' val' xs' bg mg ad n N Z bs bc mc kc (kg + 1) := by
  obtain ⟨ca, hv6⟩ := f.v6
  have hx3 : xs 3 kg = ints (Z kg) := by rw [f.hR, if_neg (by omega)]
  obtain ⟨ga, cA, hvA⟩ := f.st.form (k := 2) (y := 0) (by rw [f.hA]; simp; omega)
  have hlen : (xs 2 0).length = n := by rw [f.hA]; simp
  rw [hlen] at hvA
  refine (arrow_st f.st 0 2 3 bg ga n cA kg (s2 n kg) (.pointer (some ad)) (val 1 0) (.map (some mg)) (val 3 kg) (xs 3 kg) (val 3 kg).ownBlock f.hS f.hx hvA (by rw [f.hA]; simp [hlt]) (.inl ⟨f.st.owns 3 kg, rfl⟩) (.inr rfl) rfl (by omega) (by omega) hlt h3 (by rw [hx3, len_ints]; omega)).mono ?_
  rintro e' w' ⟨rfl, val', xs', S, A, r1, r2, r3, r4⟩
  have e3 : ∀ y, y ≠ kg → val' 3 y = val 3 y := fun y hy => r3 3 y (by omega)
  have e7 : val' 7 = val 7 := funext fun y => r3 7 y (by omega)
  have e10 : val' 10 = val 10 := funext fun y => r3 10 y (by omega)
  refine ⟨rfl, val', xs', r3 8 0 (by omega), S, ?_, ?_, A.map f.st f.hm, ?_, ?_, ?_, f.hn, ?_, ?_, A.map f.st f.hmc, ?_, ⟨ca, ?_⟩, ?_, ?_, ?_, ?_, ?_⟩
  · rw [r3 0 0 (by omega)]; exact f.hS
  · rw [r4 0 0 (by omega) (by omega), r3 1 0 (by omega), r3 2 0 (by omega)]; exact f.hx
  · rw [r4 1 0 (by omega) (by omega)]; exact f.hN
  · rw [r2, f.hA]; exact set_range (val 3) (val' 3) n kg e3
  · intro y
    by_cases e : y = kg
    · subst e; rw [r1, hx3, if_pos (by omega), ints_snoc]
    · rw [r4 3 y (by omega) (by omega), f.hR]
      have : (y < kg + 1) = (y < kg) := by apply propext; omega
      simp only [this]
  · rw [r3 4 0 (by omega)]; exact f.hC
  · rw [r4 4 0 (by omega) (by omega), r3 1 0 (by omega), r3 6 0 (by omega)]; exact f.hxC
  · rw [r4 6 0 (by omega) (by omega), f.h6, e7]
    apply List.map_congr_left
    intro y _
    by_cases h : y < kc
    · rw [if_pos h, if_pos h]
    · rw [if_neg h, if_neg h, e3 y (by omega)]
  · rw [r3 6 0 (by omega)]; exact hv6
  · intro y hy; rw [r4 7 y (by omega) (by omega)]; exact f.h7 y hy
  · rw [r4 8 0 (by omega) (by omega)]; exact f.s8
  · rw [r3 9 0 (by omega)]; exact f.v9
  · rw [r4 9 0 (by omega) (by omega), e10]; exact f.s9
  · intro y hy; rw [r4 10 y (by omega) (by omega)]; exact f.s10 y hy

/-- the law's last two nodes -/
theorem F.cnode (f : F w0 w val xs bg mg ad n N Z bs bc mc kc kg) (hn : n ≤ 4000) (nm : ByteArray) :
    Calls Yba.prog 8 #[.pointer (some ⟨bc, 0, none⟩), .string nm] w fun e w' => e = .returned (.int .i64 n) ∧ ∃ val' xs', val' 8 0 = val 8 0 ∧ St w0 w' val' tyf xs' ∧
      val' 0 0 = .slice (some ⟨bg, 0, none⟩) 4 4 ∧ xs' 0 0 = [.pointer (some ad), val' 1 0, val' 2 0, .map (some mg)] ∧ xs' 1 0 = strs N ∧ (xs' 2 0).length = n ∧
      val' 4 0 = .slice (some ⟨bc, 0, none⟩) 4 4 ∧ xs' 4 0 = [.pointer (some ad), val' 5 0, val' 6 0, .map (some mc)] ∧ xs' 5 0 = strs (N ++ [nm]) ∧ xs' 8 0 = strs N := by
  obtain ⟨ca, hv6⟩ := f.v6
  have hA := clip_app f.st 1 0
  rw [f.hN] at hA
  refine (node_st f.st 4 5 6 bc (.pointer (some ad)) (clip (val 1 0)) (.map (some mc)) (strs N) none nm f.hC f.hxC hA (.inl rfl) rfl rfl (by omega) (by omega) (by omega) (by rw [len_strs, f.hn]; omega) (by rw [f.h6]; simp; omega)).mono ?_
  rintro e w' ⟨rfl, val', xs', S, A, r1, r2, r3, r4, r5, r6⟩
  refine ⟨by rw [len_strs, f.hn], val', xs', r5 8 0 (by omega) (by omega), S, ?_, ?_, ?_, ?_, r4, r3, by rw [r1, strs_snoc], ?_⟩
  · rw [r5 0 0 (by omega) (by omega)]; exact f.hS
  · rw [r6 0 0 (by omega) (by omega) (by omega), r5 1 0 (by omega) (by omega), r5 2 0 (by omega) (by omega)]; exact f.hx
  · rw [r6 1 0 (by omega) (by omega) (by omega)]; exact f.hN
  · rw [r6 2 0 (by omega) (by omega) (by omega), f.hA]; simp
  · rw [r6 8 0 (by omega) (by omega) (by omega)]; exact f.s8

theorem gnode_last (S0 : St w0 w val tyf xs) (hn : n ≤ 4000) (nm : ByteArray) (l5 : List ByteArray) (h0 : val 0 0 = .slice (some ⟨bg, 0, none⟩) 4 4) (hx : xs 0 0 = [.pointer (some ad), val 1 0, val 2 0, .map (some mg)]) (hN : xs 1 0 = strs N) (hl : N.length = n) (h2 : (xs 2 0).length = n)
    (hC : val 4 0 = .slice (some ⟨bc, 0, none⟩) 4 4) (hxC : xs 4 0 = [.pointer (some ad), val 5 0, val 6 0, .map (some mc)]) (h5 : xs 5 0 = strs l5) (s8 : xs 8 0 = strs N) :
    Calls Yba.prog 8 #[.pointer (some ⟨bg, 0, none⟩), .string nm] w fun e w' => e = .returned (.int .i64 n) ∧ ∃ val' xs', val' 8 0 = val 8 0 ∧ St w0 w' val' tyf xs' ∧
      val' 0 0 = .slice (some ⟨bg, 0, none⟩) 4 4 ∧ xs' 0 0 = [.pointer (some ad), val' 1 0, val' 2 0, .map (some mg)] ∧ xs' 1 0 = strs (N ++ [nm]) ∧
      val' 4 0 = .slice (some ⟨bc, 0, none⟩) 4 4 ∧ xs' 4 0 = [.pointer (some ad), val' 5 0, val' 6 0, .map (some mc)] ∧ xs' 5 0 = strs l5 ∧ xs' 8 0 = strs N := by
  refine (node_st S0 0 1 2 bg (.pointer (some ad)) (val 1 0) (.map (some mg)) (xs 1 0) (val 1 0).ownBlock nm h0 hx (.inl ⟨S0.owns 1 0, rfl⟩) (.inr rfl) rfl rfl (by omega) (by omega) (by omega) (by rw [hN, len_strs, hl]; omega) (by omega)).mono ?_
  rintro e w' ⟨rfl, val', xs', S, A, r1, r2, r3, r4, r5, r6⟩
  refine ⟨by rw [hN, len_strs, hl], val', xs', r5 8 0 (by omega) (by omega), S, r4, r3, by rw [r1, hN, strs_snoc], ?_, ?_, ?_, ?_⟩
  · rw [r5 4 0 (by omega) (by omega)]; exact hC
  · rw [r6 4 0 (by omega) (by omega) (by omega), r5 5 0 (by omega) (by omega), r5 6 0 (by omega) (by omega)]; exact hxC
  · rw [r6 5 0 (by omega) (by omega) (by omega)]; exact h5
  · rw [r6 8 0 (by omega) (by omega) (by omega)]; exact s8
end
end Go.Proofs.Ybulkaam
