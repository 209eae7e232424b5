import Derived.Test.YbulkabaLink
import Derived.Deep.LoopGhost
namespace Go.Proofs.Ybulkaba
open Go.RowKit

/-- a slice of slices of integers, row by row -/
def RowsAt (w : World) (a : Option Addr) (n : Nat) (V : Nat → Value) (Z : Nat → List Int) : Prop :=
  ∀ k, k < n → (∃ b off, a = some ⟨b, off, none⟩ ∧ w.cell? ⟨b, off + k, none⟩ = some (V k)) ∧ IntsAt w (V k) (Z k)

theorem RowsAt.keep {w w' a n V Z} (h : RowsAt w a n V Z) (hb : Below w.heap.size w w') : RowsAt w' a n V Z := fun k hk => by
  obtain ⟨⟨b, off, e, hc⟩, hi⟩ := h k hk
  exact ⟨⟨b, off, e, cell_keep hb hc⟩, hi.keep hb⟩

/-- the row's cell with its slice written out -/
theorem RowsAt.row {w a n V Z} (h : RowsAt w a n V Z) {k : Nat} (hk : k < n) : ∃ b off x c, a = some ⟨b, off, none⟩ ∧ w.cell? ⟨b, off + k, none⟩ = some (.slice x (Z k).length c) ∧ V k = .slice x (Z k).length c := by
  obtain ⟨⟨b, off, e, hc⟩, x, c, hv, _⟩ := h k hk
  exact ⟨b, off, x, c, e, by rw [hc, hv], hv⟩

structure FS (w0 w : World) (bf gp gs n : Nat) (vp vs : Array Value) : Prop where
  f0 : w.cell? ⟨bf, 0, none⟩ = some (.slice (some ⟨gp, 0, none⟩) n n)
  f1 : w.cell? ⟨bf, 1, none⟩ = some (.slice (some ⟨gs, 0, none⟩) n n)
  f2 : w.cell? ⟨bf, 2, none⟩ = some (.slice none 0 0)
  f3 : w.cell? ⟨bf, 3, none⟩ = some (.slice none 0 0)
  hp : w.heap[gp]? = some (.cells vp 25 (0, 0))
  hs : w.heap[gs]? = some (.cells vs 25 (0, 0))
  sp : vp.size = n
  ss : vs.size = n
  n1 : bf ≠ gp
  n2 : bf ≠ gs
  n3 : gp ≠ gs
  lf : w0.heap.size ≤ bf
  lp : w0.heap.size ≤ gp
  ls : w0.heap.size ≤ gs
  below : Below w0.heap.size w0 w

/-- a column of rows that the call itself made -/
def Col (w : World) (v : Array Value) (n : Nat) (Z : Nat → List Int) : Prop := ∀ j, j < n → ∃ x, v[j]? = some x ∧ IntsFull w x (Z j)

theorem Col.born (w : World) (n : Nat) (Z : Nat → List Int) (hz : ∀ j, Z j = []) : Col w (reps n (.slice none 0 0)) n Z := fun j hj =>
  ⟨_, get_reps n _ j hj, none, by rw [hz]; rfl, fun _ => by rw [hz]; rfl, fun x hx => by cases hx⟩
theorem Col.congr {w v n Z Z'} (h : Col w v n Z) (e : ∀ j, j < n → Z j = Z' j) : Col w v n Z' := fun j hj => by rw [← e j hj]; exact h j hj
theorem Col.keepInts {w w' v n Z} (h : Col w v n Z) (k : KeptInts w w') : Col w' v n Z := fun j hj => let ⟨x, h1, h2⟩ := h j hj; ⟨x, h1, h2.keepInts k⟩
theorem Col.set {w v n Z} (h : Col w v n Z) (i : Nat) (x : Value) (z : List Int) (hs : v.size = n) (hx : IntsFull w x z) : Col w (v.setIfInBounds i x) n (fun j => if j = i then z else Z j) := fun j hj => by
  by_cases e : j = i
  · subst e; exact ⟨x, by simp [hs, hj], by simpa using hx⟩
  · obtain ⟨y, h1, h2⟩ := h j hj
    exact ⟨y, by rw [Array.getElem?_setIfInBounds_ne (by omega)]; exact h1, by simpa [e] using h2⟩

theorem FS.cellP {w0 w bf gp gs n vp vs Z} (F : FS w0 w bf gp gs n vp vs) (C : Col w vp n Z) {k : Nat} (hk : k < n) : ∃ x, w.cell? ⟨gp, k, none⟩ = some (.slice x (Z k).length (Z k).length) ∧ w.frozen? ⟨gp, k, none⟩ = false := by
  obtain ⟨y, h1, a, rfl, _⟩ := C k hk
  exact ⟨a, by rw [cell_of_row w gp k vp 25 (0, 0) F.hp]; exact h1, frozen_of_row w gp k vp 25 F.hp⟩
theorem FS.cellS {w0 w bf gp gs n vp vs Z} (F : FS w0 w bf gp gs n vp vs) (C : Col w vs n Z) {k : Nat} (hk : k < n) : ∃ x, w.cell? ⟨gs, k, none⟩ = some (.slice x (Z k).length (Z k).length) ∧ w.frozen? ⟨gs, k, none⟩ = false := by
  obtain ⟨y, h1, a, rfl, _⟩ := C k hk
  exact ⟨a, by rw [cell_of_row w gs k vs 25 (0, 0) F.hs]; exact h1, frozen_of_row w gs k vs 25 F.hs⟩

theorem FS.storeP {w0 wr w1 : World} {bf gp gs n k : Nat} {vp vs : Array Value} {ZP ZS ZP' : Nat → List Int} {v' : Value} {z : List Int} (F : FS w0 wr bf gp gs n vp vs) (CP : Col wr vp n ZP) (CS : Col wr vs n ZS)
    (hb : Below wr.heap.size wr w1) (hk : k < n) (hJ : IntsFull w1 v' z) (hZ : ∀ j, j < n → (if j = k then z else ZP j) = ZP' j) :
    ∃ vp', FS w0 (w1.setCell ⟨gp, k, none⟩ v') bf gp gs n vp' vs ∧ Col (w1.setCell ⟨gp, k, none⟩ v') vp' n ZP' ∧ Col (w1.setCell ⟨gp, k, none⟩ v') vs n ZS := by
  obtain ⟨y, ck, fk⟩ := F.cellP CP hk
  have lgp : gp < wr.heap.size := (Array.getElem?_eq_some_iff.1 F.hp).1
  have lgs : gs < wr.heap.size := (Array.getElem?_eq_some_iff.1 F.hs).1
  have hp1 : w1.heap[gp]? = some (.cells vp 25 (0, 0)) := (hb.block gp lgp).trans F.hp
  have hs1 : w1.heap[gs]? = some (.cells vs 25 (0, 0)) := (hb.block gs lgs).trans F.hs
  have ki1 : KeptInts w1 (w1.setCell ⟨gp, k, none⟩ v') := (KeptInts.refl w1).setCell (cell_keep hb ck) v'
  have ki : KeptInts wr (w1.setCell ⟨gp, k, none⟩ v') := (KeptInts.below hb).trans ki1
  have cc : ∀ o v, wr.cell? ⟨bf, o, none⟩ = some v → (w1.setCell ⟨gp, k, none⟩ v').cell? ⟨bf, o, none⟩ = some v := fun o v h => by
    rw [World.cell?_setCell_other _ _ _ _ (fun e => F.n1 (by simpa using (congrArg Addr.block e).symm))]; exact cell_keep hb h
  refine ⟨vp.setIfInBounds k v', ⟨cc _ _ F.f0, cc _ _ F.f1, cc _ _ F.f2, cc _ _ F.f3, heap_setCell_same w1 gp k vp 25 v' hp1, (Below.heap_setCell w1 _ _ _ (Ne.symm F.n3)).trans hs1, by simp [F.sp], F.ss, F.n1, F.n2, F.n3, F.lf, F.lp, F.ls, ?_⟩, ?_, CS.keepInts ki⟩
  · exact (F.below.trans (hb.mono F.below.size)).setCell F.lp v'
  · exact ((CP.keepInts ki).set k v' z F.sp (hJ.keepInts ki1)).congr hZ
theorem FS.storeS {w0 wr w1 : World} {bf gp gs n k : Nat} {vp vs : Array Value} {ZP ZS ZS' : Nat → List Int} {v' : Value} {z : List Int} (F : FS w0 wr bf gp gs n vp vs) (CP : Col wr vp n ZP) (CS : Col wr vs n ZS)
    (hb : Below wr.heap.size wr w1) (hk : k < n) (hJ : IntsFull w1 v' z) (hZ : ∀ j, j < n → (if j = k then z else ZS j) = ZS' j) :
    ∃ vs', FS w0 (w1.setCell ⟨gs, k, none⟩ v') bf gp gs n vp vs' ∧ Col (w1.setCell ⟨gs, k, none⟩ v') vp n ZP ∧ Col (w1.setCell ⟨gs, k, none⟩ v') vs' n ZS' := by
  obtain ⟨y, ck, fk⟩ := F.cellS CS hk
  have lgp : gp < wr.heap.size := (Array.getElem?_eq_some_iff.1 F.hp).1
  have lgs : gs < wr.heap.size := (Array.getElem?_eq_some_iff.1 F.hs).1
  have hp1 : w1.heap[gp]? = some (.cells vp 25 (0, 0)) := (hb.block gp lgp).trans F.hp
  have hs1 : w1.heap[gs]? = some (.cells vs 25 (0, 0)) := (hb.block gs lgs).trans F.hs
  have ki1 : KeptInts w1 (w1.setCell ⟨gs, k, none⟩ v') := (KeptInts.refl w1).setCell (cell_keep hb ck) v'
  have ki : KeptInts wr (w1.setCell ⟨gs, k, none⟩ v') := (KeptInts.below hb).trans ki1
  have cc : ∀ o v, wr.cell? ⟨bf, o, none⟩ = some v → (w1.setCell ⟨gs, k, none⟩ v').cell? ⟨bf, o, none⟩ = some v := fun o v h => by
    rw [World.cell?_setCell_other _ _ _ _ (fun e => F.n2 (by simpa using (congrArg Addr.block e).symm))]; exact cell_keep hb h
  refine ⟨vs.setIfInBounds k v', ⟨cc _ _ F.f0, cc _ _ F.f1, cc _ _ F.f2, cc _ _ F.f3, (Below.heap_setCell w1 _ _ _ F.n3).trans hp1, heap_setCell_same w1 gs k vs 25 v' hs1, F.sp, by simp [F.ss], F.n1, F.n2, F.n3, F.lf, F.lp, F.ls, ?_⟩, CP.keepInts ki, ?_⟩
  · exact (F.below.trans (hb.mono F.below.size)).setCell F.ls v'
  · exact ((CS.keepInts ki).set k v' z F.ss (hJ.keepInts ki1)).congr hZ

theorem undrew {w w1 : World} (h : Below w.drew.heap.size w.drew w1) : Below w.heap.size w w1 := ⟨h.os, h.tape, h.output, h.size, h.block⟩
theorem zp_step (Z : Nat → List Int) (k j : Nat) : (if j = k then Z k else if j < k then Z j else []) = if j < k + 1 then Z j else [] := by
  by_cases e : j = k
  · subst e; simp
  · by_cases h : j < k
    · rw [if_neg e, if_pos h, if_pos (by omega)]
    · rw [if_neg e, if_neg h, if_neg (by omega)]
theorem zs_step (Z : Nat → List Int) (k j m : Nat) (hk : k < m) : (if j = k then Z k else if j < k ∧ j < m then Z j else []) = if j < k + 1 ∧ j < m then Z j else [] := by
  by_cases e : j = k
  · subst e; simp [hk]
  · by_cases h : j < k ∧ j < m
    · rw [if_neg e, if_pos h, if_pos (by omega)]
    · rw [if_neg e, if_neg h, if_neg (by omega)]
theorem zs_stay (Z : Nat → List Int) (k j m : Nat) (hk : ¬ k < m) : (if j < k ∧ j < m then Z j else []) = if j < k + 1 ∧ j < m then Z j else [] := by
  by_cases h : j < k ∧ j < m
  · rw [if_pos h, if_pos (by omega)]
  · rw [if_neg h, if_neg (by omega)]

theorem fs_born (w : World) (n gp gs : Nat) (hh : (gp = w.heap.size ∧ gs = w.heap.size + 1) ∨ (gp = w.heap.size + 1 ∧ gs = w.heap.size)) :
    FS w (((w.alloc (.cells (reps n (.slice none 0 0)) 25)).alloc (.cells (reps n (.slice none 0 0)) 25)).alloc (.cells #[.slice (some ⟨gp, 0, none⟩) n n, .slice (some ⟨gs, 0, none⟩) n n, .slice none 0 0, .slice none 0 0] 31)).drew
      (w.heap.size + 1 + 1) gp gs n (reps n (.slice none 0 0)) (reps n (.slice none 0 0)) := by
  refine ⟨?_, ?_, ?_, ?_, ?_, ?_, size_reps _ _, size_reps _ _, by omega, by omega, by omega, by omega, by omega, by omega, ?_⟩
  all_goals try (simp [go_sem]; done)
  case refine_5 =>
    show ((((w.heap.push _).push _).push _))[_]? = _
    simp only [Array.getElem?_push, Array.size_push]
    rcases hh with ⟨rfl, rfl⟩ | ⟨rfl, rfl⟩ <;> simp <;> omega
  case refine_6 =>
    show ((((w.heap.push _).push _).push _))[_]? = _
    simp only [Array.getElem?_push, Array.size_push]
    rcases hh with ⟨rfl, rfl⟩ | ⟨rfl, rfl⟩ <;> simp <;> omega
  case refine_7 => exact ((((Below.refl _ w).alloc (Nat.le_refl _) _).alloc (by simp) _).alloc (by simp; omega) _).drew

/-- a column of rows in whatever memory -/
def ColA (w : World) (v : Array Value) (n : Nat) (Z : Nat → List Int) : Prop := ∀ j, j < n → ∃ x, v[j]? = some x ∧ IntsAt w x (Z j)
theorem Col.colA {w v n Z} (h : Col w v n Z) : ColA w v n Z := fun j hj => let ⟨x, h1, h2⟩ := h j hj; ⟨x, h1, h2.at⟩
theorem ColA.congr {w v n Z Z'} (h : ColA w v n Z) (e : ∀ j, j < n → Z j = Z' j) : ColA w v n Z' := fun j hj => by rw [← e j hj]; exact h j hj
theorem ColA.keepInts {w w' v n Z} (h : ColA w v n Z) (k : KeptInts w w') : ColA w' v n Z := fun j hj => let ⟨x, h1, h2⟩ := h j hj; ⟨x, h1, h2.keepInts k⟩
theorem ColA.set {w v n Z} (h : ColA w v n Z) (i : Nat) (x : Value) (z : List Int) (hs : v.size = n) (hx : IntsAt w x z) : ColA w (v.setIfInBounds i x) n (fun j => if j = i then z else Z j) := fun j hj => by
  by_cases e : j = i
  · subst e; exact ⟨x, by simp [hs, hj], by simpa using hx⟩
  · obtain ⟨y, h1, h2⟩ := h j hj
    exact ⟨y, by rw [Array.getElem?_setIfInBounds_ne (by omega)]; exact h1, by simpa [e] using h2⟩

theorem link_same (bf A : Nat) (w : World) : Calls Yba.prog 10 #[.pointer (some ⟨bf, 0, none⟩), .int .i64 A, .int .i64 A] w fun e w' => e = .returned (.tuple #[]) ∧ w = w' := by
  go_enter Yba.func10, Yba.ntmps10
  go_wp2
  go_end0
  exact ⟨rfl, rfl⟩

/-- link's contract in the words of the state -/
theorem link_fs {w0 wr : World} {bf gp gs n A B : Nat} {vp vs : Array Value} {ZP ZS : Nat → List Int} (F : FS w0 wr bf gp gs n vp vs) (CP : Col wr vp n ZP) (CS : Col wr vs n ZS) (hA : A < n) (hB : B < n) (hn : n ≤ 1024)
    (lp : ∀ j, j < n → (ZP j).length ≤ 1024) (ls : ∀ j, j < n → (ZS j).length ≤ 1024) :
    Calls Yba.prog 10 #[.pointer (some ⟨bf, 0, none⟩), .int .i64 A, .int .i64 B] wr fun e w' => e = .returned (.tuple #[]) ∧ ∃ vp' vs', FS w0 w' bf gp gs n vp' vs' ∧
      ColA w' vp' n (fun j => ZP j ++ if (decide (j = B) && !decide (A = B)) then [(A : Int)] else []) ∧ ColA w' vs' n (fun j => ZS j ++ if (decide (j = A) && !decide (A = B)) then [(B : Int)] else []) := by
  by_cases e : A = B
  · subst e
    refine (link_same bf A wr).mono ?_
    rintro e' w' ⟨rfl, rfl⟩
    exact ⟨rfl, vp, vs, F, CP.colA.congr (fun j _ => by simp), CS.colA.congr (fun j _ => by simp)⟩
  · obtain ⟨pb, hpb, hzb⟩ := CP B hB
    obtain ⟨sa, hsa, hza⟩ := CS A hA
    refine (link_any wr bf gp gs n A B vp vs pb sa (ZP B) (ZS A) e hA hB hn F.f0 F.f1 F.hp F.hs F.n1 F.n2 F.n3 hpb hsa hzb hza (lp B hB) (ls A hA)).mono ?_
    rintro e' w' ⟨rfl, hk, hki, pb', sa', hp', hs', ip, is⟩
    refine ⟨rfl, _, _, ⟨hk.cell F.f0 (by simp [F.n1, F.n2]), hk.cell F.f1 (by simp [F.n1, F.n2]), hk.cell F.f2 (by simp [F.n1, F.n2]), hk.cell F.f3 (by simp [F.n1, F.n2]), hp', hs', by simp [F.sp], by simp [F.ss], F.n1, F.n2, F.n3, F.lf, F.lp, F.ls, ?_⟩, ?_, ?_⟩
    · exact F.below.trans (hk.below F.below.size (fun k h => by rcases h with rfl | rfl; exact F.lp; exact F.ls))
    · refine ((CP.colA.keepInts hki).set B pb' _ F.sp ip).congr (fun j _ => ?_)
      by_cases h : j = B
      · subst h; simp [e]
      · simp [h]
    · refine ((CS.colA.keepInts hki).set A sa' _ F.ss is).congr (fun j _ => ?_)
      by_cases h : j = A
      · subst h; simp [e]
      · simp [h]

/-- the cell of a column's row, its slice written out -/
theorem FS.lookP {w0 w bf gp gs n vp vs Z} (F : FS w0 w bf gp gs n vp vs) (C : ColA w vp n Z) {k : Nat} (hk : k < n) : ∃ x c, w.cell? ⟨gp, k, none⟩ = some (.slice x (Z k).length c) ∧ IntsAt w (.slice x (Z k).length c) (Z k) := by
  obtain ⟨y, h1, h2⟩ := C k hk
  obtain ⟨a, c, rfl, _⟩ := id h2
  exact ⟨a, c, by rw [cell_of_row w gp k vp 25 (0, 0) F.hp]; exact h1, h2⟩
theorem FS.lookS {w0 w bf gp gs n vp vs Z} (F : FS w0 w bf gp gs n vp vs) (C : ColA w vs n Z) {k : Nat} (hk : k < n) : ∃ x c, w.cell? ⟨gs, k, none⟩ = some (.slice x (Z k).length c) ∧ IntsAt w (.slice x (Z k).length c) (Z k) := by
  obtain ⟨y, h1, h2⟩ := C k hk
  obtain ⟨a, c, rfl, _⟩ := id h2
  exact ⟨a, c, by rw [cell_of_row w gs k vs 25 (0, 0) F.hs]; exact h1, h2⟩
end Go.Proofs.Ybulkaba
