import Derived.Test.YbulkabaExt
import Derived.Deep.DeepCutAuto
import Derived.Deep.RegionLawGrows
import Derived.Deep.AppendLies
namespace Go.Proofs.Ybulkaba
open Go.RowKit

/-- w' is w but for the blocks of S, and new ones -/
structure Kept (w w' : World) (S : Nat → Prop) : Prop where
  os : w'.os = w.os
  tape : w'.tape = w.tape
  output : w'.output = w.output
  size : w.heap.size ≤ w'.heap.size
  block : ∀ k, k < w.heap.size → ¬ S k → w'.heap[k]? = w.heap[k]?

theorem Kept.refl (w : World) (S : Nat → Prop) : Kept w w S := ⟨rfl, rfl, rfl, Nat.le_refl _, fun _ _ _ => rfl⟩
theorem Kept.trans {a b c : World} {S : Nat → Prop} (h : Kept a b S) (k : Kept b c S) : Kept a c S :=
  ⟨k.os.trans h.os, k.tape.trans h.tape, k.output.trans h.output, Nat.le_trans h.size k.size, fun i hi hs => (k.block i (Nat.lt_of_lt_of_le hi h.size) hs).trans (h.block i hi hs)⟩
theorem Kept.drew {a b : World} {S : Nat → Prop} (h : Kept a b S) : Kept a b.drew S := ⟨h.os, h.tape, h.output, h.size, h.block⟩
theorem Kept.drewN {a b : World} {S : Nat → Prop} (h : Kept a b S) (n : Nat) : Kept a (b.drewN n) S := ⟨h.os, h.tape, h.output, h.size, h.block⟩
theorem Kept.alloc {a b : World} {S : Nat → Prop} (h : Kept a b S) (o : Obj) : Kept a (b.alloc o) S :=
  h.trans ⟨rfl, rfl, rfl, by simp, fun k hk _ => Below.heap_alloc b o k hk⟩
theorem Kept.setCell {a b : World} {S : Nat → Prop} (h : Kept a b S) {p : Addr} (hp : S p.block) (u : Value) : Kept a (b.setCell p u) S :=
  h.trans ⟨rfl, rfl, rfl, by simp, fun k _ hs => Below.heap_setCell b p u k (fun e => hs (e ▸ hp))⟩
theorem Kept.grown {a b c : World} {S : Nat → Prop} (h : Kept a b S) (g : b.grownBy c none) : Kept a c S :=
  h.trans ⟨g.os, g.tape, g.output, g.size, fun k hk _ => g.block k hk (by simp)⟩
theorem Kept.mono {a b : World} {S T : Nat → Prop} (h : Kept a b S) (hst : ∀ k, S k → T k) : Kept a b T := ⟨h.os, h.tape, h.output, h.size, fun k hk hs => h.block k hk (fun e => hs (hst k e))⟩
theorem Kept.below {a b : World} {S : Nat → Prop} {B : Nat} (h : Kept a b S) (hB : B ≤ a.heap.size) (hs : ∀ k, S k → B ≤ k) : Below B a b :=
  ⟨h.os, h.tape, h.output, h.size, fun k hk => h.block k (by omega) (fun e => by have := hs k e; omega)⟩
theorem Kept.cell {a b : World} {S : Nat → Prop} (h : Kept a b S) {x : Addr} {v : Value} (hc : a.cell? x = some v) (hx : ¬ S x.block) : b.cell? x = some v :=
  (World.cell?_of_block (w := a) (h.block _ (World.block_lt_of_cell? a x hc) hx)).trans hc


theorem olds_of {w : World} {a : Option Addr} {zs : List Int} (h : ∀ x, a = some x → ∀ i, i < zs.length → w.cell? (x.add i) = some (.int .i64 (zs.getD i 0))) (o : Obj) :
    ∀ b, a = some b → ∀ j u, (zs.map (Value.int .i64))[j]? = some u → (w.alloc o).cell? (b.add j) = some u := by
  intro b hb j u hu
  have hj : j < zs.length := by have := (List.getElem?_eq_some_iff.1 hu).1; simpa using this
  have h0 := h b hb j hj
  rw [World.cell?_of_block (w := w) (Below.heap_alloc w _ _ (World.block_lt_of_cell? w _ h0)), h0]
  simp [hj] at hu
  simp [← hu, hj]

theorem kcell {w : World} {o : Obj} {x : Addr} {v : Value} (h : w.cell? x = some v) : (w.alloc o).drew.cell? x = some v :=
  (World.cell?_of_block (w := w) (Below.heap_alloc w o _ (World.block_lt_of_cell? w _ h))).trans h
theorem kfroz {w : World} {o : Obj} {x : Addr} (hx : x.block < w.heap.size) (h : w.frozen? x = false) : (w.alloc o).drew.frozen? x = false :=
  (World.frozen?_of_block (w := w) (Below.heap_alloc w o _ hx)).trans h
theorem kgfroz {w w' : World} {x : Addr} (g : w.grownBy w' none) (hx : x.block < w.heap.size) (h : w.frozen? x = false) : w'.frozen? x = false :=
  (World.frozen?_of_block (w := w) (g.block _ hx (by simp))).trans h

theorem one_new (w : World) (v : Value) (t : TypeId) : ∀ j u, [v][j]? = some u → (w.alloc (.cells #[v] t)).cell? ((⟨w.heap.size, 0, none⟩ : Addr).add j) = some u := by
  intro j u hu
  match j, hu with
  | 0, hu => rw [add_zero_addr, cell_of_row _ _ 0 _ _ _ (heap_alloc_new w _)]; simpa using hu

theorem hide {p : Prop} (h : p) : Hid p := h
theorem unhide {p : Prop} (h : Hid p) : p := h
/-- every cell that holds an integer still holds it -/
def KeptInts (w w' : World) : Prop := ∀ x k n, w.cell? x = some (.int k n) → w'.cell? x = some (.int k n)
theorem KeptInts.refl (w : World) : KeptInts w w := fun _ _ _ h => h
theorem KeptInts.trans {a b c : World} (h : KeptInts a b) (k : KeptInts b c) : KeptInts a c := fun x i n hx => k x i n (h x i n hx)
theorem KeptInts.alloc {a b : World} (h : KeptInts a b) (o : Obj) : KeptInts a (b.alloc o) :=
  h.trans fun x _ _ hx => (World.cell?_of_block (w := b) (Below.heap_alloc b o _ (World.block_lt_of_cell? b x hx))).trans hx
theorem KeptInts.grown {a b c : World} (h : KeptInts a b) (g : b.grownBy c none) : KeptInts a c := h.trans fun _ _ _ hx => g.cell hx (by simp)
theorem KeptInts.drew {a b : World} (h : KeptInts a b) : KeptInts a b.drew := h
theorem KeptInts.drewN {a b : World} (h : KeptInts a b) (n : Nat) : KeptInts a (b.drewN n) := h
theorem KeptInts.setCell {a b : World} (h : KeptInts a b) {p : Addr} {x : Option Addr} {n c : Nat} (hp : b.cell? p = some (.slice x n c)) (u : Value) : KeptInts a (b.setCell p u) :=
  h.trans fun y k m hy => by
    rw [World.cell?_setCell_other _ _ _ _ (fun e => by subst e; rw [hp] at hy; cases hy)]; exact hy
theorem KeptInts.below {a b : World} (h : Below a.heap.size a b) : KeptInts a b := fun _ _ _ hx => cell_keep h hx
theorem IntsAt.keepInts {w w' v zs} (h : IntsAt w v zs) (k : KeptInts w w') : IntsAt w' v zs := by
  obtain ⟨a, cap, rfl, h1, h2⟩ := h
  exact ⟨a, cap, rfl, h1, fun x hx i hi => k _ _ _ (h2 x hx i hi)⟩
theorem IntsFull.keepInts {w w' v zs} (h : IntsFull w v zs) (k : KeptInts w w') : IntsFull w' v zs := by
  obtain ⟨a, rfl, h1, h2⟩ := h
  exact ⟨a, rfl, h1, fun x hx i hi => k _ _ _ (h2 x hx i hi)⟩

theorem ints_of_owns {w : World} {base : Nat} {v : Value} {n : Nat} {zs : List Int} (h : w.ownsRow base 3 1 v n (zs.map (Value.int .i64))) : IntsAt w v zs := by
  obtain ⟨hl, h⟩ := h
  have hn : n = zs.length := by simpa using hl.symm
  subst hn
  rcases h with ⟨rfl, h0⟩ | ⟨g, cap, cur, rfl, hb, hg, hnc, hm, hsz, ht⟩
  · exact ⟨none, 0, by rw [h0], fun _ => ⟨h0, rfl⟩, fun x hx => by cases hx⟩
  · refine ⟨_, cap, rfl, (fun h => by cases h), fun x hx i hi => ?_⟩
    obtain rfl := Option.some.inj hx
    rw [add_zero_addr, cell_of_row _ _ i _ _ _ hg]
    have : (cur.toList.take (zs.length * 1))[i]? = (zs.map (Value.int .i64))[i]? := by rw [ht]
    simpa [hi, List.getElem?_take] using this

theorem after_append {w w1 : World} {o : Obj} {gp b : Nat} {vp : Array Value} {v' : Value} {zs : List Int} {n m c : Nat} {x : Option Addr}
    (hp : w.heap[gp]? = some (.cells vp 25 (0, 0))) (hb : vp[b]? = some (.slice x n c)) (hown : w1.ownsRow (w.alloc o).drew.heap.size 3 1 v' m (zs.map (Value.int .i64))) (hgrow : (w.alloc o).drew.grownBy w1 none) :
    Kept w (w1.setCell ⟨gp, b, none⟩ v') (fun k => k = gp) ∧ KeptInts w (w1.setCell ⟨gp, b, none⟩ v') ∧ (w1.setCell ⟨gp, b, none⟩ v').heap[gp]? = some (.cells (vp.setIfInBounds b v') 25 (0, 0)) ∧ IntsAt (w1.setCell ⟨gp, b, none⟩ v') v' zs := by
  have hlt : gp < w.heap.size := (Array.getElem?_eq_some_iff.1 hp).1
  have hp1 : w1.heap[gp]? = some (.cells vp 25 (0, 0)) := by
    rw [hgrow.block gp (by show gp < (w.heap.push o).size; simp; omega) (by simp)]
    exact (Below.heap_alloc w o gp hlt).trans hp
  have hc : w1.cell? ⟨gp, b, none⟩ = some (.slice x n c) := by rw [cell_of_row w1 gp b vp 25 (0, 0) hp1]; exact hb
  refine ⟨Kept.setCell (S := fun k => k = gp) (p := ⟨gp, b, none⟩) (((Kept.refl w _).alloc o).drew.grown hgrow) rfl _, ((((KeptInts.refl w).alloc o).drew).grown hgrow).setCell hc _, heap_setCell_same w1 gp b vp 25 v' hp1, ?_⟩
  exact (ints_of_owns hown).keepInts ((KeptInts.refl w1).setCell hc _)

theorem map_snoc (zs : List Int) (a : Int) : zs.map (Value.int .i64) ++ [.int .i64 a] = (zs ++ [a]).map (Value.int .i64) := by simp

set_option maxRecDepth 100000 in
set_option maxHeartbeats 1600000 in
theorem link_any (w : World) (bf gp gs n a b : Nat) (vp vs : Array Value) (pb sa : Value) (zb za : List Int)
    (hne : a ≠ b) (ha : a < n) (hb : b < n) (_hn : n ≤ 1024)
    (f0 : w.cell? ⟨bf, 0, none⟩ = some (.slice (some ⟨gp, 0, none⟩) n n)) (f1 : w.cell? ⟨bf, 1, none⟩ = some (.slice (some ⟨gs, 0, none⟩) n n))
    (hp : w.heap[gp]? = some (.cells vp 25 (0, 0))) (hs : w.heap[gs]? = some (.cells vs 25 (0, 0)))
    (n1 : bf ≠ gp) (n2 : bf ≠ gs) (n3 : gp ≠ gs) (hpb : vp[b]? = some pb) (hsa : vs[a]? = some sa) (hzb : IntsFull w pb zb) (hza : IntsFull w sa za) (lb : zb.length ≤ 1024) (la : za.length ≤ 1024) :
    Calls Yba.prog 10 #[.pointer (some ⟨bf, 0, none⟩), .int .i64 a, .int .i64 b] w fun e w' => e = .returned (.tuple #[]) ∧ Kept w w' (fun k => k = gp ∨ k = gs) ∧ KeptInts w w' ∧
      ∃ pb' sa', w'.heap[gp]? = some (.cells (vp.setIfInBounds b pb') 25 (0, 0)) ∧ w'.heap[gs]? = some (.cells (vs.setIfInBounds a sa') 25 (0, 0)) ∧ IntsAt w' pb' (zb ++ [(a : Int)]) ∧ IntsAt w' sa' (za ++ [(b : Int)]) := by
  have HZA : Hid (IntsFull w sa za) := hza
  obtain ⟨ap, rfl, hpn, hpc⟩ := hzb
  obtain ⟨i0, hi, hz0, hz1, hz2⟩ := info_parts info3
  have cpb : w.cell? ⟨gp, b, none⟩ = some (.slice ap zb.length zb.length) := by rw [cell_of_row w gp b vp 25 (0, 0) hp]; exact hpb
  have fp : w.frozen? ⟨gp, b, none⟩ = false := frozen_of_row w gp b vp 25 hp
  have HP : Hid (∀ o, ∀ b, ap = some b → ∀ j u, (zb.map (Value.int .i64))[j]? = some u → (w.alloc o).cell? (b.add j) = some u) := fun o => olds_of hpc o
  have lgp := World.block_lt_of_cell? w _ cpb
  have lbf := World.block_lt_of_cell? w _ f0
  simp only at lgp lbf
  have hab : ((a : Int) == (b : Int)) = false := by simp; omega
  have i1 : (0 : Int) ≤ (a : Int) := by omega
  have i2 : (0 : Int) ≤ (b : Int) := by omega
  have i3 : (a : Int) < (n : Int) := by omega
  have i4 : (b : Int) < (n : Int) := by omega
  have HO : Hid (w.heap[gp]? = some (.cells vp 25 (0, 0)) ∧ w.heap[gs]? = some (.cells vs 25 (0, 0)) ∧ vp[b]? = some (.slice ap zb.length zb.length) ∧ vs[a]? = some sa) := ⟨hp, hs, hpb, hsa⟩
  have F1 : Hid (w.cell? ⟨bf, 1, none⟩ = some (.slice (some ⟨gs, 0, none⟩) n n)) := f1
  clear hp hs hpb hsa hpc hza f1
  go_enter Yba.func10, Yba.ntmps10
  go_upto_region 1 with fail
  go_cut [] (fun wc => Kept w wc (fun k => k = gp) ∧ KeptInts w wc ∧ ∃ pb', wc.heap[gp]? = some (.cells (vp.setIfInBounds b pb') 25 (0, 0)) ∧ IntsAt wc pb' (zb ++ [(a : Int)]))
  case first =>
    go_region_law
      ((refine step_append_grows (by rfl) _ _ _ (by rfl) 3 i0 (.int .i64 0) 1 8 Yba.underlying25 hi hz0 hz1 hz2 rfl (by decide) ap zb.length zb.length (zb.map (Value.int .i64)) (by rfl) (fun h => ⟨hpn h, hpn h⟩) (by simp) (HP.out _) ⟨w.heap.size, 0, none⟩ 1 1 [.int .i64 a] (by rfl) (by rfl) (one_new w _ _) (by simp [Value.oneCell']) (by omega) (by simp only [maxLen]; omega) (by omega) ?_; intro v' w1 hown hgrow; obtain ⟨g, cap, hv, hg1, hg2⟩ := hown.form (by omega); have hown2 : Hid (w1.ownsRow _ 3 1 v' _ _) := hown; rw [hv]; have q0 := hgrow.cell (kcell f0) (by simp); have q1 := hgrow.cell (kcell cpb) (by simp); have q2 := kgfroz hgrow (x := ⟨gp, b, none⟩) (by simp; omega) (kfroz lgp fp); have q3 := hgrow.size; simp at q3; clear hown))
    all_goals
      go_wp2_with fail
      go_meet
    all_goals
      case rel =>
        have H := after_append HO.out.1 HO.out.2.2.1 (by rw [map_snoc] at hown2; exact hown2.out) hgrow
        rw [hv] at H
        exact ⟨H.1, H.2.1, _, H.2.2⟩
  case rest =>
    obtain ⟨hk, hki, pb', hgp, hip⟩ := hcut
    clear HP f0 cpb fp hpn
    obtain ⟨aS, rfl, hsn, hsc⟩ := HZA.out.keepInts hki
    have f1 := hk.cell F1.out (by simpa using n1)
    have hs := (hk.block gs (Array.getElem?_eq_some_iff.1 HO.out.2.1).1 (by simpa using Ne.symm n3)).trans HO.out.2.1
    have csa : wc.cell? ⟨gs, a, none⟩ = some (.slice aS za.length za.length) := by rw [cell_of_row wc gs a vs 25 (0, 0) hs]; exact HO.out.2.2.2
    have fs : wc.frozen? ⟨gs, a, none⟩ = false := frozen_of_row wc gs a vs 25 hs
    have HS : Hid (∀ o, ∀ b, aS = some b → ∀ j u, (za.map (Value.int .i64))[j]? = some u → (wc.alloc o).cell? (b.add j) = some u) := fun o => olds_of hsc o
    have lgs := World.block_lt_of_cell? wc _ csa
    have lbf2 := World.block_lt_of_cell? wc _ f1
    simp only at lgs lbf2
    have HH : Hid (wc.heap[gs]? = some (.cells vs 25 (0, 0)) ∧ wc.heap[gp]? = some (.cells (vp.setIfInBounds b pb') 25 (0, 0)) ∧ IntsAt wc pb' (zb ++ [(a : Int)]) ∧ Kept w wc (fun k => k = gp) ∧ KeptInts w wc) := ⟨hs, hgp, hip, hk, hki⟩
    clear hs hgp hip hk hki hsc lbf lgp
    go_upto_region 2 with fail
    go_region_law
      ((refine step_append_grows (by rfl) _ _ _ (by rfl) 3 i0 (.int .i64 0) 1 8 Yba.underlying25 hi hz0 hz1 hz2 rfl (by decide) aS za.length za.length (za.map (Value.int .i64)) (by rfl) (fun h => ⟨hsn h, hsn h⟩) (by simp) (HS.out _) ⟨wc.heap.size, 0, none⟩ 1 1 [.int .i64 b] (by rfl) (by rfl) (one_new wc _ _) (by simp [Value.oneCell']) (by omega) (by simp only [maxLen]; omega) (by omega) ?_; intro v' w1 hown hgrow; obtain ⟨g, cap, hv, hg1, hg2⟩ := hown.form (by omega); have hown2 : Hid (w1.ownsRow _ 3 1 v' _ _) := hown; rw [hv]; have q0 := hgrow.cell (kcell f1) (by simp); have q1 := hgrow.cell (kcell csa) (by simp); have q2 := kgfroz hgrow (x := ⟨gs, a, none⟩) (by simp; omega) (kfroz lgs fs); have q3 := hgrow.size; simp at q3; clear hown))
    all_goals
      have H := after_append HH.out.1 HO.out.2.2.2 (by rw [map_snoc] at hown2; exact hown2.out) hgrow
      rw [hv] at H
      obtain ⟨hk2, hki2, hgs2, his⟩ := H
      have hgp2 := (hk2.block gp (Array.getElem?_eq_some_iff.1 HH.out.2.1).1 (by simpa using n3)).trans HH.out.2.1
      have hip2 := HH.out.2.2.1.keepInts hki2
      have hA := (HH.out.2.2.2.1.mono (T := fun k => k = gp ∨ k = gs) (fun _ h => Or.inl h)).trans (hk2.mono (fun _ h => Or.inr h))
      have hB := HH.out.2.2.2.2.trans hki2
      have hA' := hide hA
      have hB' := hide hB
      have h1' := hide hgp2
      have h2' := hide hgs2
      have h3' := hide hip2
      have h4' := hide his
      clear hk2 hki2 hgs2 his hgp2 hip2 HH HO HS HZA F1 csa f1 fs hA hB q0 q1 q2 hown2 hgrow
      go_wp2
      go_end0
      exact ⟨rfl, unhide hA', unhide hB', pb', _, unhide h1', unhide h2', unhide h3', unhide h4'⟩
end Go.Proofs.Ybulkaba
