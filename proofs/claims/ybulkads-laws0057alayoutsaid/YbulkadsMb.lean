import Derived.Test.YbulkadsMa
namespace Go.Proofs.Ybulkads
open Go.RowKit

theorem Fl.rows {w w1 wr : World} {bi be bh n h : Nat} {K : Nat → Nat} {f u : Nat → Int} {hs : Nat → List Nat} {val : Nat → Value} {k m p : Nat} (F : Fl w w1 wr bi be bh n h K f u hs val k m p) (j : Nat) (hj : j < h) :
    ∃ a cap, wr.cell? ⟨bh, j, none⟩ = some (.slice a (hs j).length cap) ∧ ∀ q v : Nat, (hs j)[q]? = some v → ∃ p, a = some ⟨p, 0, none⟩ ∧ p < wr.heap.size ∧ w1.heap.size ≤ p ∧ wr.cell? ⟨p, q, none⟩ = some (.int .i32 v) := by
  obtain ⟨c, h1, h2, h3⟩ := F.hb
  have hc := cell_of h1 (h3 j hj)
  rcases (F.owns j).2 with ⟨h0, e0⟩ | ⟨g', cap', cur, hv', _⟩
  · rw [h0] at hc
    refine ⟨none, 0, by rw [e0]; exact hc, fun q v hq => ?_⟩
    have := (List.getElem?_eq_some_iff.1 hq).1
    omega
  · have hob : (val j).ownBlock = some g' := by rw [hv']; rfl
    have hl := (F.owns j).lt g' hob
    have hcells := (F.owns j).cells (g := g') hob
    rw [hv'] at hc
    refine ⟨some ⟨g', 0, none⟩, cap', hc, fun q v hq => ⟨g', rfl, hl.2, hl.1, ?_⟩⟩
    have := hcells q (.int .i32 v) (by simp [hq])
    rwa [add_zero_addr] at this

theorem Fl.ready {w w1 w2 : World} {bi be bh n h b : Nat} {K : Nat → Nat} {f u : Nat → Int} {H : Nat → Nat} {val : Nat → Value} (F : Fl w w1 w2 bi be bh n h K f u (fun j => hsTo H h j n) val n 0 n) {c46 c66 : Array Value}
    (k0 : c46[0]? = some (.int .i64 b)) (k2 : c46[2]? = some (.slice (some ⟨bi, 0, none⟩) n n)) (k18 : c46.size = 18) (k45 : c66[45]? = some (.slice (some ⟨bh, 0, none⟩) h h)) :
    Ov w2.heap.size bi b n K ((w2.alloc (.cells c46 46)).alloc (.cells c66 66)) ∧ (∃ c : Array Value, ((w2.alloc (.cells c46 46)).alloc (.cells c66 66)).heap[w2.heap.size]? = some (.cells c 46) ∧ c.size = 18) ∧
    Hn w2.heap.size (w2.heap.size + 1) bh h n (fun j => hsTo H h j n) ((w2.alloc (.cells c46 46)).alloc (.cells c66 66)) ∧ (∀ i, i < n → ((w2.alloc (.cells c46 46)).alloc (.cells c66 66)).cell? ⟨be, i * 24 + 22, none⟩ = some (.int .u64 (f i))) ∧ (∀ i, i < n → ((w2.alloc (.cells c46 46)).alloc (.cells c66 66)).cell? ⟨be, i * 24 + 23, none⟩ = some (.int .u64 (u i))) ∧
    w.grownBy ((w2.alloc (.cells c46 46)).alloc (.cells c66 66)) none ∧ be ≠ w2.heap.size ∧ bi ≠ w2.heap.size := by
  have ge := F.ge
  have g := (World.grownBy_alloc w2 (.cells c46 46) none).trans (World.grownBy_alloc _ (.cells c66 66) none)
  have hO : ((w2.alloc (.cells c46 46)).alloc (.cells c66 66)).heap[w2.heap.size]? = some (.cells c46 46) := kh (heap_new w2 _)
  have hC : ((w2.alloc (.cells c46 46)).alloc (.cells c66 66)).heap[w2.heap.size + 1]? = some (.cells c66 66) := by
    have := heap_new (w2.alloc (.cells c46 46)) (.cells c66 66)
    simp only [World.size_alloc] at this
    exact this
  refine ⟨⟨cell_of hO k0, cell_of hO k2, fun i hi c hc => ?_⟩, ⟨_, hO, k18⟩, ⟨cell_of hC k45, fun j hj => ?_, fun j q v hv => (hs_lt H h j n v (List.mem_of_getElem? hv)).1, hs_inj H h n, by omega, fun j => hs_len H h j n⟩, fun i hi => g.cell (F.idn i hi).1 (by simp), fun i hi => g.cell (F.idn i hi).2 (by simp), F.g.trans g, by omega, by omega⟩
  · have := F.ids i c hi hc
    simp only [hi, true_or, if_true] at this
    exact g.cell this (by simp)
  · obtain ⟨a, cap, h1, h2⟩ := F.rows j hj
    refine ⟨a, cap, g.cell h1 (by simp), fun q v hv => ?_⟩
    obtain ⟨p, e1, e2, _, e3⟩ := h2 q v hv
    exact ⟨p, e1, by omega, g.cell e3 (by simp)⟩
end Go.Proofs.Ybulkads
