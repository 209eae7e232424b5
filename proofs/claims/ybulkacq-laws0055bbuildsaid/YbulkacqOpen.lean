import Derived.Test.YbulkacqMem
import Derived.Deep.SlicePairs
namespace Go.Proofs.Ybulkacq
open Go.RowKit Go.Deep

theorem cells49 : Yba.prog.cellsOf 49 = 3 := by kernel_rfl
theorem cells3 : Yba.prog.cellsOf 3 = 1 := by kernel_rfl
set_option maxRecDepth 100000 in
theorem args_of_trod {H : Type} {enc : TypeId × Value → H} {W : World} {a : Option Addr} {len cap fuel : Nat} {x : DataW H × List MemPlace}
    (h : DataW.trod enc Yba.prog W 0 (fun _ => true) true fuel 40 [.slice a len cap] = some x) : ∃ R F T, Args a len R F T W := by
  rcases open_slice Yba.underlying40 h with ⟨hcs, _⟩ | ⟨a', len', cap', m, n, D, Pl, hcs, _, hl, _, hm, _, hx⟩
  · simp at hcs
    obtain ⟨rfl, rfl, rfl⟩ := hcs
    exact ⟨fun _ => 0, fun _ => 0, fun _ => 0, fun k hk => by omega⟩
  · simp at hcs
    obtain ⟨rfl, rfl, rfl⟩ := hcs
    have each : ∀ i, i < len → ∃ q : Int × Int × Int, W.cell? (a'.add (i * 3)) = some (.int .i64 q.1) ∧ W.cell? (a'.add (i * 3 + 1)) = some (.int .i64 q.2.1) ∧ W.cell? (a'.add (i * 3 + 2)) = some (.int .i64 q.2.2) := fun i hi => by
      obtain ⟨cs', h1, h2⟩ := hx i (by simp at hm; omega)
      rw [cells49] at h1
      obtain ⟨_, hlen, hcell⟩ := World.cells?_some h1
      obtain ⟨xs, k, hk, hxy, _, hxl, hf⟩ := DataW.trod_struct Yba.underlying49 h2
      match xs, hxl, cs', hlen with
      | [y0, y1, y2], _, [v0, v1, v2], _ =>
        have g0 := hf 0 _ rfl
        have g1 := hf 1 _ rfl
        have g2 := hf 2 _ rfl
        simp [cells3] at g0 g1 g2
        obtain ⟨z0, e0, _⟩ := DataW.trod_int Yba.underlying3 g0
        obtain ⟨z1, e1, _⟩ := DataW.trod_int Yba.underlying3 g1
        obtain ⟨z2, e2, _⟩ := DataW.trod_int Yba.underlying3 g2
        simp at e0 e1 e2
        subst e0 e1 e2
        have c0 := hcell 0 (by omega)
        have c1 := hcell 1 (by omega)
        have c2 := hcell 2 (by omega)
        rw [add_add] at c0 c1 c2
        exact ⟨(z0, z1, z2), by simpa using c0, by simpa using c1, by simpa using c2⟩
    obtain ⟨q, hq⟩ := choose_lt each
    refine ⟨fun i => (q i).1, fun i => (q i).2.1, fun i => (q i).2.2, fun k hk => ?_⟩
    obtain ⟨h0, h1, h2⟩ := hq k hk
    obtain ⟨b, off, spot⟩ := a'
    have hspot : spot = none := by simpa [Addr.add] using World.cell?_spot (hq 0 (by omega)).1
    subst hspot
    rw [add_off] at h0 h1 h2
    exact ⟨b, off, rfl, h0, by rw [← Nat.add_assoc] at h1; exact h1, by rw [← Nat.add_assoc] at h2; exact h2⟩
end Go.Proofs.Ybulkacq
