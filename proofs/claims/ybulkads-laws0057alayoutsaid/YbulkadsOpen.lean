import Derived.Test.YbulkadsL1
import Derived.Deep.SlicePairs
namespace Go.Proofs.Ybulkads
open Go.RowKit Go.Deep

theorem cells29 : Yba.prog.cellsOf 29 = 4 := by kernel_rfl
theorem cells26 : Yba.prog.cellsOf 26 = 1 := by kernel_rfl
theorem cells27 : Yba.prog.cellsOf 27 = 1 := by kernel_rfl
theorem cells5 : Yba.prog.cellsOf 5 = 1 := by kernel_rfl

set_option maxRecDepth 100000 in
theorem nodes_of_trod {H' : Type} {enc : TypeId × Value → H'} {W : World} {a : Option Addr} {len cap fuel : Nat} {x : DataW H' × List MemPlace}
    (h : DataW.trod enc Yba.prog W 0 (fun _ => true) true fuel 22 [.slice a len cap] = some x) : ∃ K f u H, Nd a len K f u H W ∧ (∀ i, K i < 4294967296) ∧ ∀ i, H i < 256 := by
  rcases open_slice Yba.underlying22 h with ⟨hcs, _⟩ | ⟨a', len', cap', m, n, D, Pl, hcs, _, hl, _, hm, _, hx⟩
  · simp at hcs
    obtain ⟨rfl, rfl, rfl⟩ := hcs
    exact ⟨fun _ => 0, fun _ => 0, fun _ => 0, fun _ => 0, fun k hk => by omega, fun _ => by simp, fun _ => by simp⟩
  · simp at hcs
    obtain ⟨rfl, rfl, rfl⟩ := hcs
    have each : ∀ i, i < len → ∃ q : Nat × Int × Int × Nat, (q.1 < 4294967296 ∧ q.2.2.2 < 256) ∧ W.cell? (a'.add (i * 4)) = some (.int .u32 q.1) ∧ W.cell? (a'.add (i * 4 + 1)) = some (.int .u64 q.2.1) ∧ W.cell? (a'.add (i * 4 + 2)) = some (.int .u64 q.2.2.1) ∧ W.cell? (a'.add (i * 4 + 3)) = some (.int .u8 q.2.2.2) := fun i hi => by
      obtain ⟨cs', h1, h2⟩ := hx i (by simp at hm; omega)
      rw [cells29] at h1
      obtain ⟨_, hlen, hcell⟩ := World.cells?_some h1
      obtain ⟨xs, k, hk, hxy, _, hxl, hf⟩ := DataW.trod_struct Yba.underlying29 h2
      match xs, hxl, cs', hlen with
      | [y0, y1, y2, y3], _, [v0, v1, v2, v3], _ =>
        have g0 := hf 0 _ rfl
        have g1 := hf 1 _ rfl
        have g2 := hf 2 _ rfl
        have g3 := hf 3 _ rfl
        simp [cells26, cells27, cells5] at g0 g1 g2 g3
        obtain ⟨z0, e0, _, w0⟩ := DataW.trod_int Yba.underlying26 g0
        obtain ⟨z1, e1, _⟩ := DataW.trod_int Yba.underlying27 g1
        obtain ⟨z2, e2, _⟩ := DataW.trod_int Yba.underlying27 g2
        obtain ⟨z3, e3, _, w3⟩ := DataW.trod_int Yba.underlying5 g3
        simp at e0 e1 e2 e3
        subst e0 e1 e2 e3
        simp [Lit.wf, IntKind.min, IntKind.max, IntKind.signed, IntKind.bits] at w0 w3
        have c0 := hcell 0 (by omega)
        have c1 := hcell 1 (by omega)
        have c2 := hcell 2 (by omega)
        have c3 := hcell 3 (by omega)
        rw [add_add] at c0 c1 c2 c3
        refine ⟨(z0.toNat, z1, z2, z3.toNat), ⟨by simp; omega, by simp; omega⟩, ?_, by simpa using c1, by simpa using c2, ?_⟩
        · rw [show ((z0.toNat : Nat) : Int) = z0 from by omega]; simpa using c0
        · rw [show ((z3.toNat : Nat) : Int) = z3 from by omega]; simpa using c3
    obtain ⟨q, hq⟩ := choose_lt each
    refine ⟨fun i => if i < len then (q i).1 else 0, fun i => (q i).2.1, fun i => (q i).2.2.1, fun i => if i < len then (q i).2.2.2 else 0, fun k hk => ?_, fun i => ?_, fun i => ?_⟩
    · obtain ⟨_, h0, h1, h2, h3⟩ := hq k hk
      obtain ⟨b, off, spot⟩ := a'
      have hspot : spot = none := by simpa [Addr.add] using World.cell?_spot (hq 0 (by omega)).2.1
      subst hspot
      rw [add_off] at h0 h1 h2 h3
      simp only [hk, if_true]
      exact ⟨b, off, rfl, h0, by rw [← Nat.add_assoc] at h1; exact h1, by rw [← Nat.add_assoc] at h2; exact h2, by rw [← Nat.add_assoc] at h3; exact h3⟩
    · by_cases hi : i < len
      · simp only [hi, if_true]; exact (hq i hi).1.1
      · simp [hi]
    · by_cases hi : i < len
      · simp only [hi, if_true]; exact (hq i hi).1.2
      · simp [hi]
end Go.Proofs.Ybulkads
