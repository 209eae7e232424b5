import Derived.Test.YbulkabaFs
import Derived.Deep.Matrix
namespace Go.Proofs.Ybulkaba
open Go.RowKit Go.Deep

theorem cells25 : Yba.prog.cellsOf 25 = 1 := by kernel_rfl
theorem cells3 : Yba.prog.cellsOf 3 = 1 := by kernel_rfl

theorem rows_of_trod {H : Type} {enc : TypeId × Value → H} {W : World} {a : Option Addr} {len cap fuel : Nat} {x : DataW H × List MemPlace}
    (h : DataW.trod enc Yba.prog W 0 (fun _ => true) true fuel 27 [.slice a len cap] = some x) : ∃ V Z, RowsAt W a len V Z := by
  rcases open_int_rows Yba.underlying27 Yba.underlying25 Yba.underlying3 cells25 cells3 h with ⟨hcs, _⟩ | ⟨a', len', cap', A, L, C, Z, hcs, _, hl, _, _, hx⟩
  · simp at hcs
    obtain ⟨rfl, rfl, rfl⟩ := hcs
    exact ⟨fun _ => undef, fun _ => [], fun k hk => by omega⟩
  · simp at hcs
    obtain ⟨rfl, rfl, rfl⟩ := hcs
    refine ⟨fun r => .slice (A r) (L r) (C r), fun r => (Z r).take (L r), fun k hk => ?_⟩
    obtain ⟨hc, h1, h2, h3, _, h5, h6⟩ := hx k (by omega)
    refine ⟨?_, A k, C k, ?_, ?_, ?_⟩
    · obtain ⟨b, off, spot⟩ := a'
      have hc0 := (hx 0 (by omega)).1
      have hspot : spot = none := by simpa [Addr.add] using World.cell?_spot hc0
      subst hspot
      rw [add_off] at hc
      exact ⟨b, off, rfl, hc⟩
    · simp only [List.length_take, h3, Nat.min_eq_left h1]
    · intro e
      have := h5 e
      simp only [List.length_take, h3]
      omega
    · intro y hy i hi
      simp only [List.length_take, h3] at hi
      rw [(h6 y hy).2 i (by omega)]
      have : ((Z k).take (L k)).getD i 0 = (Z k).getD i 0 := by simp [List.getD, show i < L k by omega]
      rw [this]
end Go.Proofs.Ybulkaba
