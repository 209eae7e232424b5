import Derived.Test.YbulkaamCopyMain
import Derived.SliceStrings
import Derived.OpenShut
import Derived.ProofKit
namespace Go.Proofs.Ybulkaam
open Go.RowKit Go.ChangeShapes Go.WideShapes Go.ChangeAt

theorem cells9 : Yba.prog.cellsOf 9 = 1 := by kernel_rfl
theorem cells40 : Yba.prog.cellsOf 40 = 1 := by kernel_rfl

theorem strs_of_trod {H : Type} {enc : TypeId × Value → H} {W : World} {a : Option Addr} {len cap fuel : Nat} {x : DataW H × List MemPlace}
    (h : DataW.trod enc Yba.prog W 0 (fun _ => true) true fuel 22 [.slice a len cap] = some x) : ∃ N : List ByteArray, N.length = len ∧ View W (.slice a len cap) (strs N) := by
  rcases open_strings Yba.underlying22 Yba.underlying9 cells9 h with ⟨hcs, _⟩ | ⟨a', len', cap', ss, hcs, _, hl, _, hz, _, hcell, _⟩
  · simp at hcs
    obtain ⟨rfl, rfl, rfl⟩ := hcs
    exact ⟨[], rfl, none, 0, rfl, fun _ => rfl, fun b hb => by cases hb⟩
  · simp at hcs
    obtain ⟨rfl, rfl, rfl⟩ := hcs
    simp only [if_true] at hz
    have hlen : (ss.take len).length = len := by simp; omega
    refine ⟨ss.take len, hlen, some a', cap, by rw [len_strs, hlen], (fun e => by cases e), fun b hb j u hu => ?_⟩
    obtain rfl := Option.some.inj hb
    have hj : j < len := by have := (List.getElem?_eq_some_iff.1 hu).1; rw [len_strs, hlen] at this; exact this
    rw [hcell j (by omega)]
    rw [get_strs _ j (by omega)] at hu
    rw [← hu]
    simp [List.getD, List.getElem?_eq_getElem (show j < ss.length by omega)]

theorem u16s_of_trod {H : Type} {enc : TypeId × Value → H} {W : World} {a : Option Addr} {len cap fuel : Nat} {x : DataW H × List MemPlace}
    (h : DataW.trod enc Yba.prog W 0 (fun _ => true) true fuel 23 [.slice a len cap] = some x) : ∃ P : List Int, P.length = len ∧ U16s W a P := by
  rcases open_ints Yba.underlying23 Yba.underlying40 cells40 h with ⟨hcs, _⟩ | ⟨a', len', cap', zs, hcs, _, hl, _, hz, _, hcell, hwf⟩
  · simp at hcs
    obtain ⟨rfl, rfl, rfl⟩ := hcs
    exact ⟨[], rfl, fun k hk => by simp at hk⟩
  · simp at hcs
    obtain ⟨rfl, rfl, rfl⟩ := hcs
    simp only [if_true] at hz
    have hlen : (zs.take len).length = len := by simp; omega
    refine ⟨zs.take len, hlen, fun k hk => ?_⟩
    rw [hlen] at hk
    have e1 : (zs.take len).getD k 0 = zs.getD k 0 := by simp [List.getD, hk]
    rw [e1]
    have hc := hcell k (by omega)
    have hmem : zs.getD k 0 ∈ zs := by
      simp [List.getD, List.getElem?_eq_getElem (show k < zs.length by omega)]
    refine ⟨?_, bounds_u16 (hwf _ hmem)⟩
    obtain ⟨b, off, spot⟩ := a'
    have hc0 := hcell 0 (by omega)
    have hspot : spot = none := by simpa [Addr.add] using World.cell?_spot hc0
    subst hspot
    rw [add_off] at hc
    exact ⟨b, off, rfl, hc⟩
end Go.Proofs.Ybulkaam
