import Derived.Test.YbulkaamSMain
import Derived.SliceStrings
import Derived.OpenShut
import Derived.ProofKit
import Derived.Deep.Slices
namespace Go.Proofs.Ybulkaam
open Go.RowKit Go.ChangeShapes Go.WideShapes Go.ChangeAt Go.Deep

theorem cells9 : Yba.prog.cellsOf 9 = 1 := by kernel_rfl
theorem cells63 : Yba.prog.cellsOf 63 = 1 := by kernel_rfl
theorem cells53 : Yba.prog.cellsOf 53 = 1 := by kernel_rfl
theorem cells5 : Yba.prog.cellsOf 5 = 1 := by kernel_rfl

set_option maxRecDepth 1000000 in
set_option maxHeartbeats 6400000 in
theorem slots_walk (a0 a1 a2 : Option Addr) (n c0 m c1 q c2 : Nat) (N : Nat → ByteArray) (S : Nat → Int) (w0 : World)
    (hK : ∀ k, k < n → ∃ b off, a0 = some ⟨b, off, none⟩ ∧ w0.cell? ⟨b, off + k, none⟩ = some (.string (N k))) (hS : ∀ k, k < m → ∃ b off, a1 = some ⟨b, off, none⟩ ∧ w0.cell? ⟨b, off + k, none⟩ = some (.int .i8 (S k))) (hC : Cu w0 a2 q) :
    Calls Yba.prog 4 #[.slice a0 n c0, .slice a1 m c1, .slice a2 q c2] w0 fun e w' => e = .returned (.bool true) ∧ Below w0.heap.size w0 w' := by
  by_cases ln : n ≤ 256
  · by_cases lq : q ≤ 256
    · exact slots_main a0 a1 a2 n c0 m c1 q c2 N S w0 hK hS hC ln lq
    · have t1 : ¬ ((256 : Int) < (n : Int)) := by omega
      have t2 : (256 : Int) < (q : Int) := by omega
      clear hK hS hC
      go_enter Yba.func4, Yba.ntmps4
      go_wp2_with fail
      go_ret
      exact ⟨rfl, Below.refl _ _⟩
  · have t1 : (256 : Int) < (n : Int) := by omega
    clear hK hS hC
    go_enter Yba.func4, Yba.ntmps4
    go_wp2_with fail
    go_ret
    exact ⟨rfl, Below.refl _ _⟩

theorem keys_of_trod {H : Type} {enc : TypeId × Value → H} {W : World} {a : Option Addr} {len cap fuel : Nat} {x : DataW H × List MemPlace}
    (h : DataW.trod enc Yba.prog W 0 (fun _ => true) true fuel 22 [.slice a len cap] = some x) : ∃ N : Nat → ByteArray, ∀ k, k < len → ∃ b off, a = some ⟨b, off, none⟩ ∧ W.cell? ⟨b, off + k, none⟩ = some (.string (N k)) := by
  rcases open_strings Yba.underlying22 Yba.underlying9 cells9 h with ⟨hcs, _⟩ | ⟨a', len', cap', ss, hcs, _, hl, _, hz, _, hcell, _⟩
  · simp at hcs
    obtain ⟨rfl, rfl, rfl⟩ := hcs
    exact ⟨fun _ => ByteArray.empty, fun k hk => by omega⟩
  · simp at hcs
    obtain ⟨rfl, rfl, rfl⟩ := hcs
    simp only [if_true] at hz
    refine ⟨fun k => ss.getD k ByteArray.empty, fun k hk => ?_⟩
    have hc := hcell k (by omega)
    have hc0 := hcell 0 (by omega)
    obtain ⟨b, off, spot⟩ := a'
    have hspot : spot = none := by simpa [Addr.add] using World.cell?_spot hc0
    subst hspot
    rw [add_off] at hc
    exact ⟨b, off, rfl, hc⟩
theorem sides_of_trod {H : Type} {enc : TypeId × Value → H} {W : World} {a : Option Addr} {len cap fuel : Nat} {x : DataW H × List MemPlace}
    (h : DataW.trod enc Yba.prog W 0 (fun _ => true) true fuel 51 [.slice a len cap] = some x) : ∃ S : Nat → Int, ∀ k, k < len → ∃ b off, a = some ⟨b, off, none⟩ ∧ W.cell? ⟨b, off + k, none⟩ = some (.int .i8 (S k)) := by
  rcases open_ints Yba.underlying51 Yba.underlying63 cells63 h with ⟨hcs, _⟩ | ⟨a', len', cap', zs, hcs, _, hl, _, hz, _, hcell, hwf⟩
  · simp at hcs
    obtain ⟨rfl, rfl, rfl⟩ := hcs
    exact ⟨fun _ => 0, fun k hk => by omega⟩
  · simp at hcs
    obtain ⟨rfl, rfl, rfl⟩ := hcs
    simp only [if_true] at hz
    refine ⟨fun k => zs.getD k 0, fun k hk => ?_⟩
    have hc := hcell k (by omega)
    have hc0 := hcell 0 (by omega)
    obtain ⟨b, off, spot⟩ := a'
    have hspot : spot = none := by simpa [Addr.add] using World.cell?_spot hc0
    subst hspot
    rw [add_off] at hc
    exact ⟨b, off, rfl, hc⟩
theorem bytes_of_trod {H : Type} {enc : TypeId × Value → H} {W : World} {v : Value} {fuel : Nat} {x : DataW H × List MemPlace}
    (h : DataW.trod enc Yba.prog W 0 (fun _ => true) true fuel 53 [v] = some x) : ∃ a l cp xs, v = .slice a l cp ∧ xs.length = l ∧ Bytes W a xs := by
  rcases open_ints Yba.underlying53 Yba.underlying5 cells5 h with ⟨hcs, _⟩ | ⟨a', len', cap', zs, hcs, _, hl, _, hz, _, hcell, hwf⟩
  · simp at hcs
    exact ⟨none, 0, 0, [], hcs, rfl, fun k hk => by simp at hk⟩
  · simp at hcs
    simp only [if_true] at hz
    refine ⟨some a', len', cap', zs.take len', hcs, by simp; omega, fun k hk => ?_⟩
    have hk' : k < len' := by simp at hk; omega
    have e1 : (zs.take len').getD k 0 = zs.getD k 0 := by simp [List.getD, hk']
    rw [e1]
    have hc := hcell k (by omega)
    have hmem : zs.getD k 0 ∈ zs := by simp [List.getD, List.getElem?_eq_getElem (show k < zs.length by omega)]
    have hw := hwf _ hmem
    simp [Lit.wf, IntKind.min, IntKind.max, IntKind.signed, IntKind.bits] at hw
    refine ⟨?_, ?_, ?_⟩
    · have hc0 := hcell 0 (by omega)
      obtain ⟨b, off, spot⟩ := a'
      have hspot : spot = none := by simpa [Addr.add] using World.cell?_spot hc0
      subst hspot
      rw [add_off] at hc
      exact ⟨b, off, rfl, hc⟩
    · simp only [List.getD]; omega
    · simp only [List.getD]; omega
theorem curs_of_trod {H : Type} {enc : TypeId × Value → H} {W : World} {a : Option Addr} {len cap fuel : Nat} {x : DataW H × List MemPlace}
    (h : DataW.trod enc Yba.prog W 0 (fun _ => true) true fuel 52 [.slice a len cap] = some x) : Cu W a len := by
  rcases open_slice1 Yba.underlying52 cells53 h with ⟨hcs, _⟩ | ⟨a', len', cap', m, n, V, D, Pl, hcs, _, hl, _, hm, _, hx⟩
  · simp at hcs
    obtain ⟨rfl, rfl, rfl⟩ := hcs
    exact fun k hk => by omega
  · simp at hcs
    obtain ⟨rfl, rfl, rfl⟩ := hcs
    simp only [if_true] at hm
    intro k hk
    obtain ⟨hc, ht⟩ := hx k (by omega)
    obtain ⟨hc0, _⟩ := hx 0 (by omega)
    obtain ⟨b, off, spot⟩ := a'
    have hspot : spot = none := by simpa [Addr.add] using World.cell?_spot hc0
    subst hspot
    rw [add_off] at hc
    obtain ⟨a2, l, cp, xs, e1, e2, e3⟩ := bytes_of_trod ht
    exact ⟨b, off, rfl, a2, l, cp, xs, by rw [hc, e1], e2, e3⟩
end Go.Proofs.Ybulkaam
