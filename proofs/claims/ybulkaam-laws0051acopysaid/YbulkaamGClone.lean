import Derived.Test.YbulkaamCl
namespace Go.Proofs.Ybulkaam
open Go.RowKit
set_option maxRecDepth 100000 in
set_option maxHeartbeats 1600000 in
theorem clone_st {w0 w : World} {val : Nat → Nat → Value} {xs : Nat → Nat → List Value} (S : St w0 w val tyf xs) (bg mg n : Nat) (ad : Addr)
    (hS : val 0 0 = .slice (some ⟨bg, 0, none⟩) 4 4) (hxS : xs 0 0 = [.pointer (some ad), val 1 0, val 2 0, .map (some mg)]) (hm : w.heap[mg]? = some (.map #[] 0)) (hrows : xs 2 0 = (List.range n).map (val 3)) (hn : n ≤ 256) (lN : (xs 1 0).length ≤ 4096) (lR : ∀ y, (xs 3 y).length ≤ 4096) :
    Calls Yba.prog 12 #[.pointer (some ⟨bg, 0, none⟩)] w fun e w' => ∃ bc ca mc, e = .returned (.pointer (some ⟨bc, 0, none⟩)) ∧ CL w0 w w' val xs ad n n bc ca mg mc := by
  obtain ⟨aN, cN, hvN, hlN, h0N⟩ := S.full 1 0
  obtain ⟨aA, cA, hvA, hlA, h0A⟩ := S.full 2 0
  have hlenA : (xs 2 0).length = n := by rw [hrows]; simp
  rw [hlenA] at hvA hlA h0A
  have cs : CS bg mg (.pointer (some ad)) (val 1 0) (val 2 0) w := ⟨S.cell hS (by rw [hxS]; rfl), S.cell hS (by rw [hxS]; rfl), S.cell hS (by rw [hxS]; rfl), S.cell hS (by rw [hxS]; rfl), hm⟩
  rw [hvN, hvA] at cs
  have hmk := mk25 n (by omega)
  have hmm := mm26
  have hln := fun w ty h => len26 w mg ty h
  have eN : clip (val 1 0) = .slice aN (xs 1 0).length (xs 1 0).length := by rw [hvN]; rfl
  have EN := hide eN
  have HA := hide (clone_bornA S mg n ad hm hn)
  have HB := hide (clone_bornB S mg n ad hm hn)
  rw [eN] at HA HB
  have HvA := hide hvA
  have Hrows := hide hrows
  have HlR := hide lR
  have HxS := hide hxS
  have HS := hide S
  have HhS := hide hS
  have Hcs := hide cs
  have Hm := hide hm
  obtain ⟨c0, c1, c2, c3, c4⟩ := cs
  have H0N := hide h0N
  have lbg := (S.len hS).2.1
  clear S hm eN hvN hvA h0N h0A hrows hxS hS lR
  go_enter Yba.func12, Yba.ntmps12
  go_wp2
  go_cut [3] (fun t wc => ∃ bc ca mc, t = .pointer (some ⟨bc, 0, none⟩) ∧ w.heap.size ≤ ca ∧ CL w0 w wc val xs ad n 0 bc ca mg mc)
  case first =>
    go_region_held3 (fun w' => w'.cell? ⟨bg, 0, none⟩ = some (.pointer (some ad)) ∧ w'.cell? ⟨bg, 1, none⟩ = some (.slice aN (xs 1 0).length cN) ∧ w'.cell? ⟨bg, 2, none⟩ = some (.slice aA n cA) ∧ w'.cell? ⟨bg, 3, none⟩ = some (.map (some mg)) ∧ w'.heap[mg]? = some (.map #[] 0))
      (first
        | exact unhide Hcs
        | exact (unhide Hcs).alloc _
        | exact ((unhide Hcs).alloc _).alloc _
        | exact (((unhide Hcs).alloc _).alloc _).alloc _)
      (first
        | (go_at_call 18; refine (clip_strs _ aN (xs 1 0).length cN hlN (unhide H0N) lN).mono ?_; rintro e w' ⟨rfl, rfl⟩))
    all_goals
      go_wp2_with fail
      go_meet
    all_goals
      case rel =>
        first
          | exact ⟨_, _, _, rfl, Nat.le_refl _, unhide HA⟩
          | exact ⟨_, _, _, rfl, Nat.le_succ _, unhide HB⟩
  case rest =>
    obtain ⟨bc, ca, mc, rfl, hca, hC⟩ := hcut
    have g2 : wc.cell? ⟨bg, 2, none⟩ = some (.slice aA n cA) := hC.old (by omega) (unhide HhS) (by rw [unhide HxS, unhide HvA]; rfl)
    have HC := hide hC
    clear hC c0 c1 c2 c3 c4 hmk hmm Hcs
    go_wp2_with fail
    go_loopg [37] n (fun g i wr => ∃ k : Nat, g = n - k ∧ k ≤ n ∧ i = .int .i64 k ∧ CL w0 w wr val xs ad n k bc ca mg mc)
    case atStart => exact ⟨0, by omega, by omega, rfl, unhide HC⟩
    case round =>
      clear g2 HC
      obtain ⟨k, hgk, hk, rfl, hC⟩ := hrel
      by_cases hlt : k < n
      · obtain ⟨aR, cR, hvR, hlR, h0R⟩ := (unhide HS).full 3 k
        obtain ⟨ga, cA', hvA⟩ := (unhide HS).form (k := 2) (y := 0) (by rw [unhide Hrows]; simp; omega)
        have e1 := hvA.symm.trans (unhide HvA)
        simp only [Value.slice.injEq] at e1
        obtain ⟨rfl, _, rfl⟩ := e1
        have cr : wr.cell? ⟨ga, k, none⟩ = some (.slice aR (xs 3 k).length cR) := hC.old (by omega) hvA (by rw [unhide Hrows, ← hvR]; simp [hlt])
        have c2 := hC.cell2
        obtain ⟨v0, cv⟩ := hC.cellA hlt
        have fv := hC.frzA k
        have lR := unhide HlR k
        have i1 : (0 : Int) ≤ (k : Int) := by omega
        have i2 : (k : Int) < (n : Int) := by omega
        have eR : clip (val 3 k) = .slice aR (xs 3 k).length (xs 3 k).length := by rw [hvR]; rfl
        have HN := hide (hC.step hlt hca)
        rw [eR] at HN
        have H0R := hide h0R
        clear hC hvR hvA eR h0R
        go_wp2_with fail
        go_region_with (go_at_call 19; refine (clip_ints _ aR (xs 3 k).length cR hlR (unhide H0R) lR).mono ?_; rintro e w' ⟨rfl, rfl⟩)
        all_goals
          clear cr c2 cv fv lR H0R
          go_wp2
          go_roundg (n - (k + 1))
          case measure => omega
          case rel => exact ⟨k + 1, rfl, by omega, by go_num, (unhide HN).grown (grown_drew _)⟩
      · obtain rfl : k = n := by omega
        have g3 : wr.cell? ⟨bg, 3, none⟩ = some (.map (some mg)) := hC.old (by omega) (unhide HhS) (by rw [unhide HxS]; rfl)
        have hr := range_none wr mg hC.mg
        have hx := fun ty => next_none wr ty mg hC.mg
        have HC := hide hC
        clear hC
        go_wp2_with fail
        refine wp_loop_rounds 1 ?_
        rw [rounds_succ]
        go_wp2
        go_ret
        exact ⟨bc, ca, mc, rfl, (unhide HC).grown (World.grownBy_alloc _ _ none)⟩
end Go.Proofs.Ybulkaam
