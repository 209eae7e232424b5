import Derived.Test.YbulkacqLb
import Derived.Test.YbulkacqDropW
import Derived.Below
import Derived.BigRegion
namespace Go.Proofs.Ybulkacq
open Go.RowKit Go.ChangeMaps

theorem below_of {w w' : World} (g : w.grownBy w' none) : Below w.heap.size w w' :=
  ⟨g.1, g.2, g.3, g.size, fun k hk => g.block k hk (by simp)⟩

set_option maxRecDepth 100000 in
set_option maxHeartbeats 6400000 in
theorem build_main (n st : Int) (rnd : Bool) (seed : Int) (a : Option Addr) (m cap : Nat) (R F T : Nat → Int) (w : World) (ha : Args a m R F T w) (hm : m ≤ 1024) :
    Calls Yba.prog 5 #[.int .i64 n, .int .i64 st, .bool rnd, .int .u64 seed, .slice a m cap] w fun e w' => e = .returned (.bool true) ∧ Below w.heap.size w w' := by
  have HA := hide ha
  have z33 := zero33
  have z66 := zero66
  have z45 := zero45
  obtain ⟨c0, hc0, hmk⟩ := mk47 m hm
  have HC := hide hc0
  have t1 : ¬ ((1024 : Int) < (m : Int)) := by omega
  clear ha hc0
  go_enter Yba.func5, Yba.ntmps5
  go_wp2_with fail
  go_loopg [39] m (fun g i wr => ∃ k : Nat, g = m - k ∧ k ≤ m ∧ i = .int .i64 k ∧ Fill w wr (w.heap.size + 1) m k (fun i => (R i, F i)))
  case atStart => exact ⟨0, by omega, by omega, rfl, Fill.zero w _ _ m _ (unhide HC)⟩
  case round =>
    obtain ⟨k, hgk, hk, rfl, fl⟩ := hrel
    by_cases hlt : k < m
    · -- <<
      obtain ⟨b, off, rfl, k0, k1, k2⟩ := unhide HA k hlt
      obtain ⟨c, hc, hb⟩ := fl.blk
      have s0 : wr.cell? ⟨w.heap.size + 1, k * 5, none⟩ = some (c[k * 5]'(by omega)) := by simp [World.cell?, hb]
      have s1 : wr.cell? ⟨w.heap.size + 1, k * 5 + 1, none⟩ = some (c[k * 5 + 1]'(by omega)) := by simp [World.cell?, hb]
      have s2 : wr.cell? ⟨w.heap.size + 1, k * 5 + 2, none⟩ = some (c[k * 5 + 2]'(by omega)) := by simp [World.cell?, hb]
      have s3 : wr.cell? ⟨w.heap.size + 1, k * 5 + 3, none⟩ = some (c[k * 5 + 3]'(by omega)) := by simp [World.cell?, hb]
      have s4 : wr.cell? ⟨w.heap.size + 1, k * 5 + 4, none⟩ = some (c[k * 5 + 4]'(by omega)) := by simp [World.cell?, hb]
      have fz : ∀ i, wr.frozen? ⟨w.heap.size + 1, i, none⟩ = false := fun i => by simp [World.frozen?, hb]
      have lb : w.heap.size + 1 < wr.heap.size := (Array.getElem?_eq_some_iff.1 hb).1
      replace k0 := fl.g.cell k0 (by simp)
      replace k1 := fl.g.cell k1 (by simp)
      replace k2 := fl.g.cell k2 (by simp)
      have i1 : (0 : Int) ≤ (k : Int) := by omega
      have i2 : (k : Int) < (m : Int) := by omega
      have Hfl := hide fl
      generalize c[k * 5]'(by omega) = x0 at s0
      generalize c[k * 5 + 1]'(by omega) = x1 at s1
      generalize c[k * 5 + 2]'(by omega) = x2 at s2
      generalize c[k * 5 + 3]'(by omega) = x3 at s3
      generalize c[k * 5 + 4]'(by omega) = x4 at s4
      clear fl hb hc
      go_wp2_with fail
      go_roundg (m - (k + 1))
      case measure => omega
      case rel => exact ⟨k + 1, rfl, by omega, by go_num, (unhide Hfl).next hlt _ _ _⟩
      -- >>
    · obtain rfl : k = m := by omega
      have Hfl := hide fl
      have HG := hide fl.g
      clear fl
      go_upto_region 11 with fail
      go_cut [16] (fun t16 wc => ∃ D L M C G base val xs, t16 = .pointer (some ⟨D, 0, none⟩) ∧ Built wc D k n st seed rnd w.heap.size ⟨w.heap.size + 1, 0, none⟩ (fun i => (R i, F i)) L M C G base val xs ∧ Dr (w.heap.size + 1) k (fun i => (R i, F i)) wc ∧ w.grownBy wc none)
      case first =>
        -- <<F
        go_wp2_with (go_at_call 7; refine (drop_walk _ k n st seed rnd w.heap.size (w.heap.size + 1) (fun i => (R i, F i)) _ (by simp [Ex, go_sem]) ((unhide Hfl).dr.grown (World.grownBy_alloc _ _ none)) hm).mono ?_; rintro e w1 ⟨D, L, M, C, G, base, val, xs, rfl, hB, hg⟩)
        go_meet
        case rel => exact ⟨D, L, M, C, G, base, val, xs, rfl, hB, ((unhide Hfl).dr.grown (World.grownBy_alloc _ _ none)).grown hg, ((unhide HG).trans (World.grownBy_alloc _ _ none)).trans hg⟩
        -- >>
      case rest =>
        clear Hfl HG HA HC z33 z66 z45 hmk hgk
        obtain ⟨D, L, M, C, G, base, val, xs, rfl, B, dr, gr⟩ := hcut
        have HB := hide B
        have HD := hide dr
        have HG := hide gr
        have d0 := B.c0
        have d1 := B.c1
        have d2 := B.c2
        have d4 := B.c4
        have d6 := B.c6
        clear B dr gr
        have pe := fun (x : World) => neq_same ⟨w.heap.size, 0, none⟩ x Ybulkacq.u41 i45
        have pe2 := fun (x : World) => neq_same ⟨w.heap.size + 1, 0, none⟩ x Ybulkacq.u96 i53
        go_upto_region 18 with fail
        go_cut [112] (fun t wd => t = .bool false ∧ wc.grownBy wd none)
        case first =>
          -- <<
          by_cases hp : (0 : Int) < (k : Int)
          · have e1 : decide ((0 : Int) < (k : Int)) = true := by simpa using hp
            have e2 : decide (0 < k) = true := by simpa using hp
            have e3 : 0 < k := by omega
            go_quiet (fail)
            go_wp2_with fail
            go_meet
            case rel => exact ⟨rfl, grown_drewN _ _⟩
          · have e1 : decide ((0 : Int) < (k : Int)) = false := by simpa using hp
            have e2 : decide (0 < k) = false := by simpa using hp
            go_quiet (fail)
            go_wp2_with fail
            go_meet
            case rel => exact ⟨rfl, grown_drewN _ _⟩
          -- >>
        case rest =>
          obtain ⟨rfl, gd⟩ := hcut
          replace HB := hide ((unhide HB).kept gd)
          replace HD := hide ((unhide HD).grown gd)
          replace HG := hide ((unhide HG).trans gd)
          clear d0 d1 d2 d4 d6 gd pe pe2
          have d6 := (unhide HB).c6
          go_wp2_with fail
          go_loopg [126] k (fun g i wx => ∃ j : Nat, g = k - j ∧ j ≤ k ∧ i = .int .i64 j ∧ wc = wx)
          case atStart => exact ⟨0, by omega, by omega, rfl, rfl⟩
          case round =>
            obtain ⟨j, hgj, hj, rfl, rfl⟩ := hrel
            by_cases hlt2 : j < k
            · -- <<
              have cM : wc.cell? ⟨M, j, none⟩ = some (.bool false) := cell_of (unhide HB).hM (by simp [reps, hlt2])
              have i1 : (0 : Int) ≤ (j : Int) := by omega
              have i2 : (j : Int) < (k : Int) := by omega
              go_wp2_with fail
              go_roundg (k - (j + 1))
              case measure => omega
              case rel => exact ⟨j + 1, rfl, by omega, by go_num, rfl⟩
              -- >>
            · obtain rfl : k = j := by omega
              have em1 := eqm93
              have em2 := eqm69
              have d49 := (unhide HB).c49
              have hC := lenm93 (unhide HB).hC
              have d5 := (unhide HB).c5
              clear hgj
              go_wp2_with fail
              clear em1 em2 d49 hC d6 d5
              change Code.wp Yba.prog (Code.loop body3) _ _ _
              change Code.wp _ _ (Exit.inBlock 4 (Exit.then _ (bodyPost Yba.prog Yba.f5 _))) _ _
              apply loop3 (HB := HB) (HD := HD) (hm := hm)
              intro u10 u18 u19 u20 u21 u22 u157 u158 u159 u160 u161 u162 u163 u164 u165 u166 u167 u168 u169 u170 u171 u172 u173 u174 u175 u176 u177 u178 u179 u180 u181 u182 u183 u184 u185 u186 u187 u188 u189 u190 u191 u192 u193 u194 u195 u196 u197 u198 u199 u200 u201 u202 u203 u204 u205 u206 u207 u208 u209 u210 w3 g3
              have HB3 := hide ((unhide HB).kept g3)
              have HD3 := hide ((unhide HD).grown g3)
              have HG3 := hide ((unhide HG).trans g3)
              clear HB HD HG g3
              go_wp2_with fail
              change Code.wp Yba.prog (Code.loop body5) _ _ _
              change Code.wp _ _ (Exit.inBlock 8 (Exit.then _ (bodyPost Yba.prog Yba.f5 _))) _ _
              apply loop5 (HD := HD3) (hm := hm)
              intro u24 u25 u26 u213 u214 u215 u216 u217 u218 u219 u220 u221 u222 u223 u224 u225 u226 u227 u228 u229 u230 u231 u232 u233 u234 w5 g5
              have HB5 := hide ((unhide HB3).kept g5)
              have HG5 := hide ((unhide HG3).trans g5)
              clear HB3 HD3 HG3 g5
              have d5 := (unhide HB5).c5
              have d3 := (unhide HB5).c3
              have hln := lenm69 (unhide HB5).hL
              rw [ents_size] at hln
              cases rnd with
              | false =>
                simp only [Bool.false_eq_true, if_false] at d3
                go_wp2_with fail
                go_ret
                exact ⟨rfl, below_of (unhide HG5)⟩
              | true =>
                simp only [if_true] at d3
                have g0 := (unhide HB5).g0 rfl
                have g1 := (unhide HB5).g1 rfl
                simp only [start, gold, five] at g0 g1
                go_upto_region 69 with (go_at_call 9; refine (mix_walk _ _).mono ?_; rintro e w1 ⟨rfl, rfl⟩)
                go_quiet ((go_at_call 9; exact Calls.quiet_of_same (mix_walk _ _)))
                go_wp2_with fail
                go_ret
                exact ⟨by simp, below_of ((unhide HG5).trans (grown_drewN _ _))⟩

set_option maxRecDepth 100000 in
theorem build_walk (n st : Int) (rnd : Bool) (seed : Int) (a : Option Addr) (m cap : Nat) (R F T : Nat → Int) (w : World) (ha : Args a m R F T w) :
    Calls Yba.prog 5 #[.int .i64 n, .int .i64 st, .bool rnd, .int .u64 seed, .slice a m cap] w fun e w' => e = .returned (.bool true) ∧ Below w.heap.size w w' := by
  by_cases hm : m ≤ 1024
  · exact build_main n st rnd seed a m cap R F T w ha hm
  · have t1 : (1024 : Int) < (m : Int) := by omega
    clear ha
    go_enter Yba.func5, Yba.ntmps5
    go_wp2_with fail
    go_ret
    exact ⟨rfl, Below.refl _ _⟩
end Go.Proofs.Ybulkacq
