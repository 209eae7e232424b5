import Derived.Test.YbulkacqDrop
namespace Go.Proofs.Ybulkacq
open Go.RowKit Go.ChangeMaps

set_option maxRecDepth 100000 in
set_option maxHeartbeats 1600000 in
theorem drop_walk (be m : Nat) (n st seed : Int) (rnd : Bool) (bl bd : Nat) (ps : Nat → Int × Int) (w : World) (hE : Ex be m n st seed rnd bl ⟨bd, 0, none⟩ w) (hD : Dr bd m ps w) (hm : m ≤ 1024) :
    Calls Yba.prog 7 #[.pointer (some ⟨be, 0, none⟩)] w fun e w' => ∃ D L M C G base val xs, e = .returned (.pointer (some ⟨D, 0, none⟩)) ∧ Built w' D m n st seed rnd bl ⟨bd, 0, none⟩ ps L M C G base val xs ∧ w.grownBy w' none := by
  have HE := hide hE
  have HD := hide hD
  clear hD
  have hmk := mk57 m (by omega)
  have hmm := mm69
  have hmn := mm93
  have hz := zero95
  obtain ⟨e5, e13, e15, e24, e26, e35⟩ := hE
  go_enter Yba.func7, Yba.ntmps7
  go_wp2
  go_cut [3] (fun t wc => ∃ D L M C, t = .pointer (some ⟨D, 0, none⟩) ∧ Born w wc D L M C m n st bl ⟨bd, 0, none⟩ none)
  case first =>
    go_region_held3 (fun w' => w'.cell? ⟨be, 5, none⟩ = some (.int .i64 n) ∧ w'.cell? ⟨be, 13, none⟩ = some (.int .i64 st) ∧ w'.cell? ⟨be, 15, none⟩ = some (.bool rnd) ∧ w'.cell? ⟨be, 24, none⟩ = some (.int .u64 seed) ∧
    w'.cell? ⟨be, 26, none⟩ = some (.pointer (some ⟨bl, 0, none⟩)) ∧ w'.cell? ⟨be, 35, none⟩ = some (.slice (some ⟨bd, 0, none⟩) m m))
      (first
        | exact unhide HE
        | exact (unhide HE).alloc _
        | exact ((unhide HE).alloc _).alloc _
        | exact (((unhide HE).alloc _).alloc _).alloc _
        | exact ((((unhide HE).alloc _).alloc _).alloc _).alloc _)
      (fail)
    all_goals
      go_wp2_with fail
      go_meet
    all_goals
      case rel =>
        obtain ⟨h1, h2, h3, h4⟩ := heap4 _ _ _ _ _
        refine ⟨_, _, _, _, rfl, born_of h4 rfl rfl rfl rfl rfl rfl rfl rfl (by first | exact h1 | exact h2 | exact h3) (by first | exact h1 | exact h2 | exact h3) (by first | exact h1 | exact h2 | exact h3) (by omega) (by omega) (by omega) (grown4 _ _ _ _ _)⟩
  case rest =>
    obtain ⟨D, L, M, C, rfl, B⟩ := hcut
    have f15 := B.g.cell e15 (by simp)
    have f24 := B.g.cell e24 (by simp)
    have f35 := B.g.cell e35 (by simp)
    have HB := hide B
    have c3 := B.c3
    have f3 := B.f3
    clear B e5 e13 e15 e24 e26 hmk hmm hmn hz
    go_upto_if 39 with fail
    go_cut [] (fun wd => ∃ G, Born w wd D L M C m n st bl ⟨bd, 0, none⟩ (if rnd then some ⟨G, 0, none⟩ else none) ∧ (rnd = true → wd.cell? ⟨G, 0, none⟩ = some (.int .u64 (start seed)) ∧ wd.cell? ⟨G, 1, none⟩ = some (.int .u64 (mix (start seed)))))
    case first =>
      cases rnd with
      | false =>
        go_wp2_with fail
        go_meet
        case rel => exact ⟨0, unhide HB, by simp⟩
      | true =>
        go_wp2_with (go_at_call 10; refine (stream_walk _ _).mono ?_; rintro e w1 ⟨rfl, h0, h1, h2⟩; have q3 := h2.cell c3 (by simp); have q4 : w1.frozen? ⟨D, 3, none⟩ = false := kf h2 c3 f3)
        go_meet
        case rel => exact ⟨wc.heap.size, born_gen (unhide HB) h2 _, fun _ => ⟨gen_cell (unhide HB) h0, gen_cell (unhide HB) h1⟩⟩
    case rest =>
      obtain ⟨G, B, hG⟩ := hcut
      have HG := hide hG
      have HB2 := hide B
      have f35 := B.g.cell e35 (by simp)
      have lL := (Array.getElem?_eq_some_iff.1 B.hL).1
      have HDr := hide ((unhide HD).grown B.g)
      clear B hG HB HE f15 f24 c3 f3 HD
      go_wp2_with fail
      go_loopg [54] m (fun g i wr => ∃ k val xs, g = m - k ∧ k ≤ m ∧ i = .int .i64 k ∧ Gr wc wr L (keysTo ps k) val xs ∧ Sp ps k xs)
      case atStart => exact ⟨0, _, _, by simp, by omega, rfl, Gr.zero (unhide HB2).hL, Sp.zero ps⟩
      case round =>
        obtain ⟨k, val, xs, hgk, hk, rfl, R, S⟩ := hrel
        by_cases hlt : k < m
        · obtain ⟨l, t, k0, k1, k2, k3, k4⟩ := unhide HDr k hlt
          replace k0 := kLc R.g k0 (unhide HB2).hL
          replace k1 := kLc R.g k1 (unhide HB2).hL
          replace k2 := kLc R.g k2 (unhide HB2).hL
          replace k3 := kLc R.g k3 (unhide HB2).hL
          replace k4 := kLc R.g k4 (unhide HB2).hL
          have d5 := kLc R.g (unhide HB2).c5 (unhide HB2).hL
          have HR := hide R
          have HS := hide S
          have i1 : (0 : Int) ≤ (k : Int) := by omega
          have i2 : (k : Int) < (m : Int) := by omega
          clear R S
          go_upto_region 8 with fail
          have R1 := ((unhide HR).kept (World.grownBy_alloc wr (.cells #[.int .i64 l, .int .i64 (ps k).fst, .int .i64 (ps k).snd, .int .i64 t, .nilIface] 53) none)).kept (World.grownBy_alloc _ (.cells #[.int .i64 (ps k).fst, .int .i64 (ps k).snd] 98) none)
          replace d5 := kc (o := (.cells #[.int .i64 (ps k).fst, .int .i64 (ps k).snd] 98)) (kc (o := (.cells #[.int .i64 l, .int .i64 (ps k).fst, .int .i64 (ps k).snd, .int .i64 t, .nilIface] 53)) d5)
          have y0 : ((wr.alloc (.cells #[.int .i64 l, .int .i64 (ps k).fst, .int .i64 (ps k).snd, .int .i64 t, .nilIface] 53)).alloc (.cells #[.int .i64 (ps k).fst, .int .i64 (ps k).snd] 98)).cell? ⟨wr.heap.size + 1, 0, none⟩ = some (.int .i64 (ps k).fst) := by simp [go_sem]
          have y1 : ((wr.alloc (.cells #[.int .i64 l, .int .i64 (ps k).fst, .int .i64 (ps k).snd, .int .i64 t, .nilIface] 53)).alloc (.cells #[.int .i64 (ps k).fst, .int .i64 (ps k).snd] 98)).cell? ⟨wr.heap.size + 1, 1, none⟩ = some (.int .i64 (ps k).snd) := by simp [go_sem]
          clear HR k0 k1 k2 k3 k4
          generalize ((wr.alloc (.cells #[.int .i64 l, .int .i64 (ps k).fst, .int .i64 (ps k).snd, .int .i64 t, .nilIface] 53)).alloc (.cells #[.int .i64 (ps k).fst, .int .i64 (ps k).snd] 98)) = w1 at R1 d5 y0 y1 ⊢
          have HR1 := hide R1
          have hl : ∀ j, (xs j).length ≤ 1024 := fun j => Nat.le_trans ((unhide HS).len j) (by omega)
          obtain ⟨i0, hi, hz0, hz1, hz2⟩ := info_parts info3
          clear R1
          obtain ⟨j, w2, hj, hw2, hent⟩ : ∃ (j : Nat) (w2 : World), Hid (j = (ins (ps k) (keysTo ps k)).idxOf (ps k)) ∧ Hid (w2 = setBlock (w1.alloc (.cells #[.int .i64 k] 3)).drew L (.map (ents (ins (ps k) (keysTo ps k)) val) (ins (ps k) (keysTo ps k)).length)) ∧
              (Instr.mapEntry 69 (.map (some L)) (.agg #[.int .i64 (ps k).fst, .int .i64 (ps k).snd])).run Yba.prog (w1.alloc (.cells #[.int .i64 k] 3)).drew = .ok (.tuple #[val j, .int .i64 j]) w2 :=
            ⟨_, _, rfl, rfl, entry98 (((unhide HR1).kept (World.grownBy_alloc _ _ none)).kept (grown_drew _)).hm ((unhide HR1).nil _ (Nat.le_refl _)) (ps k)⟩
          have R2 := hide (Gr.ins (((unhide HR1).kept (World.grownBy_alloc _ _ none)).kept (grown_drew _)) (ps k) (unhide hw2))
          have y0' := kc (o := .cells #[.int .i64 k] 3) y0
          have y1' := kc (o := .cells #[.int .i64 k] 3) y1
          have d5' := kc (o := .cells #[.int .i64 k] 3) d5
          have qn := entry_cell (unhide HR1) (unhide hw2)
          clear hw2
          go_region_law
            ((refine step_append_app (by rfl) _ _ _ (by rfl) wc.heap.size 3 i0 (.int .i64 0) 8 Yba.underlying27 hi hz0 hz1 hz2 rfl (val j) ((xs j).map (Value.int .i64)) (val j).ownBlock (by rfl) ((unhide R2).app j) ⟨w1.heap.size, 0, none⟩ (.int .i64 k) (by rfl) qn rfl (by have := hl j; simp only [maxLen, List.length_map]; omega) (by have := hl j; simp only [List.length_map]; omega) (unhide R2).g.size ?_; intro g cap w3 ho hg hb; obtain ⟨R3, R4⟩ := (unhide R2).put (x := (k : Int)) (by rw [unhide hj]; exact idx_ins_lt _ _) ho hg hb; obtain ⟨w4, hw4, hst⟩ : ∃ w4 : World, Hid (w4 = setBlock w3 L (.map (ents (ins (ps k) (keysTo ps k)) (put1 val j (.slice (some ⟨g, 0, none⟩) (((xs j).map (Value.int .i64)).length + 1) cap))) (ins (ps k) (keysTo ps k)).length)) ∧ (Instr.entryStore 69 (.map (some L)) (.int .i64 j) (.slice (some ⟨g, 0, none⟩) (((xs j).map (Value.int .i64)).length + 1) cap)).run Yba.prog w3 = .ok () w4 := ⟨_, rfl, store98 R3 (by rw [unhide hj]; exact idx_ins_lt _ _) _⟩; have R5 := hide (R4 w4 (unhide hw4)); clear hw4 R3 R4 ho hg hb; simp only [List.length_map] at hst))
          all_goals
            clear y0 y0' y1 y1' d5 d5' hent hst qn R2
            go_wp2_with fail
            go_roundg (m - (k + 1))
            case measure => omega
            case rel => exact ⟨k + 1, _, _, rfl, by omega, by go_num, unhide R5, (unhide HS).next (unhide hj)⟩
        · obtain rfl : k = m := by omega
          have HX := hide (built_of (unhide HB2) (unhide HG) R S)
          have HY := hide (grown_above (unhide HB2).g R.g (unhide HB2).ge.1)
          clear R S
          go_wp2_with fail
          go_ret
          exact ⟨D, L, M, C, G, _, val, xs, rfl, unhide HX, unhide HY⟩
end Go.Proofs.Ybulkacq
