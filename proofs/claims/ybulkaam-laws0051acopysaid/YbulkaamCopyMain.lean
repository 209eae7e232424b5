import Derived.Test.YbulkaamReg
import Derived.LaidEql
namespace Go.Proofs.Ybulkaam
open Go.RowKit

/-- a slice of uint16s -/
def U16s (w : World) (a : Option Addr) (P : List Int) : Prop := ∀ k, k < P.length → (∃ b off, a = some ⟨b, off, none⟩ ∧ w.cell? ⟨b, off + k, none⟩ = some (.int .u16 (P.getD k 0))) ∧ 0 ≤ P.getD k 0 ∧ P.getD k 0 ≤ 65535

theorem and255 (p : Int) (h0 : 0 ≤ p) (h1 : p ≤ 65535) : bits .and .u16 p 255 = p % 256 := by
  rw [u16_and p 255 h0 (by omega) (by omega) (by omega)]
  have : p.toNat &&& (255 : Int).toNat = p.toNat % 256 := Nat.and_two_pow_sub_one_eq_mod p.toNat 8
  rw [this]
  omega

theorem View.at {w : World} {a : Option Addr} {n c : Nat} {ys : List Value} (h : View w (.slice a n c) ys) : ∀ k u, ys[k]? = some u → ∃ b off, a = some ⟨b, off, none⟩ ∧ w.cell? ⟨b, off + k, none⟩ = some u := by
  obtain ⟨a', c', e, h2⟩ := h.get
  simp only [Value.slice.injEq] at e
  intro k u hu
  rw [e.1]
  exact h2 k u hu

theorem s1_ne (p n : Nat) (h : 3 ≤ n) (hp : p < n) : p ≠ s1 n p := by
  unfold s1
  by_cases e : p + 1 < n
  · rw [Nat.mod_eq_of_lt e]; omega
  · rw [show p + 1 = n by omega, Nat.mod_self]; omega
theorem s2_ne (p n : Nat) (h : 3 ≤ n) (hp : p < n) : p ≠ s2 n p := by
  unfold s2
  by_cases e : p + 2 < n
  · rw [Nat.mod_eq_of_lt e]; omega
  · by_cases e2 : p + 2 = n
    · rw [e2, Nat.mod_self]; omega
    · rw [show p + 2 = n + 1 by omega, Nat.add_mod_left, Nat.mod_eq_of_lt (by omega)]; omega

theorem last_row {w0 w : World} {val : Nat → Nat → Value} {xs : Nat → Nat → List Value} (S : St w0 w val tyf xs) (k n : Nat) (N : List ByteArray) (s : ByteArray) (hn : N.length = n) (hx : xs k 0 = strs (N ++ [s])) :
    ∃ g c, val k 0 = .slice (some ⟨g, 0, none⟩) (n + 1) c ∧ n + 1 ≤ c := by
  have hl : (xs k 0).length = n + 1 := by rw [hx, len_strs]; simp [hn]
  obtain ⟨g, c, hv⟩ := S.form (k := k) (y := 0) (by omega)
  obtain ⟨a, c', hv', hc, _⟩ := S.full k 0
  rw [hv] at hv'
  simp only [Value.slice.injEq] at hv'
  obtain ⟨_, _, rfl⟩ := hv'
  rw [hl] at hv hc
  exact ⟨g, c, hv, hc⟩
theorem view_init {w0 w : World} {val : Nat → Nat → Value} {xs : Nat → Nat → List Value} (S : St w0 w val tyf xs) (k n : Nat) (N : List ByteArray) (s : ByteArray) (hn : N.length = n) (hx : xs k 0 = strs (N ++ [s])) {g c : Nat} (hv : val k 0 = .slice (some ⟨g, 0, none⟩) (n + 1) c) :
    View w (.slice (some ⟨g, 0, none⟩) n c) (strs N) := by
  refine ⟨_, c, by rw [len_strs, hn], (fun h => by cases h), fun b hb j u hu => ?_⟩
  obtain rfl := Option.some.inj hb
  rw [add_zero_addr]
  have hj : j < N.length := by have := (List.getElem?_eq_some_iff.1 hu).1; rwa [len_strs] at this
  refine S.cell hv ?_
  rw [hx, ← strs_snoc, List.getElem?_append_left (by rw [len_strs]; exact hj)]
  exact hu

theorem neq24 (a : Addr) (w : World) : (binOp .neq 24 (.pointer (some a)) (.pointer (some a))).run Yba.prog w = .ok (.bool false) w := by
  have h38 : (Yba.prog.info? 38).isSome = true := by kernel_rfl
  obtain ⟨j, hj⟩ := Option.isSome_iff_exists.1 h38
  have h : ∀ d : Nat, (Op.equalIn (d + 1) 24 (.pointer (some a)) (.pointer (some a))).run Yba.prog w = .ok true w := fun d => by
    simp [Op.equalIn, run_underlying Yba.underlying24, sizeOf, typeInfo, hj, run_sameAddr_same]
  simp only [binOp]
  simp [Op.equal, Op.maxDepth, h 9999]

theorem clip_view {w0 w : World} {val : Nat → Nat → Value} {xs : Nat → Nat → List Value} (S : St w0 w val tyf xs) (k y : Nat) : View w (clip (val k y)) (xs k y) := by
  rcases clip_app S k y with ⟨_, h⟩ | ⟨ao, h1, h2, h3, _⟩
  · obtain ⟨a, cap, hv, _, _⟩ := S.full k y
    obtain ⟨a', cap', hv', h0, hc⟩ := view_own (S.owns k y)
    refine ⟨a', (xs k y).length, by rw [hv']; rfl, h0, hc⟩
  · exact ⟨ao, _, h1, h2, h3⟩

set_option maxRecDepth 100000 in
set_option maxHeartbeats 6400000 in
theorem acopy_main (w : World) (n : Nat) (N : List ByteArray) (hNn : N.length = n) (a0 : Option Addr) (c0 : Nat) (hV : View w (.slice a0 n c0) (strs N)) (m : Nat) (Pl : List Int) (hPm : Pl.length = m) (a1 : Option Addr) (c1 : Nat) (hP : U16s w a1 Pl) (l0 : n ≤ 256) (l1 : m ≤ 1024) :
    Calls Yba.prog 3 #[.slice a0 n c0, .slice a1 m c1] w fun e w' => e = .returned (.bool true) ∧ Below w.heap.size w w' := by
  have t1 : ¬ ((256 : Int) < (n : Int)) := by omega
  have t2 : ¬ ((1024 : Int) < (m : Int)) := by omega
  have HV := hide hV.at
  have HP := hide hP
  have HNn := hide hNn
  have HPm := hide hPm
  clear hV hP hNn hPm
  go_enter Yba.func3, Yba.ntmps3
  go_wp2_with (go_at_call 7; refine (newGraph_any _ _).mono ?_; rintro e w' ⟨rfl, rfl⟩)
  go_loopg [35] n (fun g i wr => ∃ k : Nat, g = n - k ∧ k ≤ n ∧ i = .int .i64 k ∧ ∃ val xs, G w wr val xs (w.heap.size + 1 + 1 + 1) (w.heap.size + 1 + 1) ⟨w.heap.size, 0, none⟩ k (N.take k) (fun _ => []))
  case atStart => exact ⟨0, by omega, by omega, rfl, G.born w _ _ _⟩
  case round =>
    obtain ⟨k, hgk, hk, rfl, val, xs, g⟩ := hrel
    by_cases hlt : k < n
    · -- [[
      have hkN : k < N.length := by rw [unhide HNn]; exact hlt
      obtain ⟨b, off, rfl, hc0⟩ := unhide HV k _ (get_strs N k hkN)
      have hc := (g.st.bel.cell (World.block_lt_of_cell? w _ hc0)).trans hc0
      have i1 : (0 : Int) ≤ (k : Int) := by omega
      have i2 : (k : Int) < (n : Int) := by omega
      have Hg := hide g
      have ht : N.take (k + 1) = N.take k ++ [N[k]] := by rw [List.take_succ_eq_append_getElem hkN]
      have Ht := hide ht
      generalize N[k] = nm at *
      clear hc0 g ht hkN
      go_wp2_with (go_at_call 8; refine ((unhide Hg).node (by omega) nm).mono ?_; rintro e w' ⟨rfl, val', xs', g'⟩)
      go_roundg (n - (k + 1))
      case measure => omega
      case rel => exact ⟨k + 1, rfl, by omega, by go_num, val', xs', by rw [unhide Ht]; exact g'⟩
      -- ]]
    · obtain rfl : k = n := by omega
      rw [List.take_of_length_le (by rw [unhide HNn]; exact Nat.le_refl _)] at g
      have Hg := hide g
      clear g
      go_upto_if 45 with fail
      go_cut [] (fun wc => ∃ val xs Z, G w wc val xs (w.heap.size + 1 + 1 + 1) (w.heap.size + 1 + 1) ⟨w.heap.size, 0, none⟩ k N Z ∧ ∀ y, (Z y).length ≤ 1024)
      case first =>
        -- [[
        by_cases hpos : (0 : Int) < (k : Int)
        · have hd : decide (0 < k) = true := by simp; omega
          rw [hd]
          clear hd
          go_wp2_with fail
          go_loopg [48] m (fun g i wr => ∃ j : Nat, g = m - j ∧ j ≤ m ∧ i = .int .i64 j ∧ ∃ val xs Z, G w wr val xs (w.heap.size + 1 + 1 + 1) (w.heap.size + 1 + 1) ⟨w.heap.size, 0, none⟩ k N Z ∧ ∀ y, (Z y).length ≤ j)
          case atStart => exact ⟨0, by omega, by omega, rfl, val, xs, _, unhide Hg, fun y => by simp⟩
          case round =>
            clear Hg
            obtain ⟨j, hgj, hj, rfl, val, xs, Z, g, hZ⟩ := hrel
            by_cases hlt2 : j < m
            · obtain ⟨⟨b, off, rfl, hc0⟩, hp0, hp1⟩ := unhide HP j (by rw [unhide HPm]; exact hlt2)
              have hc := (g.st.bel.cell (World.block_lt_of_cell? w _ hc0)).trans hc0
              generalize Pl.getD j 0 = p at *
              have i1 : (0 : Int) ≤ (j : Int) := by omega
              have i2 : (j : Int) < (m : Int) := by omega
              have Hg := hide g
              have HZ := hide hZ
              clear g hZ hc0
              have hand := and255 p hp0 hp1
              obtain ⟨A, eA⟩ := Int.eq_ofNat_of_zero_le (Int.emod_nonneg (p / 256) (show (k : Int) ≠ 0 by omega))
              obtain ⟨B, eB⟩ := Int.eq_ofNat_of_zero_le (Int.emod_nonneg (p % 256) (show (k : Int) ≠ 0 by omega))
              have lA : A < k := by have := Int.emod_lt_of_pos (p / 256) hpos; omega
              have EA := hide eA
              have EB := hide eB
              have EA2 := hide ((Int.tmod_eq_emod_of_nonneg (show 0 ≤ p / 256 by omega)).trans eA)
              have EB2 := hide ((Int.tmod_eq_emod_of_nonneg (show 0 ≤ p % 256 by omega)).trans eB)
              clear eA eB
              go_wp2_with fail
              go_region_with (go_at_call 9; (first | rw [unhide EA] | rw [unhide EA2]); (first | rw [unhide EB] | rw [unhide EB2]); refine (((unhide Hg).kept (grown_drew _)).arrow (by omega) A B lA (by have := unhide HZ A; omega)).mono ?_; rintro e w' ⟨rfl, val', xs', g'⟩)
              all_goals
                have HE2 : Hid (∀ y, (if y = A ∧ A ≠ B then Z A ++ [(B : Int)] else Z y).length ≤ j + 1) := hide (fun y => by split; (have := unhide HZ A; simp; omega); (have := unhide HZ y; omega))
                have Hg2 := hide g'
                clear g'
                go_wp2
                go_roundg (m - (j + 1))
                case measure => omega
                case rel => exact ⟨j + 1, rfl, by omega, by go_num, val', xs', _, unhide Hg2, unhide HE2⟩
            · have HE : Hid (∃ val xs Z, G w wr val xs (w.heap.size + 1 + 1 + 1) (w.heap.size + 1 + 1) ⟨w.heap.size, 0, none⟩ k N Z ∧ ∀ y, (Z y).length ≤ 1024) := hide ⟨val, xs, Z, g, fun y => by have := hZ y; omega⟩
              clear g hZ
              go_wp2_with fail
              go_meet
              case rel => exact unhide HE
        · go_wp2_with fail
          go_meet
          case rel => exact ⟨val, xs, _, unhide Hg, fun y => by simp⟩
        -- ]]
      case rest =>
        obtain ⟨val, xs, Z, g, hZ⟩ := hcut
        clear Hg
        have c1 : wc.cell? ⟨w.heap.size + 1 + 1 + 1, 1, none⟩ = some (val 1 0) := g.st.cell g.hS (by rw [g.hx]; rfl)
        have Hg := hide g
        have HZ := hide hZ
        have hvw := hide (show View wc (val 1 0) (strs N) by rw [← g.hN]; exact view_own (g.st.owns 1 0))
        generalize val 1 0 = v1 at c1 hvw
        have hmk := mk25 k (by omega)
        clear g hZ
        go_wp2_with (go_at_call 10; refine (clone_strs (unhide hvw) (one_strs N) (by rw [len_strs, unhide HNn]; omega)).mono ?_; rintro e w8 ⟨v8, rfl, hcl⟩; have Hcl := hide hcl; clear hcl)
        have hs8 : ∃ val' xs', val' 8 0 = v8 ∧ Sn w (w8.alloc (.cells (reps k (.slice none 0 0)) 44)) val' xs' (w.heap.size + 1 + 1 + 1) (w.heap.size + 1 + 1) ⟨w.heap.size, 0, none⟩ k N Z w8.heap.size 0 := by
          have S8 := (unhide Hg).st.cloned (k := 8) (y := 0) rfl (unhide Hcl)
          have g8 := (unhide Hg).upd (by omega) S8 (grown_map (unhide Hcl).1 (unhide Hg).hm)
          obtain ⟨val', xs', e8, s⟩ := Sn.born g8 (by rw [upd_same]) (by omega)
          exact ⟨val', xs', by rw [e8, upd_same], s⟩
        have Hs8 := hide hs8
        clear hs8 hmk c1 hvw Hcl Hg
        go_wp2_with fail
        go_loopg [13] k (fun g i wr => ∃ j : Nat, g = k - j ∧ j ≤ k ∧ i = .int .i64 j ∧ ∃ val xs, val 8 0 = v8 ∧ Sn w wr val xs (w.heap.size + 1 + 1 + 1) (w.heap.size + 1 + 1) ⟨w.heap.size, 0, none⟩ k N Z w8.heap.size j)
        case atStart => exact ⟨0, by omega, by omega, rfl, unhide Hs8⟩
        case round =>
          clear Hs8
          obtain ⟨j, hgj, hj, rfl, val, xs, e8, s⟩ := hrel
          by_cases hlt3 : j < k
          · -- [[
            obtain ⟨ga, cA, hvA⟩ := s.g.st.form (k := 2) (y := 0) (by rw [s.g.hA]; simp; omega)
            have hlA : (xs 2 0).length = k := by rw [s.g.hA]; simp
            rw [hlA] at hvA
            have c2 : wr.cell? ⟨w.heap.size + 1 + 1 + 1, 2, none⟩ = some (.slice (some ⟨ga, 0, none⟩) k cA) := s.g.st.cell s.g.hS (by rw [s.g.hx, ← hvA]; rfl)
            have c3 : wr.cell? ⟨ga, j, none⟩ = some (val 3 j) := s.g.st.cell hvA (by rw [s.g.hA]; simp [hlt3])
            have hvw := hide (show View wr (val 3 j) (ints (Z j)) by rw [← s.g.hR]; exact view_own (s.g.st.owns 3 j))
            have c9 : ∃ v, wr.cell? ⟨w8.heap.size, j, none⟩ = some v := ⟨_, s.g.st.cell (i := j) (k := 9) (y := 0) s.v9 (by rw [s.s9]; simp [hlt3]; rfl)⟩
            obtain ⟨v9, c9⟩ := c9
            have f9 := s.g.st.frozen (k := 9) (y := 0) j s.v9
            have l9 := (s.g.st.len s.v9).2.1
            generalize val 3 j = v3 at c3 hvw
            have Hs := hide s
            have E8 := hide e8
            have lZ := unhide HZ j
            have i1 : (0 : Int) ≤ (j : Int) := by omega
            have i2 : (j : Int) < (k : Int) := by omega
            clear s e8 hvA
            go_wp2_with (go_at_call 11; refine (clone_ints (unhide hvw) (one_ints _) (by rw [len_ints]; omega)).mono ?_; rintro e w1 ⟨v', rfl, hcl⟩; have q1 := hcl.1.cell c9 (by simp); have q2 := (World.frozen?_of_block (hcl.1.block w8.heap.size l9 (by simp))).trans f9; have hsh := (view_own hcl.2).get; obtain ⟨a', c', hv', _⟩ := hsh; have Hst := hide ((unhide Hs).step hlt3 hcl); rw [hv'] at Hst; rw [hv']; clear hcl hv')
            go_roundg (k - (j + 1))
            case measure => omega
            case rel =>
              obtain ⟨val', xs', e9, s'⟩ := unhide Hst
              exact ⟨j + 1, rfl, by omega, by go_num, val', xs', e9.trans (unhide E8), s'⟩
            -- ]]
          · obtain rfl : j = k := by omega
            have Hs := hide s
            have E8 := hide e8
            have HR2 := hide (fun y => show (xs 3 y).length ≤ 4096 by rw [s.g.hR, len_ints]; have := unhide HZ y; omega)
            clear s e8
            go_wp2_with (go_at_call 12; refine (clone_st (unhide Hs).g.st (w.heap.size + 1 + 1 + 1) (w.heap.size + 1 + 1) j ⟨w.heap.size, 0, none⟩ (unhide Hs).g.hS (unhide Hs).g.hx (unhide Hs).g.hm (unhide Hs).g.hA l0 (by rw [(unhide Hs).g.hN, len_strs, unhide HNn]; omega) (unhide HR2)).mono ?_; rintro e wf ⟨bc, ca, mc, rfl, hcl⟩; have HF := hide (F.born (unhide Hs) hcl); clear hcl)
            obtain ⟨valF, xsF, eF, f⟩ := unhide HF
            have E8F := hide (eF.trans (unhide E8))
            clear HF Hs E8 HR2 eF
            obtain ⟨ca, hv6⟩ := f.v6
            have d0 : wf.cell? ⟨bc, 0, none⟩ = some (.pointer (some ⟨w.heap.size, 0, none⟩)) := f.st.cell f.hC (by rw [f.hxC]; rfl)
            have d1 : wf.cell? ⟨bc, 1, none⟩ = some (clip (valF 1 0)) := f.st.cell f.hC (by rw [f.hxC]; rfl)
            have d2 : wf.cell? ⟨bc, 2, none⟩ = some (.slice (some ⟨ca, 0, none⟩) j j) := f.st.cell f.hC (by rw [f.hxC, ← hv6]; rfl)
            have d3 : wf.cell? ⟨w.heap.size + 1 + 1 + 1, 0, none⟩ = some (.pointer (some ⟨w.heap.size, 0, none⟩)) := f.st.cell f.hS (by rw [f.hx]; rfl)
            have V1 := hide (show View wf (clip (valF 1 0)) (strs N) by rw [← f.hN]; exact clip_view f.st 1 0)
            have V8 := hide (show View wf v8 (strs N) by rw [← f.s8, ← unhide E8F]; exact view_own (f.st.owns 8 0))
            have lNN : N.length ≤ 4096 := by rw [unhide HNn]; omega
            have Hf := hide f
            have Hv6 := hide hv6
            generalize clip (valF 1 0) = vcn at d1 V1
            clear f hv6
            have hneq := neq24
            go_wp2_with fail
            go_quiet ((go_at_call 13; exact Calls.quiet_of (equal_strs (N := N) (by exact (unhide V1)) (by exact (unhide V8)) lNN)))
            go_wp2_with fail
            have Hf1 := hide ((unhide Hf).kept (grown_drewN wf nq))
            clear Hf d0 d1 d2 d3 V1 V8 hneq
            go_loopg [15] j (fun g i wr => ∃ p : Nat, g = j - p ∧ p ≤ j ∧ i = .int .i64 p ∧ F w wr valF xsF (w.heap.size + 1 + 1 + 1) (w.heap.size + 1 + 1) ⟨w.heap.size, 0, none⟩ j N Z w8.heap.size bc mc 0 0)
            case atStart => exact ⟨0, by omega, by omega, rfl, unhide Hf1⟩
            case round =>
              clear Hf1
              obtain ⟨p, hgp, hp, rfl, f⟩ := hrel
              by_cases hlt4 : p < j
              · -- [[
                have d2 : wr.cell? ⟨bc, 2, none⟩ = some (.slice (some ⟨ca, 0, none⟩) j j) := f.st.cell f.hC (by rw [f.hxC, ← unhide Hv6]; rfl)
                have d4 : wr.cell? ⟨ca, p, none⟩ = some (clip (valF 3 p)) := f.st.cell (unhide Hv6) (by rw [f.h6]; simp [hlt4])
                have d5 : wr.cell? ⟨w8.heap.size, p, none⟩ = some (valF 10 p) := f.st.cell f.v9 (by rw [f.s9]; simp [hlt4])
                have V3 := hide (show View wr (clip (valF 3 p)) (ints (Z p)) by have := clip_view f.st 3 p; rw [f.hR, if_neg (by omega)] at this; exact this)
                have V10 := hide (show View wr (valF 10 p) (ints (Z p)) by rw [← f.s10 p hlt4]; exact view_own (f.st.owns 10 p))
                have lZ : (Z p).length ≤ 4096 := by have := unhide HZ p; omega
                generalize clip (valF 3 p) = v3 at d4 V3
                generalize valF 10 p = v10 at d5 V10
                have Hf := hide f
                have i1 : (0 : Int) ≤ (p : Int) := by omega
                have i2 : (p : Int) < (j : Int) := by omega
                clear f
                go_wp2_with fail
                go_quiet ((go_at_call 14; exact Calls.quiet_of (equal_ints (N := Z p) (by exact (unhide V3)) (by exact (unhide V10)) lZ)))
                go_wp2
                go_roundg (j - (p + 1))
                case measure => omega
                case rel => exact ⟨p + 1, rfl, by omega, by go_num, (unhide Hf).kept (grown_drewN wr _)⟩
                -- ]]
              · have d3 : wr.cell? ⟨bc, 3, none⟩ = some (.map (some mc)) := f.st.cell f.hC (by rw [f.hxC]; rfl)
                have hln := fun ty => len26 wr mc ty f.hmc
                have hnm := fun w r => run_eql_map_nil (P := Yba.prog) w 26 _ _ r Yba.underlying26
                have Hf := hide f
                clear f
                go_upto_if 141 with fail
                go_cut [] (fun wc => ∃ val xs kc kg, val 8 0 = v8 ∧ F w wc val xs (w.heap.size + 1 + 1 + 1) (w.heap.size + 1 + 1) ⟨w.heap.size, 0, none⟩ j N Z w8.heap.size bc mc kc kg)
                case first =>
                  -- {{
                  clear d3 hln hnm
                  by_cases h3 : 3 ≤ j
                  · have hd : decide ((3 : Int) ≤ (j : Int)) = true := by simp; omega
                    have hd2 : decide ((j : Int) < 3) = false := by simp; omega
                    have hd3 : decide (j < 3) = false := by simp; omega
                    first | rw [hd] | rw [hd2] | rw [hd3]
                    clear hd hd2 hd3
                    go_wp2_with fail
                    go_loopg [16] j (fun g i wr => ∃ p : Nat, g = j - p ∧ p ≤ j ∧ i = .int .i64 p ∧ ∃ val xs, val 8 0 = v8 ∧ F w wr val xs (w.heap.size + 1 + 1 + 1) (w.heap.size + 1 + 1) ⟨w.heap.size, 0, none⟩ j N Z w8.heap.size bc mc p p)
                    case atStart => exact ⟨0, by omega, by omega, rfl, valF, xsF, unhide E8F, unhide Hf⟩
                    case round =>
                      clear Hf
                      obtain ⟨p, hgp, hp, rfl, valL, xsL, e8, f⟩ := hrel
                      by_cases hlt5 : p < j
                      · -- [[
                        have Hf := hide f
                        have E8L := hide e8
                        have i1 : (0 : Int) ≤ (p : Int) := by omega
                        have i2 : (p : Int) < (j : Int) := by omega
                        have lZ : (Z p).length ≤ 4000 := by have := unhide HZ p; omega
                        have ES1 := hide (s1_int p j)
                        have ES2 := hide (s2_int p j)
                        have N1 := hide (s1_ne p j h3 hlt5)
                        have N2 := hide (s2_ne p j h3 hlt5)
                        clear f e8
                        go_wp2_with fail
                        rw [unhide ES1]
                        refine ((unhide Hf).carrow (by omega) rfl hlt5 (unhide N1) lZ).mono ?_
                        rintro e w1 ⟨rfl, val1, xs1, e81, f1⟩
                        have Hf1 := hide f1
                        have E81 := hide (e81.trans (unhide E8L))
                        clear f1 e81 Hf E8L
                        go_wp2_with fail
                        rw [unhide ES2]
                        refine ((unhide Hf1).garrow (by omega) rfl hlt5 (unhide N2) lZ).mono ?_
                        rintro e w2 ⟨rfl, val2, xs2, e82, f2⟩
                        have Hf2 := hide f2
                        have E82 := hide (e82.trans (unhide E81))
                        clear f2 e82 Hf1 E81
                        go_wp2
                        go_roundg (j - (p + 1))
                        case measure => omega
                        case rel => exact ⟨p + 1, rfl, by omega, by go_num, val2, xs2, unhide E82, unhide Hf2⟩
                        -- ]]
                      · obtain rfl : p = j := by omega
                        have Hf := hide f
                        have E8L := hide e8
                        clear f e8
                        go_wp2_with fail
                        go_loopg [17] p (fun g i wr => ∃ q : Nat, g = p - q ∧ q ≤ p ∧ i = .int .i64 q ∧ F w wr valL xsL (w.heap.size + 1 + 1 + 1) (w.heap.size + 1 + 1) ⟨w.heap.size, 0, none⟩ p N Z w8.heap.size bc mc p p)
                        case atStart => exact ⟨0, by omega, by omega, rfl, unhide Hf⟩
                        case round =>
                          clear Hf
                          obtain ⟨q, hgq, hq, rfl, f⟩ := hrel
                          by_cases hlt6 : q < p
                          · -- [[
                            have d5 : wr.cell? ⟨w8.heap.size, q, none⟩ = some (valL 10 q) := f.st.cell f.v9 (by rw [f.s9]; simp [hlt6])
                            have V10 := hide (show View wr (valL 10 q) (ints (Z q)) by rw [← f.s10 q hlt6]; exact view_own (f.st.owns 10 q))
                            have lZ : (Z q).length ≤ 4000 := by have := unhide HZ q; omega
                            generalize valL 10 q = v10 at d5 V10
                            have Hf := hide f
                            have i1 : (0 : Int) ≤ (q : Int) := by omega
                            have i2 : (q : Int) < (p : Int) := by omega
                            clear f
                            go_upto_region 41 with fail
                            refine reg41 (Zq := Z q) d5 V10 lZ i1 i2 (by omega) (hide ?_)
                            intro z165 z166 z167 z168 z169 z170 z171 z172 z173 z174 z175 t18 w41 hV41 hg41
                            have d5' := hg41.cell d5 (by simp)
                            have V10' := hide ((unhide V10).kept hg41)
                            have Hf41 := hide ((unhide Hf).kept hg41)
                            have HV41 := hide hV41
                            clear V10 d5 Hf hV41 hg41
                            go_upto_region 42 with fail
                            refine reg42 (Zq := Z q) d5' V10' lZ i1 i2 (by omega) (hide ?_)
                            intro z176 z177 z178 z179 z180 z181 z182 z183 z184 z185 z186 t19 w42 hV42 hg42
                            have f := (unhide Hf41).kept hg42
                            have W18 := hide ((unhide HV41).kept hg42)
                            have W19 := hide hV42
                            obtain ⟨ca, hv6⟩ := f.v6
                            obtain ⟨ga, cA, hvA⟩ := f.st.form (k := 2) (y := 0) (by rw [f.hA]; simp; omega)
                            have hlA : (xsL 2 0).length = p := by rw [f.hA]; simp
                            rw [hlA] at hvA
                            have d2 : w42.cell? ⟨bc, 2, none⟩ = some (.slice (some ⟨ca, 0, none⟩) p p) := f.st.cell f.hC (by rw [f.hxC, ← hv6]; rfl)
                            have d4 : w42.cell? ⟨ca, q, none⟩ = some (valL 7 q) := f.st.cell hv6 (by rw [f.h6]; simp [hlt6])
                            have d6 : w42.cell? ⟨w.heap.size + 1 + 1 + 1, 2, none⟩ = some (.slice (some ⟨ga, 0, none⟩) p cA) := f.st.cell f.hS (by rw [f.hx, ← hvA]; rfl)
                            have d7 : w42.cell? ⟨ga, q, none⟩ = some (valL 3 q) := f.st.cell hvA (by rw [f.hA]; simp [hlt6])
                            have V7 := hide (show View w42 (valL 7 q) (ints (Z q ++ [(s1 p q : Int)])) by rw [← f.h7 q hlt6]; exact view_own (f.st.owns 7 q))
                            have V3 := hide (show View w42 (valL 3 q) (ints (Z q ++ [(s2 p q : Int)])) by have := view_own (f.st.owns 3 q); rw [f.hR, if_pos hlt6] at this; exact this)
                            generalize valL 7 q = v7 at d4 V7
                            generalize valL 3 q = v3 at d7 V3
                            have Hf42 := hide f
                            have lE1 : (Z q ++ [(s1 p q : Int)]).length ≤ 4096 := by simp; omega
                            have lE2 : (Z q ++ [(s2 p q : Int)]).length ≤ 4096 := by simp; omega
                            clear f hvA hv6 V10' d5' Hf41 HV41 hV42 hg42
                            go_wp2_with fail
                            refine (equal_ints (N := Z q ++ [(s1 p q : Int)]) (unhide V7) (unhide W18) lE1).mono ?_
                            rintro e w43 ⟨rfl, nq1, rfl⟩
                            go_wp2_with fail
                            refine (equal_ints (N := Z q ++ [(s2 p q : Int)]) ((unhide V3).kept (grown_drewN _ _)) ((unhide W19).kept (grown_drewN _ _)) lE2).mono ?_
                            rintro e w44 ⟨rfl, nq2, rfl⟩
                            clear d2 d4 d6 d7 V7 V3 W18 W19
                            go_wp2
                            go_roundg (p - (q + 1))
                            case measure => omega
                            case rel => exact ⟨q + 1, rfl, by omega, by go_num, (unhide Hf42).kept (grown_drewN _ _)⟩
                            -- ]]
                          · have HE : Hid (∃ val xs kc kg, val 8 0 = v8 ∧ F w wr val xs (w.heap.size + 1 + 1 + 1) (w.heap.size + 1 + 1) ⟨w.heap.size, 0, none⟩ p N Z w8.heap.size bc mc kc kg) := hide ⟨valL, xsL, p, p, unhide E8L, f⟩
                            clear f
                            go_wp2_with fail
                            go_meet
                            case rel => exact unhide HE
                  · have hd : decide ((3 : Int) ≤ (j : Int)) = false := by simp; omega
                    have hd2 : decide ((j : Int) < 3) = true := by simp; omega
                    have hd3 : decide (j < 3) = true := by simp; omega
                    first | rw [hd] | rw [hd2] | rw [hd3]
                    clear hd hd2 hd3
                    go_wp2_with fail
                    go_meet
                    case rel => exact ⟨valF, xsF, 0, 0, unhide E8F, unhide Hf⟩
                  -- }}
                case rest =>
                  clear d3 hln hnm Hf E8F
                  obtain ⟨valR, xsR, kc, kg, e8, f⟩ := hcut
                  have Hf := hide f
                  have E8 := hide e8
                  clear f e8
                  go_wp2_with fail
                  refine ((unhide Hf).cnode (by omega) ⟨#[99]⟩).mono ?_
                  rintro e w1 ⟨rfl, val1, xs1, e81, S1, a1, a2, a3, a4, a5, a6, a7, a8⟩
                  have H1 := hide (And.intro e81 (And.intro S1 (And.intro a1 (And.intro a2 (And.intro a3 (And.intro a4 (And.intro a5 (And.intro a6 (And.intro a7 a8)))))))))
                  have HnN := hide (unhide Hf).hn
                  clear e81 S1 a1 a2 a3 a4 a5 a6 a7 a8 Hf
                  go_wp2_with fail
                  refine (gnode_last (unhide H1).2.1 (by omega) ⟨#[103]⟩ (N ++ [⟨#[99]⟩]) (unhide H1).2.2.1 (unhide H1).2.2.2.1 (unhide H1).2.2.2.2.1 (unhide HnN) (unhide H1).2.2.2.2.2.1 (unhide H1).2.2.2.2.2.2.1 (unhide H1).2.2.2.2.2.2.2.1 (unhide H1).2.2.2.2.2.2.2.2.1 (unhide H1).2.2.2.2.2.2.2.2.2).mono ?_
                  rintro e w2 ⟨rfl, val2, xs2, e82, S2, b1, b2, b3, b4, b5, b6, b7⟩
                  obtain ⟨g5, c5, hv5, hl5⟩ := last_row S2 5 j N ⟨#[99]⟩ (unhide HnN) b6
                  obtain ⟨g1, cg1, hv1, hl1⟩ := last_row S2 1 j N ⟨#[103]⟩ (unhide HnN) b3
                  have x1 : w2.cell? ⟨bc, 1, none⟩ = some (.slice (some ⟨g5, 0, none⟩) (j + 1) c5) := S2.cell b4 (by rw [b5, ← hv5]; rfl)
                  have x2 : w2.cell? ⟨w.heap.size + 1 + 1 + 1, 1, none⟩ = some (.slice (some ⟨g1, 0, none⟩) (j + 1) cg1) := S2.cell b1 (by rw [b2, ← hv1]; rfl)
                  have x3 : w2.cell? ⟨g5, j, none⟩ = some (.string ⟨#[99]⟩) := S2.cell hv5 (by rw [b6, get_strs _ j (by simp [unhide HnN])]; simp [← unhide HnN])
                  have x4 : w2.cell? ⟨g1, j, none⟩ = some (.string ⟨#[103]⟩) := S2.cell hv1 (by rw [b3, get_strs _ j (by simp [unhide HnN])]; simp [← unhide HnN])
                  have V5 := hide (view_init S2 5 j N ⟨#[99]⟩ (unhide HnN) b6 hv5)
                  have V1 := hide (view_init S2 1 j N ⟨#[103]⟩ (unhide HnN) b3 hv1)
                  have V8 := hide (show View w2 v8 (strs N) by rw [← b7, ← (unhide E8), ← (unhide H1).1, ← e82]; exact view_own (S2.owns 8 0))
                  have HB := hide S2.bel
                  have lNN : N.length ≤ 4096 := by rw [unhide HnN]; omega
                  have i1 : (0 : Int) ≤ (j : Int) := by omega
                  have i2 : (j : Int) < ((j + 1 : Nat) : Int) := by omega
                  have i3 : (j : Int) ≤ (c5 : Int) := by omega
                  have i4 : (j : Int) ≤ (cg1 : Int) := by omega
                  clear S2 b1 b2 b3 b4 b5 b6 b7 e82 H1 hv5 hv1 E8
                  go_wp2_with fail
                  refine (equal_strs (unhide V5) (unhide V8) lNN).mono ?_
                  rintro e w3 ⟨rfl, n1, rfl⟩
                  go_wp2_with fail
                  refine (equal_strs ((unhide V1).kept (grown_drewN _ _)) ((unhide V8).kept (grown_drewN _ _)) lNN).mono ?_
                  rintro e w4 ⟨rfl, n2, rfl⟩
                  clear V5 V1 V8 x1 x2 x3 x4
                  go_wp2
                  go_ret
                  exact ⟨by simp, below_drewN (unhide HB) _⟩

set_option maxRecDepth 100000 in
theorem acopy_walk (w : World) (n : Nat) (N : List ByteArray) (hNn : N.length = n) (a0 : Option Addr) (c0 : Nat) (hV : View w (.slice a0 n c0) (strs N)) (m : Nat) (Pl : List Int) (hPm : Pl.length = m) (a1 : Option Addr) (c1 : Nat) (hP : U16s w a1 Pl) :
    Calls Yba.prog 3 #[.slice a0 n c0, .slice a1 m c1] w fun e w' => e = .returned (.bool true) ∧ Below w.heap.size w w' := by
  by_cases l0 : (256 : Int) < (n : Int)
  · clear hV hP hNn hPm
    go_enter Yba.func3, Yba.ntmps3
    go_wp2
    go_ret
    exact ⟨by simp, Below.refl _ _⟩
  · by_cases l1 : (1024 : Int) < (m : Int)
    · clear hV hP hNn hPm
      go_enter Yba.func3, Yba.ntmps3
      go_wp2
      go_ret
      exact ⟨by simp, Below.refl _ _⟩
    · exact acopy_main w n N hNn a0 c0 hV m Pl hPm a1 c1 hP (by omega) (by omega)
end Go.Proofs.Ybulkaam
