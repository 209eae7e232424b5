import Derived.Test.YbulkadsMem
import Derived.Test.YbulkadsNear
namespace Go.Proofs.Ybulkads
open Go.RowKit

theorem shd_le (b a c : Nat) (h : 1 ≤ b) : shd b a c ≤ 160 := by
  unfold shd
  split
  · exact Nat.div_le_of_le_mul (by
      have := Nat.mul_le_mul_right 159 h
      omega)
  · refine Nat.le_trans (Nat.div_le_self _ _) (by omega)
theorem dn_bd (b : Nat) (K : Nat → Nat) (f u : Nat → Int) (i : Nat) (h : 1 ≤ b) : ∀ k, -1 ≤ dn b K f u i k ∧ dn b K f u i k ≤ 160
  | 0 => by simp [dn]
  | k + 1 => by
    have := dn_bd b K f u i h k
    have h2 := shd_le b (K i) (K k) h
    rw [dn]; split <;> omega
theorem up_bd (b : Nat) (K : Nat → Nat) (f u : Nat → Int) (i : Nat) (h : 1 ≤ b) : ∀ l k, -1 ≤ up b K f u i l k ∧ up b K f u i l k ≤ 160
  | 0, _ => by simp [up]
  | l + 1, k => by
    have := up_bd b K f u i h l (k + 1)
    have h2 := shd_le b (K i) (K k) h
    rw [up]; split <;> omega
/-- the rows of node i -/
def rv (b : Nat) (K : Nat → Nat) (f u : Nat → Int) (n i : Nat) : Int := max (dn b K f u i i) (up b K f u i (n - (i + 1)) (i + 1)) + 1
theorem rv_bd (b : Nat) (K : Nat → Nat) (f u : Nat → Int) (n i : Nat) (h : 1 ≤ b) : 0 ≤ rv b K f u n i ∧ rv b K f u n i ≤ 161 := by
  have h1 := dn_bd b K f u i h i
  have h2 := up_bd b K f u i h (n - (i + 1)) (i + 1)
  unfold rv
  omega

/-- the tables while they are laid -/
structure Tb (w wr : World) (O bi b n br bs : Nat) (r : Nat → Int) (k : Nat) : Prop where
  ob : ∃ c : Array Value, wr.heap[O]? = some (.cells c 46) ∧ c.size = 18 ∧ c[0]? = some (.int .i64 b) ∧ c[2]? = some (.slice (some ⟨bi, 0, none⟩) n n) ∧ c[13]? = some (.slice (some ⟨br, 0, none⟩) n n) ∧ c[14]? = some (.slice (some ⟨bs, 0, none⟩) n n) ∧ ∃ z : Int, c[15]? = some (.int .i64 z)
  rb : ∃ c : Array Value, wr.heap[br]? = some (.cells c 5) ∧ c.size = n ∧ ∀ i, i < k → c[i]? = some (.int .u8 (r i))
  sb : ∃ c : Array Value, wr.heap[bs]? = some (.cells c 3) ∧ c.size = n
  g : w.grownBy wr (some O)
  ge : w.heap.size ≤ br ∧ w.heap.size ≤ bs ∧ br ≠ bs ∧ O < w.heap.size

section
variable {w wr : World} {O bi b n br bs : Nat} {r : Nat → Int} {k : Nat}
theorem Tb.start {w : World} {O bi b n : Nat} {r : Nat → Int} {cO : Array Value} (hO : w.heap[O]? = some (.cells cO 46)) (sO : cO.size = 18) (k0 : cO[0]? = some (.int .i64 b)) (k2 : cO[2]? = some (.slice (some ⟨bi, 0, none⟩) n n)) :
    Tb w (((((w.setCell ⟨O, 13, none⟩ (.slice (some ⟨w.heap.size, 0, none⟩) n n)).setCell ⟨O, 14, none⟩ (.slice (some ⟨w.heap.size + 1, 0, none⟩) n n)).setCell ⟨O, 15, none⟩ (.int .i64 0)).alloc (.cells (reps n (.int .u8 0)) 5)).alloc (.cells (reps n (.int .i64 0)) 3)) O bi b n w.heap.size (w.heap.size + 1) r 0 := by
  have lO := (Array.getElem?_eq_some_iff.1 hO).1
  refine ⟨⟨_, kh (kh (heap_set (heap_set (heap_set hO)))), by simp [sO], ?_, ?_, ?_, ?_, 0, ?_⟩, ⟨reps n (.int .u8 0), kh ?_, size_reps _ _, fun i hi => by omega⟩, ⟨reps n (.int .i64 0), ?_, size_reps _ _⟩, ?_, by omega, by omega, by omega, lO⟩
  · simpa [Array.getElem?_setIfInBounds] using k0
  · simpa [Array.getElem?_setIfInBounds] using k2
  · simp [sO]
  · simp [sO]
  · simp [sO]
  · have := heap_new (((w.setCell ⟨O, 13, none⟩ (.slice (some ⟨w.heap.size, 0, none⟩) n n)).setCell ⟨O, 14, none⟩ (.slice (some ⟨w.heap.size + 1, 0, none⟩) n n)).setCell ⟨O, 15, none⟩ (.int .i64 0)) (.cells (reps n (.int .u8 0)) 5)
    simpa using this
  · have := heap_new ((((w.setCell ⟨O, 13, none⟩ (.slice (some ⟨w.heap.size, 0, none⟩) n n)).setCell ⟨O, 14, none⟩ (.slice (some ⟨w.heap.size + 1, 0, none⟩) n n)).setCell ⟨O, 15, none⟩ (.int .i64 0)).alloc (.cells (reps n (.int .u8 0)) 5)) (.cells (reps n (.int .i64 0)) 3)
    simpa using this
  · exact ((grown_set (grown_set (grown_set (World.grownBy.refl w _) (.inl rfl)) (.inl rfl)) (.inl rfl)).trans (World.grownBy_alloc _ _ _)).trans (World.grownBy_alloc _ _ _)
theorem Tb.grown (h : Tb w wr O bi b n br bs r k) {w' : World} (g : wr.grownBy w' none) : Tb w w' O bi b n br bs r k := by
  obtain ⟨⟨c, h1, h2⟩, ⟨c', h3, h4⟩, ⟨c'', h5, h6⟩, h7, h8⟩ := h
  exact ⟨⟨c, kb g h1, h2⟩, ⟨c', kb g h3, h4⟩, ⟨c'', kb g h5, h6⟩, h7.trans (g.but _), h8⟩
theorem Tb.ne (h : Tb w wr O bi b n br bs r k) : br ≠ O ∧ bs ≠ O := by have := h.ge; omega
theorem Tb.setR (h : Tb w wr O bi b n br bs r k) (hk : k < n) : Tb w (wr.setCell ⟨br, k, none⟩ (.int .u8 (r k))) O bi b n br bs r (k + 1) := by
  have hne := h.ne
  obtain ⟨⟨c, h1, h2⟩, ⟨c', h3, h4, h4'⟩, ⟨c'', h5, h6⟩, h7, h8⟩ := h
  refine ⟨⟨c, heap_set_other h1 hne.1.symm, h2⟩, ⟨_, heap_set h3, by simpa using h4, fun i hi => ?_⟩, ⟨c'', heap_set_other h5 h8.2.2.1.symm, h6⟩, grown_set h7 (.inr h8.1), h8⟩
  by_cases e : k = i
  · subst e; simp [h4, hk]
  · simp only [Array.getElem?_setIfInBounds, e, if_false]
    exact h4' i (by omega)
theorem Tb.setS (h : Tb w wr O bi b n br bs r k) (i : Nat) (v : Value) : Tb w (wr.setCell ⟨bs, i, none⟩ v) O bi b n br bs r k := by
  have hne := h.ne
  obtain ⟨⟨c, h1, h2⟩, ⟨c', h3, h4⟩, ⟨c'', h5, h6⟩, h7, h8⟩ := h
  exact ⟨⟨c, heap_set_other h1 hne.2.symm, h2⟩, ⟨c', heap_set_other h3 h8.2.2.1, h4⟩, ⟨_, heap_set h5, by simpa using h6⟩, grown_set h7 (.inr h8.2.1), h8⟩
theorem Tb.setE (h : Tb w wr O bi b n br bs r k) (z : Int) : Tb w (wr.setCell ⟨O, 15, none⟩ (.int .i64 z)) O bi b n br bs r k := by
  have hne := h.ne
  obtain ⟨⟨c, h1, h2, k0, k2, k13, k14, z0, k15⟩, ⟨c', h3, h4⟩, ⟨c'', h5, h6⟩, h7, h8⟩ := h
  refine ⟨⟨_, heap_set h1, by simpa using h2, ?_, ?_, ?_, ?_, z, ?_⟩, ⟨c', heap_set_other h3 hne.1, h4⟩, ⟨c'', heap_set_other h5 hne.2, h6⟩, grown_set h7 (.inl rfl), h8⟩
  · simpa [Array.getElem?_setIfInBounds] using k0
  · simpa [Array.getElem?_setIfInBounds] using k2
  · simpa [Array.getElem?_setIfInBounds] using k13
  · simpa [Array.getElem?_setIfInBounds] using k14
  · simp [h2]
/-- the tables' cells as a walk reads them -/
theorem Tb.look (h : Tb w wr O bi b n br bs r k) : wr.cell? ⟨O, 0, none⟩ = some (.int .i64 b) ∧ wr.cell? ⟨O, 2, none⟩ = some (.slice (some ⟨bi, 0, none⟩) n n) ∧ wr.cell? ⟨O, 13, none⟩ = some (.slice (some ⟨br, 0, none⟩) n n) ∧ wr.cell? ⟨O, 14, none⟩ = some (.slice (some ⟨bs, 0, none⟩) n n) ∧
    (∃ z : Int, wr.cell? ⟨O, 15, none⟩ = some (.int .i64 z)) ∧ (∀ j, wr.frozen? ⟨O, j, none⟩ = false) ∧ (∀ j, wr.frozen? ⟨br, j, none⟩ = false) ∧ (∀ j, wr.frozen? ⟨bs, j, none⟩ = false) ∧
    (∀ j, j < n → ∃ v, wr.cell? ⟨br, j, none⟩ = some v) ∧ (∀ j, j < n → ∃ v, wr.cell? ⟨bs, j, none⟩ = some v) := by
  obtain ⟨⟨c, h1, h2, k0, k2, k13, k14, z0, k15⟩, ⟨c', h3, h4, _⟩, ⟨c'', h5, h6⟩, h7, h8⟩ := h
  exact ⟨cell_of h1 k0, cell_of h1 k2, cell_of h1 k13, cell_of h1 k14, ⟨z0, cell_of h1 k15⟩, froz_of h1, froz_of h3, froz_of h5,
    fun j hj => ⟨_, cell_of h3 (Array.getElem?_eq_getElem (by omega))⟩, fun j hj => ⟨_, cell_of h5 (Array.getElem?_eq_getElem (by omega))⟩⟩
theorem Tb.ov {K : Nat → Nat} (h : Tb w wr O bi b n br bs r k) (V : Ov O bi b n K w) (hn : bi ≠ O) : Ov O bi b n K wr := by
  obtain ⟨l0, l2, _⟩ := h.look
  exact ⟨l0, l2, fun i hi c hc => h.g.cell (V.ids i hi c hc) (by simpa using hn)⟩
theorem Tb.tm {be bx : Nat} {f u : Nat → Int} (h : Tb w wr O bi b n br bs r k) (T : Tm be bx n f u w) (n1 : be ≠ O) (n2 : bx ≠ O) : Tm be bx n f u wr :=
  ⟨h.g.cell T.box (by simpa using n2), fun i hi => h.g.cell (T.hf i hi) (by simpa using n1), fun i hi => h.g.cell (T.hu i hi) (by simpa using n1)⟩
end

set_option maxRecDepth 100000 in
set_option maxHeartbeats 3200000 in
theorem tables_walk {be bx n O bi b : Nat} {f u : Nat → Int} {K : Nat → Nat} {w : World} (T : Tm be bx n f u w) (V : Ov O bi b n K w) (hO : ∃ c : Array Value, w.heap[O]? = some (.cells c 46) ∧ c.size = 18) (n1 : be ≠ O) (n2 : bx ≠ O) (n3 : bi ≠ O)
    (hK : ∀ i, K i < 4294967296) (hn : n ≤ 1024) (b1 : 1 ≤ b) (b4 : b ≤ 4) :
    Calls Yba.prog 7 #[.pointer (some ⟨O, 0, none⟩), .func (.func 8) #[] #[.pointer (some ⟨bx, 0, none⟩)]] w fun e w' => e = .returned (.tuple #[]) ∧ ∃ br bs, Tb w w' O bi b n br bs (rv b K f u n) n := by
  obtain ⟨cO, hO, sO⟩ := hO
  have c0 := V.c0
  have c2 := V.c2
  have lO := cell_lt c0
  simp only at lO
  have e13 : w.cell? ⟨O, 13, none⟩ = some (cO[13]'(by omega)) := cell_of hO (by simp)
  have e14 : w.cell? ⟨O, 14, none⟩ = some (cO[14]'(by omega)) := cell_of hO (by simp)
  have e15 : w.cell? ⟨O, 15, none⟩ = some (cO[15]'(by omega)) := cell_of hO (by simp)
  have f13 := froz_of hO 13
  have f14 := froz_of hO 14
  have f15 := froz_of hO 15
  have k0 : cO[0]? = some (.int .i64 b) := by have := c0; simpa [World.cell?, hO] using this
  have k2 : cO[2]? = some (.slice (some ⟨bi, 0, none⟩) n n) := by have := c2; simpa [World.cell?, hO] using this
  have HO := hide hO
  have HT := hide T
  have HV := hide V
  have HK := hide hK
  have m43 := mk43 n (by omega)
  have m44 := mk44 n (by omega)
  generalize cO[13]'(by omega) = x13 at e13
  generalize cO[14]'(by omega) = x14 at e14
  generalize cO[15]'(by omega) = x15 at e15
  clear T V hK hO
  go_enter Yba.func7, Yba.ntmps7
  go_wp2_with fail
  go_loopg [38] n (fun g i wr => ∃ k : Nat, g = n - k ∧ k ≤ n ∧ i = .int .i64 k ∧ ∃ br bs, Tb w wr O bi b n br bs (rv b K f u n) k)
  case atStart => exact ⟨0, by omega, by omega, rfl, _, _, Tb.start (unhide HO) sO k0 k2⟩
  case round =>
    clear e13 e14 e15 f13 f14 f15 c0 c2
    obtain ⟨k, hgk, hk, rfl, br, bs, B⟩ := hrel
    by_cases hlt : k < n
    · obtain ⟨l0, l2, l13, l14, ⟨z, l15⟩, fO, fr, fs, xr, xs⟩ := B.look
      have HB := hide B
      have Hx := hide (And.intro fO (And.intro fr (And.intro fs (And.intro xr xs))))
      clear B fO fr fs xr xs m43 m44
      go_upto_region 7 with fail
      go_cut [6] (fun t6 wd => ∃ s : Int, t6 = .int .i64 s ∧ rv b K f u n k = s + 1 ∧ Tb w wd O bi b n br bs (rv b K f u n) k)
      case first =>
        go_wp2_with (first
          | (go_at_call 10; refine (up_walk (((unhide HB).grown g1).tm (unhide HT) n1 n2) (((unhide HB).grown g1).ov (unhide HV) n3) (unhide HK) hn b1 b4 hlt).mono ?_; rintro e w2 ⟨rfl, g2⟩)
          | (go_at_call 10; refine (down_walk ((unhide HB).tm (unhide HT) n1 n2) ((unhide HB).ov (unhide HV) n3) (unhide HK) hn b1 b4 hlt).mono ?_; rintro e w1 ⟨rfl, g1⟩))
        all_goals
          go_meet
        all_goals
          case rel => exact ⟨_, rfl, by unfold rv; omega, ((unhide HB).grown g1).grown g2⟩
      case rest =>
        obtain ⟨s, rfl, hs, B⟩ := hcut
        have bd := rv_bd b K f u n k b1
        rw [hs] at bd
        clear l0 l2 l13 l14 l15 Hx HB
        obtain ⟨l0, l2, l13, l14, ⟨z, l15⟩, fO, fr, fs, xr, xs⟩ := B.look
        obtain ⟨v1, y1⟩ := xr k hlt
        obtain ⟨v2, y2⟩ := xs k hlt
        have fO15 := fO 15
        have fr1 := fr k
        have fs1 := fs k
        have HB := hide B
        have hw : IntKind.u8.wrap (s + 1) = s + 1 := by rw [wrap_u8]; omega
        have i1 : (0 : Int) ≤ (k : Int) := by omega
        have i2 : (k : Int) < (n : Int) := by omega
        clear B fO fr fs xr xs
        go_upto_region 8 with fail
        go_cut [] (fun wd => Tb w wd O bi b n br bs (rv b K f u n) (k + 1))
        case first =>
          go_wp2_with fail
          go_meet
          case rel =>
            have := (unhide HB).setR hlt
            rw [hs] at this
            exact this
        case rest =>
          replace HB := hide hcut
          obtain ⟨l0, l2, l13, l14, ⟨z, l15⟩, fO, fr, fs, xr, xs⟩ := hcut.look
          obtain ⟨v2, y2⟩ := xs k hlt
          have fs1 := fs k
          clear hcut fO fr fs xr xs
          go_upto_region 9 with fail
          go_cut [] (fun wd => Tb w wd O bi b n br bs (rv b K f u n) (k + 1))
          case first =>
            have q14 : ∀ v, (wc.setCell ⟨bs, k, none⟩ v).cell? ⟨O, 14, none⟩ = some (.slice (some ⟨bs, 0, none⟩) n n) := fun v => (World.cell?_setCell_other _ _ _ _ (fun e => (unhide HB).ne.2 (by injection e))).trans l14
            have q15 : ∀ v, (wc.setCell ⟨bs, k, none⟩ v).cell? ⟨O, 15, none⟩ = some (.int .i64 z) := fun v => (World.cell?_setCell_other _ _ _ _ (fun e => (unhide HB).ne.2 (by injection e))).trans l15
            go_region_held3 (fun w' => w'.cell? ⟨O, 14, none⟩ = some (.slice (some ⟨bs, 0, none⟩) n n) ∧ w'.cell? ⟨O, 15, none⟩ = some (.int .i64 z))
              (first | exact ⟨l14, l15⟩ | exact ⟨q14 _, q15 _⟩) (fail)
            all_goals
              go_wp2_with fail
              go_meet
            all_goals
              case rel => exact ((unhide HB).grown (grown_drew _)).setS _ _
          case rest =>
            replace HB := hide hcut
            obtain ⟨l0, l2, l13, l14, ⟨z, l15⟩, fO, fr, fs, xr, xs⟩ := hcut.look
            have fO15 := fO 15
            clear hcut fO fr fs xr xs
            go_upto_region 10 with fail
            have ib : (0 : Int) ≤ (b : Int) := by omega
            go_region
            all_goals
              clear l0 l2 l13 l14 l15 fO15
              go_wp2_with fail
              go_roundg (n - (k + 1))
              case measure => omega
              case rel => exact ⟨k + 1, rfl, by omega, by go_num, br, bs, ((unhide HB).setE _).grown (grown_drew _)⟩
    · obtain rfl : n = k := by omega
      have HB := hide B
      clear B
      go_wp2_with fail
      go_end0
      exact ⟨rfl, br, bs, unhide HB⟩
end Go.Proofs.Ybulkads
