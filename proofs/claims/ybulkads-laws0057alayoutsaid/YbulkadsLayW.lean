import Derived.Test.YbulkadsLay
namespace Go.Proofs.Ybulkads
open Go.RowKit

set_option maxRecDepth 100000 in
set_option maxHeartbeats 3200000 in
theorem layout_walk {be n O bi b Cb bh h : Nat} {f u : Nat → Int} {K : Nat → Nat} {hs : Nat → List Nat} {w : World} (hf : ∀ i, i < n → w.cell? ⟨be, i * 24 + 22, none⟩ = some (.int .u64 (f i))) (hu : ∀ i, i < n → w.cell? ⟨be, i * 24 + 23, none⟩ = some (.int .u64 (u i)))
    (V : Ov O bi b n K w) (hO : ∃ c : Array Value, w.heap[O]? = some (.cells c 46) ∧ c.size = 18) (n1 : be ≠ O) (n3 : bi ≠ O) (H : Hn O Cb bh h n hs w)
    (hK : ∀ i, K i < 4294967296) (hn : n ≤ 1024) (hh : h ≤ 4) (b1 : 1 ≤ b) (b4 : b ≤ 4) :
    Calls Yba.prog 4 #[.pointer (some ⟨Cb, 0, none⟩), .pointer (some ⟨O, 0, none⟩), .slice (some ⟨be, 0, none⟩) n n] w fun e w' => e = .returned (.tuple #[]) ∧ ∃ w0 br bs, w.grownBy w0 none ∧ Ly w0 w' O bi b n br bs (rv b K f u n) hs h 0 := by
  have lO := cell_lt V.c0
  simp only at lO
  have hmf : ∀ (fn : Fn) (first cap : Array Value) (w : World), (Instr.makeFunc fn first cap).run Yba.prog w = .ok (.func fn first cap) w := fun _ _ _ _ => rfl
  have g0 := World.grownBy_alloc w (.cells #[.slice (some ⟨be, 0, none⟩) n n] 24) none
  have HT : Hid (Tm be w.heap.size n f u (w.alloc (.cells #[.slice (some ⟨be, 0, none⟩) n n] 24))) := hide ⟨by simp [go_sem], fun i hi => g0.cell (hf i hi) (by simp), fun i hi => g0.cell (hu i hi) (by simp)⟩
  have HV := hide (V.grown g0)
  have HO : Hid (∃ c : Array Value, (w.alloc (.cells #[.slice (some ⟨be, 0, none⟩) n n] 24)).heap[O]? = some (.cells c 46) ∧ c.size = 18) := hide (by obtain ⟨c, h1, h2⟩ := hO; exact ⟨c, kh h1, h2⟩)
  have HH := hide (H.grown (g0.but _))
  have Hr := hide (fun v => rv_bd b K f u n v b1)
  have n2 : w.heap.size ≠ O := by omega
  clear hf hu V hO H g0
  go_enter Yba.func4, Yba.ntmps4
  go_upto_region 1 with fail
  go_cut [] (fun wd => ∃ br bs, Tb (w.alloc (.cells #[.slice (some ⟨be, 0, none⟩) n n] 24)) wd O bi b n br bs (rv b K f u n) n)
  case first =>
    go_wp2_with (go_at_call 7; refine (tables_walk (unhide HT) (unhide HV) (unhide HO) n1 n2 n3 hK hn b1 b4).mono ?_; rintro e w1 ⟨rfl, br, bs, hB⟩)
    go_meet
    case rel => exact ⟨br, bs, hB⟩
  case rest =>
    obtain ⟨br, bs, B⟩ := hcut
    obtain ⟨l0, l2, l13, l14, ⟨z, l15⟩, fO, fr, fs, xr, xs⟩ := B.look
    have fO15 := fO 15
    have HB := hide B
    have H1 := (unhide HH).grown B.g
    have c45 := H1.c45
    have nC : Cb ≠ O := H1.ne.1
    have c45' : (wc.setCell ⟨O, 15, none⟩ (.int .i64 0)).cell? ⟨Cb, 45, none⟩ = some (.slice (some ⟨bh, 0, none⟩) h h) := (World.cell?_setCell_other _ _ _ _ (fun e => nC (by injection e with e _; exact e.symm))).trans c45
    clear B H1 fO fr fs xr xs HT HV HO hmf
    have Hg0 := hide (World.grownBy_alloc w (.cells #[.slice (some ⟨be, 0, none⟩) n n] 24) none)
    generalize w.alloc (.cells #[.slice (some ⟨be, 0, none⟩) n n] 24) = w0 at HB HH Hg0
    go_wp2_with fail
    clear l0 l2 l13 l14 l15 fO15 c45 c45'
    go_loopg [30] h (fun g i wr => ∃ j : Nat, g = h - j ∧ j ≤ h ∧ i = .int .i64 j ∧ Ly w0 wr O bi b n br bs (rv b K f u n) hs j 0)
    case atStart => exact ⟨0, by omega, by omega, rfl, Ly.zero (unhide HB)⟩
    case round =>
      clear HB
      obtain ⟨j, hgj, hj, rfl, Y⟩ := hrel
      by_cases hlt : j < h
      · have H1 := unhide HH
        obtain ⟨a, cap, hrow, hel⟩ := H1.row j hlt
        replace hrow := Y.tb.g.cell hrow (by have := H1.ne.2; simpa using this)
        have HE := hide hel
        have HY := hide Y
        obtain ⟨l0, l2, l13, l14, _, _, _, _, _, _⟩ := Y.tb.look
        obtain ⟨cr, hr1, hr2, hr3⟩ := Y.tb.rb
        have HR : Hid (∀ v, v < n → wr.cell? ⟨br, v, none⟩ = some (.int .u8 (rv b K f u n v))) := hide (fun v hv => cell_of hr1 (hr3 v hv))
        have i1 : (0 : Int) ≤ (j : Int) := by omega
        have i2 : (j : Int) < (h : Int) := by omega
        have Hlt := hide H1.lt
        have Hinj := hide H1.inj
        have len := H1.len j
        clear Y H1 hel hr1 hr2 hr3
        rename World => wo
        go_wp2_with fail
        go_loopg [36, 9] (hs j).length (fun g i t9 wr => ∃ q : Nat, g = (hs j).length - q ∧ q ≤ (hs j).length ∧ i = .int .i64 q ∧ t9 = .int .i64 (pgTo (rv b K f u n) b (hs j) q) ∧ wo = wr)
        case atStart => exact ⟨0, by omega, by omega, rfl, rfl, rfl⟩
        case round =>
          obtain ⟨q, hgq, hq, rfl, rfl, rfl⟩ := hrel
          by_cases hltq : q < (hs j).length
          · have hv := List.getElem?_eq_getElem hltq
            obtain ⟨p, rfl, np, cp⟩ := unhide HE q _ hv
            replace cp := (unhide HY).tb.g.cell cp (by simpa using np)
            have vn := unhide Hlt _ _ _ hv
            have hsucc := pg_succ (rv b K f u n) b hv
            have Hs := hide hsucc
            clear hsucc
            generalize (hs j)[q] = v at hv cp vn Hs
            have cr := unhide HR v vn
            have rb := unhide Hr v
            have pb := pow_bd b b1 b4
            have xb := mul_bd rb.1 rb.2 pb.1 pb.2
            have gb := pg_bd (rv b K f u n) b b1 b4 (hs j) (unhide Hr) q
            generalize rv b K f u n v = x at cr rb xb Hs
            generalize hpq : pgTo (rv b K f u n) b (hs j) q = y at gb Hs ⊢
            have hw1 : IntKind.i64.wrap x = x := by rw [IntKind.wrap_i64]; omega
            have hw2 : wrap64 (x * 2 ^ b) = x * 2 ^ b := by unfold wrap64; omega
            have hw3 : wrap64 x = x := by unfold wrap64; omega
            have i3 : (0 : Int) ≤ (q : Int) := by omega
            have i4 : (q : Int) < ((hs j).length : Int) := by omega
            have i5 : (0 : Int) ≤ (v : Int) := by omega
            have i6 : (v : Int) < (n : Int) := by omega
            have i7 : (0 : Int) ≤ (b : Int) := by omega
            clear hpq
            go_wp2_with fail
            all_goals
              go_roundg ((hs j).length - (q + 1))
              case measure => omega
              case rel => exact ⟨q + 1, rfl, by omega, by go_num, by rw [unhide Hs]; congr 1; omega, rfl⟩
          · have hpe : pgTo (rv b K f u n) b (hs j) q = pg (rv b K f u n) b (hs j) := by
              have : q = (hs j).length := by omega
              unfold pg; rw [this]
            rw [hpe]
            have gb := pg_bd (rv b K f u n) b b1 b4 (hs j) (unhide Hr) (hs j).length
            have bb := bas_bd (rv b K f u n) b b1 b4 hs (unhide Hr) j
            change 0 ≤ pg (rv b K f u n) b (hs j) ∧ pg (rv b K f u n) b (hs j) ≤ 2576 at gb
            clear hpe l0 l2 l13 HR hrow
            go_wp2_with fail
            go_loopg [55] (hs j).length (fun g i wr => ∃ q : Nat, g = (hs j).length - q ∧ q ≤ (hs j).length ∧ i = .int .i64 q ∧ Ly w0 wr O bi b n br bs (rv b K f u n) hs j q)
            case atStart => exact ⟨0, by omega, by omega, rfl, unhide HY⟩
            case round =>
              clear HY l14
              obtain ⟨q, hgq, hq, rfl, Y⟩ := hrel
              have HY := hide Y
              obtain ⟨l0, l2, l13, l14, _, fO, fr, fs, xr, xs⟩ := Y.tb.look
              have l15 := Y.ent
              have fO15 := fO 15
              have ne := Y.tb.ne
              by_cases hltq : q < (hs j).length
              · have hv := List.getElem?_eq_getElem hltq
                obtain ⟨p, rfl, np, cp⟩ := unhide HE q _ hv
                replace cp := Y.tb.g.cell cp (by simpa using np)
                have vn := unhide Hlt _ _ _ hv
                have HY2 := (Y.put hv vn (unhide Hinj)).grown (grown_drew _)
                rw [show (((q % 2 : Nat)) : Int) = (q : Int) % 2 from by omega] at HY2
                replace HY2 := hide HY2
                generalize (hs j)[q] = v at hv cp vn HY2
                obtain ⟨v0, y0⟩ := xs v vn
                have fs1 := fs v
                have q14 : ∀ x, (wr.setCell ⟨bs, v, none⟩ x).cell? ⟨O, 14, none⟩ = some (.slice (some ⟨bs, 0, none⟩) n n) := fun x => (World.cell?_setCell_other _ _ _ _ (fun e => ne.2 (by injection e))).trans l14
                have q15 : ∀ x, (wr.setCell ⟨bs, v, none⟩ x).cell? ⟨O, 15, none⟩ = some (.int .i64 (bas (rv b K f u n) b hs j)) := fun x => (World.cell?_setCell_other _ _ _ _ (fun e => ne.2 (by injection e))).trans l15
                generalize hP : pg (rv b K f u n) b (hs j) = P at gb HY2 ⊢
                generalize hE : bas (rv b K f u n) b hs j = E at bb HY2 l15 q15 ⊢
                have hm : wrap64 ((q : Int) % 2 * P) = (q : Int) % 2 * P := by
                  have : (q : Int) % 2 * P = 0 ∨ (q : Int) % 2 * P = P := by
                    rcases (show (q : Int) % 2 = 0 ∨ (q : Int) % 2 = 1 from by omega) with e | e <;> rw [e] <;> simp
                  unfold wrap64; omega
                have ha : wrap64 (E + (q : Int) % 2 * P) = E + (q : Int) % 2 * P := by
                  have : (q : Int) % 2 * P = 0 ∨ (q : Int) % 2 * P = P := by
                    rcases (show (q : Int) % 2 = 0 ∨ (q : Int) % 2 = 1 from by omega) with e | e <;> rw [e] <;> simp
                  unfold wrap64; omega
                have i3 : (0 : Int) ≤ (q : Int) := by omega
                have i4 : (q : Int) < ((hs j).length : Int) := by omega
                have i5 : (0 : Int) ≤ (v : Int) := by omega
                have i6 : (v : Int) < (n : Int) := by omega
                clear Y fO fr fs xr xs l0 l2 l13 hv fO15
                go_upto_region 16 with fail
                go_region_held3 (fun w' => w'.cell? ⟨O, 14, none⟩ = some (.slice (some ⟨bs, 0, none⟩) n n) ∧ w'.cell? ⟨O, 15, none⟩ = some (.int .i64 E))
                  (first | exact ⟨l14, l15⟩ | exact ⟨q14 _, q15 _⟩) (fail)
                all_goals
                  clear q14 q15 l14 l15
                  go_wp2_with fail
                  subst hP hE
                  go_roundg ((hs j).length - (q + 1))
                  case measure => omega
                  case rel => exact ⟨q + 1, rfl, by omega, by go_num, by rw [hm, ha]; exact unhide HY2⟩
              · have hqe : q = (hs j).length := by omega
                rw [hqe] at Y
                have HY2 := hide Y.next
                generalize hP : pg (rv b K f u n) b (hs j) = P at gb HY2 ⊢
                generalize hE : bas (rv b K f u n) b hs j = E at bb HY2 l15 ⊢
                have hw1 : wrap64 (2 * P) = 2 * P := by unfold wrap64; omega
                have hw2 : wrap64 (E + 2 * P) = E + 2 * P := by unfold wrap64; omega
                clear Y HY fO fr fs xr xs l0 l2 l13 l14 hqe
                go_wp2_with fail
                go_roundg (h - (j + 1))
                case measure => omega
                case rel => exact ⟨j + 1, rfl, by omega, by go_num, unhide HY2⟩
      · obtain rfl : h = j := by omega
        have HY := hide Y
        clear Y
        go_wp2_with fail
        go_end0
        exact ⟨rfl, w0, br, bs, unhide Hg0, unhide HY⟩
end Go.Proofs.Ybulkads
