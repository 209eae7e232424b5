import Derived.Test.YbulkabaFs
namespace Go.Proofs.Ybulkaba
open Go.RowKit

theorem lookP' {w0 w bf gp gs n vp vs Z} (F : FS w0 w bf gp gs n vp vs) (C : ColA w vp n Z) {k : Nat} (hk : k < n) : ∃ x L c, w.cell? ⟨gp, k, none⟩ = some (.slice x L c) ∧ IntsAt w (.slice x L c) (Z k) := by
  obtain ⟨x, c, h⟩ := F.lookP C hk
  exact ⟨x, _, c, h⟩
theorem lookS' {w0 w bf gp gs n vp vs Z} (F : FS w0 w bf gp gs n vp vs) (C : ColA w vs n Z) {k : Nat} (hk : k < n) : ∃ x L c, w.cell? ⟨gs, k, none⟩ = some (.slice x L c) ∧ IntsAt w (.slice x L c) (Z k) := by
  obtain ⟨x, c, h⟩ := F.lookS C hk
  exact ⟨x, _, c, h⟩

/-- the state behind link -/
def Fin (w0 w : World) (bf gp gs n : Nat) (vp vs : Array Value) (ZP ZS : Nat → List Int) : Prop := FS w0 w bf gp gs n vp vs ∧ ColA w vp n ZP ∧ ColA w vs n ZS
theorem Fin.drewN {w0 w bf gp gs n vp vs ZP ZS} (h : Fin w0 w bf gp gs n vp vs ZP ZS) (q : Nat) : Fin w0 (w.drewN q) bf gp gs n vp vs ZP ZS :=
  ⟨⟨h.1.f0, h.1.f1, h.1.f2, h.1.f3, h.1.hp, h.1.hs, h.1.sp, h.1.ss, h.1.n1, h.1.n2, h.1.n3, h.1.lf, h.1.lp, h.1.ls, below_drewN h.1.below q⟩, h.2.1.keepInts ((KeptInts.refl w).drewN q), h.2.2.keepInts ((KeptInts.refl w).drewN q)⟩

set_option maxRecDepth 100000 in
set_option maxHeartbeats 6400000 in
theorem blink_main (a0 a1 : Option Addr) (m0 c0 m1 c1 : Nat) (V0 V1 : Nat → Value) (Z0 Z1 : Nat → List Int) (ua ub : Int) (w : World)
    (h0 : RowsAt w a0 m0 V0 Z0) (h1 : RowsAt w a1 m1 V1 Z1) (p1 : 1 ≤ m0) (p2 : m0 ≤ 1024) (p3 : m1 ≤ 1024) (ua0 : 0 ≤ ua) (ua1 : ua ≤ 65535) (ub0 : 0 ≤ ub) (ub1 : ub ≤ 65535) :
    Calls Yba.prog 5 #[.slice a0 m0 c0, .slice a1 m1 c1, .int .u16 ua, .int .u16 ub] w fun e w' => e = .returned (.bool true) ∧ Below w.heap.size w w' := by
  have t1 : ((m0 : Int) == 0) = false := by simp; omega
  have t2 : ¬ ((1024 : Int) < (m0 : Int)) := by omega
  have t3 : ¬ ((1024 : Int) < (m1 : Int)) := by omega
  have H0 := hide h0
  have H1 := hide h1
  clear h0 h1
  go_enter Yba.func5, Yba.ntmps5
  go_wp2
  go_loopg [10] m0 (fun g i wr => ∃ k : Nat, g = m0 - k ∧ k ≤ m0 ∧ i = .int .i64 k ∧ w = wr ∧ ∀ j, j < k → (Z0 j).length ≤ 1024)
  case atStart => exact ⟨0, by omega, by omega, rfl, rfl, fun j hj => by omega⟩
  case round =>
    obtain ⟨k, hgk, hk, rfl, rfl, hall⟩ := hrel
    by_cases hlt : k < m0
    · obtain ⟨b, off, x, c, rfl, hcell, hv⟩ := (unhide H0).row hlt
      have HA := hide hall
      have i1 : (0 : Int) ≤ (k : Int) := by omega
      have i2 : (k : Int) < (m0 : Int) := by omega
      clear hall hv
      by_cases hbig : (1024 : Int) < ((Z0 k).length : Int)
      · go_wp2
        go_ret
        exact ⟨by simp, Below.refl _ _⟩
      · go_wp2
        go_roundg (m0 - (k + 1))
        case measure => omega
        case rel => exact ⟨k + 1, rfl, by omega, by go_num, rfl, fun j hj => by rcases Nat.lt_succ_iff_lt_or_eq.1 hj with h | h; exact unhide HA j h; subst h; omega⟩
    · have HA : Hid (∀ j, j < m0 → (Z0 j).length ≤ 1024) := hide (fun j hj => hall j (by omega))
      clear hall
      go_wp2
      go_loopg [11] m1 (fun g i wr => ∃ k : Nat, g = m1 - k ∧ k ≤ m1 ∧ i = .int .i64 k ∧ w = wr ∧ ∀ j, j < k → (Z1 j).length ≤ 1024)
      case atStart => exact ⟨0, by omega, by omega, rfl, rfl, fun j hj => by omega⟩
      case round =>
        obtain ⟨k2, hgk2, hk2, rfl, rfl, hall⟩ := hrel
        by_cases hlt2 : k2 < m1
        · obtain ⟨b, off, x, c, rfl, hcell, hv⟩ := (unhide H1).row hlt2
          have HB := hide hall
          have i1 : (0 : Int) ≤ (k2 : Int) := by omega
          have i2 : (k2 : Int) < (m1 : Int) := by omega
          clear hall hv
          by_cases hbig : (1024 : Int) < ((Z1 k2).length : Int)
          · go_wp2
            go_ret
            exact ⟨by simp, Below.refl _ _⟩
          · go_wp2
            go_roundg (m1 - (k2 + 1))
            case measure => omega
            case rel => exact ⟨k2 + 1, rfl, by omega, by go_num, rfl, fun j hj => by rcases Nat.lt_succ_iff_lt_or_eq.1 hj with h | h; exact unhide HB j h; subst h; omega⟩
        · have HB : Hid (∀ j, j < m1 → (Z1 j).length ≤ 1024) := hide (fun j hj => hall j (by omega))
          clear hall
          have hmk := mk27 m0 p2
          go_wp2
          go_cut [12] (fun t wc => ∃ bf gp gs, t = .pointer (some ⟨bf, 0, none⟩) ∧ FS w wc bf gp gs m0 (reps m0 (.slice none 0 0)) (reps m0 (.slice none 0 0)))
          case first =>
            go_region
            all_goals
              go_wp2_with fail
              go_meet
            · exact ⟨_, _, _, rfl, fs_born w m0 w.heap.size (w.heap.size + 1) (.inl ⟨rfl, rfl⟩)⟩
            · exact ⟨_, _, _, rfl, fs_born w m0 (w.heap.size + 1) w.heap.size (.inr ⟨rfl, rfl⟩)⟩
          case rest =>
            obtain ⟨bf, gp, gs, rfl, hF⟩ := hcut
            have HF := hide hF
            clear hF hmk
            go_wp2_with fail
            go_loopg [13] m0 (fun g i wr => ∃ k : Nat, g = m0 - k ∧ k ≤ m0 ∧ i = .int .i64 k ∧ ∃ vp vs, FS w wr bf gp gs m0 vp vs ∧ Col wr vp m0 (fun j => if j < k then Z0 j else []) ∧ Col wr vs m0 (fun j => if j < k ∧ j < m1 then Z1 j else []))
            case atStart => exact ⟨0, by omega, by omega, rfl, _, _, unhide HF, Col.born _ _ _ (fun j => by simp), Col.born _ _ _ (fun j => by simp)⟩
            case round =>
              clear HF
              obtain ⟨k3, hgk3, hk3, rfl, vp, vs, F, CP, CS⟩ := hrel
              by_cases hlt3 : k3 < m0
              · obtain ⟨b, off, x, c, rfl, hcell, hv⟩ := ((unhide H0).keep F.below).row hlt3
                have hI : IntsAt wr (.slice x (Z0 k3).length c) (Z0 k3) := by rw [← hv]; exact (((unhide H0).keep F.below) k3 hlt3).2
                have hl := unhide HA k3 hlt3
                have ff0 := F.f0
                obtain ⟨y, ck, fk⟩ := F.cellP CP hlt3
                have lgp := World.block_lt_of_cell? wr _ ck
                simp only at lgp
                have i1 : (0 : Int) ≤ (k3 : Int) := by omega
                have i2 : (k3 : Int) < (m0 : Int) := by omega
                have HX := hide (And.intro F (And.intro CP CS))
                have HI := hide hI
                clear F CP CS hv hI
                go_wp2_with fail
                go_cut [] (fun wc => ∃ vp', FS w wc bf gp gs m0 vp' vs ∧ Col wc vp' m0 (fun j => if j < k3 + 1 then Z0 j else []) ∧ Col wc vs m0 (fun j => if j < k3 ∧ j < m1 then Z1 j else []))
                case first =>
                  go_region_with (go_at_call 9; refine (clone_any _ _ (Z0 k3) (by exact (unhide HI)) hl).mono ?_; rintro e w1 ⟨v', rfl, hJ, hb⟩; obtain ⟨a', hv', hJ2⟩ := id hJ; subst hv'; have q0 := cell_keep hb ff0; have q1 := cell_keep hb ck; have q2 := (hb.frozen lgp).trans fk)
                  all_goals
                    go_wp2_with fail
                    go_meet
                  all_goals
                    case rel =>
                      obtain ⟨F, CP, CS⟩ := unhide HX
                      exact F.storeP CP CS (undrew hb) hlt3 hJ (fun j _ => zp_step Z0 k3 j)
                case rest =>
                  obtain ⟨vp', F, CP, CS⟩ := hcut
                  clear hcell hl ff0 ck fk lgp HX HI
                  by_cases hlt4 : k3 < m1
                  · obtain ⟨b', off', x', c', rfl, hcell, hv⟩ := ((unhide H1).keep F.below).row hlt4
                    have hI : IntsAt wc (.slice x' (Z1 k3).length c') (Z1 k3) := by rw [← hv]; exact (((unhide H1).keep F.below) k3 hlt4).2
                    have hl := unhide HB k3 hlt4
                    have ff1 := F.f1
                    obtain ⟨y, ck, fk⟩ := F.cellS CS hlt3
                    have lgs := World.block_lt_of_cell? wc _ ck
                    simp only at lgs
                    have i3 : (k3 : Int) < (m1 : Int) := by omega
                    have HX := hide (And.intro F (And.intro CP CS))
                    have HI := hide hI
                    clear F CP CS hv hI
                    go_wp2_with fail
                    go_region_with (go_at_call 9; refine (clone_any _ _ (Z1 k3) (by exact (unhide HI)) hl).mono ?_; rintro e w1 ⟨v', rfl, hJ, hb⟩; obtain ⟨a', hv', hJ2⟩ := id hJ; subst hv'; have q0 := cell_keep hb ff1; have q1 := cell_keep hb ck; have q2 := (hb.frozen lgs).trans fk)
                    all_goals
                      have HX2 := hide (have ⟨F, CP, CS⟩ := unhide HX; F.storeS CP CS (undrew hb) hlt3 hJ (fun j _ => zs_step Z1 k3 j m1 hlt4))
                      clear HX HI hcell hl ff1 ck fk lgs hb hJ hJ2 q0 q1 q2
                      go_wp2
                      go_roundg (m0 - (k3 + 1))
                      case measure => omega
                      case rel =>
                        obtain ⟨vs', HX3⟩ := unhide HX2
                        exact ⟨k3 + 1, rfl, by omega, by go_num, vp', vs', HX3⟩
                  · have CS' : Col wc vs m0 (fun j => if j < k3 + 1 ∧ j < m1 then Z1 j else []) := CS.congr (fun j _ => zs_stay Z1 k3 j m1 hlt4)
                    have HX2 := hide (And.intro F (And.intro CP CS'))
                    clear F CP CS CS'
                    go_wp2
                    go_roundg (m0 - (k3 + 1))
                    case measure => omega
                    case rel => exact ⟨k3 + 1, rfl, by omega, by go_num, vp', vs, unhide HX2⟩
              · have hA : 0 ≤ ua % (m0 : Int) ∧ ua % (m0 : Int) < (m0 : Int) := ⟨Int.emod_nonneg _ (by omega), Int.emod_lt_of_pos _ (by omega)⟩
                have hB : 0 ≤ ub % (m0 : Int) ∧ ub % (m0 : Int) < (m0 : Int) := ⟨Int.emod_nonneg _ (by omega), Int.emod_lt_of_pos _ (by omega)⟩
                have hm0 : ((m0 : Int) == 0) = false := t1
                obtain ⟨A, eA⟩ := Int.eq_ofNat_of_zero_le hA.1
                obtain ⟨B, eB⟩ := Int.eq_ofNat_of_zero_le hB.1
                have lA : A < m0 := by have := hA.2; omega
                have lB : B < m0 := by have := hB.2; omega
                have HX := hide (And.intro F (And.intro CP CS))
                have EA := hide eA
                have EB := hide eB
                obtain rfl : k3 = m0 := by omega
                clear F CP CS eA eB
                go_wp2_with fail
                rw [unhide EA, unhide EB]
                refine (link_fs (unhide HX).1 (unhide HX).2.1 (unhide HX).2.2 lA lB p2 (fun j hj => by rw [if_pos hj]; exact unhide HA j hj) (fun j hj => by split; (rename_i h; exact unhide HB j h.2); simp)).mono ?_
                rintro e w2 ⟨rfl, vpF, vsF, F, CP, CS⟩
                clear HX EA EB hA hB
                have ff0 := F.f0
                have ff1 := F.f1
                have ff2 := F.f2
                have ff3 := F.f3
                have hnil27 := fun w => run_neq_slice_nil_any (P := Yba.prog) w 27 25 none 0 0 0 0 Yba.underlying27
                have hnil25 := fun w => run_neq_slice_nil_any (P := Yba.prog) w 25 3 none 0 0 0 0 Yba.underlying25
                obtain ⟨ZP, eZP⟩ : ∃ Z, Z = (fun j => (if j < k3 then Z0 j else []) ++ if (decide (j = B) && !decide (A = B)) then [(A : Int)] else []) := ⟨_, rfl⟩
                obtain ⟨ZS, eZS⟩ : ∃ Z, Z = (fun j => (if j < k3 ∧ j < m1 then Z1 j else []) ++ if (decide (j = A) && !decide (A = B)) then [(B : Int)] else []) := ⟨_, rfl⟩
                rw [← eZP] at CP
                rw [← eZS] at CS
                have EZP := hide eZP
                have EZS := hide eZS
                have HX : Hid (Fin w w2 bf gp gs k3 vpF vsF ZP ZS) := hide ⟨F, CP, CS⟩
                clear F CP CS eZP eZS
                go_wp2_with fail
                go_loopg [16] k3 (fun g i wr => ∃ k : Nat, g = k3 - k ∧ k ≤ k3 ∧ i = .int .i64 k ∧ Fin w wr bf gp gs k3 vpF vsF ZP ZS)
                case atStart => exact ⟨0, by omega, by omega, rfl, unhide HX⟩
                case round =>
                  clear hnil25 hnil27 ff2 ff3 ff0 ff1 HX
                  obtain ⟨k4, hgk4, hk4, rfl, HF⟩ := hrel
                  have HX := hide HF
                  by_cases hlt4 : k4 < k3
                  · have i1 : (0 : Int) ≤ (k4 : Int) := by omega
                    have i2 : (k4 : Int) < (k3 : Int) := by omega
                    have hR := (unhide H0).keep HF.1.below
                    have ff0 := HF.1.f0
                    obtain ⟨b, off, x, c, rfl, hcell, hv⟩ := hR.row hlt4
                    have hI : IntsAt wr (.slice x (Z0 k4).length c) (Z0 k4) := by rw [← hv]; exact (hR k4 hlt4).2
                    have hl := unhide HA k4 hlt4
                    obtain ⟨x2, L2, c2, hcell2, hI2⟩ := lookP' HF.1 HF.2.1 hlt4
                    have hI2' : IntsAt wr (.slice x2 L2 c2) (Z0 k4 ++ if (decide (k4 = B) && !decide (A = B)) then [(A : Int)] else []) := by
                      have h := hI2
                      rw [unhide EZP] at h
                      simpa only [if_pos hlt4] using h
                    have HI := hide hI
                    have HI2 := hide hI2'
                    clear hR hv hI hI2 hI2' HF
                    go_upto_region 29 with fail
                    go_cut [160] (fun t wc => t = .bool false ∧ Fin w wc bf gp gs k3 vpF vsF ZP ZS)
                    case first =>
                      by_cases e1 : k4 = B
                      · by_cases e2 : A = B
                        · have g1 : ((k4 : Int) == (B : Int)) = true := by simp [e1]
                          have g2 : ((A : Int) != (B : Int)) = false := by simp [e2]
                          have HI3 : Hid (IntsAt wr (.slice x2 L2 c2) (Z0 k4 ++ if false then [(A : Int)] else [])) := by simpa [Hid, e1, e2] using HI2
                          clear HI2 e1 e2
                          go_quiet ((go_at_call 11; exact Calls.quiet_of (ext_true _ _ _ (Z0 k4) false A (by exact (unhide HI)) (by exact (unhide HI3)) hl)))
                          go_wp2_with fail
                          go_meet
                          case rel => exact ⟨by simp, (unhide HX).drewN _⟩
                        · have g1 : ((k4 : Int) == (B : Int)) = true := by simp [e1]
                          have g2 : ((A : Int) != (B : Int)) = true := by simp; omega
                          have HI3 : Hid (IntsAt wr (.slice x2 L2 c2) (Z0 k4 ++ if true then [(A : Int)] else [])) := by simpa [Hid, e1, e2] using HI2
                          clear HI2 e1 e2
                          go_quiet ((go_at_call 11; exact Calls.quiet_of (ext_true _ _ _ (Z0 k4) true A (by exact (unhide HI)) (by exact (unhide HI3)) hl)))
                          go_wp2_with fail
                          go_meet
                          case rel => exact ⟨by simp, (unhide HX).drewN _⟩
                      · have g1 : ((k4 : Int) == (B : Int)) = false := by simp; omega
                        have HI3 : Hid (IntsAt wr (.slice x2 L2 c2) (Z0 k4 ++ if false then [(A : Int)] else [])) := by simpa [Hid, e1] using HI2
                        clear HI2 e1
                        go_quiet ((go_at_call 11; exact Calls.quiet_of (ext_true _ _ _ (Z0 k4) false A (by exact (unhide HI)) (by exact (unhide HI3)) hl)))
                        go_wp2_with fail
                        go_meet
                        case rel => exact ⟨by simp, (unhide HX).drewN _⟩
                    case rest =>
                      clear hcell hl hcell2 HI HI2 HX ff0
                      obtain ⟨rfl, HF⟩ := hcut
                      have HX := hide HF
                      have ff1 := HF.1.f1
                      obtain ⟨x6, L6, c6, hcell6, hI6⟩ := lookS' HF.1 HF.2.2 hlt4
                      rw [unhide EZS] at hI6
                      by_cases hlt5 : k4 < m1
                      · have hR := (unhide H1).keep HF.1.below
                        obtain ⟨b', off', x5, c5, rfl, hcell5, hv⟩ := hR.row hlt5
                        have HI5 : Hid (IntsAt wc (.slice x5 (Z1 k4).length c5) (Z1 k4)) := by rw [← hv]; exact hide (hR k4 hlt5).2
                        have HL := hide (unhide HB k4 hlt5)
                        have HI6 := hide (show IntsAt wc (.slice x6 L6 c6) (Z1 k4 ++ if (decide (k4 = A) && !decide (A = B)) then [(B : Int)] else []) by simpa only [if_pos (And.intro hlt4 hlt5)] using hI6)
                        have i3 : (k4 : Int) < (m1 : Int) := by omega
                        clear hR hv hI6 HF
                        by_cases e1 : k4 = A
                        · have g1 : ((k4 : Int) == (A : Int)) = true := by simp [e1]
                          by_cases e2 : A = B
                          · have g2 : ((A : Int) != (B : Int)) = false := by simp [e2]
                            have HI3 : Hid (IntsAt wc (.slice x6 L6 c6) ((Z1 k4) ++ if false then [(B : Int)] else [])) := by simpa [Hid, e1, e2] using HI6
                            clear HI6 e1 e2
                            go_wp2_with (go_at_call 11; refine (ext_true _ _ _ (Z1 k4) false B (by exact (unhide HI5)) (by exact (unhide HI3)) (unhide HL)).mono ?_; rintro e w9 ⟨rfl, q9, rfl⟩)
                            go_roundg (k3 - (k4 + 1))
                            case measure => omega
                            case rel => exact ⟨k4 + 1, rfl, by omega, by go_num, (unhide HX).drewN _⟩
                          · have g2 : ((A : Int) != (B : Int)) = true := by simp; omega
                            have HI3 : Hid (IntsAt wc (.slice x6 L6 c6) ((Z1 k4) ++ if true then [(B : Int)] else [])) := by simpa [Hid, e1, e2] using HI6
                            clear HI6 e1 e2
                            go_wp2_with (go_at_call 11; refine (ext_true _ _ _ (Z1 k4) true B (by exact (unhide HI5)) (by exact (unhide HI3)) (unhide HL)).mono ?_; rintro e w9 ⟨rfl, q9, rfl⟩)
                            go_roundg (k3 - (k4 + 1))
                            case measure => omega
                            case rel => exact ⟨k4 + 1, rfl, by omega, by go_num, (unhide HX).drewN _⟩
                        · have g1 : ((k4 : Int) == (A : Int)) = false := by simp; omega
                          have HI3 : Hid (IntsAt wc (.slice x6 L6 c6) ((Z1 k4) ++ if false then [(B : Int)] else [])) := by simpa [Hid, e1] using HI6
                          clear HI6 e1
                          go_wp2_with (go_at_call 11; refine (ext_true _ _ _ (Z1 k4) false B (by exact (unhide HI5)) (by exact (unhide HI3)) (unhide HL)).mono ?_; rintro e w9 ⟨rfl, q9, rfl⟩)
                          go_roundg (k3 - (k4 + 1))
                          case measure => omega
                          case rel => exact ⟨k4 + 1, rfl, by omega, by go_num, (unhide HX).drewN _⟩
                      · have HI5 : Hid (IntsAt wc (.slice none 0 0) []) := hide ⟨none, 0, rfl, fun _ => ⟨rfl, rfl⟩, fun x hx => by cases hx⟩
                        have HL : Hid (([] : List Int).length ≤ 1024) := hide (by simp)
                        have HI6 := hide (show IntsAt wc (.slice x6 L6 c6) ([] ++ if (decide (k4 = A) && !decide (A = B)) then [(B : Int)] else []) by simpa only [if_neg (show ¬ (k4 < k3 ∧ k4 < m1) from fun h => hlt5 h.2)] using hI6)
                        clear hI6 HF
                        by_cases e1 : k4 = A
                        · have g1 : ((k4 : Int) == (A : Int)) = true := by simp [e1]
                          by_cases e2 : A = B
                          · have g2 : ((A : Int) != (B : Int)) = false := by simp [e2]
                            have HI3 : Hid (IntsAt wc (.slice x6 L6 c6) ([] ++ if false then [(B : Int)] else [])) := by simpa [Hid, e1, e2] using HI6
                            clear HI6 e1 e2
                            go_wp2_with (go_at_call 11; refine (ext_true _ _ _ [] false B (by exact (unhide HI5)) (by exact (unhide HI3)) (unhide HL)).mono ?_; rintro e w9 ⟨rfl, q9, rfl⟩)
                            go_roundg (k3 - (k4 + 1))
                            case measure => omega
                            case rel => exact ⟨k4 + 1, rfl, by omega, by go_num, (unhide HX).drewN _⟩
                          · have g2 : ((A : Int) != (B : Int)) = true := by simp; omega
                            have HI3 : Hid (IntsAt wc (.slice x6 L6 c6) ([] ++ if true then [(B : Int)] else [])) := by simpa [Hid, e1, e2] using HI6
                            clear HI6 e1 e2
                            go_wp2_with (go_at_call 11; refine (ext_true _ _ _ [] true B (by exact (unhide HI5)) (by exact (unhide HI3)) (unhide HL)).mono ?_; rintro e w9 ⟨rfl, q9, rfl⟩)
                            go_roundg (k3 - (k4 + 1))
                            case measure => omega
                            case rel => exact ⟨k4 + 1, rfl, by omega, by go_num, (unhide HX).drewN _⟩
                        · have g1 : ((k4 : Int) == (A : Int)) = false := by simp; omega
                          have HI3 : Hid (IntsAt wc (.slice x6 L6 c6) ([] ++ if false then [(B : Int)] else [])) := by simpa [Hid, e1] using HI6
                          clear HI6 e1
                          go_wp2_with (go_at_call 11; refine (ext_true _ _ _ [] false B (by exact (unhide HI5)) (by exact (unhide HI3)) (unhide HL)).mono ?_; rintro e w9 ⟨rfl, q9, rfl⟩)
                          go_roundg (k3 - (k4 + 1))
                          case measure => omega
                          case rel => exact ⟨k4 + 1, rfl, by omega, by go_num, (unhide HX).drewN _⟩
                  · go_wp2
                    go_ret
                    exact ⟨by simp, (unhide HX).1.below⟩
end Go.Proofs.Ybulkaba
namespace Go.Proofs.Ybulkaba
open Go.RowKit

set_option maxRecDepth 100000 in
theorem blink_walk (a0 : Option Addr) (m0 c0 : Nat) (V0 : Nat → Value) (Z0 : Nat → List Int) (a1 : Option Addr) (m1 c1 : Nat) (V1 : Nat → Value) (Z1 : Nat → List Int) (ua ub : Int) (w : World)
    (h0 : RowsAt w a0 m0 V0 Z0) (h1 : RowsAt w a1 m1 V1 Z1) (ua0 : 0 ≤ ua) (ua1 : ua ≤ 65535) (ub0 : 0 ≤ ub) (ub1 : ub ≤ 65535) :
    Calls Yba.prog 5 #[.slice a0 m0 c0, .slice a1 m1 c1, .int .u16 ua, .int .u16 ub] w fun e w' => e = .returned (.bool true) ∧ Below w.heap.size w w' := by
  by_cases p0 : m0 = 0
  · have t1 : ((m0 : Int) == 0) = true := by simp [p0]
    clear h0 h1
    go_enter Yba.func5, Yba.ntmps5
    go_wp2
    go_ret
    exact ⟨by simp, Below.refl _ _⟩
  · have t1 : ((m0 : Int) == 0) = false := by simp; omega
    by_cases p1 : (1024 : Int) < (m0 : Int)
    · clear h0 h1
      go_enter Yba.func5, Yba.ntmps5
      go_wp2
      go_ret
      exact ⟨by simp, Below.refl _ _⟩
    · by_cases p2 : (1024 : Int) < (m1 : Int)
      · clear h0 h1
        go_enter Yba.func5, Yba.ntmps5
        go_wp2
        go_ret
        exact ⟨by simp, Below.refl _ _⟩
      · exact blink_main a0 a1 m0 c0 m1 c1 V0 V1 Z0 Z1 ua ub w h0 h1 (by omega) (by omega) (by omega) ua0 ua1 ub0 ub1

end Go.Proofs.Ybulkaba
