import Derived.Test.YbulkadsReg
namespace Go.Proofs.Ybulkads
open Go.RowKit

/-- going down from i: the first below k that meets i -/
def dn (b : Nat) (K : Nat → Nat) (f u : Nat → Int) (i : Nat) : Nat → Int
  | 0 => -1
  | k + 1 => if mt f u i k then (shd b (K i) (K k) : Nat) else dn b K f u i k
/-- going up: the first of the l from k on that meets i -/
def up (b : Nat) (K : Nat → Nat) (f u : Nat → Int) (i : Nat) : Nat → Nat → Int
  | 0, _ => -1
  | l + 1, k => if mt f u i k then (shd b (K i) (K k) : Nat) else up b K f u i l (k + 1)

theorem eqf72 (fn : Fn) (a c : Array Value) (x : World) : (binOp .eql 72 (.func fn a c) .nilFunc).run Yba.prog x = .ok (.bool false) x := by
  have h : ∀ d : Nat, (Op.equalIn (d + 1) 72 (.func fn a c) .nilFunc).run Yba.prog x = .ok false x := fun d => by
    simp [Op.equalIn, run_underlying Yba.underlying72]
  simp only [binOp]
  simp [Op.equal, Op.maxDepth, h 9999]

set_option maxRecDepth 100000 in
set_option maxHeartbeats 3200000 in
theorem down_walk {be bx n O bi b : Nat} {f u : Nat → Int} {K : Nat → Nat} {w : World} (T : Tm be bx n f u w) (V : Ov O bi b n K w) (hK : ∀ i, K i < 4294967296) (hn : n ≤ 1024) (b1 : 1 ≤ b) (b4 : b ≤ 4) {i : Nat} (hi : i < n) :
    Calls Yba.prog 10 #[.pointer (some ⟨O, 0, none⟩), .int .i64 i, .int .i64 (-1), .func (.func 8) #[] #[.pointer (some ⟨bx, 0, none⟩)]] w fun e w' => e = .returned (.int .i64 (dn b K f u i i)) ∧ w.grownBy w' none := by
  have HT := hide T
  have HV := hide V
  have HK := hide hK
  have ef := eqf72
  clear T V hK
  go_enter Yba.func10, Yba.ntmps10
  go_wp2_with fail
  go_loopg [9] i (fun g t9 wr => ∃ (k : Nat) (z : Int), g = k ∧ k ≤ i ∧ t9 = .int .i64 z ∧ z = (k : Int) - 1 ∧ w.grownBy wr none ∧ dn b K f u i k = dn b K f u i i)
  case atStart => exact ⟨i, _, rfl, by omega, rfl, by omega, World.grownBy.refl _ _, rfl⟩
  case round =>
    obtain ⟨k, z, hgk, hk, rfl, hz, g, hd⟩ := hrel
    have Hg := hide g
    have Hd := hide hd
    clear g hd
    cases k with
    | zero =>
      have hz' : z = -1 := by simpa using hz
      clear hz
      subst hz'
      go_wp2_with fail
      go_ret
      exact ⟨by rw [← unhide Hd]; rfl, unhide Hg⟩
    | succ k =>
      have hz' : z = (k : Int) := by omega
      clear hz
      subst hz'
      have V := (unhide HV).grown (unhide Hg)
      have T := (unhide HT).grown (unhide Hg)
      have c0 := V.c0
      have c2 := V.c2
      have HV2 := hide V
      have HT2 := hide T
      have i1 : (0 : Int) ≤ (k : Int) := by omega
      have i2 : (k : Int) < (n : Int) := by omega
      have i3 : (0 : Int) ≤ (i : Int) := by omega
      have i4 : (i : Int) < (n : Int) := by omega
      have hkn : k < n := by omega
      clear V T
      cases hmt : mt f u i k with
      | false =>
        go_wp2_with (go_at_call 8; refine (meet_walk (unhide HT2) hi hkn).mono ?_; rintro e w1 ⟨rfl, m, rfl⟩; rw [hmt])
        go_roundg k
        case measure => omega
        case rel => exact ⟨k, _, rfl, by omega, rfl, by go_num, (unhide Hg).trans (grown_drewN _ _), by rw [← unhide Hd]; simp [dn, hmt]⟩
      | true =>
        go_upto_region 5 with (go_at_call 8; refine (meet_walk (unhide HT2) hi hkn).mono ?_; rintro e w1 ⟨rfl, m, rfl⟩; rw [hmt])
        apply reg5 (V := (unhide HV2).grown (grown_drewN _ m)) (hi := hi) (hj := hkn) (ki := unhide HK i) (kj := unhide HK k) (b1 := b1) (b4 := b4)
        refine hide ?_
        intro z35 z36 z37 z38 z39 z40 z41 z42 z43 z44 z45 z46 z47 z48 z49 z50 z51 z52 z53 z54 w2 g2
        go_wp2_with fail
        go_ret
        exact ⟨by rw [← unhide Hd]; simp [dn, hmt], ((unhide Hg).trans (grown_drewN _ _)).trans g2⟩

set_option maxRecDepth 100000 in
set_option maxHeartbeats 3200000 in
theorem up_walk {be bx n O bi b : Nat} {f u : Nat → Int} {K : Nat → Nat} {w : World} (T : Tm be bx n f u w) (V : Ov O bi b n K w) (hK : ∀ i, K i < 4294967296) (hn : n ≤ 1024) (b1 : 1 ≤ b) (b4 : b ≤ 4) {i : Nat} (hi : i < n) :
    Calls Yba.prog 10 #[.pointer (some ⟨O, 0, none⟩), .int .i64 i, .int .i64 1, .func (.func 8) #[] #[.pointer (some ⟨bx, 0, none⟩)]] w fun e w' => e = .returned (.int .i64 (up b K f u i (n - (i + 1)) (i + 1))) ∧ w.grownBy w' none := by
  have HT := hide T
  have HV := hide V
  have HK := hide hK
  have ef := eqf72
  clear T V hK
  go_enter Yba.func10, Yba.ntmps10
  go_wp2_with fail
  go_loopg [9] (n - i) (fun g t9 wr => ∃ k : Nat, g = n - k + 1 ∧ i + 1 ≤ k ∧ k ≤ n ∧ t9 = .int .i64 k ∧ w.grownBy wr none ∧ up b K f u i (n - k) k = up b K f u i (n - (i + 1)) (i + 1))
  case atStart => exact ⟨i + 1, by omega, by omega, by omega, by go_num, World.grownBy.refl _ _, rfl⟩
  case round =>
    obtain ⟨k, hgk, hki, hk, rfl, g, hd⟩ := hrel
    have Hg := hide g
    have Hd := hide hd
    clear g hd
    have V := (unhide HV).grown (unhide Hg)
    have c0 := V.c0
    have c2 := V.c2
    have HV2 := hide V
    have i1 : (0 : Int) ≤ (k : Int) := by omega
    clear V
    by_cases hkn : k < n
    · have T := (unhide HT).grown (unhide Hg)
      have HT2 := hide T
      have i2 : (k : Int) < (n : Int) := by omega
      have i3 : (0 : Int) ≤ (i : Int) := by omega
      have i4 : (i : Int) < (n : Int) := by omega
      have hup : n - k = (n - (k + 1)) + 1 := by omega
      clear T
      cases hmt : mt f u i k with
      | false =>
        go_wp2_with (go_at_call 8; refine (meet_walk (unhide HT2) hi hkn).mono ?_; rintro e w1 ⟨rfl, m, rfl⟩; rw [hmt])
        go_roundg (n - (k + 1) + 1)
        case measure => omega
        case rel => exact ⟨k + 1, rfl, by omega, by omega, by go_num, (unhide Hg).trans (grown_drewN _ _), by rw [← unhide Hd, hup]; simp [up, hmt]⟩
      | true =>
        go_upto_region 5 with (go_at_call 8; refine (meet_walk (unhide HT2) hi hkn).mono ?_; rintro e w1 ⟨rfl, m, rfl⟩; rw [hmt])
        apply reg5 (V := (unhide HV2).grown (grown_drewN _ m)) (hi := hi) (hj := hkn) (ki := unhide HK i) (kj := unhide HK k) (b1 := b1) (b4 := b4)
        refine hide ?_
        intro z35 z36 z37 z38 z39 z40 z41 z42 z43 z44 z45 z46 z47 z48 z49 z50 z51 z52 z53 z54 w2 g2
        go_wp2_with fail
        go_ret
        exact ⟨by rw [← unhide Hd, hup]; simp [up, hmt], ((unhide Hg).trans (grown_drewN _ _)).trans g2⟩
    · have hkn' : k = n := by omega
      have i2 : ¬ (k : Int) < (n : Int) := by omega
      have hup : n - k = 0 := by omega
      clear hkn'
      go_wp2_with fail
      go_ret
      exact ⟨by rw [← unhide Hd, hup]; rfl, unhide Hg⟩
end Go.Proofs.Ybulkads
