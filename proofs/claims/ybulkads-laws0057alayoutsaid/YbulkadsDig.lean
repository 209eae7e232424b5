import Derived.Test.YbulkadsBits
namespace Go.Proofs.Ybulkads
open Go.RowKit

/-- the cells of an identifier whose key is a -/
def idl (a : Nat) : List Value := (List.range 20).map fun i => Value.int .u8 (bt a i)
theorem idl_len (a : Nat) : (idl a).length = 20 := by simp [idl]
theorem idl_get (a i : Nat) (h : i < 20) : (idl a)[i]? = some (.int .u8 (bt a i)) := by simp [idl, h]
def idc (a : Nat) : Array Value := (idl a).toArray
theorem idc_get (a i : Nat) (h : i < 20) : (idc a)[i]? = some (.int .u8 (bt a i)) := by
  simp [idc, idl_get a i h]

/-- the two identifiers lie at p and q -/
structure Two (w wr : World) (a c p q : Nat) : Prop where
  g : w.grownBy wr none
  ha : ∀ i, i < 20 → wr.cell? ⟨p, i, none⟩ = some (.int .u8 (bt a i))
  hc : ∀ i, i < 20 → wr.cell? ⟨q, i, none⟩ = some (.int .u8 (bt c i))
theorem Two.start (w : World) (a c : Nat) : Two w ((w.alloc (.cells (idc a) 32)).alloc (.cells (idc c) 32)) a c w.heap.size (w.heap.size + 1) := by
  refine ⟨(World.grownBy_alloc w _ none).trans (World.grownBy_alloc _ _ none), fun i hi => ?_, fun i hi => ?_⟩
  · have h : (w.alloc (.cells (idc a) 32)).cell? ⟨w.heap.size, i, none⟩ = some (.int .u8 (bt a i)) := by simp [go_sem, idc_get a i hi]
    exact (World.grownBy_alloc _ _ none).cell h (by simp)
  · have h : ((w.alloc (.cells (idc a) 32)).alloc (.cells (idc c) 32)).cell? ⟨(w.alloc (.cells (idc a) 32)).heap.size, i, none⟩ = some (.int .u8 (bt c i)) := by simp [go_sem, idc_get c i hi]
    simpa using h
theorem Two.drewN {w wr : World} {a c p q : Nat} (h : Two w wr a c p q) (n : Nat) : Two w (wr.drewN n) a c p q :=
  ⟨h.g.trans (grown_drewN wr n), fun i hi => h.ha i hi, fun i hi => h.hc i hi⟩

theorem dig_end {a c k b : Nat} (a1 : a < 4294967296) (c1 : c < 4294967296) (he : ∀ j, j < k → bt a j = bt c j) (hne : bt a k ≠ bt c k) :
    shd b a c = (8 * k + (8 - Lib.bitLen (bt a k ^^^ bt c k))) / b ∧ Lib.bitLen (bt a k ^^^ bt c k) ≤ 8 ∧ k < 4 := by
  have hk : k < 4 := by
    refine Nat.lt_of_not_le (fun h => hne ?_)
    simp [bt, show ¬ k < 4 by omega]
  obtain ⟨h1, h2⟩ := first_diff hk a1 c1 he hne
  have hx : bt a k ^^^ bt c k < 2 ^ 8 := Nat.xor_lt_two_pow (bt_lt a k) (bt_lt c k)
  have hb : Lib.bitLen (bt a k ^^^ bt c k) ≤ 8 := Lib.bitLenAux_le 64 _ 8 hx
  refine ⟨?_, hb, hk⟩
  simp only [shd, h1, if_false, h2]
  congr 1
  omega

set_option maxRecDepth 100000 in
set_option maxHeartbeats 1600000 in
theorem digits_walk (a c b : Nat) (a1 : a < 4294967296) (c1 : c < 4294967296) (h0 : 1 ≤ b) (h1 : b ≤ 4) (w : World) :
    Calls Yba.prog 12 #[.agg (idc a), .agg (idc c), .int .i64 b] w fun e w' => e = .returned (.int .i64 (shd b a c : Nat)) ∧ w.grownBy w' none := by
  have z1 : ((b : Int) == 0) = false := by simp; omega
  have z2 : ¬ (b : Int) = 0 := by omega
  go_enter Yba.func12, Yba.ntmps12
  go_wp2_with fail
  go_loopg [9] 20 (fun g i wr => ∃ k : Nat, g = 20 - k ∧ k ≤ 20 ∧ i = .int .i64 k ∧ Two w wr a c w.heap.size (w.heap.size + 1) ∧ ∀ j, j < k → bt a j = bt c j)
  case atStart => exact ⟨0, by omega, by omega, rfl, Two.start w a c, fun j hj => by omega⟩
  case round =>
    obtain ⟨k, hgk, hk, rfl, T, he⟩ := hrel
    by_cases hlt : k < 20
    · have ca := T.ha k hlt
      have cc := T.hc k hlt
      have i1 : (0 : Int) ≤ (k : Int) := by omega
      have i2 : (k : Int) < 20 := by omega
      have HT := hide T
      have He := hide he
      have hx := xor8 (bt a k) (bt c k) (bt_lt a k) (bt_lt c k)
      clear T he
      by_cases e : bt a k = bt c k
      · have e1 : ((bt a k ^^^ bt c k : Nat) : Int) = 0 := by rw [e]; simp
        rw [e1] at hx
        have Hee := hide e
        clear e e1
        go_upto_region 4 with fail
        go_quiet (fail)
        go_wp2_with fail
        go_roundg (20 - (k + 1))
        case measure => omega
        case rel => exact ⟨k + 1, rfl, by omega, by go_num, (unhide HT).drewN _, fun j hj => by
          rcases Nat.lt_succ_iff_lt_or_eq.1 hj with h | h
          · exact unhide He j h
          · subst h; exact unhide Hee⟩
      · obtain ⟨e1, e2, e3⟩ := dig_end (b := b) a1 c1 (unhide He) e
        have e4 : bt a k ^^^ bt c k ≠ 0 := fun h => e (xor_nil h)
        have hxl : bt a k ^^^ bt c k < 256 := Nat.xor_lt_two_pow (n := 8) (bt_lt a k) (bt_lt c k)
        have He1 := hide e1
        clear e e1
        generalize bt a k ^^^ bt c k = X at hx e2 e4 hxl He1
        have e5 : ((X : Int) == 0) = false := by simp; omega
        have e6 : ((X : Int) != 0) = true := by simp; omega
        go_upto_region 4 with fail
        go_quiet (fail)
        go_wp2_with (go_at_call 13; refine (lz8_walk X (by omega) (by omega) _).mono ?_; rintro e w1 ⟨rfl, rfl⟩)
        go_ret
        have e7 : (8 * (k : Int) + (8 - (Lib.bitLen X : Int))) / b = (shd b a c : Nat) := by
          rw [unhide He1, Int.natCast_ediv]; congr 1; omega
        exact ⟨by simp [e7], ((unhide HT).drewN _).g⟩
    · have hac := bt_eq a1 c1 (fun j hj => he j (by omega))
      have hs : shd b a c = (159 + b) / b := by simp [shd, hac]
      have Hs := hide hs
      have Hg := hide T.g
      clear T he hac hs
      go_wp2_with (go_at_call 14; refine (count_walk b h0 h1 _).mono ?_; rintro e w1 ⟨rfl, rfl⟩)
      go_ret
      exact ⟨by rw [unhide Hs]; rfl, unhide Hg⟩
end Go.Proofs.Ybulkads
