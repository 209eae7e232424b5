import Derived.Test.YbulkaamClone
namespace Go.Proofs.Ybulkaam
open Go.RowKit

theorem View.get {w : World} {v : Value} {ys : List Value} (h : View w v ys) : ∃ a cap, v = .slice a ys.length cap ∧ ∀ k u, ys[k]? = some u → ∃ b off, a = some ⟨b, off, none⟩ ∧ w.cell? ⟨b, off + k, none⟩ = some u := by
  obtain ⟨ao, cap, rfl, h1, h2⟩ := h
  refine ⟨ao, cap, rfl, fun k u hu => ?_⟩
  have hlt := (List.getElem?_eq_some_iff.1 hu).1
  cases ao with
  | none => have := h1 rfl; omega
  | some x =>
    obtain ⟨u0, hu0⟩ : ∃ u0, ys[0]? = some u0 := ⟨ys[0], by simp⟩
    have hs := h2 x rfl 0 u0 hu0
    have hc := h2 x rfl k u hu
    obtain ⟨b, off, spot⟩ := x
    have hspot : spot = none := by simpa [Addr.add] using World.cell?_spot hs
    subst hspot
    rw [add_off] at hc
    exact ⟨b, off, rfl, hc⟩

def strs (N : List ByteArray) : List Value := N.map Value.string
def ints (Z : List Int) : List Value := Z.map (Value.int .i64)
theorem len_strs (N : List ByteArray) : (strs N).length = N.length := by simp [strs]
theorem len_ints (Z : List Int) : (ints Z).length = Z.length := by simp [ints]
theorem get_strs (N : List ByteArray) (k : Nat) (h : k < N.length) : (strs N)[k]? = some (.string N[k]) := by simp [strs, h]
theorem get_ints (Z : List Int) (k : Nat) (h : k < Z.length) : (ints Z)[k]? = some (.int .i64 Z[k]) := by simp [ints, h]
theorem one_strs (N : List ByteArray) : ∀ u ∈ strs N, u.oneCell' = true := by simp [strs, Value.oneCell']
theorem one_ints (Z : List Int) : ∀ u ∈ ints Z, u.oneCell' = true := by simp [ints, Value.oneCell']

set_option maxRecDepth 100000 in
set_option maxHeartbeats 800000 in
theorem equal_strs {w : World} {v1 v2 : Value} {N : List ByteArray} (ha : View w v1 (strs N)) (hb : View w v2 (strs N)) (hl : N.length ≤ 4096) :
    Calls Yba.prog 13 #[v1, v2] w fun e w' => e = .returned (.bool true) ∧ ∃ n, w' = w.drewN n := by
  obtain ⟨a1, c1, rfl, h1⟩ := ha.get
  obtain ⟨a2, c2, rfl, h2⟩ := hb.get
  rw [len_strs]
  clear ha hb
  go_enter Yba.func13, Yba.ntmps13
  go_wp2
  go_loopw [13] (fun i wr => ∃ k : Nat, k ≤ N.length ∧ i = .int .i64 k ∧ ∃ nq, wr = w.drewN nq) (fun i _ => N.length - (intOf i).toNat)
  case atStart => exact ⟨0, Nat.zero_le _, rfl, 0, rfl⟩
  case round =>
    obtain ⟨k, hk, rfl, nq, rfl⟩ := hrel
    by_cases hlt : k < N.length
    · obtain ⟨b1, o1, rfl, e1⟩ := h1 k _ (get_strs N k hlt)
      obtain ⟨b2, o2, rfl, e2⟩ := h2 k _ (get_strs N k hlt)
      generalize N[k] = z at e1 e2
      clear h1 h2
      have i1 : (0 : Int) ≤ (k : Int) := by omega
      have i2 : (k : Int) < (N.length : Int) := by omega
      go_wp2_with fail
      go_quiet (fail)
      go_wp2
      go_roundw
      case rel => exact ⟨k + 1, by omega, by go_num, _, rfl⟩
      case measure => simp [intOf]; omega
    · clear h1 h2
      go_wp2
      go_ret
      exact ⟨by simp, _, rfl⟩
set_option maxRecDepth 100000 in
set_option maxHeartbeats 800000 in
theorem equal_ints {w : World} {v1 v2 : Value} {N : List Int} (ha : View w v1 (ints N)) (hb : View w v2 (ints N)) (hl : N.length ≤ 4096) :
    Calls Yba.prog 14 #[v1, v2] w fun e w' => e = .returned (.bool true) ∧ ∃ n, w' = w.drewN n := by
  obtain ⟨a1, c1, rfl, h1⟩ := ha.get
  obtain ⟨a2, c2, rfl, h2⟩ := hb.get
  rw [len_ints]
  clear ha hb
  go_enter Yba.func14, Yba.ntmps14
  go_wp2
  go_loopw [13] (fun i wr => ∃ k : Nat, k ≤ N.length ∧ i = .int .i64 k ∧ ∃ nq, wr = w.drewN nq) (fun i _ => N.length - (intOf i).toNat)
  case atStart => exact ⟨0, Nat.zero_le _, rfl, 0, rfl⟩
  case round =>
    obtain ⟨k, hk, rfl, nq, rfl⟩ := hrel
    by_cases hlt : k < N.length
    · obtain ⟨b1, o1, rfl, e1⟩ := h1 k _ (get_ints N k hlt)
      obtain ⟨b2, o2, rfl, e2⟩ := h2 k _ (get_ints N k hlt)
      generalize N[k] = z at e1 e2
      clear h1 h2
      have i1 : (0 : Int) ≤ (k : Int) := by omega
      have i2 : (k : Int) < (N.length : Int) := by omega
      go_wp2_with fail
      go_quiet (fail)
      go_wp2
      go_roundw
      case rel => exact ⟨k + 1, by omega, by go_num, _, rfl⟩
      case measure => simp [intOf]; omega
    · clear h1 h2
      go_wp2
      go_ret
      exact ⟨by simp, _, rfl⟩
end Go.Proofs.Ybulkaam
