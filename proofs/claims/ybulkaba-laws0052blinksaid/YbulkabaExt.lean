import Derived.Test.YbulkabaMem
namespace Go.Proofs.Ybulkaba
open Go.RowKit

theorem IntsAt.get {w v zs} (h : IntsAt w v zs) : ∃ a cap, v = .slice a zs.length cap ∧ ∀ k, k < zs.length → ∃ b off, a = some ⟨b, off, none⟩ ∧ w.cell? ⟨b, off + k, none⟩ = some (.int .i64 (zs.getD k 0)) := by
  obtain ⟨a, cap, rfl, h1, h2⟩ := h
  refine ⟨a, cap, rfl, fun k hk => ?_⟩
  cases a with
  | none => have := (h1 rfl).1; omega
  | some x =>
    have hc := h2 x rfl k hk
    obtain ⟨b, off, spot⟩ := x
    have hs := h2 _ rfl 0 (by omega)
    have hspot : spot = none := by simpa [Addr.add] using World.cell?_spot hs
    subst hspot
    rw [add_off] at hc
    exact ⟨b, off, rfl, hc⟩

set_option maxRecDepth 100000 in
set_option maxHeartbeats 800000 in
theorem ext_true (w : World) (o g : Value) (zs : List Int) (ex : Bool) (v : Int) (ho : IntsAt w o zs) (hg : IntsAt w g (zs ++ if ex then [v] else [])) (hn : zs.length ≤ 1024) :
    Calls Yba.prog 11 #[o, .bool ex, .int .i64 v, g] w fun e w' => e = .returned (.bool true) ∧ ∃ n, w' = w.drewN n := by
  obtain ⟨a1, c1, rfl, h1⟩ := ho.get
  obtain ⟨a2, c2, rfl, h2⟩ := hg.get
  clear ho hg
  cases ex with
  | true =>
    simp only [if_true, List.length_append, List.length_cons, List.length_nil, Nat.zero_add] at h2 ⊢
    go_enter Yba.func11, Yba.ntmps11
    go_wp2
    go_loopw [10] (fun i wr => ∃ k : Nat, k ≤ zs.length ∧ i = .int .i64 k ∧ ∃ nq, wr = w.drewN nq) (fun i _ => zs.length - (intOf i).toNat)
    case atStart => exact ⟨0, Nat.zero_le _, rfl, 0, rfl⟩
    case round =>
      obtain ⟨k, hk, rfl, nq, rfl⟩ := hrel
      by_cases hlt : k < zs.length
      · obtain ⟨b1, o1, rfl, e1⟩ := h1 k hlt
        obtain ⟨b2, o2, rfl, e2⟩ := h2 k (by omega)
        have e4 : (zs ++ [v]).getD k 0 = zs.getD k 0 := by simp [List.getD, List.getElem?_append_left hlt]
        rw [e4] at e2
        clear e4
        generalize zs.getD k 0 = z at e1 e2
        clear h1 h2
        have i1 : (0 : Int) ≤ (k : Int) := by omega
        have i2 : (k : Int) < (zs.length : Int) := by omega
        have i3 : (k : Int) < ((zs.length + 1 : Nat) : Int) := by omega
        go_wp2_with fail
        go_quiet (fail)
        go_wp2
        go_roundw
        case rel => exact ⟨k + 1, by omega, by go_num, _, rfl⟩
        case measure => simp [intOf]; omega
      · obtain ⟨b2, o2, rfl, e2⟩ := h2 zs.length (by omega)
        have e3 : (zs ++ [v]).getD zs.length 0 = v := by simp
        rw [e3] at e2
        clear h1 h2 e3
        obtain rfl : k = zs.length := by omega
        have i3 : (zs.length : Int) < ((zs.length + 1 : Nat) : Int) := by omega
        go_wp2
        go_ret
        exact ⟨by simp, _, rfl⟩
  | false =>
    simp only [Bool.false_eq_true, if_false, List.append_nil] at h2 ⊢
    go_enter Yba.func11, Yba.ntmps11
    go_wp2
    go_loopw [10] (fun i wr => ∃ k : Nat, k ≤ zs.length ∧ i = .int .i64 k ∧ ∃ nq, wr = w.drewN nq) (fun i _ => zs.length - (intOf i).toNat)
    case atStart => exact ⟨0, Nat.zero_le _, rfl, 0, rfl⟩
    case round =>
      obtain ⟨k, hk, rfl, nq, rfl⟩ := hrel
      by_cases hlt : k < zs.length
      · obtain ⟨b1, o1, rfl, e1⟩ := h1 k hlt
        obtain ⟨b2, o2, rfl, e2⟩ := h2 k (by omega)
        generalize zs.getD k 0 = z at e1 e2
        clear h1 h2
        have i1 : (0 : Int) ≤ (k : Int) := by omega
        have i2 : (k : Int) < (zs.length : Int) := by omega
        go_wp2_with fail
        go_quiet (fail)
        go_wp2
        go_roundw
        case rel => exact ⟨k + 1, by omega, by go_num, _, rfl⟩
        case measure => simp [intOf]; omega
      · clear h1 h2
        go_wp2
        go_ret
        exact ⟨by simp, _, rfl⟩
end Go.Proofs.Ybulkaba
