import Derived.Test.YbulkacqNamed
namespace Go.Proofs.Ybulkacq
open Go.RowKit

/-- the cells of the Settings that the law makes -/
abbrev S33 (alg : ByteArray) (own : Value) (n t seed : Int) : Array Value :=
  #[.string alg, own, .map none, .string ⟨#[]⟩, .int .i64 n, .int .i64 t, .int .i64 0, .bool false, .slice none 0 0, .int .i64 0, .int .i64 0, .int .i64 0, .int .i64 0, .slice none 0 0, .bool false, .bool false, .int .i64 0, .pointer none, .slice none 0 0, .bool false, .slice none 0 0, .string ⟨#[]⟩, .slice none 0 0, .int .u64 seed]

theorem neq_same (a : Addr) (w : World) : (binOp .neq 24 (.iface 34 (.pointer (some a))) (.iface 34 (.pointer (some a)))).run Yba.prog w = .ok (.bool false) w := by
  have h34 : (Yba.prog.info? 34).map (·.comparable) = some true := by kernel_rfl
  have h36 : (Yba.prog.info? 36).isSome = true := by kernel_rfl
  obtain ⟨i, hi, hc⟩ := Option.map_eq_some_iff.1 h34
  obtain ⟨j, hj⟩ := Option.isSome_iff_exists.1 h36
  simp only [binOp]
  simp [Op.equal, Op.maxDepth, run_equalIn_iface_ptr_same w 9998 a Yba.underlying24 Yba.underlying34 hi hc hj]

theorem one33 (alg : ByteArray) (own : Value) (n t seed : Int) (h : own.oneCell' = true) : (S33 alg own n t seed).all (·.oneCell') = true := by
  cases own <;> simp_all [S33, Value.oneCell']

set_option maxRecDepth 100000 in
set_option maxHeartbeats 800000 in
theorem walkF (a1 a2 : ByteArray) (a3 a4 a5 : Int) (w : World) :
    Calls Yba.prog 3 #[.bool false, .string a1, .string a2, .int .i64 a3, .int .i64 a4, .int .u64 a5] w fun e w' => e = .returned (.bool true) ∧ Below w.heap.size w w' := by
  go_enter Yba.func3, Yba.ntmps3
  go_wp2_with (first
    | (refine wpList_load_row rfl 33 _ rfl w.heap.size rfl 33 (S33 a2 .nilIface a3 a4 a5) (0, 0) _ (heap_alloc2_old w _ _) Yba.underlying33 rfl info33 ?_))
  refine (named_nil (S33 a2 .nilIface a3 a4 a5) rfl rfl (one33 _ _ _ _ _ rfl) _).mono ?_
  rintro e w1 ⟨rfl, hw1⟩
  have hbel : Hid (Below w.heap.size w w1) := by
    rw [hw1]
    exact ((((Below.refl _ w).alloc (Nat.le_refl _) _).alloc (by simp) _).alloc (by simp; omega) _).alloc (by simp; omega) _
  have hsz : w.heap.size + 1 < w1.heap.size := by rw [hw1]; simp
  have hcl : w1.cell? ⟨w.heap.size + 1, 1, none⟩ = some (.int .i64 0) := by rw [hw1]; simp [go_sem]
  clear hw1
  have hset : Hid (∀ c c', (w1.alloc (.cells c 33)).setRow w1.heap.size c' = w1.alloc (.cells c' 33)) := fun c c' => World.setRow_alloc_new w1 c c' 33
  go_wp2_with (first
    | (refine wpList_store_row rfl 33 _ _ rfl w1.heap.size (S33 a2 .nilIface a3 a4 a5) rfl rfl 33 _ (heap_alloc_new w1 _) info33 rfl (one33 _ _ _ _ _ rfl) ?_; rw [hset.out]))
  go_ret
  exact ⟨by simp, hbel.out.alloc (by omega) _⟩

set_option maxRecDepth 100000 in
set_option maxHeartbeats 800000 in
theorem walkK (a1 a2 : ByteArray) (a3 a4 a5 : Int) (hne : a2.toList.isEmpty = false) (w : World) :
    Calls Yba.prog 3 #[.bool true, .string a1, .string a2, .int .i64 a3, .int .i64 a4, .int .u64 a5] w fun e w' => e = .returned (.bool true) ∧ Below w.heap.size w w' := by
  have hneq := neq_same
  go_enter Yba.func3, Yba.ntmps3
  go_wp2_with (first
    | (refine wpList_load_row rfl 33 _ rfl w.heap.size rfl 33 (S33 a2 (.iface 34 (.pointer (some ⟨w.heap.size + 1, 0, none⟩))) a3 a4 a5) (0, 0) _ (heap_alloc2_old w _ _) Yba.underlying33 rfl info33 ?_))
  refine (named_keep (S33 a2 (.iface 34 (.pointer (some ⟨w.heap.size + 1, 0, none⟩))) a3 a4 a5) ⟨w.heap.size + 1, 0, none⟩ a2 rfl rfl rfl hne (one33 _ _ _ _ _ rfl) _).mono ?_
  rintro e w1 ⟨rfl, hw1⟩
  have hbel : Hid (Below w.heap.size w w1) := by
    rw [hw1]
    exact ((((Below.refl _ w).alloc (Nat.le_refl _) _).alloc (by simp) _).alloc (by simp; omega) _).alloc (by simp; omega) _
  have hsz : w.heap.size + 1 < w1.heap.size := by rw [hw1]; simp
  have hcl : w1.cell? ⟨w.heap.size + 1, 1, none⟩ = some (.int .i64 0) := by rw [hw1]; simp [go_sem]
  clear hw1
  have hset : Hid (∀ c c', (w1.alloc (.cells c 33)).setRow w1.heap.size c' = w1.alloc (.cells c' 33)) := fun c c' => World.setRow_alloc_new w1 c c' 33
  go_wp2_with (first
    | (refine wpList_store_row rfl 33 _ _ rfl w1.heap.size (S33 a2 (.iface 34 (.pointer (some ⟨w.heap.size + 1, 0, none⟩))) a3 a4 a5) rfl rfl 33 _ (heap_alloc_new w1 _) info33 rfl (one33 _ _ _ _ _ rfl) ?_; rw [hset.out]))
  go_ret
  exact ⟨by simp, hbel.out.alloc (by omega) _⟩

set_option maxRecDepth 100000 in
set_option maxHeartbeats 800000 in
theorem walkE (a1 a2 : ByteArray) (a3 a4 a5 : Int) (hne : a2.toList.isEmpty = true) (w : World) :
    Calls Yba.prog 3 #[.bool true, .string a1, .string a2, .int .i64 a3, .int .i64 a4, .int .u64 a5] w fun e w' => e = .returned (.bool true) ∧ Below w.heap.size w w' := by
  have hneq := neq_same
  go_enter Yba.func3, Yba.ntmps3
  go_wp2_with (first
    | (refine wpList_load_row rfl 33 _ rfl w.heap.size rfl 33 (S33 a2 (.iface 34 (.pointer (some ⟨w.heap.size + 1, 0, none⟩))) a3 a4 a5) (0, 0) _ (heap_alloc2_old w _ _) Yba.underlying33 rfl info33 ?_))
  refine (named_fill (S33 a2 (.iface 34 (.pointer (some ⟨w.heap.size + 1, 0, none⟩))) a3 a4 a5) (w.heap.size + 1) a2 a1 rfl rfl rfl hne (one33 _ _ _ _ _ rfl) _ (by simp [go_sem]) (by simp [go_sem]) (by simp [go_sem]) (by simp)).mono ?_
  rintro e w1 ⟨rfl, hw1⟩
  have hbel : Hid (Below w.heap.size w w1) := by
    rw [hw1]
    exact (((((Below.refl _ w).alloc (Nat.le_refl _) _).alloc (by simp) _).setCell (by simp) _).alloc (by simp; omega) _).alloc (by simp; omega) _
  have hsz : w.heap.size + 1 < w1.heap.size := by rw [hw1]; simp
  have hcl : w1.cell? ⟨w.heap.size + 1, 1, none⟩ = some (.int .i64 1) := by rw [hw1]; simp [go_sem]
  clear hw1
  have hset : Hid (∀ c c', (w1.alloc (.cells c 33)).setRow w1.heap.size c' = w1.alloc (.cells c' 33)) := fun c c' => World.setRow_alloc_new w1 c c' 33
  go_wp2_with (first
    | (refine wpList_store_row rfl 33 _ _ rfl w1.heap.size (S33 a1 (.iface 34 (.pointer (some ⟨w.heap.size + 1, 0, none⟩))) a3 a4 a5) rfl rfl 33 _ (heap_alloc_new w1 _) info33 rfl (one33 _ _ _ _ _ rfl) ?_; rw [hset.out]))
  go_ret
  exact ⟨by simp, hbel.out.alloc (by omega) _⟩

theorem anamed_walk (a0 : Bool) (a1 a2 : ByteArray) (a3 a4 a5 : Int) (w : World) :
    Calls Yba.prog 3 #[.bool a0, .string a1, .string a2, .int .i64 a3, .int .i64 a4, .int .u64 a5] w fun e w' => e = .returned (.bool true) ∧ Below w.heap.size w w' := by
  cases a0
  · exact walkF a1 a2 a3 a4 a5 w
  · by_cases h : a2.toList.isEmpty = true
    · exact walkE a1 a2 a3 a4 a5 h w
    · exact walkK a1 a2 a3 a4 a5 (by simpa using h) w
end Go.Proofs.Ybulkacq
