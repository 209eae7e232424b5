import Derived.Test.YbulkacqSt
namespace Go.Proofs.Ybulkacq
open Go.RowKit

/-- one round of the mixing -/
def mixA (z : Int) : Int := IntKind.u64.wrap (bits BinOp.xor IntKind.u64 z (z / 1073741824) * 13787848793156543929)
def mixB (z : Int) : Int := IntKind.u64.wrap (bits BinOp.xor IntKind.u64 z (z / 134217728) * 10723151780598845931)
def mix (z : Int) : Int := bits BinOp.xor IntKind.u64 (mixB (mixA z)) (mixB (mixA z) / 2147483648)
def gold (z : Int) : Int := IntKind.u64.wrap (z + 11400714819323198485)
def five (z : Int) : Int := IntKind.u64.wrap (z + 5)

theorem mix_walk (z : Int) (w : World) : Calls Yba.prog 9 #[.int .u64 z] w fun e w' => e = .returned (.int .u64 (mix z)) ∧ w' = w := by
  go_enter Yba.func9, Yba.ntmps9
  go_wp2
  go_ret
  exact ⟨rfl, rfl⟩

theorem next_walk {st ah : Int} (b : Nat) (w : World) (c0 : w.cell? ⟨b, 0, none⟩ = some (.int .u64 st)) (c1 : w.cell? ⟨b, 1, none⟩ = some (.int .u64 ah)) (f : ∀ i, w.frozen? ⟨b, i, none⟩ = false) :
    Calls Yba.prog 12 #[.pointer (some ⟨b, 0, none⟩)] w fun e w' => e = .returned (.int .u64 ah) ∧ w' = (w.setCell ⟨b, 0, none⟩ (.int .u64 (gold st))).setCell ⟨b, 1, none⟩ (.int .u64 (mix (gold st))) := by
  have f0 := f 0
  have f1 := f 1
  clear f
  go_enter Yba.func12, Yba.ntmps12
  go_wp2_with (go_at_call 9; refine (mix_walk _ _).mono ?_; rintro e w1 ⟨rfl, rfl⟩)
  go_ret
  exact ⟨rfl, rfl⟩

theorem split_walk (s : Int) (w : World) :
    Calls Yba.prog 11 #[.int .u64 s] w fun e w' => e = .returned (.pointer (some ⟨w.heap.size, 0, none⟩)) ∧ w'.cell? ⟨w.heap.size, 0, none⟩ = some (.int .u64 (gold s)) ∧ w'.cell? ⟨w.heap.size, 1, none⟩ = some (.int .u64 (mix (gold s))) ∧ w.grownBy w' none := by
  go_enter Yba.func11, Yba.ntmps11
  go_wp2_with (go_at_call 12; refine (next_walk (st := s) (ah := 0) _ _ (by simp) (by simp) (by simp)).mono ?_; rintro e w1 ⟨rfl, rfl⟩)
  go_ret
  exact ⟨rfl, by simp, by simp, World.grownBy_alloc w _ none⟩

def start (seed : Int) : Int := gold (mix (five (mix seed)))

theorem stream_walk (s : Int) (w : World) :
    Calls Yba.prog 10 #[.int .u64 s, .int .u64 5] w fun e w' => e = .returned (.pointer (some ⟨w.heap.size, 0, none⟩)) ∧ w'.cell? ⟨w.heap.size, 0, none⟩ = some (.int .u64 (start s)) ∧ w'.cell? ⟨w.heap.size, 1, none⟩ = some (.int .u64 (mix (start s))) ∧ w.grownBy w' none := by
  go_enter Yba.func10, Yba.ntmps10
  go_wp2_with (first | (go_at_call 9; refine (mix_walk _ _).mono ?_; rintro e w1 ⟨rfl, rfl⟩) | (go_at_call 11; refine (split_walk _ _).mono ?_; rintro e w1 ⟨rfl, h0, h1, h2⟩))
  go_ret
  exact ⟨rfl, h0, h1, h2⟩

theorem same_walk (r f r' f' : Int) (l t m l' t' m' : Value) (w : World) :
    Calls Yba.prog 8 #[.agg #[l, .int .i64 r, .int .i64 f, t, m], .agg #[l', .int .i64 r', .int .i64 f', t', m']] w fun e w' => e = .returned (.bool (decide (r = r' ∧ f = f'))) ∧ w.grownBy w' none := by
  go_enter Yba.func8, Yba.ntmps8
  go_wp2
  all_goals go_ret
  all_goals exact ⟨by simp_all [Bool.beq_eq_decide_eq], (World.grownBy_alloc w _ none).trans (World.grownBy_alloc _ _ none)⟩
end Go.Proofs.Ybulkacq
