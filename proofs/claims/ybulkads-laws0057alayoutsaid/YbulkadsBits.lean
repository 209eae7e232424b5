import Derived.Test.YbulkadsSt
import Derived.Lib.Tables
import Derived.Lib.BitFns
import Derived.Test.YbulkadsPl
namespace Go.Proofs.Ybulkads
open Go.RowKit

theorem wrap_len8 (x : Int) (h0 : 0 ≤ x) (h1 : x ≤ 255) : wrap64 (Lib.len8 x) = (Lib.bitLen x.toNat : Int) := by
  rw [Lib.len8_of x h0 h1]
  have := Lib.bitLen_le8' x h0 h1
  unfold wrap64
  omega

set_option maxRecDepth 100000 in
theorem len8_walk (x : Int) (h0 : 0 ≤ x) (h1 : x ≤ 255) (w : World) : Calls Yba.prog 15 #[.int .u8 x] w fun e w' => e = .returned (.int .i64 (Lib.bitLen x.toNat)) ∧ w' = w := by
  go_enter Yba.func15, Yba.ntmps15
  go_wp2
  go_ret
  refine ⟨?_, rfl⟩
  simp [wrap_len8 x h0 h1]
set_option maxRecDepth 100000 in
theorem lz8_walk (x : Int) (h0 : 0 ≤ x) (h1 : x ≤ 255) (w : World) : Calls Yba.prog 13 #[.int .u8 x] w fun e w' => e = .returned (.int .i64 (8 - Lib.bitLen x.toNat)) ∧ w' = w := by
  have hb := Lib.bitLen_le8' x h0 h1
  go_enter Yba.func13, Yba.ntmps13
  go_wp2_with (go_at_call 15; refine (len8_walk x h0 h1 _).mono ?_; rintro e w1 ⟨rfl, rfl⟩)
  go_ret
  exact ⟨rfl, rfl⟩
set_option maxRecDepth 100000 in
theorem len64_walk (x : Int) (h0 : 0 ≤ x) (h1 : x < 4294967296) (w : World) : Calls Yba.prog 11 #[.int .u64 x] w fun e w' => e = .returned (.int .i64 (Lib.bitLen x.toNat)) ∧ w' = w := by
  have t0 : ¬ (4294967296 : Int) ≤ x := by omega
  by_cases c1 : (65536 : Int) ≤ x
  · by_cases c2 : (256 : Int) ≤ x / 65536
    · have b0 : 0 ≤ x / 65536 / 256 := by omega
      have b1 : x / 65536 / 256 ≤ 255 := by omega
      have e1 := wrap_len8 _ b0 b1
      have e2 := Lib.bitLen_shift24 x.toNat (by omega) (by omega)
      have e3 : (x / 65536 / 256).toNat = x.toNat / 16777216 := by omega
      have e4 := Lib.bitLen_le8' _ b0 b1
      rw [e3] at e1 e4
      go_enter Yba.func11, Yba.ntmps11
      go_wp2
      go_ret
      exact ⟨rfl, rfl⟩
    · have b0 : 0 ≤ x / 65536 := by omega
      have b1 : x / 65536 ≤ 255 := by omega
      have e1 := wrap_len8 _ b0 b1
      have e2 := Lib.bitLen_shift16 x.toNat (by omega) (by omega)
      have e3 : (x / 65536).toNat = x.toNat / 65536 := by omega
      have e4 := Lib.bitLen_le8' _ b0 b1
      rw [e3] at e1 e4
      go_enter Yba.func11, Yba.ntmps11
      go_wp2
      go_ret
      exact ⟨rfl, rfl⟩
  · by_cases c2 : (256 : Int) ≤ x
    · have b0 : 0 ≤ x / 256 := by omega
      have b1 : x / 256 ≤ 255 := by omega
      have e1 := wrap_len8 _ b0 b1
      have e2 := Lib.bitLen_shift8 x.toNat (by omega) (by omega)
      have e3 : (x / 256).toNat = x.toNat / 256 := by omega
      have e4 := Lib.bitLen_le8' _ b0 b1
      rw [e3] at e1 e4
      go_enter Yba.func11, Yba.ntmps11
      go_wp2
      go_ret
      exact ⟨rfl, rfl⟩
    · have b1 : x ≤ 255 := by omega
      have e1 := wrap_len8 _ h0 b1
      have e4 := Lib.bitLen_le8' _ h0 b1
      go_enter Yba.func11, Yba.ntmps11
      go_wp2
      go_ret
      exact ⟨rfl, rfl⟩
set_option maxRecDepth 100000 in
theorem lz64_walk (x : Int) (h0 : 0 ≤ x) (h1 : x < 4294967296) (w : World) : Calls Yba.prog 9 #[.int .u64 x] w fun e w' => e = .returned (.int .i64 (64 - Lib.bitLen x.toNat)) ∧ w' = w := by
  have hb : Lib.bitLen x.toNat ≤ 32 := Lib.bitLenAux_le 64 x.toNat 32 (by omega)
  go_enter Yba.func9, Yba.ntmps9
  go_wp2_with (go_at_call 11; refine (len64_walk x h0 h1 _).mono ?_; rintro e w1 ⟨rfl, rfl⟩)
  go_ret
  exact ⟨rfl, rfl⟩
theorem count_walk (b : Nat) (h0 : 1 ≤ b) (h1 : b ≤ 4) (w : World) : Calls Yba.prog 14 #[.int .i64 b] w fun e w' => e = .returned (.int .i64 ((159 + b) / b : Nat)) ∧ w' = w := by
  have z1 : ((b : Int) == 0) = false := by simp; omega
  have z2 : ¬ (b : Int) = 0 := by omega
  go_enter Yba.func14, Yba.ntmps14
  go_wp2
  go_ret
  refine ⟨?_, rfl⟩
  have e : (160 + (b : Int) - 1) / b = ((159 + b) / b : Nat) := by
    rw [Int.natCast_ediv]; congr 1; omega
  simp [e]
theorem wrap_u32 (n : Int) : IntKind.u32.wrap n = n % 4294967296 := by simp [IntKind.wrap, IntKind.bits, IntKind.signed]
theorem wrap_u8 (n : Int) : IntKind.u8.wrap n = n % 256 := by simp [IntKind.wrap, IntKind.bits, IntKind.signed]
theorem wrap_u64 (n : Int) : IntKind.u64.wrap n = n % 18446744073709551616 := by simp [IntKind.wrap, IntKind.bits, IntKind.signed]
theorem xor32 (a b : Nat) (ha : a < 4294967296) (hb : b < 4294967296) : bits .xor .u32 (a : Int) (b : Int) = ((a ^^^ b : Nat) : Int) := by
  have hx : a ^^^ b < 2 ^ 32 := Nat.xor_lt_two_pow (by omega) (by omega)
  have h1 : (BitVec.ofInt 32 (a : Int)).toNat = a := by
    rw [BitVec.ofInt_natCast, BitVec.toNat_ofNat]; exact Nat.mod_eq_of_lt (by omega)
  have h2 : (BitVec.ofInt 32 (b : Int)).toNat = b := by
    rw [BitVec.ofInt_natCast, BitVec.toNat_ofNat]; exact Nat.mod_eq_of_lt (by omega)
  show IntKind.u32.wrap ((BitVec.ofInt 32 (a : Int) ^^^ BitVec.ofInt 32 (b : Int)).toNat : Int) = _
  rw [BitVec.toNat_xor, h1, h2, wrap_u32]
  omega
theorem xor8 (a b : Nat) (ha : a < 256) (hb : b < 256) : bits .xor .u8 (a : Int) (b : Int) = ((a ^^^ b : Nat) : Int) := by
  have hx : a ^^^ b < 2 ^ 8 := Nat.xor_lt_two_pow (by omega) (by omega)
  have h1 : (BitVec.ofInt 8 (a : Int)).toNat = a := by
    rw [BitVec.ofInt_natCast, BitVec.toNat_ofNat]; exact Nat.mod_eq_of_lt (by omega)
  have h2 : (BitVec.ofInt 8 (b : Int)).toNat = b := by
    rw [BitVec.ofInt_natCast, BitVec.toNat_ofNat]; exact Nat.mod_eq_of_lt (by omega)
  show IntKind.u8.wrap ((BitVec.ofInt 8 (a : Int) ^^^ BitVec.ofInt 8 (b : Int)).toNat : Int) = _
  rw [BitVec.toNat_xor, h1, h2, wrap_u8]
  omega
theorem shared_walk (a c b : Nat) (a1 : a < 4294967296) (c1 : c < 4294967296) (h0 : 1 ≤ b) (h1 : b ≤ 4) (w : World) :
    Calls Yba.prog 6 #[.int .u32 a, .int .u32 c, .int .i64 b] w fun e w' => e = .returned (.int .i64 (shd b a c : Nat)) ∧ w' = w := by
  have z1 : ((b : Int) == 0) = false := by simp; omega
  have z2 : ¬ (b : Int) = 0 := by omega
  have hx := xor32 a c a1 c1
  have hlt : a ^^^ c < 2 ^ 32 := Nat.xor_lt_two_pow (by omega) (by omega)
  have hb : Lib.bitLen (a ^^^ c) ≤ 32 := Lib.bitLenAux_le 64 _ 32 (by omega)
  have hw : IntKind.u64.wrap ((a ^^^ c : Nat) : Int) = ((a ^^^ c : Nat) : Int) := by rw [wrap_u64]; omega
  by_cases e : a = c
  · have e1 : a ^^^ c = 0 := by rw [e]; simp
    have e2 : ((a ^^^ c : Nat) : Int) = 0 := by omega
    rw [e2] at hx
    have He := hide e
    clear e e1 e2 hw hb hlt
    go_enter Yba.func6, Yba.ntmps6
    go_wp2_with fail
    go_ret
    refine ⟨?_, rfl⟩
    have e3 : (160 + (b : Int) - 1) / b = ((159 + b) / b : Nat) := by
      rw [Int.natCast_ediv]; congr 1; omega
    simp [shd, unhide He, e3]
  · have e1 : a ^^^ c ≠ 0 := fun h => e (xor_nil h)
    have hs : shd b a c = (32 - Lib.bitLen (a ^^^ c)) / b := by simp [shd, e]
    have Hs := hide hs
    clear hs
    generalize a ^^^ c = X at hx hlt hb hw e1 Hs
    have e2 : ((X : Int) == 0) = false := by simp; omega
    have e4 : ¬ X = 0 := e1
    go_enter Yba.func6, Yba.ntmps6
    go_wp2_with (go_at_call 9; refine (lz64_walk X (by omega) (by omega) _).mono ?_; rintro e w1 ⟨rfl, rfl⟩)
    go_ret
    refine ⟨?_, rfl⟩
    have e3 : (64 - (Lib.bitLen X : Int) - 32) / b = (shd b a c : Nat) := by
      rw [unhide Hs, Int.natCast_ediv]; congr 1; omega
    simp [e3]
theorem meets_walk (k f u h k' f' u' h' : Int) (w : World) :
    Calls Yba.prog 5 #[.agg #[.int .u32 k, .int .u64 f, .int .u64 u, .int .u8 h], .agg #[.int .u32 k', .int .u64 f', .int .u64 u', .int .u8 h']] w fun e w' => e = .returned (.bool (decide (f < u') && decide (f' < u))) ∧ w.grownBy w' none := by
  by_cases h1 : f < u'
  · go_enter Yba.func5, Yba.ntmps5
    go_wp2
    go_ret
    exact ⟨by simp [h1], (World.grownBy_alloc w _ none).trans (World.grownBy_alloc _ _ none)⟩
  · go_enter Yba.func5, Yba.ntmps5
    go_wp2
    go_ret
    exact ⟨by simp; omega, (World.grownBy_alloc w _ none).trans (World.grownBy_alloc _ _ none)⟩
end Go.Proofs.Ybulkads
