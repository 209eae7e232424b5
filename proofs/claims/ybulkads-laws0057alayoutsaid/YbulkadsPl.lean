import Derived.Lib.BitFns
namespace Go.Proofs.Ybulkads
/-- byte i of a key -/
def bt (a i : Nat) : Nat := if i < 4 then a / 2 ^ (24 - 8 * i) % 256 else 0
/-- the digits that two keys share -/
def shd (b a c : Nat) : Nat := if a = c then (159 + b) / b else (32 - Lib.bitLen (a ^^^ c)) / b

theorem bt_lt (a i : Nat) : bt a i < 256 := by unfold bt; split <;> omega
theorem bt_eq {a c : Nat} (ha : a < 4294967296) (hc : c < 4294967296) (h : ∀ j, j < 4 → bt a j = bt c j) : a = c := by
  have h0 := h 0 (by omega)
  have h1 := h 1 (by omega)
  have h2 := h 2 (by omega)
  have h3 := h 3 (by omega)
  simp [bt] at h0 h1 h2 h3
  omega
theorem xor_low {x y : Nat} (h : x / 256 = y / 256) : x ^^^ y = (x % 256) ^^^ (y % 256) := by
  have h1 : (x ^^^ y) / 256 = 0 := by
    have := Nat.xor_div_two_pow (a := x) (b := y) (n := 8)
    rw [show (2 ^ 8 : Nat) = 256 from rfl, h] at this
    rw [this, Nat.xor_self]
  have h2 := Nat.xor_mod_two_pow (a := x) (b := y) (n := 8)
  rw [show (2 ^ 8 : Nat) = 256 from rfl] at h2
  omega
theorem xor_nil {x y : Nat} (e : x ^^^ y = 0) : x = y := by
  have := congrArg (· ^^^ y) e
  simpa [Nat.xor_assoc] using this
theorem diff_at {a c : Nat} (s : Nat) (ha : a < 4294967296) (hc : c < 4294967296) (hhi : a / 2 ^ s / 256 = c / 2 ^ s / 256) (hne : a / 2 ^ s % 256 ≠ c / 2 ^ s % 256) :
    Lib.bitLen (a ^^^ c) = s + Lib.bitLen ((a / 2 ^ s % 256) ^^^ (c / 2 ^ s % 256)) := by
  have hx : a ^^^ c < 2 ^ 32 := Nat.xor_lt_two_pow (by omega) (by omega)
  have hd := Nat.xor_div_two_pow (a := a) (b := c) (n := s)
  rw [← xor_low hhi, ← hd]
  have hnz : (a ^^^ c) / 2 ^ s ≠ 0 := by
    rw [hd, xor_low hhi]
    intro e
    exact hne (xor_nil e)
  refine Lib.bitLen_shift s _ ?_ (by omega)
  have hp : 0 < 2 ^ s := Nat.two_pow_pos s
  exact Nat.le_of_not_lt (fun h => hnz (Nat.div_eq_of_lt h))
theorem first_diff {a c : Nat} {i : Nat} (hi : i < 4) (ha : a < 4294967296) (hc : c < 4294967296) (he : ∀ j, j < i → bt a j = bt c j) (hne : bt a i ≠ bt c i) :
    a ≠ c ∧ Lib.bitLen (a ^^^ c) = (24 - 8 * i) + Lib.bitLen (bt a i ^^^ bt c i) := by
  refine ⟨fun e => hne (by rw [e]), ?_⟩
  have e0 : 0 < i → bt a 0 = bt c 0 := fun h => he 0 h
  have e1 : 1 < i → bt a 1 = bt c 1 := fun h => he 1 h
  have e2 : 2 < i → bt a 2 = bt c 2 := fun h => he 2 h
  simp only [bt, hi, if_true] at hne ⊢
  refine diff_at (24 - 8 * i) ha hc ?_ hne
  match i, hi with
  | 0, _ => simp; omega
  | 1, _ => have := e0 (by omega); simp [bt] at this ⊢; omega
  | 2, _ => have := e0 (by omega); have := e1 (by omega); simp [bt] at *; omega
  | 3, _ => have := e0 (by omega); have := e1 (by omega); have := e2 (by omega); simp [bt] at *; omega
end Go.Proofs.Ybulkads
