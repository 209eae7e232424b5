import Derived.Test.YbulkadsDig
import Derived.Deep.RegionHeld3
namespace Go.Proofs.Ybulkads
open Go.RowKit

/-- do the spans of i and j overlap -/
def mt (f u : Nat → Int) (i j : Nat) : Bool := decide (f i < u j) && decide (f j < u i)

/-- the identities' spans lie at be, the closure's variable at bx -/
structure Tm (be bx n : Nat) (f u : Nat → Int) (w : World) : Prop where
  box : w.cell? ⟨bx, 0, none⟩ = some (.slice (some ⟨be, 0, none⟩) n n)
  hf : ∀ i, i < n → w.cell? ⟨be, i * 24 + 22, none⟩ = some (.int .u64 (f i))
  hu : ∀ i, i < n → w.cell? ⟨be, i * 24 + 23, none⟩ = some (.int .u64 (u i))
theorem Tm.grown {be bx n : Nat} {f u : Nat → Int} {w w' : World} (h : Tm be bx n f u w) (g : w.grownBy w' none) : Tm be bx n f u w' :=
  ⟨g.cell h.box (by simp), fun i hi => g.cell (h.hf i hi) (by simp), fun i hi => g.cell (h.hu i hi) (by simp)⟩

set_option maxRecDepth 100000 in
theorem meet_walk {be bx n : Nat} {f u : Nat → Int} {w : World} (T : Tm be bx n f u w) {i j : Nat} (hi : i < n) (hj : j < n) :
    Calls Yba.prog 8 #[.int .i64 i, .int .i64 j, .pointer (some ⟨bx, 0, none⟩)] w fun e w' => e = .returned (.bool (mt f u i j)) ∧ ∃ m, w' = w.drewN m := by
  have c0 := T.box
  have c1 := T.hf i hi
  have c2 := T.hf j hj
  have c3 := T.hu i hi
  have c4 := T.hu j hj
  have i1 : (0 : Int) ≤ (i : Int) := by omega
  have i2 : (i : Int) < (n : Int) := by omega
  have i3 : (0 : Int) ≤ (j : Int) := by omega
  have i4 : (j : Int) < (n : Int) := by omega
  clear T
  by_cases h1 : f i < u j
  · have h2 : decide (f i < u j) = true := by simpa using h1
    clear h1
    go_enter Yba.func8, Yba.ntmps8
    go_upto_region 1 with fail
    go_quiet (fail)
    go_wp2_with fail
    go_ret
    exact ⟨by simp [mt, h2], _, rfl⟩
  · have h2 : decide (f i < u j) = false := by simpa using h1
    clear h1
    go_enter Yba.func8, Yba.ntmps8
    go_upto_region 1 with fail
    go_quiet (fail)
    go_wp2_with fail
    go_ret
    exact ⟨by simp [mt, h2], _, rfl⟩
/-- the overlay at O: its digit bits, its identifiers -/
structure Ov (O bi b n : Nat) (K : Nat → Nat) (w : World) : Prop where
  c0 : w.cell? ⟨O, 0, none⟩ = some (.int .i64 b)
  c2 : w.cell? ⟨O, 2, none⟩ = some (.slice (some ⟨bi, 0, none⟩) n n)
  ids : ∀ i, i < n → ∀ c, c < 20 → w.cell? ⟨bi, i * 20 + c, none⟩ = some (.int .u8 (bt (K i) c))
theorem Ov.grown {O bi b n : Nat} {K : Nat → Nat} {w w' : World} (h : Ov O bi b n K w) (g : w.grownBy w' none) : Ov O bi b n K w' :=
  ⟨g.cell h.c0 (by simp), g.cell h.c2 (by simp), fun i hi c hc => g.cell (h.ids i hi c hc) (by simp)⟩

theorem Ov.range {O bi b n : Nat} {K : Nat → Nat} {w : World} (h : Ov O bi b n K w) {i : Nat} (hi : i < n) : w.rangeAt bi (i * 20) (idl (K i)) := fun j v hv => by
  have hj : j < 20 := by have := (List.getElem?_eq_some_iff.1 hv).1; rw [idl_len] at this; exact this
  rw [idl_get (K i) j hj] at hv
  rw [← hv]
  exact h.ids i hi j hj
theorem info32 (a : Nat) : (Yba.prog.info? 32).map (·.size) = some (idl a).length := by
  rw [idl_len]; kernel_rfl


set_option maxRecDepth 100000 in
set_option maxHeartbeats 3200000 in
theorem reg5 {O bi b n i j : Nat} {K : Nat → Nat} {w : World} {ps : String} {u2 u3 u4 u5 u6 u7 u8 u10 u11 u12 u13 u14 u15 u16 u17 u18 u19 u20 u21 u22 u23 u24 u25 u26 u27 u28 u29 u30 u31 u32 u33 u34 u35 u36 u37 u38 u39 u40 u41 u42 u43 u44 u45 u46 u47 u48 u49 u50 u51 u52 u53 u54 : Value} {Q : Exit → Act → World → Prop} (V : Ov O bi b n K w) (hi : i < n) (hj : j < n) (ki : K i < 4294967296) (kj : K j < 4294967296) (b1 : 1 ≤ b) (b4 : b ≤ 4)
    (HQ : Hid (∀ z35 z36 z37 z38 z39 z40 z41 z42 z43 z44 z45 z46 z47 z48 z49 z50 z51 z52 z53 z54 w2, w.grownBy w2 none → Q .normal ⟨#[.pointer (some ⟨O, 0, none⟩), .int .i64 i, u2, u3, u4, u5, u6, u7, .int .i64 (shd b (K i) (K j) : Nat), .int .i64 j, u10, u11, u12, u13, u14, u15, u16, u17, u18, u19, u20, u21, u22, u23, u24, u25, u26, u27, u28, u29, u30, u31, u32, u33, u34, z35, z36, z37, z38, z39, z40, z41, z42, z43, z44, z45, z46, z47, z48, z49, z50, z51, z52, z53, z54], []⟩ w2)) :
    Code.wp Yba.prog (Code.region 5 #[{ dst := some 35, op := Op.move (Operand.tmp 0), type := 36, pos := ps, after := #[], guard := none }, { dst := some 36, op := Op.nilCheck (Operand.tmp 35), type := 0, pos := ps, after := #[{ on := 0, ground := Ground.data }], guard := none }, { dst := some 37, op := Op.fieldAddr 46 (Operand.tmp 36) 1, type := 0, pos := ps, after := #[{ on := 1, ground := Ground.data }], guard := none }, { dst := some 38, op := Op.load 23 (Operand.tmp 37), type := 23, pos := ps, after := #[{ on := 2, ground := Ground.data }], guard := none }, { dst := some 39, op := Op.move (Operand.tmp 1), type := 3, pos := ps, after := #[], guard := none }, { dst := some 40, op := Op.indexAddr 23 (Operand.tmp 38) (Operand.tmp 39), type := 0, pos := ps, after := #[{ on := 3, ground := Ground.data }, { on := 4, ground := Ground.data }], guard := none }, { dst := some 41, op := Op.load 32 (Operand.tmp 40), type := 32, pos := ps, after := #[{ on := 5, ground := Ground.data }], guard := none }, { dst := some 42, op := Op.move (Operand.tmp 0), type := 36, pos := ps, after := #[], guard := none }, { dst := some 43, op := Op.nilCheck (Operand.tmp 42), type := 0, pos := ps, after := #[{ on := 7, ground := Ground.data }], guard := none }, { dst := some 44, op := Op.fieldAddr 46 (Operand.tmp 43) 1, type := 0, pos := ps, after := #[{ on := 8, ground := Ground.data }], guard := none }, { dst := some 45, op := Op.load 23 (Operand.tmp 44), type := 23, pos := ps, after := #[{ on := 9, ground := Ground.data }], guard := none }, { dst := some 46, op := Op.move (Operand.tmp 9), type := 3, pos := ps, after := #[], guard := none }, { dst := some 47, op := Op.indexAddr 23 (Operand.tmp 45) (Operand.tmp 46), type := 0, pos := ps, after := #[{ on := 10, ground := Ground.data }, { on := 11, ground := Ground.data }], guard := none }, { dst := some 48, op := Op.load 32 (Operand.tmp 47), type := 32, pos := ps, after := #[{ on := 12, ground := Ground.data }], guard := none }, { dst := some 49, op := Op.move (Operand.tmp 0), type := 36, pos := ps, after := #[], guard := none }, { dst := some 50, op := Op.nilCheck (Operand.tmp 49), type := 0, pos := ps, after := #[{ on := 14, ground := Ground.data }], guard := none }, { dst := some 51, op := Op.fieldAddr 46 (Operand.tmp 50) 0, type := 0, pos := ps, after := #[{ on := 15, ground := Ground.data }], guard := none }, { dst := some 52, op := Op.fieldAddr 38 (Operand.tmp 51) 0, type := 0, pos := ps, after := #[{ on := 16, ground := Ground.data }], guard := none }, { dst := some 53, op := Op.load 3 (Operand.tmp 52), type := 3, pos := ps, after := #[{ on := 17, ground := Ground.data }], guard := none }, { dst := some 54, op := Op.call { callee := Callee.value (Operand.func 12), args := #[Operand.tmp 41, Operand.tmp 48, Operand.tmp 53], argTypes := #[32, 32, 3] }, type := 3, pos := ps, after := #[{ on := 6, ground := Ground.data }, { on := 13, ground := Ground.data }, { on := 18, ground := Ground.data }], guard := none }, { dst := some 8, op := Op.assign (Operand.tmp 54), type := 3, pos := ps, after := #[{ on := 19, ground := Ground.data }, { on := 19, ground := Ground.chain }, { on := 0, ground := Ground.phase }, { on := 1, ground := Ground.phase }, { on := 2, ground := Ground.phase }, { on := 3, ground := Ground.phase }, { on := 4, ground := Ground.phase }, { on := 5, ground := Ground.phase }, { on := 6, ground := Ground.phase }, { on := 7, ground := Ground.phase }, { on := 8, ground := Ground.phase }, { on := 9, ground := Ground.phase }, { on := 10, ground := Ground.phase }, { on := 11, ground := Ground.phase }, { on := 12, ground := Ground.phase }, { on := 13, ground := Ground.phase }, { on := 14, ground := Ground.phase }, { on := 15, ground := Ground.phase }, { on := 16, ground := Ground.phase }, { on := 17, ground := Ground.phase }, { on := 18, ground := Ground.phase }, { on := 19, ground := Ground.phase }], guard := none }] true) Q ⟨#[.pointer (some ⟨O, 0, none⟩), .int .i64 i, u2, u3, u4, u5, u6, u7, u8, .int .i64 j, u10, u11, u12, u13, u14, u15, u16, u17, u18, u19, u20, u21, u22, u23, u24, u25, u26, u27, u28, u29, u30, u31, u32, u33, u34, u35, u36, u37, u38, u39, u40, u41, u42, u43, u44, u45, u46, u47, u48, u49, u50, u51, u52, u53, u54], []⟩ w := by
  have i1 : (0 : Int) ≤ (i : Int) := by omega
  have i2 : (i : Int) < (n : Int) := by omega
  have i3 : (0 : Int) ≤ (j : Int) := by omega
  have i4 : (j : Int) < (n : Int) := by omega
  refine wp_region_noPanic ?_
  refine wp_region_held_drew (S := fun w' => w'.cell? ⟨O, 0, none⟩ = some (.int .i64 b) ∧ w'.cell? ⟨O, 2, none⟩ = some (.slice (some ⟨bi, 0, none⟩) n n) ∧ w'.rangeAt bi (i * 20) (idl (K i)) ∧ w'.rangeAt bi (j * 20) (idl (K j))) (by kernel_rfl) ⟨V.c0, V.c2, V.range hi, V.range hj⟩ (fun hHeld => ?_)
  refine wpAnyH_take (i := 0) (oi := { dst := some 35, op := Op.move (Operand.tmp 0), type := 36, pos := ps, after := #[], guard := none }) (v := ?_) rfl (by kernel_rfl) (by kernel_rfl) (by kernel_rfl) (fun _ _ _ h => h) (Or.inl ⟨by rfl, ?_⟩) (by assumption) ?_
  rotate_left
  · intro w hSw
    try dsimp only at hSw
    go_simp
    try with_reducible rfl
  try simp only [Act.put, List.setIfInBounds_toArray, List.set_cons_zero, List.set_cons_succ]
  refine wpAnyH_take (i := 1) (oi := { dst := some 36, op := Op.nilCheck (Operand.tmp 35), type := 0, pos := ps, after := #[{ on := 0, ground := Ground.data }], guard := none }) (v := ?_) rfl (by kernel_rfl) (by kernel_rfl) (by kernel_rfl) (fun _ _ _ h => h) (Or.inl ⟨by rfl, ?_⟩) (by assumption) ?_
  rotate_left
  · intro w hSw
    try dsimp only at hSw
    go_simp
    try with_reducible rfl
  try simp only [Act.put, List.setIfInBounds_toArray, List.set_cons_zero, List.set_cons_succ]
  refine wpAnyH_take (i := 2) (oi := { dst := some 37, op := Op.fieldAddr 46 (Operand.tmp 36) 1, type := 0, pos := ps, after := #[{ on := 1, ground := Ground.data }], guard := none }) (v := ?_) rfl (by kernel_rfl) (by kernel_rfl) (by kernel_rfl) (fun _ _ _ h => h) (Or.inl ⟨by rfl, ?_⟩) (by assumption) ?_
  rotate_left
  · intro w hSw
    try dsimp only at hSw
    go_simp
    try with_reducible rfl
  try simp only [Act.put, List.setIfInBounds_toArray, List.set_cons_zero, List.set_cons_succ]
  refine wpAnyH_take (i := 3) (oi := { dst := some 38, op := Op.load 23 (Operand.tmp 37), type := 23, pos := ps, after := #[{ on := 2, ground := Ground.data }], guard := none }) (v := ?_) rfl (by kernel_rfl) (by kernel_rfl) (by kernel_rfl) (fun _ _ _ h => h) (Or.inl ⟨by rfl, ?_⟩) (by assumption) ?_
  rotate_left
  · intro w hSw
    try dsimp only at hSw
    go_simp
    try with_reducible rfl
  try simp only [Act.put, List.setIfInBounds_toArray, List.set_cons_zero, List.set_cons_succ]
  refine wpAnyH_take (i := 4) (oi := { dst := some 39, op := Op.move (Operand.tmp 1), type := 3, pos := ps, after := #[], guard := none }) (v := ?_) rfl (by kernel_rfl) (by kernel_rfl) (by kernel_rfl) (fun _ _ _ h => h) (Or.inl ⟨by rfl, ?_⟩) (by assumption) ?_
  rotate_left
  · intro w hSw
    try dsimp only at hSw
    go_simp
    try with_reducible rfl
  try simp only [Act.put, List.setIfInBounds_toArray, List.set_cons_zero, List.set_cons_succ]
  refine wpAnyH_take (i := 5) (oi := { dst := some 40, op := Op.indexAddr 23 (Operand.tmp 38) (Operand.tmp 39), type := 0, pos := ps, after := #[{ on := 3, ground := Ground.data }, { on := 4, ground := Ground.data }], guard := none }) (v := ?_) rfl (by kernel_rfl) (by kernel_rfl) (by kernel_rfl) (fun _ _ _ h => h) (Or.inl ⟨by rfl, ?_⟩) (by assumption) ?_
  rotate_left
  · intro w hSw
    try dsimp only at hSw
    go_simp
    try with_reducible rfl
  try simp only [Act.put, List.setIfInBounds_toArray, List.set_cons_zero, List.set_cons_succ]
  refine wpAnyH_take (i := 6) (oi := { dst := some 41, op := Op.load 32 (Operand.tmp 40), type := 32, pos := ps, after := #[{ on := 5, ground := Ground.data }], guard := none }) (v := .agg (idl (K i)).toArray) rfl (by kernel_rfl) (by kernel_rfl) (by kernel_rfl) (fun _ _ _ h => h) (yieldsIf_load_mid (by rfl) _ _ rfl bi (i * 20) rfl (idl (K i)) _ (fun w h => h.2.2.1) Yba.underlying32 rfl (info32 _)) (by assumption) ?_
  try simp only [Act.put, List.setIfInBounds_toArray, List.set_cons_zero, List.set_cons_succ]
  refine wpAnyH_take (i := 7) (oi := { dst := some 42, op := Op.move (Operand.tmp 0), type := 36, pos := ps, after := #[], guard := none }) (v := ?_) rfl (by kernel_rfl) (by kernel_rfl) (by kernel_rfl) (fun _ _ _ h => h) (Or.inl ⟨by rfl, ?_⟩) (by assumption) ?_
  rotate_left
  · intro w hSw
    try dsimp only at hSw
    go_simp
    try with_reducible rfl
  try simp only [Act.put, List.setIfInBounds_toArray, List.set_cons_zero, List.set_cons_succ]
  refine wpAnyH_take (i := 8) (oi := { dst := some 43, op := Op.nilCheck (Operand.tmp 42), type := 0, pos := ps, after := #[{ on := 7, ground := Ground.data }], guard := none }) (v := ?_) rfl (by kernel_rfl) (by kernel_rfl) (by kernel_rfl) (fun _ _ _ h => h) (Or.inl ⟨by rfl, ?_⟩) (by assumption) ?_
  rotate_left
  · intro w hSw
    try dsimp only at hSw
    go_simp
    try with_reducible rfl
  try simp only [Act.put, List.setIfInBounds_toArray, List.set_cons_zero, List.set_cons_succ]
  refine wpAnyH_take (i := 9) (oi := { dst := some 44, op := Op.fieldAddr 46 (Operand.tmp 43) 1, type := 0, pos := ps, after := #[{ on := 8, ground := Ground.data }], guard := none }) (v := ?_) rfl (by kernel_rfl) (by kernel_rfl) (by kernel_rfl) (fun _ _ _ h => h) (Or.inl ⟨by rfl, ?_⟩) (by assumption) ?_
  rotate_left
  · intro w hSw
    try dsimp only at hSw
    go_simp
    try with_reducible rfl
  try simp only [Act.put, List.setIfInBounds_toArray, List.set_cons_zero, List.set_cons_succ]
  refine wpAnyH_take (i := 10) (oi := { dst := some 45, op := Op.load 23 (Operand.tmp 44), type := 23, pos := ps, after := #[{ on := 9, ground := Ground.data }], guard := none }) (v := ?_) rfl (by kernel_rfl) (by kernel_rfl) (by kernel_rfl) (fun _ _ _ h => h) (Or.inl ⟨by rfl, ?_⟩) (by assumption) ?_
  rotate_left
  · intro w hSw
    try dsimp only at hSw
    go_simp
    try with_reducible rfl
  try simp only [Act.put, List.setIfInBounds_toArray, List.set_cons_zero, List.set_cons_succ]
  refine wpAnyH_take (i := 11) (oi := { dst := some 46, op := Op.move (Operand.tmp 9), type := 3, pos := ps, after := #[], guard := none }) (v := ?_) rfl (by kernel_rfl) (by kernel_rfl) (by kernel_rfl) (fun _ _ _ h => h) (Or.inl ⟨by rfl, ?_⟩) (by assumption) ?_
  rotate_left
  · intro w hSw
    try dsimp only at hSw
    go_simp
    try with_reducible rfl
  try simp only [Act.put, List.setIfInBounds_toArray, List.set_cons_zero, List.set_cons_succ]
  refine wpAnyH_take (i := 12) (oi := { dst := some 47, op := Op.indexAddr 23 (Operand.tmp 45) (Operand.tmp 46), type := 0, pos := ps, after := #[{ on := 10, ground := Ground.data }, { on := 11, ground := Ground.data }], guard := none }) (v := ?_) rfl (by kernel_rfl) (by kernel_rfl) (by kernel_rfl) (fun _ _ _ h => h) (Or.inl ⟨by rfl, ?_⟩) (by assumption) ?_
  rotate_left
  · intro w hSw
    try dsimp only at hSw
    go_simp
    try with_reducible rfl
  try simp only [Act.put, List.setIfInBounds_toArray, List.set_cons_zero, List.set_cons_succ]
  refine wpAnyH_take (i := 13) (oi := { dst := some 48, op := Op.load 32 (Operand.tmp 47), type := 32, pos := ps, after := #[{ on := 12, ground := Ground.data }], guard := none }) (v := .agg (idl (K j)).toArray) rfl (by kernel_rfl) (by kernel_rfl) (by kernel_rfl) (fun _ _ _ h => h) (yieldsIf_load_mid (by rfl) _ _ rfl bi (j * 20) rfl (idl (K j)) _ (fun w h => h.2.2.2) Yba.underlying32 rfl (info32 _)) (by assumption) ?_
  try simp only [Act.put, List.setIfInBounds_toArray, List.set_cons_zero, List.set_cons_succ]
  refine wpAnyH_take (i := 14) (oi := { dst := some 49, op := Op.move (Operand.tmp 0), type := 36, pos := ps, after := #[], guard := none }) (v := ?_) rfl (by kernel_rfl) (by kernel_rfl) (by kernel_rfl) (fun _ _ _ h => h) (Or.inl ⟨by rfl, ?_⟩) (by assumption) ?_
  rotate_left
  · intro w hSw
    try dsimp only at hSw
    go_simp
    try with_reducible rfl
  try simp only [Act.put, List.setIfInBounds_toArray, List.set_cons_zero, List.set_cons_succ]
  refine wpAnyH_take (i := 15) (oi := { dst := some 50, op := Op.nilCheck (Operand.tmp 49), type := 0, pos := ps, after := #[{ on := 14, ground := Ground.data }], guard := none }) (v := ?_) rfl (by kernel_rfl) (by kernel_rfl) (by kernel_rfl) (fun _ _ _ h => h) (Or.inl ⟨by rfl, ?_⟩) (by assumption) ?_
  rotate_left
  · intro w hSw
    try dsimp only at hSw
    go_simp
    try with_reducible rfl
  try simp only [Act.put, List.setIfInBounds_toArray, List.set_cons_zero, List.set_cons_succ]
  refine wpAnyH_take (i := 16) (oi := { dst := some 51, op := Op.fieldAddr 46 (Operand.tmp 50) 0, type := 0, pos := ps, after := #[{ on := 15, ground := Ground.data }], guard := none }) (v := ?_) rfl (by kernel_rfl) (by kernel_rfl) (by kernel_rfl) (fun _ _ _ h => h) (Or.inl ⟨by rfl, ?_⟩) (by assumption) ?_
  rotate_left
  · intro w hSw
    try dsimp only at hSw
    go_simp
    try with_reducible rfl
  try simp only [Act.put, List.setIfInBounds_toArray, List.set_cons_zero, List.set_cons_succ]
  refine wpAnyH_take (i := 17) (oi := { dst := some 52, op := Op.fieldAddr 38 (Operand.tmp 51) 0, type := 0, pos := ps, after := #[{ on := 16, ground := Ground.data }], guard := none }) (v := ?_) rfl (by kernel_rfl) (by kernel_rfl) (by kernel_rfl) (fun _ _ _ h => h) (Or.inl ⟨by rfl, ?_⟩) (by assumption) ?_
  rotate_left
  · intro w hSw
    try dsimp only at hSw
    go_simp
    try with_reducible rfl
  try simp only [Act.put, List.setIfInBounds_toArray, List.set_cons_zero, List.set_cons_succ]
  refine wpAnyH_take (i := 18) (oi := { dst := some 53, op := Op.load 3 (Operand.tmp 52), type := 3, pos := ps, after := #[{ on := 17, ground := Ground.data }], guard := none }) (v := ?_) rfl (by kernel_rfl) (by kernel_rfl) (by kernel_rfl) (fun _ _ _ h => h) (Or.inl ⟨by rfl, ?_⟩) (by assumption) ?_
  rotate_left
  · intro w hSw
    try dsimp only at hSw
    go_simp
    try with_reducible rfl
  try simp only [Act.put, List.setIfInBounds_toArray, List.set_cons_zero, List.set_cons_succ]
  refine wpAnyH_ready (rs := [19]) (by kernel_rfl) (by simp) ?_
  refine AllReadyH.cons (o := { dst := some 54, op := Op.call { callee := Callee.value (Operand.func 12), args := #[Operand.tmp 41, Operand.tmp 48, Operand.tmp 53], argTypes := #[32, 32, 3] }, type := 3, pos := ps, after := #[{ on := 6, ground := Ground.data }, { on := 13, ground := Ground.data }, { on := 18, ground := Ground.data }], guard := none }) rfl (fun K' hK => ?_) AllReadyH.nil
  go_simp
  refine (digits_walk (K i) (K j) b ki kj b1 b4 _).mono ?_
  rintro e w1 ⟨rfl, g1⟩
  have g2 := (grown_drew w).trans g1
  have V2 := V.grown g2
  refine hK.out _ _ ⟨V2.c0, V2.c2, V2.range hi, V2.range hj⟩ (fun hH2 => ?_)
  clear hK K' hHeld
  try simp only [Act.put, List.setIfInBounds_toArray, List.set_cons_zero, List.set_cons_succ]
  refine wpAnyH_take (i := 20) (oi := { dst := some 8, op := Op.assign (Operand.tmp 54), type := 3, pos := ps, after := #[{ on := 19, ground := Ground.data }, { on := 19, ground := Ground.chain }, { on := 0, ground := Ground.phase }, { on := 1, ground := Ground.phase }, { on := 2, ground := Ground.phase }, { on := 3, ground := Ground.phase }, { on := 4, ground := Ground.phase }, { on := 5, ground := Ground.phase }, { on := 6, ground := Ground.phase }, { on := 7, ground := Ground.phase }, { on := 8, ground := Ground.phase }, { on := 9, ground := Ground.phase }, { on := 10, ground := Ground.phase }, { on := 11, ground := Ground.phase }, { on := 12, ground := Ground.phase }, { on := 13, ground := Ground.phase }, { on := 14, ground := Ground.phase }, { on := 15, ground := Ground.phase }, { on := 16, ground := Ground.phase }, { on := 17, ground := Ground.phase }, { on := 18, ground := Ground.phase }, { on := 19, ground := Ground.phase }], guard := none }) (v := ?_) rfl (by kernel_rfl) (by kernel_rfl) (by kernel_rfl) (fun _ _ _ h => h) (Or.inl ⟨by rfl, ?_⟩) (by assumption) ?_
  rotate_left
  · intro w hSw
    try dsimp only at hSw
    go_simp
    try with_reducible rfl
  try simp only [Act.put, List.setIfInBounds_toArray, List.set_cons_zero, List.set_cons_succ]
  refine wpAnyH_done (by kernel_rfl) ?_ _
  refine NoPanic.normal ?_
  exact unhide HQ _ _ _ _ _ _ _ _ _ _ _ _ _ _ _ _ _ _ _ _ w1 g2


end Go.Proofs.Ybulkads
