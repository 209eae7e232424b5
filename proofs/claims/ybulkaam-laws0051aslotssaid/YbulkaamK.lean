import Derived.Test.YbulkaamGd
import Derived.BigRegion
namespace Go.Proofs.Ybulkaam
open Go.RowKit Go.ChangeMaps

def loopsOf : Code → List Code
  | .loop c => c :: loopsOf c
  | .seq a b => loopsOf a ++ loopsOf b
  | .block _ c => loopsOf c
  | .scope c => loopsOf c
  | .cond _ a b => loopsOf a ++ loopsOf b
  | _ => []
noncomputable def bodies : List Code := ((Yba.f4.body.map loopsOf).getD [])
/-- no way out by panic: then the post need not speak of one -/
theorem calm {id : Nat} {K' : Act → World → Prop} {Qo : Exit → Act → World → Prop} (e : Exit) (a : Act) (w : World) (h : Exit.inBlock id (Exit.then K' (NoPanic Qo)) e a w) : Exit.inBlock id (Exit.then K' Qo) e a w := by
  cases e with
  | exit id' =>
    simp only [Exit.inBlock] at h ⊢
    split
    · rename_i e; rw [if_pos e] at h; exact h
    · rename_i e; rw [if_neg e] at h; exact h
  | panic c => exact (h : False).elim
  | _ => exact h

/-- a slice of bytes, as it was handed in -/
def Bytes (w : World) (a : Option Addr) (xs : List Int) : Prop := ∀ k, k < xs.length → (∃ b off, a = some ⟨b, off, none⟩ ∧ w.cell? ⟨b, off + k, none⟩ = some (.int .u8 (xs.getD k 0))) ∧ 0 ≤ xs.getD k 0 ∧ xs.getD k 0 ≤ 255
theorem ne_map {w : World} {x : Addr} {v : Value} {b k : Nat} {es : Array MapEntry} (h : w.cell? x = some v) (hb : w.heap[b]? = some (.map es k)) : x.block ≠ b := fun e => by
  simp [World.cell?, e, hb] at h
theorem Bytes.kept {w w' : World} {a : Option Addr} {xs : List Int} {b k : Nat} {es : Array MapEntry} (h : Bytes w a xs) (hb : w.heap[b]? = some (.map es k)) (g : w.grownBy w' (some b)) : Bytes w' a xs := fun i hi => by
  obtain ⟨⟨c, off, e, hc⟩, h1, h2⟩ := h i hi
  exact ⟨⟨c, off, e, g.cell hc (by have := ne_map hc hb; simpa using this)⟩, h1, h2⟩
theorem Bytes.grown {w w' : World} {a : Option Addr} {xs : List Int} (h : Bytes w a xs) (g : w.grownBy w' none) : Bytes w' a xs := fun i hi => by
  obtain ⟨⟨c, off, e, hc⟩, h1, h2⟩ := h i hi
  exact ⟨⟨c, off, e, g.cell hc (by simp)⟩, h1, h2⟩
theorem mem_take_succ (xs : List Int) (k : Nat) (h : k < xs.length) (x : Int) : x ∈ xs.take (k + 1) ↔ x = xs.getD k 0 ∨ x ∈ xs.take k := by
  rw [List.take_succ_eq_append_getElem h, List.mem_append, List.mem_singleton, or_comm]
  simp [List.getD, List.getElem?_eq_getElem h]
end Go.Proofs.Ybulkaam
