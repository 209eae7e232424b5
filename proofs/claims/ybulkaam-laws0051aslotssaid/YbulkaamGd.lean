import Derived.Test.YbulkaamGc
import Derived.Maps.RangeWalk
namespace Go.Proofs.Ybulkaam
open Go.RowKit Go.ChangeMaps

theorem mm26n (n : Nat) (w : World) : (Instr.makeMap 26 (some (.int .i64 n))).run Yba.prog w = .ok (.map (some w.heap.size)) (w.alloc (.map #[] 0)) := by
  simp [Instr.makeMap, run_underlying Yba.underlying26, asInt, asIntOf]

theorem mk25z (w : World) : (Instr.makeSlice 25 (.int .i64 0) (.int .i64 0)).run Yba.prog w = .ok (.slice (some ⟨w.heap.size, 0, none⟩) 0 0) (w.alloc (.cells (reps 0 (.slice none 0 0)) 44)) := mk25 0 (by omega) w

def CS (bg mg : Nat) (d : Value) (es : Array MapEntry) (k : Nat) (w : World) : Prop :=
  w.cell? ⟨bg, 0, none⟩ = some d ∧ w.cell? ⟨bg, 1, none⟩ = some (.slice none 0 0) ∧ w.cell? ⟨bg, 2, none⟩ = some (.slice none 0 0) ∧ w.cell? ⟨bg, 3, none⟩ = some (.map (some mg)) ∧ w.heap[mg]? = some (.map es k)
theorem CS.alloc {bg mg d es k w} (h : CS bg mg d es k w) (o : Obj) : CS bg mg d es k (w.alloc o) := ⟨kc h.1, kc h.2.1, kc h.2.2.1, kc h.2.2.2.1, kh h.2.2.2.2⟩

theorem clone_bornA (w : World) (ad : Addr) (c : Nat) (ks : List ByteArray) (D : Dat) :
    Cd w (((w.alloc (.cells (reps 0 (.slice none 0 0)) 44)).alloc (.map #[] 0)).alloc (.cells #[.pointer (some ad), .slice none 0 0, .slice (some ⟨w.heap.size, 0, none⟩) 0 0, .map (some (w.heap.size + 1))] 28)).drew ad c ks D (w.heap.size + 1 + 1) (w.heap.size + 1) (fun _ => 0) (fun _ => 0) [] := by
  refine ⟨?_, ⟨.slice (some ⟨w.heap.size, 0, none⟩) 0 0, ?_⟩, ?_, by simp, by simp, by simp, by simp, by simp, by simp, by simp, by simp, by omega, by omega⟩
  · exact (((World.grownBy_alloc w _ none).trans (World.grownBy_alloc _ _ none)).trans (World.grownBy_alloc _ _ none)).trans (grown_drew _)
  · show ((((w.heap.push _).push _).push _))[_]? = _
    simp only [Array.getElem?_push, Array.size_push]; simp
  · show ((((w.heap.push _).push _).push _))[_]? = _
    simp only [Array.getElem?_push, Array.size_push]; simp [cents, ents, entl]
theorem clone_bornB (w : World) (ad : Addr) (c : Nat) (ks : List ByteArray) (D : Dat) :
    Cd w (((w.alloc (.map #[] 0)).alloc (.cells (reps 0 (.slice none 0 0)) 44)).alloc (.cells #[.pointer (some ad), .slice none 0 0, .slice (some ⟨w.heap.size + 1, 0, none⟩) 0 0, .map (some w.heap.size)] 28)).drew ad c ks D (w.heap.size + 1 + 1) w.heap.size (fun _ => 0) (fun _ => 0) [] := by
  refine ⟨?_, ⟨.slice (some ⟨w.heap.size + 1, 0, none⟩) 0 0, ?_⟩, ?_, by simp, by simp, by simp, by simp, by simp, by simp, by simp, by simp, by omega, by omega⟩
  · exact (((World.grownBy_alloc w _ none).trans (World.grownBy_alloc _ _ none)).trans (World.grownBy_alloc _ _ none)).trans (grown_drew _)
  · show ((((w.heap.push _).push _).push _))[_]? = _
    simp only [Array.getElem?_push, Array.size_push]; simp
  · show ((((w.heap.push _).push _).push _))[_]? = _
    simp only [Array.getElem?_push, Array.size_push]; simp [cents, ents, entl] <;> omega

theorem left_none {α : Type} {kf : α → Value} {ks : List α} {val : Nat → Value} {seen : List Nat} (h : (leftOf (ents kf ks val) seen.toArray).size = 0) : ∀ j, j < ks.length → j ∈ seen := by
  intro j hj
  have hm : (⟨kf ks[j], val j, j⟩ : MapEntry) ∈ ents kf ks val := Array.mem_of_getElem? (ents_get kf (val := val) (List.getElem?_eq_getElem hj))
  false_or_by_contra
  rename_i hn
  have : (⟨kf ks[j], val j, j⟩ : MapEntry) ∈ leftOf (ents kf ks val) seen.toArray := Array.mem_filter.2 ⟨hm, by simpa using hn⟩
  rw [Array.eq_empty_of_size_eq_zero h] at this
  simp at this
theorem Cd.iter {w w' w2 : World} {ad : Addr} {c : Nat} {ks : List ByteArray} {D : Dat} {bc mc : Nat} {f h : Nat → Nat} {seen : List Nat} (C : Cd w w' ad c ks D bc mc f h seen) {r s c0 : Nat} {m : Option Nat} {sa : Array Nat} (hr : w'.heap[r]? = some (.mapIter m s sa c0)) (hl : w.heap.size ≤ r) (g : w'.grownBy w2 (some r)) : Cd w w2 ad c ks D bc mc f h seen := by
  have ne : ∀ {b : Nat} {o : Obj}, w'.heap[b]? = some o → (∀ a b c d, o ≠ .mapIter a b c d) → some r ≠ some b := fun hb ho e => by
    simp at e; subst e; rw [hr] at hb; exact ho _ _ _ _ (Option.some.inj hb).symm
  obtain ⟨v, hv⟩ := C.hb
  refine ⟨C.g.andThen g (fun j e => by simp at e; omega), ⟨v, gk g hv (ne hv (by simp))⟩, gk g C.hm (ne C.hm (by simp)), fun j hj => gk g (C.hf j hj) (ne (C.hf j hj) (by simp)), fun j hj => gk g (C.hh j hj) (ne (C.hh j hj) (by simp)), C.inj, C.lf, C.lh, C.ne, C.nd, C.lt, C.lb, C.lm⟩

theorem alloc3 (w : World) (o1 o2 o3 : Obj) : w.grownBy (((w.alloc o1).alloc o2).alloc o3) none ∧ (((w.alloc o1).alloc o2).alloc o3).heap[w.heap.size]? = some o1 ∧ (((w.alloc o1).alloc o2).alloc o3).heap[w.heap.size + 1]? = some o2 ∧ (((w.alloc o1).alloc o2).alloc o3).heap[w.heap.size + 1 + 1]? = some o3 := by
  refine ⟨((World.grownBy_alloc w _ none).trans (World.grownBy_alloc _ _ none)).trans (World.grownBy_alloc _ _ none), ?_, ?_, ?_⟩
  · exact kh (kh (heap_alloc_new w o1))
  · have := heap_alloc_new (w.alloc o1) o2; simp only [World.size_alloc] at this; exact kh this
  · have := heap_alloc_new ((w.alloc o1).alloc o2) o3; simpa only [World.size_alloc] using this
theorem nodup_len : ∀ (l : List Nat), l.Nodup → ∀ n, (∀ j ∈ l, j < n) → l.length ≤ n := by
  intro l hl n hn
  have := List.Nodup.length_le_of_subset hl (l₂ := List.range n) (fun j hj => List.mem_range.2 (hn j hj))
  simpa using this
theorem length_le {l : List Nat} {n j : Nat} (hl : l.Nodup) (hn : ∀ j ∈ l, j < n) (hj : j < n) (h : j ∉ l) : l.length + 1 ≤ n := by
  have := nodup_len (j :: l) (List.nodup_cons.2 ⟨h, hl⟩) n (fun k hk => by rcases List.mem_cons.1 hk with rfl | h; exact hj; exact hn k h)
  simpa using this

set_option maxRecDepth 100000 in
set_option maxHeartbeats 1600000 in
theorem clone_slots (w : World) (bg mg c : Nat) (ad : Addr) (ks : List ByteArray) (D : Dat) (hk : ks.Nodup)
    (hb : w.heap[bg]? = some (.cells #[.pointer (some ad), .slice none 0 0, .slice none 0 0, .map (some mg)] 28))
    (hm : w.heap[mg]? = some (.map (ents (skey c) ks (sptr D.sb)) ks.length)) (hE : ∀ j, j < ks.length → En w D j) :
    Calls Yba.prog 12 #[.pointer (some ⟨bg, 0, none⟩)] w fun e w' => ∃ bc mc f h seen, e = .returned (.pointer (some ⟨bc, 0, none⟩)) ∧ Cd w w' ad c ks D bc mc f h seen ∧ (∀ j, j < ks.length → j ∈ seen) := by
  have cs : CS bg mg (.pointer (some ad)) (ents (skey c) ks (sptr D.sb)) ks.length w := ⟨cell_at hb rfl, cell_at hb rfl, cell_at hb rfl, cell_at hb rfl, hm⟩
  have hmk := mk25z
  have hmm := mm26n ks.length
  have hln := fun (w : World) ty h => lenS (w := w) (b := mg) (c := c) (k := ks.length) (ks := ks) (val := sptr D.sb) h ty
  have HA := hide (clone_bornA w ad c ks D)
  have HB := hide (clone_bornB w ad c ks D)
  have Hcs := hide cs
  have Hb := hide hb
  have Hm := hide hm
  have HE := hide hE
  have Hk := hide hk
  obtain ⟨c0, c1, c2, c3, c4⟩ := cs
  have lbg := hlt hb
  clear hb hm hE hk
  go_enter Yba.func12, Yba.ntmps12
  go_wp2
  go_cut [3] (fun t wc => ∃ bc mc, t = .pointer (some ⟨bc, 0, none⟩) ∧ Cd w wc ad c ks D bc mc (fun _ => 0) (fun _ => 0) [])
  case first =>
    go_region_held3 (fun w' => w'.cell? ⟨bg, 0, none⟩ = some (.pointer (some ad)) ∧ w'.cell? ⟨bg, 1, none⟩ = some (.slice none 0 0) ∧ w'.cell? ⟨bg, 2, none⟩ = some (.slice none 0 0) ∧ w'.cell? ⟨bg, 3, none⟩ = some (.map (some mg)) ∧ w'.heap[mg]? = some (.map (ents (skey c) ks (sptr D.sb)) ks.length))
      (first
        | exact unhide Hcs
        | exact (unhide Hcs).alloc _
        | exact ((unhide Hcs).alloc _).alloc _
        | exact (((unhide Hcs).alloc _).alloc _).alloc _)
      (first
        | (go_at_call 18; refine (clip_strs _ none 0 0 (by omega) (fun _ => ⟨rfl, rfl⟩) (by omega)).mono ?_; rintro e w' ⟨rfl, rfl⟩))
    all_goals
      go_wp2_with fail
      go_meet
    all_goals
      case rel =>
        first
          | exact ⟨_, _, rfl, unhide HA⟩
          | exact ⟨_, _, rfl, unhide HB⟩
  case rest =>
    rename World => wo
    obtain ⟨bc, mc, rfl, hC⟩ := hcut
    have g2 : wo.cell? ⟨bg, 2, none⟩ = some (.slice none 0 0) := hC.g.cell c2 (by simp)
    have g3 : wo.cell? ⟨bg, 3, none⟩ = some (.map (some mg)) := hC.g.cell c3 (by simp)
    have m3 := gk hC.g (unhide Hm) (by simp)
    have hr := run_range_map (P := Yba.prog) wo 26 _ _ mg _ _ Yba.underlying26 m3
    have hsz := hC.g.size
    have HC := hide hC
    clear hC c0 c1 c2 c3 c4 hmk hmm hln HA HB m3
    go_wp2_with fail
    refine wp_loop_rounds 1 ?_
    rw [rounds_succ]
    go_wp2_with fail
    have hit : (wo.alloc (.mapIter (some mg) ks.length #[] ks.length)).heap[wo.heap.size]? = some (.mapIter (some mg) ks.length #[] ks.length) := heap_alloc_new wo _
    have HC1 := hide ((unhide HC).kept (World.grownBy_alloc wo (.mapIter (some mg) ks.length #[] ks.length) none))
    have Hit := hide hit
    clear hit HC hr g2 g3
    go_loopg [57] ks.length (fun g i wr => ∃ seen f h c0, g = ks.length - seen.length ∧ wr.heap[wo.heap.size]? = some (.mapIter (some mg) ks.length seen.toArray c0) ∧ ks.length ≤ c0 ∧ Cd w wr ad c ks D bc mc f h seen)
    case atStart => exact ⟨[], _, _, ks.length, by simp, unhide Hit, Nat.le_refl _, unhide HC1⟩
    case round =>
      clear HC1 Hit
      obtain ⟨seen, f, h, c0, hg, hit, hc0, hC⟩ := hrel
      have hm := Ybulkaam.gk hC.g (unhide Hm) (by simp)
      rcases run_next_at (P := Yba.prog) wr 0 wo.heap.size mg ks.length c0 seen.toArray _ ks.length hit hm (fun x hx => by obtain ⟨j, p, hj, rfl⟩ := ents_mem _ hx; exact (List.getElem?_eq_some_iff.1 hj).1) hc0 with ⟨h0, hrun⟩ | ⟨e, he, w1, hw1, hrun⟩
      · have HR := hide (And.intro hC (left_none h0))
        clear hC h0 hit hm
        go_wp2_with fail
        go_ret
        exact ⟨bc, mc, f, h, seen, rfl, (unhide HR).1, (unhide HR).2⟩
      · obtain ⟨he1, he2⟩ := mem_left he
        obtain ⟨j, p, hj, rfl⟩ := ents_mem _ he1
        obtain ⟨hjl, hjp⟩ := List.getElem?_eq_some_iff.1 hj
        have hjs : j ∉ seen := by simpa using he2
        obtain ⟨w2, hw2⟩ : ∃ w2, w2 = setBlock w1 wo.heap.size (.mapIter (some mg) ks.length (seen.toArray.push j) ks.length) := ⟨_, rfl⟩
        have hg1 : wr.grownBy w1 none := by rcases hw1 with rfl | rfl <;> first | exact World.grownBy.refl _ _ | exact grown_drew _
        have hg2 : wr.grownBy w2 (some wo.heap.size) := (hg1.but _).trans (hw2 ▸ grown_setBlock _ _ _)
        have hit2 : w2.heap[wo.heap.size]? = some (.mapIter (some mg) ks.length (seen.toArray.push j) ks.length) := by rw [hw2]; exact heap_setBlock (Nat.lt_of_lt_of_le (hlt hit) hg1.size) _
        have hm2 : w2.heap[mg]? = some (.map (ents (skey c) ks (sptr D.sb)) ks.length) := Ybulkaam.gk hg2 hm (fun e => by simp at e; rw [e, hm] at hit; cases hit)
        have hen := run_entry_at (P := Yba.prog) w2 wo.heap.size mg ks.length seen.toArray _ ks.length ⟨skey c p, sptr D.sb j, j⟩ hit2 hm2 he1 (by rw [ents_born]; exact List.nodup_range)
        have hC2 := hC.iter hit hsz hg2
        have hE2 := (unhide HE j hjl).kept hC2.g (by simp) (by simp) (by simp)
        have q0 : w2.cell? ⟨D.sb j, 0, none⟩ = some (.int .i64 (D.side j)) := cell_at hE2.hs rfl
        have q1 : w2.cell? ⟨D.sb j, 1, none⟩ = some (.map (some (D.cb j))) := cell_at hE2.hs rfl
        have q2 : w2.cell? ⟨D.sb j, 2, none⟩ = some (.map (some (D.pb j))) := cell_at hE2.hs rfl
        have q3 : w2.cell? ⟨D.sb j, 3, none⟩ = some (.int .i64 (D.via j)) := cell_at hE2.hs rfl
        have q4 : w2.cell? ⟨D.sb j, 4, none⟩ = some (.int .i64 (-(D.via j))) := cell_at hE2.hs rfl
        have lsb := hlt hE2.hs
        have lcb := hlt hE2.hc
        have hcb := hE2.hc
        have hk2 : ks.getD j ByteArray.empty = p := by simp [List.getD, hj]
        rw [← hw2] at hrun
        simp only [sptr] at hrun hen
        have HC2 := hide hC2
        have Hit2 := hide hit2
        clear hw2 hg1 hg2 hw1 he he1 he2 hC hit hit2 hm hm2 hE2
        go_upto_region 12 with (first | (go_at_call 20; refine (mclone_walk _ _ _ _ (kh (kh hcb))).mono ?_; rintro e w' ⟨rfl, rfl⟩))
        clear q0 q1 q2 q3 q4 hrun hen hcb
        obtain ⟨w3, hw3⟩ : ∃ w3, w3 = ((w2.alloc (.cells #[.pointer (some ⟨c, 0, none⟩), .string p] 61)).alloc (.cells #[.int .i64 (D.side j), .map (some (w2.heap.size + 1 + 1)), .map (some (D.pb j)), .int .i64 (D.via j), .int .i64 (-(D.via j))] 66)).alloc (.map (ime (D.cs j)) (D.cs j).length) := ⟨_, rfl⟩
        rw [← hw3]
        obtain ⟨a1, a2, a3, a4⟩ := alloc3 w2 (.cells #[.pointer (some ⟨c, 0, none⟩), .string p] 61) (.cells #[.int .i64 (D.side j), .map (some (w2.heap.size + 1 + 1)), .map (some (D.pb j)), .int .i64 (D.via j), .int .i64 (-(D.via j))] 66) (.map (ime (D.cs j)) (D.cs j).length)
        rw [← hw3] at a1 a2 a3 a4
        clear hw3
        obtain ⟨w4, hrun4, hG4, hC4⟩ := (unhide HC2).step (w3 := w3.drew) hjl hjs (a1.trans (grown_drew _)) a3 a4 (by omega) (by omega) (unhide Hk)
        rw [hk2] at hrun4
        obtain ⟨v, hv⟩ := ((unhide HC2).kept a1).hb
        have q3 : w3.cell? ⟨bc, 3, none⟩ = some (.map (some mc)) := cell_at hv rfl
        have q5 : w3.cell? ⟨w2.heap.size, 0, none⟩ = some (.pointer (some ⟨c, 0, none⟩)) := cell_at a2 rfl
        have q6 : w3.cell? ⟨w2.heap.size, 1, none⟩ = some (.string p) := cell_at a2 rfl
        have hit4 : w4.heap[wo.heap.size]? = some (.mapIter (some mg) ks.length (seen.toArray.push j) ks.length) :=
          Ybulkaam.gk hG4 (Ybulkaam.gk (a1.trans (grown_drew _)) (unhide Hit2) (by simp)) (fun e => by simp at e; have e1 := unhide Hit2; rw [← e, (unhide HC2).hm] at e1; cases e1)
        have HR := hide (And.intro hit4 hC4)
        clear hit4 hC4 hG4 a1 a2 a3 a4 hv
        go_region
        all_goals
          go_wp2_with fail
          go_roundg (ks.length - (seen.length + 1))
          case measure => have := length_le (unhide HC2).nd (unhide HC2).lt hjl hjs; omega
          case rel => exact ⟨seen ++ [j], _, _, ks.length, by simp, by simpa using (unhide HR).1, Nat.le_refl _, (unhide HR).2⟩
end Go.Proofs.Ybulkaam
