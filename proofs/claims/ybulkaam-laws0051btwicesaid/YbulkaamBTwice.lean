import Derived.Test.YbulkaamBState
import Derived.Test.YbulkaamNorm
import Derived.WalkSmall
namespace Go.Proofs.Ybulkaam
open Go.Conc Go.RowKit Go.MuLone

theorem Eng.drewN {w b h q m g s d hc qc} (E : Eng w b h q m g s d hc qc) (n : Nat) : Eng (w.drewN n) b h q m g s d hc qc :=
  ⟨E.mu, E.going, E.stopped, E.halt, E.quiet, E.quieted, E.fmu, E.fst, E.fqd, E.hh, E.hq, E.bh, E.bq, E.hne⟩

theorem Eng.twice {w b h q m g d hc qc} {x : Bool} (E : Eng w b h q m g true (d || (!true && x)) (hc || !true) (qc || (!true && !d && x))) : Eng w b h q m g true d hc qc := by
  simpa using E

set_option maxRecDepth 100000 in
set_option maxHeartbeats 1600000 in
theorem btwice_walk (a0 : Int) (a1 : Bool) (a2 : Bool) (w : World) :
    Calls Yba.prog 6 #[.int .i64 a0, .bool a1, .bool a2] w fun e w' => e = .returned (.bool true) ∧ Below w.heap.size w w' := by
  have hm := mk0
  refine calls_of_wpN Yba.func6 rfl ?_
  simp only [Yba.ntmps6, List.size_toArray, List.length_cons, List.length_nil, Nat.reduceAdd, Nat.reduceSub, Array.replicate_succ,
     Array.replicate_zero, List.push_toArray, List.append_toArray, List.nil_append, List.cons_append]
  refine wpN_seq (fun K hK => ?_)
  go_wp2
  refine wpN_seq (fun K hK => ?_)
  go_region
  all_goals
    go_wp2
    refine wpN_seq (fun K hK => ?_)
    go_wp2_with fail
  refine (Stop_any (born w a0 a1 a2 w.heap.size (w.heap.size + 1) (.inl ⟨rfl, rfl⟩)) (fun _ => rfl) (fun _ => rfl) (B := w.heap.size) (by omega) (by omega) (by omega)).mono ?_
  rotate_left
  refine (Stop_any (born w a0 a1 a2 (w.heap.size + 1) w.heap.size (.inr ⟨rfl, rfl⟩)) (fun _ => rfl) (fun _ => rfl) (B := w.heap.size) (by omega) (by omega) (by omega)).mono ?_
  all_goals
    rintro e w1 ⟨rfl, hb, hE1⟩
    have hbel : Hid (Below w.heap.size w w1) := (((((Below.refl _ w).alloc (Nat.le_refl _) _).alloc (by simp) _).alloc (by simp; omega) _).drew).trans hb
    clear hb hm
    have hdone : Hid (a1 = false → a2 = false → (a2 || (!a1 && decide (a0 = 0))) = true → (false || (!a1 && !a2 && decide (a0 = 0))) = true) := by
      rintro rfl rfl h; simpa using h
    have hqd : Hid ((a2 || (!a1 && decide (a0 = 0))) = false → (false || (!a1 && !a2 && decide (a0 = 0))) = false) := by
      intro h; cases a2 <;> simp_all
    have hhc : Hid (a1 = false → (false || !a1) = true) := by rintro rfl; rfl
    generalize (a2 || (!a1 && decide (a0 = 0))) = d1 at *
    generalize (false || (!a1 && !a2 && decide (a0 = 0))) = qc at *
    generalize (false || !a1) = hc at *
    have h14 := hE1.stopped
    have h22 := hE1.quieted
    go_wp2_with fail
    refine wpN_seq (fun K hK => ?_)
    go_quiet (fail)
    go_wp2_with fail
    refine wpN_seq (fun K hK => ?_)
    go_wp2_with fail
    have hE1' := hE1.drewN nq
    refine (Stop_any hE1' (fun h => by cases h) hqd.out (B := w.heap.size) (by omega) (by omega) (by omega)).mono ?_
    rintro e w2 ⟨rfl, hb, hE2⟩
    have hbel2 : Hid (Below w.heap.size w w2) := (below_drewN hbel.out nq).trans hb
    have hE3 := hE2.twice
    clear hE2 hb hbel hE1 hE1' h14 h22 hqd
    have h14 := hE3.stopped
    have h22 := hE3.quieted
    go_wp2_with fail
    refine wpN_seq (fun K hK => ?_)
    go_wp2_with fail
    refine wpN_seq (fun K hK => ?_)
    go_wp2_with fail
    refine (try_free ⟨w.heap.size + 1 + 1, 3, none⟩ _ hE3.mu hE3.fmu).mono ?_
    rintro e w' ⟨rfl, rfl⟩
    go_wp2_with fail
    refine wpN_seq (fun K hK => ?_)
    go_wp2_with fail
    refine (unlock_held Yba.muLib ⟨w.heap.size + 1 + 1, 3, none⟩ _ (hE3.setMu 1).mu (hE3.setMu 1).fmu).mono ?_
    rintro e w' ⟨rfl, rfl⟩
    have hE4 := (hE3.setMu 1).setMu 0
    have hfin : Hid (Below w.heap.size w ((w2.setCell ⟨w.heap.size + 1 + 1, 3, none⟩ (.int .i32 1)).setCell ⟨w.heap.size + 1 + 1, 3, none⟩ (.int .i32 0))) := (hbel2.out.setCell (by simp; omega) _).setCell (by simp; omega) _
    generalize (w2.setCell ⟨w.heap.size + 1 + 1, 3, none⟩ (.int .i32 1)).setCell ⟨w.heap.size + 1 + 1, 3, none⟩ (.int .i32 0) = w3 at *
    clear hE3 hbel2 h14 h22
    obtain ⟨h1, h2, h3, h4, h5, h6, f1, f2, f3, c1, c2, n1, n2, n3⟩ := hE4
    go_wp2_with fail
    refine wpN_seqN ?_
    refine wpN_seq (fun K hK => ?_)
    clear n1 n2 n3 f1 f2 f3 h1
    cases a1
    · obtain rfl := hhc.out rfl
      have hdn : Hid (a2 = false → d1 = true → qc = true) := hdone.out rfl
      clear hhc hdone
      go_wp2
      refine wpN_cond_true rfl ?_
      refine wpN_seqN ?_
      refine wpN_recv5 (v0 := .pointer (some ⟨w.heap.size + 1 + 1, 0, none⟩)) (v1 := .pointer (some ⟨w.heap.size + 1 + 1, 0, none⟩)) (v2 := .pointer (some ⟨w.heap.size + 1 + 1, 15, none⟩)) (z := .agg #[]) rfl rfl rfl rfl rfl ?_ ?_ ?_ ?_ ?_ c1 ?_
      · go_simp
      · go_simp
      · go_simp
      · go_simp
      · simp [go_sem, rcase]
      show wpN _ _ _ _ _
      refine wpN_seq (fun K hK => ?_)
      cases a2
      · cases d1
        · go_wp2
          refine wpN_of_wp ?_
          go_wp2
          refine wpN_of_wp ?_
          go_wp2
          go_ret
          exact ⟨by simp, hfin.out⟩
        · obtain rfl := hdn.out rfl rfl
          clear hdn
          go_wp2
          refine wpN_cond_true rfl ?_
          refine wpN_recv5 (v0 := .pointer (some ⟨w.heap.size + 1 + 1, 0, none⟩)) (v1 := .pointer (some ⟨w.heap.size + 1 + 1, 0, none⟩)) (v2 := .pointer (some ⟨w.heap.size + 1 + 1, 21, none⟩)) (z := .agg #[]) rfl rfl rfl rfl rfl ?_ ?_ ?_ ?_ ?_ c2 ?_
          · go_simp
          · go_simp
          · go_simp
          · go_simp
          · simp [go_sem, rcase]
          show wpN _ _ _ _ _
          refine wpN_of_wp ?_
          go_wp2
          go_ret
          exact ⟨by simp, hfin.out⟩
      · go_wp2
        refine wpN_of_wp ?_
        go_wp2
        refine wpN_of_wp ?_
        go_wp2
        go_ret
        exact ⟨by simp, hfin.out⟩
    · go_wp2
      refine wpN_of_wp ?_
      go_wp2
      refine wpN_of_wp ?_
      go_wp2
      go_ret
      exact ⟨by simp, hfin.out⟩
end Go.Proofs.Ybulkaam
