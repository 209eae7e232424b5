import Derived.Test.YbulkaamEng
namespace Go.Proofs.Ybulkaam
open Go.Conc Go.RowKit Go.MuLone

set_option maxRecDepth 100000 in
set_option maxHeartbeats 800000 in
theorem itry_free (a : Addr) (w : World) (hc : w.cell? a = some (.int .i32 0)) (hz : w.frozen? a = false) :
    Calls Yba.prog 23 #[.pointer (some a)] w fun e w' => e = .returned (.bool true) ∧ w' = w.setCell a (.int .i32 1) := by
  have hd : ∀ w, (callFunc 28 #[]).run Yba.prog w = .ok (.value (.tuple #[])) w := disable Yba.muLib
  have he : ∀ w, (callFunc 29 #[]).run Yba.prog w = .ok (.value (.tuple #[])) w := enable Yba.muLib
  have ha : ∀ a w, (callFunc 31 #[.pointer (some a)]).run Yba.prog w = .ok (.value (.tuple #[])) w := acquire Yba.muLib
  have hcas := run_call_cas_hit (P := Yba.prog) Yba.func30 (by kernel_rfl) (by kernel_rfl) (by kernel_rfl) .i32 (by kernel_rfl) (y := 1) hc hz
  have hc' : (w.setCell a (.int .i32 1)).cell? a = some (.int .i32 1) := by simp [go_sem, hc]
  have hcv := run_convert_to_unsafe (P := Yba.prog) (src := 96) (dst := 100) Yba.underlying96 Yba.underlying100 Yba.muLib.room_tIMutex hc'
  go_enter Yba.func23, Yba.ntmps23
  go_wp2
  go_ret
  exact ⟨rfl, rfl⟩

set_option maxHeartbeats 800000 in
theorem try_free (a : Addr) (w : World) (hc : w.cell? a = some (.int .i32 0)) (hz : w.frozen? a = false) :
    Calls Yba.prog 16 #[.pointer (some a)] w fun e w' => e = .returned (.bool true) ∧ w' = w.setCell a (.int .i32 1) := by
  go_enter Yba.func16, Yba.ntmps16
  go_wp2_with (go_at_call 23; refine (itry_free a _ hc hz).mono ?_; rintro e w' ⟨rfl, rfl⟩)
  go_ret
  exact ⟨rfl, rfl⟩

set_option maxHeartbeats 800000 in
/-- settle on an Engine that has stopped -/
theorem settle_any {w b h q m g d hc qc} (E : Eng w b h q m g true d hc qc) (hdq : d = false → qc = false) {B : Nat} (hB : B ≤ b) (hBq : B ≤ q) :
    Calls Yba.prog 27 #[.pointer (some ⟨b, 0, none⟩)] w fun e w' => e = .returned (.tuple #[]) ∧ Below B w w' ∧
      Eng w' b h q m g true (d || decide (g = 0)) hc (qc || (!d && decide (g = 0))) := by
  have E' := E
  obtain ⟨h1, h2, h3, h4, h5, h6, f1, f2, f3, c1, c2, n1, n2, n3⟩ := E
  by_cases hg : g = 0
  · cases d with
    | true =>
      have hg' : (g == 0) = true := by simp [hg]
      have hE : Hid (Eng w b h q m g true (true || decide (g = 0)) hc (qc || (!true && decide (g = 0)))) := by simpa [Hid] using E'
      clear E' hg c1 c2
      go_enter Yba.func27, Yba.ntmps27
      go_wp2
      go_end0
      exact ⟨rfl, Below.refl _ _, hE.out⟩
    | false =>
      have hg' : (g == 0) = true := by simp [hg]
      obtain rfl := hdq rfl
      have hE : Hid (Eng (shutChan (w.setCell ⟨b, 22, none⟩ (.bool true)) q) b h q m g true (false || decide (g = 0)) hc (false || (!false && decide (g = 0)))) := by
        simpa [hg, Hid] using (E'.setQuieted true).shutQuiet
      have hcl := run_close (w := w.setCell ⟨b, 22, none⟩ (.bool true)) (c := q) (E'.setQuieted true).hq
      clear E' hg c1 c2 hdq
      go_enter Yba.func27, Yba.ntmps27
      go_wp2
      go_end0
      exact ⟨rfl, below_shut ((Below.refl _ _).setCell hB _) hBq, hE.out⟩
  · have hg' : (g == 0) = false := by simp [hg]
    have hE : Hid (Eng w b h q m g true (d || decide (g = 0)) hc (qc || (!d && decide (g = 0)))) := by simpa [hg, Hid] using E'
    clear E' hg c1 c2
    go_enter Yba.func27, Yba.ntmps27
    go_wp2
    go_end0
    exact ⟨rfl, Below.refl _ _, hE.out⟩


set_option maxRecDepth 100000 in
set_option maxHeartbeats 800000 in
/-- stop -/
theorem stop_any {w b h q m g s d hc qc} (E : Eng w b h q m g s d hc qc) (hsh : s = false → hc = false) (hdq : d = false → qc = false) {B : Nat} (hB : B ≤ b) (hBh : B ≤ h) (hBq : B ≤ q) :
    Calls Yba.prog 22 #[.pointer (some ⟨b, 0, none⟩)] w fun e w' => e = .returned (.tuple #[]) ∧ Below B w w' ∧
      Eng w' b h q m g true (d || (!s && decide (g = 0))) (hc || !s) (qc || (!s && !d && decide (g = 0))) := by
  have E' := E
  obtain ⟨h1, h2, h3, h4, h5, h6, f1, f2, f3, c1, c2, n1, n2, n3⟩ := E
  cases s with
  | true =>
    have hE : Hid (Eng w b h q m g true (d || (!true && decide (g = 0))) (hc || !true) (qc || (!true && !d && decide (g = 0)))) := by simpa [Hid] using E'
    clear E' c1 c2 hsh hdq
    go_enter Yba.func22, Yba.ntmps22
    go_wp2
    first | go_end0 | refine bodyPost_ret (results_none rfl _ _ _) rfl ?_
    exact ⟨rfl, Below.refl _ _, hE.out⟩
  | false =>
    obtain rfl := hsh rfl
    have hE : Hid (Eng (shutChan (w.setCell ⟨b, 14, none⟩ (.bool true)) h) b h q m g true d true qc) := (E'.setStopped true).shutHalt
    have hcl := run_close (w := w.setCell ⟨b, 14, none⟩ (.bool true)) (c := h) (E'.setStopped true).hh
    have hq0 : Hid (d = false → qc = false) := hdq
    have hbel : Hid (Below B w (shutChan (w.setCell ⟨b, 14, none⟩ (.bool true)) h)) := below_shut ((Below.refl _ _).setCell hB _) hBh
    clear E' c1 c2 hdq hsh
    go_enter Yba.func22, Yba.ntmps22
    go_wp2_with fail
    refine (settle_any hE.out hq0.out hB hBq).mono ?_
    rintro e w' ⟨rfl, hb, hE2⟩
    have hE3 : Hid (Eng w' b h q m g true (d || (!false && decide (g = 0))) (false || !false) (qc || (!false && !d && decide (g = 0)))) := by simpa [Hid] using hE2
    have hb3 := hbel.out.trans hb
    clear hE2 hE hbel hb hcl
    go_wp2
    go_end0
    exact ⟨rfl, hb3, hE3.out⟩

set_option maxRecDepth 100000 in
set_option maxHeartbeats 800000 in
/-- Stop: the lock is free before and behind. -/
theorem Stop_any {w b h q g s d hc qc} (E : Eng w b h q 0 g s d hc qc) (hsh : s = false → hc = false) (hdq : d = false → qc = false) {B : Nat} (hB : B ≤ b) (hBh : B ≤ h) (hBq : B ≤ q) :
    Calls Yba.prog 15 #[.pointer (some ⟨b, 0, none⟩)] w fun e w' => e = .returned (.tuple #[]) ∧ Below B w w' ∧
      Eng w' b h q 0 g true (d || (!s && decide (g = 0))) (hc || !s) (qc || (!s && !d && decide (g = 0))) := by
  have hmu := E.mu
  have hz := E.fmu
  have E1 : Hid (Eng (w.setCell ⟨b, 3, none⟩ (.int .i32 1)) b h q 1 g s d hc qc) := E.setMu 1
  have H1 : Hid (s = false → hc = false) := hsh
  have H2 : Hid (d = false → qc = false) := hdq
  clear E hsh hdq
  go_enter_defers Yba.func15, Yba.ntmps15
  go_wp2_with fail
  refine (lock_free Yba.muLib ⟨b, 3, none⟩ _ hmu hz).mono ?_
  rintro e w' ⟨rfl, rfl⟩
  go_wp2_with fail
  refine (stop_any E1.out H1.out H2.out hB hBh hBq).mono ?_
  rintro e w1 ⟨rfl, hb, hE⟩
  go_wp2_with fail
  refine leaves_cons (f := 17) (args := #[.pointer (some ⟨b, 3, none⟩)]) (by simp) (by simp [go_sem]) ?_
  refine (unlock_deferred Yba.muLib ⟨b, 3, none⟩ .returning _ hE.mu hE.fmu).mono ?_
  rintro e u' w'' ⟨rfl, rfl, rfl⟩
  exact ⟨_, results_none rfl _ _ _, rfl, (((Below.refl _ _).setCell hB _).trans hb).setCell hB _, hE.setMu 0⟩

end Go.Proofs.Ybulkaam
