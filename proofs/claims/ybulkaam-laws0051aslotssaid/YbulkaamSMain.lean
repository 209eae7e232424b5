import Derived.Test.YbulkaamL1
import Derived.Test.YbulkaamL4
namespace Go.Proofs.Ybulkaam
open Go.RowKit Go.ChangeMaps

theorem Fs.shape {w0 w1 w : World} {c mg bg : Nat} {ad : Addr} {ds dr : List Slot} {v : Value} (F : Fs w0 w1 w c mg bg ad ds dr v) : ∃ a cap, v = .slice a dr.length cap := by
  rcases F.row.2 with ⟨h0, h1⟩ | ⟨g', cap', cur, hv', _⟩
  · exact ⟨none, 0, by rw [h0, h1]⟩
  · exact ⟨_, cap', hv'⟩
theorem Lv.start {w0 wd : World} (h : Nat → Nat) (b : Below w0.heap.size w0 wd) : Lv w0 wd wd h 0 := ⟨fun _ _ _ => rfl, b, Nat.le_refl _⟩
theorem seen_len {l : List Nat} {n : Nat} (nd : l.Nodup) (lt : ∀ j ∈ l, j < n) (all : ∀ j, j < n → j ∈ l) : l.length = n := by
  have h1 := nodup_len l nd n lt
  have h2 := List.Nodup.length_le_of_subset (l₁ := List.range n) List.nodup_range (l₂ := l) (fun j hj => all j (List.mem_range.1 hj))
  simp at h2
  omega
theorem start5 (w0 : World) (o1 o2 o3 : Obj) (c : Nat) (ad : Addr) :
    Fs w0 (((((w0.alloc o1).alloc o2).alloc o3).alloc (.map #[] 0)).alloc (.cells #[.pointer (some ad), .slice none 0 0, .slice none 0 0, .map (some (w0.heap.size + 1 + 1 + 1))] 28)) (((((w0.alloc o1).alloc o2).alloc o3).alloc (.map #[] 0)).alloc (.cells #[.pointer (some ad), .slice none 0 0, .slice none 0 0, .map (some (w0.heap.size + 1 + 1 + 1))] 28)) c (w0.heap.size + 1 + 1 + 1) (w0.heap.size + 1 + 1 + 1 + 1) ad [] [] (.slice none 0 0) := by
  refine Fs.start ?_ ?_ ?_ (by omega) (by omega)
  · have g := ((((World.grownBy_alloc w0 o1 none).trans (World.grownBy_alloc _ o2 none)).trans (World.grownBy_alloc _ o3 none)).trans (World.grownBy_alloc _ (.map #[] 0) none)).trans (World.grownBy_alloc _ (.cells #[.pointer (some ad), .slice none 0 0, .slice none 0 0, .map (some (w0.heap.size + 1 + 1 + 1))] 28) none)
    exact ⟨g.os, g.tape, g.output, g.size, fun k hk => g.block k hk (by simp)⟩
  · have := heap_alloc_new ((((w0.alloc o1).alloc o2).alloc o3).alloc (.map #[] 0)) (.cells #[.pointer (some ad), .slice none 0 0, .slice none 0 0, .map (some (w0.heap.size + 1 + 1 + 1))] 28)
    simpa only [World.size_alloc] using this
  · have := heap_alloc_new (((w0.alloc o1).alloc o2).alloc o3) (.map #[] 0)
    simp only [World.size_alloc] at this
    exact kh this

set_option maxRecDepth 1000000 in
set_option maxHeartbeats 6400000 in
theorem slots_main (a0 a1 a2 : Option Addr) (n c0 m c1 q c2 : Nat) (N : Nat → ByteArray) (S : Nat → Int) (w0 : World)
    (hK : ∀ k, k < n → ∃ b off, a0 = some ⟨b, off, none⟩ ∧ w0.cell? ⟨b, off + k, none⟩ = some (.string (N k))) (hS : ∀ k, k < m → ∃ b off, a1 = some ⟨b, off, none⟩ ∧ w0.cell? ⟨b, off + k, none⟩ = some (.int .i8 (S k))) (hC : Cu w0 a2 q) (ln : n ≤ 256) (lq : q ≤ 256) :
    Calls Yba.prog 4 #[.slice a0 n c0, .slice a1 m c1, .slice a2 q c2] w0 fun e w' => e = .returned (.bool true) ∧ Below w0.heap.size w0 w' := by
  have t1 : ¬ ((256 : Int) < (n : Int)) := by omega
  have t2 : ¬ ((256 : Int) < (q : Int)) := by omega
  have HK := hide hK
  have HS := hide hS
  have HC := hide hC
  clear hK hS hC
  go_enter Yba.func4, Yba.ntmps4
  go_wp2_with fail
  change Code.wp Yba.prog (Code.loop body1) _ _ _
  change Code.wp _ _ (Exit.inBlock 0 (Exit.then _ (bodyPost Yba.prog Yba.f4 _))) _ _
  apply loop1 (HC := HC) (lq := lq)
  intro u6 u8 u39 u40 u41 u42 u43 u44 u45 u46 hcur
  have HCur := hide hcur
  clear hcur HC t1 t2
  go_wp2_with (go_at_call 7; refine (newGraph_any _ _).mono ?_; rintro e w' ⟨rfl, rfl⟩)
  have HF := hide (start5 w0 (.cells #[.slice none 0 0, .nilFunc] 58) (.cells #[.slice none 0 0, .map none, .map none, .slice none 0 0, .slice none 0 0, .slice none 0 0, .map none, .slice none 0 0, .slice none 0 0] 38) (.cells #[.pointer (some ⟨w0.heap.size + 1, 0, none⟩), .slice none 0 0, .slice none 0 0, .map (some (w0.heap.size + 1 + 1 + 1))] 28) w0.heap.size ⟨w0.heap.size + 1, 0, none⟩)
  change Code.wp Yba.prog (Code.loop body2) _ _ _
  change Code.wp _ _ (Exit.inBlock 2 (Exit.then _ (bodyPost Yba.prog Yba.f4 _))) _ _
  apply loop2 (HK := HK) (HS := HS) (HC := HCur) (HF := HF) (ln := ln)
  rintro u12 u13 u14 u15 u16 u17 u19 u20 u21 u54 u55 u56 u57 u58 u59 u60 u61 u62 u63 u64 u65 u66 u67 u68 u69 u70 u71 u72 u73 u74 u75 u76 u77 u78 u79 u80 u81 u82 u83 u84 u85 u86 u87 u88 u89 u90 u91 u92 u93 u94 u95 u96 u97 u98 u99 u100 u101 u102 u103 u104 u105 u106 u107 u108 u109 u110 u111 u112 u113 u114 u115 u116 u117 u118 u119 v w2 ⟨ds, F, lds⟩
  obtain ⟨av, cap, rfl⟩ := F.shape
  have HF2 := hide F
  clear F HF HK HS HCur
  go_upto_region 34 with fail
  go_cut [22] (fun t22 wc => ∃ bc mc f h seen, t22 = .pointer (some ⟨bc, 0, none⟩) ∧ Cd w2 wc ⟨w0.heap.size + 1, 0, none⟩ w0.heap.size (keys ds) (dat ds) bc mc f h seen ∧ ∀ j, j < (keys ds).length → j ∈ seen)
  case first =>
    go_wp2_with (go_at_call 12; refine (clone_slots w2 (w0.heap.size + 1 + 1 + 1 + 1) (w0.heap.size + 1 + 1 + 1) w0.heap.size ⟨w0.heap.size + 1, 0, none⟩ (keys ds) (dat ds) (unhide HF2).nd (unhide HF2).hb (by rw [keys_len]; exact (unhide HF2).hm) (fun j hj => Sl.en (unhide HF2).en (by rw [keys_len] at hj; exact hj))).mono ?_; rintro e w3 ⟨bc, mc, f, h, seen, rfl, C, hall⟩)
    go_meet
    case rel => exact ⟨bc, mc, f, h, seen, rfl, C, hall⟩
  case rest =>
    obtain ⟨bc, mc, f, h, seen, rfl, C, hall⟩ := hcut
    rename World => w3
    have HR := hide (Rd.mk (unhide HF2) C hall)
    have F3 := (unhide HF2).kept C.g
    obtain ⟨va, hva⟩ := C.hb
    have g3 := cell_at (i := 3) (v := .map (some (w0.heap.size + 1 + 1 + 1))) F3.hb rfl
    have k3 := cell_at (i := 3) (v := .map (some mc)) hva rfl
    have hsl : seen.length = ds.length := by rw [← keys_len]; exact seen_len C.nd C.lt hall
    have hl1 : ∀ q ty, (Builtin.len_ #[26] ty #[.map (some (w0.heap.size + 1 + 1 + 1))]).run Yba.prog (World.drewN w3 q) = .ok (.int .i64 ds.length) (World.drewN w3 q) := fun q ty => by
      have e := lenS (F3.kept (grown_drewN _ q)).hm ty
      rw [keys_len] at e; exact e
    have hl2 : ∀ q ty, (Builtin.len_ #[26] ty #[.map (some mc)]).run Yba.prog (World.drewN w3 q) = .ok (.int .i64 ds.length) (World.drewN w3 q) := fun q ty => by
      have e := lenS (C.kept (grown_drewN _ q)).hm ty
      rw [List.length_map, hsl] at e; exact e
    clear C hall F3 hva HF2
    go_upto_region 35 with fail
    go_cut [137] (fun t wc => t = .bool false ∧ w3.grownBy wc none)
    case first =>
      go_quiet (fail)
      go_wp2_with fail
      go_meet
      case rel => exact ⟨rfl, grown_drewN _ _⟩
    case rest =>
      obtain ⟨rfl, gc⟩ := hcut
      rename World => w4
      have HR4 := hide (Rd.mk (unhide HR).F ((unhide HR).C.kept gc) (unhide HR).all)
      have HL := hide (Lv.start (w0 := w0) (wd := w4) h ((unhide HR).F.bel.grown (unhide HR4).C.g (unhide HR).F.bel.size (by simp)))
      clear g3 k3 hl1 hl2 gc HR hsl
      go_wp2_with fail
      change Code.wp Yba.prog (Code.loop body4) _ _ _
      change Code.wp _ _ (Exit.inBlock 6 (Exit.then _ (bodyPost Yba.prog Yba.f4 _))) _ _
      apply loop4 (HR := HR4) (HL := HL) (hn := rfl) (ln := lds)
      intro u6 u24 u25 u26 u28 u140 u141 u142 u143 u144 u145 u146 u147 u148 u149 u150 u151 u152 u153 u154 u155 u156 u157 u158 u159 u160 u161 u162 u163 u164 u165 u166 u167 u168 u169 u170 u171 u172 u173 u174 u175 u176 u177 u178 u179 u180 u181 u182 u183 u184 u185 u186 u187 u188 u189 u190 u191 u192 u193 u194 u195 u196 u197 u198 u199 u200 u201 u202 u203 u204 u205 u206 u207 u208 u209 u210 u211 u212 u213 u214 u215 u216 u217 u218 u219 u220 u221 u222 u223 u224 u225 u226 u227 u228 u229 u230 u231 u232 u233 u234 u235 u236 u237 u238 u239 u240 u241 u242 u243 u244 u245 u246 u247 u248 u249 u250 u251 u252 u253 u254 u255 u256 u257 u258 u259 u260 u261 w5 hbel
      have HB := hide hbel
      clear hbel HR4 HL
      go_wp2_with fail
      go_ret
      exact ⟨rfl, unhide HB⟩
end Go.Proofs.Ybulkaam
