import Derived.Test.YbulkadsMb
namespace Go.Proofs.Ybulkads
open Go.RowKit

theorem below_of {w w' : World} (g : w.grownBy w' none) : Below w.heap.size w w' :=
  ⟨g.1, g.2, g.3, g.size, fun k hk => g.block k hk (by simp)⟩

theorem zero66 (w : World) : (zeroValue 66).run Yba.prog w = .ok (.agg #[.pointer none, .pointer none, .slice none 0 0, .slice none 0 0, .slice none 0 0, .int .u64 0, .int .u32 0, .int .u64 0, .int .i64 0, .int .u64 0, .slice none 0 0, .int .u8 0, .int .u8 0, .int .u8 0, .int .u8 0, .int .u8 0, .int .u8 0, .int .u8 0, .int .u8 0, .int .u8 0, .int .u8 0, .int .u8 0, .int .u8 0, .int .u8 0, .int .u8 0, .int .u8 0, .int .u8 0, .int .u8 0, .int .u8 0, .int .u8 0, .int .u8 0, .int .u8 0, .int .u8 0, .int .u8 0, .int .u8 0, .int .u8 0, .int .u8 0, .int .u8 0, .int .u8 0, .int .u8 0, .int .u8 0, .int .u8 0, .int .u8 0, .slice none 0 0, .slice none 0 0, .slice none 0 0, .slice none 0 0, .slice none 0 0, .int .i64 0, .bool false, .slice none 0 0, .slice none 0 0, .slice none 0 0, .slice none 0 0, .slice none 0 0, .bool false, .slice none 0 0]) w := by kernel_rfl

set_option maxRecDepth 1000000 in
set_option maxHeartbeats 6400000 in
theorem lay_main (sb sh : Int) (b h : Nat) (hb : sb % 4 + 1 = (b : Int)) (hh : sh % 4 + 1 = (h : Int)) (sb0 : 0 ≤ sb) (sb1 : sb ≤ 255) (sh0 : 0 ≤ sh) (sh1 : sh ≤ 255) (a : Option Addr) (n cap : Nat) (K : Nat → Nat) (f u : Nat → Int) (H : Nat → Nat) (w : World) (hN : Nd a n K f u H w) (hK : ∀ i, K i < 4294967296) (hH : ∀ i, H i < 256) (hm : n ≤ 1024) :
    Calls Yba.prog 3 #[.int .u8 sb, .int .u8 sh, .slice a n cap] w fun e w' => e = .returned (.bool true) ∧ Below w.heap.size w w' := by
  have b1 : 1 ≤ b := by omega
  have b4 : b ≤ 4 := by omega
  have h1 : 1 ≤ h := by omega
  have h4 : h ≤ 4 := by omega
  obtain ⟨c23, s23, z23, m23⟩ := mk23 n hm
  obtain ⟨c24, s24, m24⟩ := mk24 n hm
  have m25 := mk25 h h4
  have z46 := zero46
  have HN := hide hN
  have HF := hide (Fl.start w n h K f u z23 s24)
  have t1 : ¬ ((1024 : Int) < (n : Int)) := by omega
  clear hN s23 z23 s24
  go_enter Yba.func3, Yba.ntmps3
  go_wp2_with fail
  change Code.wp Yba.prog (Code.loop body1) _ _ _
  change Code.wp _ _ (Exit.inBlock 0 (Exit.then _ (bodyPost Yba.prog Yba.f3 _))) _ _
  apply loop1 (HN := HN) (HF := HF) (hK := hK) (hH := hH) (hm := hm) (h1 := h1) (h4 := h4)
  rintro u13 u14 u15 u53 u54 u55 u56 u57 u58 u59 u60 u61 u62 u63 u64 u65 u66 u67 u68 u69 u70 u71 u72 u73 u74 u75 u76 u77 u78 u79 u80 u81 u82 u83 u84 u85 u86 u87 u88 u89 u90 u91 u92 u93 u94 u95 u96 u97 u98 u99 u100 u101 u102 u103 u104 u105 u106 u107 u108 u109 u110 u111 u112 u113 u114 u115 u116 w2 ⟨val, F⟩
  have HF2 := hide F
  clear F HF m23 m24 m25
  have z66 := zero66
  have HQ := hide ((unhide HF2).ready (b := b) (c46 := #[.int .i64 b, .int .i64 2, .slice (some ⟨w.heap.size, 0, none⟩) n n, .slice none 0 0, .slice none 0 0, .slice none 0 0, .int .i64 0, .slice none 0 0, .slice none 0 0, .slice none 0 0, .slice none 0 0, .int .i64 0, .int .i64 0, .slice none 0 0, .slice none 0 0, .int .i64 0, .slice none 0 0, .slice none 0 0]) (c66 := #[.pointer none, .pointer none, .slice none 0 0, .slice none 0 0, .slice none 0 0, .int .u64 0, .int .u32 0, .int .u64 0, .int .i64 0, .int .u64 0, .slice none 0 0, .int .u8 0, .int .u8 0, .int .u8 0, .int .u8 0, .int .u8 0, .int .u8 0, .int .u8 0, .int .u8 0, .int .u8 0, .int .u8 0, .int .u8 0, .int .u8 0, .int .u8 0, .int .u8 0, .int .u8 0, .int .u8 0, .int .u8 0, .int .u8 0, .int .u8 0, .int .u8 0, .int .u8 0, .int .u8 0, .int .u8 0, .int .u8 0, .int .u8 0, .int .u8 0, .int .u8 0, .int .u8 0, .int .u8 0, .int .u8 0, .int .u8 0, .int .u8 0, .slice none 0 0, .slice none 0 0, .slice (some ⟨w.heap.size + 1 + 1, 0, none⟩) h h, .slice none 0 0, .slice none 0 0, .int .i64 0, .bool false, .slice none 0 0, .slice none 0 0, .slice none 0 0, .slice none 0 0, .slice none 0 0, .bool false, .slice none 0 0]) rfl rfl rfl rfl)
  have HG2 := hide (unhide HF2).ge
  go_upto_region 22 with fail
  generalize (w2.alloc (.cells #[.int .i64 b, .int .i64 2, .slice (some ⟨w.heap.size, 0, none⟩) n n, .slice none 0 0, .slice none 0 0, .slice none 0 0, .int .i64 0, .slice none 0 0, .slice none 0 0, .slice none 0 0, .slice none 0 0, .int .i64 0, .int .i64 0, .slice none 0 0, .slice none 0 0, .int .i64 0, .slice none 0 0, .slice none 0 0] 46)).alloc (.cells #[.pointer none, .pointer none, .slice none 0 0, .slice none 0 0, .slice none 0 0, .int .u64 0, .int .u32 0, .int .u64 0, .int .i64 0, .int .u64 0, .slice none 0 0, .int .u8 0, .int .u8 0, .int .u8 0, .int .u8 0, .int .u8 0, .int .u8 0, .int .u8 0, .int .u8 0, .int .u8 0, .int .u8 0, .int .u8 0, .int .u8 0, .int .u8 0, .int .u8 0, .int .u8 0, .int .u8 0, .int .u8 0, .int .u8 0, .int .u8 0, .int .u8 0, .int .u8 0, .int .u8 0, .int .u8 0, .int .u8 0, .int .u8 0, .int .u8 0, .int .u8 0, .int .u8 0, .int .u8 0, .int .u8 0, .int .u8 0, .int .u8 0, .slice none 0 0, .slice none 0 0, .slice (some ⟨w.heap.size + 1 + 1, 0, none⟩) h h, .slice none 0 0, .slice none 0 0, .int .i64 0, .bool false, .slice none 0 0, .slice none 0 0, .slice none 0 0, .slice none 0 0, .slice none 0 0, .bool false, .slice none 0 0] 66) = w3 at HQ ⊢
  clear HF2 z46 z66
  generalize w2.heap.size = O at HQ HG2 ⊢
  go_cut [] (fun wd => ∃ w0 br bs, w3.grownBy w0 none ∧ Ly w0 wd O w.heap.size b n br bs (rv b K f u n) (fun j => hsTo H h j n) h 0)
  case first =>
    obtain ⟨V, hO, Hh, hf, hu, gw, n1, n3⟩ := unhide HQ
    go_wp2_with (go_at_call 4; refine (layout_walk hf hu V hO n1 n3 Hh hK hm h4 b1 b4).mono ?_; rintro e w4 ⟨rfl, w0, br, bs, g0, Y⟩)
    go_meet
    case rel => exact ⟨w0, br, bs, g0, Y⟩
  case rest =>
    obtain ⟨w0, br, bs, g0, Y⟩ := hcut
    obtain ⟨V, hO, Hh, hf, hu, gw, n1, n3⟩ := unhide HQ
    have ge := unhide HG2
    obtain ⟨l0, l2, l13, l14, _, _, _, _, _, _⟩ := Y.tb.look
    have gA := grown_above (gw.trans g0) Y.tb.g (by omega)
    have gx := World.grownBy_alloc wc (.cells (reps n (.int .i64 0)) 3) none
    have hnew := heap_new wc (.cells (reps n (.int .i64 0)) 3)
    obtain ⟨cr, r1, r2, r3⟩ := Y.tb.rb
    have lbr := (Array.getElem?_eq_some_iff.1 r1).1
    have lO := cell_lt l13
    simp only at lO
    have HX : Hid (Xp w (wc.alloc (.cells (reps n (.int .i64 0)) 3)) (wc.alloc (.cells (reps n (.int .i64 0)) 3)) wc.heap.size n (rv b K f u n) 0) := hide ⟨World.grownBy.refl _ _, gA.trans gx, _, hnew, size_reps _ _, fun i hi => by omega⟩
    have HR : Hid (∀ i, i < n → (wc.alloc (.cells (reps n (.int .i64 0)) 3)).cell? ⟨br, i, none⟩ = some (.int .u8 (rv b K f u n i))) := hide (fun i hi => kc (cell_of r1 (r3 i hi)))
    have o13 := kc (o := .cells (reps n (.int .i64 0)) 3) l13
    have HY := hide Y
    have HH := hide ((Hh.grown (g0.but _)).grown Y.tb.g)
    have m44 := mk44 n (by omega)
    have hwx := gA.size
    have n4 : O ≠ wc.heap.size := by omega
    have n5 : br ≠ wc.heap.size := by omega
    clear V hO Hh hf hu n3 HQ HG2 l0 l2 r1 r2 r3 gx hnew Y gA n1 gw g0
    go_wp2_with fail
    clear m44 l13
    change Code.wp Yba.prog (Code.loop body2) _ _ _
    change Code.wp _ _ (Exit.inBlock 2 (Exit.then _ (bodyPost Yba.prog Yba.f3 _))) _ _
    apply loop2 (HN := HN) (HX := HX) (o13 := o13) (HR := HR) (n1 := n4) (n2 := n5) (hx := hwx) (hK := hK) (hm := hm) (b1 := b1) (b4 := b4)
    intro u6 u19 u20 u21 u22 u23 u24 u147 u148 u149 u150 u151 u152 u153 u154 u155 u156 u157 u158 u159 u160 u161 u162 u163 u164 u165 u166 u167 u168 u169 u170 u171 u172 u173 u174 u175 u176 u177 u178 u179 u180 u181 u182 u183 u184 u185 u186 u187 u188 u189 u190 u191 u192 u193 u194 u195 u196 u197 u198 u199 u200 u201 u202 u203 u204 u205 u206 u207 u208 u209 u210 u211 u212 u213 u214 u215 u216 u217 u218 u219 u220 u221 u222 u223 u224 u225 u226 u227 u228 u229 u230 u231 u232 w5 X5
    have kx : ∀ (x : Addr) (v : Value), wc.cell? x = some v → w5.cell? x = some v := fun x v hc => X5.gx.cell (kc hc) (by have := cell_lt hc; simp; omega)
    have HRd : Hid (Rd w5 O (w.heap.size + 1 + 1) bs wc.heap.size b n h (rv b K f u n) (fun j => hsTo H h j n)) := hide ⟨fun j hj => by
        obtain ⟨a, cap, q1, q2⟩ := (unhide HH).row j hj
        refine ⟨a, cap, kx _ _ q1, fun q v hv => ?_⟩
        obtain ⟨p, e1, _, e2⟩ := q2 q v hv
        exact ⟨p, e1, kx _ _ e2⟩, (unhide HH).lt, (unhide HH).len, fun v hv => by
        obtain ⟨c, q1, q2, q3⟩ := X5.hc
        exact cell_of q1 (q3 v hv), kx _ _ l14, fun j q v hj hv => kx _ _ ((unhide HY).st j q v (.inl hj) hv)⟩
    have o15 := kx _ _ (unhide HY).ent
    have HG5 := hide X5.g
    clear X5 kx HY HH HX HR o13 l14
    go_wp2_with fail
    change Code.wp Yba.prog (Code.loop body5) _ _ _
    change Code.wp _ _ (Exit.inBlock 8 (Exit.then _ (bodyPost Yba.prog Yba.f3 _))) _ _
    apply loop5 (HR := HRd) (Hr := hide (fun v => rv_bd b K f u n v b1)) (hm := hm) (h4 := h4) (b1 := b1) (b4 := b4)
    intro u6 u26 u27 u29 u30 u31 u32 u33 u233 u234 u235 u236 u237 u238 u239 u240 u241 u242 u243 u244 u245 u246 u247 u248 u249 u250 u251 u252 u253 u254 u255 u256 u257 u258 u259 u260 u261 u262 u263 u264 u265 u266 u267 u268 u269 u270 u271 u272 u273 u274 u275 u276 u277 u278 u279 u280 u281 u282 u283 u284 u285 u286 u287 u288
    go_wp2_with fail
    go_ret
    exact ⟨by simp, below_of (unhide HG5)⟩

set_option maxRecDepth 1000000 in
theorem lay_walk (sb sh : Int) (sb0 : 0 ≤ sb) (sb1 : sb ≤ 255) (sh0 : 0 ≤ sh) (sh1 : sh ≤ 255) (a : Option Addr) (n cap : Nat) (K : Nat → Nat) (f u : Nat → Int) (H : Nat → Nat) (w : World) (hN : Nd a n K f u H w) (hK : ∀ i, K i < 4294967296) (hH : ∀ i, H i < 256) :
    Calls Yba.prog 3 #[.int .u8 sb, .int .u8 sh, .slice a n cap] w fun e w' => e = .returned (.bool true) ∧ Below w.heap.size w w' := by
  by_cases hm : n ≤ 1024
  · exact lay_main sb sh (sb % 4 + 1).toNat (sh % 4 + 1).toNat (by omega) (by omega) sb0 sb1 sh0 sh1 a n cap K f u H w hN hK hH hm
  · have t1 : (1024 : Int) < (n : Int) := by omega
    clear hN
    go_enter Yba.func3, Yba.ntmps3
    go_wp2_with fail
    go_ret
    exact ⟨rfl, Below.refl _ _⟩
end Go.Proofs.Ybulkads
