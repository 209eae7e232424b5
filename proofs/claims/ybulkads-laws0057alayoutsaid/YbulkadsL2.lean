import Derived.Test.YbulkadsL4
namespace Go.Proofs.Ybulkads
open Go.RowKit

noncomputable def body2 : Code := bodies.getD 1 .skip

/-- the expected rows while they are reckoned -/
structure Xp (w wx wr : World) (ex n : Nat) (r : Nat → Int) (k : Nat) : Prop where
  gx : wx.grownBy wr (some ex)
  g : w.grownBy wr none
  hc : ∃ c : Array Value, wr.heap[ex]? = some (.cells c 3) ∧ c.size = n ∧ ∀ i, i < k → c[i]? = some (.int .i64 (r i))
theorem Xp.grown {w wx wr w' : World} {ex n k : Nat} {r : Nat → Int} (h : Xp w wx wr ex n r k) (g : wr.grownBy w' none) : Xp w wx w' ex n r k := by
  obtain ⟨c, h1, h2⟩ := h.hc
  exact ⟨h.gx.trans (g.but _), h.g.trans g, c, kb g h1, h2⟩
theorem Xp.put {w wx wr : World} {ex n k : Nat} {r : Nat → Int} (h : Xp w wx wr ex n r k) (hk : k < n) (hx : w.heap.size ≤ ex) : Xp w wx (wr.setCell ⟨ex, k, none⟩ (.int .i64 (r k))) ex n r (k + 1) := by
  obtain ⟨c, h1, h2, h3⟩ := h.hc
  have gs := grown_setCell wr ⟨ex, k, none⟩ (.int .i64 (r k))
  refine ⟨h.gx.trans gs, grown_above h.g gs hx, _, heap_set h1, by simpa using h2, fun i hi => ?_⟩
  by_cases e : k = i
  · subst e; simp [h2, hk]
  · simp only [Array.getElem?_setIfInBounds, e, if_false]
    exact h3 i (by omega)

set_option maxRecDepth 1000000 in
set_option maxHeartbeats 6400000 in
theorem loop2 (c0 c1 c3 c4 c5 c6 c8 c10 c11 c12 c13 c14 c15 c17 c20 c21 c22 c23 c24 c25 c26 c27 c28 c29 c30 c31 c32 c33 c34 c35 c36 c37 c38 c39 c40 c41 c42 c43 c44 c45 c46 c47 c48 c49 c50 c51 c52 c53 c54 c55 c56 c57 c58 c59 c60 c61 c62 c63 c64 c65 c66 c67 c68 c69 c70 c71 c72 c73 c74 c75 c76 c77 c78 c79 c80 c81 c82 c83 c84 c85 c86 c87 c88 c89 c90 c91 c92 c93 c94 c95 c96 c97 c98 c99 c100 c101 c102 c103 c104 c105 c106 c107 c108 c109 c110 c111 c112 c113 c114 c115 c116 c117 c118 c119 c120 c121 c122 c123 c124 c125 c126 c127 c128 c129 c130 c131 c132 c133 c134 c135 c136 c137 c138 c139 c140 c141 c142 c143 c144 c145 c146 c147 c148 c149 c150 c151 c152 c153 c154 c155 c156 c157 c158 c159 c160 c161 c162 c163 c164 c165 c166 c167 c168 c169 c170 c171 c172 c173 c174 c175 c176 c177 c178 c179 c180 c181 c182 c183 c184 c185 c186 c187 c188 c189 c190 c191 c192 c193 c194 c195 c196 c197 c198 c199 c200 c201 c202 c203 c204 c205 c206 c207 c208 c209 c210 c211 c212 c213 c214 c215 c216 c217 c218 c219 c220 c221 c222 c223 c224 c225 c226 c227 c228 c229 c230 c231 c232 c233 c234 c235 c236 c237 c238 c239 c240 c241 c242 c243 c244 c245 c246 c247 c248 c249 c250 c251 c252 c253 c254 c255 c256 c257 c258 c259 c260 c261 c262 c263 c264 c265 c266 c267 c268 c269 c270 c271 c272 c273 c274 c275 c276 c277 c278 c279 c280 c281 c282 c283 c284 c285 c286 c287 c288 c289 c290 c291 c292 c293 c294 : Value) (a : Option Addr) (cap n b O br ex : Nat) (K : Nat → Nat) (f u : Nat → Int) (H : Nat → Nat) (w wx : World) (K' : Act → World → Prop) (P : Ending → World → Prop)
    (HN : Hid (Nd a n K f u H w)) (HX : Hid (Xp w wx wx ex n (rv b K f u n) 0)) (o13 : wx.cell? ⟨O, 13, none⟩ = some (.slice (some ⟨br, 0, none⟩) n n)) (HR : Hid (∀ i, i < n → wx.cell? ⟨br, i, none⟩ = some (.int .u8 (rv b K f u n i)))) (n1 : O ≠ ex) (n2 : br ≠ ex) (hx : w.heap.size ≤ ex)
    (hK : ∀ i, K i < 4294967296) (hm : n ≤ 1024) (b1 : 1 ≤ b) (b4 : b ≤ 4)
    (hexit : ∀ (u6 u19 u20 u21 u22 u23 u24 u147 u148 u149 u150 u151 u152 u153 u154 u155 u156 u157 u158 u159 u160 u161 u162 u163 u164 u165 u166 u167 u168 u169 u170 u171 u172 u173 u174 u175 u176 u177 u178 u179 u180 u181 u182 u183 u184 u185 u186 u187 u188 u189 u190 u191 u192 u193 u194 u195 u196 u197 u198 u199 u200 u201 u202 u203 u204 u205 u206 u207 u208 u209 u210 u211 u212 u213 u214 u215 u216 u217 u218 u219 u220 u221 u222 u223 u224 u225 u226 u227 u228 u229 u230 u231 u232 : Value) (w' : World), Xp w wx w' ex n (rv b K f u n) n → K' ⟨List.toArray (c0 :: c1 :: (.slice a n cap) :: c3 :: c4 :: c5 :: u6 :: (.int .i64 b) :: c8 :: (.int .i64 n) :: c10 :: c11 :: c12 :: c13 :: c14 :: c15 :: (.pointer (some ⟨O, 0, none⟩)) :: c17 :: (.slice (some ⟨ex, 0, none⟩) n n) :: u19 :: u20 :: u21 :: u22 :: u23 :: u24 :: c25 :: c26 :: c27 :: c28 :: c29 :: c30 :: c31 :: c32 :: c33 :: c34 :: c35 :: c36 :: c37 :: c38 :: c39 :: c40 :: c41 :: c42 :: c43 :: c44 :: c45 :: c46 :: c47 :: c48 :: c49 :: c50 :: c51 :: c52 :: c53 :: c54 :: c55 :: c56 :: c57 :: c58 :: c59 :: c60 :: c61 :: c62 :: c63 :: c64 :: c65 :: c66 :: c67 :: c68 :: c69 :: c70 :: c71 :: c72 :: c73 :: c74 :: c75 :: c76 :: c77 :: c78 :: c79 :: c80 :: c81 :: c82 :: c83 :: c84 :: c85 :: c86 :: c87 :: c88 :: c89 :: c90 :: c91 :: c92 :: c93 :: c94 :: c95 :: c96 :: c97 :: c98 :: c99 :: c100 :: c101 :: c102 :: c103 :: c104 :: c105 :: c106 :: c107 :: c108 :: c109 :: c110 :: c111 :: c112 :: c113 :: c114 :: c115 :: c116 :: c117 :: c118 :: c119 :: c120 :: c121 :: c122 :: c123 :: c124 :: c125 :: c126 :: c127 :: c128 :: c129 :: c130 :: c131 :: c132 :: c133 :: c134 :: c135 :: c136 :: c137 :: c138 :: c139 :: c140 :: c141 :: c142 :: c143 :: c144 :: c145 :: c146 :: u147 :: u148 :: u149 :: u150 :: u151 :: u152 :: u153 :: u154 :: u155 :: u156 :: u157 :: u158 :: u159 :: u160 :: u161 :: u162 :: u163 :: u164 :: u165 :: u166 :: u167 :: u168 :: u169 :: u170 :: u171 :: u172 :: u173 :: u174 :: u175 :: u176 :: u177 :: u178 :: u179 :: u180 :: u181 :: u182 :: u183 :: u184 :: u185 :: u186 :: u187 :: u188 :: u189 :: u190 :: u191 :: u192 :: u193 :: u194 :: u195 :: u196 :: u197 :: u198 :: u199 :: u200 :: u201 :: u202 :: u203 :: u204 :: u205 :: u206 :: u207 :: u208 :: u209 :: u210 :: u211 :: u212 :: u213 :: u214 :: u215 :: u216 :: u217 :: u218 :: u219 :: u220 :: u221 :: u222 :: u223 :: u224 :: u225 :: u226 :: u227 :: u228 :: u229 :: u230 :: u231 :: u232 :: c233 :: c234 :: c235 :: c236 :: c237 :: c238 :: c239 :: c240 :: c241 :: c242 :: c243 :: c244 :: c245 :: c246 :: c247 :: c248 :: c249 :: c250 :: c251 :: c252 :: c253 :: c254 :: c255 :: c256 :: c257 :: c258 :: c259 :: c260 :: c261 :: c262 :: c263 :: c264 :: c265 :: c266 :: c267 :: c268 :: c269 :: c270 :: c271 :: c272 :: c273 :: c274 :: c275 :: c276 :: c277 :: c278 :: c279 :: c280 :: c281 :: c282 :: c283 :: c284 :: c285 :: c286 :: c287 :: c288 :: c289 :: c290 :: c291 :: c292 :: c293 :: c294 :: []), []⟩ w') :
    Code.wp Yba.prog (Code.loop body2) (Exit.inBlock 2 (Exit.then K' (bodyPost Yba.prog Yba.f3 P))) ⟨List.toArray (c0 :: c1 :: (.slice a n cap) :: c3 :: c4 :: c5 :: c6 :: (.int .i64 b) :: c8 :: (.int .i64 n) :: c10 :: c11 :: c12 :: c13 :: c14 :: c15 :: (.pointer (some ⟨O, 0, none⟩)) :: c17 :: (.slice (some ⟨ex, 0, none⟩) n n) :: (.int .i64 0) :: c20 :: c21 :: c22 :: c23 :: c24 :: c25 :: c26 :: c27 :: c28 :: c29 :: c30 :: c31 :: c32 :: c33 :: c34 :: c35 :: c36 :: c37 :: c38 :: c39 :: c40 :: c41 :: c42 :: c43 :: c44 :: c45 :: c46 :: c47 :: c48 :: c49 :: c50 :: c51 :: c52 :: c53 :: c54 :: c55 :: c56 :: c57 :: c58 :: c59 :: c60 :: c61 :: c62 :: c63 :: c64 :: c65 :: c66 :: c67 :: c68 :: c69 :: c70 :: c71 :: c72 :: c73 :: c74 :: c75 :: c76 :: c77 :: c78 :: c79 :: c80 :: c81 :: c82 :: c83 :: c84 :: c85 :: c86 :: c87 :: c88 :: c89 :: c90 :: c91 :: c92 :: c93 :: c94 :: c95 :: c96 :: c97 :: c98 :: c99 :: c100 :: c101 :: c102 :: c103 :: c104 :: c105 :: c106 :: c107 :: c108 :: c109 :: c110 :: c111 :: c112 :: c113 :: c114 :: c115 :: c116 :: c117 :: c118 :: c119 :: c120 :: c121 :: c122 :: c123 :: c124 :: c125 :: c126 :: c127 :: c128 :: c129 :: c130 :: c131 :: c132 :: c133 :: c134 :: c135 :: c136 :: c137 :: c138 :: c139 :: c140 :: c141 :: c142 :: c143 :: c144 :: c145 :: c146 :: c147 :: c148 :: c149 :: c150 :: c151 :: c152 :: c153 :: c154 :: c155 :: c156 :: c157 :: c158 :: c159 :: c160 :: c161 :: c162 :: c163 :: c164 :: c165 :: c166 :: c167 :: c168 :: c169 :: c170 :: c171 :: c172 :: c173 :: c174 :: c175 :: c176 :: c177 :: c178 :: c179 :: c180 :: c181 :: c182 :: c183 :: c184 :: c185 :: c186 :: c187 :: c188 :: c189 :: c190 :: c191 :: c192 :: c193 :: c194 :: c195 :: c196 :: c197 :: c198 :: c199 :: c200 :: c201 :: c202 :: c203 :: c204 :: c205 :: c206 :: c207 :: c208 :: c209 :: c210 :: c211 :: c212 :: c213 :: c214 :: c215 :: c216 :: c217 :: c218 :: c219 :: c220 :: c221 :: c222 :: c223 :: c224 :: c225 :: c226 :: c227 :: c228 :: c229 :: c230 :: c231 :: c232 :: c233 :: c234 :: c235 :: c236 :: c237 :: c238 :: c239 :: c240 :: c241 :: c242 :: c243 :: c244 :: c245 :: c246 :: c247 :: c248 :: c249 :: c250 :: c251 :: c252 :: c253 :: c254 :: c255 :: c256 :: c257 :: c258 :: c259 :: c260 :: c261 :: c262 :: c263 :: c264 :: c265 :: c266 :: c267 :: c268 :: c269 :: c270 :: c271 :: c272 :: c273 :: c274 :: c275 :: c276 :: c277 :: c278 :: c279 :: c280 :: c281 :: c282 :: c283 :: c284 :: c285 :: c286 :: c287 :: c288 :: c289 :: c290 :: c291 :: c292 :: c293 :: c294 :: []), []⟩ wx := by
  conv => arg 2; arg 1; whnf
  go_loopg [19] n (fun g i wr => ∃ k : Nat, g = n - k ∧ k ≤ n ∧ i = .int .i64 k ∧ Xp w wx wr ex n (rv b K f u n) k)
  case atStart => exact ⟨0, by omega, by omega, rfl, unhide HX⟩
  case round =>
    clear HX
    obtain ⟨k, hgk, hk, rfl, X⟩ := hrel
    have HX := hide X
    clear X
    by_cases hlt : k < n
    · clear hexit
      go_wp2_with fail
      change Code.wp Yba.prog (Code.loop body3) _ _ _
      apply loop3 (HN := hide ((unhide HN).grown (unhide HX).g)) (hK := hK) (hm := hm) (b1 := b1) (b4 := b4) (hi := hlt)
      intro u21 u22 u154 u155 u156 u157 u158 u159 u160 u161 u162 u163 u164 u165 u166 u167 u168 u169 u170 u171 u172 u173 u174 u175 u176 u177 u178 u179 u180 u181 u182 w3 g3
      replace HX := hide ((unhide HX).grown g3)
      clear g3
      go_wp2_with fail
      change Code.wp Yba.prog (Code.loop body4) _ _ _
      apply loop4 (HN := hide ((unhide HN).grown (unhide HX).g)) (hK := hK) (hm := hm) (b1 := b1) (b4 := b4) (hi := hlt) (hB := (dn_bd b K f u k b1 k).1)
      intro u23 u24 u185 u186 u187 u188 u189 u190 u191 u192 u193 u194 u195 u196 u197 u198 u199 u200 u201 u202 u203 u204 u205 u206 u207 u208 u209 u210 u211 u212 u213 u214 w4 g4
      replace HX := hide ((unhide HX).grown g4)
      clear g4
      have hrv : rv b K f u n k = max (dn b K f u k k) (up b K f u k (n - (k + 1)) (k + 1)) + 1 := rfl
      have bd := rv_bd b K f u n k b1
      generalize max (dn b K f u k k) (up b K f u k (n - (k + 1)) (k + 1)) = s at hrv ⊢
      have X5 := (unhide HX).put hlt hx
      rw [hrv] at X5 bd
      obtain ⟨c, q1, q2, q3⟩ := (unhide HX).hc
      have y1 : w4.cell? ⟨ex, k, none⟩ = some (c[k]'(by omega)) := cell_of q1 (by simp)
      have y2 := froz_of q1 k
      generalize c[k]'(by omega) = x1 at y1
      have y3 : (w4.setCell ⟨ex, k, none⟩ (.int .i64 (s + 1))).cell? ⟨ex, k, none⟩ = some (.int .i64 (s + 1)) := World.cell?_setCell_same _ _ _ y1
      have y4 := X5.gx.cell o13 (by simpa using n1)
      have y5 := X5.gx.cell (unhide HR k hlt) (by simpa using n2)
      rw [hrv] at y5
      have H5 := hide X5
      have hw1 : IntKind.i64.wrap (s + 1) = s + 1 := by rw [IntKind.wrap_i64]; omega
      have hw2 : wrap64 (s + 1) = s + 1 := by unfold wrap64; omega
      have i1 : (0 : Int) ≤ (k : Int) := by omega
      have i2 : (k : Int) < (n : Int) := by omega
      clear X5 q1 q2 q3 hrv
      go_upto_region 45 with fail
      generalize w4.setCell ⟨ex, k, none⟩ (.int .i64 (s + 1)) = w5 at y3 y4 y5 H5 ⊢
      clear y1 y2
      go_quiet (fail)
      clear y3 y4 y5
      go_wp2_with fail
      go_roundg (n - (k + 1))
      case measure => omega
      case rel => exact ⟨k + 1, rfl, by omega, by go_num, (unhide H5).grown (grown_drewN _ _)⟩
    · obtain rfl : n = k := by omega
      go_wp2_with fail
      exact unhide HX

end Go.Proofs.Ybulkads
