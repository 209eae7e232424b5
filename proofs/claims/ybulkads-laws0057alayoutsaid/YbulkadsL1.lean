import Derived.Test.YbulkadsFl
import Derived.BigRegion
import Derived.Deep.RegionHeld3
namespace Go.Proofs.Ybulkads
open Go.RowKit

def loopsOf : Code → List Code
  | .loop c => c :: loopsOf c
  | .seq a b => loopsOf a ++ loopsOf b
  | .block _ c => loopsOf c
  | .scope c => loopsOf c
  | .cond _ a b => loopsOf a ++ loopsOf b
  | _ => []
noncomputable def bodies : List Code := ((Yba.f3.body.map loopsOf).getD [])
noncomputable def body1 : Code := bodies.getD 0 .skip

/-- the nodes as they are handed in -/
def Nd (a : Option Addr) (n : Nat) (K : Nat → Nat) (f u : Nat → Int) (H : Nat → Nat) (w : World) : Prop :=
  ∀ k, k < n → ∃ b off, a = some ⟨b, off, none⟩ ∧ w.cell? ⟨b, off + k * 4, none⟩ = some (.int .u32 (K k)) ∧ w.cell? ⟨b, off + k * 4 + 1, none⟩ = some (.int .u64 (f k)) ∧ w.cell? ⟨b, off + k * 4 + 2, none⟩ = some (.int .u64 (u k)) ∧ w.cell? ⟨b, off + k * 4 + 3, none⟩ = some (.int .u8 (H k))
theorem Nd.grown {a : Option Addr} {n : Nat} {K : Nat → Nat} {f u : Nat → Int} {H : Nat → Nat} {w w' : World} (h : Nd a n K f u H w) (g : w.grownBy w' none) : Nd a n K f u H w' := fun k hk => by
  obtain ⟨b, off, e, h0, h1, h2, h3⟩ := h k hk
  exact ⟨b, off, e, g.cell h0 (by simp), g.cell h1 (by simp), g.cell h2 (by simp), g.cell h3 (by simp)⟩
/-- the round's own variable -/
def Nv (bn : Nat) (Kk : Nat) (fk uk : Int) (Hk : Nat) (w : World) : Prop :=
  w.cell? ⟨bn, 0, none⟩ = some (.int .u32 Kk) ∧ w.cell? ⟨bn, 1, none⟩ = some (.int .u64 fk) ∧ w.cell? ⟨bn, 2, none⟩ = some (.int .u64 uk) ∧ w.cell? ⟨bn, 3, none⟩ = some (.int .u8 Hk)
theorem Nv.set {bn Kk Hk : Nat} {fk uk : Int} {w : World} (h : Nv bn Kk fk uk Hk w) {b : Nat} {w' : World} (g : w.grownBy w' (some b)) (hn : bn ≠ b) : Nv bn Kk fk uk Hk w' :=
  ⟨g.cell h.1 (by simpa using hn), g.cell h.2.1 (by simpa using hn), g.cell h.2.2.1 (by simpa using hn), g.cell h.2.2.2 (by simpa using hn)⟩

theorem zero34 (w : World) : (zeroValue 34).run Yba.prog w = .ok (.agg #[.int .u8 0, .int .u8 0, .int .u8 0, .int .u8 0, .int .u8 0, .int .u8 0, .int .u8 0, .int .u8 0, .int .u8 0, .int .u8 0, .int .u8 0, .int .u8 0, .int .u8 0, .int .u8 0, .int .u8 0, .int .u8 0, .int .u8 0, .int .u8 0, .int .u8 0, .int .u8 0, .int .i32 0, .int .u64 0, .int .u64 0, .int .u64 0]) w := by kernel_rfl
theorem info34 : (Yba.prog.info? 34).map (·.size) = some 24 := by kernel_rfl
theorem info21 : (Yba.prog.info? 21).map (fun i => (i.zero, i.size, i.bytes)) = some (some (.int .i32 0), 1, 4) := by kernel_rfl
theorem row_ne {v : Value} {b : Nat} (h : v.ownBlock = none ∨ v.ownBlock ≠ some b) : some b ≠ v.ownBlock := fun e => by
  rcases h with h | h
  · rw [h] at e; cases e
  · exact h e.symm
theorem Fl.rowFroz {w w1 wr w3 : World} {bi be bh n h : Nat} {K : Nat → Nat} {f u : Nat → Int} {hs : Nat → List Nat} {val : Nat → Value} {k m p : Nat} (F : Fl w w1 wr bi be bh n h K f u hs val k m p) (j : Nat) (g : wr.grownBy w3 (val j).ownBlock) (x : Nat) : w3.frozen? ⟨bh, x, none⟩ = false := by
  obtain ⟨c, h1, _⟩ := F.hb
  have ge := F.ge
  exact froz_grown g (froz_of h1 x) (by simp; omega) (row_ne (F.rowNe j ge.2.2.2.2.2.1))
theorem hs_put (H : Nat → Nat) (h k : Nat) : put1 (fun j => hsTo H h j k) (H k % h) (hsTo H h (H k % h) k ++ [k]) = fun j => hsTo H h j (k + 1) := by
  funext j
  by_cases e : j = H k % h
  · subst e; simp [put1, hsTo]
  · have e' : ¬ H k % h = j := fun x => e x.symm
    simp [put1, hsTo, e, e']
theorem bv0 {a : Nat} (h : a < 4294967296) : ((bt a 0 : Nat) : Int) = (a : Int) / 16777216 := by simp [bt]; omega
theorem bv1 {a : Nat} (_ : a < 4294967296) : ((bt a 1 : Nat) : Int) = (a : Int) / 65536 % 256 := by simp [bt]
theorem bv2 {a : Nat} (_ : a < 4294967296) : ((bt a 2 : Nat) : Int) = (a : Int) / 256 % 256 := by simp [bt]
theorem bv3 {a : Nat} (_ : a < 4294967296) : ((bt a 3 : Nat) : Int) = (a : Int) % 256 := by simp [bt]
set_option maxRecDepth 1000000 in
set_option maxHeartbeats 6400000 in
theorem loop1 (c0 c1 c3 c4 c5 c6 c7 c14 c15 c16 c17 c18 c19 c20 c21 c22 c23 c24 c25 c26 c27 c28 c29 c30 c31 c32 c33 c34 c35 c36 c37 c38 c39 c40 c41 c42 c43 c44 c45 c46 c47 c48 c49 c50 c51 c52 c53 c54 c55 c56 c57 c58 c59 c60 c61 c62 c63 c64 c65 c66 c67 c68 c69 c70 c71 c72 c73 c74 c75 c76 c77 c78 c79 c80 c81 c82 c83 c84 c85 c86 c87 c88 c89 c90 c91 c92 c93 c94 c95 c96 c97 c98 c99 c100 c101 c102 c103 c104 c105 c106 c107 c108 c109 c110 c111 c112 c113 c114 c115 c116 c117 c118 c119 c120 c121 c122 c123 c124 c125 c126 c127 c128 c129 c130 c131 c132 c133 c134 c135 c136 c137 c138 c139 c140 c141 c142 c143 c144 c145 c146 c147 c148 c149 c150 c151 c152 c153 c154 c155 c156 c157 c158 c159 c160 c161 c162 c163 c164 c165 c166 c167 c168 c169 c170 c171 c172 c173 c174 c175 c176 c177 c178 c179 c180 c181 c182 c183 c184 c185 c186 c187 c188 c189 c190 c191 c192 c193 c194 c195 c196 c197 c198 c199 c200 c201 c202 c203 c204 c205 c206 c207 c208 c209 c210 c211 c212 c213 c214 c215 c216 c217 c218 c219 c220 c221 c222 c223 c224 c225 c226 c227 c228 c229 c230 c231 c232 c233 c234 c235 c236 c237 c238 c239 c240 c241 c242 c243 c244 c245 c246 c247 c248 c249 c250 c251 c252 c253 c254 c255 c256 c257 c258 c259 c260 c261 c262 c263 c264 c265 c266 c267 c268 c269 c270 c271 c272 c273 c274 c275 c276 c277 c278 c279 c280 c281 c282 c283 c284 c285 c286 c287 c288 c289 c290 c291 c292 c293 c294 : Value) (a : Option Addr) (cap bi be bh n h : Nat) (K : Nat → Nat) (f u : Nat → Int) (H : Nat → Nat) (val0 : Nat → Value) (w w1 : World) (K' : Act → World → Prop) (P : Ending → World → Prop)
    (HN : Hid (Nd a n K f u H w)) (HF : Hid (Fl w w1 w1 bi be bh n h K f u (fun _ => []) val0 0 0 0)) (hK : ∀ i, K i < 4294967296) (hH : ∀ i, H i < 256) (hm : n ≤ 1024) (h1 : 1 ≤ h) (h4 : h ≤ 4)
    (hexit : ∀ (u13 u14 u15 u53 u54 u55 u56 u57 u58 u59 u60 u61 u62 u63 u64 u65 u66 u67 u68 u69 u70 u71 u72 u73 u74 u75 u76 u77 u78 u79 u80 u81 u82 u83 u84 u85 u86 u87 u88 u89 u90 u91 u92 u93 u94 u95 u96 u97 u98 u99 u100 u101 u102 u103 u104 u105 u106 u107 u108 u109 u110 u111 u112 u113 u114 u115 u116 : Value) (w' : World), (∃ val, Fl w w1 w' bi be bh n h K f u (fun j => hsTo H h j n) val n 0 n) → K' ⟨List.toArray (c0 :: c1 :: (.slice a n cap) :: c3 :: c4 :: c5 :: c6 :: c7 :: (.int .i64 h) :: (.int .i64 n) :: (.slice (some ⟨bi, 0, none⟩) n n) :: (.slice (some ⟨be, 0, none⟩) n n) :: (.slice (some ⟨bh, 0, none⟩) h h) :: u13 :: u14 :: u15 :: c16 :: c17 :: c18 :: c19 :: c20 :: c21 :: c22 :: c23 :: c24 :: c25 :: c26 :: c27 :: c28 :: c29 :: c30 :: c31 :: c32 :: c33 :: c34 :: c35 :: c36 :: c37 :: c38 :: c39 :: c40 :: c41 :: c42 :: c43 :: c44 :: c45 :: c46 :: c47 :: c48 :: c49 :: c50 :: c51 :: c52 :: u53 :: u54 :: u55 :: u56 :: u57 :: u58 :: u59 :: u60 :: u61 :: u62 :: u63 :: u64 :: u65 :: u66 :: u67 :: u68 :: u69 :: u70 :: u71 :: u72 :: u73 :: u74 :: u75 :: u76 :: u77 :: u78 :: u79 :: u80 :: u81 :: u82 :: u83 :: u84 :: u85 :: u86 :: u87 :: u88 :: u89 :: u90 :: u91 :: u92 :: u93 :: u94 :: u95 :: u96 :: u97 :: u98 :: u99 :: u100 :: u101 :: u102 :: u103 :: u104 :: u105 :: u106 :: u107 :: u108 :: u109 :: u110 :: u111 :: u112 :: u113 :: u114 :: u115 :: u116 :: c117 :: c118 :: c119 :: c120 :: c121 :: c122 :: c123 :: c124 :: c125 :: c126 :: c127 :: c128 :: c129 :: c130 :: c131 :: c132 :: c133 :: c134 :: c135 :: c136 :: c137 :: c138 :: c139 :: c140 :: c141 :: c142 :: c143 :: c144 :: c145 :: c146 :: c147 :: c148 :: c149 :: c150 :: c151 :: c152 :: c153 :: c154 :: c155 :: c156 :: c157 :: c158 :: c159 :: c160 :: c161 :: c162 :: c163 :: c164 :: c165 :: c166 :: c167 :: c168 :: c169 :: c170 :: c171 :: c172 :: c173 :: c174 :: c175 :: c176 :: c177 :: c178 :: c179 :: c180 :: c181 :: c182 :: c183 :: c184 :: c185 :: c186 :: c187 :: c188 :: c189 :: c190 :: c191 :: c192 :: c193 :: c194 :: c195 :: c196 :: c197 :: c198 :: c199 :: c200 :: c201 :: c202 :: c203 :: c204 :: c205 :: c206 :: c207 :: c208 :: c209 :: c210 :: c211 :: c212 :: c213 :: c214 :: c215 :: c216 :: c217 :: c218 :: c219 :: c220 :: c221 :: c222 :: c223 :: c224 :: c225 :: c226 :: c227 :: c228 :: c229 :: c230 :: c231 :: c232 :: c233 :: c234 :: c235 :: c236 :: c237 :: c238 :: c239 :: c240 :: c241 :: c242 :: c243 :: c244 :: c245 :: c246 :: c247 :: c248 :: c249 :: c250 :: c251 :: c252 :: c253 :: c254 :: c255 :: c256 :: c257 :: c258 :: c259 :: c260 :: c261 :: c262 :: c263 :: c264 :: c265 :: c266 :: c267 :: c268 :: c269 :: c270 :: c271 :: c272 :: c273 :: c274 :: c275 :: c276 :: c277 :: c278 :: c279 :: c280 :: c281 :: c282 :: c283 :: c284 :: c285 :: c286 :: c287 :: c288 :: c289 :: c290 :: c291 :: c292 :: c293 :: c294 :: []), []⟩ w') :
    Code.wp Yba.prog (Code.loop body1) (Exit.inBlock 0 (Exit.then K' (bodyPost Yba.prog Yba.f3 P))) ⟨List.toArray (c0 :: c1 :: (.slice a n cap) :: c3 :: c4 :: c5 :: c6 :: c7 :: (.int .i64 h) :: (.int .i64 n) :: (.slice (some ⟨bi, 0, none⟩) n n) :: (.slice (some ⟨be, 0, none⟩) n n) :: (.slice (some ⟨bh, 0, none⟩) h h) :: (.int .i64 0) :: c14 :: c15 :: c16 :: c17 :: c18 :: c19 :: c20 :: c21 :: c22 :: c23 :: c24 :: c25 :: c26 :: c27 :: c28 :: c29 :: c30 :: c31 :: c32 :: c33 :: c34 :: c35 :: c36 :: c37 :: c38 :: c39 :: c40 :: c41 :: c42 :: c43 :: c44 :: c45 :: c46 :: c47 :: c48 :: c49 :: c50 :: c51 :: c52 :: c53 :: c54 :: c55 :: c56 :: c57 :: c58 :: c59 :: c60 :: c61 :: c62 :: c63 :: c64 :: c65 :: c66 :: c67 :: c68 :: c69 :: c70 :: c71 :: c72 :: c73 :: c74 :: c75 :: c76 :: c77 :: c78 :: c79 :: c80 :: c81 :: c82 :: c83 :: c84 :: c85 :: c86 :: c87 :: c88 :: c89 :: c90 :: c91 :: c92 :: c93 :: c94 :: c95 :: c96 :: c97 :: c98 :: c99 :: c100 :: c101 :: c102 :: c103 :: c104 :: c105 :: c106 :: c107 :: c108 :: c109 :: c110 :: c111 :: c112 :: c113 :: c114 :: c115 :: c116 :: c117 :: c118 :: c119 :: c120 :: c121 :: c122 :: c123 :: c124 :: c125 :: c126 :: c127 :: c128 :: c129 :: c130 :: c131 :: c132 :: c133 :: c134 :: c135 :: c136 :: c137 :: c138 :: c139 :: c140 :: c141 :: c142 :: c143 :: c144 :: c145 :: c146 :: c147 :: c148 :: c149 :: c150 :: c151 :: c152 :: c153 :: c154 :: c155 :: c156 :: c157 :: c158 :: c159 :: c160 :: c161 :: c162 :: c163 :: c164 :: c165 :: c166 :: c167 :: c168 :: c169 :: c170 :: c171 :: c172 :: c173 :: c174 :: c175 :: c176 :: c177 :: c178 :: c179 :: c180 :: c181 :: c182 :: c183 :: c184 :: c185 :: c186 :: c187 :: c188 :: c189 :: c190 :: c191 :: c192 :: c193 :: c194 :: c195 :: c196 :: c197 :: c198 :: c199 :: c200 :: c201 :: c202 :: c203 :: c204 :: c205 :: c206 :: c207 :: c208 :: c209 :: c210 :: c211 :: c212 :: c213 :: c214 :: c215 :: c216 :: c217 :: c218 :: c219 :: c220 :: c221 :: c222 :: c223 :: c224 :: c225 :: c226 :: c227 :: c228 :: c229 :: c230 :: c231 :: c232 :: c233 :: c234 :: c235 :: c236 :: c237 :: c238 :: c239 :: c240 :: c241 :: c242 :: c243 :: c244 :: c245 :: c246 :: c247 :: c248 :: c249 :: c250 :: c251 :: c252 :: c253 :: c254 :: c255 :: c256 :: c257 :: c258 :: c259 :: c260 :: c261 :: c262 :: c263 :: c264 :: c265 :: c266 :: c267 :: c268 :: c269 :: c270 :: c271 :: c272 :: c273 :: c274 :: c275 :: c276 :: c277 :: c278 :: c279 :: c280 :: c281 :: c282 :: c283 :: c284 :: c285 :: c286 :: c287 :: c288 :: c289 :: c290 :: c291 :: c292 :: c293 :: c294 :: []), []⟩ w1 := by
  conv => arg 2; arg 1; whnf
  go_loopg [13] n (fun g i wr => ∃ (k : Nat) (val : Nat → Value), g = n - k ∧ k ≤ n ∧ i = .int .i64 k ∧ Fl w w1 wr bi be bh n h K f u (fun j => hsTo H h j k) val k 0 k)
  case atStart => exact ⟨0, val0, by omega, by omega, rfl, unhide HF⟩
  case round =>
    clear HF
    obtain ⟨k, val, hgk, hk, rfl, F⟩ := hrel
    by_cases hlt : k < n
    · clear hexit
      obtain ⟨b, off, rfl, a0, a1, a2, a3⟩ := (unhide HN).grown F.g k hlt
      have i1 : (0 : Int) ≤ (k : Int) := by omega
      have i2 : (k : Int) < (n : Int) := by omega
      have ge := F.ge
      have HF := hide (F.grown (World.grownBy_alloc wr (.cells #[.int .u32 (K k), .int .u64 (f k), .int .u64 (u k), .int .u8 (H k)] 29) none))
      have HNv : Hid (Nv wr.heap.size (K k) (f k) (u k) (H k) (wr.alloc (.cells #[.int .u32 (K k), .int .u64 (f k), .int .u64 (u k), .int .u8 (H k)] 29))) := hide ⟨by simp [go_sem], by simp [go_sem], by simp [go_sem], by simp [go_sem]⟩
      have nbi : wr.heap.size ≠ bi := by omega
      have nbe : wr.heap.size ≠ be := by omega
      have kk := hK k
      clear F ge
      go_upto_region 13 with fail
      generalize wr.heap.size = bn at HNv nbi nbe ⊢
      generalize wr.alloc (.cells #[.int .u32 (K k), .int .u64 (f k), .int .u64 (u k), .int .u8 (H k)] 29) = wc at HF HNv ⊢
      clear a0 a1 a2 a3
      have e0 := (unhide HNv).1
      have y0 := (unhide HF).ids k 0 hlt (by omega)
      have z0 := (unhide HF).fi (k * 20)
      simp at y0
      go_cut [] from 53 to 116 (fun wd => Nv bn (K k) (f k) (u k) (H k) wd ∧ Fl w w1 wd bi be bh n h K f u (fun j => hsTo H h j k) val k 1 k)
      case first =>
        go_region
        all_goals
          go_wp2_with fail
          go_meet
        all_goals
          case rel => exact ⟨(unhide HNv).set ((grown_setCell _ _ _).trans ((grown_drew _).but _)) nbi, by first | (rw [← bv0 kk]; exact ((unhide HF).byte hlt (by omega)).grown (grown_drew _)) | trace_state⟩
      case rest =>
        obtain ⟨nv, fl⟩ := hcut
        replace HNv := hide nv
        replace HF := hide fl
        clear nv fl e0 y0 z0
        go_upto_region 14 with fail
        have e0 := (unhide HNv).1
        have y0 := (unhide HF).ids k 1 hlt (by omega)
        have z0 := (unhide HF).fi (k * 20 + 1)
        simp at y0
        go_cut [] from 53 to 116 (fun wd => Nv bn (K k) (f k) (u k) (H k) wd ∧ Fl w w1 wd bi be bh n h K f u (fun j => hsTo H h j k) val k 2 k)
        case first =>
          go_region
          all_goals
            go_wp2_with fail
            go_meet
          all_goals
            case rel => exact ⟨(unhide HNv).set ((grown_setCell _ _ _).trans ((grown_drew _).but _)) nbi, by first | (rw [← bv1 kk]; exact ((unhide HF).byte hlt (by omega)).grown (grown_drew _)) | trace_state⟩
        case rest =>
          obtain ⟨nv, fl⟩ := hcut
          replace HNv := hide nv
          replace HF := hide fl
          clear nv fl e0 y0 z0
          go_upto_region 15 with fail
          have e0 := (unhide HNv).1
          have y0 := (unhide HF).ids k 2 hlt (by omega)
          have z0 := (unhide HF).fi (k * 20 + 2)
          simp at y0
          go_cut [] from 53 to 116 (fun wd => Nv bn (K k) (f k) (u k) (H k) wd ∧ Fl w w1 wd bi be bh n h K f u (fun j => hsTo H h j k) val k 3 k)
          case first =>
            go_region
            all_goals
              go_wp2_with fail
              go_meet
            all_goals
              case rel => exact ⟨(unhide HNv).set ((grown_setCell _ _ _).trans ((grown_drew _).but _)) nbi, by first | (rw [← bv2 kk]; exact ((unhide HF).byte hlt (by omega)).grown (grown_drew _)) | trace_state⟩
          case rest =>
            obtain ⟨nv, fl⟩ := hcut
            replace HNv := hide nv
            replace HF := hide fl
            clear nv fl e0 y0 z0
            go_upto_region 16 with fail
            have e0 := (unhide HNv).1
            have y0 := (unhide HF).ids k 3 hlt (by omega)
            have z0 := (unhide HF).fi (k * 20 + 3)
            simp at y0
            go_cut [] from 53 to 116 (fun wd => Nv bn (K k) (f k) (u k) (H k) wd ∧ Fl w w1 wd bi be bh n h K f u (fun j => hsTo H h j k) val k 4 k)
            case first =>
              go_region
              all_goals
                go_wp2_with fail
                go_meet
              all_goals
                case rel => exact ⟨(unhide HNv).set ((grown_setCell _ _ _).trans ((grown_drew _).but _)) nbi, by first | (rw [← bv3 kk]; exact ((unhide HF).byte hlt (by omega)).grown (grown_drew _)) | trace_state⟩
            case rest =>
              obtain ⟨nv, fl⟩ := hcut
              replace HNv := hide nv
              replace HF := hide fl
              clear nv fl e0 y0 z0
              have HF2 := hide (unhide HF).row
              clear HF
              have e1 := (unhide HNv).2.1
              have e2 := (unhide HNv).2.2.1
              have z34 := zero34
              have HT : Hid (wc.there be (k * 24) 24) := hide (fun j hj => (unhide HF2).thr (k * 24 + j) (by omega))
              go_upto_region 17 with fail
              go_cut [] from 53 to 116 (fun wd => Nv bn (K k) (f k) (u k) (H k) wd ∧ Fl w w1 wd bi be bh n h K f u (fun j => hsTo H h j k) val (k + 1) 0 (k + 1))
              case first =>
                refine wp_region_lit ?_
                refine wpList_plain rfl (fun K2 hK2 => ?_)
                go_simp
                refine hK2 _ _ ?_
                clear hK2 K2
                try simp only [Act.put, List.setIfInBounds_toArray, List.set_cons_zero, List.set_cons_succ]
                refine wpList_plain rfl (fun K2 hK2 => ?_)
                go_simp
                refine hK2 _ _ ?_
                clear hK2 K2
                try simp only [Act.put, List.setIfInBounds_toArray, List.set_cons_zero, List.set_cons_succ]
                refine wpList_plain rfl (fun K2 hK2 => ?_)
                go_simp
                refine hK2 _ _ ?_
                clear hK2 K2
                try simp only [Act.put, List.setIfInBounds_toArray, List.set_cons_zero, List.set_cons_succ]
                refine wpList_plain rfl (fun K2 hK2 => ?_)
                go_simp
                refine hK2 _ _ ?_
                clear hK2 K2
                try simp only [Act.put, List.setIfInBounds_toArray, List.set_cons_zero, List.set_cons_succ]
                refine wpList_plain rfl (fun K2 hK2 => ?_)
                go_simp
                refine hK2 _ _ ?_
                clear hK2 K2
                try simp only [Act.put, List.setIfInBounds_toArray, List.set_cons_zero, List.set_cons_succ]
                refine wpList_plain rfl (fun K2 hK2 => ?_)
                go_simp
                refine hK2 _ _ ?_
                clear hK2 K2
                try simp only [Act.put, List.setIfInBounds_toArray, List.set_cons_zero, List.set_cons_succ]
                refine wpList_plain rfl (fun K2 hK2 => ?_)
                go_simp
                refine hK2 _ _ ?_
                clear hK2 K2
                try simp only [Act.put, List.setIfInBounds_toArray, List.set_cons_zero, List.set_cons_succ]
                refine wpList_plain rfl (fun K2 hK2 => ?_)
                go_simp
                refine hK2 _ _ ?_
                clear hK2 K2
                try simp only [Act.put, List.setIfInBounds_toArray, List.set_cons_zero, List.set_cons_succ]
                refine wpList_store_mid (P := Yba.prog) rfl 34 (.tmp 100) (.tmp 99) rfl be (k * 24) #[.int .u8 0, .int .u8 0, .int .u8 0, .int .u8 0, .int .u8 0, .int .u8 0, .int .u8 0, .int .u8 0, .int .u8 0, .int .u8 0, .int .u8 0, .int .u8 0, .int .u8 0, .int .u8 0, .int .u8 0, .int .u8 0, .int .u8 0, .int .u8 0, .int .u8 0, .int .u8 0, .int .i32 0, .int .u64 0, .int .u64 (f k), .int .u64 (u k)] rfl rfl (unhide HT) info34 (by simp [Value.oneCell']) ?_
                refine wpList_nil ?_
                simp only [Act.put]
                go_wp2_with fail
                go_meet
                case rel => exact ⟨(unhide HNv).set (grown_setCells _ _ _ _) nbe, (unhide HF2).span hlt _ rfl rfl rfl⟩
              case rest =>
                obtain ⟨nv, fl⟩ := hcut
                replace HNv := hide nv
                have HF := hide fl
                clear nv fl e1 e2 HT z34 HF2
                have e3 := (unhide HNv).2.2.2
                have z1 : ((h : Int) == 0) = false := by simp; omega
                have z2 : ¬ (h : Int) = 0 := by omega
                have z3 : ¬ h = 0 := by omega
                have hk8 := hH k
                go_upto_region 19 with fail
                have hje : ((H k : Int) % (h : Int)) = ((H k % h : Nat) : Int) := by simp
                rw [hje]
                have hjl : H k % h < h := Nat.mod_lt _ (by omega)
                clear hje e3
                generalize hjj : H k % h = j at hjl ⊢
                have HF3 := hide ((unhide HF).grown (World.grownBy_alloc wc (.cells #[.int .i32 (k : Int)] 21) none))
                obtain ⟨cb, hb1, hb2, hb3⟩ := (unhide HF).hb
                have r0 := cell_of hb1 (hb3 j hjl)
                have len := hs_len H h j k
                have gsz := (unhide HF3).ge
                obtain ⟨i0, hi, hz0, hz1, hz2⟩ := info_parts info21
                have i3 : (0 : Int) ≤ (j : Int) := by omega
                have i4 : (j : Int) < (h : Int) := by omega
                have nj := (unhide HF3).rowNe j gsz.2.2.2.2.2.1
                clear hb1 hb2 hb3
                go_wp2_with (at_builtin; refine wpList_append_app rfl (.tmp 111) (.tmp 114) 35 rfl w1.heap.size 21 i0 (.int .i32 0) 4 Yba.underlying35 hi hz0 hz1 hz2 rfl (val j) ((hsTo H h j k).map (fun v : Nat => Value.int .i32 (v : Int))) (val j).ownBlock rfl (.inl ⟨by have := (unhide HF3).owns j; simpa using this, rfl⟩) ⟨wc.heap.size, 0, none⟩ (.int .i32 (k : Int)) rfl (by simp [go_sem]) rfl (by simp only [maxLen, List.length_map]; omega) (by simp only [List.length_map]; omega) (by omega) ?_; intro g3 cap3 w3 ho3 hg3 hb3; have HA := hide ((unhide HF3).app hjl ho3 hg3 hb3); have r1 := hg3.cell (kc r0) (row_ne nj); have r2 : w3.frozen? ⟨bh, j, none⟩ = false := (unhide HF3).rowFroz j hg3 j; clear ho3 hg3 hb3)
                go_roundg (n - (k + 1))
                case measure => omega
                case rel =>
                  have hA := unhide HA
                  simp only [List.length_map] at hA
                  subst hjj
                  rw [hs_put] at hA
                  exact ⟨k + 1, _, rfl, by omega, by go_num, hA⟩
    · obtain rfl : n = k := by omega
      have HF := hide F
      clear F HN
      go_wp2_with fail
      exact ⟨val, unhide HF⟩

end Go.Proofs.Ybulkads
