import Derived.Test.YbulkadsL3
namespace Go.Proofs.Ybulkads
open Go.RowKit

noncomputable def body4 : Code := bodies.getD 3 .skip

set_option maxRecDepth 1000000 in
set_option maxHeartbeats 6400000 in
theorem loop4 (c0 c1 c3 c4 c5 c6 c8 c10 c11 c12 c13 c14 c15 c16 c17 c18 c21 c22 c24 c25 c26 c27 c28 c29 c30 c31 c32 c33 c34 c35 c36 c37 c38 c39 c40 c41 c42 c43 c44 c45 c46 c47 c48 c49 c50 c51 c52 c53 c54 c55 c56 c57 c58 c59 c60 c61 c62 c63 c64 c65 c66 c67 c68 c69 c70 c71 c72 c73 c74 c75 c76 c77 c78 c79 c80 c81 c82 c83 c84 c85 c86 c87 c88 c89 c90 c91 c92 c93 c94 c95 c96 c97 c98 c99 c100 c101 c102 c103 c104 c105 c106 c107 c108 c109 c110 c111 c112 c113 c114 c115 c116 c117 c118 c119 c120 c121 c122 c123 c124 c125 c126 c127 c128 c129 c130 c131 c132 c133 c134 c135 c136 c137 c138 c139 c140 c141 c142 c143 c144 c145 c146 c147 c148 c149 c150 c151 c152 c153 c154 c155 c156 c157 c158 c159 c160 c161 c162 c163 c164 c165 c166 c167 c168 c169 c170 c171 c172 c173 c174 c175 c176 c177 c178 c179 c180 c181 c182 c183 c184 c185 c186 c187 c188 c189 c190 c191 c192 c193 c194 c195 c196 c197 c198 c199 c200 c201 c202 c203 c204 c205 c206 c207 c208 c209 c210 c211 c212 c213 c214 c215 c216 c217 c218 c219 c220 c221 c222 c223 c224 c225 c226 c227 c228 c229 c230 c231 c232 c233 c234 c235 c236 c237 c238 c239 c240 c241 c242 c243 c244 c245 c246 c247 c248 c249 c250 c251 c252 c253 c254 c255 c256 c257 c258 c259 c260 c261 c262 c263 c264 c265 c266 c267 c268 c269 c270 c271 c272 c273 c274 c275 c276 c277 c278 c279 c280 c281 c282 c283 c284 c285 c286 c287 c288 c289 c290 c291 c292 c293 c294 : Value) (a : Option Addr) (cap n b i : Nat) (K : Nat → Nat) (f u : Nat → Int) (H : Nat → Nat) (w1 : World) (K' : Act → World → Prop) (Qo : Exit → Act → World → Prop)
    (HN : Hid (Nd a n K f u H w1)) (hK : ∀ i, K i < 4294967296) (hm : n ≤ 1024) (b1 : 1 ≤ b) (b4 : b ≤ 4) (hi : i < n) (B : Int) (hB : -1 ≤ B)
    (hexit : ∀ (u23 u24 u185 u186 u187 u188 u189 u190 u191 u192 u193 u194 u195 u196 u197 u198 u199 u200 u201 u202 u203 u204 u205 u206 u207 u208 u209 u210 u211 u212 u213 u214 : Value) (w' : World), w1.grownBy w' none → K' ⟨List.toArray (c0 :: c1 :: (.slice a n cap) :: c3 :: c4 :: c5 :: c6 :: (.int .i64 b) :: c8 :: (.int .i64 n) :: c10 :: c11 :: c12 :: c13 :: c14 :: c15 :: c16 :: c17 :: c18 :: (.int .i64 i) :: (.int .i64 (max B (up b K f u i (n - (i + 1)) (i + 1)))) :: c21 :: c22 :: u23 :: u24 :: c25 :: c26 :: c27 :: c28 :: c29 :: c30 :: c31 :: c32 :: c33 :: c34 :: c35 :: c36 :: c37 :: c38 :: c39 :: c40 :: c41 :: c42 :: c43 :: c44 :: c45 :: c46 :: c47 :: c48 :: c49 :: c50 :: c51 :: c52 :: c53 :: c54 :: c55 :: c56 :: c57 :: c58 :: c59 :: c60 :: c61 :: c62 :: c63 :: c64 :: c65 :: c66 :: c67 :: c68 :: c69 :: c70 :: c71 :: c72 :: c73 :: c74 :: c75 :: c76 :: c77 :: c78 :: c79 :: c80 :: c81 :: c82 :: c83 :: c84 :: c85 :: c86 :: c87 :: c88 :: c89 :: c90 :: c91 :: c92 :: c93 :: c94 :: c95 :: c96 :: c97 :: c98 :: c99 :: c100 :: c101 :: c102 :: c103 :: c104 :: c105 :: c106 :: c107 :: c108 :: c109 :: c110 :: c111 :: c112 :: c113 :: c114 :: c115 :: c116 :: c117 :: c118 :: c119 :: c120 :: c121 :: c122 :: c123 :: c124 :: c125 :: c126 :: c127 :: c128 :: c129 :: c130 :: c131 :: c132 :: c133 :: c134 :: c135 :: c136 :: c137 :: c138 :: c139 :: c140 :: c141 :: c142 :: c143 :: c144 :: c145 :: c146 :: c147 :: c148 :: c149 :: c150 :: c151 :: c152 :: c153 :: c154 :: c155 :: c156 :: c157 :: c158 :: c159 :: c160 :: c161 :: c162 :: c163 :: c164 :: c165 :: c166 :: c167 :: c168 :: c169 :: c170 :: c171 :: c172 :: c173 :: c174 :: c175 :: c176 :: c177 :: c178 :: c179 :: c180 :: c181 :: c182 :: c183 :: c184 :: u185 :: u186 :: u187 :: u188 :: u189 :: u190 :: u191 :: u192 :: u193 :: u194 :: u195 :: u196 :: u197 :: u198 :: u199 :: u200 :: u201 :: u202 :: u203 :: u204 :: u205 :: u206 :: u207 :: u208 :: u209 :: u210 :: u211 :: u212 :: u213 :: u214 :: c215 :: c216 :: c217 :: c218 :: c219 :: c220 :: c221 :: c222 :: c223 :: c224 :: c225 :: c226 :: c227 :: c228 :: c229 :: c230 :: c231 :: c232 :: c233 :: c234 :: c235 :: c236 :: c237 :: c238 :: c239 :: c240 :: c241 :: c242 :: c243 :: c244 :: c245 :: c246 :: c247 :: c248 :: c249 :: c250 :: c251 :: c252 :: c253 :: c254 :: c255 :: c256 :: c257 :: c258 :: c259 :: c260 :: c261 :: c262 :: c263 :: c264 :: c265 :: c266 :: c267 :: c268 :: c269 :: c270 :: c271 :: c272 :: c273 :: c274 :: c275 :: c276 :: c277 :: c278 :: c279 :: c280 :: c281 :: c282 :: c283 :: c284 :: c285 :: c286 :: c287 :: c288 :: c289 :: c290 :: c291 :: c292 :: c293 :: c294 :: []), []⟩ w') :
    Code.wp Yba.prog (Code.loop body4) (Exit.inBlock 6 (Exit.then K' Qo)) ⟨List.toArray (c0 :: c1 :: (.slice a n cap) :: c3 :: c4 :: c5 :: c6 :: (.int .i64 b) :: c8 :: (.int .i64 n) :: c10 :: c11 :: c12 :: c13 :: c14 :: c15 :: c16 :: c17 :: c18 :: (.int .i64 i) :: (.int .i64 B) :: c21 :: c22 :: (.int .i64 ((i : Int) + 1)) :: c24 :: c25 :: c26 :: c27 :: c28 :: c29 :: c30 :: c31 :: c32 :: c33 :: c34 :: c35 :: c36 :: c37 :: c38 :: c39 :: c40 :: c41 :: c42 :: c43 :: c44 :: c45 :: c46 :: c47 :: c48 :: c49 :: c50 :: c51 :: c52 :: c53 :: c54 :: c55 :: c56 :: c57 :: c58 :: c59 :: c60 :: c61 :: c62 :: c63 :: c64 :: c65 :: c66 :: c67 :: c68 :: c69 :: c70 :: c71 :: c72 :: c73 :: c74 :: c75 :: c76 :: c77 :: c78 :: c79 :: c80 :: c81 :: c82 :: c83 :: c84 :: c85 :: c86 :: c87 :: c88 :: c89 :: c90 :: c91 :: c92 :: c93 :: c94 :: c95 :: c96 :: c97 :: c98 :: c99 :: c100 :: c101 :: c102 :: c103 :: c104 :: c105 :: c106 :: c107 :: c108 :: c109 :: c110 :: c111 :: c112 :: c113 :: c114 :: c115 :: c116 :: c117 :: c118 :: c119 :: c120 :: c121 :: c122 :: c123 :: c124 :: c125 :: c126 :: c127 :: c128 :: c129 :: c130 :: c131 :: c132 :: c133 :: c134 :: c135 :: c136 :: c137 :: c138 :: c139 :: c140 :: c141 :: c142 :: c143 :: c144 :: c145 :: c146 :: c147 :: c148 :: c149 :: c150 :: c151 :: c152 :: c153 :: c154 :: c155 :: c156 :: c157 :: c158 :: c159 :: c160 :: c161 :: c162 :: c163 :: c164 :: c165 :: c166 :: c167 :: c168 :: c169 :: c170 :: c171 :: c172 :: c173 :: c174 :: c175 :: c176 :: c177 :: c178 :: c179 :: c180 :: c181 :: c182 :: c183 :: c184 :: c185 :: c186 :: c187 :: c188 :: c189 :: c190 :: c191 :: c192 :: c193 :: c194 :: c195 :: c196 :: c197 :: c198 :: c199 :: c200 :: c201 :: c202 :: c203 :: c204 :: c205 :: c206 :: c207 :: c208 :: c209 :: c210 :: c211 :: c212 :: c213 :: c214 :: c215 :: c216 :: c217 :: c218 :: c219 :: c220 :: c221 :: c222 :: c223 :: c224 :: c225 :: c226 :: c227 :: c228 :: c229 :: c230 :: c231 :: c232 :: c233 :: c234 :: c235 :: c236 :: c237 :: c238 :: c239 :: c240 :: c241 :: c242 :: c243 :: c244 :: c245 :: c246 :: c247 :: c248 :: c249 :: c250 :: c251 :: c252 :: c253 :: c254 :: c255 :: c256 :: c257 :: c258 :: c259 :: c260 :: c261 :: c262 :: c263 :: c264 :: c265 :: c266 :: c267 :: c268 :: c269 :: c270 :: c271 :: c272 :: c273 :: c274 :: c275 :: c276 :: c277 :: c278 :: c279 :: c280 :: c281 :: c282 :: c283 :: c284 :: c285 :: c286 :: c287 :: c288 :: c289 :: c290 :: c291 :: c292 :: c293 :: c294 :: []), []⟩ w1 := by
  refine Code.wp_mono calm ?_
  conv => arg 2; arg 1; whnf
  go_loopg [23, 20] (n - i) (fun g t23 t20 wr => ∃ k : Nat, g = n - k + 1 ∧ i + 1 ≤ k ∧ k ≤ n ∧ t23 = .int .i64 k ∧ t20 = .int .i64 B ∧ w1.grownBy wr none ∧ up b K f u i (n - k) k = up b K f u i (n - (i + 1)) (i + 1))
  case atStart => exact ⟨i + 1, by omega, by omega, by omega, by go_num, rfl, World.grownBy.refl _ _, rfl⟩
  case round =>
    obtain ⟨k, hgk, hki, hk, rfl, rfl, g, hd⟩ := hrel
    have Hg := hide g
    have Hd := hide hd
    clear g hd
    have i1 : (0 : Int) ≤ (k : Int) := by omega
    by_cases hkn : k < n
    · obtain ⟨ba, oa, rfl, a0, a1, a2, a3⟩ := (unhide HN).grown (unhide Hg) i hi
      obtain ⟨bb, ob, hab, c0', c1', c2', c3'⟩ := (unhide HN).grown (unhide Hg) k hkn
      injection hab with hab
      injection hab with e1 e2 _
      subst e1 e2
      have i2 : (k : Int) < (n : Int) := by omega
      have i3 : (0 : Int) ≤ (i : Int) := by omega
      have i4 : (i : Int) < (n : Int) := by omega
      have hup : n - k = (n - (k + 1)) + 1 := by omega
      have Hx := hide hexit
      clear hexit
      go_upto_region 40 with fail
      go_cut [198] from 188 to 214 (fun t198 wd => ∃ bq : Bool, t198 = .bool bq ∧ bq = mt f u i k ∧ wr.grownBy wd none)
      case first =>
        go_region_with (go_at_call 5; refine (meets_walk _ _ _ _ _ _ _ _ _).mono ?_; rintro e w2 ⟨rfl, g1⟩)
        all_goals
          go_wp2_with fail
          go_meet
        all_goals
          case rel => exact ⟨_, rfl, rfl, (grown_drew _).trans g1⟩
      case rest =>
        obtain ⟨bq, rfl, hbq, gd⟩ := hcut
        have Hgd := hide gd
        cases bq with
        | false =>
          have hmt : mt f u i k = false := hbq.symm
          clear hbq gd a0 a1 a2 a3 c0' c1' c2' c3' Hx
          go_wp2_with fail
          go_roundg (n - (k + 1) + 1)
          case measure => omega
          case rel => exact ⟨k + 1, rfl, by omega, by omega, by go_num, rfl, (unhide Hg).trans (unhide Hgd), by rw [← unhide Hd, hup]; simp [up, hmt]⟩
        | true =>
          have hmt : mt f u i k = true := hbq.symm
          have hdn : up b K f u i (n - (i + 1)) (i + 1) = (shd b (K i) (K k) : Nat) := by rw [← unhide Hd, hup]; simp [up, hmt]
          have d0 := gd.cell a0 (by simp)
          have d1 := gd.cell c0' (by simp)
          have ki := hK i
          have kk := hK k
          clear hbq gd a0 a1 a2 a3 c0' c1' c2' c3'
          have hexit := unhide Hx
          rw [hdn] at hexit
          clear Hx hdn
          go_upto_region 41 with fail
          go_quiet ((go_at_call 6; exact Calls.quiet_of_same (shared_walk (K i) (K k) b ki kk b1 b4 _)))
          generalize shd b (K i) (K k) = s at hexit ⊢
          clear d0 d1
          by_cases hs : B < (s : Int)
          · rw [show max B (s : Int) = (s : Int) from by omega] at hexit
            go_wp2_with fail
            exact ((unhide Hg).trans (unhide Hgd)).trans (grown_drewN _ _)
          · rw [show max B (s : Int) = B from by omega] at hexit
            go_wp2_with fail
            exact ((unhide Hg).trans (unhide Hgd)).trans (grown_drewN _ _)
    · have hup : n - k = 0 := by omega
      have h0 : up b K f u i (n - (i + 1)) (i + 1) = -1 := by rw [← unhide Hd, hup]; rfl
      rw [h0, show max B (-1 : Int) = B from by omega] at hexit
      have i2 : ¬ (k : Int) < (n : Int) := by omega
      clear h0 hup
      go_wp2_with fail
      exact unhide Hg

end Go.Proofs.Ybulkads
