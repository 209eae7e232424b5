import Derived.Test.YbulkadsL1
namespace Go.Proofs.Ybulkads
open Go.RowKit

/-- no way out by panic: then the post need not speak of one -/
theorem calm {id : Nat} {K' : Act → World → Prop} {Qo : Exit → Act → World → Prop} (e : Exit) (a : Act) (w : World) (h : Exit.inBlock id (Exit.then K' (NoPanic Qo)) e a w) : Exit.inBlock id (Exit.then K' Qo) e a w := by
  cases e with
  | exit id' =>
    simp only [Exit.inBlock] at h ⊢
    split
    · rename_i e; rw [if_pos e] at h; exact h
    · rename_i e; rw [if_neg e] at h; exact h
  | panic c => exact (h : False).elim
  | _ => exact h
noncomputable def body3 : Code := bodies.getD 2 .skip

set_option maxRecDepth 1000000 in
set_option maxHeartbeats 6400000 in
theorem loop3 (c0 c1 c3 c4 c5 c6 c8 c9 c10 c11 c12 c13 c14 c15 c16 c17 c18 c22 c23 c24 c25 c26 c27 c28 c29 c30 c31 c32 c33 c34 c35 c36 c37 c38 c39 c40 c41 c42 c43 c44 c45 c46 c47 c48 c49 c50 c51 c52 c53 c54 c55 c56 c57 c58 c59 c60 c61 c62 c63 c64 c65 c66 c67 c68 c69 c70 c71 c72 c73 c74 c75 c76 c77 c78 c79 c80 c81 c82 c83 c84 c85 c86 c87 c88 c89 c90 c91 c92 c93 c94 c95 c96 c97 c98 c99 c100 c101 c102 c103 c104 c105 c106 c107 c108 c109 c110 c111 c112 c113 c114 c115 c116 c117 c118 c119 c120 c121 c122 c123 c124 c125 c126 c127 c128 c129 c130 c131 c132 c133 c134 c135 c136 c137 c138 c139 c140 c141 c142 c143 c144 c145 c146 c147 c148 c149 c150 c151 c152 c153 c154 c155 c156 c157 c158 c159 c160 c161 c162 c163 c164 c165 c166 c167 c168 c169 c170 c171 c172 c173 c174 c175 c176 c177 c178 c179 c180 c181 c182 c183 c184 c185 c186 c187 c188 c189 c190 c191 c192 c193 c194 c195 c196 c197 c198 c199 c200 c201 c202 c203 c204 c205 c206 c207 c208 c209 c210 c211 c212 c213 c214 c215 c216 c217 c218 c219 c220 c221 c222 c223 c224 c225 c226 c227 c228 c229 c230 c231 c232 c233 c234 c235 c236 c237 c238 c239 c240 c241 c242 c243 c244 c245 c246 c247 c248 c249 c250 c251 c252 c253 c254 c255 c256 c257 c258 c259 c260 c261 c262 c263 c264 c265 c266 c267 c268 c269 c270 c271 c272 c273 c274 c275 c276 c277 c278 c279 c280 c281 c282 c283 c284 c285 c286 c287 c288 c289 c290 c291 c292 c293 c294 : Value) (a : Option Addr) (cap n b i : Nat) (K : Nat → Nat) (f u : Nat → Int) (H : Nat → Nat) (w1 : World) (K' : Act → World → Prop) (Qo : Exit → Act → World → Prop)
    (HN : Hid (Nd a n K f u H w1)) (hK : ∀ i, K i < 4294967296) (hm : n ≤ 1024) (b1 : 1 ≤ b) (b4 : b ≤ 4) (hi : i < n)
    (hexit : ∀ (u21 u22 u154 u155 u156 u157 u158 u159 u160 u161 u162 u163 u164 u165 u166 u167 u168 u169 u170 u171 u172 u173 u174 u175 u176 u177 u178 u179 u180 u181 u182 : Value) (w' : World), w1.grownBy w' none → K' ⟨List.toArray (c0 :: c1 :: (.slice a n cap) :: c3 :: c4 :: c5 :: c6 :: (.int .i64 b) :: c8 :: c9 :: c10 :: c11 :: c12 :: c13 :: c14 :: c15 :: c16 :: c17 :: c18 :: (.int .i64 i) :: (.int .i64 (dn b K f u i i)) :: u21 :: u22 :: c23 :: c24 :: c25 :: c26 :: c27 :: c28 :: c29 :: c30 :: c31 :: c32 :: c33 :: c34 :: c35 :: c36 :: c37 :: c38 :: c39 :: c40 :: c41 :: c42 :: c43 :: c44 :: c45 :: c46 :: c47 :: c48 :: c49 :: c50 :: c51 :: c52 :: c53 :: c54 :: c55 :: c56 :: c57 :: c58 :: c59 :: c60 :: c61 :: c62 :: c63 :: c64 :: c65 :: c66 :: c67 :: c68 :: c69 :: c70 :: c71 :: c72 :: c73 :: c74 :: c75 :: c76 :: c77 :: c78 :: c79 :: c80 :: c81 :: c82 :: c83 :: c84 :: c85 :: c86 :: c87 :: c88 :: c89 :: c90 :: c91 :: c92 :: c93 :: c94 :: c95 :: c96 :: c97 :: c98 :: c99 :: c100 :: c101 :: c102 :: c103 :: c104 :: c105 :: c106 :: c107 :: c108 :: c109 :: c110 :: c111 :: c112 :: c113 :: c114 :: c115 :: c116 :: c117 :: c118 :: c119 :: c120 :: c121 :: c122 :: c123 :: c124 :: c125 :: c126 :: c127 :: c128 :: c129 :: c130 :: c131 :: c132 :: c133 :: c134 :: c135 :: c136 :: c137 :: c138 :: c139 :: c140 :: c141 :: c142 :: c143 :: c144 :: c145 :: c146 :: c147 :: c148 :: c149 :: c150 :: c151 :: c152 :: c153 :: u154 :: u155 :: u156 :: u157 :: u158 :: u159 :: u160 :: u161 :: u162 :: u163 :: u164 :: u165 :: u166 :: u167 :: u168 :: u169 :: u170 :: u171 :: u172 :: u173 :: u174 :: u175 :: u176 :: u177 :: u178 :: u179 :: u180 :: u181 :: u182 :: c183 :: c184 :: c185 :: c186 :: c187 :: c188 :: c189 :: c190 :: c191 :: c192 :: c193 :: c194 :: c195 :: c196 :: c197 :: c198 :: c199 :: c200 :: c201 :: c202 :: c203 :: c204 :: c205 :: c206 :: c207 :: c208 :: c209 :: c210 :: c211 :: c212 :: c213 :: c214 :: c215 :: c216 :: c217 :: c218 :: c219 :: c220 :: c221 :: c222 :: c223 :: c224 :: c225 :: c226 :: c227 :: c228 :: c229 :: c230 :: c231 :: c232 :: c233 :: c234 :: c235 :: c236 :: c237 :: c238 :: c239 :: c240 :: c241 :: c242 :: c243 :: c244 :: c245 :: c246 :: c247 :: c248 :: c249 :: c250 :: c251 :: c252 :: c253 :: c254 :: c255 :: c256 :: c257 :: c258 :: c259 :: c260 :: c261 :: c262 :: c263 :: c264 :: c265 :: c266 :: c267 :: c268 :: c269 :: c270 :: c271 :: c272 :: c273 :: c274 :: c275 :: c276 :: c277 :: c278 :: c279 :: c280 :: c281 :: c282 :: c283 :: c284 :: c285 :: c286 :: c287 :: c288 :: c289 :: c290 :: c291 :: c292 :: c293 :: c294 :: []), []⟩ w') :
    Code.wp Yba.prog (Code.loop body3) (Exit.inBlock 4 (Exit.then K' Qo)) ⟨List.toArray (c0 :: c1 :: (.slice a n cap) :: c3 :: c4 :: c5 :: c6 :: (.int .i64 b) :: c8 :: c9 :: c10 :: c11 :: c12 :: c13 :: c14 :: c15 :: c16 :: c17 :: c18 :: (.int .i64 i) :: (.int .i64 (-1)) :: (.int .i64 ((i : Int) - 1)) :: c22 :: c23 :: c24 :: c25 :: c26 :: c27 :: c28 :: c29 :: c30 :: c31 :: c32 :: c33 :: c34 :: c35 :: c36 :: c37 :: c38 :: c39 :: c40 :: c41 :: c42 :: c43 :: c44 :: c45 :: c46 :: c47 :: c48 :: c49 :: c50 :: c51 :: c52 :: c53 :: c54 :: c55 :: c56 :: c57 :: c58 :: c59 :: c60 :: c61 :: c62 :: c63 :: c64 :: c65 :: c66 :: c67 :: c68 :: c69 :: c70 :: c71 :: c72 :: c73 :: c74 :: c75 :: c76 :: c77 :: c78 :: c79 :: c80 :: c81 :: c82 :: c83 :: c84 :: c85 :: c86 :: c87 :: c88 :: c89 :: c90 :: c91 :: c92 :: c93 :: c94 :: c95 :: c96 :: c97 :: c98 :: c99 :: c100 :: c101 :: c102 :: c103 :: c104 :: c105 :: c106 :: c107 :: c108 :: c109 :: c110 :: c111 :: c112 :: c113 :: c114 :: c115 :: c116 :: c117 :: c118 :: c119 :: c120 :: c121 :: c122 :: c123 :: c124 :: c125 :: c126 :: c127 :: c128 :: c129 :: c130 :: c131 :: c132 :: c133 :: c134 :: c135 :: c136 :: c137 :: c138 :: c139 :: c140 :: c141 :: c142 :: c143 :: c144 :: c145 :: c146 :: c147 :: c148 :: c149 :: c150 :: c151 :: c152 :: c153 :: c154 :: c155 :: c156 :: c157 :: c158 :: c159 :: c160 :: c161 :: c162 :: c163 :: c164 :: c165 :: c166 :: c167 :: c168 :: c169 :: c170 :: c171 :: c172 :: c173 :: c174 :: c175 :: c176 :: c177 :: c178 :: c179 :: c180 :: c181 :: c182 :: c183 :: c184 :: c185 :: c186 :: c187 :: c188 :: c189 :: c190 :: c191 :: c192 :: c193 :: c194 :: c195 :: c196 :: c197 :: c198 :: c199 :: c200 :: c201 :: c202 :: c203 :: c204 :: c205 :: c206 :: c207 :: c208 :: c209 :: c210 :: c211 :: c212 :: c213 :: c214 :: c215 :: c216 :: c217 :: c218 :: c219 :: c220 :: c221 :: c222 :: c223 :: c224 :: c225 :: c226 :: c227 :: c228 :: c229 :: c230 :: c231 :: c232 :: c233 :: c234 :: c235 :: c236 :: c237 :: c238 :: c239 :: c240 :: c241 :: c242 :: c243 :: c244 :: c245 :: c246 :: c247 :: c248 :: c249 :: c250 :: c251 :: c252 :: c253 :: c254 :: c255 :: c256 :: c257 :: c258 :: c259 :: c260 :: c261 :: c262 :: c263 :: c264 :: c265 :: c266 :: c267 :: c268 :: c269 :: c270 :: c271 :: c272 :: c273 :: c274 :: c275 :: c276 :: c277 :: c278 :: c279 :: c280 :: c281 :: c282 :: c283 :: c284 :: c285 :: c286 :: c287 :: c288 :: c289 :: c290 :: c291 :: c292 :: c293 :: c294 :: []), []⟩ w1 := by
  refine Code.wp_mono calm ?_
  conv => arg 2; arg 1; whnf
  go_loopg [21, 20] i (fun g t21 t20 wr => ∃ (k : Nat) (z : Int), g = k ∧ k ≤ i ∧ t21 = .int .i64 z ∧ z = (k : Int) - 1 ∧ t20 = .int .i64 (-1) ∧ w1.grownBy wr none ∧ dn b K f u i k = dn b K f u i i)
  case atStart => exact ⟨i, _, rfl, by omega, rfl, rfl, rfl, World.grownBy.refl _ _, rfl⟩
  case round =>
    obtain ⟨k, z, hgk, hk, rfl, hz, rfl, g, hd⟩ := hrel
    have Hg := hide g
    have Hd := hide hd
    clear g hd
    cases k with
    | zero =>
      have hz' : z = -1 := by simpa using hz
      clear hz
      subst hz'
      have h0 : dn b K f u i i = -1 := by rw [← unhide Hd]; rfl
      rw [h0] at hexit
      clear h0
      go_wp2_with fail
      exact unhide Hg
    | succ k =>
      have hz' : z = (k : Int) := by omega
      clear hz
      subst hz'
      have hkn : k < n := by omega
      obtain ⟨ba, oa, rfl, a0, a1, a2, a3⟩ := (unhide HN).grown (unhide Hg) i hi
      obtain ⟨bb, ob, hab, c0', c1', c2', c3'⟩ := (unhide HN).grown (unhide Hg) k hkn
      injection hab with hab
      injection hab with e1 e2 _
      subst e1 e2
      have i1 : (0 : Int) ≤ (k : Int) := by omega
      have i2 : (k : Int) < (n : Int) := by omega
      have i3 : (0 : Int) ≤ (i : Int) := by omega
      have i4 : (i : Int) < (n : Int) := by omega
      have Hx := hide hexit
      clear hexit
      go_upto_region 33 with fail
      go_cut [166] from 156 to 182 (fun t166 wd => ∃ bq : Bool, t166 = .bool bq ∧ bq = mt f u i k ∧ wr.grownBy wd none)
      case first =>
        go_region_with (go_at_call 5; refine (meets_walk _ _ _ _ _ _ _ _ _).mono ?_; rintro e w2 ⟨rfl, g1⟩)
        all_goals
          go_wp2_with fail
          go_meet
        all_goals
          case rel => exact ⟨_, rfl, rfl, (grown_drew _).trans g1⟩
      case rest =>
        obtain ⟨bq, rfl, hbq, gd⟩ := hcut
        have Hgd := hide gd
        cases bq with
        | false =>
          have hmt : mt f u i k = false := hbq.symm
          clear hbq gd a0 a1 a2 a3 c0' c1' c2' c3' Hx
          go_wp2_with fail
          go_roundg k
          case measure => omega
          case rel => exact ⟨k, _, rfl, by omega, rfl, by go_num, rfl, (unhide Hg).trans (unhide Hgd), by rw [← unhide Hd]; simp [dn, hmt]⟩
        | true =>
          have hmt : mt f u i k = true := hbq.symm
          have hdn : dn b K f u i i = (shd b (K i) (K k) : Nat) := by rw [← unhide Hd]; simp [dn, hmt]
          have d0 := gd.cell a0 (by simp)
          have d1 := gd.cell c0' (by simp)
          have ki := hK i
          have kk := hK k
          clear hbq gd a0 a1 a2 a3 c0' c1' c2' c3'
          have hexit := unhide Hx
          rw [hdn] at hexit
          clear Hx hdn
          go_upto_region 34 with fail
          go_quiet ((go_at_call 6; exact Calls.quiet_of_same (shared_walk (K i) (K k) b ki kk b1 b4 _)))
          generalize shd b (K i) (K k) = s at hexit ⊢
          have hs0 : (-1 : Int) < (s : Int) := by omega
          clear d0 d1
          go_wp2_with fail
          exact ((unhide Hg).trans (unhide Hgd)).trans (grown_drewN _ _)

end Go.Proofs.Ybulkads
