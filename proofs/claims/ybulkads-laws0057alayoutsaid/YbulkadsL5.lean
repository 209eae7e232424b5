import Derived.Test.YbulkadsL2
namespace Go.Proofs.Ybulkads
open Go.RowKit

noncomputable def body5 : Code := bodies.getD 4 .skip

/-- what the last check reads -/
structure Rd (wy : World) (O bh bs ex b n h : Nat) (r : Nat → Int) (hs : Nat → List Nat) : Prop where
  row : ∀ j, j < h → ∃ a cap, wy.cell? ⟨bh, j, none⟩ = some (.slice a (hs j).length cap) ∧ ∀ q v : Nat, (hs j)[q]? = some v → ∃ p, a = some ⟨p, 0, none⟩ ∧ wy.cell? ⟨p, q, none⟩ = some (.int .i32 v)
  lt : ∀ j q v : Nat, (hs j)[q]? = some v → v < n
  len : ∀ j, (hs j).length ≤ n
  exp : ∀ v, v < n → wy.cell? ⟨ex, v, none⟩ = some (.int .i64 (r v))
  o14 : wy.cell? ⟨O, 14, none⟩ = some (.slice (some ⟨bs, 0, none⟩) n n)
  st : ∀ j q v : Nat, j < h → (hs j)[q]? = some v → wy.cell? ⟨bs, v, none⟩ = some (.int .i64 (bas r b hs j + (q % 2 : Nat) * pg r b (hs j)))

set_option maxRecDepth 1000000 in
set_option maxHeartbeats 6400000 in
theorem loop5 (c0 c1 c2 c3 c4 c5 c6 c9 c10 c11 c13 c14 c15 c17 c19 c20 c21 c22 c23 c24 c27 c28 c29 c30 c31 c32 c33 c34 c35 c36 c37 c38 c39 c40 c41 c42 c43 c44 c45 c46 c47 c48 c49 c50 c51 c52 c53 c54 c55 c56 c57 c58 c59 c60 c61 c62 c63 c64 c65 c66 c67 c68 c69 c70 c71 c72 c73 c74 c75 c76 c77 c78 c79 c80 c81 c82 c83 c84 c85 c86 c87 c88 c89 c90 c91 c92 c93 c94 c95 c96 c97 c98 c99 c100 c101 c102 c103 c104 c105 c106 c107 c108 c109 c110 c111 c112 c113 c114 c115 c116 c117 c118 c119 c120 c121 c122 c123 c124 c125 c126 c127 c128 c129 c130 c131 c132 c133 c134 c135 c136 c137 c138 c139 c140 c141 c142 c143 c144 c145 c146 c147 c148 c149 c150 c151 c152 c153 c154 c155 c156 c157 c158 c159 c160 c161 c162 c163 c164 c165 c166 c167 c168 c169 c170 c171 c172 c173 c174 c175 c176 c177 c178 c179 c180 c181 c182 c183 c184 c185 c186 c187 c188 c189 c190 c191 c192 c193 c194 c195 c196 c197 c198 c199 c200 c201 c202 c203 c204 c205 c206 c207 c208 c209 c210 c211 c212 c213 c214 c215 c216 c217 c218 c219 c220 c221 c222 c223 c224 c225 c226 c227 c228 c229 c230 c231 c232 c233 c234 c235 c236 c237 c238 c239 c240 c241 c242 c243 c244 c245 c246 c247 c248 c249 c250 c251 c252 c253 c254 c255 c256 c257 c258 c259 c260 c261 c262 c263 c264 c265 c266 c267 c268 c269 c270 c271 c272 c273 c274 c275 c276 c277 c278 c279 c280 c281 c282 c283 c284 c285 c286 c287 c288 c289 c290 c291 c292 c293 c294 : Value) (n b O bh bs ex h : Nat) (r : Nat → Int) (hs : Nat → List Nat) (wy : World) (K' : Act → World → Prop) (P : Ending → World → Prop)
    (HR : Hid (Rd wy O bh bs ex b n h r hs)) (Hr : Hid (∀ v, 0 ≤ r v ∧ r v ≤ 161)) (hm : n ≤ 1024) (h4 : h ≤ 4) (b1 : 1 ≤ b) (b4 : b ≤ 4)
    (hexit : ∀ (u6 u26 u27 u29 u30 u31 u32 u33 u233 u234 u235 u236 u237 u238 u239 u240 u241 u242 u243 u244 u245 u246 u247 u248 u249 u250 u251 u252 u253 u254 u255 u256 u257 u258 u259 u260 u261 u262 u263 u264 u265 u266 u267 u268 u269 u270 u271 u272 u273 u274 u275 u276 u277 u278 u279 u280 u281 u282 u283 u284 u285 u286 u287 u288 : Value), K' ⟨List.toArray (c0 :: c1 :: c2 :: c3 :: c4 :: c5 :: u6 :: (.int .i64 b) :: (.int .i64 h) :: c9 :: c10 :: c11 :: (.slice (some ⟨bh, 0, none⟩) h h) :: c13 :: c14 :: c15 :: (.pointer (some ⟨O, 0, none⟩)) :: c17 :: (.slice (some ⟨ex, 0, none⟩) n n) :: c19 :: c20 :: c21 :: c22 :: c23 :: c24 :: (.int .i64 (bas r b hs h)) :: u26 :: u27 :: c28 :: u29 :: u30 :: u31 :: u32 :: u33 :: c34 :: c35 :: c36 :: c37 :: c38 :: c39 :: c40 :: c41 :: c42 :: c43 :: c44 :: c45 :: c46 :: c47 :: c48 :: c49 :: c50 :: c51 :: c52 :: c53 :: c54 :: c55 :: c56 :: c57 :: c58 :: c59 :: c60 :: c61 :: c62 :: c63 :: c64 :: c65 :: c66 :: c67 :: c68 :: c69 :: c70 :: c71 :: c72 :: c73 :: c74 :: c75 :: c76 :: c77 :: c78 :: c79 :: c80 :: c81 :: c82 :: c83 :: c84 :: c85 :: c86 :: c87 :: c88 :: c89 :: c90 :: c91 :: c92 :: c93 :: c94 :: c95 :: c96 :: c97 :: c98 :: c99 :: c100 :: c101 :: c102 :: c103 :: c104 :: c105 :: c106 :: c107 :: c108 :: c109 :: c110 :: c111 :: c112 :: c113 :: c114 :: c115 :: c116 :: c117 :: c118 :: c119 :: c120 :: c121 :: c122 :: c123 :: c124 :: c125 :: c126 :: c127 :: c128 :: c129 :: c130 :: c131 :: c132 :: c133 :: c134 :: c135 :: c136 :: c137 :: c138 :: c139 :: c140 :: c141 :: c142 :: c143 :: c144 :: c145 :: c146 :: c147 :: c148 :: c149 :: c150 :: c151 :: c152 :: c153 :: c154 :: c155 :: c156 :: c157 :: c158 :: c159 :: c160 :: c161 :: c162 :: c163 :: c164 :: c165 :: c166 :: c167 :: c168 :: c169 :: c170 :: c171 :: c172 :: c173 :: c174 :: c175 :: c176 :: c177 :: c178 :: c179 :: c180 :: c181 :: c182 :: c183 :: c184 :: c185 :: c186 :: c187 :: c188 :: c189 :: c190 :: c191 :: c192 :: c193 :: c194 :: c195 :: c196 :: c197 :: c198 :: c199 :: c200 :: c201 :: c202 :: c203 :: c204 :: c205 :: c206 :: c207 :: c208 :: c209 :: c210 :: c211 :: c212 :: c213 :: c214 :: c215 :: c216 :: c217 :: c218 :: c219 :: c220 :: c221 :: c222 :: c223 :: c224 :: c225 :: c226 :: c227 :: c228 :: c229 :: c230 :: c231 :: c232 :: u233 :: u234 :: u235 :: u236 :: u237 :: u238 :: u239 :: u240 :: u241 :: u242 :: u243 :: u244 :: u245 :: u246 :: u247 :: u248 :: u249 :: u250 :: u251 :: u252 :: u253 :: u254 :: u255 :: u256 :: u257 :: u258 :: u259 :: u260 :: u261 :: u262 :: u263 :: u264 :: u265 :: u266 :: u267 :: u268 :: u269 :: u270 :: u271 :: u272 :: u273 :: u274 :: u275 :: u276 :: u277 :: u278 :: u279 :: u280 :: u281 :: u282 :: u283 :: u284 :: u285 :: u286 :: u287 :: u288 :: c289 :: c290 :: c291 :: c292 :: c293 :: c294 :: []), []⟩ wy) :
    Code.wp Yba.prog (Code.loop body5) (Exit.inBlock 8 (Exit.then K' (bodyPost Yba.prog Yba.f3 P))) ⟨List.toArray (c0 :: c1 :: c2 :: c3 :: c4 :: c5 :: c6 :: (.int .i64 b) :: (.int .i64 h) :: c9 :: c10 :: c11 :: (.slice (some ⟨bh, 0, none⟩) h h) :: c13 :: c14 :: c15 :: (.pointer (some ⟨O, 0, none⟩)) :: c17 :: (.slice (some ⟨ex, 0, none⟩) n n) :: c19 :: c20 :: c21 :: c22 :: c23 :: c24 :: (.int .i64 0) :: (.int .i64 0) :: c27 :: c28 :: c29 :: c30 :: c31 :: c32 :: c33 :: c34 :: c35 :: c36 :: c37 :: c38 :: c39 :: c40 :: c41 :: c42 :: c43 :: c44 :: c45 :: c46 :: c47 :: c48 :: c49 :: c50 :: c51 :: c52 :: c53 :: c54 :: c55 :: c56 :: c57 :: c58 :: c59 :: c60 :: c61 :: c62 :: c63 :: c64 :: c65 :: c66 :: c67 :: c68 :: c69 :: c70 :: c71 :: c72 :: c73 :: c74 :: c75 :: c76 :: c77 :: c78 :: c79 :: c80 :: c81 :: c82 :: c83 :: c84 :: c85 :: c86 :: c87 :: c88 :: c89 :: c90 :: c91 :: c92 :: c93 :: c94 :: c95 :: c96 :: c97 :: c98 :: c99 :: c100 :: c101 :: c102 :: c103 :: c104 :: c105 :: c106 :: c107 :: c108 :: c109 :: c110 :: c111 :: c112 :: c113 :: c114 :: c115 :: c116 :: c117 :: c118 :: c119 :: c120 :: c121 :: c122 :: c123 :: c124 :: c125 :: c126 :: c127 :: c128 :: c129 :: c130 :: c131 :: c132 :: c133 :: c134 :: c135 :: c136 :: c137 :: c138 :: c139 :: c140 :: c141 :: c142 :: c143 :: c144 :: c145 :: c146 :: c147 :: c148 :: c149 :: c150 :: c151 :: c152 :: c153 :: c154 :: c155 :: c156 :: c157 :: c158 :: c159 :: c160 :: c161 :: c162 :: c163 :: c164 :: c165 :: c166 :: c167 :: c168 :: c169 :: c170 :: c171 :: c172 :: c173 :: c174 :: c175 :: c176 :: c177 :: c178 :: c179 :: c180 :: c181 :: c182 :: c183 :: c184 :: c185 :: c186 :: c187 :: c188 :: c189 :: c190 :: c191 :: c192 :: c193 :: c194 :: c195 :: c196 :: c197 :: c198 :: c199 :: c200 :: c201 :: c202 :: c203 :: c204 :: c205 :: c206 :: c207 :: c208 :: c209 :: c210 :: c211 :: c212 :: c213 :: c214 :: c215 :: c216 :: c217 :: c218 :: c219 :: c220 :: c221 :: c222 :: c223 :: c224 :: c225 :: c226 :: c227 :: c228 :: c229 :: c230 :: c231 :: c232 :: c233 :: c234 :: c235 :: c236 :: c237 :: c238 :: c239 :: c240 :: c241 :: c242 :: c243 :: c244 :: c245 :: c246 :: c247 :: c248 :: c249 :: c250 :: c251 :: c252 :: c253 :: c254 :: c255 :: c256 :: c257 :: c258 :: c259 :: c260 :: c261 :: c262 :: c263 :: c264 :: c265 :: c266 :: c267 :: c268 :: c269 :: c270 :: c271 :: c272 :: c273 :: c274 :: c275 :: c276 :: c277 :: c278 :: c279 :: c280 :: c281 :: c282 :: c283 :: c284 :: c285 :: c286 :: c287 :: c288 :: c289 :: c290 :: c291 :: c292 :: c293 :: c294 :: []), []⟩ wy := by
  conv => arg 2; arg 1; whnf
  go_loopg [26, 25] h (fun g i t25 wr => ∃ j : Nat, g = h - j ∧ j ≤ h ∧ i = .int .i64 j ∧ t25 = .int .i64 (bas r b hs j) ∧ wy = wr)
  case atStart => exact ⟨0, by omega, by omega, rfl, rfl, rfl⟩
  case round =>
    obtain ⟨j, hgj, hj, rfl, rfl, rfl⟩ := hrel
    have bb := bas_bd r b b1 b4 hs (unhide Hr) j
    by_cases hlt : j < h
    · clear hexit
      obtain ⟨a, cap, hrow, hel⟩ := (unhide HR).row j hlt
      have HE := hide hel
      have len := (unhide HR).len j
      have i1 : (0 : Int) ≤ (j : Int) := by omega
      have i2 : (j : Int) < (h : Int) := by omega
      clear hel
      go_wp2_with fail
      go_loopg [243, 27] (hs j).length (fun g i t27 wr => ∃ q : Nat, g = (hs j).length - q ∧ q ≤ (hs j).length ∧ i = .int .i64 q ∧ t27 = .int .i64 (pgTo r b (hs j) q) ∧ wy = wr)
      case atStart => exact ⟨0, by omega, by omega, rfl, rfl, rfl⟩
      case round =>
        obtain ⟨q, hgq, hq, rfl, rfl, rfl⟩ := hrel
        by_cases hltq : q < (hs j).length
        · have hv := List.getElem?_eq_getElem hltq
          obtain ⟨p, rfl, cp⟩ := unhide HE q _ hv
          have vn := (unhide HR).lt _ _ _ hv
          have hsucc := pg_succ r b hv
          have Hs := hide hsucc
          clear hsucc
          generalize (hs j)[q] = v at hv cp vn Hs
          have cr := (unhide HR).exp v vn
          have rb := unhide Hr v
          have pb := pow_bd b b1 b4
          have xb := mul_bd rb.1 rb.2 pb.1 pb.2
          have gb := pg_bd r b b1 b4 (hs j) (unhide Hr) q
          generalize r v = x at cr rb xb Hs
          generalize pgTo r b (hs j) q = y at gb Hs ⊢
          have hw2 : wrap64 (x * 2 ^ b) = x * 2 ^ b := by unfold wrap64; omega
          have i3 : (0 : Int) ≤ (q : Int) := by omega
          have i4 : (q : Int) < ((hs j).length : Int) := by omega
          have i5 : (0 : Int) ≤ (v : Int) := by omega
          have i6 : (v : Int) < (n : Int) := by omega
          have i7 : (0 : Int) ≤ (b : Int) := by omega
          by_cases hxy : y < x * 2 ^ b
          · go_wp2_with fail
            go_roundg ((hs j).length - (q + 1))
            case measure => omega
            case rel => exact ⟨q + 1, rfl, by omega, by go_num, by rw [unhide Hs]; congr 1; omega, rfl⟩
          · go_wp2_with fail
            go_roundg ((hs j).length - (q + 1))
            case measure => omega
            case rel => exact ⟨q + 1, rfl, by omega, by go_num, by rw [unhide Hs]; congr 1; omega, rfl⟩
        · have hpe : pgTo r b (hs j) q = pg r b (hs j) := by
            have : q = (hs j).length := by omega
            unfold pg; rw [this]
          rw [hpe]
          have gb := pg_bd r b b1 b4 (hs j) (unhide Hr) (hs j).length
          change 0 ≤ pg r b (hs j) ∧ pg r b (hs j) ≤ 2576 at gb
          have hbs : bas r b hs (j + 1) = bas r b hs j + 2 * pg r b (hs j) := rfl
          clear hpe
          go_wp2_with fail
          go_loopg [263] (hs j).length (fun g i wr => ∃ q : Nat, g = (hs j).length - q ∧ q ≤ (hs j).length ∧ i = .int .i64 q ∧ wy = wr)
          case atStart => exact ⟨0, by omega, by omega, rfl, rfl⟩
          case round =>
            obtain ⟨q2, hgq2, hq2, rfl, rfl⟩ := hrel
            by_cases hltq2 : q2 < (hs j).length
            · have hv := List.getElem?_eq_getElem hltq2
              obtain ⟨p, rfl, cp⟩ := unhide HE q2 _ hv
              have vn := (unhide HR).lt _ _ _ hv
              have cs := (unhide HR).st j q2 _ hlt hv
              have o14 := (unhide HR).o14
              generalize (hs j)[q2] = v at hv cp vn cs
              have i3 : (0 : Int) ≤ (q2 : Int) := by omega
              have i4 : (q2 : Int) < ((hs j).length : Int) := by omega
              have i5 : (0 : Int) ≤ (v : Int) := by omega
              have i6 : (v : Int) < (n : Int) := by omega
              have Hbs := hide hbs
              clear hv hbs
              generalize hPP : pg r b (hs j) = PP at gb cs ⊢
              generalize hEE : bas r b hs j = EE at bb cs ⊢
              have hw : wrap64 (EE + PP) = EE + PP := by unfold wrap64; omega
              rcases Nat.mod_two_eq_zero_or_one q2 with e | e
              · rw [e] at cs
                simp at cs
                have e' : (q2 : Int) % 2 = 0 := by omega
                have Hpe := hide (And.intro hPP hEE)
                clear e hPP hEE
                go_wp2_with fail
                obtain ⟨hPP, hEE⟩ := unhide Hpe
                subst hPP hEE
                go_roundg ((hs j).length - (q2 + 1))
                case measure => omega
                case rel => exact ⟨q2 + 1, rfl, by omega, by go_num, rfl⟩
              · rw [e] at cs
                simp at cs
                have e' : (q2 : Int) % 2 = 1 := by omega
                have Hpe := hide (And.intro hPP hEE)
                clear e hPP hEE
                go_wp2_with fail
                obtain ⟨hPP, hEE⟩ := unhide Hpe
                subst hPP hEE
                go_roundg ((hs j).length - (q2 + 1))
                case measure => omega
                case rel => exact ⟨q2 + 1, rfl, by omega, by go_num, rfl⟩
            · have Hbs := hide hbs
              generalize pg r b (hs j) = PP at gb Hbs ⊢
              generalize bas r b hs j = EE at bb Hbs ⊢
              have hw1 : wrap64 (2 * PP) = 2 * PP := by unfold wrap64; omega
              have hw2 : wrap64 (EE + 2 * PP) = EE + 2 * PP := by unfold wrap64; omega
              clear hbs
              go_wp2_with fail
              go_roundg (h - (j + 1))
              case measure => omega
              case rel => exact ⟨j + 1, rfl, by omega, by go_num, by rw [unhide Hbs], rfl⟩
    · obtain rfl : h = j := by omega
      go_wp2_with fail
      apply hexit

end Go.Proofs.Ybulkads
