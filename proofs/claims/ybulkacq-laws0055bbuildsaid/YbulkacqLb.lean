import Derived.Test.YbulkacqLa
namespace Go.Proofs.Ybulkacq
open Go.RowKit Go.ChangeMaps

noncomputable def body5 : Code := bodies.getD 4 .skip

set_option maxRecDepth 1000000 in
set_option maxHeartbeats 6400000 in
theorem loop5 (c0 c1 c2 c3 c4 c5 c6 c7 c8 c9 c10 c11 c13 c14 c15 c16 c17 c18 c19 c20 c21 c22 c24 c25 c26 c27 c28 c29 c30 c31 c32 c33 c34 c35 c36 c37 c38 c39 c40 c41 c42 c43 c44 c45 c46 c47 c48 c49 c50 c51 c52 c53 c54 c55 c56 c57 c58 c59 c60 c61 c62 c63 c64 c65 c66 c67 c68 c69 c70 c71 c72 c73 c74 c75 c76 c77 c78 c79 c80 c81 c82 c83 c84 c85 c86 c87 c88 c89 c90 c91 c92 c93 c94 c95 c96 c97 c98 c99 c100 c101 c102 c103 c104 c105 c106 c107 c108 c109 c110 c111 c112 c113 c114 c115 c116 c117 c118 c119 c120 c121 c122 c123 c124 c125 c126 c127 c128 c129 c130 c131 c132 c133 c134 c135 c136 c137 c138 c139 c140 c141 c142 c143 c144 c145 c146 c147 c148 c149 c150 c151 c152 c153 c154 c155 c156 c157 c158 c159 c160 c161 c162 c163 c164 c165 c166 c167 c168 c169 c170 c171 c172 c173 c174 c175 c176 c177 c178 c179 c180 c181 c182 c183 c184 c185 c186 c187 c188 c189 c190 c191 c192 c193 c194 c195 c196 c197 c198 c199 c200 c201 c202 c203 c204 c205 c206 c207 c208 c209 c210 c211 c214 c215 c216 c217 c218 c219 c220 c221 c222 c223 c224 c225 c226 c227 c228 c229 c230 c231 c232 c233 c234 c235 c236 c237 c238 c239 c240 c241 c242 c243 c244 c245 c246 c247 c248 c249 c250 c251 c252 c253 c254 c255 c256 c257 c258 c259 c260 c261 c262 c263 c264 c265 c266 c267 c268 c269 c270 c271 c272 c273 c274 c275 c276 c277 c278 c279 : Value) (bd k : Nat) (R F : Nat → Int) (wc : World) (K : Act → World → Prop) (P : Ending → World → Prop)
    (HD : Hid (Dr bd k (fun i => (R i, F i)) wc)) (hm : k ≤ 1024)
    (hexit : ∀ (u24 u25 u26 u213 u214 u215 u216 u217 u218 u219 u220 u221 u222 u223 u224 u225 u226 u227 u228 u229 u230 u231 u232 u233 u234 : Value) (w' : World), wc.grownBy w' none → K ⟨List.toArray (c0 :: c1 :: c2 :: c3 :: c4 :: c5 :: c6 :: c7 :: c8 :: c9 :: c10 :: c11 :: (.slice (some ⟨bd, 0, none⟩) k k) :: c13 :: c14 :: c15 :: c16 :: c17 :: c18 :: c19 :: c20 :: c21 :: c22 :: (.int .i64 (keysTo (fun i => (R i, F i)) k).length) :: u24 :: u25 :: u26 :: c27 :: c28 :: c29 :: c30 :: c31 :: c32 :: c33 :: c34 :: c35 :: c36 :: c37 :: c38 :: c39 :: c40 :: c41 :: c42 :: c43 :: c44 :: c45 :: c46 :: c47 :: c48 :: c49 :: c50 :: c51 :: c52 :: c53 :: c54 :: c55 :: c56 :: c57 :: c58 :: c59 :: c60 :: c61 :: c62 :: c63 :: c64 :: c65 :: c66 :: c67 :: c68 :: c69 :: c70 :: c71 :: c72 :: c73 :: c74 :: c75 :: c76 :: c77 :: c78 :: c79 :: c80 :: c81 :: c82 :: c83 :: c84 :: c85 :: c86 :: c87 :: c88 :: c89 :: c90 :: c91 :: c92 :: c93 :: c94 :: c95 :: c96 :: c97 :: c98 :: c99 :: c100 :: c101 :: c102 :: c103 :: c104 :: c105 :: c106 :: c107 :: c108 :: c109 :: c110 :: c111 :: c112 :: c113 :: c114 :: c115 :: c116 :: c117 :: c118 :: c119 :: c120 :: c121 :: c122 :: c123 :: c124 :: c125 :: c126 :: c127 :: c128 :: c129 :: c130 :: c131 :: c132 :: c133 :: c134 :: c135 :: c136 :: c137 :: c138 :: c139 :: c140 :: c141 :: c142 :: c143 :: c144 :: c145 :: c146 :: c147 :: c148 :: c149 :: c150 :: c151 :: c152 :: c153 :: c154 :: c155 :: c156 :: c157 :: c158 :: c159 :: c160 :: c161 :: c162 :: c163 :: c164 :: c165 :: c166 :: c167 :: c168 :: c169 :: c170 :: c171 :: c172 :: c173 :: c174 :: c175 :: c176 :: c177 :: c178 :: c179 :: c180 :: c181 :: c182 :: c183 :: c184 :: c185 :: c186 :: c187 :: c188 :: c189 :: c190 :: c191 :: c192 :: c193 :: c194 :: c195 :: c196 :: c197 :: c198 :: c199 :: c200 :: c201 :: c202 :: c203 :: c204 :: c205 :: c206 :: c207 :: c208 :: c209 :: c210 :: c211 :: (.int .i64 k) :: u213 :: u214 :: u215 :: u216 :: u217 :: u218 :: u219 :: u220 :: u221 :: u222 :: u223 :: u224 :: u225 :: u226 :: u227 :: u228 :: u229 :: u230 :: u231 :: u232 :: u233 :: u234 :: c235 :: c236 :: c237 :: c238 :: c239 :: c240 :: c241 :: c242 :: c243 :: c244 :: c245 :: c246 :: c247 :: c248 :: c249 :: c250 :: c251 :: c252 :: c253 :: c254 :: c255 :: c256 :: c257 :: c258 :: c259 :: c260 :: c261 :: c262 :: c263 :: c264 :: c265 :: c266 :: c267 :: c268 :: c269 :: c270 :: c271 :: c272 :: c273 :: c274 :: c275 :: c276 :: c277 :: c278 :: c279 :: []), []⟩ w') :
    Code.wp Yba.prog (Code.loop body5) (Exit.inBlock 8 (Exit.then K (bodyPost Yba.prog Yba.f5 P))) ⟨List.toArray (c0 :: c1 :: c2 :: c3 :: c4 :: c5 :: c6 :: c7 :: c8 :: c9 :: c10 :: c11 :: (.slice (some ⟨bd, 0, none⟩) k k) :: c13 :: c14 :: c15 :: c16 :: c17 :: c18 :: c19 :: c20 :: c21 :: c22 :: (.int .i64 0) :: c24 :: c25 :: c26 :: c27 :: c28 :: c29 :: c30 :: c31 :: c32 :: c33 :: c34 :: c35 :: c36 :: c37 :: c38 :: c39 :: c40 :: c41 :: c42 :: c43 :: c44 :: c45 :: c46 :: c47 :: c48 :: c49 :: c50 :: c51 :: c52 :: c53 :: c54 :: c55 :: c56 :: c57 :: c58 :: c59 :: c60 :: c61 :: c62 :: c63 :: c64 :: c65 :: c66 :: c67 :: c68 :: c69 :: c70 :: c71 :: c72 :: c73 :: c74 :: c75 :: c76 :: c77 :: c78 :: c79 :: c80 :: c81 :: c82 :: c83 :: c84 :: c85 :: c86 :: c87 :: c88 :: c89 :: c90 :: c91 :: c92 :: c93 :: c94 :: c95 :: c96 :: c97 :: c98 :: c99 :: c100 :: c101 :: c102 :: c103 :: c104 :: c105 :: c106 :: c107 :: c108 :: c109 :: c110 :: c111 :: c112 :: c113 :: c114 :: c115 :: c116 :: c117 :: c118 :: c119 :: c120 :: c121 :: c122 :: c123 :: c124 :: c125 :: c126 :: c127 :: c128 :: c129 :: c130 :: c131 :: c132 :: c133 :: c134 :: c135 :: c136 :: c137 :: c138 :: c139 :: c140 :: c141 :: c142 :: c143 :: c144 :: c145 :: c146 :: c147 :: c148 :: c149 :: c150 :: c151 :: c152 :: c153 :: c154 :: c155 :: c156 :: c157 :: c158 :: c159 :: c160 :: c161 :: c162 :: c163 :: c164 :: c165 :: c166 :: c167 :: c168 :: c169 :: c170 :: c171 :: c172 :: c173 :: c174 :: c175 :: c176 :: c177 :: c178 :: c179 :: c180 :: c181 :: c182 :: c183 :: c184 :: c185 :: c186 :: c187 :: c188 :: c189 :: c190 :: c191 :: c192 :: c193 :: c194 :: c195 :: c196 :: c197 :: c198 :: c199 :: c200 :: c201 :: c202 :: c203 :: c204 :: c205 :: c206 :: c207 :: c208 :: c209 :: c210 :: c211 :: (.int .i64 k) :: (.int .i64 0) :: c214 :: c215 :: c216 :: c217 :: c218 :: c219 :: c220 :: c221 :: c222 :: c223 :: c224 :: c225 :: c226 :: c227 :: c228 :: c229 :: c230 :: c231 :: c232 :: c233 :: c234 :: c235 :: c236 :: c237 :: c238 :: c239 :: c240 :: c241 :: c242 :: c243 :: c244 :: c245 :: c246 :: c247 :: c248 :: c249 :: c250 :: c251 :: c252 :: c253 :: c254 :: c255 :: c256 :: c257 :: c258 :: c259 :: c260 :: c261 :: c262 :: c263 :: c264 :: c265 :: c266 :: c267 :: c268 :: c269 :: c270 :: c271 :: c272 :: c273 :: c274 :: c275 :: c276 :: c277 :: c278 :: c279 :: []), []⟩ wc := by
  conv => arg 2; arg 1; whnf
  go_loopg [213, 23] k (fun g i t23 wr => ∃ j : Nat, g = k - j ∧ j ≤ k ∧ i = .int .i64 j ∧ t23 = .int .i64 (keysTo (fun i => (R i, F i)) j).length ∧ wc.grownBy wr none)
  case atStart => exact ⟨0, by omega, by omega, rfl, rfl, World.grownBy.refl _ _⟩
  case round =>
    obtain ⟨j, hgj, hj, rfl, rfl, gx⟩ := hrel
    rename World => wo
    by_cases hlt3 : j < k
    · clear hexit
      have Hgx := hide gx
      have kl := keys_len (fun i => (R i, F i)) j
      clear gx
      go_wp2_with fail
      go_loopg [26, 25] j (fun g i t25 wr => ∃ q : Nat, g = j - q ∧ q ≤ j ∧ i = .int .i64 q ∧ t25 = .bool false ∧ wo.grownBy wr none ∧ ∀ q', q' < q → ¬ (R j, F j) = (R q', F q'))
      case atStart => exact ⟨0, by omega, by omega, rfl, rfl, World.grownBy.refl _ _, fun q' h => by omega⟩
      case round =>
        obtain ⟨q, hgq, hq, rfl, rfl, gy, hno⟩ := hrel
        have Hno := hide hno
        have Hgy := hide gy
        clear hno gy
        by_cases hlt4 : q < j
        · obtain ⟨l, t, k0, k1, k2, k3, k4⟩ := (unhide HD).grown ((unhide Hgx).trans (unhide Hgy)) j hlt3
          obtain ⟨l', t', m0, m1, m2, m3, m4⟩ := (unhide HD).grown ((unhide Hgx).trans (unhide Hgy)) q (by omega)
          have i1 : (0 : Int) ≤ (j : Int) := by omega
          have i2 : (j : Int) < (k : Int) := by omega
          have i3 : (0 : Int) ≤ (q : Int) := by omega
          have i4 : (q : Int) < (k : Int) := by omega
          have i5 : (q : Int) < (j : Int) := by omega
          go_upto_region 57 with fail
          go_cut [229] from 219 to 229 (fun t229 wd => ∃ bq : Bool, t229 = .bool bq ∧ (bq = true ↔ (R j, F j) = (R q, F q)) ∧ wr.grownBy wd none)
          case first =>
            go_region_with (go_at_call 8; refine (same_walk (R j) (F j) (R q) (F q) _ _ _ _ _ _ _).mono ?_; rintro e w1 ⟨rfl, g1⟩)
            all_goals
              go_wp2_with fail
              go_meet
            all_goals
              case rel => exact ⟨_, rfl, by simp, (grown_drew _).trans g1⟩
          case rest =>
            obtain ⟨bq, rfl, hbq, gd⟩ := hcut
            have Hgd2 := hide gd
            have Hbq := hide hbq
            clear gd hbq k0 k1 k2 k3 k4 m0 m1 m2 m3 m4
            cases bq with
            | false =>
              go_wp2_with fail
              go_roundg (j - (q + 1))
              case measure => omega
              case rel => exact ⟨q + 1, rfl, by omega, by go_num, rfl, (unhide Hgy).trans (unhide Hgd2), fun q' hq' => by
                rcases Nat.lt_succ_iff_lt_or_eq.1 hq' with h | h
                · exact unhide Hno q' h
                · subst h; simpa [Hid] using Hbq⟩
            | true =>
              have hit := keys_hit (ps := fun i => (R i, F i)) hlt4 ((unhide Hbq).1 rfl)
              have Hit := hide hit
              clear hit
              go_wp2_with fail
              go_roundg (k - (j + 1))
              case measure => omega
              case rel => exact ⟨j + 1, rfl, by omega, by go_num, by rw [unhide Hit], ((unhide Hgx).trans (unhide Hgy)).trans (unhide Hgd2)⟩
        · obtain rfl : j = q := by omega
          have hit := keys_miss (ps := fun i => (R i, F i)) (unhide Hno)
          have Hit := hide hit
          clear hit
          go_wp2_with fail
          go_roundg (k - (j + 1))
          case measure => omega
          case rel => exact ⟨j + 1, rfl, by omega, by go_num, by rw [unhide Hit]; go_num, (unhide Hgx).trans (unhide Hgy)⟩
    · clear HD
      obtain rfl : k = j := by omega
      go_wp2_with fail
      exact gx

end Go.Proofs.Ybulkacq
