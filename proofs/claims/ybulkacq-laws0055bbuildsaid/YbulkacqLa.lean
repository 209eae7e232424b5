import Derived.Test.YbulkacqPe
import Derived.BigRegion
import Derived.Deep.RegionHeld3
namespace Go.Proofs.Ybulkacq
open Go.RowKit Go.ChangeMaps

def loopsOf : Code → List Code
  | .loop c => c :: loopsOf c
  | .seq a b => loopsOf a ++ loopsOf b
  | .block _ c => loopsOf c
  | .scope c => loopsOf c
  | .cond _ a b => loopsOf a ++ loopsOf b
  | _ => []
noncomputable def bodies : List Code := ((Yba.f5.body.map loopsOf).getD [])
noncomputable def body3 : Code := bodies.getD 2 .skip

set_option maxRecDepth 1000000 in
set_option maxHeartbeats 6400000 in
theorem loop3 (c0 c1 c2 c3 c4 c5 c6 c7 c8 c9 c10 c11 c13 c14 c15 c17 c18 c19 c20 c21 c22 c23 c24 c25 c26 c27 c28 c29 c30 c31 c32 c33 c34 c35 c36 c37 c38 c39 c40 c41 c42 c43 c44 c45 c46 c47 c48 c49 c50 c51 c52 c53 c54 c55 c56 c57 c58 c59 c60 c61 c62 c63 c64 c65 c66 c67 c68 c69 c70 c71 c72 c73 c74 c75 c76 c77 c78 c79 c80 c81 c82 c83 c84 c85 c86 c87 c88 c89 c90 c91 c92 c93 c94 c95 c96 c97 c98 c99 c100 c101 c102 c103 c104 c105 c106 c107 c108 c109 c110 c111 c112 c113 c114 c115 c116 c117 c118 c119 c120 c121 c122 c123 c124 c125 c126 c127 c128 c129 c130 c131 c132 c133 c134 c135 c136 c137 c138 c139 c140 c141 c142 c143 c144 c145 c146 c147 c148 c149 c150 c151 c152 c153 c154 c155 c158 c159 c160 c161 c162 c163 c164 c165 c166 c167 c168 c169 c170 c171 c172 c173 c174 c175 c176 c177 c178 c179 c180 c181 c182 c183 c184 c185 c186 c187 c188 c189 c190 c191 c192 c193 c194 c195 c196 c197 c198 c199 c200 c201 c202 c203 c204 c205 c206 c207 c208 c209 c210 c211 c212 c213 c214 c215 c216 c217 c218 c219 c220 c221 c222 c223 c224 c225 c226 c227 c228 c229 c230 c231 c232 c233 c234 c235 c236 c237 c238 c239 c240 c241 c242 c243 c244 c245 c246 c247 c248 c249 c250 c251 c252 c253 c254 c255 c256 c257 c258 c259 c260 c261 c262 c263 c264 c265 c266 c267 c268 c269 c270 c271 c272 c273 c274 c275 c276 c277 c278 c279 : Value) (n st seed : Int) (rnd : Bool) (bl bd D k L M C G base : Nat) (R F : Nat → Int) (val : Nat → Value) (xs : Nat → List Int) (wc : World) (K : Act → World → Prop) (P : Ending → World → Prop)
    (HB : Hid (Built wc D k n st seed rnd bl ⟨bd, 0, none⟩ (fun i => (R i, F i)) L M C G base val xs)) (HD : Hid (Dr bd k (fun i => (R i, F i)) wc)) (hm : k ≤ 1024)
    (hexit : ∀ (u10 u18 u19 u20 u21 u22 u157 u158 u159 u160 u161 u162 u163 u164 u165 u166 u167 u168 u169 u170 u171 u172 u173 u174 u175 u176 u177 u178 u179 u180 u181 u182 u183 u184 u185 u186 u187 u188 u189 u190 u191 u192 u193 u194 u195 u196 u197 u198 u199 u200 u201 u202 u203 u204 u205 u206 u207 u208 u209 u210 : Value) (w' : World), wc.grownBy w' none → K ⟨List.toArray (c0 :: c1 :: c2 :: c3 :: c4 :: c5 :: c6 :: c7 :: c8 :: c9 :: u10 :: c11 :: (.slice (some ⟨bd, 0, none⟩) k k) :: c13 :: c14 :: c15 :: (.pointer (some ⟨D, 0, none⟩)) :: c17 :: u18 :: u19 :: u20 :: u21 :: u22 :: c23 :: c24 :: c25 :: c26 :: c27 :: c28 :: c29 :: c30 :: c31 :: c32 :: c33 :: c34 :: c35 :: c36 :: c37 :: c38 :: c39 :: c40 :: c41 :: c42 :: c43 :: c44 :: c45 :: c46 :: c47 :: c48 :: c49 :: c50 :: c51 :: c52 :: c53 :: c54 :: c55 :: c56 :: c57 :: c58 :: c59 :: c60 :: c61 :: c62 :: c63 :: c64 :: c65 :: c66 :: c67 :: c68 :: c69 :: c70 :: c71 :: c72 :: c73 :: c74 :: c75 :: c76 :: c77 :: c78 :: c79 :: c80 :: c81 :: c82 :: c83 :: c84 :: c85 :: c86 :: c87 :: c88 :: c89 :: c90 :: c91 :: c92 :: c93 :: c94 :: c95 :: c96 :: c97 :: c98 :: c99 :: c100 :: c101 :: c102 :: c103 :: c104 :: c105 :: c106 :: c107 :: c108 :: c109 :: c110 :: c111 :: c112 :: c113 :: c114 :: c115 :: c116 :: c117 :: c118 :: c119 :: c120 :: c121 :: c122 :: c123 :: c124 :: c125 :: c126 :: c127 :: c128 :: c129 :: c130 :: c131 :: c132 :: c133 :: c134 :: c135 :: c136 :: c137 :: c138 :: c139 :: c140 :: c141 :: c142 :: c143 :: c144 :: c145 :: c146 :: c147 :: c148 :: c149 :: c150 :: c151 :: c152 :: c153 :: c154 :: c155 :: (.int .i64 k) :: u157 :: u158 :: u159 :: u160 :: u161 :: u162 :: u163 :: u164 :: u165 :: u166 :: u167 :: u168 :: u169 :: u170 :: u171 :: u172 :: u173 :: u174 :: u175 :: u176 :: u177 :: u178 :: u179 :: u180 :: u181 :: u182 :: u183 :: u184 :: u185 :: u186 :: u187 :: u188 :: u189 :: u190 :: u191 :: u192 :: u193 :: u194 :: u195 :: u196 :: u197 :: u198 :: u199 :: u200 :: u201 :: u202 :: u203 :: u204 :: u205 :: u206 :: u207 :: u208 :: u209 :: u210 :: c211 :: c212 :: c213 :: c214 :: c215 :: c216 :: c217 :: c218 :: c219 :: c220 :: c221 :: c222 :: c223 :: c224 :: c225 :: c226 :: c227 :: c228 :: c229 :: c230 :: c231 :: c232 :: c233 :: c234 :: c235 :: c236 :: c237 :: c238 :: c239 :: c240 :: c241 :: c242 :: c243 :: c244 :: c245 :: c246 :: c247 :: c248 :: c249 :: c250 :: c251 :: c252 :: c253 :: c254 :: c255 :: c256 :: c257 :: c258 :: c259 :: c260 :: c261 :: c262 :: c263 :: c264 :: c265 :: c266 :: c267 :: c268 :: c269 :: c270 :: c271 :: c272 :: c273 :: c274 :: c275 :: c276 :: c277 :: c278 :: c279 :: []), []⟩ w') :
    Code.wp Yba.prog (Code.loop body3) (Exit.inBlock 4 (Exit.then K (bodyPost Yba.prog Yba.f5 P))) ⟨List.toArray (c0 :: c1 :: c2 :: c3 :: c4 :: c5 :: c6 :: c7 :: c8 :: c9 :: c10 :: c11 :: (.slice (some ⟨bd, 0, none⟩) k k) :: c13 :: c14 :: c15 :: (.pointer (some ⟨D, 0, none⟩)) :: c17 :: c18 :: c19 :: c20 :: c21 :: c22 :: c23 :: c24 :: c25 :: c26 :: c27 :: c28 :: c29 :: c30 :: c31 :: c32 :: c33 :: c34 :: c35 :: c36 :: c37 :: c38 :: c39 :: c40 :: c41 :: c42 :: c43 :: c44 :: c45 :: c46 :: c47 :: c48 :: c49 :: c50 :: c51 :: c52 :: c53 :: c54 :: c55 :: c56 :: c57 :: c58 :: c59 :: c60 :: c61 :: c62 :: c63 :: c64 :: c65 :: c66 :: c67 :: c68 :: c69 :: c70 :: c71 :: c72 :: c73 :: c74 :: c75 :: c76 :: c77 :: c78 :: c79 :: c80 :: c81 :: c82 :: c83 :: c84 :: c85 :: c86 :: c87 :: c88 :: c89 :: c90 :: c91 :: c92 :: c93 :: c94 :: c95 :: c96 :: c97 :: c98 :: c99 :: c100 :: c101 :: c102 :: c103 :: c104 :: c105 :: c106 :: c107 :: c108 :: c109 :: c110 :: c111 :: c112 :: c113 :: c114 :: c115 :: c116 :: c117 :: c118 :: c119 :: c120 :: c121 :: c122 :: c123 :: c124 :: c125 :: c126 :: c127 :: c128 :: c129 :: c130 :: c131 :: c132 :: c133 :: c134 :: c135 :: c136 :: c137 :: c138 :: c139 :: c140 :: c141 :: c142 :: c143 :: c144 :: c145 :: c146 :: c147 :: c148 :: c149 :: c150 :: c151 :: c152 :: c153 :: c154 :: c155 :: (.int .i64 k) :: (.int .i64 0) :: c158 :: c159 :: c160 :: c161 :: c162 :: c163 :: c164 :: c165 :: c166 :: c167 :: c168 :: c169 :: c170 :: c171 :: c172 :: c173 :: c174 :: c175 :: c176 :: c177 :: c178 :: c179 :: c180 :: c181 :: c182 :: c183 :: c184 :: c185 :: c186 :: c187 :: c188 :: c189 :: c190 :: c191 :: c192 :: c193 :: c194 :: c195 :: c196 :: c197 :: c198 :: c199 :: c200 :: c201 :: c202 :: c203 :: c204 :: c205 :: c206 :: c207 :: c208 :: c209 :: c210 :: c211 :: c212 :: c213 :: c214 :: c215 :: c216 :: c217 :: c218 :: c219 :: c220 :: c221 :: c222 :: c223 :: c224 :: c225 :: c226 :: c227 :: c228 :: c229 :: c230 :: c231 :: c232 :: c233 :: c234 :: c235 :: c236 :: c237 :: c238 :: c239 :: c240 :: c241 :: c242 :: c243 :: c244 :: c245 :: c246 :: c247 :: c248 :: c249 :: c250 :: c251 :: c252 :: c253 :: c254 :: c255 :: c256 :: c257 :: c258 :: c259 :: c260 :: c261 :: c262 :: c263 :: c264 :: c265 :: c266 :: c267 :: c268 :: c269 :: c270 :: c271 :: c272 :: c273 :: c274 :: c275 :: c276 :: c277 :: c278 :: c279 :: []), []⟩ wc := by
  have d5 := (unhide HB).c5
  conv => arg 2; arg 1; whnf
  go_loopg [157] k (fun g i wr => ∃ j : Nat, g = k - j ∧ j ≤ k ∧ i = .int .i64 j ∧ wc.grownBy wr none)
  case atStart => exact ⟨0, by omega, by omega, rfl, World.grownBy.refl _ _⟩
  case round =>
    obtain ⟨j, hgj, hj, rfl, gx⟩ := hrel
    rename World => wo
    by_cases hlt3 : j < k
    · clear hexit
      obtain ⟨gb, cp, hlk, hcell⟩ := ((unhide HB).kept gx).row hlt3
      have HL := hide hlk
      have HCe := hide hcell
      have Hgx := hide gx
      obtain ⟨l, t, k0, k1, k2, k3, k4⟩ := (unhide HD).grown gx j hlt3
      have i1 : (0 : Int) ≤ (j : Int) := by omega
      have i2 : (j : Int) < (k : Int) := by omega
      clear gx hlk hcell
      go_upto_region 35 with fail
      go_cut [19] from 158 to 210 (fun t19 wd => ∃ by_, t19 = .pointer (some ⟨by_, 0, none⟩) ∧ wd.cell? ⟨by_, 0, none⟩ = some (.int .i64 (R j)) ∧ wd.cell? ⟨by_, 1, none⟩ = some (.int .i64 (F j)) ∧ wo.grownBy wd none)
      case first =>
        -- <<
        go_region_held3 (fun w' => w'.cell? ⟨bd, j * 5 + 1, none⟩ = some (.int .i64 (R j)) ∧ w'.cell? ⟨bd, j * 5 + 2, none⟩ = some (.int .i64 (F j)))
          (first | exact ⟨k1, k2⟩ | exact ⟨kc k1, kc k2⟩) (fail)
        all_goals
          go_wp2_with fail
          go_meet
        all_goals
          case rel => exact ⟨_, rfl, by simp [go_sem], by simp [go_sem], by first | exact (World.grownBy_alloc _ _ none).trans (grown_drew _) | exact (grown_drew _).trans (World.grownBy_alloc _ _ none)⟩
        -- >>
      case rest =>
        obtain ⟨by_, rfl, y0, y1, gd⟩ := hcut
        have e5 := ((unhide Hgx).trans gd).cell d5 (by simp)
        have hlk : ∀ q, (Instr.lookup 69 (.map (some L)) (.agg #[.int .i64 (R j), .int .i64 (F j)]) false).run Yba.prog (World.drewN _ q) = _ := fun q => unhide HL _ (gd.trans (grown_drewN _ q))
        have Hgd := hide gd
        clear gd k0 k1 k2 k3 k4 HL
        go_upto_region 36 with fail
        go_quiet (fail)
        clear y0 y1 e5 hlk
        go_wp2_with fail
        go_loopg [179, 21] k (fun g i t21 wr' => ∃ q : Nat, g = k - q ∧ q ≤ k ∧ i = .int .i64 q ∧ t21 = .int .i64 (numsTo (fun i => (R i, F i)) (R j, F j) q).length ∧ wo.grownBy wr' none)
        case atStart => exact ⟨0, by omega, by omega, rfl, rfl, (unhide Hgd).trans (grown_drewN _ _)⟩
        case round =>
          obtain ⟨q, hgq, hq, rfl, rfl, gy⟩ := hrel
          by_cases hlt4 : q < k
          · obtain ⟨l, t, k0, k1, k2, k3, k4⟩ := (unhide HD).grown ((unhide Hgx).trans gy) j hlt3
            obtain ⟨l', t', m0, m1, m2, m3, m4⟩ := (unhide HD).grown ((unhide Hgx).trans gy) q hlt4
            have i3 : (0 : Int) ≤ (q : Int) := by omega
            have i4 : (q : Int) < (k : Int) := by omega
            have Hgy := hide gy
            clear gy
            go_upto_region 41 with fail
            go_cut [190] from 180 to 205 (fun t190 wd => ∃ bq : Bool, t190 = .bool bq ∧ (bq = true ↔ (R q, F q) = (R j, F j)) ∧ wr.grownBy wd none)
            case first =>
              go_region_with (go_at_call 8; refine (same_walk (R q) (F q) (R j) (F j) _ _ _ _ _ _ _).mono ?_; rintro e w1 ⟨rfl, g1⟩)
              all_goals
                go_wp2_with fail
                go_meet
              all_goals
                case rel => exact ⟨_, rfl, by simp, (grown_drew _).trans g1⟩
            case rest =>
              obtain ⟨bq, rfl, hbq, gd⟩ := hcut
              have Hgd2 := hide gd
              have Hbq := hide hbq
              clear gd hbq k0 k1 k2 k3 k4 m0 m1 m2 m3 m4
              cases bq with
              | false =>
                go_wp2_with fail
                go_roundg (k - (q + 1))
                case measure => omega
                case rel => exact ⟨q + 1, rfl, by omega, by go_num, by rw [nums_miss (by simpa [Hid] using Hbq)], (unhide Hgy).trans (unhide Hgd2)⟩
              | true =>
                have he : (R q, F q) = (R j, F j) := (unhide Hbq).1 rfl
                obtain ⟨cq, hq2⟩ := unhide HCe q hlt4 he
                have hit := nums_hit (ps := fun i => (R i, F i)) he
                have cq' := ((unhide Hgy).trans (unhide Hgd2)).cell cq (by simp)
                have bnd := nums_len (fun i => (R i, F i)) (R j, F j) q
                have Hhit := hide hit
                clear cq hit he HCe
                generalize (numsTo (fun i => (R i, F i)) (R j, F j) q).length = aq at cq' hq2 bnd Hhit ⊢
                generalize hak : (numsTo (fun i => (R i, F i)) (R j, F j) k).length = ak at hq2 ⊢
                have i5 : (0 : Int) ≤ (aq : Int) := by omega
                have i6 : (aq : Int) < (ak : Int) := by omega
                have i7 : ¬ (ak : Int) ≤ (aq : Int) := by omega
                have i8 : decide ((ak : Int) ≤ (aq : Int)) = false := by simpa using i7
                have i9 : decide (ak ≤ aq) = false := by simpa using hq2
                go_wp2_with fail
                subst hak
                go_roundg (k - (q + 1))
                case measure => omega
                case rel => exact ⟨q + 1, rfl, by omega, by go_num, by rw [unhide Hhit]; go_num, (unhide Hgy).trans (unhide Hgd2)⟩
          · obtain rfl : k = q := by omega
            have Hgy := hide gy
            clear gy
            go_wp2_with fail
            go_roundg (k - (j + 1))
            case measure => omega
            case rel => exact ⟨j + 1, rfl, by omega, by go_num, (unhide Hgx).trans (unhide Hgy)⟩
    · clear HB HD d5
      go_wp2_with fail
      exact gx

end Go.Proofs.Ybulkacq
