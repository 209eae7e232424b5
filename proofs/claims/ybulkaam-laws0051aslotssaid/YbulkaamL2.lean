import Derived.Test.YbulkaamFs
namespace Go.Proofs.Ybulkaam
open Go.RowKit Go.ChangeMaps

noncomputable def body2 : Code := bodies.getD 1 .skip
/-- the curs, as they were handed in -/
def Cur (w : World) (a : Option Addr) (q : Nat) : Prop := ∀ k, k < q → ∃ b off, a = some ⟨b, off, none⟩ ∧ ∃ a' l cp xs, w.cell? ⟨b, off + k, none⟩ = some (.slice a' l cp) ∧ xs.length = l ∧ l ≤ 256 ∧ Bytes w a' xs
theorem newPrev (w : World) (i : Int) : ∃ w', (Instr.mapUpdate 64 (.map (some w.heap.size)) (.int .i64 i) (.bool true)).run Yba.prog (w.alloc (.map #[] 0)) = .ok () w' ∧ w.grownBy w' none ∧ w'.heap[w.heap.size]? = some (.map (ime [i]) 1) ∧ w'.heap.size = w.heap.size + 1 := by
  have h := put3 (ks := []) (heap_alloc_new w (.map #[] 0)) i
  have e : ins i [] = [i] := by simp [ins]
  rw [e] at h
  refine ⟨_, h, ?_, heap_setBlock (by simp) _, by rw [size_setBlock]; simp⟩
  exact (World.grownBy_alloc w _ none).andThen (grown_setBlock _ _ _) (fun j hj => by simp at hj; omega)

set_option maxRecDepth 1000000 in
set_option maxHeartbeats 6400000 in
theorem loop2 (c00 c3 c4 c5 c6 c7 c8 c12 c13 c14 c15 c16 c17 c18 c19 c20 c21 c22 c23 c24 c25 c26 c27 c28 c29 c30 c31 c32 c33 c34 c35 c36 c37 c38 c39 c40 c41 c42 c43 c44 c45 c46 c47 c48 c49 c50 c51 c55 c56 c57 c58 c59 c60 c61 c62 c63 c64 c65 c66 c67 c68 c69 c70 c71 c72 c73 c74 c75 c76 c77 c78 c79 c80 c81 c82 c83 c84 c85 c86 c87 c88 c89 c90 c91 c92 c93 c94 c95 c96 c97 c98 c99 c100 c101 c102 c103 c104 c105 c106 c107 c108 c109 c110 c111 c112 c113 c114 c115 c116 c117 c118 c119 c120 c121 c122 c123 c124 c125 c126 c127 c128 c129 c130 c131 c132 c133 c134 c135 c136 c137 c138 c139 c140 c141 c142 c143 c144 c145 c146 c147 c148 c149 c150 c151 c152 c153 c154 c155 c156 c157 c158 c159 c160 c161 c162 c163 c164 c165 c166 c167 c168 c169 c170 c171 c172 c173 c174 c175 c176 c177 c178 c179 c180 c181 c182 c183 c184 c185 c186 c187 c188 c189 c190 c191 c192 c193 c194 c195 c196 c197 c198 c199 c200 c201 c202 c203 c204 c205 c206 c207 c208 c209 c210 c211 c212 c213 c214 c215 c216 c217 c218 c219 c220 c221 c222 c223 c224 c225 c226 c227 c228 c229 c230 c231 c232 c233 c234 c235 c236 c237 c238 c239 c240 c241 c242 c243 c244 c245 c246 c247 c248 c249 c250 c251 c252 c253 c254 c255 c256 c257 c258 c259 c260 c261 : Value) (a0 a1 a2 : Option Addr) (n c0 m c1 q c2 c mg bg : Nat) (ad : Addr) (N : Nat → ByteArray) (S : Nat → Int) (w0 w1 : World) (K' : Act → World → Prop) (P : Ending → World → Prop)
    (HK : Hid (∀ k, k < n → ∃ b off, a0 = some ⟨b, off, none⟩ ∧ w0.cell? ⟨b, off + k, none⟩ = some (.string (N k)))) (HS : Hid (∀ k, k < m → ∃ b off, a1 = some ⟨b, off, none⟩ ∧ w0.cell? ⟨b, off + k, none⟩ = some (.int .i8 (S k)))) (HC : Hid (Cur w0 a2 q))
    (HF : Hid (Fs w0 w1 w1 c mg bg ad [] [] (.slice none 0 0))) (ln : n ≤ 256)
    (hexit : ∀ (u12 u13 u14 u15 u16 u17 u19 u20 u21 u54 u55 u56 u57 u58 u59 u60 u61 u62 u63 u64 u65 u66 u67 u68 u69 u70 u71 u72 u73 u74 u75 u76 u77 u78 u79 u80 u81 u82 u83 u84 u85 u86 u87 u88 u89 u90 u91 u92 u93 u94 u95 u96 u97 u98 u99 u100 u101 u102 u103 u104 u105 u106 u107 u108 u109 u110 u111 u112 u113 u114 u115 u116 u117 u118 u119 v : Value) (w' : World), (∃ ds, Fs w0 w1 w' c mg bg ad ds ds v ∧ ds.length ≤ 256) → K' ⟨List.toArray (c00 :: (.slice a1 m c1) :: (.slice a2 q c2) :: c3 :: c4 :: c5 :: c6 :: c7 :: c8 :: (.pointer (some ⟨c, 0, none⟩)) :: (.pointer (some ⟨bg, 0, none⟩)) :: (v) :: u12 :: u13 :: u14 :: u15 :: u16 :: u17 :: c18 :: u19 :: u20 :: u21 :: c22 :: c23 :: c24 :: c25 :: c26 :: c27 :: c28 :: c29 :: c30 :: c31 :: c32 :: c33 :: c34 :: c35 :: c36 :: c37 :: c38 :: c39 :: c40 :: c41 :: c42 :: c43 :: c44 :: c45 :: c46 :: c47 :: c48 :: c49 :: c50 :: c51 :: (.slice a0 n c0) :: (.int .i64 n) :: u54 :: u55 :: u56 :: u57 :: u58 :: u59 :: u60 :: u61 :: u62 :: u63 :: u64 :: u65 :: u66 :: u67 :: u68 :: u69 :: u70 :: u71 :: u72 :: u73 :: u74 :: u75 :: u76 :: u77 :: u78 :: u79 :: u80 :: u81 :: u82 :: u83 :: u84 :: u85 :: u86 :: u87 :: u88 :: u89 :: u90 :: u91 :: u92 :: u93 :: u94 :: u95 :: u96 :: u97 :: u98 :: u99 :: u100 :: u101 :: u102 :: u103 :: u104 :: u105 :: u106 :: u107 :: u108 :: u109 :: u110 :: u111 :: u112 :: u113 :: u114 :: u115 :: u116 :: u117 :: u118 :: u119 :: c120 :: c121 :: c122 :: c123 :: c124 :: c125 :: c126 :: c127 :: c128 :: c129 :: c130 :: c131 :: c132 :: c133 :: c134 :: c135 :: c136 :: c137 :: c138 :: c139 :: c140 :: c141 :: c142 :: c143 :: c144 :: c145 :: c146 :: c147 :: c148 :: c149 :: c150 :: c151 :: c152 :: c153 :: c154 :: c155 :: c156 :: c157 :: c158 :: c159 :: c160 :: c161 :: c162 :: c163 :: c164 :: c165 :: c166 :: c167 :: c168 :: c169 :: c170 :: c171 :: c172 :: c173 :: c174 :: c175 :: c176 :: c177 :: c178 :: c179 :: c180 :: c181 :: c182 :: c183 :: c184 :: c185 :: c186 :: c187 :: c188 :: c189 :: c190 :: c191 :: c192 :: c193 :: c194 :: c195 :: c196 :: c197 :: c198 :: c199 :: c200 :: c201 :: c202 :: c203 :: c204 :: c205 :: c206 :: c207 :: c208 :: c209 :: c210 :: c211 :: c212 :: c213 :: c214 :: c215 :: c216 :: c217 :: c218 :: c219 :: c220 :: c221 :: c222 :: c223 :: c224 :: c225 :: c226 :: c227 :: c228 :: c229 :: c230 :: c231 :: c232 :: c233 :: c234 :: c235 :: c236 :: c237 :: c238 :: c239 :: c240 :: c241 :: c242 :: c243 :: c244 :: c245 :: c246 :: c247 :: c248 :: c249 :: c250 :: c251 :: c252 :: c253 :: c254 :: c255 :: c256 :: c257 :: c258 :: c259 :: c260 :: c261 :: []), []⟩ w') :
    Code.wp Yba.prog (Code.loop body2) (Exit.inBlock 2 (Exit.then K' (bodyPost Yba.prog Yba.f4 P))) ⟨List.toArray (c00 :: (.slice a1 m c1) :: (.slice a2 q c2) :: c3 :: c4 :: c5 :: c6 :: c7 :: c8 :: (.pointer (some ⟨c, 0, none⟩)) :: (.pointer (some ⟨bg, 0, none⟩)) :: (.slice none 0 0) :: c12 :: c13 :: c14 :: c15 :: c16 :: c17 :: c18 :: c19 :: c20 :: c21 :: c22 :: c23 :: c24 :: c25 :: c26 :: c27 :: c28 :: c29 :: c30 :: c31 :: c32 :: c33 :: c34 :: c35 :: c36 :: c37 :: c38 :: c39 :: c40 :: c41 :: c42 :: c43 :: c44 :: c45 :: c46 :: c47 :: c48 :: c49 :: c50 :: c51 :: (.slice a0 n c0) :: (.int .i64 n) :: (.int .i64 0) :: c55 :: c56 :: c57 :: c58 :: c59 :: c60 :: c61 :: c62 :: c63 :: c64 :: c65 :: c66 :: c67 :: c68 :: c69 :: c70 :: c71 :: c72 :: c73 :: c74 :: c75 :: c76 :: c77 :: c78 :: c79 :: c80 :: c81 :: c82 :: c83 :: c84 :: c85 :: c86 :: c87 :: c88 :: c89 :: c90 :: c91 :: c92 :: c93 :: c94 :: c95 :: c96 :: c97 :: c98 :: c99 :: c100 :: c101 :: c102 :: c103 :: c104 :: c105 :: c106 :: c107 :: c108 :: c109 :: c110 :: c111 :: c112 :: c113 :: c114 :: c115 :: c116 :: c117 :: c118 :: c119 :: c120 :: c121 :: c122 :: c123 :: c124 :: c125 :: c126 :: c127 :: c128 :: c129 :: c130 :: c131 :: c132 :: c133 :: c134 :: c135 :: c136 :: c137 :: c138 :: c139 :: c140 :: c141 :: c142 :: c143 :: c144 :: c145 :: c146 :: c147 :: c148 :: c149 :: c150 :: c151 :: c152 :: c153 :: c154 :: c155 :: c156 :: c157 :: c158 :: c159 :: c160 :: c161 :: c162 :: c163 :: c164 :: c165 :: c166 :: c167 :: c168 :: c169 :: c170 :: c171 :: c172 :: c173 :: c174 :: c175 :: c176 :: c177 :: c178 :: c179 :: c180 :: c181 :: c182 :: c183 :: c184 :: c185 :: c186 :: c187 :: c188 :: c189 :: c190 :: c191 :: c192 :: c193 :: c194 :: c195 :: c196 :: c197 :: c198 :: c199 :: c200 :: c201 :: c202 :: c203 :: c204 :: c205 :: c206 :: c207 :: c208 :: c209 :: c210 :: c211 :: c212 :: c213 :: c214 :: c215 :: c216 :: c217 :: c218 :: c219 :: c220 :: c221 :: c222 :: c223 :: c224 :: c225 :: c226 :: c227 :: c228 :: c229 :: c230 :: c231 :: c232 :: c233 :: c234 :: c235 :: c236 :: c237 :: c238 :: c239 :: c240 :: c241 :: c242 :: c243 :: c244 :: c245 :: c246 :: c247 :: c248 :: c249 :: c250 :: c251 :: c252 :: c253 :: c254 :: c255 :: c256 :: c257 :: c258 :: c259 :: c260 :: c261 :: []), []⟩ w1 := by
  conv => arg 2; arg 1; whnf
  go_loopg [54, 11] n (fun g i t11 wr => ∃ (k : Nat) (ds : List Slot), g = n - k ∧ k ≤ n ∧ i = .int .i64 k ∧ ds.length ≤ k ∧ Fs w0 w1 wr c mg bg ad ds ds t11)
  case atStart => exact ⟨0, [], by omega, by omega, rfl, by simp, unhide HF⟩
  case round =>
    clear HF
    obtain ⟨k, ds, hgk, hk, rfl, hdl, F⟩ := hrel
    by_cases hlt : k < n
    · obtain ⟨ba, oa, rfl, y0⟩ := unhide HK k hlt
      have y1 := (F.bel.cell (World.block_lt_of_cell? w0 _ y0)).trans y0
      generalize N k = p at y0 y1
      have i1 : (0 : Int) ≤ (k : Int) := by omega
      have i2 : (k : Int) < (n : Int) := by omega
      have hv14 := heap_alloc_new wr (.cells #[.pointer (some ⟨c, 0, none⟩), .string p] 61)
      have F2 := F.kept (World.grownBy_alloc wr (.cells #[.pointer (some ⟨c, 0, none⟩), .string p] 61) none)
      have g3 := cell_at (i := 3) (v := .map (some mg)) F2.hb rfl
      have d0 := cell_at (i := 0) (v := .pointer (some ⟨c, 0, none⟩)) hv14 rfl
      have d1 := cell_at (i := 1) (v := .string p) hv14 rfl
      have hsz := F.sz
      have HF2 := hide F2
      have Hv14 := hide hv14
      have n1 := neqNil62
      have n2 := neqNone62
      by_cases hp : p ∈ keys ds
      · have hlk := look61 F2.hm hp
        clear hexit F F2 y0 hv14 hsz
        go_wp2_with fail
        go_roundg (n - (k + 1))
        case measure => omega
        case rel => exact ⟨k + 1, ds, rfl, by omega, by go_num, by omega, unhide HF2⟩
      · have hlk := lookNone61 F2.hm hp
        clear F F2 y0 hv14
        go_upto_region 17 with fail
        have hsa := (unhide HF2).sz
        generalize wr.alloc (.cells #[.pointer (some ⟨c, 0, none⟩), .string p] 61) = wa at HF2 Hv14 hsa ⊢
        generalize wr.heap.size = b14 at Hv14 hsz ⊢
        clear hlk g3 d0 d1 n1 n2 y1
        go_upto_if 70 with fail
        go_cut [15] from 55 to 119 (fun t15 wc => ∃ sd : Int, t15 = .int .i64 sd ∧ wa = wc)
        case first =>
          by_cases hm : k < m
          · obtain ⟨bs, os, rfl, y0⟩ := unhide HS k hm
            have y1 := ((unhide HF2).bel.cell (World.block_lt_of_cell? w0 _ y0)).trans y0
            have i3 : (k : Int) < (m : Int) := by omega
            clear y0 hexit
            go_wp2_with fail
            go_meet
            case rel => exact ⟨_, rfl, rfl⟩
          · have i3 : ¬ (k : Int) < (m : Int) := by omega
            clear hexit
            go_wp2_with fail
            go_meet
            case rel => exact ⟨_, rfl, rfl⟩
        case rest =>
          obtain ⟨sd, rfl, hwc⟩ := hcut
          subst hwc
          have hmm := @run_makeMap Yba.prog
          go_upto_if 80 with fail
          have Gab := hide (World.grownBy_alloc wa (.map #[] 0) none)
          have Hcb := hide (heap_alloc_new wa (.map #[] 0))
          have HFb := hide ((unhide HF2).kept (unhide Gab))
          generalize wa.alloc (.map #[] 0) = wb at Gab Hcb HFb ⊢
          have lcb : wa.heap.size ≤ wa.heap.size := Nat.le_refl _
          generalize hcb : wa.heap.size = cb at Hcb hsa lcb ⊢
          go_cut [17] from 55 to 119 (fun t17 wc => ∃ a l cp xs, t17 = .slice a l cp ∧ xs.length = l ∧ l ≤ 256 ∧ Bytes w0 a xs ∧ wb = wc)
          case first =>
            by_cases hm : k < q
            · obtain ⟨bs, os, rfl, a', l, cp, xs, y0, e1, e2, e3⟩ := unhide HC k hm
              have y1 := ((unhide HFb).bel.cell (World.block_lt_of_cell? w0 _ y0)).trans y0
              have i3 : (k : Int) < (q : Int) := by omega
              have He3 := hide e3
              clear y0 hexit e3
              go_wp2_with fail
              go_meet
              case rel => exact ⟨_, _, _, xs, rfl, e1, e2, unhide He3, rfl⟩
            · have i3 : ¬ (k : Int) < (q : Int) := by omega
              clear hexit
              go_wp2_with fail
              go_meet
              case rel => exact ⟨_, _, _, [], rfl, rfl, by omega, fun k hk => by simp at hk, rfl⟩
          case rest =>
            obtain ⟨a', l, cp, xs, rfl, hxl, hxl2, hxb, hwc⟩ := hcut
            subst hwc
            have HB := hide (hxb.below (unhide HFb).bel)
            have Hxb := hide hxb
            clear hxb hmm
            go_wp2_with fail
            change Code.wp Yba.prog (Code.loop body3) _ _ _
            apply loop3 (hn := hxl) (ln := hxl2) (HB := HB) (Hcb := Hcb)
            rintro u19 u87 u88 u89 u90 u91 u92 u93 u94 w4 ⟨cs, g4, hcs, hxs⟩
            obtain ⟨w5, hp5, g5, h5, s5⟩ := newPrev w4 (k : Int)
            have hmm := @run_makeMap Yba.prog
            have Hg4 := hide (And.intro g4 (And.intro hcs hxs))
            have Hg5 := hide (And.intro g5 (And.intro h5 s5))
            clear g4 hcs hxs g5 h5 s5
            go_upto_region 31 with fail
            clear hp5 hmm
            have lcb4 : cb < w4.heap.size := Ybulkaam.hlt (unhide Hg4).2.1
            have Ha5 : Hid (wa.grownBy w5 none) := hide (((unhide Gab).andThen (unhide Hg4).1 (fun j hj => by simp at hj; omega)).trans (unhide Hg5).1)
            have s6 := World.grownBy_alloc w5 (.cells #[.int .i64 sd, .map (some cb), .map (some w4.heap.size), .int .i64 k, .int .i64 (-(k : Int))] 66) none
            have h6 := heap_alloc_new w5 (.cells #[.int .i64 sd, .map (some cb), .map (some w4.heap.size), .int .i64 k, .int .i64 (-(k : Int))] 66)
            have l4 : wa.heap.size ≤ w4.heap.size := by omega
            have l5 : wa.heap.size ≤ w5.heap.size := (unhide Ha5).size
            have HS6 : Hid (Sl (w5.alloc (.cells #[.int .i64 sd, .map (some cb), .map (some w4.heap.size), .int .i64 k, .int .i64 (-(k : Int))] 66)) ⟨p, w5.heap.size, cb, w4.heap.size, sd, k, cs, .slice a' l cp⟩) := hide ⟨h6, Ybulkaam.gk s6 (Ybulkaam.gk (unhide Hg5).1 (unhide Hg4).2.1 (by simp)) (by simp), Ybulkaam.gk s6 (unhide Hg5).2.1 (by simp)⟩
            have HF6 := hide ((unhide HF2).kept ((unhide Ha5).trans s6))
            have Hd6 := hide (Ybulkaam.gk ((unhide Ha5).trans s6) (unhide Hv14) (by simp))
            generalize w5.alloc (.cells #[.int .i64 sd, .map (some cb), .map (some w4.heap.size), .int .i64 k, .int .i64 (-(k : Int))] 66) = w6 at HS6 HF6 Hd6 ⊢
            have hvw : Vw w0 ⟨p, w5.heap.size, cb, w4.heap.size, sd, k, cs, .slice a' l cp⟩ := ⟨a', l, cp, xs, rfl, hxl, hxl2, unhide Hxb, (unhide Hg4).2.2⟩
            obtain ⟨w7, hr7, g7, F7⟩ := (unhide HF6).put ⟨p, w5.heap.size, cb, w4.heap.size, sd, k, cs, .slice a' l cp⟩ (unhide HS6) ⟨by show w1.heap.size ≤ w5.heap.size; omega, by show w1.heap.size ≤ cb; omega, by show w1.heap.size ≤ w4.heap.size; omega⟩ hp hvw
            have g3 := cell_at (i := 3) (v := .map (some mg)) (unhide HF6).hb rfl
            have d0 := cell_at (i := 0) (v := .pointer (some ⟨c, 0, none⟩)) (unhide Hd6) rfl
            have d1 := cell_at (i := 1) (v := .string p) (unhide Hd6) rfl
            have Hd7 := hide (Ybulkaam.gk g7 (unhide Hd6) (fun e => by simp at e; have e1 := unhide Hd6; rw [← e, (unhide HF6).hm] at e1; cases e1))
            have HF7 := hide F7
            have hl7 := fun ty => len64 (F7.en ⟨p, w5.heap.size, cb, w4.heap.size, sd, k, cs, .slice a' l cp⟩ (by simp)).hc ty
            generalize w5.heap.size = sb at hr7 HF7 hl7 ⊢
            clear h6 s6 hvw g7 F7 Hg4 Hg5 Ha5 l4 l5 HS6 HF6 Hd6 Gab Hcb HFb HB Hxb
            go_upto_region 32 with fail
            clear hr7 g3 d0 d1
            have d0 := cell_at (i := 0) (v := .pointer (some ⟨c, 0, none⟩)) (unhide Hd7) rfl
            have d1 := cell_at (i := 1) (v := .string p) (unhide Hd7) rfl
            obtain ⟨i68, h81, h82, h83, h84⟩ := info_parts info68
            have hz8 := (unhide HF7).sz
            go_wp2_with (at_builtin; refine wpList_append_lies (P := Yba.prog) _ rfl (.tmp 110) (.tmp 117) 59 rfl w1.heap.size 68 i68 _ 5 64 Yba.underlying59 h81 h82 h83 h84 rfl (by omega) u11 ds.length _ rfl ((unhide HF7).row.kept (World.grownBy_alloc _ _ none) (by cases u11.ownBlock <;> simp)) ⟨w7.heap.size, 0, none⟩ 1 1 (rowOf c ⟨p, sb, cb, w4.heap.size, sd, k, cs, .slice a' l cp⟩) rfl rfl (news5 w7 c ⟨p, sb, cb, w4.heap.size, sd, k, cs, .slice a' l cp⟩) (one5 c p sb cb w4.heap.size sd k cs a' l cp) (by omega) (by simp only [maxLen]; omega) (by omega) (by simp; omega) _ rfl ?_; intro g cap w8 ho8 hg8 hb8 hl8; have HF8 := hide (((unhide HF7).kept (World.grownBy_alloc _ _ none)).app ho8 hg8); clear ho8 hg8 hb8 hl8)
            go_roundg (n - (k + 1))
            case measure => omega
            case rel => exact ⟨k + 1, _, rfl, by omega, by go_num, by simp; omega, unhide HF8⟩
    · obtain rfl : n = k := by omega
      have HF2 := hide F
      clear F
      go_wp2_with fail
      exact ⟨_, unhide HF2, by omega⟩

end Go.Proofs.Ybulkaam
