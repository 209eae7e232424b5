import Derived.Test.YbulkaamRf
namespace Go.Proofs.Ybulkaam
open Go.RowKit Go.ChangeMaps

noncomputable def body4 : Code := bodies.getD 3 .skip

set_option maxRecDepth 1000000 in
set_option maxHeartbeats 6400000 in
theorem loop4 (c0 c1 c2 c3 c4 c5 c6 c7 c8 c9 c11 c12 c13 c14 c15 c16 c17 c18 c19 c20 c21 c23 c24 c25 c26 c27 c28 c29 c30 c31 c32 c33 c34 c35 c36 c37 c38 c39 c40 c41 c42 c43 c44 c45 c46 c47 c48 c49 c50 c51 c52 c53 c54 c55 c56 c57 c58 c59 c60 c61 c62 c63 c64 c65 c66 c67 c68 c69 c70 c71 c72 c73 c74 c75 c76 c77 c78 c79 c80 c81 c82 c83 c84 c85 c86 c87 c88 c89 c90 c91 c92 c93 c94 c95 c96 c97 c98 c99 c100 c101 c102 c103 c104 c105 c106 c107 c108 c109 c110 c111 c112 c113 c114 c115 c116 c117 c118 c119 c120 c121 c122 c123 c124 c125 c126 c127 c128 c129 c130 c131 c132 c133 c134 c135 c136 c137 c141 c142 c143 c144 c145 c146 c147 c148 c149 c150 c151 c152 c153 c154 c155 c156 c157 c158 c159 c160 c161 c162 c163 c164 c165 c166 c167 c168 c169 c170 c171 c172 c173 c174 c175 c176 c177 c178 c179 c180 c181 c182 c183 c184 c185 c186 c187 c188 c189 c190 c191 c192 c193 c194 c195 c196 c197 c198 c199 c200 c201 c202 c203 c204 c205 c206 c207 c208 c209 c210 c211 c212 c213 c214 c215 c216 c217 c218 c219 c220 c221 c222 c223 c224 c225 c226 c227 c228 c229 c230 c231 c232 c233 c234 c235 c236 c237 c238 c239 c240 c241 c242 c243 c244 c245 c246 c247 c248 c249 c250 c251 c252 c253 c254 c255 c256 c257 c258 c259 c260 c261 : Value) (av : Option Addr) (n cp c mg bg bc mc : Nat) (ad : Addr) (ds : List Slot) (f h : Nat → Nat) (seen : List Nat) (w0 w1 wq wd : World) (K' : Act → World → Prop) (P : Ending → World → Prop)
    (HR : Hid (Rd w0 w1 wq wd c mg bg ad ds (.slice av n cp) bc mc f h seen)) (HL : Hid (Lv w0 wd wd h 0)) (hn : ds.length = n) (ln : n ≤ 256)
    (hexit : ∀ (u6 u24 u25 u26 u28 u140 u141 u142 u143 u144 u145 u146 u147 u148 u149 u150 u151 u152 u153 u154 u155 u156 u157 u158 u159 u160 u161 u162 u163 u164 u165 u166 u167 u168 u169 u170 u171 u172 u173 u174 u175 u176 u177 u178 u179 u180 u181 u182 u183 u184 u185 u186 u187 u188 u189 u190 u191 u192 u193 u194 u195 u196 u197 u198 u199 u200 u201 u202 u203 u204 u205 u206 u207 u208 u209 u210 u211 u212 u213 u214 u215 u216 u217 u218 u219 u220 u221 u222 u223 u224 u225 u226 u227 u228 u229 u230 u231 u232 u233 u234 u235 u236 u237 u238 u239 u240 u241 u242 u243 u244 u245 u246 u247 u248 u249 u250 u251 u252 u253 u254 u255 u256 u257 u258 u259 u260 u261 : Value) (w' : World), Below w0.heap.size w0 w' → K' ⟨List.toArray (c0 :: c1 :: c2 :: c3 :: c4 :: c5 :: u6 :: c7 :: c8 :: c9 :: (.pointer (some ⟨bg, 0, none⟩)) :: c11 :: c12 :: c13 :: c14 :: c15 :: c16 :: c17 :: c18 :: c19 :: c20 :: c21 :: (.pointer (some ⟨bc, 0, none⟩)) :: c23 :: u24 :: u25 :: u26 :: c27 :: u28 :: c29 :: c30 :: c31 :: c32 :: c33 :: c34 :: c35 :: c36 :: c37 :: c38 :: c39 :: c40 :: c41 :: c42 :: c43 :: c44 :: c45 :: c46 :: c47 :: c48 :: c49 :: c50 :: c51 :: c52 :: c53 :: c54 :: c55 :: c56 :: c57 :: c58 :: c59 :: c60 :: c61 :: c62 :: c63 :: c64 :: c65 :: c66 :: c67 :: c68 :: c69 :: c70 :: c71 :: c72 :: c73 :: c74 :: c75 :: c76 :: c77 :: c78 :: c79 :: c80 :: c81 :: c82 :: c83 :: c84 :: c85 :: c86 :: c87 :: c88 :: c89 :: c90 :: c91 :: c92 :: c93 :: c94 :: c95 :: c96 :: c97 :: c98 :: c99 :: c100 :: c101 :: c102 :: c103 :: c104 :: c105 :: c106 :: c107 :: c108 :: c109 :: c110 :: c111 :: c112 :: c113 :: c114 :: c115 :: c116 :: c117 :: c118 :: c119 :: c120 :: c121 :: c122 :: c123 :: c124 :: c125 :: c126 :: c127 :: c128 :: c129 :: c130 :: c131 :: c132 :: c133 :: c134 :: c135 :: c136 :: c137 :: (.slice av n cp) :: (.int .i64 n) :: u140 :: u141 :: u142 :: u143 :: u144 :: u145 :: u146 :: u147 :: u148 :: u149 :: u150 :: u151 :: u152 :: u153 :: u154 :: u155 :: u156 :: u157 :: u158 :: u159 :: u160 :: u161 :: u162 :: u163 :: u164 :: u165 :: u166 :: u167 :: u168 :: u169 :: u170 :: u171 :: u172 :: u173 :: u174 :: u175 :: u176 :: u177 :: u178 :: u179 :: u180 :: u181 :: u182 :: u183 :: u184 :: u185 :: u186 :: u187 :: u188 :: u189 :: u190 :: u191 :: u192 :: u193 :: u194 :: u195 :: u196 :: u197 :: u198 :: u199 :: u200 :: u201 :: u202 :: u203 :: u204 :: u205 :: u206 :: u207 :: u208 :: u209 :: u210 :: u211 :: u212 :: u213 :: u214 :: u215 :: u216 :: u217 :: u218 :: u219 :: u220 :: u221 :: u222 :: u223 :: u224 :: u225 :: u226 :: u227 :: u228 :: u229 :: u230 :: u231 :: u232 :: u233 :: u234 :: u235 :: u236 :: u237 :: u238 :: u239 :: u240 :: u241 :: u242 :: u243 :: u244 :: u245 :: u246 :: u247 :: u248 :: u249 :: u250 :: u251 :: u252 :: u253 :: u254 :: u255 :: u256 :: u257 :: u258 :: u259 :: u260 :: u261 :: []), []⟩ w') :
    Code.wp Yba.prog (Code.loop body4) (Exit.inBlock 6 (Exit.then K' (bodyPost Yba.prog Yba.f4 P))) ⟨List.toArray (c0 :: c1 :: c2 :: c3 :: c4 :: c5 :: c6 :: c7 :: c8 :: c9 :: (.pointer (some ⟨bg, 0, none⟩)) :: c11 :: c12 :: c13 :: c14 :: c15 :: c16 :: c17 :: c18 :: c19 :: c20 :: c21 :: (.pointer (some ⟨bc, 0, none⟩)) :: c23 :: c24 :: c25 :: c26 :: c27 :: c28 :: c29 :: c30 :: c31 :: c32 :: c33 :: c34 :: c35 :: c36 :: c37 :: c38 :: c39 :: c40 :: c41 :: c42 :: c43 :: c44 :: c45 :: c46 :: c47 :: c48 :: c49 :: c50 :: c51 :: c52 :: c53 :: c54 :: c55 :: c56 :: c57 :: c58 :: c59 :: c60 :: c61 :: c62 :: c63 :: c64 :: c65 :: c66 :: c67 :: c68 :: c69 :: c70 :: c71 :: c72 :: c73 :: c74 :: c75 :: c76 :: c77 :: c78 :: c79 :: c80 :: c81 :: c82 :: c83 :: c84 :: c85 :: c86 :: c87 :: c88 :: c89 :: c90 :: c91 :: c92 :: c93 :: c94 :: c95 :: c96 :: c97 :: c98 :: c99 :: c100 :: c101 :: c102 :: c103 :: c104 :: c105 :: c106 :: c107 :: c108 :: c109 :: c110 :: c111 :: c112 :: c113 :: c114 :: c115 :: c116 :: c117 :: c118 :: c119 :: c120 :: c121 :: c122 :: c123 :: c124 :: c125 :: c126 :: c127 :: c128 :: c129 :: c130 :: c131 :: c132 :: c133 :: c134 :: c135 :: c136 :: c137 :: (.slice av n cp) :: (.int .i64 n) :: (.int .i64 0) :: c141 :: c142 :: c143 :: c144 :: c145 :: c146 :: c147 :: c148 :: c149 :: c150 :: c151 :: c152 :: c153 :: c154 :: c155 :: c156 :: c157 :: c158 :: c159 :: c160 :: c161 :: c162 :: c163 :: c164 :: c165 :: c166 :: c167 :: c168 :: c169 :: c170 :: c171 :: c172 :: c173 :: c174 :: c175 :: c176 :: c177 :: c178 :: c179 :: c180 :: c181 :: c182 :: c183 :: c184 :: c185 :: c186 :: c187 :: c188 :: c189 :: c190 :: c191 :: c192 :: c193 :: c194 :: c195 :: c196 :: c197 :: c198 :: c199 :: c200 :: c201 :: c202 :: c203 :: c204 :: c205 :: c206 :: c207 :: c208 :: c209 :: c210 :: c211 :: c212 :: c213 :: c214 :: c215 :: c216 :: c217 :: c218 :: c219 :: c220 :: c221 :: c222 :: c223 :: c224 :: c225 :: c226 :: c227 :: c228 :: c229 :: c230 :: c231 :: c232 :: c233 :: c234 :: c235 :: c236 :: c237 :: c238 :: c239 :: c240 :: c241 :: c242 :: c243 :: c244 :: c245 :: c246 :: c247 :: c248 :: c249 :: c250 :: c251 :: c252 :: c253 :: c254 :: c255 :: c256 :: c257 :: c258 :: c259 :: c260 :: c261 :: []), []⟩ wd := by
  conv => arg 2; arg 1; whnf
  go_loopg [140] n (fun g i wr => ∃ k : Nat, g = n - k ∧ k ≤ n ∧ i = .int .i64 k ∧ Lv w0 wd wr h k)
  case atStart => exact ⟨0, by omega, by omega, rfl, unhide HL⟩
  case round =>
    clear HL
    obtain ⟨k, hgk, hk, rfl, L⟩ := hrel
    by_cases hlt : k < n
    · clear hexit
      have hkd : k < ds.length := by omega
      have HL := hide L
      obtain ⟨R1, g, cap, hv, hrow⟩ := (unhide HR).round L hkd
      injection hv with hv1 hv2 hv3
      subst hv1
      clear hv2 hv3
      have hks := (unhide HR).all k (by rw [keys_len]; exact hkd)
      have lkG := R1.lookG (unhide HR).F.nd hkd
      have lkC := fun q => (R1.kept (grown_drewN _ q)).lookC (unhide HR).F.nd hkd hks (unhide HR).C.lt
      have hsm : ds.getD k noSlot ∈ ds := by simp [List.getD, List.getElem?_eq_getElem hkd]
      have hvw := (unhide HR).F.vw _ hsm
      have lsb := Ybulkaam.hlt ((unhide HR).F.en _ hsm).hs
      have lcb := Ybulkaam.hlt ((unhide HR).F.en _ hsm).hc
      have lpb := Ybulkaam.hlt ((unhide HR).F.en _ hsm).hp
      have lfk := (unhide HR).C.lf k hks
      have lhk := (unhide HR).C.lh k hks
      have lwq := (unhide HR).F.bel.size
      generalize ds.getD k noSlot = s at R1 hrow lkG lkC hvw lsb lcb lpb
      obtain ⟨a', l, cp', xs, e1, hxl, hxl2, hxb, hxs⟩ := hvw
      have y0 : wr.cell? ⟨g, k * 5, none⟩ = some (.pointer (some ⟨c, 0, none⟩)) := hrow 0 _ rfl
      have y1 : wr.cell? ⟨g, k * 5 + 1, none⟩ = some (.string s.key) := hrow 1 _ rfl
      have y2 : wr.cell? ⟨g, k * 5 + 2, none⟩ = some (.pointer (some ⟨s.sb, 0, none⟩)) := hrow 2 _ rfl
      have y3 : wr.cell? ⟨g, k * 5 + 3, none⟩ = some (.slice a' l cp') := hrow 3 _ (by rw [← e1]; rfl)
      have y4 : wr.cell? ⟨g, k * 5 + 4, none⟩ = some (.int .i64 s.cs.length) := hrow 4 _ rfl
      rw [e1] at R1 lkG lkC
      have i1 : (0 : Int) ≤ (k : Int) := by omega
      have i2 : (k : Int) < (n : Int) := by omega
      have HR1 := hide R1
      have Hxb := hide hxb
      have Hxs := hide hxs
      clear L hrow R1 hxb hxs
      go_upto_region 40 with fail
      have HLa := hide ((unhide HL).kept (World.grownBy_alloc wr (.cells #[.pointer (some ⟨c, 0, none⟩), .string s.key, .pointer (some ⟨s.sb, 0, none⟩), .slice a' l cp', .int .i64 s.cs.length] 68) none))
      generalize wr.alloc (.cells #[.pointer (some ⟨c, 0, none⟩), .string s.key, .pointer (some ⟨s.sb, 0, none⟩), .slice a' l cp', .int .i64 s.cs.length] 68) = wa at HR1 lkG lkC HLa ⊢
      generalize wr.heap.size = b24 at HR1 ⊢
      clear y0 y1 y2 y3 y4 HL
      have g3 := (unhide HR1).g3
      have k3 := (unhide HR1).k3
      have y0 := cell_at (i := 0) (v := .pointer (some ⟨c, 0, none⟩)) (unhide HR1).e24 rfl
      have y1 := cell_at (i := 1) (v := .string s.key) (unhide HR1).e24 rfl
      go_upto_region 41 with fail
      clear lkG g3
      go_cut [26] from 141 to 261 (fun t26 wc => t26 = .pointer (some ⟨f k, 0, none⟩) ∧ wa.grownBy wc none)
      case first =>
        go_quiet (fail)
        go_wp2_with fail
        go_meet
        case rel => exact ⟨rfl, grown_drewN _ _⟩
      case rest =>
        obtain ⟨rfl, gc⟩ := hcut
        have HRb := hide ((unhide HR1).kept gc)
        have HLb := hide ((unhide HLa).kept gc)
        clear lkC k3 y0 y1 HR1 HLa gc
        rename World => wb
        have y2 := cell_at (i := 2) (v := .pointer (some ⟨s.sb, 0, none⟩)) (unhide HRb).e24 rfl
        have n1 := neqSame62
        have n2 := eqlNil62
        have hne : (⟨f k, 0, none⟩ : Addr) ≠ ⟨s.sb, 0, none⟩ := fun e => by have e' : f k = s.sb := congrArg Addr.block e; omega
        have n3 := eqlOther62 hne (unhide HRb).hf (unhide HRb).sl.hs
        go_upto_region 44 with fail
        clear n1 n2 n3 y2 hne
        have p0 := cell_at (i := 0) (v := .int .i64 s.side) (unhide HRb).hf rfl
        have p3 := cell_at (i := 3) (v := .int .i64 s.via) (unhide HRb).hf rfl
        have p4 := cell_at (i := 4) (v := .int .i64 (-s.via)) (unhide HRb).hf rfl
        have q0 := cell_at (i := 0) (v := .int .i64 s.side) (unhide HRb).sl.hs rfl
        have q3 := cell_at (i := 3) (v := .int .i64 s.via) (unhide HRb).sl.hs rfl
        have q4 := cell_at (i := 4) (v := .int .i64 (-s.via)) (unhide HRb).sl.hs rfl
        go_cut [199] from 141 to 261 (fun t wc => t = .bool false ∧ wb.grownBy wc none)
        case first =>
          go_quiet (fail)
          go_wp2_with fail
          go_meet
          case rel => exact ⟨rfl, grown_drewN _ _⟩
        case rest =>
          obtain ⟨rfl, gc⟩ := hcut
          have HRc := hide ((unhide HRb).kept gc)
          have HLc := hide ((unhide HLb).kept gc)
          clear p0 p3 p4 q0 q3 q4 HRb HLb gc
          rename World => wx
          have p2 := cell_at (i := 2) (v := .map (some s.pb)) (unhide HRc).hf rfl
          have q3 := cell_at (i := 3) (v := .int .i64 s.via) (unhide HRc).sl.hs rfl
          have hln : ∀ q ty, (Builtin.len_ #[64] ty #[.map (some s.pb)]).run Yba.prog (World.drewN wx q) = .ok (.int .i64 1) (World.drewN wx q) := fun q ty => len64 ((unhide HRc).kept (grown_drewN _ q)).sl.hp ty
          have hlv : ∀ q, (Instr.lookup 64 (.map (some s.pb)) (.int .i64 s.via) false).run Yba.prog (World.drewN wx q) = .ok (.bool true) (World.drewN wx q) := fun q => by have e := look3 ((unhide HRc).kept (grown_drewN _ q)).sl.hp s.via; simpa using e
          go_upto_region 46 with fail
          go_cut [217] from 141 to 261 (fun t wc => t = .bool false ∧ wx.grownBy wc none)
          case first =>
            go_quiet (fail)
            go_wp2_with fail
            go_meet
            case rel => exact ⟨rfl, grown_drewN _ _⟩
          case rest =>
            obtain ⟨rfl, gc⟩ := hcut
            have HRd := hide ((unhide HRc).kept gc)
            have HLd := hide ((unhide HLc).kept gc)
            clear p2 q3 hln hlv HRc HLc gc
            rename World => wy
            have p1 := cell_at (i := 1) (v := .map (some (h k))) (unhide HRd).hf rfl
            have y4 := cell_at (i := 4) (v := .int .i64 s.cs.length) (unhide HRd).e24 rfl
            have hln : ∀ q ty, (Builtin.len_ #[64] ty #[.map (some (h k))]).run Yba.prog (World.drewN wy q) = .ok (.int .i64 s.cs.length) (World.drewN wy q) := fun q ty => len64 ((unhide HRd).kept (grown_drewN _ q)).hh ty
            go_upto_region 48 with fail
            go_cut [225] from 141 to 261 (fun t wc => t = .bool false ∧ wy.grownBy wc none)
            case first =>
              go_quiet (fail)
              go_wp2_with fail
              go_meet
              case rel => exact ⟨rfl, grown_drewN _ _⟩
            case rest =>
              obtain ⟨rfl, gc⟩ := hcut
              have HRe := hide ((unhide HRd).kept gc)
              have HLe := hide ((unhide HLd).kept gc)
              clear p1 y4 hln HRd HLd gc
              rename World => wz
              have y3 := cell_at (i := 3) (v := s.val) (unhide HRe).e24 rfl
              rw [e1] at y3
              go_wp2_with fail
              change Code.wp Yba.prog (Code.loop body5) _ _ _
              apply loop5 (hn := hxl) (ln := hxl2) (HB := hide ((unhide Hxb).below (unhide HLe).bel)) (HX := hide (fun x hx => (unhide Hxs x).2 hx)) (hf := cell_at (unhide HRe).hf rfl) (hh := (unhide HRe).hh)
              intro u6 u28 u229 u230 u231 u232 u233 u234 u235 u236 u237 u238 u239 u240 u241
              have hp6 := put3 (unhide HRe).hh 1000
              obtain ⟨wv, hwv⟩ : ∃ wv, wv = setBlock wz (h k) (.map (ime (ins 1000 s.cs)) (ins 1000 s.cs).length) := ⟨_, rfl⟩
              have gv : wz.grownBy wv (some (h k)) := hwv ▸ grown_setBlock _ _ _
              rw [← hwv] at hp6
              have p1 := cell_at (i := 1) (v := .map (some (h k))) (unhide HRe).hf rfl
              have HSv := hide ((unhide HRe).sl.kept gv (by simp; omega) (by simp; omega) (by simp; omega))
              have He24 := hide (Ybulkaam.gk gv (unhide HRe).e24 (fun e => by simp at e; have e2 := (unhide HRe).e24; rw [← e, (unhide HRe).hh] at e2; cases e2))
              have HLv := hide ((unhide HLe).put (by omega) gv)
              have h1000 : (1000 : Int) ∉ s.cs := fun e => no1000 (unhide Hxb) ((unhide Hxs _).1 e)
              clear hwv gv y3 HRe HLe
              go_upto_region 57 with fail
              clear hp6 p1
              have q1 := cell_at (i := 1) (v := .map (some s.cb)) (unhide HSv).hs rfl
              have y4 := cell_at (i := 4) (v := .int .i64 s.cs.length) (unhide He24) rfl
              have hln : ∀ q ty, (Builtin.len_ #[64] ty #[.map (some s.cb)]).run Yba.prog (World.drewN wv q) = .ok (.int .i64 s.cs.length) (World.drewN wv q) := fun q ty => len64 ((unhide HSv).kept (grown_drewN _ q) (by simp) (by simp) (by simp)).hc ty
              have hlv : ∀ q, (Instr.lookup 64 (.map (some s.cb)) (.int .i64 1000) false).run Yba.prog (World.drewN wv q) = .ok (.bool false) (World.drewN wv q) := fun q => by have e := look3 ((unhide HSv).kept (grown_drewN _ q) (by simp) (by simp) (by simp)).hc 1000; rw [decide_eq_false h1000] at e; exact e
              go_cut [260] from 141 to 261 (fun t wc => t = .bool false ∧ wv.grownBy wc none)
              case first =>
                go_quiet (fail)
                go_wp2_with fail
                go_meet
                case rel => exact ⟨rfl, grown_drewN _ _⟩
              case rest =>
                obtain ⟨rfl, gc⟩ := hcut
                have HLw := hide ((unhide HLv).kept gc)
                clear q1 y4 hln hlv HSv He24 HLv gc
                go_wp2_with fail
                go_roundg (n - (k + 1))
                case measure => omega
                case rel => exact ⟨k + 1, rfl, by omega, by go_num, unhide HLw⟩
    · obtain rfl : n = k := by omega
      have HB := hide L.bel
      clear L
      go_wp2_with fail
      exact unhide HB

end Go.Proofs.Ybulkaam
