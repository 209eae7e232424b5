import Derived.Test.YbulkaamL2
namespace Go.Proofs.Ybulkaam
open Go.RowKit Go.ChangeMaps

noncomputable def body1 : Code := bodies.getD 0 .skip
/-- the curs, as they were handed in, of whatever length -/
def Cu (w : World) (a : Option Addr) (q : Nat) : Prop := ∀ k, k < q → ∃ b off, a = some ⟨b, off, none⟩ ∧ ∃ a' l cp xs, w.cell? ⟨b, off + k, none⟩ = some (.slice a' l cp) ∧ xs.length = l ∧ Bytes w a' xs

set_option maxRecDepth 1000000 in
set_option maxHeartbeats 6400000 in
theorem loop1 (e0 e1 e2 e3 e4 e5 e6 e7 e8 e9 e10 e11 e12 e13 e14 e15 e16 e17 e18 e19 e20 e21 e22 e23 e24 e25 e26 e27 e28 e29 e30 e31 e32 e33 e34 e35 e36 e40 e41 e42 e43 e44 e45 e46 e47 e48 e49 e50 e51 e52 e53 e54 e55 e56 e57 e58 e59 e60 e61 e62 e63 e64 e65 e66 e67 e68 e69 e70 e71 e72 e73 e74 e75 e76 e77 e78 e79 e80 e81 e82 e83 e84 e85 e86 e87 e88 e89 e90 e91 e92 e93 e94 e95 e96 e97 e98 e99 e100 e101 e102 e103 e104 e105 e106 e107 e108 e109 e110 e111 e112 e113 e114 e115 e116 e117 e118 e119 e120 e121 e122 e123 e124 e125 e126 e127 e128 e129 e130 e131 e132 e133 e134 e135 e136 e137 e138 e139 e140 e141 e142 e143 e144 e145 e146 e147 e148 e149 e150 e151 e152 e153 e154 e155 e156 e157 e158 e159 e160 e161 e162 e163 e164 e165 e166 e167 e168 e169 e170 e171 e172 e173 e174 e175 e176 e177 e178 e179 e180 e181 e182 e183 e184 e185 e186 e187 e188 e189 e190 e191 e192 e193 e194 e195 e196 e197 e198 e199 e200 e201 e202 e203 e204 e205 e206 e207 e208 e209 e210 e211 e212 e213 e214 e215 e216 e217 e218 e219 e220 e221 e222 e223 e224 e225 e226 e227 e228 e229 e230 e231 e232 e233 e234 e235 e236 e237 e238 e239 e240 e241 e242 e243 e244 e245 e246 e247 e248 e249 e250 e251 e252 e253 e254 e255 e256 e257 e258 e259 e260 e261 : Value) (a2 : Option Addr) (q c2 : Nat) (w0 : World) (K' : Act → World → Prop)
    (HC : Hid (Cu w0 a2 q)) (lq : q ≤ 256)
    (hexit : ∀ (u6 u8 u39 u40 u41 u42 u43 u44 u45 u46 : Value), Cur w0 a2 q → K' ⟨List.toArray (e0 :: e1 :: e2 :: e3 :: e4 :: e5 :: u6 :: e7 :: u8 :: e9 :: e10 :: e11 :: e12 :: e13 :: e14 :: e15 :: e16 :: e17 :: e18 :: e19 :: e20 :: e21 :: e22 :: e23 :: e24 :: e25 :: e26 :: e27 :: e28 :: e29 :: e30 :: e31 :: e32 :: e33 :: e34 :: e35 :: e36 :: (.slice a2 q c2) :: (.int .i64 q) :: u39 :: u40 :: u41 :: u42 :: u43 :: u44 :: u45 :: u46 :: e47 :: e48 :: e49 :: e50 :: e51 :: e52 :: e53 :: e54 :: e55 :: e56 :: e57 :: e58 :: e59 :: e60 :: e61 :: e62 :: e63 :: e64 :: e65 :: e66 :: e67 :: e68 :: e69 :: e70 :: e71 :: e72 :: e73 :: e74 :: e75 :: e76 :: e77 :: e78 :: e79 :: e80 :: e81 :: e82 :: e83 :: e84 :: e85 :: e86 :: e87 :: e88 :: e89 :: e90 :: e91 :: e92 :: e93 :: e94 :: e95 :: e96 :: e97 :: e98 :: e99 :: e100 :: e101 :: e102 :: e103 :: e104 :: e105 :: e106 :: e107 :: e108 :: e109 :: e110 :: e111 :: e112 :: e113 :: e114 :: e115 :: e116 :: e117 :: e118 :: e119 :: e120 :: e121 :: e122 :: e123 :: e124 :: e125 :: e126 :: e127 :: e128 :: e129 :: e130 :: e131 :: e132 :: e133 :: e134 :: e135 :: e136 :: e137 :: e138 :: e139 :: e140 :: e141 :: e142 :: e143 :: e144 :: e145 :: e146 :: e147 :: e148 :: e149 :: e150 :: e151 :: e152 :: e153 :: e154 :: e155 :: e156 :: e157 :: e158 :: e159 :: e160 :: e161 :: e162 :: e163 :: e164 :: e165 :: e166 :: e167 :: e168 :: e169 :: e170 :: e171 :: e172 :: e173 :: e174 :: e175 :: e176 :: e177 :: e178 :: e179 :: e180 :: e181 :: e182 :: e183 :: e184 :: e185 :: e186 :: e187 :: e188 :: e189 :: e190 :: e191 :: e192 :: e193 :: e194 :: e195 :: e196 :: e197 :: e198 :: e199 :: e200 :: e201 :: e202 :: e203 :: e204 :: e205 :: e206 :: e207 :: e208 :: e209 :: e210 :: e211 :: e212 :: e213 :: e214 :: e215 :: e216 :: e217 :: e218 :: e219 :: e220 :: e221 :: e222 :: e223 :: e224 :: e225 :: e226 :: e227 :: e228 :: e229 :: e230 :: e231 :: e232 :: e233 :: e234 :: e235 :: e236 :: e237 :: e238 :: e239 :: e240 :: e241 :: e242 :: e243 :: e244 :: e245 :: e246 :: e247 :: e248 :: e249 :: e250 :: e251 :: e252 :: e253 :: e254 :: e255 :: e256 :: e257 :: e258 :: e259 :: e260 :: e261 :: []), []⟩ w0) :
    Code.wp Yba.prog (Code.loop body1) (Exit.inBlock 0 (Exit.then K' (bodyPost Yba.prog Yba.f4 (fun e w' => e = .returned (.bool true) ∧ Below w0.heap.size w0 w')))) ⟨List.toArray (e0 :: e1 :: e2 :: e3 :: e4 :: e5 :: e6 :: e7 :: e8 :: e9 :: e10 :: e11 :: e12 :: e13 :: e14 :: e15 :: e16 :: e17 :: e18 :: e19 :: e20 :: e21 :: e22 :: e23 :: e24 :: e25 :: e26 :: e27 :: e28 :: e29 :: e30 :: e31 :: e32 :: e33 :: e34 :: e35 :: e36 :: (.slice a2 q c2) :: (.int .i64 q) :: (.int .i64 0) :: e40 :: e41 :: e42 :: e43 :: e44 :: e45 :: e46 :: e47 :: e48 :: e49 :: e50 :: e51 :: e52 :: e53 :: e54 :: e55 :: e56 :: e57 :: e58 :: e59 :: e60 :: e61 :: e62 :: e63 :: e64 :: e65 :: e66 :: e67 :: e68 :: e69 :: e70 :: e71 :: e72 :: e73 :: e74 :: e75 :: e76 :: e77 :: e78 :: e79 :: e80 :: e81 :: e82 :: e83 :: e84 :: e85 :: e86 :: e87 :: e88 :: e89 :: e90 :: e91 :: e92 :: e93 :: e94 :: e95 :: e96 :: e97 :: e98 :: e99 :: e100 :: e101 :: e102 :: e103 :: e104 :: e105 :: e106 :: e107 :: e108 :: e109 :: e110 :: e111 :: e112 :: e113 :: e114 :: e115 :: e116 :: e117 :: e118 :: e119 :: e120 :: e121 :: e122 :: e123 :: e124 :: e125 :: e126 :: e127 :: e128 :: e129 :: e130 :: e131 :: e132 :: e133 :: e134 :: e135 :: e136 :: e137 :: e138 :: e139 :: e140 :: e141 :: e142 :: e143 :: e144 :: e145 :: e146 :: e147 :: e148 :: e149 :: e150 :: e151 :: e152 :: e153 :: e154 :: e155 :: e156 :: e157 :: e158 :: e159 :: e160 :: e161 :: e162 :: e163 :: e164 :: e165 :: e166 :: e167 :: e168 :: e169 :: e170 :: e171 :: e172 :: e173 :: e174 :: e175 :: e176 :: e177 :: e178 :: e179 :: e180 :: e181 :: e182 :: e183 :: e184 :: e185 :: e186 :: e187 :: e188 :: e189 :: e190 :: e191 :: e192 :: e193 :: e194 :: e195 :: e196 :: e197 :: e198 :: e199 :: e200 :: e201 :: e202 :: e203 :: e204 :: e205 :: e206 :: e207 :: e208 :: e209 :: e210 :: e211 :: e212 :: e213 :: e214 :: e215 :: e216 :: e217 :: e218 :: e219 :: e220 :: e221 :: e222 :: e223 :: e224 :: e225 :: e226 :: e227 :: e228 :: e229 :: e230 :: e231 :: e232 :: e233 :: e234 :: e235 :: e236 :: e237 :: e238 :: e239 :: e240 :: e241 :: e242 :: e243 :: e244 :: e245 :: e246 :: e247 :: e248 :: e249 :: e250 :: e251 :: e252 :: e253 :: e254 :: e255 :: e256 :: e257 :: e258 :: e259 :: e260 :: e261 :: []), []⟩ w0 := by
  conv => arg 2; arg 1; whnf
  go_loopg [39] q (fun g i wr => ∃ k : Nat, g = q - k ∧ k ≤ q ∧ i = .int .i64 k ∧ w0 = wr ∧ Cur w0 a2 k)
  case atStart => exact ⟨0, by omega, by omega, rfl, rfl, fun k hk => by omega⟩
  case round =>
    obtain ⟨k, hgk, hk, rfl, hw, hcu⟩ := hrel
    subst hw
    have Hcu := hide hcu
    clear hcu
    by_cases hlt : k < q
    · obtain ⟨ba, oa, rfl, a', l, cp, xs, y0, hl, hb⟩ := unhide HC k hlt
      have i1 : (0 : Int) ≤ (k : Int) := by omega
      have i2 : (k : Int) < (q : Int) := by omega
      have Hb := hide hb
      clear hexit hb
      by_cases hbig : l ≤ 256
      · have i3 : ¬ (256 : Int) < (l : Int) := by omega
        have HN : Hid (Cur w0 (some ⟨ba, oa, none⟩) (k + 1)) := hide (fun j hj => by
          by_cases e : j = k
          · subst e; exact ⟨ba, oa, rfl, a', l, cp, xs, y0, hl, hbig, unhide Hb⟩
          · exact unhide Hcu j (by omega))
        go_wp2_with fail
        go_roundg (q - (k + 1))
        case measure => omega
        case rel => exact ⟨k + 1, rfl, by omega, by go_num, rfl, unhide HN⟩
      · have i3 : (256 : Int) < (l : Int) := by omega
        go_wp2_with fail
        go_ret
        exact ⟨rfl, Below.refl _ _⟩
    · obtain rfl : q = k := by omega
      go_wp2_with fail
      exact unhide Hcu

end Go.Proofs.Ybulkaam
