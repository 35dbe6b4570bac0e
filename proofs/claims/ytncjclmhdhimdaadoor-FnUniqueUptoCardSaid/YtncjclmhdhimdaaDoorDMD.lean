/- The main loop of diff.Diff: a hunk is ended and put out. -/
import Derived.Test.YtncjclmhdhimdaaDoorDMD2
import Derived.Test.YtncjclmhdhimdaaDoorDME
namespace Go.Proofs.YtncjclmhdhimdaaDoor
open Go.RowKit

set_option maxRecDepth 1000000 in
set_option maxHeartbeats 4000000 in
theorem stD1b (X Y : List (List UInt8)) (M : List (Nat × Nat)) (w2 : World) (ax ay : Option Addr) (cax cay n S mc t d : Nat) (out : List UInt8) (ct : Sc (List UInt8))
    (dx dy cx cy kx ky b1 sx sy b2 ex ey : Nat) (a : Act) (w : World) (h : MidS X Y M w2 ax ay cax cay n S mc t d out ct dx dy cx cy kx ky b1 sx sy b2 ex ey a w) (hd : d ≤ 10000)
    (Q : Exit → Act → World → Prop) (hK : ∀ a' w', MidS X Y M w2 ax ay cax cay n S mc t (min 3 d) out ct dx dy cx cy kx ky b1 sx sy b2 ex ey a' w' → Code.wp Tryd.prog (tailOf 50) Q a' w') :
    Code.wp Tryd.prog (tailOf 48) Q a w := by
  obtain ⟨v, h, ha⟩ := h
  have H := Lib.hid h
  clear h
  refine At6.elim (C := fun a => Code.wp Tryd.prog (tailOf 48) Q a w) ?_ ha
  intro c0 c1 c2 c3 c4 c5 c6 c7 c8 c16 c17 c20 c21 c22 c23 c24 c25 c27 c28 c29 c30 c31 c32 c33 c34 c35 c36 c37 c38 c39 c40 c41 c42 c43 c44 c45 c46 c47 c48 c49 c50 c51 c52 c53 c54 c55 c56 c60 c61 c62 c63 c64 c65 c66 c67 c68 c69 c70 c71 c72 c73 c74 c75 c76 c77 c78 c79 c80 c81 c82 c83 c84 c85 c86 c87 c88 c89 c90 c91 c92 c93 c94 c95 c96 c97 c98 c99 c100 c101 c102 c103 c104 c105 c106 c107 c108 c109 c110 c111 c112 c113 c114 c115 c116 c117 c118 c119 c120 c121 c122 c123 c124 c125 c126 c127 c128 c129 c130 c131 c132 c133 c134 c135 c136 c137 c138 c139 c140 c141 c142 c143 c144 c145 c146 c147 c148 c149 c150 c151 c152 c153 c154 c155 c156 c157 c158 c159 c160 c161 c162 c163 c164 c165 c166 c167 c168 c169 c170 c171 c172 c173 c174 c175 c176 c177 c178 c179 c180 c181 c182 c183 c184 c185 c186 c187 c188 c189 c190 c191 c192 c193 c194 c195 c196 c197 c198 c199 c200 c201 c202 c203 c204 c205 c206 c207 c208 c209 c210 c211 c212 c213 c214 c215 c216 c217 c218 c219 c220 c221 c222 c223 c224 c225 c226 c227 c228 c229 c230 c231 c232 c233 c234 c235 c236 c237 c238 c239 c240 c241 c242 c243 c244 c245 c246 c247 c248 c249 c250 c251 c252 c253 c254 c255 c256 c257 c258 c259 c260 c261 c262 c263 c264 c265 c266 c267 c268 c269 c270 c271 c272 c273 c274 c275 c276 c277 c278 c279 c280 c281 c282 c283 c284 c285 c286 c287 c288 c289 c290 c291 c292 c293 c294 c295 c296 c297 c298 c299 c300 c301 c302 c303 c304 c305 c306 c307 c308 c309 c310 c311 c312 c313 c314 c315 c316 c317 c318 c319 c320 c321 c322 c323 c324 c325 c326 c327 c328 c329 c330 c331 c332 c333 c334 c335 c336 c337 c338 c339 c340 c341 c342 c343 c344 c345 c346 c347 c348 c349 c350 c351 c352 c353 c354 c355 c356 c357 c358 c359 c360 c361 c362 c363 c364 c365 c366 c367 c368 c369 c370 c371 c372 c373 c374 c375 c376 c377 c378 c379
  conv => arg 2; whnf
  refine wp_to (MidS X Y M w2 ax ay cax cay n S mc t (min 3 d) out ct dx dy cx cy kx ky b1 sx sy b2 ex ey) ?_ (fun a' w' h' => hK a' w' h')
  clear hK
  by_cases h3 : d ≤ 3
  · have HE : Hid (min 3 d = d) := Lib.hid (by omega)
    rw [HE.out]
    go_wp2_with fail
    exact ⟨_, H.out, At6.intro⟩
  · have HE : Hid (min 3 d = 3) := Lib.hid (by omega)
    rw [HE.out]
    go_wp2_with fail
    exact ⟨_, H.out, At6.intro⟩

set_option maxRecDepth 1000000 in
set_option maxHeartbeats 4000000 in
theorem stD1 (X Y : List (List UInt8)) (M : List (Nat × Nat)) (w2 : World) (ax ay : Option Addr) (cax cay n S mc t : Nat) (HC : Hid (CX X Y M w2 ax ay cax cay)) (out : List UInt8) (ct : Sc (List UInt8))
    (dx dy cx cy kx ky b1 sx sy b2 ex ey : Nat) (a : Act) (w : World) (h : MidR X Y M w2 ax ay cax cay n S mc t out ct dx dy cx cy kx ky b1 sx sy b2 ex ey a w)
    (l1 : sx ≤ ex) (l2 : ex ≤ X.length)
    (Q : Exit → Act → World → Prop) (hK : ∀ a' w', MidS X Y M w2 ax ay cax cay n S mc t (min 3 (ex - sx)) out ct dx dy cx cy kx ky b1 sx sy b2 ex ey a' w' → Code.wp Tryd.prog (tailOf 50) Q a' w') :
    Code.wp Tryd.prog (tailOf 47) Q a w := by
  obtain ⟨v, h, ha⟩ := h
  have H := Lib.hid h
  clear h
  refine At.elim (C := fun a => Code.wp Tryd.prog (tailOf 47) Q a w) ?_ ha
  intro c0 c1 c2 c3 c4 c5 c6 c7 c8 c16 c17 c20 c21 c22 c23 c24 c25 c26 c27 c28 c29 c30 c31 c32 c33 c34 c35 c36 c37 c38 c39 c40 c41 c42 c43 c44 c45 c46 c47 c48 c49 c50 c51 c52 c53 c54 c55 c56 c60 c61 c62 c63 c64 c65 c66 c67 c68 c69 c70 c71 c72 c73 c74 c75 c76 c77 c78 c79 c80 c81 c82 c83 c84 c85 c86 c87 c88 c89 c90 c91 c92 c93 c94 c95 c96 c97 c98 c99 c100 c101 c102 c103 c104 c105 c106 c107 c108 c109 c110 c111 c112 c113 c114 c115 c116 c117 c118 c119 c120 c121 c122 c123 c124 c125 c126 c127 c128 c129 c130 c131 c132 c133 c134 c135 c136 c137 c138 c139 c140 c141 c142 c143 c144 c145 c146 c147 c148 c149 c150 c151 c152 c153 c154 c155 c156 c157 c158 c159 c160 c161 c162 c163 c164 c165 c166 c167 c168 c169 c170 c171 c172 c173 c174 c175 c176 c177 c178 c179 c180 c181 c182 c183 c184 c185 c186 c187 c188 c189 c190 c191 c192 c193 c194 c195 c196 c197 c198 c199 c200 c201 c202 c203 c204 c205 c206 c207 c208 c209 c210 c211 c212 c213 c214 c215 c216 c217 c218 c219 c220 c221 c222 c223 c224 c225 c226 c227 c228 c229 c230 c231 c232 c233 c234 c235 c236 c237 c238 c239 c240 c241 c242 c243 c244 c245 c246 c247 c248 c249 c250 c251 c252 c253 c254 c255 c256 c257 c258 c259 c260 c261 c262 c263 c264 c265 c266 c267 c268 c269 c270 c271 c272 c273 c274 c275 c276 c277 c278 c279 c280 c281 c282 c283 c284 c285 c286 c287 c288 c289 c290 c291 c292 c293 c294 c295 c296 c297 c298 c299 c300 c301 c302 c303 c304 c305 c306 c307 c308 c309 c310 c311 c312 c313 c314 c315 c316 c317 c318 c319 c320 c321 c322 c323 c324 c325 c326 c327 c328 c329 c330 c331 c332 c333 c334 c335 c336 c337 c338 c339 c340 c341 c342 c343 c344 c345 c346 c347 c348 c349 c350 c351 c352 c353 c354 c355 c356 c357 c358 c359 c360 c361 c362 c363 c364 c365 c366 c367 c368 c369 c370 c371 c372 c373 c374 c375 c376 c377 c378 c379
  conv => arg 2; whnf
  have hx := HC.out.hx
  refine wp_to (MidS X Y M w2 ax ay cax cay n S mc t (ex - sx) out ct dx dy cx cy kx ky b1 sx sy b2 ex ey) ?_ (fun a' w' h' => stD1b X Y M w2 ax ay cax cay n S mc t (ex - sx) out ct dx dy cx cy kx ky b1 sx sy b2 ex ey a' w' h' (by omega) Q hK)
  clear hK
  have e0 := H.out.e.c0
  have k0 := H.out.s.c0
  obtain ⟨d, hd⟩ : ∃ d, d = ex - sx := ⟨_, rfl⟩
  rw [← hd]
  have i1 : (ex : Int) - (sx : Int) = (d : Int) := by omega
  have hdx : d ≤ 10000 := by omega
  clear hd
  go_wp2_with fail
  exact ⟨_, H.out, At6.intro⟩

set_option maxRecDepth 1000000 in
set_option maxHeartbeats 4000000 in
theorem stD3a (X Y : List (List UInt8)) (M : List (Nat × Nat)) (w2 : World) (ax ay : Option Addr) (cax cay n S mc t m : Nat) (out : List UInt8) (ct : Sc (List UInt8))
    (dx dy cx cy kx ky b1 sx sy b2 ex ey : Nat) (a : Act) (w : World) (h : MidS X Y M w2 ax ay cax cay n S mc t m out ct dx dy cx cy kx ky b1 sx sy b2 ex ey a w) (hm : m ≤ 3) (hsx : sx ≤ 10000) (hsy : sy ≤ 10000)
    (Q : Exit → Act → World → Prop) (hK : ∀ a' w', MidR X Y M w2 ax ay cax cay n S mc t out ct (sx + m) (sy + m) cx cy kx ky b1 sx sy b2 ex ey a' w' → Code.wp Tryd.prog (tailOf 58) Q a' w') :
    Code.wp Tryd.prog (tailOf 57) Q a w := by
  obtain ⟨v, h, ha⟩ := h
  have H := Lib.hid h
  clear h
  refine At6.elim (C := fun a => Code.wp Tryd.prog (tailOf 57) Q a w) ?_ ha
  intro c0 c1 c2 c3 c4 c5 c6 c7 c8 c16 c17 c20 c21 c22 c23 c24 c25 c27 c28 c29 c30 c31 c32 c33 c34 c35 c36 c37 c38 c39 c40 c41 c42 c43 c44 c45 c46 c47 c48 c49 c50 c51 c52 c53 c54 c55 c56 c60 c61 c62 c63 c64 c65 c66 c67 c68 c69 c70 c71 c72 c73 c74 c75 c76 c77 c78 c79 c80 c81 c82 c83 c84 c85 c86 c87 c88 c89 c90 c91 c92 c93 c94 c95 c96 c97 c98 c99 c100 c101 c102 c103 c104 c105 c106 c107 c108 c109 c110 c111 c112 c113 c114 c115 c116 c117 c118 c119 c120 c121 c122 c123 c124 c125 c126 c127 c128 c129 c130 c131 c132 c133 c134 c135 c136 c137 c138 c139 c140 c141 c142 c143 c144 c145 c146 c147 c148 c149 c150 c151 c152 c153 c154 c155 c156 c157 c158 c159 c160 c161 c162 c163 c164 c165 c166 c167 c168 c169 c170 c171 c172 c173 c174 c175 c176 c177 c178 c179 c180 c181 c182 c183 c184 c185 c186 c187 c188 c189 c190 c191 c192 c193 c194 c195 c196 c197 c198 c199 c200 c201 c202 c203 c204 c205 c206 c207 c208 c209 c210 c211 c212 c213 c214 c215 c216 c217 c218 c219 c220 c221 c222 c223 c224 c225 c226 c227 c228 c229 c230 c231 c232 c233 c234 c235 c236 c237 c238 c239 c240 c241 c242 c243 c244 c245 c246 c247 c248 c249 c250 c251 c252 c253 c254 c255 c256 c257 c258 c259 c260 c261 c262 c263 c264 c265 c266 c267 c268 c269 c270 c271 c272 c273 c274 c275 c276 c277 c278 c279 c280 c281 c282 c283 c284 c285 c286 c287 c288 c289 c290 c291 c292 c293 c294 c295 c296 c297 c298 c299 c300 c301 c302 c303 c304 c305 c306 c307 c308 c309 c310 c311 c312 c313 c314 c315 c316 c317 c318 c319 c320 c321 c322 c323 c324 c325 c326 c327 c328 c329 c330 c331 c332 c333 c334 c335 c336 c337 c338 c339 c340 c341 c342 c343 c344 c345 c346 c347 c348 c349 c350 c351 c352 c353 c354 c355 c356 c357 c358 c359 c360 c361 c362 c363 c364 c365 c366 c367 c368 c369 c370 c371 c372 c373 c374 c375 c376 c377 c378 c379
  conv => arg 2; whnf
  refine wp_to (MidR X Y M w2 ax ay cax cay n S mc t out ct (sx + m) (sy + m) cx cy kx ky b1 sx sy b2 ex ey) ?_ (fun a' w' h' => hK a' w' h')
  clear hK
  have k0 := H.out.s.c0
  have k1 := H.out.s.c1
  have d0 := H.out.dw.done.c0
  have d1 := H.out.dw.done.c1
  have d2 := H.out.dw.done.free 0
  have d3 := H.out.dw.done.free 1
  go_wp2_with fail
  exact ⟨_, (H.out.done0 (sx + m)).done1 (sy + m), At.intro⟩
set_option maxRecDepth 1000000 in
set_option maxHeartbeats 4000000 in
theorem stD3b (X Y : List (List UInt8)) (M : List (Nat × Nat)) (w2 : World) (ax ay : Option Addr) (cax cay n S mc t : Nat) (out : List UInt8) (ct : Sc (List UInt8))
    (dx dy cx cy kx ky b1 sx sy b2 ex ey : Nat) (a : Act) (w : World) (h : MidR X Y M w2 ax ay cax cay n S mc t out ct dx dy cx cy kx ky b1 sx sy b2 ex ey a w) (hc : cx ≤ 10000)
    (Q : Exit → Act → World → Prop) (hK : ∀ a' w', MidR X Y M w2 ax ay cax cay n S mc t out ct dx dy (at1 cx kx) (cy) kx ky b1 sx sy b2 ex ey a' w' → Code.wp Tryd.prog (tailOf 60) Q a' w') :
    Code.wp Tryd.prog (tailOf 58) Q a w := by
  obtain ⟨v, h, ha⟩ := h
  have H := Lib.hid h
  clear h
  refine At.elim (C := fun a => Code.wp Tryd.prog (tailOf 58) Q a w) ?_ ha
  intro c0 c1 c2 c3 c4 c5 c6 c7 c8 c16 c17 c20 c21 c22 c23 c24 c25 c26 c27 c28 c29 c30 c31 c32 c33 c34 c35 c36 c37 c38 c39 c40 c41 c42 c43 c44 c45 c46 c47 c48 c49 c50 c51 c52 c53 c54 c55 c56 c60 c61 c62 c63 c64 c65 c66 c67 c68 c69 c70 c71 c72 c73 c74 c75 c76 c77 c78 c79 c80 c81 c82 c83 c84 c85 c86 c87 c88 c89 c90 c91 c92 c93 c94 c95 c96 c97 c98 c99 c100 c101 c102 c103 c104 c105 c106 c107 c108 c109 c110 c111 c112 c113 c114 c115 c116 c117 c118 c119 c120 c121 c122 c123 c124 c125 c126 c127 c128 c129 c130 c131 c132 c133 c134 c135 c136 c137 c138 c139 c140 c141 c142 c143 c144 c145 c146 c147 c148 c149 c150 c151 c152 c153 c154 c155 c156 c157 c158 c159 c160 c161 c162 c163 c164 c165 c166 c167 c168 c169 c170 c171 c172 c173 c174 c175 c176 c177 c178 c179 c180 c181 c182 c183 c184 c185 c186 c187 c188 c189 c190 c191 c192 c193 c194 c195 c196 c197 c198 c199 c200 c201 c202 c203 c204 c205 c206 c207 c208 c209 c210 c211 c212 c213 c214 c215 c216 c217 c218 c219 c220 c221 c222 c223 c224 c225 c226 c227 c228 c229 c230 c231 c232 c233 c234 c235 c236 c237 c238 c239 c240 c241 c242 c243 c244 c245 c246 c247 c248 c249 c250 c251 c252 c253 c254 c255 c256 c257 c258 c259 c260 c261 c262 c263 c264 c265 c266 c267 c268 c269 c270 c271 c272 c273 c274 c275 c276 c277 c278 c279 c280 c281 c282 c283 c284 c285 c286 c287 c288 c289 c290 c291 c292 c293 c294 c295 c296 c297 c298 c299 c300 c301 c302 c303 c304 c305 c306 c307 c308 c309 c310 c311 c312 c313 c314 c315 c316 c317 c318 c319 c320 c321 c322 c323 c324 c325 c326 c327 c328 c329 c330 c331 c332 c333 c334 c335 c336 c337 c338 c339 c340 c341 c342 c343 c344 c345 c346 c347 c348 c349 c350 c351 c352 c353 c354 c355 c356 c357 c358 c359 c360 c361 c362 c363 c364 c365 c366 c367 c368 c369 c370 c371 c372 c373 c374 c375 c376 c377 c378 c379
  conv => arg 2; whnf
  refine wp_to (MidR X Y M w2 ax ay cax cay n S mc t out ct dx dy (at1 cx kx) (cy) kx ky b1 sx sy b2 ex ey) ?_ (fun a' w' h' => hK a' w' h')
  clear hK
  have k0 := H.out.dw.count.c0
  have d0 := H.out.dw.chunk.c0
  have d2 := H.out.dw.chunk.free 0
  by_cases hk : 0 < kx
  · have HE : Hid (at1 cx kx = cx + 1) := Lib.hid (by unfold at1; rw [if_pos hk])
    rw [HE.out]
    go_wp2_with fail
    exact ⟨_, H.out.chunk0 (cx + 1), At.intro⟩
  · have HE : Hid (at1 cx kx = cx) := Lib.hid (by unfold at1; rw [if_neg hk])
    rw [HE.out]
    go_wp2_with fail
    exact ⟨_, H.out, At.intro⟩
set_option maxRecDepth 1000000 in
set_option maxHeartbeats 4000000 in
theorem stD3c (X Y : List (List UInt8)) (M : List (Nat × Nat)) (w2 : World) (ax ay : Option Addr) (cax cay n S mc t : Nat) (out : List UInt8) (ct : Sc (List UInt8))
    (dx dy cx cy kx ky b1 sx sy b2 ex ey : Nat) (a : Act) (w : World) (h : MidR X Y M w2 ax ay cax cay n S mc t out ct dx dy cx cy kx ky b1 sx sy b2 ex ey a w) (hc : cy ≤ 10000)
    (Q : Exit → Act → World → Prop) (hK : ∀ a' w', MidR X Y M w2 ax ay cax cay n S mc t out ct dx dy (cx) (at1 cy ky) kx ky b1 sx sy b2 ex ey a' w' → Code.wp Tryd.prog (tailOf 62) Q a' w') :
    Code.wp Tryd.prog (tailOf 60) Q a w := by
  obtain ⟨v, h, ha⟩ := h
  have H := Lib.hid h
  clear h
  refine At.elim (C := fun a => Code.wp Tryd.prog (tailOf 60) Q a w) ?_ ha
  intro c0 c1 c2 c3 c4 c5 c6 c7 c8 c16 c17 c20 c21 c22 c23 c24 c25 c26 c27 c28 c29 c30 c31 c32 c33 c34 c35 c36 c37 c38 c39 c40 c41 c42 c43 c44 c45 c46 c47 c48 c49 c50 c51 c52 c53 c54 c55 c56 c60 c61 c62 c63 c64 c65 c66 c67 c68 c69 c70 c71 c72 c73 c74 c75 c76 c77 c78 c79 c80 c81 c82 c83 c84 c85 c86 c87 c88 c89 c90 c91 c92 c93 c94 c95 c96 c97 c98 c99 c100 c101 c102 c103 c104 c105 c106 c107 c108 c109 c110 c111 c112 c113 c114 c115 c116 c117 c118 c119 c120 c121 c122 c123 c124 c125 c126 c127 c128 c129 c130 c131 c132 c133 c134 c135 c136 c137 c138 c139 c140 c141 c142 c143 c144 c145 c146 c147 c148 c149 c150 c151 c152 c153 c154 c155 c156 c157 c158 c159 c160 c161 c162 c163 c164 c165 c166 c167 c168 c169 c170 c171 c172 c173 c174 c175 c176 c177 c178 c179 c180 c181 c182 c183 c184 c185 c186 c187 c188 c189 c190 c191 c192 c193 c194 c195 c196 c197 c198 c199 c200 c201 c202 c203 c204 c205 c206 c207 c208 c209 c210 c211 c212 c213 c214 c215 c216 c217 c218 c219 c220 c221 c222 c223 c224 c225 c226 c227 c228 c229 c230 c231 c232 c233 c234 c235 c236 c237 c238 c239 c240 c241 c242 c243 c244 c245 c246 c247 c248 c249 c250 c251 c252 c253 c254 c255 c256 c257 c258 c259 c260 c261 c262 c263 c264 c265 c266 c267 c268 c269 c270 c271 c272 c273 c274 c275 c276 c277 c278 c279 c280 c281 c282 c283 c284 c285 c286 c287 c288 c289 c290 c291 c292 c293 c294 c295 c296 c297 c298 c299 c300 c301 c302 c303 c304 c305 c306 c307 c308 c309 c310 c311 c312 c313 c314 c315 c316 c317 c318 c319 c320 c321 c322 c323 c324 c325 c326 c327 c328 c329 c330 c331 c332 c333 c334 c335 c336 c337 c338 c339 c340 c341 c342 c343 c344 c345 c346 c347 c348 c349 c350 c351 c352 c353 c354 c355 c356 c357 c358 c359 c360 c361 c362 c363 c364 c365 c366 c367 c368 c369 c370 c371 c372 c373 c374 c375 c376 c377 c378 c379
  conv => arg 2; whnf
  refine wp_to (MidR X Y M w2 ax ay cax cay n S mc t out ct dx dy (cx) (at1 cy ky) kx ky b1 sx sy b2 ex ey) ?_ (fun a' w' h' => hK a' w' h')
  clear hK
  have k0 := H.out.dw.count.c1
  have d0 := H.out.dw.chunk.c1
  have d2 := H.out.dw.chunk.free 1
  by_cases hk : 0 < ky
  · have HE : Hid (at1 cy ky = cy + 1) := Lib.hid (by unfold at1; rw [if_pos hk])
    rw [HE.out]
    go_wp2_with fail
    exact ⟨_, H.out.chunk1 (cy + 1), At.intro⟩
  · have HE : Hid (at1 cy ky = cy) := Lib.hid (by unfold at1; rw [if_neg hk])
    rw [HE.out]
    go_wp2_with fail
    exact ⟨_, H.out, At.intro⟩
end Go.Proofs.YtncjclmhdhimdaaDoor
