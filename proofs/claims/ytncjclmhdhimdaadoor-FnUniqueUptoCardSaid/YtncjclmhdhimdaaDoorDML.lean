/- The main loop of diff.Diff: a round, and the loop. -/
import Derived.Test.YtncjclmhdhimdaaDoorDMM
namespace Go.Proofs.YtncjclmhdhimdaaDoor
open Go.RowKit

/- behind so many matches -/
def WI (X Y : List (List UInt8)) (M : List (Nat × Nat)) (w2 : World) (ax ay : Option Addr) (cax cay n S mc : Nat) (hB : List UInt8) (g : Nat) (a : Act) (w : World) : Prop :=
  ∃ (t dx dy cx cy : Nat) (ct : Sc (List UInt8)) (cs : List (Ck (List UInt8))) (v p q : Value), t < M.length ∧ M.length - t ≤ g ∧ DInv X Y M t dx dy cx cy ct cs ∧ DW w2 n S M (hB ++ (cs.map ckText).flatten) v ct dx dy cx cy (cX ct) (cY ct) w ∧
    At X Y M w2 ax ay cax cay n S mc v p q (.int .i64 (t : Int)) a

/- a round's body, up to the counter -/
set_option maxRecDepth 1000000 in
set_option maxHeartbeats 4000000 in
theorem stR (X Y : List (List UInt8)) (M : List (Nat × Nat)) (w2 : World) (ax ay : Option Addr) (cax cay n S mc t : Nat) (HC : Hid (CX X Y M w2 ax ay cax cay)) (HT : Hid (TabB w2)) (hB : List UInt8) (hBl : hB.length ≤ 10000000000) (ct : Sc (List UInt8)) (cs : List (Ck (List UInt8))) (m : Nat × Nat)
    (v p q : Value) (dx dy cx cy : Nat) (a : Act) (w : World) (h : DW w2 n S M (hB ++ (cs.map ckText).flatten) v ct dx dy cx cy (cX ct) (cY ct) w)
    (ha : At X Y M w2 ax ay cax cay n S mc v p q (.int .i64 (t : Int)) a) (hm : M[t]? = some m) (hI : DInv X Y M t dx dy cx cy ct cs)
    (Q : Exit → Act → World → Prop) (hn : ∀ a' w', Cont X Y M w2 ax ay cax cay n S mc hB t a' w' → Q .normal a' w') (h1 : ∀ a' w', Cont X Y M w2 ax ay cax cay n S mc hB t a' w' → Q (.exit 1) a' w') (h0 : ∀ a' w', Fin X Y M w2 ax ay cax cay n S mc hB a' w' → Q (.exit 0) a' w') :
    Code.wp Tryd.prog (tailOf 15) Q a w := by
  have H := Lib.hid h
  have HI := Lib.hid hI
  have HM := Lib.hid hm
  have htl : t < M.length := (List.getElem?_eq_some_iff.1 hm).1
  obtain ⟨z1, z2⟩ := flat_cells h.ms hm
  have n1 := h.done.lt
  have n2 := h.chunk.lt
  have n3 := h.count.lt
  have d1 := h.done.c0
  clear h hI hm
  refine At.elim (C := fun a => Code.wp Tryd.prog (tailOf 15) Q a w) ?_ ha
  intro c0 c1 c2 c3 c4 c5 c6 c7 c8 c16 c17 c20 c21 c22 c23 c24 c25 c26 c27 c28 c29 c30 c31 c32 c33 c34 c35 c36 c37 c38 c39 c40 c41 c42 c43 c44 c45 c46 c47 c48 c49 c50 c51 c52 c53 c54 c55 c56 c60 c61 c62 c63 c64 c65 c66 c67 c68 c69 c70 c71 c72 c73 c74 c75 c76 c77 c78 c79 c80 c81 c82 c83 c84 c85 c86 c87 c88 c89 c90 c91 c92 c93 c94 c95 c96 c97 c98 c99 c100 c101 c102 c103 c104 c105 c106 c107 c108 c109 c110 c111 c112 c113 c114 c115 c116 c117 c118 c119 c120 c121 c122 c123 c124 c125 c126 c127 c128 c129 c130 c131 c132 c133 c134 c135 c136 c137 c138 c139 c140 c141 c142 c143 c144 c145 c146 c147 c148 c149 c150 c151 c152 c153 c154 c155 c156 c157 c158 c159 c160 c161 c162 c163 c164 c165 c166 c167 c168 c169 c170 c171 c172 c173 c174 c175 c176 c177 c178 c179 c180 c181 c182 c183 c184 c185 c186 c187 c188 c189 c190 c191 c192 c193 c194 c195 c196 c197 c198 c199 c200 c201 c202 c203 c204 c205 c206 c207 c208 c209 c210 c211 c212 c213 c214 c215 c216 c217 c218 c219 c220 c221 c222 c223 c224 c225 c226 c227 c228 c229 c230 c231 c232 c233 c234 c235 c236 c237 c238 c239 c240 c241 c242 c243 c244 c245 c246 c247 c248 c249 c250 c251 c252 c253 c254 c255 c256 c257 c258 c259 c260 c261 c262 c263 c264 c265 c266 c267 c268 c269 c270 c271 c272 c273 c274 c275 c276 c277 c278 c279 c280 c281 c282 c283 c284 c285 c286 c287 c288 c289 c290 c291 c292 c293 c294 c295 c296 c297 c298 c299 c300 c301 c302 c303 c304 c305 c306 c307 c308 c309 c310 c311 c312 c313 c314 c315 c316 c317 c318 c319 c320 c321 c322 c323 c324 c325 c326 c327 c328 c329 c330 c331 c332 c333 c334 c335 c336 c337 c338 c339 c340 c341 c342 c343 c344 c345 c346 c347 c348 c349 c350 c351 c352 c353 c354 c355 c356 c357 c358 c359 c360 c361 c362 c363 c364 c365 c366 c367 c368 c369 c370 c371 c372 c373 c374 c375 c376 c377 c378 c379
  conv => arg 2; whnf
  obtain ⟨mx, hmx⟩ : ∃ mx, mx = m.1 := ⟨_, rfl⟩
  obtain ⟨my, hmy⟩ : ∃ my, my = m.2 := ⟨_, rfl⟩
  rw [← hmx] at z1
  rw [← hmy] at z2
  have HMX := Lib.hid hmx
  have HMY := Lib.hid hmy
  clear hmx hmy
  refine wp_seq_k fun KK hKK => ?_
  have HKK := Lib.hid hKK
  clear hKK
  go_wp2_with fail
  refine HKK.out _ _ ?_
  obtain ⟨w0, hw0⟩ : ∃ w0, w0 = w.alloc (.cells #[.int .i64 (mx : Int), .int .i64 (my : Int)] 60) := ⟨_, rfl⟩
  have hbl : Below w.heap.size w w0 := by rw [hw0]; exact (Below.refl _ _).alloc (Nat.le_refl _) _
  have HD := Lib.hid (H.out.below hbl)
  have HB : Hid (bx w0 w.heap.size mx my) := Lib.hid (by rw [hw0]; exact bx.new w mx my)
  rw [← hw0]
  clear hw0 hbl HKK d1 z1 z2
  refine wp_seq_k fun K2 hK2 => ?_
  have HK2 := Lib.hid hK2
  clear hK2
  have d1 := HD.out.done.c0
  have m1 := HB.out.c0
  by_cases hsk : mx < dx
  · clear HK2
    go_wp2_with fail
    have hlt : m.1 < dx := by rw [← HMX.out]; exact hsk
    exact h1 _ _ ⟨dx, dy, cx, cy, ct, cs, v, _, _, (HI.out.on HC.out.mt HM.out (.inl hlt)).2.1, HI.out.skip HC.out.mt HM.out hlt, HD.out, At.intro⟩
  · have HN := Lib.hid hn
    have H1 := Lib.hid h1
    have H0 := Lib.hid h0
    clear hn h1 h0
    go_wp2_with fail
    refine HK2.out _ _ ?_
    refine stM X Y M w2 ax ay cax cay n S mc t HC HT hB hBl ct cs m v _ dx dy cx cy w.heap.size _ w0 HD.out (by rw [← HMX.out, ← HMY.out]; exact HB.out) (by omega) At7.intro HM.out HI.out (by rw [← HMX.out]; exact hsk) Q HN.out H1.out H0.out

def regAt (n : Nat) : Code → Option Code
  | .region m o d => if m = n then some (.region m o d) else none
  | .seq a b => match regAt n a with
    | some c => some c
    | none => regAt n b
  | .block _ c => regAt n c
  | .loop c => regAt n c
  | .scope c => regAt n c
  | .cond _ a b => match regAt n a with
    | some c => some c
    | none => regAt n b
  | _ => none
noncomputable def regOf (n : Nat) : Code := ((Tryd.f25.body.bind (regAt n)).getD .skip)
set_option maxRecDepth 1000000 in
set_option maxHeartbeats 4000000 in
theorem stEnd (X Y : List (List UInt8)) (M : List (Nat × Nat)) (w2 : World) (ax ay : Option Addr) (cax cay n S mc t : Nat) (hB : List UInt8) (hMl : M.length ≤ 1000000) (g : Nat) (hg : M.length - t ≤ g) (a : Act) (w : World) (h : Cont X Y M w2 ax ay cax cay n S mc hB t a w)
    (Q : Exit → Act → World → Prop) (hQ : ∀ a' w', (∃ g', g' < g ∧ WI X Y M w2 ax ay cax cay n S mc hB g' a' w') → Q .normal a' w') : Code.wp Tryd.prog (regOf 81) Q a w := by
  obtain ⟨dx, dy, cx, cy, ct, cs, v, p, q, htl, hI, hD, ha⟩ := h
  have HI := Lib.hid hI
  have HD := Lib.hid hD
  have HQ := Lib.hid hQ
  clear hI hD hQ
  refine At.elim (C := fun a => Code.wp Tryd.prog (regOf 81) Q a w) ?_ ha
  intro c0 c1 c2 c3 c4 c5 c6 c7 c8 c16 c17 c20 c21 c22 c23 c24 c25 c26 c27 c28 c29 c30 c31 c32 c33 c34 c35 c36 c37 c38 c39 c40 c41 c42 c43 c44 c45 c46 c47 c48 c49 c50 c51 c52 c53 c54 c55 c56 c60 c61 c62 c63 c64 c65 c66 c67 c68 c69 c70 c71 c72 c73 c74 c75 c76 c77 c78 c79 c80 c81 c82 c83 c84 c85 c86 c87 c88 c89 c90 c91 c92 c93 c94 c95 c96 c97 c98 c99 c100 c101 c102 c103 c104 c105 c106 c107 c108 c109 c110 c111 c112 c113 c114 c115 c116 c117 c118 c119 c120 c121 c122 c123 c124 c125 c126 c127 c128 c129 c130 c131 c132 c133 c134 c135 c136 c137 c138 c139 c140 c141 c142 c143 c144 c145 c146 c147 c148 c149 c150 c151 c152 c153 c154 c155 c156 c157 c158 c159 c160 c161 c162 c163 c164 c165 c166 c167 c168 c169 c170 c171 c172 c173 c174 c175 c176 c177 c178 c179 c180 c181 c182 c183 c184 c185 c186 c187 c188 c189 c190 c191 c192 c193 c194 c195 c196 c197 c198 c199 c200 c201 c202 c203 c204 c205 c206 c207 c208 c209 c210 c211 c212 c213 c214 c215 c216 c217 c218 c219 c220 c221 c222 c223 c224 c225 c226 c227 c228 c229 c230 c231 c232 c233 c234 c235 c236 c237 c238 c239 c240 c241 c242 c243 c244 c245 c246 c247 c248 c249 c250 c251 c252 c253 c254 c255 c256 c257 c258 c259 c260 c261 c262 c263 c264 c265 c266 c267 c268 c269 c270 c271 c272 c273 c274 c275 c276 c277 c278 c279 c280 c281 c282 c283 c284 c285 c286 c287 c288 c289 c290 c291 c292 c293 c294 c295 c296 c297 c298 c299 c300 c301 c302 c303 c304 c305 c306 c307 c308 c309 c310 c311 c312 c313 c314 c315 c316 c317 c318 c319 c320 c321 c322 c323 c324 c325 c326 c327 c328 c329 c330 c331 c332 c333 c334 c335 c336 c337 c338 c339 c340 c341 c342 c343 c344 c345 c346 c347 c348 c349 c350 c351 c352 c353 c354 c355 c356 c357 c358 c359 c360 c361 c362 c363 c364 c365 c366 c367 c368 c369 c370 c371 c372 c373 c374 c375 c376 c377 c378 c379
  conv => arg 2; whnf
  go_wp2_with fail
  refine HQ.out _ _ ⟨g - 1, by omega, t + 1, dx, dy, cx, cy, ct, cs, v, p, q, htl, by omega, HI.out, HD.out, At.intro⟩

set_option maxRecDepth 1000000 in
set_option maxHeartbeats 4000000 in
theorem round (X Y : List (List UInt8)) (M : List (Nat × Nat)) (w2 : World) (ax ay : Option Addr) (cax cay n S mc : Nat) (HC : Hid (CX X Y M w2 ax ay cax cay)) (HT : Hid (TabB w2)) (hB : List UInt8) (hBl : hB.length ≤ 10000000000) (hMl : M.length ≤ 1000000)
    (g : Nat) (a : Act) (w : World) (h : WI X Y M w2 ax ay cax cay n S mc hB g a w)
    (Q : Exit → Act → World → Prop) (hn : ∀ a' w', (∃ g', g' < g ∧ WI X Y M w2 ax ay cax cay n S mc hB g' a' w') → Q .normal a' w') (h0 : ∀ a' w', Fin X Y M w2 ax ay cax cay n S mc hB a' w' → Q (.exit 0) a' w') : Code.wp Tryd.prog (tailOf 14) Q a w := by
  obtain ⟨t, dx, dy, cx, cy, ct, cs, v, p, q, htl, hg, hI, hD, ha⟩ := h
  have HI := Lib.hid hI
  have HD := Lib.hid hD
  have HN := Lib.hid hn
  have H0 := Lib.hid h0
  clear hI hD hn h0
  refine At.elim (C := fun a => Code.wp Tryd.prog (tailOf 14) Q a w) ?_ ha
  intro c0 c1 c2 c3 c4 c5 c6 c7 c8 c16 c17 c20 c21 c22 c23 c24 c25 c26 c27 c28 c29 c30 c31 c32 c33 c34 c35 c36 c37 c38 c39 c40 c41 c42 c43 c44 c45 c46 c47 c48 c49 c50 c51 c52 c53 c54 c55 c56 c60 c61 c62 c63 c64 c65 c66 c67 c68 c69 c70 c71 c72 c73 c74 c75 c76 c77 c78 c79 c80 c81 c82 c83 c84 c85 c86 c87 c88 c89 c90 c91 c92 c93 c94 c95 c96 c97 c98 c99 c100 c101 c102 c103 c104 c105 c106 c107 c108 c109 c110 c111 c112 c113 c114 c115 c116 c117 c118 c119 c120 c121 c122 c123 c124 c125 c126 c127 c128 c129 c130 c131 c132 c133 c134 c135 c136 c137 c138 c139 c140 c141 c142 c143 c144 c145 c146 c147 c148 c149 c150 c151 c152 c153 c154 c155 c156 c157 c158 c159 c160 c161 c162 c163 c164 c165 c166 c167 c168 c169 c170 c171 c172 c173 c174 c175 c176 c177 c178 c179 c180 c181 c182 c183 c184 c185 c186 c187 c188 c189 c190 c191 c192 c193 c194 c195 c196 c197 c198 c199 c200 c201 c202 c203 c204 c205 c206 c207 c208 c209 c210 c211 c212 c213 c214 c215 c216 c217 c218 c219 c220 c221 c222 c223 c224 c225 c226 c227 c228 c229 c230 c231 c232 c233 c234 c235 c236 c237 c238 c239 c240 c241 c242 c243 c244 c245 c246 c247 c248 c249 c250 c251 c252 c253 c254 c255 c256 c257 c258 c259 c260 c261 c262 c263 c264 c265 c266 c267 c268 c269 c270 c271 c272 c273 c274 c275 c276 c277 c278 c279 c280 c281 c282 c283 c284 c285 c286 c287 c288 c289 c290 c291 c292 c293 c294 c295 c296 c297 c298 c299 c300 c301 c302 c303 c304 c305 c306 c307 c308 c309 c310 c311 c312 c313 c314 c315 c316 c317 c318 c319 c320 c321 c322 c323 c324 c325 c326 c327 c328 c329 c330 c331 c332 c333 c334 c335 c336 c337 c338 c339 c340 c341 c342 c343 c344 c345 c346 c347 c348 c349 c350 c351 c352 c353 c354 c355 c356 c357 c358 c359 c360 c361 c362 c363 c364 c365 c366 c367 c368 c369 c370 c371 c372 c373 c374 c375 c376 c377 c378 c379
  conv => arg 2; whnf
  refine wp_seq_k fun KK hKK => ?_
  have HKK := Lib.hid hKK
  clear hKK
  go_wp2_with fail
  refine HKK.out _ _ ?_
  clear HKK
  refine wp_seq_k fun KK hKK => ?_
  have HKK := Lib.hid hKK
  clear hKK
  go_wp2_with fail
  refine HKK.out _ _ ?_
  clear HKK
  refine wp_seq_k fun KK hKK => ?_
  refine wp_block ?_
  obtain ⟨m, hm⟩ : ∃ m, M[t]? = some m := ⟨_, List.getElem?_eq_getElem htl⟩
  refine stR X Y M w2 ax ay cax cay n S mc t HC HT hB hBl ct cs m v p q dx dy cx cy _ w HD.out At.intro hm HI.out _ ?_ ?_ ?_
  · intro a' w' h'
    exact hKK a' w' (stEnd X Y M w2 ax ay cax cay n S mc t hB hMl g hg a' w' h' Q HN.out)
  · intro a' w' h'
    exact hKK a' w' (stEnd X Y M w2 ax ay cax cay n S mc t hB hMl g hg a' w' h' Q HN.out)
  · intro a' w' h'
    exact H0.out a' w' h'
end Go.Proofs.YtncjclmhdhimdaaDoor
