/- The main loop of diff.Diff: the hunk in hand goes on over the whole diagonal, or it does not. -/
import Derived.Test.YtncjclmhdhimdaaDoorDMC1
namespace Go.Proofs.YtncjclmhdhimdaaDoor
open Go.RowKit

set_option maxRecDepth 1000000 in
set_option maxHeartbeats 4000000 in
theorem stC3 (X Y : List (List UInt8)) (M : List (Nat × Nat)) (w2 : World) (ax ay : Option Addr) (cax cay n S mc t : Nat) (hB : List UInt8) (ct : Sc (List UInt8)) (cs : List (Ck (List UInt8)))
    (dx dy cx cy kx ky b1 sx sy b2 ex ey : Nat) (a : Act) (w : World) (h : MidR X Y M w2 ax ay cax cay n S mc t (hB ++ (cs.map ckText).flatten) ct dx dy cx cy kx ky b1 sx sy b2 ex ey a w)
    (HI : Hid (DInv X Y M (t + 1) ex ey cx cy ct cs)) (hkx : kx = cX ct) (hky : ky = cY ct) (htl : t + 1 < M.length)
    (Q : Exit → Act → World → Prop) (hQ : ∀ a' w', Cont X Y M w2 ax ay cax cay n S mc hB t a' w' → Q (.exit 1) a' w') : Code.wp Tryd.prog (tailOf 45) Q a w := by
  obtain ⟨v, h, ha⟩ := h
  have H := Lib.hid h
  have HKX := Lib.hid hkx
  have HKY := Lib.hid hky
  have HTL := Lib.hid htl
  clear h hkx hky htl
  refine At.elim (C := fun a => Code.wp Tryd.prog (tailOf 45) Q a w) ?_ ha
  intro c0 c1 c2 c3 c4 c5 c6 c7 c8 c16 c17 c20 c21 c22 c23 c24 c25 c26 c27 c28 c29 c30 c31 c32 c33 c34 c35 c36 c37 c38 c39 c40 c41 c42 c43 c44 c45 c46 c47 c48 c49 c50 c51 c52 c53 c54 c55 c56 c60 c61 c62 c63 c64 c65 c66 c67 c68 c69 c70 c71 c72 c73 c74 c75 c76 c77 c78 c79 c80 c81 c82 c83 c84 c85 c86 c87 c88 c89 c90 c91 c92 c93 c94 c95 c96 c97 c98 c99 c100 c101 c102 c103 c104 c105 c106 c107 c108 c109 c110 c111 c112 c113 c114 c115 c116 c117 c118 c119 c120 c121 c122 c123 c124 c125 c126 c127 c128 c129 c130 c131 c132 c133 c134 c135 c136 c137 c138 c139 c140 c141 c142 c143 c144 c145 c146 c147 c148 c149 c150 c151 c152 c153 c154 c155 c156 c157 c158 c159 c160 c161 c162 c163 c164 c165 c166 c167 c168 c169 c170 c171 c172 c173 c174 c175 c176 c177 c178 c179 c180 c181 c182 c183 c184 c185 c186 c187 c188 c189 c190 c191 c192 c193 c194 c195 c196 c197 c198 c199 c200 c201 c202 c203 c204 c205 c206 c207 c208 c209 c210 c211 c212 c213 c214 c215 c216 c217 c218 c219 c220 c221 c222 c223 c224 c225 c226 c227 c228 c229 c230 c231 c232 c233 c234 c235 c236 c237 c238 c239 c240 c241 c242 c243 c244 c245 c246 c247 c248 c249 c250 c251 c252 c253 c254 c255 c256 c257 c258 c259 c260 c261 c262 c263 c264 c265 c266 c267 c268 c269 c270 c271 c272 c273 c274 c275 c276 c277 c278 c279 c280 c281 c282 c283 c284 c285 c286 c287 c288 c289 c290 c291 c292 c293 c294 c295 c296 c297 c298 c299 c300 c301 c302 c303 c304 c305 c306 c307 c308 c309 c310 c311 c312 c313 c314 c315 c316 c317 c318 c319 c320 c321 c322 c323 c324 c325 c326 c327 c328 c329 c330 c331 c332 c333 c334 c335 c336 c337 c338 c339 c340 c341 c342 c343 c344 c345 c346 c347 c348 c349 c350 c351 c352 c353 c354 c355 c356 c357 c358 c359 c360 c361 c362 c363 c364 c365 c366 c367 c368 c369 c370 c371 c372 c373 c374 c375 c376 c377 c378 c379
  conv => arg 2; whnf
  have e0 := H.out.e.c0
  have e1 := H.out.e.c1
  have d0 := H.out.dw.done.c0
  have d1 := H.out.dw.done.c1
  have d2 := H.out.dw.done.free 0
  have d3 := H.out.dw.done.free 1
  go_wp2_with fail
  refine ⟨ex, ey, cx, cy, ct, cs, _, _, _, HTL.out, HI.out, ?_, At.intro⟩
  rw [← HKX.out, ← HKY.out]
  exact ((H.out.done0 ex).done1 ey).dw

set_option maxRecDepth 1000000 in
set_option maxHeartbeats 4000000 in
theorem stC1 (X Y : List (List UInt8)) (M : List (Nat × Nat)) (w2 : World) (ax ay : Option Addr) (cax cay n S mc t : Nat) (HC : Hid (CX X Y M w2 ax ay cax cay)) (hB : List UInt8) (ct : Sc (List UInt8)) (cs : List (Ck (List UInt8)))
    (dx dy cx cy kx ky b1 sx sy b2 ex ey : Nat) (a : Act) (w : World) (h : MidR X Y M w2 ax ay cax cay n S mc t (hB ++ (cs.map ckText).flatten) ct dx dy cx cy kx ky b1 sx sy b2 ex ey a w)
    (l1 : sx ≤ ex) (l2 : ex ≤ X.length) (hct : ct.length ≤ 100000) (hkx : kx = cX ct) (hky : ky = cY ct) (htl : t + 1 < M.length)
    (HI : Hid (DInv X Y M (t + 1) ex ey cx cy (ct ++ part 32 X sx (ex - sx)) cs))
    (Q : Exit → Act → World → Prop) (hQ : ∀ a' w', Cont X Y M w2 ax ay cax cay n S mc hB t a' w' → Q (.exit 1) a' w') : Code.wp Tryd.prog (tailOf 38) Q a w := by
  have hpl : (part 32 X sx (ex - sx)).length = ex - sx := part_len (by omega)
  have g1 : cX ct ≤ ct.length := List.countP_le_length
  have g2 : cY ct ≤ ct.length := List.countP_le_length
  refine stC2 X Y M w2 ax ay cax cay n S mc t HC _ ct dx dy cx cy kx ky b1 sx sy b2 ex ey a w h l1 l2 hct (by omega) (by omega) Q fun a' w' h' => ?_
  refine stC3 X Y M w2 ax ay cax cay n S mc t hB _ cs dx dy cx cy _ _ b1 sx sy b2 ex ey a' w' h' HI ?_ ?_ htl Q hQ
  · rw [cX_app, cX_keep (part_K _ _ _), hpl, hkx]
  · rw [cY_app, cY_keep (part_K _ _ _), hpl, hky]

set_option maxRecDepth 1000000 in
set_option maxHeartbeats 4000000 in
theorem stC (X Y : List (List UInt8)) (M : List (Nat × Nat)) (w2 : World) (ax ay : Option Addr) (cax cay n S mc t : Nat) (HC : Hid (CX X Y M w2 ax ay cax cay)) (hB : List UInt8) (ct : Sc (List UInt8)) (cs : List (Ck (List UInt8)))
    (dx dy cx cy kx ky b1 sx sy b2 ex ey : Nat) (a : Act) (w : World) (h : MidR X Y M w2 ax ay cax cay n S mc t (hB ++ (cs.map ckText).flatten) ct dx dy cx cy kx ky b1 sx sy b2 ex ey a w)
    (l1 : sx ≤ ex) (l2 : ex ≤ X.length) (l3 : ey ≤ Y.length) (hct : ct.length ≤ 100000) (hkx : kx = cX ct) (hky : ky = cY ct) (htl : (ex < X.length ∨ ey < Y.length) → t + 1 < M.length)
    (HI : Hid ((ex < X.length ∨ ey < Y.length) → (ex - sx < 3 ∨ ct ≠ []) → ex - sx < 6 → DInv X Y M (t + 1) ex ey cx cy (ct ++ part 32 X sx (ex - sx)) cs))
    (Q : Exit → Act → World → Prop) (hQ : ∀ a' w', Cont X Y M w2 ax ay cax cay n S mc hB t a' w' → Q (.exit 1) a' w')
    (hK : ¬ ((ex < X.length ∨ ey < Y.length) ∧ (ex - sx < 3 ∨ ct ≠ [] ∧ ex - sx < 6)) → ∀ a' w', MidR X Y M w2 ax ay cax cay n S mc t (hB ++ (cs.map ckText).flatten) ct dx dy cx cy kx ky b1 sx sy b2 ex ey a' w' → Code.wp Tryd.prog (tailOf 46) Q a' w') :
    Code.wp Tryd.prog (tailOf 37) Q a w := by
  have hmid := h
  obtain ⟨v, h, ha⟩ := h
  have H := Lib.hid h
  have hne : Hid (ct ≠ [] ↔ 0 < ct.length) := Lib.hid List.length_pos_iff.symm
  have hrow := h.dw.ds.row
  obtain ⟨pv, cv, rfl⟩ := ownsRow_slice hrow
  clear hrow h hmid
  refine At.elim (C := fun a => Code.wp Tryd.prog (tailOf 37) Q a w) ?_ ha
  intro c0 c1 c2 c3 c4 c5 c6 c7 c8 c16 c17 c20 c21 c22 c23 c24 c25 c26 c27 c28 c29 c30 c31 c32 c33 c34 c35 c36 c37 c38 c39 c40 c41 c42 c43 c44 c45 c46 c47 c48 c49 c50 c51 c52 c53 c54 c55 c56 c60 c61 c62 c63 c64 c65 c66 c67 c68 c69 c70 c71 c72 c73 c74 c75 c76 c77 c78 c79 c80 c81 c82 c83 c84 c85 c86 c87 c88 c89 c90 c91 c92 c93 c94 c95 c96 c97 c98 c99 c100 c101 c102 c103 c104 c105 c106 c107 c108 c109 c110 c111 c112 c113 c114 c115 c116 c117 c118 c119 c120 c121 c122 c123 c124 c125 c126 c127 c128 c129 c130 c131 c132 c133 c134 c135 c136 c137 c138 c139 c140 c141 c142 c143 c144 c145 c146 c147 c148 c149 c150 c151 c152 c153 c154 c155 c156 c157 c158 c159 c160 c161 c162 c163 c164 c165 c166 c167 c168 c169 c170 c171 c172 c173 c174 c175 c176 c177 c178 c179 c180 c181 c182 c183 c184 c185 c186 c187 c188 c189 c190 c191 c192 c193 c194 c195 c196 c197 c198 c199 c200 c201 c202 c203 c204 c205 c206 c207 c208 c209 c210 c211 c212 c213 c214 c215 c216 c217 c218 c219 c220 c221 c222 c223 c224 c225 c226 c227 c228 c229 c230 c231 c232 c233 c234 c235 c236 c237 c238 c239 c240 c241 c242 c243 c244 c245 c246 c247 c248 c249 c250 c251 c252 c253 c254 c255 c256 c257 c258 c259 c260 c261 c262 c263 c264 c265 c266 c267 c268 c269 c270 c271 c272 c273 c274 c275 c276 c277 c278 c279 c280 c281 c282 c283 c284 c285 c286 c287 c288 c289 c290 c291 c292 c293 c294 c295 c296 c297 c298 c299 c300 c301 c302 c303 c304 c305 c306 c307 c308 c309 c310 c311 c312 c313 c314 c315 c316 c317 c318 c319 c320 c321 c322 c323 c324 c325 c326 c327 c328 c329 c330 c331 c332 c333 c334 c335 c336 c337 c338 c339 c340 c341 c342 c343 c344 c345 c346 c347 c348 c349 c350 c351 c352 c353 c354 c355 c356 c357 c358 c359 c360 c361 c362 c363 c364 c365 c366 c367 c368 c369 c370 c371 c372 c373 c374 c375 c376 c377 c378 c379
  conv => arg 2; whnf
  obtain ⟨C, hC⟩ : ∃ C : Prop, C = ((ex < X.length ∨ ey < Y.length) ∧ (ex - sx < 3 ∨ ct ≠ [] ∧ ex - sx < 6)) := ⟨_, rfl⟩
  rw [← hC] at hK
  have HCC := Lib.hid hC
  obtain ⟨KK, hKK⟩ : ∃ KK : Act → World → Prop, KK = fun a' w' => ¬ C ∧ MidR X Y M w2 ax ay cax cay n S mc t (hB ++ (cs.map ckText).flatten) ct dx dy cx cy kx ky b1 sx sy b2 ex ey a' w' := ⟨_, rfl⟩
  refine wp_to KK ?_ (fun a' w' h' => by rw [hKK] at h'; exact hK h'.1 a' w' h'.2)
  have HKK : Hid (∀ a' w', ¬ C → MidR X Y M w2 ax ay cax cay n S mc t (hB ++ (cs.map ckText).flatten) ct dx dy cx cy kx ky b1 sx sy b2 ex ey a' w' → KK a' w') := Lib.hid fun a' w' h1 h2 => by rw [hKK]; exact ⟨h1, h2⟩
  obtain ⟨QQ, hQQ⟩ : ∃ QQ, QQ = Exit.then KK Q := ⟨_, rfl⟩
  have HT : Hid (C → ∀ a', At X Y M w2 ax ay cax cay n S mc (.slice pv ct.length cv) (.pointer (some ⟨b1, 0, none⟩)) (.pointer (some ⟨b2, 0, none⟩)) (.int .i64 (t : Int)) a' → Code.wp Tryd.prog (tailOf 38) (Exit.then KK Q) a' w) := Lib.hid fun hc a' ha' => by
    rw [hC] at hc
    exact stC1 X Y M w2 ax ay cax cay n S mc t HC hB ct cs dx dy cx cy kx ky b1 sx sy b2 ex ey a' w ⟨_, H.out, ha'⟩ l1 l2 hct hkx hky (htl hc.1) (Lib.hid (HI.out hc.1 (hc.2.imp id And.left) (hc.2.elim (fun h => by omega) And.right))) (Exit.then KK Q) (fun a' w' h' => hQ a' w' h')
  clear hK hKK hQQ QQ HI hQ hkx hky htl
  have hx := HC.out.hx
  have hy := HC.out.hy
  have e0 := H.out.e.c0
  have e1 := H.out.e.c1
  have k0 := H.out.s.c0
  obtain ⟨d, hd⟩ : ∃ d, d = ex - sx := ⟨_, rfl⟩
  have i1 : (ex : Int) - (sx : Int) = (d : Int) := by omega
  have hdx : d ≤ 10000 := by omega
  obtain ⟨m, hm⟩ : ∃ m, m = ct.length := ⟨_, rfl⟩
  have HCD : Hid (C ↔ (ex < X.length ∨ ey < Y.length) ∧ (d < 3 ∨ 0 < m ∧ d < 6)) := Lib.hid (by rw [hC, hne.out, hd, hm])
  rw [← hm] at hct H HT ⊢
  clear hC hd hm HCC hne
  by_cases hA : ex < X.length
  · by_cases h3 : d < 3
    · go_upto_if 212 with fail
      refine wp_cond_true rfl ?_
      exact HT.out (HCD.out.2 ⟨.inl hA, .inl h3⟩) _ At.intro
    · by_cases hm0 : 0 < m
      · by_cases h6 : d < 6
        · go_upto_if 212 with fail
          refine wp_cond rfl ?_
          rw [if_pos (by simp; omega)]
          exact HT.out (HCD.out.2 ⟨.inl hA, .inr ⟨hm0, h6⟩⟩) _ At.intro
        · go_wp2_with fail
          exact HKK.out _ _ (fun hc => by have := HCD.out.1 hc; omega) ⟨_, H.out, At.intro⟩
      · go_wp2_with fail
        exact HKK.out _ _ (fun hc => by have := HCD.out.1 hc; omega) ⟨_, H.out, At.intro⟩
  · by_cases hY : ey < Y.length
    · by_cases h3 : d < 3
      · go_upto_if 212 with fail
        refine wp_cond_true rfl ?_
        exact HT.out (HCD.out.2 ⟨.inr hY, .inl h3⟩) _ At.intro
      · by_cases hm0 : 0 < m
        · by_cases h6 : d < 6
          · go_upto_if 212 with fail
            refine wp_cond rfl ?_
            rw [if_pos (by simp; omega)]
            exact HT.out (HCD.out.2 ⟨.inr hY, .inr ⟨hm0, h6⟩⟩) _ At.intro
          · go_wp2_with fail
            exact HKK.out _ _ (fun hc => by have := HCD.out.1 hc; omega) ⟨_, H.out, At.intro⟩
        · go_wp2_with fail
          exact HKK.out _ _ (fun hc => by have := HCD.out.1 hc; omega) ⟨_, H.out, At.intro⟩
    · go_wp2_with fail
      exact HKK.out _ _ (fun hc => by have := HCD.out.1 hc; omega) ⟨_, H.out, At.intro⟩
end Go.Proofs.YtncjclmhdhimdaaDoor
