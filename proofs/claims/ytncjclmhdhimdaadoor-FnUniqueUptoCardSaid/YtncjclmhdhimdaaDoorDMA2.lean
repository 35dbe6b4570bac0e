/- The main loop of diff.Diff: the scan on from a match. -/
import Derived.Test.YtncjclmhdhimdaaDoorDMA1
namespace Go.Proofs.YtncjclmhdhimdaaDoor
open Go.RowKit

def ForeTo (X Y : List (List UInt8)) (mx my ex ey : Nat) : Prop := ∃ d, ex = mx + d ∧ ey = my + d ∧ Diag X Y mx my d
theorem ForeTo.step {X Y : List (List UInt8)} {mx my ex ey : Nat} (h : ForeTo X Y mx my ex ey) {s : List UInt8} (h1 : X[ex]? = some s) (h2 : Y[ey]? = some s) : ForeTo X Y mx my (ex + 1) (ey + 1) := by
  obtain ⟨d, rfl, rfl, hd⟩ := h
  refine ⟨d + 1, by omega, by omega, Diag.join hd fun k hk => ?_⟩
  obtain rfl : k = 0 := by omega
  exact ⟨s, h1, h2⟩
theorem max_x {X Y : List (List UInt8)} {i j : Nat} (h : X.length ≤ i) : Max X Y i j := fun ⟨a, h1, _⟩ => by rw [List.getElem?_eq_none h] at h1; cases h1
theorem max_y {X Y : List (List UInt8)} {i j : Nat} (h : Y.length ≤ j) : Max X Y i j := fun ⟨a, _, h1⟩ => by rw [List.getElem?_eq_none h] at h1; cases h1
theorem max_ne {X Y : List (List UInt8)} {i j : Nat} {s u : List UInt8} (h1 : X[i]? = some s) (h2 : Y[j]? = some u) (h : s ≠ u) : Max X Y i j := fun ⟨a, h3, h4⟩ => by
  rw [h1] at h3
  rw [h2] at h4
  injection h3 with h3
  injection h4 with h4
  exact h (h3.trans h4.symm)

set_option maxRecDepth 1000000 in
set_option maxHeartbeats 4000000 in
theorem stA3 (X Y : List (List UInt8)) (M : List (Nat × Nat)) (w2 : World) (ax ay : Option Addr) (cax cay n S mc t : Nat) (HC : Hid (CX X Y M w2 ax ay cax cay)) (out : List UInt8) (ct : Sc (List UInt8))
    (dx dy cx cy kx ky b1 sx sy b2 mx my : Nat) (a : Act) (w : World) (h : MidR X Y M w2 ax ay cax cay n S mc t out ct dx dy cx cy kx ky b1 sx sy b2 mx my a w) (hne : b1 ≠ b2) (hmx : mx ≤ X.length) (hmy : my ≤ Y.length)
    (Q : Exit → Act → World → Prop) (hK : ∀ ex ey a' w', ForeTo X Y mx my ex ey → ex ≤ X.length → ey ≤ Y.length → Max X Y ex ey → MidR X Y M w2 ax ay cax cay n S mc t out ct dx dy cx cy kx ky b1 sx sy b2 ex ey a' w' → Code.wp Tryd.prog (tailOf 25) Q a' w') :
    Code.wp Tryd.prog (restOf 21) Q a w := by
  obtain ⟨v, h, ha⟩ := h
  have H := Lib.hid h
  have HNE := Lib.hid hne
  clear h hne
  refine At.elim (C := fun a => Code.wp Tryd.prog (restOf 21) Q a w) ?_ ha
  intro c0 c1 c2 c3 c4 c5 c6 c7 c8 c16 c17 c20 c21 c22 c23 c24 c25 c26 c27 c28 c29 c30 c31 c32 c33 c34 c35 c36 c37 c38 c39 c40 c41 c42 c43 c44 c45 c46 c47 c48 c49 c50 c51 c52 c53 c54 c55 c56 c60 c61 c62 c63 c64 c65 c66 c67 c68 c69 c70 c71 c72 c73 c74 c75 c76 c77 c78 c79 c80 c81 c82 c83 c84 c85 c86 c87 c88 c89 c90 c91 c92 c93 c94 c95 c96 c97 c98 c99 c100 c101 c102 c103 c104 c105 c106 c107 c108 c109 c110 c111 c112 c113 c114 c115 c116 c117 c118 c119 c120 c121 c122 c123 c124 c125 c126 c127 c128 c129 c130 c131 c132 c133 c134 c135 c136 c137 c138 c139 c140 c141 c142 c143 c144 c145 c146 c147 c148 c149 c150 c151 c152 c153 c154 c155 c156 c157 c158 c159 c160 c161 c162 c163 c164 c165 c166 c167 c168 c169 c170 c171 c172 c173 c174 c175 c176 c177 c178 c179 c180 c181 c182 c183 c184 c185 c186 c187 c188 c189 c190 c191 c192 c193 c194 c195 c196 c197 c198 c199 c200 c201 c202 c203 c204 c205 c206 c207 c208 c209 c210 c211 c212 c213 c214 c215 c216 c217 c218 c219 c220 c221 c222 c223 c224 c225 c226 c227 c228 c229 c230 c231 c232 c233 c234 c235 c236 c237 c238 c239 c240 c241 c242 c243 c244 c245 c246 c247 c248 c249 c250 c251 c252 c253 c254 c255 c256 c257 c258 c259 c260 c261 c262 c263 c264 c265 c266 c267 c268 c269 c270 c271 c272 c273 c274 c275 c276 c277 c278 c279 c280 c281 c282 c283 c284 c285 c286 c287 c288 c289 c290 c291 c292 c293 c294 c295 c296 c297 c298 c299 c300 c301 c302 c303 c304 c305 c306 c307 c308 c309 c310 c311 c312 c313 c314 c315 c316 c317 c318 c319 c320 c321 c322 c323 c324 c325 c326 c327 c328 c329 c330 c331 c332 c333 c334 c335 c336 c337 c338 c339 c340 c341 c342 c343 c344 c345 c346 c347 c348 c349 c350 c351 c352 c353 c354 c355 c356 c357 c358 c359 c360 c361 c362 c363 c364 c365 c366 c367 c368 c369 c370 c371 c372 c373 c374 c375 c376 c377 c378 c379
  conv => arg 2; whnf
  obtain ⟨KK, hKK⟩ : ∃ KK : Act → World → Prop, KK = fun a' w' => ∃ ex ey, ForeTo X Y mx my ex ey ∧ ex ≤ X.length ∧ ey ≤ Y.length ∧ Max X Y ex ey ∧ MidR X Y M w2 ax ay cax cay n S mc t out ct dx dy cx cy kx ky b1 sx sy b2 ex ey a' w' := ⟨_, rfl⟩
  refine wp_to KK ?_ (fun a' w' h' => by
    rw [hKK] at h'
    obtain ⟨ex, ey, h1, h2, h3, h4, h5⟩ := h'
    exact hK ex ey a' w' h1 h2 h3 h4 h5)
  have HKK : Hid (∀ ex ey a' w', ForeTo X Y mx my ex ey → ex ≤ X.length → ey ≤ Y.length → Max X Y ex ey → MidR X Y M w2 ax ay cax cay n S mc t out ct dx dy cx cy kx ky b1 sx sy b2 ex ey a' w' → KK a' w') := Lib.hid fun ex ey a' w' h1 h2 h3 h4 h5 => by rw [hKK]; exact ⟨ex, ey, h1, h2, h3, h4, h5⟩
  clear hK hKK
  have hx := HC.out.hx
  have hy := HC.out.hy
  go_wp2_with fail
  go_loopg [] (X.length - mx) (fun g' wr => ∃ ex ey : Nat, X.length - ex ≤ g' ∧ ex ≤ X.length ∧ ey ≤ Y.length ∧ ForeTo X Y mx my ex ey ∧ DR w2 n S M out v ct dx dy cx cy kx ky b1 sx sy b2 ex ey wr)
  case atStart => exact ⟨mx, my, by omega, by omega, by omega, ⟨0, by omega, by omega, fun k hk => by omega⟩, H.out⟩
  case round =>
    clear H
    obtain ⟨ex, ey, hg, lex, ley, hb, hr⟩ := hrel
    have HR := Lib.hid hr
    have HB := Lib.hid hb
    have e0 := hr.e.c0
    have e1 := hr.e.c1
    have e2 := hr.e.free 0
    have e3 := hr.e.free 1
    clear hr hb
    by_cases g1 : ex < X.length
    · by_cases g2 : ey < Y.length
      · obtain ⟨s, hs⟩ : ∃ s, X[ex]? = some s := ⟨_, List.getElem?_eq_getElem (by omega)⟩
        obtain ⟨u, hu⟩ : ∃ u, Y[ey]? = some u := ⟨_, List.getElem?_eq_getElem (by omega)⟩
        obtain ⟨bq, oq, rfl, hq⟩ := HC.out.lx.cell hs
        obtain ⟨br, or_, rfl, hq2⟩ := HC.out.ly.cell hu
        have z1 := (HR.out.dw.bl.cell (p := ⟨bq, oq + ex, none⟩) (lt_of_cell hq)).trans hq
        have z2 := (HR.out.dw.bl.cell (p := ⟨br, or_ + ey, none⟩) (lt_of_cell hq2)).trans hq2
        have HS := Lib.hid hs
        have HU := Lib.hid hu
        clear hq hq2 hs hu
        by_cases hsu : s = u
        · subst hsu
          go_wp2_with fail
          go_quiet (fail)
          go_wp2_with fail
          go_roundg (X.length - (ex + 1))
          case rel => exact ⟨ex + 1, ey + 1, by omega, by omega, by omega, HB.out.step HS.out HU.out, ((HR.out.below (below_dN wr nq)).e0 HNE.out (ex + 1)).e1 HNE.out (ey + 1)⟩
          case measure => omega
        · have n2 : ((mkB s).toList == (mkB u).toList) = false := by rw [ByteArray.toList_eq, ByteArray.toList_eq, mkB_toList, mkB_toList]; exact beq_eq_false_iff_ne.2 hsu
          have HSU := Lib.hid hsu
          clear hsu
          go_wp2_with fail
          go_quiet (fail)
          go_wp2_with fail
          exact HKK.out _ _ _ _ HB.out lex ley (max_ne HS.out HU.out HSU.out) ⟨_, HR.out.below (below_dN wr nq), At.intro⟩
      · have n2 : decide ((ey : Int) < (Y.length : Int)) = false := decide_eq_false (by omega)
        go_wp2_with fail
        go_quiet (fail)
        go_wp2_with fail
        exact HKK.out _ _ _ _ HB.out lex ley (max_y (by omega)) ⟨_, HR.out.below (below_dN wr nq), At.intro⟩
    · have n1 : decide ((ex : Int) < (X.length : Int)) = false := decide_eq_false (by omega)
      go_wp2_with fail
      go_quiet (fail)
      go_wp2_with fail
      exact HKK.out _ _ _ _ HB.out lex ley (max_x (by omega)) ⟨_, HR.out.below (below_dN wr nq), At.intro⟩

set_option maxRecDepth 1000000 in
set_option maxHeartbeats 4000000 in
theorem stA2 (X Y : List (List UInt8)) (M : List (Nat × Nat)) (w2 : World) (ax ay : Option Addr) (cax cay n S mc t : Nat) (out : List UInt8) (ct : Sc (List UInt8))
    (dx dy cx cy kx ky b1 sx sy b2 mx my : Nat) (a : Act) (w : World) (h : MidA X Y M w2 ax ay cax cay n S mc t out ct dx dy cx cy kx ky b1 sx sy b2 mx my a w)
    (Q : Exit → Act → World → Prop) (hK : ∀ b3 a' w', b1 ≠ b3 → MidR X Y M w2 ax ay cax cay n S mc t out ct dx dy cx cy kx ky b1 sx sy b3 mx my a' w' → Code.wp Tryd.prog (restOf 21) Q a' w') :
    Code.wp Tryd.prog (tailOf 21) Q a w := by
  obtain ⟨v, h, hne, ha⟩ := h
  have H := Lib.hid h
  clear h hne
  refine At7.elim (C := fun a => Code.wp Tryd.prog (tailOf 21) Q a w) ?_ ha
  intro c0 c1 c2 c3 c4 c5 c6 c7 c8 c16 c19 c20 c21 c22 c23 c24 c25 c26 c27 c28 c29 c30 c31 c32 c33 c34 c35 c36 c37 c38 c39 c40 c41 c42 c43 c44 c45 c46 c47 c48 c49 c50 c51 c52 c53 c54 c55 c56 c60 c61 c62 c63 c64 c65 c66 c67 c68 c69 c70 c71 c72 c73 c74 c75 c76 c77 c78 c79 c80 c81 c82 c83 c84 c85 c86 c87 c88 c89 c90 c91 c92 c93 c94 c95 c96 c97 c98 c99 c100 c101 c102 c103 c104 c105 c106 c107 c108 c109 c110 c111 c112 c113 c114 c115 c116 c117 c118 c119 c120 c121 c122 c123 c124 c125 c126 c127 c128 c129 c130 c131 c132 c133 c134 c135 c136 c137 c138 c139 c140 c141 c142 c143 c144 c145 c146 c147 c148 c149 c150 c151 c152 c153 c154 c155 c156 c157 c158 c159 c160 c161 c162 c163 c164 c165 c166 c167 c168 c169 c170 c171 c172 c173 c174 c175 c176 c177 c178 c179 c180 c181 c182 c183 c184 c185 c186 c187 c188 c189 c190 c191 c192 c193 c194 c195 c196 c197 c198 c199 c200 c201 c202 c203 c204 c205 c206 c207 c208 c209 c210 c211 c212 c213 c214 c215 c216 c217 c218 c219 c220 c221 c222 c223 c224 c225 c226 c227 c228 c229 c230 c231 c232 c233 c234 c235 c236 c237 c238 c239 c240 c241 c242 c243 c244 c245 c246 c247 c248 c249 c250 c251 c252 c253 c254 c255 c256 c257 c258 c259 c260 c261 c262 c263 c264 c265 c266 c267 c268 c269 c270 c271 c272 c273 c274 c275 c276 c277 c278 c279 c280 c281 c282 c283 c284 c285 c286 c287 c288 c289 c290 c291 c292 c293 c294 c295 c296 c297 c298 c299 c300 c301 c302 c303 c304 c305 c306 c307 c308 c309 c310 c311 c312 c313 c314 c315 c316 c317 c318 c319 c320 c321 c322 c323 c324 c325 c326 c327 c328 c329 c330 c331 c332 c333 c334 c335 c336 c337 c338 c339 c340 c341 c342 c343 c344 c345 c346 c347 c348 c349 c350 c351 c352 c353 c354 c355 c356 c357 c358 c359 c360 c361 c362 c363 c364 c365 c366 c367 c368 c369 c370 c371 c372 c373 c374 c375 c376 c377 c378 c379
  conv => arg 2; whnf
  obtain ⟨KK, hKK⟩ : ∃ KK : Act → World → Prop, KK = fun a' w' => ∃ b3, b1 ≠ b3 ∧ MidR X Y M w2 ax ay cax cay n S mc t out ct dx dy cx cy kx ky b1 sx sy b3 mx my a' w' := ⟨_, rfl⟩
  refine wp_to KK ?_ (fun a' w' h' => by
    rw [hKK] at h'
    obtain ⟨b3, h1, h2⟩ := h'
    exact hK b3 a' w' h1 h2)
  have HKK : Hid (∀ b3 a' w', b1 ≠ b3 → MidR X Y M w2 ax ay cax cay n S mc t out ct dx dy cx cy kx ky b1 sx sy b3 mx my a' w' → KK a' w') := Lib.hid fun b3 a' w' h1 h2 => by rw [hKK]; exact ⟨b3, h1, h2⟩
  clear hK hKK
  have e0 := H.out.e.c0
  have e1 := H.out.e.c1
  have hlt := H.out.s.lt
  have hlc := H.out.dw.count.lt
  go_wp2_with fail
  have hb : Below w.heap.size w (w.alloc (.cells #[.int .i64 (mx : Int), .int .i64 (my : Int)] 60)) := (Below.refl _ _).alloc (Nat.le_refl _) _
  exact HKK.out w.heap.size _ _ (by omega) ⟨_, ⟨H.out.dw.below hb, H.out.s.below hb, bx.new w mx my, H.out.ns, by omega⟩, At.intro⟩
end Go.Proofs.YtncjclmhdhimdaaDoor
