/- The main loop of diff.Diff: the end of a round: the texts' end, or another hunk's head. -/
import Derived.Test.YtncjclmhdhimdaaDoorDMDefs
namespace Go.Proofs.YtncjclmhdhimdaaDoor
open Go.RowKit

set_option maxRecDepth 1000000 in
set_option maxHeartbeats 4000000 in
theorem stE2 (X Y : List (List UInt8)) (M : List (Nat × Nat)) (w2 : World) (ax ay : Option Addr) (cax cay n S mc : Nat) (hB : List UInt8) (t : Nat) (HC : Hid (CX X Y M w2 ax ay cax cay))
    (v : Value) (dx dy cx cy b1 sx sy b2 ex ey : Nat) (cs : List (Ck (List UInt8))) (w : World) (H : Hid (DR w2 n S M (hB ++ (cs.map ckText).flatten) v [] dx dy cx cy 0 0 b1 sx sy b2 ex ey w))
    (hex : ex ≤ X.length) (hey : ey ≤ Y.length) (h3x : 3 ≤ ex) (h3y : 3 ≤ ey) (htl : t + 1 < M.length) (HI : Hid (DInv X Y M (t + 1) ex ey (ex - 3) (ey - 3) (part 32 X (ex - 3) 3) cs))
    (Q : Exit → Act → World → Prop) (hn : ∀ a' w', Cont X Y M w2 ax ay cax cay n S mc hB t a' w' → Q .normal a' w') (a : Act)
    (ha : At X Y M w2 ax ay cax cay n S mc v (.pointer (some ⟨b1, 0, none⟩)) (.pointer (some ⟨b2, 0, none⟩)) (.int .i64 (t : Int)) a) :
    Code.wp Tryd.prog (tailOf 72) Q a w := by
  refine At.elim (C := fun a => Code.wp Tryd.prog (tailOf 72) Q a w) ?_ ha
  intro c0 c1 c2 c3 c4 c5 c6 c7 c8 c16 c17 c20 c21 c22 c23 c24 c25 c26 c27 c28 c29 c30 c31 c32 c33 c34 c35 c36 c37 c38 c39 c40 c41 c42 c43 c44 c45 c46 c47 c48 c49 c50 c51 c52 c53 c54 c55 c56 c60 c61 c62 c63 c64 c65 c66 c67 c68 c69 c70 c71 c72 c73 c74 c75 c76 c77 c78 c79 c80 c81 c82 c83 c84 c85 c86 c87 c88 c89 c90 c91 c92 c93 c94 c95 c96 c97 c98 c99 c100 c101 c102 c103 c104 c105 c106 c107 c108 c109 c110 c111 c112 c113 c114 c115 c116 c117 c118 c119 c120 c121 c122 c123 c124 c125 c126 c127 c128 c129 c130 c131 c132 c133 c134 c135 c136 c137 c138 c139 c140 c141 c142 c143 c144 c145 c146 c147 c148 c149 c150 c151 c152 c153 c154 c155 c156 c157 c158 c159 c160 c161 c162 c163 c164 c165 c166 c167 c168 c169 c170 c171 c172 c173 c174 c175 c176 c177 c178 c179 c180 c181 c182 c183 c184 c185 c186 c187 c188 c189 c190 c191 c192 c193 c194 c195 c196 c197 c198 c199 c200 c201 c202 c203 c204 c205 c206 c207 c208 c209 c210 c211 c212 c213 c214 c215 c216 c217 c218 c219 c220 c221 c222 c223 c224 c225 c226 c227 c228 c229 c230 c231 c232 c233 c234 c235 c236 c237 c238 c239 c240 c241 c242 c243 c244 c245 c246 c247 c248 c249 c250 c251 c252 c253 c254 c255 c256 c257 c258 c259 c260 c261 c262 c263 c264 c265 c266 c267 c268 c269 c270 c271 c272 c273 c274 c275 c276 c277 c278 c279 c280 c281 c282 c283 c284 c285 c286 c287 c288 c289 c290 c291 c292 c293 c294 c295 c296 c297 c298 c299 c300 c301 c302 c303 c304 c305 c306 c307 c308 c309 c310 c311 c312 c313 c314 c315 c316 c317 c318 c319 c320 c321 c322 c323 c324 c325 c326 c327 c328 c329 c330 c331 c332 c333 c334 c335 c336 c337 c338 c339 c340 c341 c342 c343 c344 c345 c346 c347 c348 c349 c350 c351 c352 c353 c354 c355 c356 c357 c358 c359 c360 c361 c362 c363 c364 c365 c366 c367 c368 c369 c370 c371 c372 c373 c374 c375 c376 c377 c378 c379
  conv => arg 2; whnf
  have HTL := Lib.hid htl
  clear htl
  have hx := HC.out.hx
  have hy := HC.out.hy
  obtain ⟨f, hf⟩ : ∃ f, f = ex - 3 := ⟨_, rfl⟩
  obtain ⟨g, hg⟩ : ∃ g, g = ey - 3 := ⟨_, rfl⟩
  rw [← hf, ← hg] at HI
  have e0 := H.out.e.c0
  have e1 := H.out.e.c1
  have k0 := H.out.dw.chunk.c0
  have k1 := H.out.dw.chunk.c1
  have k2 := H.out.dw.chunk.free 0
  have k3 := H.out.dw.chunk.free 1
  have i1 : (ex : Int) - 3 = (f : Int) := by omega
  have i2 : (ey : Int) - 3 = (g : Int) := by omega
  have f1 : f + 3 ≤ ex := by omega
  have f2 : ex ≤ f + 3 := by omega
  have g1 : g + 3 ≤ ey := by omega
  have g2 : ey ≤ g + 3 := by omega
  clear hf hg
  go_upto_region 73 with fail
  obtain ⟨w9, hw9⟩ : ∃ w9, w9 = (w.setCell ⟨n + 1, 0, none⟩ (.int .i64 (f : Int))).setCell ⟨n + 1, 1, none⟩ (.int .i64 (g : Int)) := ⟨_, rfl⟩
  have HR9 : Hid (DR w2 n S M (hB ++ (cs.map ckText).flatten) v [] dx dy f g 0 0 b1 sx sy b2 ex ey w9) := Lib.hid (by rw [hw9]; exact (H.out.chunk0 f).chunk1 g)
  rw [← hw9]
  clear hw9 e0 e1 k0 k1 k2 k3
  have e0 := HR9.out.e.c0
  have k0 := HR9.out.dw.chunk.c0
  obtain ⟨a', c', hsl, hat⟩ := HC.out.lx.sub HC.out.cx f ex (by omega) (by omega)
  rw [show ex - f = 3 by omega] at hsl hat
  have HAT := Lib.hid hat
  have HV : Hid (v = v) := Lib.hid rfl
  clear hat
  go_wp2_with fail
  obtain ⟨j0, hi, hz0, hz1, hz2⟩ := info_parts info_line
  go_loopg [15, 359] 3 (fun g' v i wr => ∃ k : Nat, k ≤ 3 ∧ i = .int .i64 (k : Int) ∧ 3 - k ≤ g' ∧ DR w2 n S M (hB ++ (cs.map ckText).flatten) v (part 32 X f k) dx dy f g k k b1 sx sy b2 ex ey wr)
  case atStart => exact ⟨0, by omega, rfl, by omega, by rw [part_zero]; exact HR9.out⟩
  case round =>
    clear HR9 e0 k0 H
    obtain ⟨k, hk, rfl, hkg, hr⟩ := hrel
    have HR := Lib.hid hr
    by_cases hlt : k < 3
    · obtain ⟨s, hs⟩ : ∃ s, X[f + k]? = some s := ⟨_, List.getElem?_eq_getElem (by omega)⟩
      obtain ⟨bq, oq, rfl, hq⟩ := HAT.out k s hlt hs
      have hcell := (hr.dw.bl.cell (p := ⟨bq, oq + k, none⟩) (lt_of_cell hq)).trans hq
      have hsl' := HC.out.sx s (List.mem_of_getElem? hs)
      have hrow := hr.dw.ds.row
      have hlen : (part 32 X f k).length = k := part_len (by omega)
      have hpn := part_snoc (s := 32) hs
      rw [hlen] at hrow
      obtain ⟨pv, cv, rfl⟩ := ownsRow_slice hrow
      have HRW := Lib.hid hrow
      have HPN := Lib.hid hpn
      have HLN := Lib.hid hlen
      have s1 : ∀ w, (Op.stringOp .add { data := #[32] } (mkB s)).run Tryd.prog w = .ok (.string (mkB (32 :: s))) w := sum_l [32] s (32 :: s) rfl (by simp; omega)
      obtain ⟨sx1, hsx1⟩ : ∃ x, x = (32 :: s : List UInt8) := ⟨_, rfl⟩
      rw [← hsx1] at s1
      have HSX := Lib.hid hsx1
      have hwz := hr.dw.bl.size
      clear hr hrow hs hq hpn hlen hsx1
      go_wp2_with (at_builtin; refine wpList_append_own_at _ rfl _ _ 26 rfl w2.heap.size 9 j0 _ 1 16 Tryd.underlying26 hi hz0 hz1 hz2 rfl (by decide) _ _ _ rfl (HRW.out.alloc _) ⟨_, 0, none⟩ 1 1 [.string (mkB sx1)] rfl rfl (cell_one_new _ _ _) (by simp [Value.oneCell']) (by unfold maxLen; omega) (by omega) (by simp; omega) ?_; intro v' w3 hown3 hg3 _ hat3; have HO3 := Lib.hid hown3; have HG3 := Lib.hid hg3; have HA3 : Hid (DR w2 n S M (hB ++ (cs.map ckText).flatten) v' (part 32 X f k ++ [(32, s)]) dx dy f g k k b1 sx sy b2 ex ey w3) := Lib.hid (HR.out.app (by rw [HLN.out, ← HSX.out]; exact hown3) hg3); have m0 := HA3.out.dw.count.c0; have m1 := HA3.out.dw.count.c1; have m2 := HA3.out.dw.count.free 0; have m3 := HA3.out.dw.count.free 1; clear hown3 hg3 hat3)
      go_roundg (3 - (k + 1))
      case rel => exact ⟨k + 1, by omega, by go_num, by omega, by rw [HPN.out]; exact (HA3.out.count0 (k + 1)).count1 (k + 1)⟩
      case measure => omega
    · obtain rfl : k = 3 := by omega
      clear hr
      have e0 := HR.out.e.c0
      have e1 := HR.out.e.c1
      have d0 := HR.out.dw.done.c0
      have d1 := HR.out.dw.done.c1
      have d2 := HR.out.dw.done.free 0
      have d3 := HR.out.dw.done.free 1
      go_wp2_with fail
      have hlen : (part 32 X f 3).length = 3 := part_len (by omega)
      refine ⟨ex, ey, f, g, part 32 X f 3, cs, _, _, _, HTL.out, HI.out, ?_, At.intro⟩
      rw [cX_keep (part_K _ _ _), cY_keep (part_K _ _ _), hlen]
      exact ((HR.out.done0 ex).done1 ey).dw

set_option maxRecDepth 1000000 in
set_option maxHeartbeats 4000000 in
theorem stE (X Y : List (List UInt8)) (M : List (Nat × Nat)) (w2 : World) (ax ay : Option Addr) (cax cay n S mc : Nat) (hB : List UInt8) (t : Nat) (HC : Hid (CX X Y M w2 ax ay cax cay))
    (v : Value) (dx dy cx cy b1 sx sy b2 ex ey : Nat) (cs : List (Ck (List UInt8))) (w : World) (H : Hid (DR w2 n S M (hB ++ (cs.map ckText).flatten) v [] dx dy cx cy 0 0 b1 sx sy b2 ex ey w))
    (hex : ex ≤ X.length) (hey : ey ≤ Y.length) (htl : Hid ((ex < X.length ∨ ey < Y.length) → t + 1 < M.length))
    (h1 : Hid ((ex < X.length ∨ ey < Y.length) → 3 ≤ ex ∧ 3 ≤ ey ∧ DInv X Y M (t + 1) ex ey (ex - 3) (ey - 3) (part 32 X (ex - 3) 3) cs))
    (h2 : Hid (¬ (ex < X.length ∨ ey < Y.length) → ∃ F, DFin X Y M cs F))
    (Q : Exit → Act → World → Prop) (hn : ∀ a' w', Cont X Y M w2 ax ay cax cay n S mc hB t a' w' → Q .normal a' w') (h0 : ∀ a' w', Fin X Y M w2 ax ay cax cay n S mc hB a' w' → Q (.exit 0) a' w') (a : Act)
    (ha : At X Y M w2 ax ay cax cay n S mc v (.pointer (some ⟨b1, 0, none⟩)) (.pointer (some ⟨b2, 0, none⟩)) (.int .i64 (t : Int)) a) :
    Code.wp Tryd.prog (tailOf 71) Q a w := by
  refine At.elim (C := fun a => Code.wp Tryd.prog (tailOf 71) Q a w) ?_ ha
  intro c0 c1 c2 c3 c4 c5 c6 c7 c8 c16 c17 c20 c21 c22 c23 c24 c25 c26 c27 c28 c29 c30 c31 c32 c33 c34 c35 c36 c37 c38 c39 c40 c41 c42 c43 c44 c45 c46 c47 c48 c49 c50 c51 c52 c53 c54 c55 c56 c60 c61 c62 c63 c64 c65 c66 c67 c68 c69 c70 c71 c72 c73 c74 c75 c76 c77 c78 c79 c80 c81 c82 c83 c84 c85 c86 c87 c88 c89 c90 c91 c92 c93 c94 c95 c96 c97 c98 c99 c100 c101 c102 c103 c104 c105 c106 c107 c108 c109 c110 c111 c112 c113 c114 c115 c116 c117 c118 c119 c120 c121 c122 c123 c124 c125 c126 c127 c128 c129 c130 c131 c132 c133 c134 c135 c136 c137 c138 c139 c140 c141 c142 c143 c144 c145 c146 c147 c148 c149 c150 c151 c152 c153 c154 c155 c156 c157 c158 c159 c160 c161 c162 c163 c164 c165 c166 c167 c168 c169 c170 c171 c172 c173 c174 c175 c176 c177 c178 c179 c180 c181 c182 c183 c184 c185 c186 c187 c188 c189 c190 c191 c192 c193 c194 c195 c196 c197 c198 c199 c200 c201 c202 c203 c204 c205 c206 c207 c208 c209 c210 c211 c212 c213 c214 c215 c216 c217 c218 c219 c220 c221 c222 c223 c224 c225 c226 c227 c228 c229 c230 c231 c232 c233 c234 c235 c236 c237 c238 c239 c240 c241 c242 c243 c244 c245 c246 c247 c248 c249 c250 c251 c252 c253 c254 c255 c256 c257 c258 c259 c260 c261 c262 c263 c264 c265 c266 c267 c268 c269 c270 c271 c272 c273 c274 c275 c276 c277 c278 c279 c280 c281 c282 c283 c284 c285 c286 c287 c288 c289 c290 c291 c292 c293 c294 c295 c296 c297 c298 c299 c300 c301 c302 c303 c304 c305 c306 c307 c308 c309 c310 c311 c312 c313 c314 c315 c316 c317 c318 c319 c320 c321 c322 c323 c324 c325 c326 c327 c328 c329 c330 c331 c332 c333 c334 c335 c336 c337 c338 c339 c340 c341 c342 c343 c344 c345 c346 c347 c348 c349 c350 c351 c352 c353 c354 c355 c356 c357 c358 c359 c360 c361 c362 c363 c364 c365 c366 c367 c368 c369 c370 c371 c372 c373 c374 c375 c376 c377 c378 c379
  conv => arg 2; whnf
  refine wp_to (Mid X Y M w2 ax ay cax cay n S mc v (.pointer (some ⟨b1, 0, none⟩)) (.pointer (some ⟨b2, 0, none⟩)) (.int .i64 (t : Int)) w (ex < X.length ∨ ey < Y.length)) ?_ ?_
  · have hx := HC.out.hx
    have hy := HC.out.hy
    have e0 := H.out.e.c0
    have e1 := H.out.e.c1
    by_cases hA : X.length ≤ ex
    · by_cases hC : Y.length ≤ ey
      · go_wp2_with fail
        obtain ⟨F, hF⟩ := h2.out (by omega)
        exact ⟨cs, F, _, _, _, _, hF, H.out.dw.ds.buf, H.out.dw.bl, At.intro⟩
      · go_wp2_with fail
        exact ⟨rfl, .inr (by omega), At.intro⟩
    · go_wp2_with fail
      exact ⟨rfl, .inl (by omega), At.intro⟩
  · rintro a' w' ⟨rfl, hc, ha'⟩
    obtain ⟨g1, g2, g3⟩ := h1.out hc
    exact stE2 X Y M w2 ax ay cax cay n S mc hB t HC v dx dy cx cy b1 sx sy b2 ex ey cs w' H hex hey g1 g2 (htl.out hc) (Lib.hid g3) Q hn a' ha'
end Go.Proofs.YtncjclmhdhimdaaDoor
