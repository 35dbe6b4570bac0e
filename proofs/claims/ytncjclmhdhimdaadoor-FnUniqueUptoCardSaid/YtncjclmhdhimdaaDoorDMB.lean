/- The main loop of diff.Diff: the lines that are taken out, and those that are put in. -/
import Derived.Test.YtncjclmhdhimdaaDoorDMDefs
namespace Go.Proofs.YtncjclmhdhimdaaDoor
open Go.RowKit

set_option maxRecDepth 1000000 in
set_option maxHeartbeats 4000000 in
theorem stB1 (X Y : List (List UInt8)) (M : List (Nat × Nat)) (w2 : World) (ax ay : Option Addr) (cax cay n S mc t : Nat) (HC : Hid (CX X Y M w2 ax ay cax cay))
    (out : List UInt8) (ct : Sc (List UInt8)) (dx dy cx cy kx ky b1 sx sy b2 ex ey : Nat) (a : Act) (w : World) (h : MidR X Y M w2 ax ay cax cay n S mc t out ct dx dy cx cy kx ky b1 sx sy b2 ex ey a w)
    (l1 : dx ≤ sx) (l2 : sx ≤ X.length) (hct : ct.length ≤ 100000) (hkx : kx ≤ 100000)
    (Q : Exit → Act → World → Prop) (hK : ∀ a' w', MidR X Y M w2 ax ay cax cay n S mc t out (ct ++ part 45 X dx (sx - dx)) dx dy cx cy (kx + (sx - dx)) (ky) b1 sx sy b2 ex ey a' w' → Code.wp Tryd.prog (tailOf 31) Q a' w') :
    Code.wp Tryd.prog (tailOf 25) Q a w := by
  obtain ⟨v, h, ha⟩ := h
  have H := Lib.hid h
  clear h
  refine At.elim (C := fun a => Code.wp Tryd.prog (tailOf 25) Q a w) ?_ ha
  intro c0 c1 c2 c3 c4 c5 c6 c7 c8 c16 c17 c20 c21 c22 c23 c24 c25 c26 c27 c28 c29 c30 c31 c32 c33 c34 c35 c36 c37 c38 c39 c40 c41 c42 c43 c44 c45 c46 c47 c48 c49 c50 c51 c52 c53 c54 c55 c56 c60 c61 c62 c63 c64 c65 c66 c67 c68 c69 c70 c71 c72 c73 c74 c75 c76 c77 c78 c79 c80 c81 c82 c83 c84 c85 c86 c87 c88 c89 c90 c91 c92 c93 c94 c95 c96 c97 c98 c99 c100 c101 c102 c103 c104 c105 c106 c107 c108 c109 c110 c111 c112 c113 c114 c115 c116 c117 c118 c119 c120 c121 c122 c123 c124 c125 c126 c127 c128 c129 c130 c131 c132 c133 c134 c135 c136 c137 c138 c139 c140 c141 c142 c143 c144 c145 c146 c147 c148 c149 c150 c151 c152 c153 c154 c155 c156 c157 c158 c159 c160 c161 c162 c163 c164 c165 c166 c167 c168 c169 c170 c171 c172 c173 c174 c175 c176 c177 c178 c179 c180 c181 c182 c183 c184 c185 c186 c187 c188 c189 c190 c191 c192 c193 c194 c195 c196 c197 c198 c199 c200 c201 c202 c203 c204 c205 c206 c207 c208 c209 c210 c211 c212 c213 c214 c215 c216 c217 c218 c219 c220 c221 c222 c223 c224 c225 c226 c227 c228 c229 c230 c231 c232 c233 c234 c235 c236 c237 c238 c239 c240 c241 c242 c243 c244 c245 c246 c247 c248 c249 c250 c251 c252 c253 c254 c255 c256 c257 c258 c259 c260 c261 c262 c263 c264 c265 c266 c267 c268 c269 c270 c271 c272 c273 c274 c275 c276 c277 c278 c279 c280 c281 c282 c283 c284 c285 c286 c287 c288 c289 c290 c291 c292 c293 c294 c295 c296 c297 c298 c299 c300 c301 c302 c303 c304 c305 c306 c307 c308 c309 c310 c311 c312 c313 c314 c315 c316 c317 c318 c319 c320 c321 c322 c323 c324 c325 c326 c327 c328 c329 c330 c331 c332 c333 c334 c335 c336 c337 c338 c339 c340 c341 c342 c343 c344 c345 c346 c347 c348 c349 c350 c351 c352 c353 c354 c355 c356 c357 c358 c359 c360 c361 c362 c363 c364 c365 c366 c367 c368 c369 c370 c371 c372 c373 c374 c375 c376 c377 c378 c379
  conv => arg 2; whnf
  refine wp_to (MidR X Y M w2 ax ay cax cay n S mc t out (ct ++ part 45 X dx (sx - dx)) dx dy cx cy (kx + (sx - dx)) (ky) b1 sx sy b2 ex ey) ?_ (fun a' w' h' => hK a' w' h')
  clear hK
  have hx := HC.out.hx
  have hy := HC.out.hy
  have e0 := H.out.s.c0
  have k0 := H.out.dw.done.c0
  obtain ⟨a', c', hsl, hat⟩ := HC.out.lx.sub HC.out.cx dx sx l1 l2
  obtain ⟨d, hd⟩ : ∃ d, d = sx - dx := ⟨_, rfl⟩
  rw [← hd] at hsl hat ⊢
  have hdl : dx + d ≤ X.length := by omega
  have HAT := Lib.hid hat
  clear hat hd l1 l2
  go_wp2_with fail
  obtain ⟨j0, hi, hz0, hz1, hz2⟩ := info_parts info_line
  go_loopg [15, 145] d (fun g' v i wr => ∃ k : Nat, k ≤ d ∧ i = .int .i64 (k : Int) ∧ d - k ≤ g' ∧ DR w2 n S M out v (ct ++ part 45 X dx k) dx dy cx cy (kx + k) ky b1 sx sy b2 ex ey wr)
  case atStart => exact ⟨0, by omega, rfl, by omega, by rw [part_zero, List.append_nil]; exact H.out⟩
  case round =>
    clear e0 k0 H
    obtain ⟨k, hk, rfl, hkg, hr⟩ := hrel
    have HR := Lib.hid hr
    by_cases hlt : k < d
    · obtain ⟨s, hs⟩ : ∃ s, X[dx + k]? = some s := ⟨_, List.getElem?_eq_getElem (by omega)⟩
      obtain ⟨bq, oq, rfl, hq⟩ := HAT.out k s hlt hs
      have hcell := (hr.dw.bl.cell (p := ⟨bq, oq + k, none⟩) (lt_of_cell hq)).trans hq
      have hsl' := HC.out.sx s (List.mem_of_getElem? hs)
      have hrow := hr.dw.ds.row
      have hlen : (ct ++ part 45 X dx k).length = ct.length + k := by rw [List.length_append, part_len (by omega)]
      have hpn : ct ++ part 45 X dx (k + 1) = (ct ++ part 45 X dx k) ++ [(45, s)] := by rw [part_snoc (s := 45) hs, List.append_assoc]
      rw [hlen] at hrow
      obtain ⟨pv, cv, rfl⟩ := ownsRow_slice hrow
      have HRW := Lib.hid hrow
      have HPN := Lib.hid hpn
      have HLN := Lib.hid hlen
      have s1 : ∀ w, (Op.stringOp .add { data := #[45] } (mkB s)).run Tryd.prog w = .ok (.string (mkB (45 :: s))) w := sum_l [45] s (45 :: s) rfl (by simp; omega)
      obtain ⟨sx1, hsx1⟩ : ∃ x, x = (45 :: s : List UInt8) := ⟨_, rfl⟩
      rw [← hsx1] at s1
      have HSX := Lib.hid hsx1
      have hwz := hr.dw.bl.size
      clear hr hrow hs hq hpn hlen hsx1
      go_wp2_with (at_builtin; refine wpList_append_own_at _ rfl _ _ 26 rfl w2.heap.size 9 j0 _ 1 16 Tryd.underlying26 hi hz0 hz1 hz2 rfl (by decide) _ _ _ rfl (HRW.out.alloc _) ⟨_, 0, none⟩ 1 1 [.string (mkB sx1)] rfl rfl (cell_one_new _ _ _) (by simp [Value.oneCell']) (by unfold maxLen; omega) (by omega) (by simp; omega) ?_; intro v' w3 hown3 hg3 _ hat3; have HA3 : Hid (DR w2 n S M out v' ((ct ++ part 45 X dx k) ++ [(45, s)]) dx dy cx cy (kx + k) ky b1 sx sy b2 ex ey w3) := Lib.hid (HR.out.app (by rw [HLN.out, ← HSX.out]; exact hown3) hg3); have m0 := HA3.out.dw.count.c0; have m2 := HA3.out.dw.count.free 0; clear hown3 hg3 hat3)
      go_roundg (d - (k + 1))
      case rel => exact ⟨k + 1, by omega, by go_num, by omega, by rw [HPN.out]; exact (HA3.out.count0 (kx + k + 1))⟩
      case measure => omega
    · obtain rfl : k = d := by omega
      clear hr
      go_wp2_with fail
      exact ⟨_, HR.out, At.intro⟩

set_option maxRecDepth 1000000 in
set_option maxHeartbeats 4000000 in
theorem stB2 (X Y : List (List UInt8)) (M : List (Nat × Nat)) (w2 : World) (ax ay : Option Addr) (cax cay n S mc t : Nat) (HC : Hid (CX X Y M w2 ax ay cax cay))
    (out : List UInt8) (ct : Sc (List UInt8)) (dx dy cx cy kx ky b1 sx sy b2 ex ey : Nat) (a : Act) (w : World) (h : MidR X Y M w2 ax ay cax cay n S mc t out ct dx dy cx cy kx ky b1 sx sy b2 ex ey a w)
    (l1 : dy ≤ sy) (l2 : sy ≤ Y.length) (hct : ct.length ≤ 100000) (hky : ky ≤ 100000)
    (Q : Exit → Act → World → Prop) (hK : ∀ a' w', MidR X Y M w2 ax ay cax cay n S mc t out (ct ++ part 43 Y dy (sy - dy)) dx dy cx cy (kx) (ky + (sy - dy)) b1 sx sy b2 ex ey a' w' → Code.wp Tryd.prog (tailOf 37) Q a' w') :
    Code.wp Tryd.prog (tailOf 31) Q a w := by
  obtain ⟨v, h, ha⟩ := h
  have H := Lib.hid h
  clear h
  refine At.elim (C := fun a => Code.wp Tryd.prog (tailOf 31) Q a w) ?_ ha
  intro c0 c1 c2 c3 c4 c5 c6 c7 c8 c16 c17 c20 c21 c22 c23 c24 c25 c26 c27 c28 c29 c30 c31 c32 c33 c34 c35 c36 c37 c38 c39 c40 c41 c42 c43 c44 c45 c46 c47 c48 c49 c50 c51 c52 c53 c54 c55 c56 c60 c61 c62 c63 c64 c65 c66 c67 c68 c69 c70 c71 c72 c73 c74 c75 c76 c77 c78 c79 c80 c81 c82 c83 c84 c85 c86 c87 c88 c89 c90 c91 c92 c93 c94 c95 c96 c97 c98 c99 c100 c101 c102 c103 c104 c105 c106 c107 c108 c109 c110 c111 c112 c113 c114 c115 c116 c117 c118 c119 c120 c121 c122 c123 c124 c125 c126 c127 c128 c129 c130 c131 c132 c133 c134 c135 c136 c137 c138 c139 c140 c141 c142 c143 c144 c145 c146 c147 c148 c149 c150 c151 c152 c153 c154 c155 c156 c157 c158 c159 c160 c161 c162 c163 c164 c165 c166 c167 c168 c169 c170 c171 c172 c173 c174 c175 c176 c177 c178 c179 c180 c181 c182 c183 c184 c185 c186 c187 c188 c189 c190 c191 c192 c193 c194 c195 c196 c197 c198 c199 c200 c201 c202 c203 c204 c205 c206 c207 c208 c209 c210 c211 c212 c213 c214 c215 c216 c217 c218 c219 c220 c221 c222 c223 c224 c225 c226 c227 c228 c229 c230 c231 c232 c233 c234 c235 c236 c237 c238 c239 c240 c241 c242 c243 c244 c245 c246 c247 c248 c249 c250 c251 c252 c253 c254 c255 c256 c257 c258 c259 c260 c261 c262 c263 c264 c265 c266 c267 c268 c269 c270 c271 c272 c273 c274 c275 c276 c277 c278 c279 c280 c281 c282 c283 c284 c285 c286 c287 c288 c289 c290 c291 c292 c293 c294 c295 c296 c297 c298 c299 c300 c301 c302 c303 c304 c305 c306 c307 c308 c309 c310 c311 c312 c313 c314 c315 c316 c317 c318 c319 c320 c321 c322 c323 c324 c325 c326 c327 c328 c329 c330 c331 c332 c333 c334 c335 c336 c337 c338 c339 c340 c341 c342 c343 c344 c345 c346 c347 c348 c349 c350 c351 c352 c353 c354 c355 c356 c357 c358 c359 c360 c361 c362 c363 c364 c365 c366 c367 c368 c369 c370 c371 c372 c373 c374 c375 c376 c377 c378 c379
  conv => arg 2; whnf
  refine wp_to (MidR X Y M w2 ax ay cax cay n S mc t out (ct ++ part 43 Y dy (sy - dy)) dx dy cx cy (kx) (ky + (sy - dy)) b1 sx sy b2 ex ey) ?_ (fun a' w' h' => hK a' w' h')
  clear hK
  have hx := HC.out.hx
  have hy := HC.out.hy
  have e0 := H.out.s.c1
  have k0 := H.out.dw.done.c1
  obtain ⟨a', c', hsl, hat⟩ := HC.out.ly.sub HC.out.cy dy sy l1 l2
  obtain ⟨d, hd⟩ : ∃ d, d = sy - dy := ⟨_, rfl⟩
  rw [← hd] at hsl hat ⊢
  have hdl : dy + d ≤ Y.length := by omega
  have HAT := Lib.hid hat
  clear hat hd l1 l2
  go_wp2_with fail
  obtain ⟨j0, hi, hz0, hz1, hz2⟩ := info_parts info_line
  go_loopg [15, 166] d (fun g' v i wr => ∃ k : Nat, k ≤ d ∧ i = .int .i64 (k : Int) ∧ d - k ≤ g' ∧ DR w2 n S M out v (ct ++ part 43 Y dy k) dx dy cx cy kx (ky + k) b1 sx sy b2 ex ey wr)
  case atStart => exact ⟨0, by omega, rfl, by omega, by rw [part_zero, List.append_nil]; exact H.out⟩
  case round =>
    clear e0 k0 H
    obtain ⟨k, hk, rfl, hkg, hr⟩ := hrel
    have HR := Lib.hid hr
    by_cases hlt : k < d
    · obtain ⟨s, hs⟩ : ∃ s, Y[dy + k]? = some s := ⟨_, List.getElem?_eq_getElem (by omega)⟩
      obtain ⟨bq, oq, rfl, hq⟩ := HAT.out k s hlt hs
      have hcell := (hr.dw.bl.cell (p := ⟨bq, oq + k, none⟩) (lt_of_cell hq)).trans hq
      have hsl' := HC.out.sy s (List.mem_of_getElem? hs)
      have hrow := hr.dw.ds.row
      have hlen : (ct ++ part 43 Y dy k).length = ct.length + k := by rw [List.length_append, part_len (by omega)]
      have hpn : ct ++ part 43 Y dy (k + 1) = (ct ++ part 43 Y dy k) ++ [(43, s)] := by rw [part_snoc (s := 43) hs, List.append_assoc]
      rw [hlen] at hrow
      obtain ⟨pv, cv, rfl⟩ := ownsRow_slice hrow
      have HRW := Lib.hid hrow
      have HPN := Lib.hid hpn
      have HLN := Lib.hid hlen
      have s1 : ∀ w, (Op.stringOp .add { data := #[43] } (mkB s)).run Tryd.prog w = .ok (.string (mkB (43 :: s))) w := sum_l [43] s (43 :: s) rfl (by simp; omega)
      obtain ⟨sx1, hsx1⟩ : ∃ x, x = (43 :: s : List UInt8) := ⟨_, rfl⟩
      rw [← hsx1] at s1
      have HSX := Lib.hid hsx1
      have hwz := hr.dw.bl.size
      clear hr hrow hs hq hpn hlen hsx1
      go_wp2_with (at_builtin; refine wpList_append_own_at _ rfl _ _ 26 rfl w2.heap.size 9 j0 _ 1 16 Tryd.underlying26 hi hz0 hz1 hz2 rfl (by decide) _ _ _ rfl (HRW.out.alloc _) ⟨_, 0, none⟩ 1 1 [.string (mkB sx1)] rfl rfl (cell_one_new _ _ _) (by simp [Value.oneCell']) (by unfold maxLen; omega) (by omega) (by simp; omega) ?_; intro v' w3 hown3 hg3 _ hat3; have HA3 : Hid (DR w2 n S M out v' ((ct ++ part 43 Y dy k) ++ [(43, s)]) dx dy cx cy kx (ky + k) b1 sx sy b2 ex ey w3) := Lib.hid (HR.out.app (by rw [HLN.out, ← HSX.out]; exact hown3) hg3); have m1 := HA3.out.dw.count.c1; have m3 := HA3.out.dw.count.free 1; clear hown3 hg3 hat3)
      go_roundg (d - (k + 1))
      case rel => exact ⟨k + 1, by omega, by go_num, by omega, by rw [HPN.out]; exact (HA3.out.count1 (ky + k + 1))⟩
      case measure => omega
    · obtain rfl : k = d := by omega
      clear hr
      go_wp2_with fail
      exact ⟨_, HR.out, At.intro⟩
end Go.Proofs.YtncjclmhdhimdaaDoor
