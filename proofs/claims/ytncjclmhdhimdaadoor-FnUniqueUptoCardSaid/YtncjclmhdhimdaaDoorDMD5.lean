/- The main loop of diff.Diff: the lines of a hunk are put out; no line is in hand then. -/
import Derived.Test.YtncjclmhdhimdaaDoorDMD4
namespace Go.Proofs.YtncjclmhdhimdaaDoor
open Go.RowKit

theorem cts_get {ct : Sc (List UInt8)} {k : Nat} {o : UInt8 × List UInt8} (h : ct[k]? = some o) : (strs (cts ct))[k]? = some (.string (mkB (o.1 :: o.2))) := by simp [strs, cts, h]
theorem cts_take {ct : Sc (List UInt8)} {k : Nat} {o : UInt8 × List UInt8} (h : ct[k]? = some o) : (cts (ct.take (k + 1))).flatten = (cts (ct.take k)).flatten ++ (o.1 :: o.2) := by
  rw [List.take_add_one, h]
  simp [cts]
theorem cts_bound : ∀ (ct : Sc (List UInt8)), (∀ o ∈ ct, o.2.length ≤ 1048605) → (cts ct).flatten.length ≤ ct.length * 1048606 := by
  intro ct
  induction ct with
  | nil => intro _; simp [cts]
  | cons o ct ih =>
    intro h
    have := ih fun p hp => h p (List.mem_cons_of_mem _ hp)
    have := h o (List.mem_cons_self ..)
    simp [cts] at *
    omega

set_option maxRecDepth 1000000 in
set_option maxHeartbeats 4000000 in
theorem stD5 (X Y : List (List UInt8)) (M : List (Nat × Nat)) (w2 : World) (ax ay : Option Addr) (cax cay n S mc t : Nat) (out : List UInt8) (ct : Sc (List UInt8))
    (dx dy cx cy kx ky b1 sx sy b2 ex ey : Nat) (a : Act) (w : World) (h : MidR X Y M w2 ax ay cax cay n S mc t out ct dx dy cx cy kx ky b1 sx sy b2 ex ey a w) (hct : ct.length ≤ 1000000) (hcl : ∀ o ∈ ct, o.2.length ≤ 1048605) (ho : out.length ≤ 130000000000000)
    (Q : Exit → Act → World → Prop) (hK : ∀ a' w', MidR X Y M w2 ax ay cax cay n S mc t (out ++ (cts ct).flatten) ct dx dy cx cy kx ky b1 sx sy b2 ex ey a' w' → Code.wp Tryd.prog (tailOf 68) Q a' w') :
    Code.wp Tryd.prog (tailOf 63) Q a w := by
  obtain ⟨v, h, ha⟩ := h
  have H := Lib.hid h
  have hrow := h.dw.ds.row
  obtain ⟨pv, cv, rfl⟩ := ownsRow_slice hrow
  clear hrow h
  refine At.elim (C := fun a => Code.wp Tryd.prog (tailOf 63) Q a w) ?_ ha
  intro c0 c1 c2 c3 c4 c5 c6 c7 c8 c16 c17 c20 c21 c22 c23 c24 c25 c26 c27 c28 c29 c30 c31 c32 c33 c34 c35 c36 c37 c38 c39 c40 c41 c42 c43 c44 c45 c46 c47 c48 c49 c50 c51 c52 c53 c54 c55 c56 c60 c61 c62 c63 c64 c65 c66 c67 c68 c69 c70 c71 c72 c73 c74 c75 c76 c77 c78 c79 c80 c81 c82 c83 c84 c85 c86 c87 c88 c89 c90 c91 c92 c93 c94 c95 c96 c97 c98 c99 c100 c101 c102 c103 c104 c105 c106 c107 c108 c109 c110 c111 c112 c113 c114 c115 c116 c117 c118 c119 c120 c121 c122 c123 c124 c125 c126 c127 c128 c129 c130 c131 c132 c133 c134 c135 c136 c137 c138 c139 c140 c141 c142 c143 c144 c145 c146 c147 c148 c149 c150 c151 c152 c153 c154 c155 c156 c157 c158 c159 c160 c161 c162 c163 c164 c165 c166 c167 c168 c169 c170 c171 c172 c173 c174 c175 c176 c177 c178 c179 c180 c181 c182 c183 c184 c185 c186 c187 c188 c189 c190 c191 c192 c193 c194 c195 c196 c197 c198 c199 c200 c201 c202 c203 c204 c205 c206 c207 c208 c209 c210 c211 c212 c213 c214 c215 c216 c217 c218 c219 c220 c221 c222 c223 c224 c225 c226 c227 c228 c229 c230 c231 c232 c233 c234 c235 c236 c237 c238 c239 c240 c241 c242 c243 c244 c245 c246 c247 c248 c249 c250 c251 c252 c253 c254 c255 c256 c257 c258 c259 c260 c261 c262 c263 c264 c265 c266 c267 c268 c269 c270 c271 c272 c273 c274 c275 c276 c277 c278 c279 c280 c281 c282 c283 c284 c285 c286 c287 c288 c289 c290 c291 c292 c293 c294 c295 c296 c297 c298 c299 c300 c301 c302 c303 c304 c305 c306 c307 c308 c309 c310 c311 c312 c313 c314 c315 c316 c317 c318 c319 c320 c321 c322 c323 c324 c325 c326 c327 c328 c329 c330 c331 c332 c333 c334 c335 c336 c337 c338 c339 c340 c341 c342 c343 c344 c345 c346 c347 c348 c349 c350 c351 c352 c353 c354 c355 c356 c357 c358 c359 c360 c361 c362 c363 c364 c365 c366 c367 c368 c369 c370 c371 c372 c373 c374 c375 c376 c377 c378 c379
  conv => arg 2; whnf
  refine wp_to (MidR X Y M w2 ax ay cax cay n S mc t (out ++ (cts ct).flatten) ct dx dy cx cy kx ky b1 sx sy b2 ex ey) ?_ (fun a' w' h' => hK a' w' h')
  clear hK
  have HCL := Lib.hid hcl
  have HCB : Hid (∀ k, k ≤ ct.length → (cts (ct.take k)).flatten.length ≤ 1048606000000) := Lib.hid fun k hk => by
    have := cts_bound (ct.take k) fun o ho => hcl o (List.mem_of_mem_take ho)
    have hl : (ct.take k).length ≤ 1000000 := by rw [List.length_take]; omega
    omega
  clear hcl
  obtain ⟨m, hm⟩ : ∃ m, m = ct.length := ⟨_, rfl⟩
  rw [← hm] at hct H ⊢
  have HM := Lib.hid hm
  clear hm
  go_wp2_with fail
  go_loopg [322] m (fun g' i wr => ∃ k : Nat, k ≤ m ∧ i = .int .i64 (k : Int) ∧ m - k ≤ g' ∧ DR w2 n S M (out ++ (cts (ct.take k)).flatten) (.slice pv m cv) ct dx dy cx cy kx ky b1 sx sy b2 ex ey wr)
  case atStart => exact ⟨0, by omega, rfl, by omega, by rw [List.take_zero, show (cts ([] : Sc (List UInt8))).flatten = [] from rfl, List.append_nil]; exact H.out⟩
  case round =>
    clear H
    obtain ⟨k, hk, rfl, hkg, hr⟩ := hrel
    have HR := Lib.hid hr
    by_cases hlt : k < m
    · obtain ⟨o, hs⟩ : ∃ o, ct[k]? = some o := ⟨_, List.getElem?_eq_getElem (by have := HM.out; omega)⟩
      have hrow := hr.dw.ds.row
      rw [← HM.out] at hrow
      obtain ⟨g, rfl, _, _, hc⟩ := ownsRow_at hrow (by omega)
      have hcell := hc k _ (cts_get hs)
      obtain ⟨l, hl⟩ : ∃ l, l = o.1 :: o.2 := ⟨_, rfl⟩
      rw [← hl] at hcell
      have HL := Lib.hid hl
      have HS := Lib.hid hs
      have hbd : (out ++ (cts (ct.take k)).flatten).length + l.length ≤ 140737488355328 := by
        have z1 := HCB.out k (by have := HM.out; omega)
        have z2 := HCL.out o (List.mem_of_getElem? hs)
        rw [List.length_append, hl, List.length_cons]
        omega
      have HBD := Lib.hid hbd
      clear hr hrow hc hs hl hbd
      go_wp2_with fail
      refine (write_dr l HBD.out HR.out).mono ?_
      rintro e3 w3 ⟨⟨r, rfl⟩, h3⟩
      have HR3 := Lib.hid h3
      clear h3
      go_wp2_with fail
      go_roundg (m - (k + 1))
      case rel => exact ⟨k + 1, by omega, by go_num, by omega, by rw [cts_take HS.out, ← HL.out, ← List.append_assoc]; exact HR3.out⟩
      case measure => omega
    · obtain rfl : k = m := by omega
      have HR2 : Hid (DR w2 n S M (out ++ (cts ct).flatten) (.slice pv k cv) ct dx dy cx cy kx ky b1 sx sy b2 ex ey wr) := Lib.hid (by have := HR.out; rwa [HM.out, List.take_length, ← HM.out] at this)
      clear hr
      go_wp2_with fail
      exact ⟨_, HR2.out, At.intro⟩

set_option maxRecDepth 1000000 in
set_option maxHeartbeats 4000000 in
theorem stD6 (X Y : List (List UInt8)) (M : List (Nat × Nat)) (w2 : World) (ax ay : Option Addr) (cax cay n S mc t : Nat) (out : List UInt8) (ct : Sc (List UInt8))
    (dx dy cx cy kx ky b1 sx sy b2 ex ey : Nat) (a : Act) (w : World) (h : MidR X Y M w2 ax ay cax cay n S mc t out ct dx dy cx cy kx ky b1 sx sy b2 ex ey a w)
    (Q : Exit → Act → World → Prop) (hQ : ∀ a' w', MidR X Y M w2 ax ay cax cay n S mc t out [] dx dy cx cy 0 0 b1 sx sy b2 ex ey a' w' → Q .normal a' w') :
    Code.wp Tryd.prog (tailOf 68) Q a w := by
  obtain ⟨v, h, ha⟩ := h
  have H := Lib.hid h
  have hrow := h.dw.ds.row
  obtain ⟨pv, cv, rfl⟩ := ownsRow_slice hrow
  clear hrow h
  refine At.elim (C := fun a => Code.wp Tryd.prog (tailOf 68) Q a w) ?_ ha
  intro c0 c1 c2 c3 c4 c5 c6 c7 c8 c16 c17 c20 c21 c22 c23 c24 c25 c26 c27 c28 c29 c30 c31 c32 c33 c34 c35 c36 c37 c38 c39 c40 c41 c42 c43 c44 c45 c46 c47 c48 c49 c50 c51 c52 c53 c54 c55 c56 c60 c61 c62 c63 c64 c65 c66 c67 c68 c69 c70 c71 c72 c73 c74 c75 c76 c77 c78 c79 c80 c81 c82 c83 c84 c85 c86 c87 c88 c89 c90 c91 c92 c93 c94 c95 c96 c97 c98 c99 c100 c101 c102 c103 c104 c105 c106 c107 c108 c109 c110 c111 c112 c113 c114 c115 c116 c117 c118 c119 c120 c121 c122 c123 c124 c125 c126 c127 c128 c129 c130 c131 c132 c133 c134 c135 c136 c137 c138 c139 c140 c141 c142 c143 c144 c145 c146 c147 c148 c149 c150 c151 c152 c153 c154 c155 c156 c157 c158 c159 c160 c161 c162 c163 c164 c165 c166 c167 c168 c169 c170 c171 c172 c173 c174 c175 c176 c177 c178 c179 c180 c181 c182 c183 c184 c185 c186 c187 c188 c189 c190 c191 c192 c193 c194 c195 c196 c197 c198 c199 c200 c201 c202 c203 c204 c205 c206 c207 c208 c209 c210 c211 c212 c213 c214 c215 c216 c217 c218 c219 c220 c221 c222 c223 c224 c225 c226 c227 c228 c229 c230 c231 c232 c233 c234 c235 c236 c237 c238 c239 c240 c241 c242 c243 c244 c245 c246 c247 c248 c249 c250 c251 c252 c253 c254 c255 c256 c257 c258 c259 c260 c261 c262 c263 c264 c265 c266 c267 c268 c269 c270 c271 c272 c273 c274 c275 c276 c277 c278 c279 c280 c281 c282 c283 c284 c285 c286 c287 c288 c289 c290 c291 c292 c293 c294 c295 c296 c297 c298 c299 c300 c301 c302 c303 c304 c305 c306 c307 c308 c309 c310 c311 c312 c313 c314 c315 c316 c317 c318 c319 c320 c321 c322 c323 c324 c325 c326 c327 c328 c329 c330 c331 c332 c333 c334 c335 c336 c337 c338 c339 c340 c341 c342 c343 c344 c345 c346 c347 c348 c349 c350 c351 c352 c353 c354 c355 c356 c357 c358 c359 c360 c361 c362 c363 c364 c365 c366 c367 c368 c369 c370 c371 c372 c373 c374 c375 c376 c377 c378 c379
  conv => arg 2; whnf
  have e0 := H.out.dw.count.c0
  have e1 := H.out.dw.count.c1
  have e2 := H.out.dw.count.free 0
  have e3 := H.out.dw.count.free 1
  go_wp2_with fail
  exact ⟨_, ((H.out.clear).count0 0).count1 0, At.intro⟩
end Go.Proofs.YtncjclmhdhimdaaDoor
