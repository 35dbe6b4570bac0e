/- The main loop of diff.Diff: what stands behind the test whether the hunk in hand goes on. -/
import Derived.Test.YtncjclmhdhimdaaDoorDMD
import Derived.Test.YtncjclmhdhimdaaDoorDMD5
namespace Go.Proofs.YtncjclmhdhimdaaDoor
open Go.RowKit

def PE (X Y : List (List UInt8)) (M : List (Nat × Nat)) (t ex ey : Nat) (cs : List (Ck (List UInt8))) : Prop :=
  ((ex < X.length ∨ ey < Y.length) → 3 ≤ ex ∧ 3 ≤ ey ∧ DInv X Y M (t + 1) ex ey (ex - 3) (ey - 3) (part 32 X (ex - 3) 3) cs) ∧ (¬ (ex < X.length ∨ ey < Y.length) → ∃ F, DFin X Y M cs F)

theorem stDo (X Y : List (List UInt8)) (M : List (Nat × Nat)) (w2 : World) (ax ay : Option Addr) (cax cay n S mc t : Nat) (HC : Hid (CX X Y M w2 ax ay cax cay)) (HT : Hid (TabB w2)) (hB : List UInt8) (ct : Sc (List UInt8)) (cs : List (Ck (List UInt8)))
    (dx dy cx cy b1 sx sy b2 ex ey : Nat) (a : Act) (w : World) (h : MidR X Y M w2 ax ay cax cay n S mc t (hB ++ (cs.map ckText).flatten) ct dx dy cx cy (cX ct) (cY ct) b1 sx sy b2 ex ey a w)
    (l1 : sx ≤ ex) (l2 : ex ≤ X.length) (l3 : sy ≤ Y.length) (hcx : cx ≤ 10000) (hcy : cy ≤ 10000) (hct : ct.length ≤ 100000) (hcl : ∀ o ∈ ct, o.2.length ≤ 1048605) (ho : (hB ++ (cs.map ckText).flatten).length ≤ 120000000000000)
    (Q : Exit → Act → World → Prop) (hQ : ∀ a' w', MidR X Y M w2 ax ay cax cay n S mc t (hB ++ ((cs ++ [Ck.mk cx cy (ct ++ part 32 X sx (min 3 (ex - sx)))]).map ckText).flatten) [] (sx + min 3 (ex - sx)) (sy + min 3 (ex - sx))
      (at1 cx (cX (ct ++ part 32 X sx (min 3 (ex - sx))))) (at1 cy (cY (ct ++ part 32 X sx (min 3 (ex - sx))))) 0 0 b1 sx sy b2 ex ey a' w' → Q .normal a' w') : Code.wp Tryd.prog (tailOf 47) Q a w := by
  have hx := HC.out.hx
  have hy := HC.out.hy
  obtain ⟨m, hm⟩ : ∃ m, m = min 3 (ex - sx) := ⟨_, rfl⟩
  have hm3 : m ≤ 3 ∧ sx + m ≤ X.length := by omega
  refine stD1 X Y M w2 ax ay cax cay n S mc t HC _ ct dx dy cx cy _ _ b1 sx sy b2 ex ey a w h l1 l2 Q fun a1 w1 h1 => ?_
  rw [← hm] at h1 hQ
  have g1 : cX ct ≤ ct.length := List.countP_le_length
  have g2 : cY ct ≤ ct.length := List.countP_le_length
  refine stD2 X Y M w2 ax ay cax cay n S mc t m HC _ ct dx dy cx cy _ _ b1 sx sy b2 ex ey a1 w1 h1 (Nat.le_add_right _ _) hm3.2 hct (by omega) (by omega) Q fun a2 w2' h2 => ?_
  have hpl : (part 32 X sx m).length = m := part_len hm3.2
  rw [show sx + m - sx = m by omega] at h2
  obtain ⟨ops, hops⟩ : ∃ ops, ops = ct ++ part 32 X sx m := ⟨_, rfl⟩
  have k1 : cX ct + m = cX ops := by rw [hops, cX_app, cX_keep (part_K _ _ _), hpl]
  have k2 : cY ct + m = cY ops := by rw [hops, cY_app, cY_keep (part_K _ _ _), hpl]
  have hol : ops.length ≤ 100003 := by rw [hops, List.length_append, hpl]; omega
  have hocl : ∀ o ∈ ops, o.2.length ≤ 1048605 := by
    intro o ho
    rw [hops] at ho
    rcases List.mem_append.1 ho with ho | ho
    · exact hcl o ho
    · unfold part at ho
      obtain ⟨z, hz, rfl⟩ := List.mem_map.1 ho
      exact HC.out.sx z (List.mem_of_mem_drop (List.mem_of_mem_take hz))
  rw [k1, k2, ← hops] at h2
  rw [← hops] at hQ
  have g3 : cX ops ≤ ops.length := List.countP_le_length
  have g4 : cY ops ≤ ops.length := List.countP_le_length
  have at_le : ∀ x k : Nat, at1 x k ≤ x + 1 := fun x k => by unfold at1; split <;> omega
  have a1l := at_le cx (cX ops)
  have a2l := at_le cy (cY ops)
  refine stD3a X Y M w2 ax ay cax cay n S mc t m _ ops dx dy cx cy _ _ b1 sx sy b2 ex ey a2 w2' h2 hm3.1 (by omega) (by omega) Q fun a3 w3 h3 => ?_
  refine stD3b X Y M w2 ax ay cax cay n S mc t _ ops _ _ cx cy _ _ b1 sx sy b2 ex ey a3 w3 h3 hcx Q fun a4 w4 h4 => ?_
  refine stD3c X Y M w2 ax ay cax cay n S mc t _ ops _ _ _ cy _ _ b1 sx sy b2 ex ey a4 w4 h4 hcy Q fun a5 w5 h5 => ?_
  refine stD4 X Y M w2 ax ay cax cay n S mc t HT _ ops _ _ _ _ _ _ b1 sx sy b2 ex ey a5 w5 h5 (by omega) (by omega) (by omega) (by omega) (by omega) Q fun a6 w6 h6 => ?_
  have hdl : (hdTxt (at1 cx (cX ops)) (cX ops) (at1 cy (cY ops)) (cY ops)).length ≤ 200 := by
    have z1 := itoa_len (k := at1 cx (cX ops)) (by omega)
    have z2 := itoa_len (k := cX ops) (by omega)
    have z3 := itoa_len (k := at1 cy (cY ops)) (by omega)
    have z4 := itoa_len (k := cY ops) (by omega)
    unfold hdTxt
    simp only [List.length_append, List.length_cons, List.length_nil]
    omega
  refine stD5 X Y M w2 ax ay cax cay n S mc t _ ops _ _ _ _ _ _ b1 sx sy b2 ex ey a6 w6 h6 (by omega) hocl (by rw [List.length_append]; omega) Q fun a7 w7 h7 => ?_
  refine stD6 X Y M w2 ax ay cax cay n S mc t _ ops _ _ _ _ _ _ b1 sx sy b2 ex ey a7 w7 h7 Q fun a8 w8 h8 => hQ a8 w8 ?_
  have he : hB ++ ((cs ++ [Ck.mk cx cy ops]).map ckText).flatten = hB ++ (cs.map ckText).flatten ++ hdTxt (at1 cx (cX ops)) (cX ops) (at1 cy (cY ops)) (cY ops) ++ (cts ops).flatten := by
    rw [List.map_append, List.flatten_append]
    simp only [List.map_cons, List.map_nil, List.flatten_cons, List.flatten_nil, List.append_nil, List.append_assoc]
    rfl
  rw [he]
  exact h8

set_option maxRecDepth 1000000 in
set_option maxHeartbeats 4000000 in
theorem stD (X Y : List (List UInt8)) (M : List (Nat × Nat)) (w2 : World) (ax ay : Option Addr) (cax cay n S mc t : Nat) (HC : Hid (CX X Y M w2 ax ay cax cay)) (HT : Hid (TabB w2)) (hB : List UInt8) (ct : Sc (List UInt8)) (cs : List (Ck (List UInt8)))
    (dx dy cx cy b1 sx sy b2 ex ey : Nat) (a : Act) (w : World) (h : MidR X Y M w2 ax ay cax cay n S mc t (hB ++ (cs.map ckText).flatten) ct dx dy cx cy (cX ct) (cY ct) b1 sx sy b2 ex ey a w)
    (l1 : sx ≤ ex) (l2 : ex ≤ X.length) (l3 : sy ≤ Y.length) (l4 : ey ≤ Y.length) (hcx : cx ≤ 10000) (hcy : cy ≤ 10000) (hct : ct.length ≤ 100000) (hcl : ∀ o ∈ ct, o.2.length ≤ 1048605) (ho : (hB ++ (cs.map ckText).flatten).length ≤ 120000000000000)
    (htl : (ex < X.length ∨ ey < Y.length) → t + 1 < M.length) (hE0 : ct = [] → PE X Y M t ex ey cs) (hE1 : ct ≠ [] → PE X Y M t ex ey (cs ++ [Ck.mk cx cy (ct ++ part 32 X sx (min 3 (ex - sx)))]))
    (Q : Exit → Act → World → Prop) (hn : ∀ a' w', Cont X Y M w2 ax ay cax cay n S mc hB t a' w' → Q .normal a' w') (h0 : ∀ a' w', Fin X Y M w2 ax ay cax cay n S mc hB a' w' → Q (.exit 0) a' w') : Code.wp Tryd.prog (tailOf 46) Q a w := by
  have hmid := h
  obtain ⟨v, h, ha⟩ := h
  have H := Lib.hid h
  have hrow := h.dw.ds.row
  obtain ⟨pv, cv, rfl⟩ := ownsRow_slice hrow
  clear hrow h hmid
  refine At.elim (C := fun a => Code.wp Tryd.prog (tailOf 46) Q a w) ?_ ha
  intro c0 c1 c2 c3 c4 c5 c6 c7 c8 c16 c17 c20 c21 c22 c23 c24 c25 c26 c27 c28 c29 c30 c31 c32 c33 c34 c35 c36 c37 c38 c39 c40 c41 c42 c43 c44 c45 c46 c47 c48 c49 c50 c51 c52 c53 c54 c55 c56 c60 c61 c62 c63 c64 c65 c66 c67 c68 c69 c70 c71 c72 c73 c74 c75 c76 c77 c78 c79 c80 c81 c82 c83 c84 c85 c86 c87 c88 c89 c90 c91 c92 c93 c94 c95 c96 c97 c98 c99 c100 c101 c102 c103 c104 c105 c106 c107 c108 c109 c110 c111 c112 c113 c114 c115 c116 c117 c118 c119 c120 c121 c122 c123 c124 c125 c126 c127 c128 c129 c130 c131 c132 c133 c134 c135 c136 c137 c138 c139 c140 c141 c142 c143 c144 c145 c146 c147 c148 c149 c150 c151 c152 c153 c154 c155 c156 c157 c158 c159 c160 c161 c162 c163 c164 c165 c166 c167 c168 c169 c170 c171 c172 c173 c174 c175 c176 c177 c178 c179 c180 c181 c182 c183 c184 c185 c186 c187 c188 c189 c190 c191 c192 c193 c194 c195 c196 c197 c198 c199 c200 c201 c202 c203 c204 c205 c206 c207 c208 c209 c210 c211 c212 c213 c214 c215 c216 c217 c218 c219 c220 c221 c222 c223 c224 c225 c226 c227 c228 c229 c230 c231 c232 c233 c234 c235 c236 c237 c238 c239 c240 c241 c242 c243 c244 c245 c246 c247 c248 c249 c250 c251 c252 c253 c254 c255 c256 c257 c258 c259 c260 c261 c262 c263 c264 c265 c266 c267 c268 c269 c270 c271 c272 c273 c274 c275 c276 c277 c278 c279 c280 c281 c282 c283 c284 c285 c286 c287 c288 c289 c290 c291 c292 c293 c294 c295 c296 c297 c298 c299 c300 c301 c302 c303 c304 c305 c306 c307 c308 c309 c310 c311 c312 c313 c314 c315 c316 c317 c318 c319 c320 c321 c322 c323 c324 c325 c326 c327 c328 c329 c330 c331 c332 c333 c334 c335 c336 c337 c338 c339 c340 c341 c342 c343 c344 c345 c346 c347 c348 c349 c350 c351 c352 c353 c354 c355 c356 c357 c358 c359 c360 c361 c362 c363 c364 c365 c366 c367 c368 c369 c370 c371 c372 c373 c374 c375 c376 c377 c378 c379
  conv => arg 2; whnf
  obtain ⟨KK, hKK⟩ : ∃ KK : Act → World → Prop, KK = fun a' w' => ∃ (dx dy cx cy : Nat) (cs : List (Ck (List UInt8))), PE X Y M t ex ey cs ∧ MidR X Y M w2 ax ay cax cay n S mc t (hB ++ (cs.map ckText).flatten) [] dx dy cx cy 0 0 b1 sx sy b2 ex ey a' w' := ⟨_, rfl⟩
  refine wp_to KK ?_ (fun a' w' h' => by
    rw [hKK] at h'
    obtain ⟨dx, dy, cx, cy, cs, hpe, v, hr, ha'⟩ := h'
    exact stE X Y M w2 ax ay cax cay n S mc hB t HC v dx dy cx cy b1 sx sy b2 ex ey cs w' (Lib.hid hr) l2 l4 (Lib.hid htl) (Lib.hid hpe.1) (Lib.hid hpe.2) Q hn h0 a' ha')
  have HKK : Hid (∀ a' w' dx dy cx cy cs, PE X Y M t ex ey cs → MidR X Y M w2 ax ay cax cay n S mc t (hB ++ (cs.map ckText).flatten) [] dx dy cx cy 0 0 b1 sx sy b2 ex ey a' w' → KK a' w') := Lib.hid fun a' w' dx dy cx cy cs h1 h2 => by rw [hKK]; exact ⟨dx, dy, cx, cy, cs, h1, h2⟩
  clear hKK hn h0 htl
  by_cases hc : ct = []
  · have HP := Lib.hid (hE0 hc)
    clear hE0 hE1 ho hct hcl
    subst hc
    go_wp2_with fail
    refine HKK.out _ _ dx dy cx cy cs HP.out ?_
    exact ⟨_, H.out, At.intro⟩
  · have HP := Lib.hid (hE1 hc)
    have HO := Lib.hid ho
    have HCL := Lib.hid hcl
    have hpos : 0 < ct.length := List.length_pos_iff.2 hc
    obtain ⟨m, hm⟩ : ∃ m, m = ct.length := ⟨_, rfl⟩
    have HM := Lib.hid hm
    rw [← hm] at H hpos ⊢
    clear hE0 hE1 ho hc hcl hm
    go_upto_if 241 with fail
    refine wp_cond_true rfl ?_
    refine stDo X Y M w2 ax ay cax cay n S mc t HC HT hB ct cs dx dy cx cy b1 sx sy b2 ex ey _ w ⟨_, H.out, At.intro⟩ l1 l2 l3 hcx hcy hct HCL.out HO.out (Exit.then KK Q) fun a' w' h' => ?_
    exact HKK.out _ _ _ _ _ _ _ HP.out h'
end Go.Proofs.YtncjclmhdhimdaaDoor
