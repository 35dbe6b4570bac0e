/- The main loop of diff.Diff: a match that is not skipped. -/
import Derived.Test.YtncjclmhdhimdaaDoorDMR
namespace Go.Proofs.YtncjclmhdhimdaaDoor
open Go.RowKit

theorem found_of {X Y : List (List UInt8)} {dx dy sx sy ex ey : Nat} {m : Nat × Nat} (h1 : BackTo X Y dx dy m.1 m.2 sx sy) (h2 : ForeTo X Y m.1 m.2 ex ey) (h3 : Max X Y ex ey) (lx : ex ≤ X.length) (ly : ey ≤ Y.length) :
    ∃ d1 d2, Found X Y dx dy sx sy d1 d2 m ∧ ex = sx + (d1 + d2) ∧ ey = sy + (d1 + d2) := by
  obtain ⟨d1, e1, e2, g1, g2, hb⟩ := h1
  obtain ⟨d2, e3, e4, hf⟩ := h2
  subst e3 e4
  exact ⟨d1, d2, ⟨e1, e2, g1, g2, hb, hf, h3, by omega, by omega⟩, by omega, by omega⟩

set_option maxRecDepth 1000000 in
set_option maxHeartbeats 4000000 in
theorem stM0 (X Y : List (List UInt8)) (M : List (Nat × Nat)) (w2 : World) (ax ay : Option Addr) (cax cay n S mc t : Nat) (out : List UInt8) (ct : Sc (List UInt8))
    (v q : Value) (dx dy cx cy kx ky b0 mx my : Nat) (a : Act) (w : World) (h : DW w2 n S M out v ct dx dy cx cy kx ky w) (hb : bx w b0 mx my) (hn0 : n + 3 ≤ b0)
    (ha : At7 X Y M w2 ax ay cax cay n S mc v (.pointer (some ⟨b0, 0, none⟩)) q (.int .i64 (t : Int)) a)
    (Q : Exit → Act → World → Prop) (hK : ∀ b1 a' w', MidA X Y M w2 ax ay cax cay n S mc t out ct dx dy cx cy kx ky b1 mx my b0 mx my a' w' → Code.wp Tryd.prog (restOf 17) Q a' w') :
    Code.wp Tryd.prog (tailOf 17) Q a w := by
  have H := Lib.hid h
  have HB := Lib.hid hb
  refine At7.elim (C := fun a => Code.wp Tryd.prog (tailOf 17) Q a w) ?_ ha
  intro c0 c1 c2 c3 c4 c5 c6 c7 c8 c16 c19 c20 c21 c22 c23 c24 c25 c26 c27 c28 c29 c30 c31 c32 c33 c34 c35 c36 c37 c38 c39 c40 c41 c42 c43 c44 c45 c46 c47 c48 c49 c50 c51 c52 c53 c54 c55 c56 c60 c61 c62 c63 c64 c65 c66 c67 c68 c69 c70 c71 c72 c73 c74 c75 c76 c77 c78 c79 c80 c81 c82 c83 c84 c85 c86 c87 c88 c89 c90 c91 c92 c93 c94 c95 c96 c97 c98 c99 c100 c101 c102 c103 c104 c105 c106 c107 c108 c109 c110 c111 c112 c113 c114 c115 c116 c117 c118 c119 c120 c121 c122 c123 c124 c125 c126 c127 c128 c129 c130 c131 c132 c133 c134 c135 c136 c137 c138 c139 c140 c141 c142 c143 c144 c145 c146 c147 c148 c149 c150 c151 c152 c153 c154 c155 c156 c157 c158 c159 c160 c161 c162 c163 c164 c165 c166 c167 c168 c169 c170 c171 c172 c173 c174 c175 c176 c177 c178 c179 c180 c181 c182 c183 c184 c185 c186 c187 c188 c189 c190 c191 c192 c193 c194 c195 c196 c197 c198 c199 c200 c201 c202 c203 c204 c205 c206 c207 c208 c209 c210 c211 c212 c213 c214 c215 c216 c217 c218 c219 c220 c221 c222 c223 c224 c225 c226 c227 c228 c229 c230 c231 c232 c233 c234 c235 c236 c237 c238 c239 c240 c241 c242 c243 c244 c245 c246 c247 c248 c249 c250 c251 c252 c253 c254 c255 c256 c257 c258 c259 c260 c261 c262 c263 c264 c265 c266 c267 c268 c269 c270 c271 c272 c273 c274 c275 c276 c277 c278 c279 c280 c281 c282 c283 c284 c285 c286 c287 c288 c289 c290 c291 c292 c293 c294 c295 c296 c297 c298 c299 c300 c301 c302 c303 c304 c305 c306 c307 c308 c309 c310 c311 c312 c313 c314 c315 c316 c317 c318 c319 c320 c321 c322 c323 c324 c325 c326 c327 c328 c329 c330 c331 c332 c333 c334 c335 c336 c337 c338 c339 c340 c341 c342 c343 c344 c345 c346 c347 c348 c349 c350 c351 c352 c353 c354 c355 c356 c357 c358 c359 c360 c361 c362 c363 c364 c365 c366 c367 c368 c369 c370 c371 c372 c373 c374 c375 c376 c377 c378 c379
  conv => arg 2; whnf
  obtain ⟨KK, hKK⟩ : ∃ KK : Act → World → Prop, KK = fun a' w' => ∃ b1, MidA X Y M w2 ax ay cax cay n S mc t out ct dx dy cx cy kx ky b1 mx my b0 mx my a' w' := ⟨_, rfl⟩
  refine wp_to KK ?_ (fun a' w' h' => by
    rw [hKK] at h'
    obtain ⟨b1, h1⟩ := h'
    exact hK b1 a' w' h1)
  have HKK : Hid (∀ b1 a' w', MidA X Y M w2 ax ay cax cay n S mc t out ct dx dy cx cy kx ky b1 mx my b0 mx my a' w' → KK a' w') := Lib.hid fun b1 a' w' h1 => by rw [hKK]; exact ⟨b1, h1⟩
  clear hK hKK h hb
  have e0 := HB.out.c0
  have e1 := HB.out.c1
  have hlt := HB.out.lt
  go_wp2_with fail
  have hbl : Below w.heap.size w (w.alloc (.cells #[.int .i64 (mx : Int), .int .i64 (my : Int)] 60)) := (Below.refl _ _).alloc (Nat.le_refl _) _
  exact HKK.out w.heap.size _ _ ⟨_, ⟨H.out.below hbl, bx.new w mx my, HB.out.below hbl, by omega, hn0⟩, by omega, At7.intro⟩

theorem stM (X Y : List (List UInt8)) (M : List (Nat × Nat)) (w2 : World) (ax ay : Option Addr) (cax cay n S mc t : Nat) (HC : Hid (CX X Y M w2 ax ay cax cay)) (HT : Hid (TabB w2)) (hB : List UInt8) (hBl : hB.length ≤ 10000000000) (ct : Sc (List UInt8)) (cs : List (Ck (List UInt8))) (m : Nat × Nat)
    (v q : Value) (dx dy cx cy b0 : Nat) (a : Act) (w : World) (h : DW w2 n S M (hB ++ (cs.map ckText).flatten) v ct dx dy cx cy (cX ct) (cY ct) w) (hb : bx w b0 m.1 m.2) (hn0 : n + 3 ≤ b0)
    (ha : At7 X Y M w2 ax ay cax cay n S mc v (.pointer (some ⟨b0, 0, none⟩)) q (.int .i64 (t : Int)) a) (hm : M[t]? = some m) (hI : DInv X Y M t dx dy cx cy ct cs) (hlt : ¬ m.1 < dx)
    (Q : Exit → Act → World → Prop) (hn : ∀ a' w', Cont X Y M w2 ax ay cax cay n S mc hB t a' w' → Q .normal a' w') (h1 : ∀ a' w', Cont X Y M w2 ax ay cax cay n S mc hB t a' w' → Q (.exit 1) a' w') (h0 : ∀ a' w', Fin X Y M w2 ax ay cax cay n S mc hB a' w' → Q (.exit 0) a' w') :
    Code.wp Tryd.prog (tailOf 17) Q a w := by
  have hM := HC.out.mt
  have htl : t < M.length := (List.getElem?_eq_some_iff.1 hm).1
  obtain ⟨s1, s2, s3, s4, s5⟩ := hI.sizes ⟨HC.out.hx, HC.out.hy, HC.out.sx, HC.out.sy⟩
  have hx := HC.out.hx
  have hy := HC.out.hy
  have ly : dy ≤ m.2 := by
    rcases Nat.lt_or_ge m.2 dy with h2 | h2
    · exact absurd (hI.on hM hm (.inr h2)).2.2.1 hlt
    · exact h2
  have hmX : m.1 ≤ X.length ∧ m.2 ≤ Y.length := by
    obtain ⟨e, he⟩ : ∃ e, M[M.length - 1]? = some e := ⟨_, List.getElem?_eq_getElem (by omega)⟩
    have h2 := hM.last (M.length - 1) e he (by omega)
    have h3 := hM.rise t (M.length - 1) m e hm he (by omega)
    rw [h2] at h3
    exact h3
  refine stM0 X Y M w2 ax ay cax cay n S mc t _ ct v q dx dy cx cy _ _ b0 m.1 m.2 a w h hb hn0 ha Q fun b1 a1 w1 k1 => ?_
  refine stA1 X Y M w2 ax ay cax cay n S mc t HC _ ct dx dy cx cy _ _ b1 b0 m.1 m.2 a1 w1 k1 (by omega) ly hmX.1 hmX.2 Q fun sx sy a2 w2' hback k2 => ?_
  refine stA2 X Y M w2 ax ay cax cay n S mc t _ ct dx dy cx cy _ _ b1 sx sy b0 m.1 m.2 a2 w2' k2 Q fun b2 a3 w3 hne k3 => ?_
  refine stA3 X Y M w2 ax ay cax cay n S mc t HC _ ct dx dy cx cy _ _ b1 sx sy b2 m.1 m.2 a3 w3 k3 hne hmX.1 hmX.2 Q fun ex ey a4 w4 hfore lex ley hmax k4 => ?_
  obtain ⟨d1, d2, hf, e1, e2⟩ := found_of hback hfore hmax lex ley
  have lsx := hf.lx
  have lsy := hf.ly
  refine stB1 X Y M w2 ax ay cax cay n S mc t HC _ ct dx dy cx cy _ _ b1 sx sy b2 ex ey a4 w4 k4 lsx (by omega) (by omega) (by have : cX ct ≤ ct.length := List.countP_le_length; omega) Q fun a5 w5 k5 => ?_
  have pl : (part 45 X dx (sx - dx)).length = sx - dx := part_len (by omega)
  have pl2 : (part 43 Y dy (sy - dy)).length = sy - dy := part_len (by omega)
  refine stB2 X Y M w2 ax ay cax cay n S mc t HC _ _ dx dy cx cy _ _ b1 sx sy b2 ex ey a5 w5 k5 lsy (by omega) (by rw [List.length_append]; omega) (by have : cY ct ≤ ct.length := List.countP_le_length; omega) Q fun a6 w6 k6 => ?_
  rw [List.append_assoc] at k6
  have c1 : cX (part 45 X dx (sx - dx)) = sx - dx := by
    have := (Path.dels (X := X) Y 0 (sx - dx) dx (by omega)).ends.1
    omega
  have c2 : cY (part 45 X dx (sx - dx)) = 0 := by
    have := (Path.dels (X := X) Y 0 (sx - dx) dx (by omega)).ends.2
    omega
  have c3 : cX (part 43 Y dy (sy - dy)) = 0 := by
    have := (Path.inss (Y := Y) X 0 (sy - dy) dy (by omega)).ends.1
    omega
  have c4 : cY (part 43 Y dy (sy - dy)) = sy - dy := by
    have := (Path.inss (Y := Y) X 0 (sy - dy) dy (by omega)).ends.2
    omega
  obtain ⟨cg, hcg⟩ : ∃ cg, cg = ct ++ chg X Y dx dy sx sy := ⟨_, rfl⟩
  have g1 : cX ct + (sx - dx) = cX cg := by rw [hcg]; unfold chg; rw [cX_app, cX_app, c1, c3]; omega
  have g2 : cY ct + (sy - dy) = cY cg := by rw [hcg]; unfold chg; rw [cY_app, cY_app, c2, c4]; omega
  have g3 : cg.length ≤ 40000 := by rw [hcg]; unfold chg; rw [List.length_append, List.length_append, pl, pl2]; omega
  have g4 : ∀ o ∈ cg, o.2.length ≤ 1048605 := by
    intro o ho
    rw [hcg] at ho
    unfold chg part at ho
    rcases List.mem_append.1 ho with ho | ho
    · exact s4 o ho
    · rcases List.mem_append.1 ho with ho | ho
      · obtain ⟨z, hz, rfl⟩ := List.mem_map.1 ho
        exact HC.out.sx z (List.mem_of_mem_drop (List.mem_of_mem_take hz))
      · obtain ⟨z, hz, rfl⟩ := List.mem_map.1 ho
        exact HC.out.sy z (List.mem_of_mem_drop (List.mem_of_mem_take hz))
  rw [show ct ++ (part 45 X dx (sx - dx) ++ part 43 Y dy (sy - dy)) = cg by rw [hcg]; rfl, g1, g2] at k6
  have ed : ex - sx = d1 + d2 := by omega
  have hnx : (ex < X.length ∨ ey < Y.length) ↔ (sx + (d1 + d2) < X.length ∨ sy + (d1 + d2) < Y.length) := by rw [e1, e2]
  have hlast : (ex < X.length ∨ ey < Y.length) → t + 1 < M.length := fun hh => by
    rcases Nat.lt_or_ge (t + 1) M.length with h2 | h2
    · exact h2
    · have := hM.last t m hm (by omega)
      have f1 := hf.ex
      have f2 := hf.ey
      rw [this] at f1 f2
      simp only at f1 f2
      omega
  refine stC X Y M w2 ax ay cax cay n S mc t HC hB cg cs dx dy cx cy _ _ b1 sx sy b2 ex ey a6 w6 k6 (by omega) lex ley (by omega) rfl rfl hlast (Lib.hid fun hh hc _ => ?_) Q h1 fun hP a7 w7 k7 => ?_
  · have := hI.cont hM hm hf (hnx.1 hh) (by rw [← hcg, ← ed]; exact hc)
    rw [← hcg, ← e1, ← e2] at this
    rw [ed]
    exact this
  · refine stD X Y M w2 ax ay cax cay n S mc t HC HT hB cg cs dx dy cx cy b1 sx sy b2 ex ey a7 w7 k7 (by omega) lex (by omega) ley s1 s2 (by omega) g4 (by rw [List.length_append]; omega) hlast (fun hz => ⟨fun hh => ?_, fun hh => ?_⟩) (fun hz => ⟨fun hh => ?_, fun hh => ?_⟩) Q hn h0
    · have h3 : 3 ≤ d1 + d2 := by
        rcases Nat.lt_or_ge (d1 + d2) 3 with h4 | h4
        · exact absurd ⟨hh, .inl (by omega)⟩ hP
        · exact h4
      have := hI.fresh hM hm hf (hnx.1 hh) (by rw [← hcg]; exact hz) h3
      rw [← e1, ← e2] at this
      exact ⟨by omega, by omega, this⟩
    · exact hI.none hM hm hf (fun h4 => hh (hnx.2 h4)) (by rw [← hcg]; exact hz)
    · have h6 : 6 ≤ d1 + d2 := by
        rcases Nat.lt_or_ge (d1 + d2) 6 with h4 | h4
        · exact absurd ⟨hh, .inr ⟨hz, by omega⟩⟩ hP
        · exact h4
      have := hI.emit hM hm hf (hnx.1 hh) (by rw [← hcg]; exact hz) h6
      rw [← hcg, ← e1, ← e2] at this
      rw [show min 3 (ex - sx) = 3 by omega]
      exact ⟨by omega, by omega, this⟩
    · have := hI.last hM hm hf (fun h4 => hh (hnx.2 h4)) (by rw [← hcg]; exact hz) (n := min 3 (ex - sx)) (by omega) (by omega)
      rw [← hcg] at this
      exact this
end Go.Proofs.YtncjclmhdhimdaaDoor
