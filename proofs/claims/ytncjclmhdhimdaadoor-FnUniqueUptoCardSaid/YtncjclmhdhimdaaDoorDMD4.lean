/- The main loop of diff.Diff: the head of a hunk is put out. -/
import Derived.Test.YtncjclmhdhimdaaDoorDMDefs
import Derived.Lib.AppendIntMem
import Derived.Deep.RegionHeld3
namespace Go.Proofs.YtncjclmhdhimdaaDoor
open Go.RowKit

def hdTxt (a b c d : Nat) : List UInt8 := [64, 64, 32, 45] ++ Lib.itoa (a : Int) ++ [44] ++ Lib.itoa (b : Int) ++ [32, 43] ++ Lib.itoa (c : Int) ++ [44] ++ Lib.itoa (d : Int) ++ [32, 64, 64, 10]
def TabB (w2 : World) : Prop := Lib.TabBelow Tryd.prog w2.heap.size w2 "internal/strconv.uint64pow10" .u64 Lib.pow10Tab
theorem itoa_dr {w2 : World} {n S : Nat} {M : List (Nat × Nat)} {out : List UInt8} {v : Value} {ct : Sc (List UInt8)} {dx dy cx cy kx ky b1 x1 y1 b2 x2 y2 : Nat} {w : World} (k : Nat) (I : List UInt8) (hI : Hid (I = Lib.itoa (k : Int))) (hk : k ≤ 1000000) (ht : Hid (TabB w2))
    (h : DR w2 n S M out v ct dx dy cx cy kx ky b1 x1 y1 b2 x2 y2 w) : Calls Tryd.prog 31 #[.int .i64 (k : Int)] w fun e w' => e = .returned (.string (mkB I)) ∧ DR w2 n S M out v ct dx dy cx cy kx ky b1 x1 y1 b2 x2 y2 w' := by
  refine (Tryd.strconv_Itoa (k : Int) (by omega) (by omega) w (ht.out w h.dw.bl)).mono ?_
  rintro e w' ⟨rfl, q, os, rfl⟩
  exact ⟨by rw [hI.out]; rfl, h.below (below_grown_sl w.heap.size w q os (Nat.le_refl _))⟩
theorem write_dr {w2 : World} {n S : Nat} {M : List (Nat × Nat)} {out : List UInt8} {v : Value} {ct : Sc (List UInt8)} {dx dy cx cy kx ky b1 x1 y1 b2 x2 y2 : Nat} {w : World} (l : List UInt8) (hl : out.length + l.length ≤ 140737488355328)
    (h : DR w2 n S M out v ct dx dy cx cy kx ky b1 x1 y1 b2 x2 y2 w) : Calls Tryd.prog 29 #[.pointer (some ⟨w2.heap.size, 0, none⟩), .string (mkB l)] w fun e w' => (∃ r, e = .returned r) ∧ DR w2 n S M (out ++ l) v ct dx dy cx cy kx ky b1 x1 y1 b2 x2 y2 w' := by
  refine (Tryd.Buffer_WriteString_k w2.heap.size w2.heap.size (Lib.byteCells out) (mkB l) w h.dw.ds.buf h.dw.bl.size (by
    intro v hv
    unfold Lib.byteCells at hv
    obtain ⟨b, _, rfl⟩ := List.mem_map.1 hv
    rfl) (by rw [Lib.byteCells_length, mkB_size]; exact hl)).mono ?_
  rintro e w' ⟨rfl, hi, hb, hk⟩
  rw [mkB_toList] at hi
  exact ⟨⟨_, rfl⟩, h.write hi hb hk⟩
theorem dr_cells {w2 : World} {n S : Nat} {M : List (Nat × Nat)} {out : List UInt8} {v : Value} {ct : Sc (List UInt8)} {dx dy cx cy kx ky b1 x1 y1 b2 x2 y2 : Nat} {w : World} (h : DR w2 n S M out v ct dx dy cx cy kx ky b1 x1 y1 b2 x2 y2 w) :
    w.cell? ⟨n + 1, 0, none⟩ = some (.int .i64 (cx : Int)) ∧ w.cell? ⟨n + 1, 1, none⟩ = some (.int .i64 (cy : Int)) ∧ w.cell? ⟨n + 2, 0, none⟩ = some (.int .i64 (kx : Int)) ∧ w.cell? ⟨n + 2, 1, none⟩ = some (.int .i64 (ky : Int)) :=
  ⟨h.dw.chunk.c0, h.dw.chunk.c1, h.dw.count.c0, h.dw.count.c1⟩
theorem itoa_len {k : Nat} (h : k ≤ 1000000) : (Lib.itoa (k : Int)).length ≤ 21 := Lib.itoa_length_le _ (by omega) (by omega)

set_option maxRecDepth 1000000 in
set_option maxHeartbeats 16000000 in
theorem stD4 (X Y : List (List UInt8)) (M : List (Nat × Nat)) (w2 : World) (ax ay : Option Addr) (cax cay n S mc t : Nat) (HT : Hid (TabB w2)) (out : List UInt8) (ct : Sc (List UInt8))
    (dx dy cx cy kx ky b1 sx sy b2 ex ey : Nat) (a : Act) (w : World) (h : MidR X Y M w2 ax ay cax cay n S mc t out ct dx dy cx cy kx ky b1 sx sy b2 ex ey a w) (h1 : cx ≤ 1000000) (h2 : cy ≤ 1000000) (h3 : kx ≤ 1000000) (h4 : ky ≤ 1000000) (ho : out.length ≤ 140000000000000)
    (Q : Exit → Act → World → Prop) (hK : ∀ a' w', MidR X Y M w2 ax ay cax cay n S mc t (out ++ hdTxt cx kx cy ky) ct dx dy cx cy kx ky b1 sx sy b2 ex ey a' w' → Code.wp Tryd.prog (tailOf 63) Q a' w') :
    Code.wp Tryd.prog (tailOf 62) Q a w := by
  obtain ⟨v, h, ha⟩ := h
  have H := Lib.hid h
  clear h
  refine At.elim (C := fun a => Code.wp Tryd.prog (tailOf 62) Q a w) ?_ ha
  intro c0 c1 c2 c3 c4 c5 c6 c7 c8 c16 c17 c20 c21 c22 c23 c24 c25 c26 c27 c28 c29 c30 c31 c32 c33 c34 c35 c36 c37 c38 c39 c40 c41 c42 c43 c44 c45 c46 c47 c48 c49 c50 c51 c52 c53 c54 c55 c56 c60 c61 c62 c63 c64 c65 c66 c67 c68 c69 c70 c71 c72 c73 c74 c75 c76 c77 c78 c79 c80 c81 c82 c83 c84 c85 c86 c87 c88 c89 c90 c91 c92 c93 c94 c95 c96 c97 c98 c99 c100 c101 c102 c103 c104 c105 c106 c107 c108 c109 c110 c111 c112 c113 c114 c115 c116 c117 c118 c119 c120 c121 c122 c123 c124 c125 c126 c127 c128 c129 c130 c131 c132 c133 c134 c135 c136 c137 c138 c139 c140 c141 c142 c143 c144 c145 c146 c147 c148 c149 c150 c151 c152 c153 c154 c155 c156 c157 c158 c159 c160 c161 c162 c163 c164 c165 c166 c167 c168 c169 c170 c171 c172 c173 c174 c175 c176 c177 c178 c179 c180 c181 c182 c183 c184 c185 c186 c187 c188 c189 c190 c191 c192 c193 c194 c195 c196 c197 c198 c199 c200 c201 c202 c203 c204 c205 c206 c207 c208 c209 c210 c211 c212 c213 c214 c215 c216 c217 c218 c219 c220 c221 c222 c223 c224 c225 c226 c227 c228 c229 c230 c231 c232 c233 c234 c235 c236 c237 c238 c239 c240 c241 c242 c243 c244 c245 c246 c247 c248 c249 c250 c251 c252 c253 c254 c255 c256 c257 c258 c259 c260 c261 c262 c263 c264 c265 c266 c267 c268 c269 c270 c271 c272 c273 c274 c275 c276 c277 c278 c279 c280 c281 c282 c283 c284 c285 c286 c287 c288 c289 c290 c291 c292 c293 c294 c295 c296 c297 c298 c299 c300 c301 c302 c303 c304 c305 c306 c307 c308 c309 c310 c311 c312 c313 c314 c315 c316 c317 c318 c319 c320 c321 c322 c323 c324 c325 c326 c327 c328 c329 c330 c331 c332 c333 c334 c335 c336 c337 c338 c339 c340 c341 c342 c343 c344 c345 c346 c347 c348 c349 c350 c351 c352 c353 c354 c355 c356 c357 c358 c359 c360 c361 c362 c363 c364 c365 c366 c367 c368 c369 c370 c371 c372 c373 c374 c375 c376 c377 c378 c379
  conv => arg 2; whnf
  obtain ⟨T, hT⟩ : ∃ T, T = hdTxt cx kx cy ky := ⟨_, rfl⟩
  rw [← hT] at hK
  refine wp_to (MidR X Y M w2 ax ay cax cay n S mc t (out ++ T) ct dx dy cx cy kx ky b1 sx sy b2 ex ey) ?_ (fun a' w' h' => hK a' w' h')
  clear hK
  have q1 := itoa_len h1
  have q2 := itoa_len h2
  have q3 := itoa_len h3
  have q4 := itoa_len h4
  unfold hdTxt at hT
  obtain ⟨I1, e1⟩ : ∃ I, I = Lib.itoa (cx : Int) := ⟨_, rfl⟩
  obtain ⟨I2, e2⟩ : ∃ I, I = Lib.itoa (kx : Int) := ⟨_, rfl⟩
  obtain ⟨I3, e3⟩ : ∃ I, I = Lib.itoa (cy : Int) := ⟨_, rfl⟩
  obtain ⟨I4, e4⟩ : ∃ I, I = Lib.itoa (ky : Int) := ⟨_, rfl⟩
  rw [← e1, ← e2, ← e3, ← e4] at hT
  rw [← e1] at q1
  rw [← e3] at q2
  rw [← e2] at q3
  rw [← e4] at q4
  have E1 := Lib.hid e1
  have E2 := Lib.hid e2
  have E3 := Lib.hid e3
  have E4 := Lib.hid e4
  obtain ⟨t1, ht1⟩ : ∃ t, t = [64, 64, 32, 45] ++ I1 := ⟨_, rfl⟩
  obtain ⟨t2, ht2⟩ : ∃ t, t = t1 ++ [44] := ⟨_, rfl⟩
  obtain ⟨t3, ht3⟩ : ∃ t, t = t2 ++ I2 := ⟨_, rfl⟩
  obtain ⟨t4, ht4⟩ : ∃ t, t = t3 ++ [32, 43] := ⟨_, rfl⟩
  obtain ⟨t5, ht5⟩ : ∃ t, t = t4 ++ I3 := ⟨_, rfl⟩
  obtain ⟨t6, ht6⟩ : ∃ t, t = t5 ++ [44] := ⟨_, rfl⟩
  obtain ⟨t7, ht7⟩ : ∃ t, t = t6 ++ I4 := ⟨_, rfl⟩
  have ht8 : T = t7 ++ [32, 64, 64, 10] := by rw [hT, ht7, ht6, ht5, ht4, ht3, ht2, ht1]
  have l1 : t1.length ≤ 25 := by rw [ht1, List.length_append]; simp; omega
  have l2 : t2.length ≤ 26 := by rw [ht2, List.length_append]; simp; omega
  have l3 : t3.length ≤ 47 := by rw [ht3, List.length_append]; omega
  have l4 : t4.length ≤ 49 := by rw [ht4, List.length_append]; simp; omega
  have l5 : t5.length ≤ 70 := by rw [ht5, List.length_append]; omega
  have l6 : t6.length ≤ 71 := by rw [ht6, List.length_append]; simp; omega
  have l7 : t7.length ≤ 92 := by rw [ht7, List.length_append]; omega
  have l8 : T.length ≤ 96 := by rw [ht8, List.length_append]; simp; omega
  have s1 : ∀ w, (Op.stringOp .add { data := #[64, 64, 32, 45] } (mkB I1)).run Tryd.prog w = .ok (.string (mkB t1)) w := sum_l [64, 64, 32, 45] I1 t1 ht1 (by simp; omega)
  have s2 : ∀ w, (Op.stringOp .add (mkB t1) { data := #[44] }).run Tryd.prog w = .ok (.string (mkB t2)) w := sum_l t1 [44] t2 ht2 (by simp; omega)
  have s3 : ∀ w, (Op.stringOp .add (mkB t2) (mkB I2)).run Tryd.prog w = .ok (.string (mkB t3)) w := sum_l t2 I2 t3 ht3 (by omega)
  have s4 : ∀ w, (Op.stringOp .add (mkB t3) { data := #[32, 43] }).run Tryd.prog w = .ok (.string (mkB t4)) w := sum_l t3 [32, 43] t4 ht4 (by simp; omega)
  have s5 : ∀ w, (Op.stringOp .add (mkB t4) (mkB I3)).run Tryd.prog w = .ok (.string (mkB t5)) w := sum_l t4 I3 t5 ht5 (by omega)
  have s6 : ∀ w, (Op.stringOp .add (mkB t5) { data := #[44] }).run Tryd.prog w = .ok (.string (mkB t6)) w := sum_l t5 [44] t6 ht6 (by simp; omega)
  have s7 : ∀ w, (Op.stringOp .add (mkB t6) (mkB I4)).run Tryd.prog w = .ok (.string (mkB t7)) w := sum_l t6 I4 t7 ht7 (by omega)
  have s8 : ∀ w, (Op.stringOp .add (mkB t7) { data := #[32, 64, 64, 10] }).run Tryd.prog w = .ok (.string (mkB T)) w := sum_l t7 [32, 64, 64, 10] T ht8 (by simp; omega)
  have hoT : out.length + T.length ≤ 140737488355328 := by omega
  clear e1 e2 e3 e4 hT ht1 ht2 ht3 ht4 ht5 ht6 ht7 ht8 q1 q2 q3 q4 l1 l2 l3 l4 l5 l6 l7 l8
  have HA : Hid (DR w2 n S M out v ct dx dy cx cy kx ky b1 sx sy b2 ex ey w.drew) := Lib.hid (H.out.below (Below.refl _ _).drew)
  have tok0 : True := trivial
  have tok1 : True := trivial
  have tok2 : True := trivial
  have tok3 : True := trivial
  go_region_held3 (fun w' => w'.cell? ⟨n + 1, 0, none⟩ = some (.int .i64 (cx : Int)) ∧ w'.cell? ⟨n + 1, 1, none⟩ = some (.int .i64 (cy : Int)) ∧ w'.cell? ⟨n + 2, 0, none⟩ = some (.int .i64 (kx : Int)) ∧ w'.cell? ⟨n + 2, 1, none⟩ = some (.int .i64 (ky : Int)))
    (first | exact dr_cells HF.out | exact dr_cells HE.out | exact dr_cells HD.out | exact dr_cells HC.out | exact dr_cells HB.out | exact dr_cells HA.out)
    (first
      | (have _t := tok0; go_at_call 31; refine (itoa_dr _ _ (by assumption) (by assumption) HT HA.out).mono ?_; rintro e3 w3 ⟨rfl, h3⟩; have HB := Lib.hid h3; clear h3 _t tok0)
      | (have _t := tok1; go_at_call 31; refine (itoa_dr _ _ (by assumption) (by assumption) HT HB.out).mono ?_; rintro e3 w4 ⟨rfl, h3⟩; have HC := Lib.hid h3; clear h3 _t tok1)
      | (have _t := tok2; go_at_call 31; refine (itoa_dr _ _ (by assumption) (by assumption) HT HC.out).mono ?_; rintro e3 w5 ⟨rfl, h3⟩; have HD := Lib.hid h3; clear h3 _t tok2)
      | (have _t := tok3; go_at_call 31; refine (itoa_dr _ _ (by assumption) (by assumption) HT HD.out).mono ?_; rintro e3 w6 ⟨rfl, h3⟩; have HE := Lib.hid h3; clear h3 _t tok3)
      | (go_at_call 29; refine (write_dr T hoT HE.out).mono ?_; rintro e3 w7 ⟨⟨r7, rfl⟩, h3⟩; have HF := Lib.hid h3; clear h3))
  all_goals
    go_wp2_with fail
    exact ⟨_, HF.out, At.intro⟩
end Go.Proofs.YtncjclmhdhimdaaDoor
