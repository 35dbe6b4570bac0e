/- The reference's ReadDiff: a hunk; all hunks. -/
import Derived.Test.YtncjclmhdhimdaaDoorDRD2
namespace Go.Proofs.YtncjclmhdhimdaaDoor
open Go.RowKit

theorem ownsRow_base {w : World} {B B' : Nat} {e : TypeId} {s n : Nat} {v : Value} {xs : List Value} (h : w.ownsRow B e s v n xs) (hle : B' ≤ B) : w.ownsRow B' e s v n xs := by
  refine ⟨h.1, ?_⟩
  rcases h.2 with hn | ⟨g, cap, cur, hv, hb, rest⟩
  · exact .inl hn
  · exact .inr ⟨g, cap, cur, hv, Nat.le_trans hle hb, rest⟩
theorem info_hunk : (Tryd.prog.info? 28).map (fun i => (i.zero, i.size, i.bytes)) = some (some (.agg #[.int .i64 0, .int .i64 0, .slice none 0 0]), 3, 40) := by kernel_rfl
structure CkOk (c : Hk) : Prop where
  x : c.x ≤ 1000000
  y : c.y ≤ 1000000
  n : c.ops.length ≤ 1000000
  ops : ∀ o ∈ c.ops, okOp o ∧ o.2.length ≤ 1099511627776
theorem cells_three (w : World) (x y u : Value) (t : TypeId) : ∀ j z, [x, y, u][j]? = some z → (w.alloc (.cells #[x, y, u] t)).cell? ((⟨w.heap.size, 0, none⟩ : Addr).add j) = some z := by
  intro j z hz
  rw [addr_plus, Nat.zero_add]
  exact cell_at (heap_new _ _ rfl) z (by rw [← hz]; simp)
/- behind a hunk's lines -/
def MidK (L : List (List UInt8)) (o n : List UInt8) (w1 wq : World) (b0 o0 cl B bh : Nat) (v : Value) (c : Hk) (cs : List Hk) (a : Act) (w : World) : Prop :=
  ∃ (p : Nat) (u ln : Value), L.drop p = cs.flatMap ckLns ∧ p ≤ L.length ∧ RdAt L w1 wq w b0 o0 cl B bh c.x c.y u c.ops ∧ AtR L o n b0 o0 cl (.int .i64 (p : Int)) v (.pointer (some ⟨bh, 0, none⟩)) (.int .i64 0) (.int .i64 0) ln a
/- what a hunk leaves -/
def RdO (L : List (List UInt8)) (o n : List UInt8) (w1 : World) (b0 o0 cl : Nat) (cs : List Hk) (g : Nat) (a : Act) (w : World) : Prop :=
  ∃ (dn rm : List Hk) (us : List Value) (p : Nat) (v h m k ln : Value), cs = dn ++ rm ∧ rm.length ≤ g ∧ L.drop p = rm.flatMap ckLns ∧ p ≤ L.length ∧ HRow w w1.heap.size v dn us ∧ Below w1.heap.size w1 w ∧ AtR L o n b0 o0 cl (.int .i64 (p : Int)) v h m k ln a

set_option maxRecDepth 1000000 in
set_option maxHeartbeats 8000000 in
theorem rdE (L : List (List UInt8)) (o n : List UInt8) (w1 wq : World) (b0 o0 cl bh : Nat) (v : Value) (c : Hk) (dn rm : List Hk) (us : List Value) (a : Act) (w : World) (hR : HRow wq w1.heap.size v dn us) (hdn : dn.length ≤ 1000000) (hsz : w1.heap.size ≤ wq.heap.size)
    (h : MidK L o n w1 wq b0 o0 cl wq.heap.size bh v c rm a w)
    (Q : Exit → Act → World → Prop) (hQ : ∀ p us' v' a' w', L.drop p = rm.flatMap ckLns → p ≤ L.length → HRow w' w1.heap.size v' (dn ++ [c]) us' → Below w1.heap.size w1 w' → (∃ h m k ln, AtR L o n b0 o0 cl (.int .i64 (p : Int)) v' h m k ln a') → Q .normal a' w') : Code.wp Tryd.prog (rdOf 28) Q a w := by
  obtain ⟨p, u, ln, hd, hp, hAt, ha⟩ := h
  have HAt := Lib.hid hAt
  have HQ := Lib.hid hQ
  have HD := Lib.hid hd
  have hR2 := hR.below hAt.bl
  have HR := Lib.hid hR2
  have hrow := hR2.row
  obtain ⟨pv, cv, rfl⟩ := ownsRow_slice hrow
  have HROW := Lib.hid hrow
  have hbx := hAt.hb.box
  have z0 := cell_at (o := 0) hbx _ rfl
  have z1 := cell_at (o := 1) hbx _ rfl
  have z2 := cell_at (o := 2) hbx _ rfl
  have hu := hAt.hb.row
  obtain ⟨pu, cu, rfl⟩ := ownsRow_slice hu
  have HU := Lib.hid (ownsRow_base hu hsz)
  have hws := hAt.bl.size
  obtain ⟨j0, hi, hy0, hy1, hy2⟩ := info_parts info_hunk
  have HBW : Hid (Below w1.heap.size w1 w) := Lib.hid (hAt.b1.trans (hAt.bl.mono hAt.bw))
  clear hAt hQ hd hR hR2 hrow hbx hu
  refine AtR.elim (C := fun a => Code.wp Tryd.prog (rdOf 28) Q a w) ?_ ha
  intro c0 c1 c2 c3 c4 c5 c14 c16 c17 c18 c19 c20 c21 c22 c23 c24 c25 c26 c27 c28 c29 c30 c31 c32 c33 c34 c35 c36 c37 c38 c39 c40 c41 c42 c43 c44 c45 c46 c47 c48 c49 c50 c51 c52 c53 c54 c55 c56 c57 c58 c59 c60 c61 c62 c63 c64 c65 c66 c67 c68 c69 c70 c71 c72 c73 c74 c75 c76 c77 c78 c79 c80 c81 c82 c83 c84 c85 c86 c87 c88 c89 c90 c91 c92 c93 c94 c95 c96 c97 c98 c99 c100 c101 c102 c103 c104 c105 c106 c107 c108 c109 c110 c111 c112 c113 c114 c115 c116 c117 c118 c119 c120 c121 c122 c123 c124 c125 c126 c127 c128 c129 c130 c131 c132 c133 c134 c135 c136 c137 c138 c139 c140 c141 c142 c143 c144 c145 c146 c147 c148 c149 c150 c151 c152 c153 c154 c155 c156 c157 c158 c159 c160 c161 c162 c163 c164 c165 c166 c167 c168 c169 c170 c171 c172 c173 c174 c175 c176 c177 c178 c179 c180 c181 c182 c183 c184 c185 c186 c187 c188 c189 c190 c191 c192 c193 c194 c195 c196 c197
  conv => arg 2; whnf
  go_wp2_with (at_builtin; refine wpList_append_own_at _ rfl _ _ 23 rfl w1.heap.size 28 j0 _ 3 40 Tryd.underlying23 hi hy0 hy1 hy2 rfl (by decide) _ _ _ rfl (HROW.out.alloc _) ⟨_, 0, none⟩ 1 1 [.int .i64 (c.x : Int), .int .i64 (c.y : Int), .slice pu c.ops.length cu] rfl rfl (cells_three _ _ _ _ _) (by simp [Value.oneCell']) (by unfold maxLen; omega) (by omega) (by simp; omega) ?_; intro v' w3 hown3 hg3 _ hat3; have HO3 := Lib.hid (HR.out.app hown3 hg3 HU.out); have HB3 : Hid (Below w1.heap.size w1 w3) := Lib.hid ((HBW.out.alloc (by omega) _).grown hg3 (by simp; omega) (fun g hg => (HROW.out.lt g hg).1)); clear hown3 hg3 hat3)
  exact HQ.out _ _ _ _ _ HD.out hp HO3.out HB3.out ⟨_, _, _, _, AtR.intro⟩

set_option maxRecDepth 1000000 in
set_option maxHeartbeats 8000000 in
theorem rdH (L : List (List UInt8)) (o n : List UInt8) (w1 wq : World) (b0 o0 cl p : Nat) (v h0 m0 k0 l0 : Value) (c : Hk) (dn rm : List Hk) (us : List Value) (a : Act) (hR : HRow wq w1.heap.size v dn us) (hdn : dn.length ≤ 1000000) (hb : Below w1.heap.size w1 wq) (hck : CkOk c)
    (hls : LS w1 (.slice (some ⟨b0, o0, none⟩) L.length cl) L) (hll : L.length ≤ 1099511627776) (hd : L.drop p = (c :: rm).flatMap ckLns) (ha : AtR L o n b0 o0 cl (.int .i64 (p : Int)) v h0 m0 k0 l0 a)
    (Q : Exit → Act → World → Prop) (hQ : ∀ p us' v' a' w', L.drop p = rm.flatMap ckLns → p ≤ L.length → HRow w' w1.heap.size v' (dn ++ [c]) us' → Below w1.heap.size w1 w' → (∃ h m k ln, AtR L o n b0 o0 cl (.int .i64 (p : Int)) v' h m k ln a') → Q .normal a' w') : Code.wp Tryd.prog (rdOf 11) Q a wq := by
  have HR := Lib.hid hR
  have HB := Lib.hid hb
  have HCK := Lib.hid hck
  have HLS := Lib.hid hls
  have HQ := Lib.hid hQ
  have hsz := hb.size
  rw [List.flatMap_cons] at hd
  unfold ckLns at hd
  rw [List.cons_append] at hd
  obtain ⟨hpl, hp0, hd1⟩ := drop_cons hd
  have HD := Lib.hid hd1
  have hcell : wq.cell? ⟨b0, o0 + p, none⟩ = some (.string (mkB (ckHead c.x c.y (cX c.ops) (cY c.ops)))) := by
    obtain ⟨b, off, he, hc⟩ := hls.cell hp0
    injection he with he
    injection he with he1 he2
    subst he1 he2
    exact (hb.cell (p := ⟨b0, o0 + p, none⟩) (lt_of_cell hc)).trans hc
  have g1 : cX c.ops ≤ c.ops.length := List.countP_le_length
  have g2 : cY c.ops ≤ c.ops.length := List.countP_le_length
  have b1 := hck.x
  have b2 := hck.y
  have b3 := hck.n
  obtain ⟨hl, hhl⟩ : ∃ hl, hl = ckHead c.x c.y (cX c.ops) (cY c.ops) := ⟨_, rfl⟩
  rw [← hhl] at hcell
  have HH := Lib.hid hhl
  clear hR hb hck hls hQ hd hd1 hp0 hhl
  refine AtR.elim (C := fun a => Code.wp Tryd.prog (rdOf 11) Q a wq) ?_ ha
  intro c0 c1 c2 c3 c4 c5 c14 c16 c17 c18 c19 c20 c21 c22 c23 c24 c25 c26 c27 c28 c29 c30 c31 c32 c33 c34 c35 c36 c37 c38 c39 c40 c41 c42 c43 c44 c45 c46 c47 c48 c49 c50 c51 c52 c53 c54 c55 c56 c57 c58 c59 c60 c61 c62 c63 c64 c65 c66 c67 c68 c69 c70 c71 c72 c73 c74 c75 c76 c77 c78 c79 c80 c81 c82 c83 c84 c85 c86 c87 c88 c89 c90 c91 c92 c93 c94 c95 c96 c97 c98 c99 c100 c101 c102 c103 c104 c105 c106 c107 c108 c109 c110 c111 c112 c113 c114 c115 c116 c117 c118 c119 c120 c121 c122 c123 c124 c125 c126 c127 c128 c129 c130 c131 c132 c133 c134 c135 c136 c137 c138 c139 c140 c141 c142 c143 c144 c145 c146 c147 c148 c149 c150 c151 c152 c153 c154 c155 c156 c157 c158 c159 c160 c161 c162 c163 c164 c165 c166 c167 c168 c169 c170 c171 c172 c173 c174 c175 c176 c177 c178 c179 c180 c181 c182 c183 c184 c185 c186 c187 c188 c189 c190 c191 c192 c193 c194 c195 c196 c197
  conv => arg 2; whnf
  refine wp_seq_k fun K1 hK1 => ?_
  have H1 := Lib.hid hK1
  clear hK1
  go_wp2_with fail
  rw [HH.out]
  refine (head_any c.x c.y (cX c.ops) (cY c.ops) wq b1 b2 (by omega) (by omega)).mono ?_
  rintro en w2 ⟨rfl, hb2⟩
  have HB2 := Lib.hid hb2
  obtain ⟨mx, hmx⟩ : ∃ m, m = cX c.ops := ⟨_, rfl⟩
  obtain ⟨my, hmy⟩ : ∃ m, m = cY c.ops := ⟨_, rfl⟩
  rw [← hmx, ← hmy]
  have HMX := Lib.hid hmx
  have HMY := Lib.hid hmy
  clear hb2 hmx hmy hcell
  go_wp2_with fail
  refine H1.out _ _ ?_
  clear H1
  obtain ⟨w3, hw3⟩ : ∃ w3, w3 = w2.alloc (.cells #[.int .i64 (c.x : Int), .int .i64 (c.y : Int), .slice none 0 0] 28) := ⟨_, rfl⟩
  have HAt : Hid (RdAt L w1 wq w3 b0 o0 cl wq.heap.size w2.heap.size c.x c.y (.slice none 0 0) []) := Lib.hid ⟨HLS.out, hll, by rw [hw3]; exact ⟨heap_new _ _ rfl, World.ownsRow_nil _ _ _ _⟩, by rw [hw3]; exact HB2.out.alloc HB2.out.size _, HB.out, hsz, HB2.out.size⟩
  rw [← hw3]
  clear hw3
  refine wp_seq_k fun K1 hK1 => ?_
  have H1 := Lib.hid hK1
  clear hK1
  go_wp2_with fail
  refine H1.out _ _ ?_
  clear H1
  refine wp_seq_k fun K1 hK1 => ?_
  have H1 := Lib.hid hK1
  clear hK1
  go_wp2_with fail
  refine H1.out _ _ ?_
  clear H1
  refine wp_to (MidK L o n w1 wq b0 o0 cl wq.heap.size w2.heap.size v c rm) ?_ (fun a' w' h' => rdE L o n w1 wq b0 o0 cl w2.heap.size v c dn rm us a' w' HR.out hdn hsz h' Q HQ.out)
  refine wp_block ?_
  refine wp_loop_ghost (fun g a w => RdI L o n w1 wq b0 o0 cl wq.heap.size w2.heap.size c.x c.y v c.ops rm g a w) c.ops.length ?_ ?_
  · refine ⟨[], c.ops, p + 1, _, l0, rfl, Nat.le_refl _, HD.out, hpl, HAt.out, ?_⟩
    rw [← HMX.out, ← HMY.out]
    exact AtR.intro
  · intro g a' w' hI
    refine rdRound L o n w1 wq b0 o0 cl wq.heap.size w2.heap.size c.x c.y v c.ops rm HCK.out.ops b3 g a' w' hI _ (fun a2 w2' h2 => h2) ?_
    intro p' u' a2 w2' k1 k2 k3 k4
    obtain ⟨ln', k4⟩ := k4
    exact ⟨p', u', ln', k1, k2, k3, k4⟩

set_option maxRecDepth 1000000 in
set_option maxHeartbeats 8000000 in
theorem rdOut (L : List (List UInt8)) (o n : List UInt8) (w1 : World) (b0 o0 cl : Nat) (cs : List Hk) (hcs : ∀ c ∈ cs, CkOk c) (hcl : cs.length ≤ 1000000) (hls : LS w1 (.slice (some ⟨b0, o0, none⟩) L.length cl) L) (hll : L.length ≤ 1099511627776)
    (g : Nat) (a : Act) (w : World) (h : RdO L o n w1 b0 o0 cl cs g a w) (Q : Exit → Act → World → Prop) (hn : ∀ a' w', (∃ g', g' < g ∧ RdO L o n w1 b0 o0 cl cs g' a' w') → Q .normal a' w')
    (h0 : ∀ p us v a' w', HRow w' w1.heap.size v cs us → Below w1.heap.size w1 w' → (∃ h m k ln, AtR L o n b0 o0 cl (.int .i64 (p : Int)) v h m k ln a') → Q (.exit 2) a' w') : Code.wp Tryd.prog (rdOf 10) Q a w := by
  obtain ⟨dn, rm, us, p, v, h, m, k, ln, rfl, hg, hd, hpl, hR, hB, ha⟩ := h
  have HN := Lib.hid hn
  have H0 := Lib.hid h0
  have HR := Lib.hid hR
  have HB := Lib.hid hB
  rw [List.length_append] at hcl
  clear hn h0 hR hB
  refine AtR.elim (C := fun a => Code.wp Tryd.prog (rdOf 10) Q a w) ?_ ha
  intro c0 c1 c2 c3 c4 c5 c14 c16 c17 c18 c19 c20 c21 c22 c23 c24 c25 c26 c27 c28 c29 c30 c31 c32 c33 c34 c35 c36 c37 c38 c39 c40 c41 c42 c43 c44 c45 c46 c47 c48 c49 c50 c51 c52 c53 c54 c55 c56 c57 c58 c59 c60 c61 c62 c63 c64 c65 c66 c67 c68 c69 c70 c71 c72 c73 c74 c75 c76 c77 c78 c79 c80 c81 c82 c83 c84 c85 c86 c87 c88 c89 c90 c91 c92 c93 c94 c95 c96 c97 c98 c99 c100 c101 c102 c103 c104 c105 c106 c107 c108 c109 c110 c111 c112 c113 c114 c115 c116 c117 c118 c119 c120 c121 c122 c123 c124 c125 c126 c127 c128 c129 c130 c131 c132 c133 c134 c135 c136 c137 c138 c139 c140 c141 c142 c143 c144 c145 c146 c147 c148 c149 c150 c151 c152 c153 c154 c155 c156 c157 c158 c159 c160 c161 c162 c163 c164 c165 c166 c167 c168 c169 c170 c171 c172 c173 c174 c175 c176 c177 c178 c179 c180 c181 c182 c183 c184 c185 c186 c187 c188 c189 c190 c191 c192 c193 c194 c195 c196 c197
  conv => arg 2; whnf
  refine wp_seq_k fun K1 hK1 => ?_
  have H1 := Lib.hid hK1
  clear hK1
  cases rm with
  | nil =>
    have hp : ¬ p < L.length := by
      intro hp
      have := congrArg List.length hd
      simp at this
      omega
    have HR2 : Hid (HRow w w1.heap.size v (dn ++ []) us) := Lib.hid (by rw [List.append_nil]; exact HR.out)
    clear hd
    go_wp2_with fail
    exact H0.out p _ _ _ _ HR2.out HB.out ⟨_, _, _, _, AtR.intro⟩
  | cons c rm =>
    have hp : p < L.length := by
      have hd2 := hd
      rw [List.flatMap_cons] at hd2
      unfold ckLns at hd2
      rw [List.cons_append] at hd2
      exact (drop_cons hd2).1
    have HD := Lib.hid hd
    clear hd
    go_wp2_with fail
    refine H1.out _ _ ?_
    refine wp_block ?_
    refine rdH L o n w1 w b0 o0 cl p v _ _ _ _ c dn rm us _ HR.out (by omega) HB.out (hcs c (by simp)) hls hll HD.out AtR.intro _ ?_
    intro p' us' v' a' w' k1 k2 k3 k4 k5
    obtain ⟨h', m', k', ln', k5⟩ := k5
    exact HN.out a' w' ⟨g - 1, by simp at hg; omega, dn ++ [c], rm, us', p', v', h', m', k', ln', by simp, by simp at hg; omega, k1, k2, k3, k4, k5⟩
end Go.Proofs.YtncjclmhdhimdaaDoor
