/- The reference's ReadDiff: the lines of a hunk. -/
import Derived.Test.YtncjclmhdhimdaaDoorDRD1
namespace Go.Proofs.YtncjclmhdhimdaaDoor
open Go.RowKit

set_option maxRecDepth 1000000 in
set_option maxHeartbeats 8000000 in
theorem rdA (L : List (List UInt8)) (o n : List UInt8) (w1 wq wr : World) (b0 o0 cl B bh x y p : Nat) (u v : Value) (dn rm : Sc (List UInt8)) (cs : List Hk) (op : UInt8 × List UInt8) (lv : Value) (H : Hid (RdAt L w1 wq wr b0 o0 cl B bh x y u dn))
    (hd : L.drop p = (op :: rm).flatMap opLns ++ cs.flatMap ckLns) (hop : okOp op) (hrm : ∀ q ∈ rm, okOp q) (hol : op.2.length ≤ 1099511627776) (hdn : dn.length ≤ 1000000) (hrl : rm.length ≤ 1000000)
    (Q : Exit → Act → World → Prop) (hQ : ∀ p' u' a' w', L.drop p' = rm.flatMap opLns ++ cs.flatMap ckLns → p' ≤ L.length → RdAt L w1 wq w' b0 o0 cl B bh x y u' (dn ++ [op]) → (∃ ln, AtR L o n b0 o0 cl (.int .i64 (p' : Int)) v (.pointer (some ⟨bh, 0, none⟩)) (.int .i64 (cX rm : Int)) (.int .i64 (cY rm : Int)) ln a') → Q .normal a' w')
    (a : Act) (ha : AtR L o n b0 o0 cl (.int .i64 (p : Int)) v (.pointer (some ⟨bh, 0, none⟩)) (.int .i64 (cX (op :: rm) : Int)) (.int .i64 (cY (op :: rm) : Int)) lv a) : Code.wp Tryd.prog (rdOf 16) Q a wr := by
  have hB := fun (a' : Act) (ha' : AtR L o n b0 o0 cl (.int .i64 (p : Int)) v (.pointer (some ⟨bh, 0, none⟩)) (.int .i64 (cX rm : Int)) (.int .i64 (cY rm : Int)) (.string (mkB (opFirst op))) a') => rdB L o n w1 wq wr b0 o0 cl B bh x y p u v dn rm cs op _ _ H hd hop hrm hol hdn Q hQ a' ha'
  have HB := Lib.hid hB
  clear hQ hB
  have g1 : cX rm ≤ rm.length := List.countP_le_length
  have g2 : cY rm ≤ rm.length := List.countP_le_length
  have e1 := cX_cons op rm
  have e2 := cY_cons op rm
  refine AtR.elim (C := fun a => Code.wp Tryd.prog (rdOf 16) Q a wr) ?_ ha
  intro c0 c1 c2 c3 c4 c5 c14 c16 c17 c18 c19 c20 c21 c22 c23 c24 c25 c26 c27 c28 c29 c30 c31 c32 c33 c34 c35 c36 c37 c38 c39 c40 c41 c42 c43 c44 c45 c46 c47 c48 c49 c50 c51 c52 c53 c54 c55 c56 c57 c58 c59 c60 c61 c62 c63 c64 c65 c66 c67 c68 c69 c70 c71 c72 c73 c74 c75 c76 c77 c78 c79 c80 c81 c82 c83 c84 c85 c86 c87 c88 c89 c90 c91 c92 c93 c94 c95 c96 c97 c98 c99 c100 c101 c102 c103 c104 c105 c106 c107 c108 c109 c110 c111 c112 c113 c114 c115 c116 c117 c118 c119 c120 c121 c122 c123 c124 c125 c126 c127 c128 c129 c130 c131 c132 c133 c134 c135 c136 c137 c138 c139 c140 c141 c142 c143 c144 c145 c146 c147 c148 c149 c150 c151 c152 c153 c154 c155 c156 c157 c158 c159 c160 c161 c162 c163 c164 c165 c166 c167 c168 c169 c170 c171 c172 c173 c174 c175 c176 c177 c178 c179 c180 c181 c182 c183 c184 c185 c186 c187 c188 c189 c190 c191 c192 c193 c194 c195 c196 c197
  conv => arg 2; whnf
  rw [List.flatMap_cons, opLns_first] at hd
  obtain ⟨hpl, hp0, _⟩ := drop_cons (by rw [List.cons_append, List.cons_append] at hd; exact hd)
  obtain ⟨hf0, q, hql, hq10, hq1⟩ := opFirst_shape hop.2
  have hc := H.out.cell hp0
  have hll := H.out.ll
  have hs := hop.1
  obtain ⟨x1, hx1⟩ : ∃ x1, x1 = opFirst op := ⟨_, rfl⟩
  rw [← hx1] at hc hf0 hql hq10
  have hsz : (mkB x1).size = q + 1 := by rw [mkB_size, hql]
  have hz0 : 0 < (mkB x1).size := by omega
  have hzq : q < (mkB x1).size := by omega
  have f0 := mkB_get hf0 hz0
  have fq := mkB_get hq10 hzq
  have hqb : q ≤ 1099511627779 := by
    have : x1.length ≤ 1099511627779 := by rw [hx1]; unfold opFirst; split <;> simp <;> omega
    omega
  have iq : ((q : Int) + 1) - 1 = (q : Int) := by omega
  have HX := Lib.hid hx1
  obtain ⟨mx, hmx⟩ : ∃ m, m = cX (op :: rm) := ⟨_, rfl⟩
  obtain ⟨my, hmy⟩ : ∃ m, m = cY (op :: rm) := ⟨_, rfl⟩
  rw [← hmx] at e1 ⊢
  rw [← hmy] at e2 ⊢
  obtain ⟨rx, hrx⟩ : ∃ m, m = cX rm := ⟨_, rfl⟩
  obtain ⟨ry, hry⟩ : ∃ m, m = cY rm := ⟨_, rfl⟩
  rw [← hrx] at e1 g1 HB
  rw [← hry] at e2 g2 HB
  rw [← hx1] at HB
  clear hd hop hrm hql hf0 hq10 hx1 hmx hmy hrx hry hp0
  rcases hs with hs | hs | hs
  · rw [hs] at f0 e1 e2
    have j1 : (mx : Int) - 1 = (rx : Int) := by simp at e1; omega
    have j2 : (my : Int) - 1 = (ry : Int) := by simp at e2; omega
    have b1 : mx ≤ 1000001 := by simp at e1; omega
    have b2 : my ≤ 1000001 := by simp at e2; omega
    clear e1 e2
    refine wp_seq_k fun K1 hK1 => ?_
    have H1 := Lib.hid hK1
    clear hK1
    go_wp2_with fail
    refine H1.out _ _ ?_
    clear H1
    refine wp_seq_k fun K1 hK1 => ?_
    have H1 := Lib.hid hK1
    clear hK1
    go_wp2_with fail
    refine H1.out _ _ ?_
    clear H1
    refine wp_seq_k fun K1 hK1 => ?_
    have H1 := Lib.hid hK1
    clear hK1
    go_wp2_with fail
    refine H1.out _ _ ?_
    clear H1
    refine wp_seq_k fun K1 hK1 => ?_
    have H1 := Lib.hid hK1
    clear hK1
    go_wp2_with fail
    refine H1.out _ _ ?_
    exact HB.out _ AtR.intro
  · rw [hs] at f0 e1 e2
    have j1 : (mx : Int) - 1 = (rx : Int) := by simp at e1; omega
    obtain rfl : my = ry := by simp at e2; exact e2
    have b1 : mx ≤ 1000001 := by simp at e1; omega
    clear e1 e2
    refine wp_seq_k fun K1 hK1 => ?_
    have H1 := Lib.hid hK1
    clear hK1
    go_wp2_with fail
    refine H1.out _ _ ?_
    clear H1
    refine wp_seq_k fun K1 hK1 => ?_
    have H1 := Lib.hid hK1
    clear hK1
    go_wp2_with fail
    refine H1.out _ _ ?_
    clear H1
    refine wp_seq_k fun K1 hK1 => ?_
    have H1 := Lib.hid hK1
    clear hK1
    go_wp2_with fail
    refine H1.out _ _ ?_
    clear H1
    refine wp_seq_k fun K1 hK1 => ?_
    have H1 := Lib.hid hK1
    clear hK1
    go_wp2_with fail
    refine H1.out _ _ ?_
    exact HB.out _ AtR.intro
  · rw [hs] at f0 e1 e2
    obtain rfl : mx = rx := by simp at e1; exact e1
    have j2 : (my : Int) - 1 = (ry : Int) := by simp at e2; omega
    have b2 : my ≤ 1000001 := by simp at e2; omega
    clear e1 e2
    refine wp_seq_k fun K1 hK1 => ?_
    have H1 := Lib.hid hK1
    clear hK1
    go_wp2_with fail
    refine H1.out _ _ ?_
    clear H1
    refine wp_seq_k fun K1 hK1 => ?_
    have H1 := Lib.hid hK1
    clear hK1
    go_wp2_with fail
    refine H1.out _ _ ?_
    clear H1
    refine wp_seq_k fun K1 hK1 => ?_
    have H1 := Lib.hid hK1
    clear hK1
    go_wp2_with fail
    refine H1.out _ _ ?_
    clear H1
    refine wp_seq_k fun K1 hK1 => ?_
    have H1 := Lib.hid hK1
    clear hK1
    go_wp2_with fail
    refine H1.out _ _ ?_
    exact HB.out _ AtR.intro

/- the lines of a hunk, from one place on -/
def RdI (L : List (List UInt8)) (o n : List UInt8) (w1 wq : World) (b0 o0 cl B bh x y : Nat) (v : Value) (ops : Sc (List UInt8)) (cs : List Hk) (g : Nat) (a : Act) (w : World) : Prop :=
  ∃ (dn rm : Sc (List UInt8)) (p : Nat) (u ln : Value), ops = dn ++ rm ∧ rm.length ≤ g ∧ L.drop p = rm.flatMap opLns ++ cs.flatMap ckLns ∧ p ≤ L.length ∧ RdAt L w1 wq w b0 o0 cl B bh x y u dn ∧
    AtR L o n b0 o0 cl (.int .i64 (p : Int)) v (.pointer (some ⟨bh, 0, none⟩)) (.int .i64 (cX rm : Int)) (.int .i64 (cY rm : Int)) ln a
set_option maxRecDepth 1000000 in
set_option maxHeartbeats 8000000 in
theorem rdRound (L : List (List UInt8)) (o n : List UInt8) (w1 wq : World) (b0 o0 cl B bh x y : Nat) (v : Value) (ops : Sc (List UInt8)) (cs : List Hk) (hops : ∀ q ∈ ops, okOp q ∧ q.2.length ≤ 1099511627776) (hol : ops.length ≤ 1000000) (g : Nat) (a : Act) (w : World) (h : RdI L o n w1 wq b0 o0 cl B bh x y v ops cs g a w)
    (Q : Exit → Act → World → Prop) (hn : ∀ a' w', (∃ g', g' < g ∧ RdI L o n w1 wq b0 o0 cl B bh x y v ops cs g' a' w') → Q .normal a' w')
    (h0 : ∀ p u a' w', L.drop p = cs.flatMap ckLns → p ≤ L.length → RdAt L w1 wq w' b0 o0 cl B bh x y u ops → (∃ ln, AtR L o n b0 o0 cl (.int .i64 (p : Int)) v (.pointer (some ⟨bh, 0, none⟩)) (.int .i64 0) (.int .i64 0) ln a') → Q (.exit 4) a' w') : Code.wp Tryd.prog (rdOf 15) Q a w := by
  obtain ⟨dn, rm, p, u, ln, rfl, hg, hd, hpl, hR, ha⟩ := h
  have HR := Lib.hid hR
  have HN := Lib.hid hn
  have H0 := Lib.hid h0
  have hll := hR.ll
  clear hR hn h0
  refine AtR.elim (C := fun a => Code.wp Tryd.prog (rdOf 15) Q a w) ?_ ha
  intro c0 c1 c2 c3 c4 c5 c14 c16 c17 c18 c19 c20 c21 c22 c23 c24 c25 c26 c27 c28 c29 c30 c31 c32 c33 c34 c35 c36 c37 c38 c39 c40 c41 c42 c43 c44 c45 c46 c47 c48 c49 c50 c51 c52 c53 c54 c55 c56 c57 c58 c59 c60 c61 c62 c63 c64 c65 c66 c67 c68 c69 c70 c71 c72 c73 c74 c75 c76 c77 c78 c79 c80 c81 c82 c83 c84 c85 c86 c87 c88 c89 c90 c91 c92 c93 c94 c95 c96 c97 c98 c99 c100 c101 c102 c103 c104 c105 c106 c107 c108 c109 c110 c111 c112 c113 c114 c115 c116 c117 c118 c119 c120 c121 c122 c123 c124 c125 c126 c127 c128 c129 c130 c131 c132 c133 c134 c135 c136 c137 c138 c139 c140 c141 c142 c143 c144 c145 c146 c147 c148 c149 c150 c151 c152 c153 c154 c155 c156 c157 c158 c159 c160 c161 c162 c163 c164 c165 c166 c167 c168 c169 c170 c171 c172 c173 c174 c175 c176 c177 c178 c179 c180 c181 c182 c183 c184 c185 c186 c187 c188 c189 c190 c191 c192 c193 c194 c195 c196 c197
  conv => arg 2; whnf
  have HOPS := Lib.hid hops
  rw [List.length_append] at hol
  clear hops
  cases rm with
  | nil =>
    have HD : Hid (L.drop p = cs.flatMap ckLns) := Lib.hid (by rw [hd]; rfl)
    have HR2 : Hid (RdAt L w1 wq w b0 o0 cl B bh x y u (dn ++ [])) := Lib.hid (by rw [List.append_nil]; exact HR.out)
    rw [cX_nil, cY_nil]
    clear hd
    by_cases hp : p < L.length
    · go_wp2_with fail
      exact H0.out _ _ _ _ HD.out hpl HR2.out ⟨_, AtR.intro⟩
    · go_wp2_with fail
      exact H0.out _ _ _ _ HD.out hpl HR2.out ⟨_, AtR.intro⟩
  | cons op rm =>
    have hp : p < L.length := by
      have hd2 := hd
      rw [List.flatMap_cons, opLns_first, List.cons_append, List.cons_append] at hd2
      exact (drop_cons hd2).1
    have hopk := HOPS.out op (by simp)
    have e1 := cX_cons op rm
    have e2 := cY_cons op rm
    obtain ⟨mx, hmx⟩ : ∃ m, m = cX (op :: rm) := ⟨_, rfl⟩
    obtain ⟨my, hmy⟩ : ∃ m, m = cY (op :: rm) := ⟨_, rfl⟩
    have hpos : 0 < mx ∨ 0 < my := by
      rcases hopk.1.1 with h1 | h1 | h1
      · left; rw [hmx, e1, h1]; simp
      · left; rw [hmx, e1, h1]; simp
      · right; rw [hmy, e2, h1]; simp
    have HB := Lib.hid fun (a' : Act) (ha' : AtR L o n b0 o0 cl (.int .i64 (p : Int)) v (.pointer (some ⟨bh, 0, none⟩)) (.int .i64 (cX (op :: rm) : Int)) (.int .i64 (cY (op :: rm) : Int)) ln a') =>
      rdA L o n w1 wq w b0 o0 cl B bh x y p u v dn rm cs op _ HR hd hopk.1 (fun q hq => (HOPS.out q (by simp [hq])).1) hopk.2 (by omega) (by simp at hol; omega) (Exit.inBlock 5 Q) (fun p' u' a2 w2 k1 k2 k3 k4 => by
        obtain ⟨ln', k4⟩ := k4
        exact HN.out a2 w2 ⟨g - 1, by simp at hg; omega, dn ++ [op], rm, p', u', ln', by simp, by simp at hg; omega, k1, k2, k3, k4⟩) a' ha'
    rw [← hmx, ← hmy] at HB ⊢
    clear hd hopk e1 e2 hmx hmy hol hg
    refine wp_seq_k fun K1 hK1 => ?_
    have H1 := Lib.hid hK1
    clear hK1
    by_cases hm : 0 < mx
    · go_wp2_with fail
      refine H1.out _ _ ?_
      exact wp_block (HB.out _ AtR.intro)
    · have hm2 : 0 < my := by omega
      go_wp2_with fail
      refine H1.out _ _ ?_
      exact wp_block (HB.out _ AtR.intro)
end Go.Proofs.YtncjclmhdhimdaaDoor
