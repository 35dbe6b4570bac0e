/- The reference's ReadDiff: its frame; one line of a hunk. -/
import Derived.Test.YtncjclmhdhimdaaDoorDHunks
import Derived.Test.YtncjclmhdhimdaaDoorDHead
import Derived.Test.YtncjclmhdhimdaaDoorDTgs
import Derived.Test.YtncjclmhdhimdaaDoorDMDefs
namespace Go.Proofs.YtncjclmhdhimdaaDoor
open Go.RowKit

noncomputable def rdOf (n : Nat) : Code := ((Tryd.f20.body.bind (tailAt n)).getD .skip)
set_option maxRecDepth 1000000 in
def AtR (L : List (List UInt8)) (o n : List UInt8) (b0 o0 cl : Nat) (i v h m k ln : Value) (a : Act) : Prop :=
  ∃ c0 c1 c2 c3 c4 c5 c14 c16 c17 c18 c19 c20 c21 c22 c23 c24 c25 c26 c27 c28 c29 c30 c31 c32 c33 c34 c35 c36 c37 c38 c39 c40 c41 c42 c43 c44 c45 c46 c47 c48 c49 c50 c51 c52 c53 c54 c55 c56 c57 c58 c59 c60 c61 c62 c63 c64 c65 c66 c67 c68 c69 c70 c71 c72 c73 c74 c75 c76 c77 c78 c79 c80 c81 c82 c83 c84 c85 c86 c87 c88 c89 c90 c91 c92 c93 c94 c95 c96 c97 c98 c99 c100 c101 c102 c103 c104 c105 c106 c107 c108 c109 c110 c111 c112 c113 c114 c115 c116 c117 c118 c119 c120 c121 c122 c123 c124 c125 c126 c127 c128 c129 c130 c131 c132 c133 c134 c135 c136 c137 c138 c139 c140 c141 c142 c143 c144 c145 c146 c147 c148 c149 c150 c151 c152 c153 c154 c155 c156 c157 c158 c159 c160 c161 c162 c163 c164 c165 c166 c167 c168 c169 c170 c171 c172 c173 c174 c175 c176 c177 c178 c179 c180 c181 c182 c183 c184 c185 c186 c187 c188 c189 c190 c191 c192 c193 c194 c195 c196 c197, a = (⟨#[c0, c1, c2, c3, c4, c5, .slice (some ⟨b0, o0, none⟩) L.length cl, i, .string (mkB o), .string (mkB n), v, h, m, k, c14, ln, c16, c17, c18, c19, c20, c21, c22, c23, c24, c25, c26, c27, c28, c29, c30, c31, c32, c33, c34, c35, c36, c37, c38, c39, c40, c41, c42, c43, c44, c45, c46, c47, c48, c49, c50, c51, c52, c53, c54, c55, c56, c57, c58, c59, c60, c61, c62, c63, c64, c65, c66, c67, c68, c69, c70, c71, c72, c73, c74, c75, c76, c77, c78, c79, c80, c81, c82, c83, c84, c85, c86, c87, c88, c89, c90, c91, c92, c93, c94, c95, c96, c97, c98, c99, c100, c101, c102, c103, c104, c105, c106, c107, c108, c109, c110, c111, c112, c113, c114, c115, c116, c117, c118, c119, c120, c121, c122, c123, c124, c125, c126, c127, c128, c129, c130, c131, c132, c133, c134, c135, c136, c137, c138, c139, c140, c141, c142, c143, c144, c145, c146, c147, c148, c149, c150, c151, c152, c153, c154, c155, c156, c157, c158, c159, c160, c161, c162, c163, c164, c165, c166, c167, c168, c169, c170, c171, c172, c173, c174, c175, c176, c177, c178, c179, c180, c181, c182, c183, c184, c185, c186, c187, c188, c189, c190, c191, c192, c193, c194, c195, c196, c197], []⟩ : Act)
section
variable {L : List (List UInt8)} {o n : List UInt8} {b0 o0 cl : Nat} {i v h m k ln : Value}
set_option maxRecDepth 1000000 in
theorem AtR.intro {c0 c1 c2 c3 c4 c5 c14 c16 c17 c18 c19 c20 c21 c22 c23 c24 c25 c26 c27 c28 c29 c30 c31 c32 c33 c34 c35 c36 c37 c38 c39 c40 c41 c42 c43 c44 c45 c46 c47 c48 c49 c50 c51 c52 c53 c54 c55 c56 c57 c58 c59 c60 c61 c62 c63 c64 c65 c66 c67 c68 c69 c70 c71 c72 c73 c74 c75 c76 c77 c78 c79 c80 c81 c82 c83 c84 c85 c86 c87 c88 c89 c90 c91 c92 c93 c94 c95 c96 c97 c98 c99 c100 c101 c102 c103 c104 c105 c106 c107 c108 c109 c110 c111 c112 c113 c114 c115 c116 c117 c118 c119 c120 c121 c122 c123 c124 c125 c126 c127 c128 c129 c130 c131 c132 c133 c134 c135 c136 c137 c138 c139 c140 c141 c142 c143 c144 c145 c146 c147 c148 c149 c150 c151 c152 c153 c154 c155 c156 c157 c158 c159 c160 c161 c162 c163 c164 c165 c166 c167 c168 c169 c170 c171 c172 c173 c174 c175 c176 c177 c178 c179 c180 c181 c182 c183 c184 c185 c186 c187 c188 c189 c190 c191 c192 c193 c194 c195 c196 c197 : Value} : AtR L o n b0 o0 cl i v h m k ln (⟨#[c0, c1, c2, c3, c4, c5, .slice (some ⟨b0, o0, none⟩) L.length cl, i, .string (mkB o), .string (mkB n), v, h, m, k, c14, ln, c16, c17, c18, c19, c20, c21, c22, c23, c24, c25, c26, c27, c28, c29, c30, c31, c32, c33, c34, c35, c36, c37, c38, c39, c40, c41, c42, c43, c44, c45, c46, c47, c48, c49, c50, c51, c52, c53, c54, c55, c56, c57, c58, c59, c60, c61, c62, c63, c64, c65, c66, c67, c68, c69, c70, c71, c72, c73, c74, c75, c76, c77, c78, c79, c80, c81, c82, c83, c84, c85, c86, c87, c88, c89, c90, c91, c92, c93, c94, c95, c96, c97, c98, c99, c100, c101, c102, c103, c104, c105, c106, c107, c108, c109, c110, c111, c112, c113, c114, c115, c116, c117, c118, c119, c120, c121, c122, c123, c124, c125, c126, c127, c128, c129, c130, c131, c132, c133, c134, c135, c136, c137, c138, c139, c140, c141, c142, c143, c144, c145, c146, c147, c148, c149, c150, c151, c152, c153, c154, c155, c156, c157, c158, c159, c160, c161, c162, c163, c164, c165, c166, c167, c168, c169, c170, c171, c172, c173, c174, c175, c176, c177, c178, c179, c180, c181, c182, c183, c184, c185, c186, c187, c188, c189, c190, c191, c192, c193, c194, c195, c196, c197], []⟩ : Act) := by
  unfold AtR
  repeat apply Exists.intro
  rfl
set_option maxRecDepth 1000000 in
set_option maxHeartbeats 4000000 in
theorem AtR.elim {C : Act → Prop} (hh : ∀ c0 c1 c2 c3 c4 c5 c14 c16 c17 c18 c19 c20 c21 c22 c23 c24 c25 c26 c27 c28 c29 c30 c31 c32 c33 c34 c35 c36 c37 c38 c39 c40 c41 c42 c43 c44 c45 c46 c47 c48 c49 c50 c51 c52 c53 c54 c55 c56 c57 c58 c59 c60 c61 c62 c63 c64 c65 c66 c67 c68 c69 c70 c71 c72 c73 c74 c75 c76 c77 c78 c79 c80 c81 c82 c83 c84 c85 c86 c87 c88 c89 c90 c91 c92 c93 c94 c95 c96 c97 c98 c99 c100 c101 c102 c103 c104 c105 c106 c107 c108 c109 c110 c111 c112 c113 c114 c115 c116 c117 c118 c119 c120 c121 c122 c123 c124 c125 c126 c127 c128 c129 c130 c131 c132 c133 c134 c135 c136 c137 c138 c139 c140 c141 c142 c143 c144 c145 c146 c147 c148 c149 c150 c151 c152 c153 c154 c155 c156 c157 c158 c159 c160 c161 c162 c163 c164 c165 c166 c167 c168 c169 c170 c171 c172 c173 c174 c175 c176 c177 c178 c179 c180 c181 c182 c183 c184 c185 c186 c187 c188 c189 c190 c191 c192 c193 c194 c195 c196 c197, C (⟨#[c0, c1, c2, c3, c4, c5, .slice (some ⟨b0, o0, none⟩) L.length cl, i, .string (mkB o), .string (mkB n), v, h, m, k, c14, ln, c16, c17, c18, c19, c20, c21, c22, c23, c24, c25, c26, c27, c28, c29, c30, c31, c32, c33, c34, c35, c36, c37, c38, c39, c40, c41, c42, c43, c44, c45, c46, c47, c48, c49, c50, c51, c52, c53, c54, c55, c56, c57, c58, c59, c60, c61, c62, c63, c64, c65, c66, c67, c68, c69, c70, c71, c72, c73, c74, c75, c76, c77, c78, c79, c80, c81, c82, c83, c84, c85, c86, c87, c88, c89, c90, c91, c92, c93, c94, c95, c96, c97, c98, c99, c100, c101, c102, c103, c104, c105, c106, c107, c108, c109, c110, c111, c112, c113, c114, c115, c116, c117, c118, c119, c120, c121, c122, c123, c124, c125, c126, c127, c128, c129, c130, c131, c132, c133, c134, c135, c136, c137, c138, c139, c140, c141, c142, c143, c144, c145, c146, c147, c148, c149, c150, c151, c152, c153, c154, c155, c156, c157, c158, c159, c160, c161, c162, c163, c164, c165, c166, c167, c168, c169, c170, c171, c172, c173, c174, c175, c176, c177, c178, c179, c180, c181, c182, c183, c184, c185, c186, c187, c188, c189, c190, c191, c192, c193, c194, c195, c196, c197], []⟩ : Act)) {a : Act} (ha : AtR L o n b0 o0 cl i v h m k ln a) : C a := by
  unfold AtR at ha
  obtain ⟨c0, ha⟩ := ha
  obtain ⟨c1, ha⟩ := ha
  obtain ⟨c2, ha⟩ := ha
  obtain ⟨c3, ha⟩ := ha
  obtain ⟨c4, ha⟩ := ha
  obtain ⟨c5, ha⟩ := ha
  obtain ⟨c14, ha⟩ := ha
  obtain ⟨c16, ha⟩ := ha
  obtain ⟨c17, ha⟩ := ha
  obtain ⟨c18, ha⟩ := ha
  obtain ⟨c19, ha⟩ := ha
  obtain ⟨c20, ha⟩ := ha
  obtain ⟨c21, ha⟩ := ha
  obtain ⟨c22, ha⟩ := ha
  obtain ⟨c23, ha⟩ := ha
  obtain ⟨c24, ha⟩ := ha
  obtain ⟨c25, ha⟩ := ha
  obtain ⟨c26, ha⟩ := ha
  obtain ⟨c27, ha⟩ := ha
  obtain ⟨c28, ha⟩ := ha
  obtain ⟨c29, ha⟩ := ha
  obtain ⟨c30, ha⟩ := ha
  obtain ⟨c31, ha⟩ := ha
  obtain ⟨c32, ha⟩ := ha
  obtain ⟨c33, ha⟩ := ha
  obtain ⟨c34, ha⟩ := ha
  obtain ⟨c35, ha⟩ := ha
  obtain ⟨c36, ha⟩ := ha
  obtain ⟨c37, ha⟩ := ha
  obtain ⟨c38, ha⟩ := ha
  obtain ⟨c39, ha⟩ := ha
  obtain ⟨c40, ha⟩ := ha
  obtain ⟨c41, ha⟩ := ha
  obtain ⟨c42, ha⟩ := ha
  obtain ⟨c43, ha⟩ := ha
  obtain ⟨c44, ha⟩ := ha
  obtain ⟨c45, ha⟩ := ha
  obtain ⟨c46, ha⟩ := ha
  obtain ⟨c47, ha⟩ := ha
  obtain ⟨c48, ha⟩ := ha
  obtain ⟨c49, ha⟩ := ha
  obtain ⟨c50, ha⟩ := ha
  obtain ⟨c51, ha⟩ := ha
  obtain ⟨c52, ha⟩ := ha
  obtain ⟨c53, ha⟩ := ha
  obtain ⟨c54, ha⟩ := ha
  obtain ⟨c55, ha⟩ := ha
  obtain ⟨c56, ha⟩ := ha
  obtain ⟨c57, ha⟩ := ha
  obtain ⟨c58, ha⟩ := ha
  obtain ⟨c59, ha⟩ := ha
  obtain ⟨c60, ha⟩ := ha
  obtain ⟨c61, ha⟩ := ha
  obtain ⟨c62, ha⟩ := ha
  obtain ⟨c63, ha⟩ := ha
  obtain ⟨c64, ha⟩ := ha
  obtain ⟨c65, ha⟩ := ha
  obtain ⟨c66, ha⟩ := ha
  obtain ⟨c67, ha⟩ := ha
  obtain ⟨c68, ha⟩ := ha
  obtain ⟨c69, ha⟩ := ha
  obtain ⟨c70, ha⟩ := ha
  obtain ⟨c71, ha⟩ := ha
  obtain ⟨c72, ha⟩ := ha
  obtain ⟨c73, ha⟩ := ha
  obtain ⟨c74, ha⟩ := ha
  obtain ⟨c75, ha⟩ := ha
  obtain ⟨c76, ha⟩ := ha
  obtain ⟨c77, ha⟩ := ha
  obtain ⟨c78, ha⟩ := ha
  obtain ⟨c79, ha⟩ := ha
  obtain ⟨c80, ha⟩ := ha
  obtain ⟨c81, ha⟩ := ha
  obtain ⟨c82, ha⟩ := ha
  obtain ⟨c83, ha⟩ := ha
  obtain ⟨c84, ha⟩ := ha
  obtain ⟨c85, ha⟩ := ha
  obtain ⟨c86, ha⟩ := ha
  obtain ⟨c87, ha⟩ := ha
  obtain ⟨c88, ha⟩ := ha
  obtain ⟨c89, ha⟩ := ha
  obtain ⟨c90, ha⟩ := ha
  obtain ⟨c91, ha⟩ := ha
  obtain ⟨c92, ha⟩ := ha
  obtain ⟨c93, ha⟩ := ha
  obtain ⟨c94, ha⟩ := ha
  obtain ⟨c95, ha⟩ := ha
  obtain ⟨c96, ha⟩ := ha
  obtain ⟨c97, ha⟩ := ha
  obtain ⟨c98, ha⟩ := ha
  obtain ⟨c99, ha⟩ := ha
  obtain ⟨c100, ha⟩ := ha
  obtain ⟨c101, ha⟩ := ha
  obtain ⟨c102, ha⟩ := ha
  obtain ⟨c103, ha⟩ := ha
  obtain ⟨c104, ha⟩ := ha
  obtain ⟨c105, ha⟩ := ha
  obtain ⟨c106, ha⟩ := ha
  obtain ⟨c107, ha⟩ := ha
  obtain ⟨c108, ha⟩ := ha
  obtain ⟨c109, ha⟩ := ha
  obtain ⟨c110, ha⟩ := ha
  obtain ⟨c111, ha⟩ := ha
  obtain ⟨c112, ha⟩ := ha
  obtain ⟨c113, ha⟩ := ha
  obtain ⟨c114, ha⟩ := ha
  obtain ⟨c115, ha⟩ := ha
  obtain ⟨c116, ha⟩ := ha
  obtain ⟨c117, ha⟩ := ha
  obtain ⟨c118, ha⟩ := ha
  obtain ⟨c119, ha⟩ := ha
  obtain ⟨c120, ha⟩ := ha
  obtain ⟨c121, ha⟩ := ha
  obtain ⟨c122, ha⟩ := ha
  obtain ⟨c123, ha⟩ := ha
  obtain ⟨c124, ha⟩ := ha
  obtain ⟨c125, ha⟩ := ha
  obtain ⟨c126, ha⟩ := ha
  obtain ⟨c127, ha⟩ := ha
  obtain ⟨c128, ha⟩ := ha
  obtain ⟨c129, ha⟩ := ha
  obtain ⟨c130, ha⟩ := ha
  obtain ⟨c131, ha⟩ := ha
  obtain ⟨c132, ha⟩ := ha
  obtain ⟨c133, ha⟩ := ha
  obtain ⟨c134, ha⟩ := ha
  obtain ⟨c135, ha⟩ := ha
  obtain ⟨c136, ha⟩ := ha
  obtain ⟨c137, ha⟩ := ha
  obtain ⟨c138, ha⟩ := ha
  obtain ⟨c139, ha⟩ := ha
  obtain ⟨c140, ha⟩ := ha
  obtain ⟨c141, ha⟩ := ha
  obtain ⟨c142, ha⟩ := ha
  obtain ⟨c143, ha⟩ := ha
  obtain ⟨c144, ha⟩ := ha
  obtain ⟨c145, ha⟩ := ha
  obtain ⟨c146, ha⟩ := ha
  obtain ⟨c147, ha⟩ := ha
  obtain ⟨c148, ha⟩ := ha
  obtain ⟨c149, ha⟩ := ha
  obtain ⟨c150, ha⟩ := ha
  obtain ⟨c151, ha⟩ := ha
  obtain ⟨c152, ha⟩ := ha
  obtain ⟨c153, ha⟩ := ha
  obtain ⟨c154, ha⟩ := ha
  obtain ⟨c155, ha⟩ := ha
  obtain ⟨c156, ha⟩ := ha
  obtain ⟨c157, ha⟩ := ha
  obtain ⟨c158, ha⟩ := ha
  obtain ⟨c159, ha⟩ := ha
  obtain ⟨c160, ha⟩ := ha
  obtain ⟨c161, ha⟩ := ha
  obtain ⟨c162, ha⟩ := ha
  obtain ⟨c163, ha⟩ := ha
  obtain ⟨c164, ha⟩ := ha
  obtain ⟨c165, ha⟩ := ha
  obtain ⟨c166, ha⟩ := ha
  obtain ⟨c167, ha⟩ := ha
  obtain ⟨c168, ha⟩ := ha
  obtain ⟨c169, ha⟩ := ha
  obtain ⟨c170, ha⟩ := ha
  obtain ⟨c171, ha⟩ := ha
  obtain ⟨c172, ha⟩ := ha
  obtain ⟨c173, ha⟩ := ha
  obtain ⟨c174, ha⟩ := ha
  obtain ⟨c175, ha⟩ := ha
  obtain ⟨c176, ha⟩ := ha
  obtain ⟨c177, ha⟩ := ha
  obtain ⟨c178, ha⟩ := ha
  obtain ⟨c179, ha⟩ := ha
  obtain ⟨c180, ha⟩ := ha
  obtain ⟨c181, ha⟩ := ha
  obtain ⟨c182, ha⟩ := ha
  obtain ⟨c183, ha⟩ := ha
  obtain ⟨c184, ha⟩ := ha
  obtain ⟨c185, ha⟩ := ha
  obtain ⟨c186, ha⟩ := ha
  obtain ⟨c187, ha⟩ := ha
  obtain ⟨c188, ha⟩ := ha
  obtain ⟨c189, ha⟩ := ha
  obtain ⟨c190, ha⟩ := ha
  obtain ⟨c191, ha⟩ := ha
  obtain ⟨c192, ha⟩ := ha
  obtain ⟨c193, ha⟩ := ha
  obtain ⟨c194, ha⟩ := ha
  obtain ⟨c195, ha⟩ := ha
  obtain ⟨c196, ha⟩ := ha
  obtain ⟨c197, ha⟩ := ha
  subst ha
  exact hh _ _ _ _ _ _ _ _ _ _ _ _ _ _ _ _ _ _ _ _ _ _ _ _ _ _ _ _ _ _ _ _ _ _ _ _ _ _ _ _ _ _ _ _ _ _ _ _ _ _ _ _ _ _ _ _ _ _ _ _ _ _ _ _ _ _ _ _ _ _ _ _ _ _ _ _ _ _ _ _ _ _ _ _ _ _ _ _ _ _ _ _ _ _ _ _ _ _ _ _ _ _ _ _ _ _ _ _ _ _ _ _ _ _ _ _ _ _ _ _ _ _ _ _ _ _ _ _ _ _ _ _ _ _ _ _ _ _ _ _ _ _ _ _ _ _ _ _ _ _ _ _ _ _ _ _ _ _ _ _ _ _ _ _ _ _ _ _ _ _ _ _ _ _ _ _ _ _ _ _ _ _ _ _ _ _ _ _ _
end

/- the line as it stands in the diff -/
def opFirst (o : UInt8 × List UInt8) : List UInt8 := if 10 ∈ o.2 then o.1 :: o.2 else o.1 :: (o.2 ++ [10])
theorem opLns_first (o : UInt8 × List UInt8) : opLns o = opFirst o :: (if 10 ∈ o.2 then [] else [rmk]) := by
  unfold opLns opFirst
  split <;> rfl
theorem opFirst_shape {o : UInt8 × List UInt8} (h : isLine o.2) : (opFirst o)[0]? = some o.1 ∧ ∃ q, (opFirst o).length = q + 1 ∧ (opFirst o)[q]? = some 10 ∧ 1 ≤ q := by
  unfold opFirst
  rcases h with ⟨y, h1, _⟩ | ⟨h1, h2⟩
  · rw [if_pos (by rw [h1]; simp), h1]
    refine ⟨rfl, y.length + 1, by simp, ?_, by omega⟩
    rw [List.getElem?_cons_succ, List.getElem?_append_right (Nat.le_refl _), Nat.sub_self]
    rfl
  · rw [if_neg h1]
    refine ⟨rfl, o.2.length + 1, by simp, ?_, by omega⟩
    rw [List.getElem?_cons_succ, List.getElem?_append_right (Nat.le_refl _), Nat.sub_self]
    rfl
/- what is known at a line -/
structure RdAt (L : List (List UInt8)) (w1 wq wr : World) (b0 o0 cl B bh x y : Nat) (u : Value) (dn : Sc (List UInt8)) : Prop where
  ls : LS w1 (.slice (some ⟨b0, o0, none⟩) L.length cl) L
  ll : L.length ≤ 1099511627776
  hb : HBox wr B bh x y u dn
  bl : Below B wq wr
  b1 : Below w1.heap.size w1 wq
  bw : w1.heap.size ≤ B
  bB : B ≤ bh
theorem RdAt.cell {L : List (List UInt8)} {w1 wq wr : World} {b0 o0 cl B bh x y : Nat} {u : Value} {dn : Sc (List UInt8)} (h : RdAt L w1 wq wr b0 o0 cl B bh x y u dn) {p : Nat} {t : List UInt8} (hp : L[p]? = some t) : wr.cell? ⟨b0, o0 + p, none⟩ = some (.string (mkB t)) := by
  obtain ⟨b, off, he, hc⟩ := h.ls.cell hp
  injection he with he
  injection he with he1 he2
  subst he1 he2
  exact ((h.b1.trans (h.bl.mono h.bw)).cell (p := ⟨b0, o0 + p, none⟩) (lt_of_cell hc)).trans hc

set_option maxRecDepth 1000000 in
set_option maxHeartbeats 8000000 in
theorem rdB (L : List (List UInt8)) (o n : List UInt8) (w1 wq wr : World) (b0 o0 cl B bh x y p : Nat) (u v : Value) (dn rm : Sc (List UInt8)) (cs : List Hk) (op : UInt8 × List UInt8) (mv kv : Value) (H : Hid (RdAt L w1 wq wr b0 o0 cl B bh x y u dn))
    (hd : L.drop p = (op :: rm).flatMap opLns ++ cs.flatMap ckLns) (hop : okOp op) (hrm : ∀ q ∈ rm, okOp q) (hol : op.2.length ≤ 1099511627776) (hdn : dn.length ≤ 1000000)
    (Q : Exit → Act → World → Prop) (hQ : ∀ p' u' a' w', L.drop p' = rm.flatMap opLns ++ cs.flatMap ckLns → p' ≤ L.length → RdAt L w1 wq w' b0 o0 cl B bh x y u' (dn ++ [op]) → (∃ ln, AtR L o n b0 o0 cl (.int .i64 (p' : Int)) v (.pointer (some ⟨bh, 0, none⟩)) mv kv ln a') → Q .normal a' w')
    (a : Act) (ha : AtR L o n b0 o0 cl (.int .i64 (p : Int)) v (.pointer (some ⟨bh, 0, none⟩)) mv kv (.string (mkB (opFirst op))) a) : Code.wp Tryd.prog (rdOf 23) Q a wr := by
  have HQ := Lib.hid hQ
  clear hQ
  refine AtR.elim (C := fun a => Code.wp Tryd.prog (rdOf 23) Q a wr) ?_ ha
  intro c0 c1 c2 c3 c4 c5 c14 c16 c17 c18 c19 c20 c21 c22 c23 c24 c25 c26 c27 c28 c29 c30 c31 c32 c33 c34 c35 c36 c37 c38 c39 c40 c41 c42 c43 c44 c45 c46 c47 c48 c49 c50 c51 c52 c53 c54 c55 c56 c57 c58 c59 c60 c61 c62 c63 c64 c65 c66 c67 c68 c69 c70 c71 c72 c73 c74 c75 c76 c77 c78 c79 c80 c81 c82 c83 c84 c85 c86 c87 c88 c89 c90 c91 c92 c93 c94 c95 c96 c97 c98 c99 c100 c101 c102 c103 c104 c105 c106 c107 c108 c109 c110 c111 c112 c113 c114 c115 c116 c117 c118 c119 c120 c121 c122 c123 c124 c125 c126 c127 c128 c129 c130 c131 c132 c133 c134 c135 c136 c137 c138 c139 c140 c141 c142 c143 c144 c145 c146 c147 c148 c149 c150 c151 c152 c153 c154 c155 c156 c157 c158 c159 c160 c161 c162 c163 c164 c165 c166 c167 c168 c169 c170 c171 c172 c173 c174 c175 c176 c177 c178 c179 c180 c181 c182 c183 c184 c185 c186 c187 c188 c189 c190 c191 c192 c193 c194 c195 c196 c197
  conv => arg 2; whnf
  rw [List.flatMap_cons, opLns_first] at hd
  obtain ⟨hpl, hp0, hd1⟩ := drop_cons (by rw [List.cons_append, List.cons_append] at hd; exact hd)
  obtain ⟨_, q, hql, hq10, hq1⟩ := opFirst_shape hop.2
  have hll := H.out.ll
  have hrow := H.out.hb.row
  obtain ⟨pv, cv, rfl⟩ := ownsRow_slice hrow
  have hbx := H.out.hb.box
  have h0 := cell_at (o := 2) hbx (.slice pv dn.length cv) rfl
  have hBw : B ≤ wr.heap.size := by have := lt_of_heap hbx; have := H.out.bB; omega
  obtain ⟨j0, hi, hz0, hz1, hz2⟩ := info_parts info_line
  have HROW := Lib.hid hrow
  have HOP := Lib.hid hop
  have HRM := Lib.hid hrm
  clear hrow hbx hd hop hrm hp0
  obtain ⟨ln, hln⟩ : ∃ ln, ln = op.1 :: op.2 := ⟨_, rfl⟩
  have HLN := Lib.hid hln
  have hsz := mkB_size (opFirst op)
  have hfl : (opFirst op).length ≤ 1099511627779 := by unfold opFirst; split <;> simp <;> omega
  by_cases hF : 10 ∈ op.2
  · have hfe : opFirst op = ln := by rw [hln]; unfold opFirst; rw [if_pos hF]
    rw [if_pos hF, List.nil_append] at hd1
    rw [hfe] at hsz hql hfl ⊢
    clear hF hfe hln
    by_cases hnx : p + 1 < L.length
    · obtain ⟨nx, hnx2⟩ : ∃ nx, L[p + 1]? = some nx := ⟨_, List.getElem?_eq_getElem hnx⟩
      have hdd : L.drop (p + 1) = nx :: L.drop (p + 2) := by
        rw [List.drop_eq_getElem_cons hnx]
        congr 1
        exact (List.getElem?_eq_some_iff.1 hnx2).2
      rw [hdd] at hd1
      obtain ⟨c, r, hc, hc92⟩ := next_line HRM.out hd1.symm
      have hz : 0 < (mkB nx).size := by rw [mkB_size, hc]; simp
      have g0 : (mkB nx)[0] = c := mkB_get (by rw [hc]; rfl) hz
      have n92 : ((c.toNat : Int) == 92) = false := beq_eq_false_iff_ne.2 fun h => hc92 (UInt8.toNat_inj.1 (by simp; omega))
      have cn := H.out.cell hnx2
      have HD1 : Hid (L.drop (p + 1) = rm.flatMap opLns ++ cs.flatMap ckLns) := Lib.hid (by rw [hdd, hd1])
      clear hd1 hdd hnx2 hc hc92
      go_wp2_with (at_builtin; refine wpList_append_own_at _ rfl _ _ 26 rfl B 9 j0 _ 1 16 Tryd.underlying26 hi hz0 hz1 hz2 rfl (by decide) _ _ _ rfl (HROW.out.alloc _) ⟨_, 0, none⟩ 1 1 [.string (mkB ln)] rfl rfl (cell_one_new _ _ _) (by simp [Value.oneCell']) (by unfold maxLen; omega) (by omega) (by simp; omega) ?_; intro v' w3 hown3 hg3 _ hat3; have HA3 := Lib.hid (H.out.hb.app (sg := op.1) (l := op.2) (by rw [← HLN.out]; exact hown3) hg3); have HB3 : Hid (Below B wq w3) := Lib.hid ((H.out.bl.alloc hBw _).grown hg3 (by simp; omega) (fun g hg => (HROW.out.lt g hg).1)); have z0 := cell_at (o := 2) HA3.out.1 (.slice pv dn.length cv) rfl; have z2 := free_at HA3.out.1 2; obtain ⟨pv3, cv3, rfl⟩ := ownsRow_slice hown3; clear hown3 hg3 hat3)
      exact HQ.out _ _ _ _ HD1.out (by omega) ⟨H.out.ls, H.out.ll, HA3.out.2, HB3.out.setCell (p := ⟨bh, 2, none⟩) H.out.bB _, H.out.b1, H.out.bw, H.out.bB⟩ ⟨_, AtR.intro⟩
    · have HD1 : Hid (L.drop (p + 1) = rm.flatMap opLns ++ cs.flatMap ckLns) := Lib.hid hd1
      clear hd1
      go_wp2_with (at_builtin; refine wpList_append_own_at _ rfl _ _ 26 rfl B 9 j0 _ 1 16 Tryd.underlying26 hi hz0 hz1 hz2 rfl (by decide) _ _ _ rfl (HROW.out.alloc _) ⟨_, 0, none⟩ 1 1 [.string (mkB ln)] rfl rfl (cell_one_new _ _ _) (by simp [Value.oneCell']) (by unfold maxLen; omega) (by omega) (by simp; omega) ?_; intro v' w3 hown3 hg3 _ hat3; have HA3 := Lib.hid (H.out.hb.app (sg := op.1) (l := op.2) (by rw [← HLN.out]; exact hown3) hg3); have HB3 : Hid (Below B wq w3) := Lib.hid ((H.out.bl.alloc hBw _).grown hg3 (by simp; omega) (fun g hg => (HROW.out.lt g hg).1)); have z0 := cell_at (o := 2) HA3.out.1 (.slice pv dn.length cv) rfl; have z2 := free_at HA3.out.1 2; obtain ⟨pv3, cv3, rfl⟩ := ownsRow_slice hown3; clear hown3 hg3 hat3)
      exact HQ.out _ _ _ _ HD1.out (by omega) ⟨H.out.ls, H.out.ll, HA3.out.2, HB3.out.setCell (p := ⟨bh, 2, none⟩) H.out.bB _, H.out.b1, H.out.bw, H.out.bB⟩ ⟨_, AtR.intro⟩
  · have hfe : opFirst op = ln ++ [10] := by rw [hln]; unfold opFirst; rw [if_neg hF]; rfl
    rw [if_neg hF, List.cons_append, List.nil_append] at hd1
    obtain ⟨hnx, hnx2, hdd⟩ := drop_cons hd1
    have hz : 0 < (mkB rmk).size := by rw [mkB_size]; decide
    have g0 : (mkB rmk)[0] = 92 := mkB_get (by rfl) hz
    have cn := H.out.cell hnx2
    have HD1 : Hid (L.drop (p + 2) = rm.flatMap opLns ++ cs.flatMap ckLns) := Lib.hid hdd
    obtain ⟨fl, hfl2⟩ : ∃ fl, fl = opFirst op := ⟨_, rfl⟩
    have hq2 : q = ln.length := by
      have := congrArg List.length hfe
      rw [hql, List.length_append] at this
      simp at this
      exact this
    have hsl : ∀ wx, (Instr.slice 9 (.string (mkB fl)) none (some (.int .i64 (q : Int))) none).run Tryd.prog wx = .ok (.string (mkB ln)) wx := fun wx => by
      have := run_slice_string_to_if (P := Tryd.prog) wx 9 (mkB fl) .i64 (q : Int) Tryd.underlying9
      rw [this, if_pos (by rw [mkB_size, hfl2, hql]; omega), extract_mkB, mkB_toList, hfl2, hfe, show ((q : Int)).toNat = q by omega, hq2]
      simp
    have i1 : ((opFirst op).length : Int) - 1 = (q : Int) := by omega
    have h2' : p + 2 ≤ L.length := by omega
    rw [← hfl2] at hsz hfl i1 ⊢
    clear hd1 hdd hnx2 hF hfe hln hq2 hfl2 hql
    obtain ⟨m1, hm1⟩ : ∃ m, m = mkB rmk := ⟨_, rfl⟩
    rw [← hm1] at cn
    have hz : 0 < m1.size := by rw [hm1]; exact hz
    have g0 : m1[0] = 92 := by subst hm1; exact g0
    clear hm1
    go_wp2_with (at_builtin; refine wpList_append_own_at _ rfl _ _ 26 rfl B 9 j0 _ 1 16 Tryd.underlying26 hi hz0 hz1 hz2 rfl (by decide) _ _ _ rfl (HROW.out.alloc _) ⟨_, 0, none⟩ 1 1 [.string (mkB ln)] rfl rfl (cell_one_new _ _ _) (by simp [Value.oneCell']) (by unfold maxLen; omega) (by omega) (by simp; omega) ?_; intro v' w3 hown3 hg3 _ hat3; have HA3 := Lib.hid (H.out.hb.app (sg := op.1) (l := op.2) (by rw [← HLN.out]; exact hown3) hg3); have HB3 : Hid (Below B wq w3) := Lib.hid ((H.out.bl.alloc hBw _).grown hg3 (by simp; omega) (fun g hg => (HROW.out.lt g hg).1)); have z0 := cell_at (o := 2) HA3.out.1 (.slice pv dn.length cv) rfl; have z2 := free_at HA3.out.1 2; obtain ⟨pv3, cv3, rfl⟩ := ownsRow_slice hown3; clear hown3 hg3 hat3)
    exact HQ.out _ _ _ _ HD1.out (by omega) ⟨H.out.ls, H.out.ll, HA3.out.2, HB3.out.setCell (p := ⟨bh, 2, none⟩) H.out.bB _, H.out.b1, H.out.bw, H.out.bB⟩ ⟨_, AtR.intro⟩
end Go.Proofs.YtncjclmhdhimdaaDoor
