/- The reference's Apply: its frame, its state; the step that keeps a line. -/
import Derived.Test.YtncjclmhdhimdaaDoorDLawKit
import Derived.Test.YtncjclmhdhimdaaDoorDMDefs
import Derived.Deep.QuietTactic
import Derived.BigQuiet
import Derived.Test.YtncjclmhdhimdaaDoorDLines
import Derived.Test.YtncjclmhdhimdaaDoorDTgs
import Derived.RegionTactic
import Derived.OwnWalk
import Derived.ChangeAlike
namespace Go.Proofs.YtncjclmhdhimdaaDoor
open Go.RowKit

noncomputable def apOf (n : Nat) : Code := ((Tryd.f17.body.bind (tailAt n)).getD .skip)
noncomputable def apReg (n : Nat) : Code := ((Tryd.f17.body.bind (regAt n)).getD .skip)
set_option maxRecDepth 1000000 in
def AtP (T : List (List UInt8)) (pt : Option Addr) (ct : Nat) (bk : Bool) (bs cst : Nat) (dr pu : UInt8) (ph : Option Addr) (nh ch : Nat) (v p h fr tt k : Value) (a : Act) : Prop :=
  ∃ c0 c3 c4 c5 c6 c7 c8 c14 c18 c19 c20 c21 c22 c23 c24 c25 c26 c30 c31 c32 c33 c34 c35 c36 c37 c38 c39 c40 c41 c42 c43 c44 c45 c46 c47 c48 c49 c50 c51 c52 c53 c54 c55 c56 c57 c58 c59 c60 c61 c62 c63 c64 c65 c66 c67 c68 c69 c70 c71 c72 c73 c74 c75 c76 c77 c78 c79 c80 c81 c82 c83 c84 c85 c86 c87 c88 c89 c90 c91 c92 c93 c94 c95 c96 c97 c98 c99 c100 c101 c102 c103 c104 c105 c106 c107 c108 c109 c110 c111 c112 c113 c114 c115 c116 c117 c118 c119 c120 c121 c122 c123 c124 c125 c126 c127 c128 c129 c130 c131 c132, a = (⟨#[c0, .slice pt T.length ct, .bool bk, c3, c4, c5, c6, c7, c8, v, .slice (some ⟨bs, 0, none⟩) T.length cst, p, .int .u8 (dr.toNat : Int), .int .u8 (pu.toNat : Int), c14, h, fr, tt, c18, c19, c20, c21, c22, c23, c24, c25, c26, .slice ph nh ch, .int .i64 (nh : Int), k, c30, c31, c32, c33, c34, c35, c36, c37, c38, c39, c40, c41, c42, c43, c44, c45, c46, c47, c48, c49, c50, c51, c52, c53, c54, c55, c56, c57, c58, c59, c60, c61, c62, c63, c64, c65, c66, c67, c68, c69, c70, c71, c72, c73, c74, c75, c76, c77, c78, c79, c80, c81, c82, c83, c84, c85, c86, c87, c88, c89, c90, c91, c92, c93, c94, c95, c96, c97, c98, c99, c100, c101, c102, c103, c104, c105, c106, c107, c108, c109, c110, c111, c112, c113, c114, c115, c116, c117, c118, c119, c120, c121, c122, c123, c124, c125, c126, c127, c128, c129, c130, c131, c132], []⟩ : Act)
section
variable {T : List (List UInt8)} {pt : Option Addr} {ct : Nat} {bk : Bool} {bs cst : Nat} {dr pu : UInt8} {ph : Option Addr} {nh ch : Nat} {v p h fr tt k : Value}
set_option maxRecDepth 1000000 in
theorem AtP.intro {c0 c3 c4 c5 c6 c7 c8 c14 c18 c19 c20 c21 c22 c23 c24 c25 c26 c30 c31 c32 c33 c34 c35 c36 c37 c38 c39 c40 c41 c42 c43 c44 c45 c46 c47 c48 c49 c50 c51 c52 c53 c54 c55 c56 c57 c58 c59 c60 c61 c62 c63 c64 c65 c66 c67 c68 c69 c70 c71 c72 c73 c74 c75 c76 c77 c78 c79 c80 c81 c82 c83 c84 c85 c86 c87 c88 c89 c90 c91 c92 c93 c94 c95 c96 c97 c98 c99 c100 c101 c102 c103 c104 c105 c106 c107 c108 c109 c110 c111 c112 c113 c114 c115 c116 c117 c118 c119 c120 c121 c122 c123 c124 c125 c126 c127 c128 c129 c130 c131 c132 : Value} : AtP T pt ct bk bs cst dr pu ph nh ch v p h fr tt k (⟨#[c0, .slice pt T.length ct, .bool bk, c3, c4, c5, c6, c7, c8, v, .slice (some ⟨bs, 0, none⟩) T.length cst, p, .int .u8 (dr.toNat : Int), .int .u8 (pu.toNat : Int), c14, h, fr, tt, c18, c19, c20, c21, c22, c23, c24, c25, c26, .slice ph nh ch, .int .i64 (nh : Int), k, c30, c31, c32, c33, c34, c35, c36, c37, c38, c39, c40, c41, c42, c43, c44, c45, c46, c47, c48, c49, c50, c51, c52, c53, c54, c55, c56, c57, c58, c59, c60, c61, c62, c63, c64, c65, c66, c67, c68, c69, c70, c71, c72, c73, c74, c75, c76, c77, c78, c79, c80, c81, c82, c83, c84, c85, c86, c87, c88, c89, c90, c91, c92, c93, c94, c95, c96, c97, c98, c99, c100, c101, c102, c103, c104, c105, c106, c107, c108, c109, c110, c111, c112, c113, c114, c115, c116, c117, c118, c119, c120, c121, c122, c123, c124, c125, c126, c127, c128, c129, c130, c131, c132], []⟩ : Act) := by
  unfold AtP
  repeat apply Exists.intro
  rfl
set_option maxRecDepth 1000000 in
set_option maxHeartbeats 4000000 in
theorem AtP.elim {C : Act → Prop} (hh : ∀ c0 c3 c4 c5 c6 c7 c8 c14 c18 c19 c20 c21 c22 c23 c24 c25 c26 c30 c31 c32 c33 c34 c35 c36 c37 c38 c39 c40 c41 c42 c43 c44 c45 c46 c47 c48 c49 c50 c51 c52 c53 c54 c55 c56 c57 c58 c59 c60 c61 c62 c63 c64 c65 c66 c67 c68 c69 c70 c71 c72 c73 c74 c75 c76 c77 c78 c79 c80 c81 c82 c83 c84 c85 c86 c87 c88 c89 c90 c91 c92 c93 c94 c95 c96 c97 c98 c99 c100 c101 c102 c103 c104 c105 c106 c107 c108 c109 c110 c111 c112 c113 c114 c115 c116 c117 c118 c119 c120 c121 c122 c123 c124 c125 c126 c127 c128 c129 c130 c131 c132, C (⟨#[c0, .slice pt T.length ct, .bool bk, c3, c4, c5, c6, c7, c8, v, .slice (some ⟨bs, 0, none⟩) T.length cst, p, .int .u8 (dr.toNat : Int), .int .u8 (pu.toNat : Int), c14, h, fr, tt, c18, c19, c20, c21, c22, c23, c24, c25, c26, .slice ph nh ch, .int .i64 (nh : Int), k, c30, c31, c32, c33, c34, c35, c36, c37, c38, c39, c40, c41, c42, c43, c44, c45, c46, c47, c48, c49, c50, c51, c52, c53, c54, c55, c56, c57, c58, c59, c60, c61, c62, c63, c64, c65, c66, c67, c68, c69, c70, c71, c72, c73, c74, c75, c76, c77, c78, c79, c80, c81, c82, c83, c84, c85, c86, c87, c88, c89, c90, c91, c92, c93, c94, c95, c96, c97, c98, c99, c100, c101, c102, c103, c104, c105, c106, c107, c108, c109, c110, c111, c112, c113, c114, c115, c116, c117, c118, c119, c120, c121, c122, c123, c124, c125, c126, c127, c128, c129, c130, c131, c132], []⟩ : Act)) {a : Act} (ha : AtP T pt ct bk bs cst dr pu ph nh ch v p h fr tt k a) : C a := by
  unfold AtP at ha
  obtain ⟨c0, ha⟩ := ha
  obtain ⟨c3, ha⟩ := ha
  obtain ⟨c4, ha⟩ := ha
  obtain ⟨c5, ha⟩ := ha
  obtain ⟨c6, ha⟩ := ha
  obtain ⟨c7, ha⟩ := ha
  obtain ⟨c8, ha⟩ := ha
  obtain ⟨c14, ha⟩ := ha
  obtain ⟨c18, ha⟩ := ha
  obtain ⟨c19, ha⟩ := ha
  obtain ⟨c20, ha⟩ := ha
  obtain ⟨c21, ha⟩ := ha
  obtain ⟨c22, ha⟩ := ha
  obtain ⟨c23, ha⟩ := ha
  obtain ⟨c24, ha⟩ := ha
  obtain ⟨c25, ha⟩ := ha
  obtain ⟨c26, ha⟩ := ha
  obtain ⟨c30, ha⟩ := ha
  obtain ⟨c31, ha⟩ := ha
  obtain ⟨c32, ha⟩ := ha
  obtain ⟨c33, ha⟩ := ha
  obtain ⟨c34, ha⟩ := ha
  obtain ⟨c35, ha⟩ := ha
  obtain ⟨c36, ha⟩ := ha
  obtain ⟨c37, ha⟩ := ha
  obtain ⟨c38, ha⟩ := ha
  obtain ⟨c39, ha⟩ := ha
  obtain ⟨c40, ha⟩ := ha
  obtain ⟨c41, ha⟩ := ha
  obtain ⟨c42, ha⟩ := ha
  obtain ⟨c43, ha⟩ := ha
  obtain ⟨c44, ha⟩ := ha
  obtain ⟨c45, ha⟩ := ha
  obtain ⟨c46, ha⟩ := ha
  obtain ⟨c47, ha⟩ := ha
  obtain ⟨c48, ha⟩ := ha
  obtain ⟨c49, ha⟩ := ha
  obtain ⟨c50, ha⟩ := ha
  obtain ⟨c51, ha⟩ := ha
  obtain ⟨c52, ha⟩ := ha
  obtain ⟨c53, ha⟩ := ha
  obtain ⟨c54, ha⟩ := ha
  obtain ⟨c55, ha⟩ := ha
  obtain ⟨c56, ha⟩ := ha
  obtain ⟨c57, ha⟩ := ha
  obtain ⟨c58, ha⟩ := ha
  obtain ⟨c59, ha⟩ := ha
  obtain ⟨c60, ha⟩ := ha
  obtain ⟨c61, ha⟩ := ha
  obtain ⟨c62, ha⟩ := ha
  obtain ⟨c63, ha⟩ := ha
  obtain ⟨c64, ha⟩ := ha
  obtain ⟨c65, ha⟩ := ha
  obtain ⟨c66, ha⟩ := ha
  obtain ⟨c67, ha⟩ := ha
  obtain ⟨c68, ha⟩ := ha
  obtain ⟨c69, ha⟩ := ha
  obtain ⟨c70, ha⟩ := ha
  obtain ⟨c71, ha⟩ := ha
  obtain ⟨c72, ha⟩ := ha
  obtain ⟨c73, ha⟩ := ha
  obtain ⟨c74, ha⟩ := ha
  obtain ⟨c75, ha⟩ := ha
  obtain ⟨c76, ha⟩ := ha
  obtain ⟨c77, ha⟩ := ha
  obtain ⟨c78, ha⟩ := ha
  obtain ⟨c79, ha⟩ := ha
  obtain ⟨c80, ha⟩ := ha
  obtain ⟨c81, ha⟩ := ha
  obtain ⟨c82, ha⟩ := ha
  obtain ⟨c83, ha⟩ := ha
  obtain ⟨c84, ha⟩ := ha
  obtain ⟨c85, ha⟩ := ha
  obtain ⟨c86, ha⟩ := ha
  obtain ⟨c87, ha⟩ := ha
  obtain ⟨c88, ha⟩ := ha
  obtain ⟨c89, ha⟩ := ha
  obtain ⟨c90, ha⟩ := ha
  obtain ⟨c91, ha⟩ := ha
  obtain ⟨c92, ha⟩ := ha
  obtain ⟨c93, ha⟩ := ha
  obtain ⟨c94, ha⟩ := ha
  obtain ⟨c95, ha⟩ := ha
  obtain ⟨c96, ha⟩ := ha
  obtain ⟨c97, ha⟩ := ha
  obtain ⟨c98, ha⟩ := ha
  obtain ⟨c99, ha⟩ := ha
  obtain ⟨c100, ha⟩ := ha
  obtain ⟨c101, ha⟩ := ha
  obtain ⟨c102, ha⟩ := ha
  obtain ⟨c103, ha⟩ := ha
  obtain ⟨c104, ha⟩ := ha
  obtain ⟨c105, ha⟩ := ha
  obtain ⟨c106, ha⟩ := ha
  obtain ⟨c107, ha⟩ := ha
  obtain ⟨c108, ha⟩ := ha
  obtain ⟨c109, ha⟩ := ha
  obtain ⟨c110, ha⟩ := ha
  obtain ⟨c111, ha⟩ := ha
  obtain ⟨c112, ha⟩ := ha
  obtain ⟨c113, ha⟩ := ha
  obtain ⟨c114, ha⟩ := ha
  obtain ⟨c115, ha⟩ := ha
  obtain ⟨c116, ha⟩ := ha
  obtain ⟨c117, ha⟩ := ha
  obtain ⟨c118, ha⟩ := ha
  obtain ⟨c119, ha⟩ := ha
  obtain ⟨c120, ha⟩ := ha
  obtain ⟨c121, ha⟩ := ha
  obtain ⟨c122, ha⟩ := ha
  obtain ⟨c123, ha⟩ := ha
  obtain ⟨c124, ha⟩ := ha
  obtain ⟨c125, ha⟩ := ha
  obtain ⟨c126, ha⟩ := ha
  obtain ⟨c127, ha⟩ := ha
  obtain ⟨c128, ha⟩ := ha
  obtain ⟨c129, ha⟩ := ha
  obtain ⟨c130, ha⟩ := ha
  obtain ⟨c131, ha⟩ := ha
  obtain ⟨c132, ha⟩ := ha
  subst ha
  exact hh _ _ _ _ _ _ _ _ _ _ _ _ _ _ _ _ _ _ _ _ _ _ _ _ _ _ _ _ _ _ _ _ _ _ _ _ _ _ _ _ _ _ _ _ _ _ _ _ _ _ _ _ _ _ _ _ _ _ _ _ _ _ _ _ _ _ _ _ _ _ _ _ _ _ _ _ _ _ _ _ _ _ _ _ _ _ _ _ _ _ _ _ _ _ _ _ _ _ _ _ _ _ _ _ _ _ _ _ _ _ _ _ _ _ _ _ _ _ _ _
end
def bools (l : List Bool) : List Value := l.map Value.bool
def pad (fl : List Bool) (n : Nat) : List Bool := fl ++ List.replicate (n - fl.length) false
theorem pad_get {fl : List Bool} {n : Nat} (h : fl.length < n) : (bools (pad fl n)).toArray[fl.length]? = some (.bool false) := by
  unfold bools pad
  rw [List.getElem?_toArray, List.getElem?_map, List.getElem?_append_right (Nat.le_refl _), Nat.sub_self, List.getElem?_replicate, if_pos (by omega)]
  rfl
theorem pad_drop {fl : List Bool} {n : Nat} (h : fl.length < n) : pad (fl ++ [false]) n = pad fl n := by
  unfold pad
  rw [List.length_append, List.length_singleton, List.append_assoc, List.singleton_append, ← List.replicate_succ, show n - (fl.length + 1) + 1 = n - fl.length by omega]
theorem pad_set {fl : List Bool} {n : Nat} (h : fl.length < n) : (bools (pad fl n)).toArray.setIfInBounds fl.length (.bool true) = (bools (pad (fl ++ [true]) n)).toArray := by
  rw [List.setIfInBounds_toArray]
  congr 1
  unfold bools
  rw [← List.map_set]
  congr 1
  unfold pad
  rw [List.length_append, List.length_singleton, List.set_append_right _ _ (Nat.le_refl _), Nat.sub_self, show n - fl.length = (n - (fl.length + 1)) + 1 by omega, List.replicate_succ, List.append_assoc]
  rfl
theorem blocks_ne {w : World} {b b' : Nat} {cs cs' : Array Value} {t t' : TypeId} (h : w.heap[b]? = some (.cells cs t (0, 0))) (h' : w.heap[b']? = some (.cells cs' t' (0, 0))) (hne : t ≠ t') : b ≠ b' := by
  rintro rfl
  rw [h] at h'
  injection h' with h'
  injection h' with _ h'
  exact hne h'
/- the state: the row of lines that are out, the flags -/
structure AP (w0 : World) (bo : Option (Nat × Array Value)) (bs n : Nat) (v : Value) (ls : List (List UInt8)) (fl : List Bool) (wr : World) : Prop where
  row : wr.ownsRow w0.heap.size 9 1 v ls.length (strs ls)
  stay : wr.heap[bs]? = some (.cells (bools (pad fl n)).toArray 4 (0, 0))
  bl : Below w0.heap.size w0 wr
  hb : w0.heap.size ≤ bs
  bx : ∀ p, bo = some p → wr.heap[p.1]? = some (.cells p.2 28 (0, 0))
theorem AP.below {w0 wr w' : World} {bo : Option (Nat × Array Value)} {bs n : Nat} {v : Value} {ls : List (List UInt8)} {fl : List Bool} (h : AP w0 bo bs n v ls fl wr) (hb : Below wr.heap.size wr w') : AP w0 bo bs n v ls fl w' :=
  ⟨ownsRow_below h.row hb, (hb.block _ (lt_of_heap h.stay)).trans h.stay, h.bl.trans (hb.mono h.bl.size), h.hb, fun p hp => (hb.block _ (lt_of_heap (h.bx p hp))).trans (h.bx p hp)⟩
theorem AP.app {w0 wr w3 : World} {bo : Option (Nat × Array Value)} {bs n : Nat} {v v' : Value} {ls : List (List UInt8)} {fl : List Bool} {s : List UInt8} {o : Obj} (h : AP w0 bo bs n v ls fl wr) (ho : w3.ownsRow w0.heap.size 9 1 v' (ls.length + 1) (strs ls ++ [.string (mkB s)])) (hg : (wr.alloc o).grownBy w3 v.ownBlock) : AP w0 bo bs n v' (ls ++ [s]) fl w3 := by
  have h1 := h.below ((Below.refl _ _).alloc (Nat.le_refl _) o)
  refine ⟨by rw [strs_snoc, List.length_append]; exact ho, ?_, h1.bl.grown hg h1.bl.size (fun q hq => (h.row.lt q hq).1), h.hb, fun p hp => (hg.block p.1 (lt_of_heap (h1.bx p hp)) fun he => row_ne h1.row (h1.bx p hp) (by decide) he.symm).trans (h1.bx p hp)⟩
  exact (hg.block bs (lt_of_heap h1.stay) fun he => row_ne h1.row h1.stay (by decide) he.symm).trans h1.stay
theorem AP.mark {w0 wr : World} {bo : Option (Nat × Array Value)} {bs n : Nat} {v : Value} {ls : List (List UInt8)} {fl : List Bool} (h : AP w0 bo bs n v ls fl wr) (hl : fl.length < n) : AP w0 bo bs n v ls (fl ++ [true]) (wr.setCell ⟨bs, fl.length, none⟩ (.bool true)) := by
  refine ⟨h.row.kept (Lib.grownBy_setCell wr bs _ _) (.inr fun he => row_ne h.row h.stay (by decide) he), ?_, h.bl.setCell (p := ⟨bs, fl.length, none⟩) h.hb _, h.hb, fun p hp => by rw [Below.heap_setCell _ _ _ _ (blocks_ne (h.bx p hp) h.stay (by decide))]; exact h.bx p hp⟩
  rw [heap_set _ h.stay, pad_set hl]
theorem AP.drop {w0 wr : World} {bo : Option (Nat × Array Value)} {bs n : Nat} {v : Value} {ls : List (List UInt8)} {fl : List Bool} (h : AP w0 bo bs n v ls fl wr) (hl : fl.length < n) : AP w0 bo bs n v ls (fl ++ [false]) wr :=
  ⟨h.row, by rw [pad_drop hl]; exact h.stay, h.bl, h.hb, h.bx⟩

/- where a script stands -/
theorem path_keep {T U : List (List UInt8)} {F : Sc (List UInt8)} {r : Nat} {o : UInt8 × List UInt8} (hp : Path T U 0 0 F T.length U.length) (h : F[r]? = some o) :
    (o.1 = 32 ∧ T[cX (F.take r)]? = some o.2 ∧ U[cY (F.take r)]? = some o.2) ∨ (o.1 = 45 ∧ T[cX (F.take r)]? = some o.2) ∨ (o.1 = 43 ∧ U[cY (F.take r)]? = some o.2) := by
  have hl := (List.getElem?_eq_some_iff.1 h).1
  have he : F = F.take r ++ o :: F.drop (r + 1) := by
    have h1 := List.drop_eq_getElem_cons hl
    rw [(List.getElem?_eq_some_iff.1 h).2] at h1
    rw [← h1, List.take_append_drop]
  have := hp.at_ he
  simpa using this
/- the state behind so many steps of a script -/
def APr (w0 : World) (bo : Option (Nat × Array Value)) (bs : Nat) (v : Value) (T U : List (List UInt8)) (F : Sc (List UInt8)) (r : Nat) (wr : World) : Prop := AP w0 bo bs T.length v (U.take (cY (F.take r))) (flags (F.take r)) wr
theorem outs_take {U : List (List UInt8)} {j : Nat} {s : List UInt8} (h : U[j]? = some s) : U.take (j + 1) = U.take j ++ [s] := by rw [List.take_add_one, h]; rfl
theorem flags_take {F : Sc (List UInt8)} {r : Nat} {o : UInt8 × List UInt8} (h : F[r]? = some o) : flags (F.take (r + 1)) = flags (F.take r) ++ if o.1 = 43 then [] else [o.1 == 32] := by
  rw [List.take_add_one, h, flags_app]
  congr 1
  show flags [o] = _
  unfold flags
  by_cases h : o.1 = 43 <;> simp [h]
theorem fl_len {F : Sc (List UInt8)} (r : Nat) : (flags (F.take r)).length = cX (F.take r) := flags_len _
theorem APr.keep {w0 wr w3 : World} {bo : Option (Nat × Array Value)} {bs : Nat} {v v' : Value} {T U : List (List UInt8)} {F : Sc (List UInt8)} {r : Nat} {s : List UInt8} {ob : Obj} (hp : Path T U 0 0 F T.length U.length) (h : APr w0 bo bs v T U F r wr) (hF : F[r]? = some (32, s))
    (ho : w3.ownsRow w0.heap.size 9 1 v' ((U.take (cY (F.take r))).length + 1) (strs (U.take (cY (F.take r))) ++ [.string (mkB s)])) (hg : (wr.alloc ob).grownBy w3 v.ownBlock) :
    w3.cell? ⟨bs, cX (F.take r), none⟩ = some (.bool false) ∧ w3.frozen? ⟨bs, cX (F.take r), none⟩ = false ∧ APr w0 bo bs v' T U F (r + 1) (w3.setCell ⟨bs, cX (F.take r), none⟩ (.bool true)) := by
  rcases path_keep hp hF with ⟨_, h1, h2⟩ | ⟨h1, _⟩ | ⟨h1, _⟩
  · have hlt := (List.getElem?_eq_some_iff.1 h1).1
    simp only at h1 h2
    have ha := AP.app h ho hg
    have hl : (flags (F.take r)).length < T.length := by rw [fl_len]; exact hlt
    have hm := ha.mark hl
    rw [fl_len] at hm
    refine ⟨?_, free_at ha.stay _, ?_⟩
    · have := cell_at (o := cX (F.take r)) ha.stay (.bool false) (by rw [← fl_len]; exact pad_get hl)
      exact this
    · unfold APr
      rw [cY_take hF, flags_take hF]
      simp only
      rw [if_neg (by decide), if_neg (by decide), outs_take h2]
      exact hm
  · exact absurd (show (32 : UInt8) = 45 from h1) (by decide)
  · exact absurd (show (32 : UInt8) = 43 from h1) (by decide)
theorem APr.put {w0 wr w3 : World} {bo : Option (Nat × Array Value)} {bs : Nat} {v v' : Value} {T U : List (List UInt8)} {F : Sc (List UInt8)} {r : Nat} {s : List UInt8} {ob : Obj} (hp : Path T U 0 0 F T.length U.length) (h : APr w0 bo bs v T U F r wr) (hF : F[r]? = some (43, s))
    (ho : w3.ownsRow w0.heap.size 9 1 v' ((U.take (cY (F.take r))).length + 1) (strs (U.take (cY (F.take r))) ++ [.string (mkB s)])) (hg : (wr.alloc ob).grownBy w3 v.ownBlock) : APr w0 bo bs v' T U F (r + 1) w3 := by
  rcases path_keep hp hF with ⟨h1, _⟩ | ⟨h1, _⟩ | ⟨_, h2⟩
  · exact absurd (show (43 : UInt8) = 32 from h1) (by decide)
  · exact absurd (show (43 : UInt8) = 45 from h1) (by decide)
  · have ha := AP.app h ho hg
    unfold APr
    rw [cY_take hF, flags_take hF]
    simp only
    rw [if_neg (by decide), if_pos trivial, List.append_nil, outs_take h2]
    exact ha
theorem APr.del {w0 wr : World} {bo : Option (Nat × Array Value)} {bs : Nat} {v : Value} {T U : List (List UInt8)} {F : Sc (List UInt8)} {r : Nat} {s : List UInt8} (hp : Path T U 0 0 F T.length U.length) (h : APr w0 bo bs v T U F r wr) (hF : F[r]? = some (45, s)) : APr w0 bo bs v T U F (r + 1) wr := by
  rcases path_keep hp hF with ⟨h1, _⟩ | ⟨_, h2⟩ | ⟨h1, _⟩
  · exact absurd (show (45 : UInt8) = 32 from h1) (by decide)
  · have hlt := (List.getElem?_eq_some_iff.1 h2).1
    unfold APr
    rw [cY_take hF, flags_take hF]
    simp only
    rw [if_pos trivial, if_neg (by decide), Nat.add_zero]
    exact AP.drop h (by rw [fl_len]; exact hlt)
  · exact absurd (show (45 : UInt8) = 43 from h1) (by decide)
end Go.Proofs.YtncjclmhdhimdaaDoor
/- The reference's Apply: the step that keeps a line, and the loops that only keep. -/
namespace Go.Proofs.YtncjclmhdhimdaaDoor
open Go.RowKit

structure APc (T U : List (List UInt8)) (F : Sc (List UInt8)) (w0 : World) (pt : Option Addr) (ct : Nat) : Prop where
  ls : LS w0 (.slice pt T.length ct) T
  path : Path T U 0 0 F T.length U.length
  tl : T.length ≤ 10000
  ul : U.length ≤ 10000
  sl : ∀ o ∈ F, o.2.length ≤ 1099511627776
theorem keeps_cX {F : Sc (List UInt8)} {r r1 : Nat} (h : ∀ t, r ≤ t → t < r1 → ∃ s, F[t]? = some (32, s)) : ∀ (n t : Nat), t + n = r1 → r ≤ t → cX (F.take r1) = cX (F.take t) + n := by
  intro n
  induction n with
  | zero => intro t ht _; rw [show r1 = t by omega]; rfl
  | succ n ih =>
    intro t ht hr
    obtain ⟨s, hs⟩ := h t hr (by omega)
    rw [ih (t + 1) (by omega) (by omega), cX_take hs]
    simp
    omega

set_option maxRecDepth 1000000 in
set_option maxHeartbeats 4000000 in
theorem apCp16 (T U : List (List UInt8)) (F : Sc (List UInt8)) (w0 : World) (bo : Option (Nat × Array Value)) (pt : Option Addr) (ct : Nat) (bk : Bool) (bs cst : Nat) (dr pu : UInt8) (ph : Option Addr) (nh ch : Nat) (HC : Hid (APc T U F w0 pt ct)) (v h fr tt k : Value) (r : Nat) (s : List UInt8) (a : Act) (wr : World) (hA : APr w0 bo bs v T U F r wr) (hF : F[r]? = some (32, s)) (ha : AtP T pt ct bk bs cst dr pu ph nh ch v (.int .i64 (cX (F.take r) : Int)) h fr tt k a)
    (Q : Exit → Act → World → Prop) (hQ : ∀ v' a' w', APr w0 bo bs v' T U F (r + 1) w' → AtP T pt ct bk bs cst dr pu ph nh ch v' (.int .i64 (cX (F.take r) : Int)) h fr tt k a' → Q .normal a' w') : Code.wp Tryd.prog (apReg 16) Q a wr := by
  have HA := Lib.hid hA
  have HQ := Lib.hid hQ
  have HF := Lib.hid hF
  obtain ⟨hT, hU⟩ : T[cX (F.take r)]? = some s ∧ U[cY (F.take r)]? = some s := by
    rcases path_keep HC.out.path hF with ⟨_, h1, h2⟩ | ⟨h1, _⟩ | ⟨h1, _⟩
    · exact ⟨h1, h2⟩
    · exact absurd (show (32 : UInt8) = 45 from h1) (by decide)
    · exact absurd (show (32 : UInt8) = 43 from h1) (by decide)
  have hlt := (List.getElem?_eq_some_iff.1 hT).1
  obtain ⟨b, off, rfl, hc⟩ := HC.out.ls.cell hT
  have hbl := AP.bl hA
  have hcell := (hbl.cell (p := ⟨b, off + cX (F.take r), none⟩) (lt_of_cell hc)).trans hc
  have hbs := hbl.size
  have htl := HC.out.tl
  have hul := HC.out.ul
  have hrow := AP.row hA
  obtain ⟨m, hm⟩ : ∃ m, m = (U.take (cY (F.take r))).length := ⟨_, rfl⟩
  have hm2 : m ≤ 10000 := by rw [hm, List.length_take]; omega
  rw [← hm] at hrow
  obtain ⟨pv, cv, rfl⟩ := ownsRow_slice hrow
  have HROW := Lib.hid hrow
  have HM := Lib.hid hm
  obtain ⟨j0, hi, hz0, hz1, hz2⟩ := info_parts info_line
  clear hA hQ hF hT hU hc hbl hrow hm
  refine AtP.elim (C := fun a => Code.wp Tryd.prog (apReg 16) Q a wr) ?_ ha
  intro c0 c3 c4 c5 c6 c7 c8 c14 c18 c19 c20 c21 c22 c23 c24 c25 c26 c30 c31 c32 c33 c34 c35 c36 c37 c38 c39 c40 c41 c42 c43 c44 c45 c46 c47 c48 c49 c50 c51 c52 c53 c54 c55 c56 c57 c58 c59 c60 c61 c62 c63 c64 c65 c66 c67 c68 c69 c70 c71 c72 c73 c74 c75 c76 c77 c78 c79 c80 c81 c82 c83 c84 c85 c86 c87 c88 c89 c90 c91 c92 c93 c94 c95 c96 c97 c98 c99 c100 c101 c102 c103 c104 c105 c106 c107 c108 c109 c110 c111 c112 c113 c114 c115 c116 c117 c118 c119 c120 c121 c122 c123 c124 c125 c126 c127 c128 c129 c130 c131 c132
  conv => arg 2; whnf
  obtain ⟨x, hx⟩ : ∃ x, x = cX (F.take r) := ⟨_, rfl⟩
  rw [← hx] at hlt hcell ⊢
  have HX := Lib.hid hx
  clear hx
  go_wp2_with (at_builtin; refine wpList_append_own_at _ rfl _ _ 26 rfl w0.heap.size 9 j0 _ 1 16 Tryd.underlying26 hi hz0 hz1 hz2 rfl (by decide) _ _ _ rfl (HROW.out.alloc _) ⟨_, 0, none⟩ 1 1 [.string (mkB s)] rfl rfl (cell_one_new _ _ _) (by simp [Value.oneCell']) (by unfold maxLen; omega) (by omega) (by simp; omega) ?_; intro v' w3 hown3 hg3 _ hat3; obtain ⟨z0, z1, z2⟩ := APr.keep HC.out.path HA.out HF.out (by rw [← HM.out]; exact hown3) hg3; rw [← HX.out] at z0 z1 z2; have Z2 := Lib.hid z2; clear hown3 hg3 hat3 z2)
  rw [HX.out]
  exact HQ.out _ _ _ (by rw [← HX.out]; exact Z2.out) AtP.intro

set_option maxRecDepth 1000000 in
set_option maxHeartbeats 4000000 in
theorem apCp33 (T U : List (List UInt8)) (F : Sc (List UInt8)) (w0 : World) (bo : Option (Nat × Array Value)) (pt : Option Addr) (ct : Nat) (bk : Bool) (bs cst : Nat) (dr pu : UInt8) (ph : Option Addr) (nh ch : Nat) (HC : Hid (APc T U F w0 pt ct)) (v h fr tt k : Value) (r : Nat) (s : List UInt8) (a : Act) (wr : World) (hA : APr w0 bo bs v T U F r wr) (hF : F[r]? = some (32, s)) (ha : AtP T pt ct bk bs cst dr pu ph nh ch v (.int .i64 (cX (F.take r) : Int)) h fr tt k a)
    (Q : Exit → Act → World → Prop) (hQ : ∀ v' a' w', APr w0 bo bs v' T U F (r + 1) w' → AtP T pt ct bk bs cst dr pu ph nh ch v' (.int .i64 (cX (F.take r) : Int)) h fr tt k a' → Q .normal a' w') : Code.wp Tryd.prog (apReg 33) Q a wr := by
  have HA := Lib.hid hA
  have HQ := Lib.hid hQ
  have HF := Lib.hid hF
  obtain ⟨hT, hU⟩ : T[cX (F.take r)]? = some s ∧ U[cY (F.take r)]? = some s := by
    rcases path_keep HC.out.path hF with ⟨_, h1, h2⟩ | ⟨h1, _⟩ | ⟨h1, _⟩
    · exact ⟨h1, h2⟩
    · exact absurd (show (32 : UInt8) = 45 from h1) (by decide)
    · exact absurd (show (32 : UInt8) = 43 from h1) (by decide)
  have hlt := (List.getElem?_eq_some_iff.1 hT).1
  obtain ⟨b, off, rfl, hc⟩ := HC.out.ls.cell hT
  have hbl := AP.bl hA
  have hcell := (hbl.cell (p := ⟨b, off + cX (F.take r), none⟩) (lt_of_cell hc)).trans hc
  have hbs := hbl.size
  have htl := HC.out.tl
  have hul := HC.out.ul
  have hrow := AP.row hA
  obtain ⟨m, hm⟩ : ∃ m, m = (U.take (cY (F.take r))).length := ⟨_, rfl⟩
  have hm2 : m ≤ 10000 := by rw [hm, List.length_take]; omega
  rw [← hm] at hrow
  obtain ⟨pv, cv, rfl⟩ := ownsRow_slice hrow
  have HROW := Lib.hid hrow
  have HM := Lib.hid hm
  obtain ⟨j0, hi, hz0, hz1, hz2⟩ := info_parts info_line
  clear hA hQ hF hT hU hc hbl hrow hm
  refine AtP.elim (C := fun a => Code.wp Tryd.prog (apReg 33) Q a wr) ?_ ha
  intro c0 c3 c4 c5 c6 c7 c8 c14 c18 c19 c20 c21 c22 c23 c24 c25 c26 c30 c31 c32 c33 c34 c35 c36 c37 c38 c39 c40 c41 c42 c43 c44 c45 c46 c47 c48 c49 c50 c51 c52 c53 c54 c55 c56 c57 c58 c59 c60 c61 c62 c63 c64 c65 c66 c67 c68 c69 c70 c71 c72 c73 c74 c75 c76 c77 c78 c79 c80 c81 c82 c83 c84 c85 c86 c87 c88 c89 c90 c91 c92 c93 c94 c95 c96 c97 c98 c99 c100 c101 c102 c103 c104 c105 c106 c107 c108 c109 c110 c111 c112 c113 c114 c115 c116 c117 c118 c119 c120 c121 c122 c123 c124 c125 c126 c127 c128 c129 c130 c131 c132
  conv => arg 2; whnf
  obtain ⟨x, hx⟩ : ∃ x, x = cX (F.take r) := ⟨_, rfl⟩
  rw [← hx] at hlt hcell ⊢
  have HX := Lib.hid hx
  clear hx
  go_wp2_with (at_builtin; refine wpList_append_own_at _ rfl _ _ 26 rfl w0.heap.size 9 j0 _ 1 16 Tryd.underlying26 hi hz0 hz1 hz2 rfl (by decide) _ _ _ rfl (HROW.out.alloc _) ⟨_, 0, none⟩ 1 1 [.string (mkB s)] rfl rfl (cell_one_new _ _ _) (by simp [Value.oneCell']) (by unfold maxLen; omega) (by omega) (by simp; omega) ?_; intro v' w3 hown3 hg3 _ hat3; obtain ⟨z0, z1, z2⟩ := APr.keep HC.out.path HA.out HF.out (by rw [← HM.out]; exact hown3) hg3; rw [← HX.out] at z0 z1 z2; have Z2 := Lib.hid z2; clear hown3 hg3 hat3 z2)
  rw [HX.out]
  exact HQ.out _ _ _ (by rw [← HX.out]; exact Z2.out) AtP.intro

def ApI14 (T U : List (List UInt8)) (F : Sc (List UInt8)) (w0 : World) (bo : Option (Nat × Array Value)) (pt : Option Addr) (ct : Nat) (bk : Bool) (bs cst : Nat) (dr pu : UInt8) (ph : Option Addr) (nh ch : Nat) (h tt k fr : Value) (r r1 g : Nat) (a : Act) (w : World) : Prop :=
  ∃ (t : Nat) (v : Value), r ≤ t ∧ t ≤ r1 ∧ r1 - t ≤ g ∧ APr w0 bo bs v T U F t w ∧ AtP T pt ct bk bs cst dr pu ph nh ch v (.int .i64 (cX (F.take t) : Int)) h fr tt k a
set_option maxRecDepth 1000000 in
set_option maxHeartbeats 4000000 in
theorem apRound14 (T U : List (List UInt8)) (F : Sc (List UInt8)) (w0 : World) (bo : Option (Nat × Array Value)) (pt : Option Addr) (ct : Nat) (bk : Bool) (bs cst : Nat) (dr pu : UInt8) (ph : Option Addr) (nh ch : Nat) (HC : Hid (APc T U F w0 pt ct)) (h tt k fr : Value) (r r1 bd : Nat) (hbd : bd = cX (F.take r1)) (hfr : fr = .int .i64 (bd : Int)) (hk : ∀ t, r ≤ t → t < r1 → ∃ s, F[t]? = some (32, s)) (hb : bd ≤ 10000)
    (g : Nat) (a : Act) (w : World) (hI : ApI14 T U F w0 bo pt ct bk bs cst dr pu ph nh ch h tt k fr r r1 g a w) (Q : Exit → Act → World → Prop) (hn : ∀ a' w', (∃ g', g' < g ∧ ApI14 T U F w0 bo pt ct bk bs cst dr pu ph nh ch h tt k fr r r1 g' a' w') → Q .normal a' w')
    (h0 : ∀ v a' w', APr w0 bo bs v T U F r1 w' → AtP T pt ct bk bs cst dr pu ph nh ch v (.int .i64 (bd : Int)) h fr tt k a' → Q (.exit 2) a' w') : Code.wp Tryd.prog (apOf 14) Q a w := by
  obtain ⟨t, v, hr, ht, hg, hA, ha⟩ := hI
  have hcx := keeps_cX hk (r1 - t) t (by omega) hr
  rw [← hbd] at hcx
  have HA := Lib.hid hA
  have HN := Lib.hid hn
  have H0 := Lib.hid h0
  have HBD := Lib.hid hbd
  have HK := Lib.hid hk
  subst hfr
  clear hA hn h0 hbd hk
  refine AtP.elim (C := fun a => Code.wp Tryd.prog (apOf 14) Q a w) ?_ ha
  intro c0 c3 c4 c5 c6 c7 c8 c14 c18 c19 c20 c21 c22 c23 c24 c25 c26 c30 c31 c32 c33 c34 c35 c36 c37 c38 c39 c40 c41 c42 c43 c44 c45 c46 c47 c48 c49 c50 c51 c52 c53 c54 c55 c56 c57 c58 c59 c60 c61 c62 c63 c64 c65 c66 c67 c68 c69 c70 c71 c72 c73 c74 c75 c76 c77 c78 c79 c80 c81 c82 c83 c84 c85 c86 c87 c88 c89 c90 c91 c92 c93 c94 c95 c96 c97 c98 c99 c100 c101 c102 c103 c104 c105 c106 c107 c108 c109 c110 c111 c112 c113 c114 c115 c116 c117 c118 c119 c120 c121 c122 c123 c124 c125 c126 c127 c128 c129 c130 c131 c132
  conv => arg 2; whnf
  obtain ⟨x, hx⟩ : ∃ x, x = cX (F.take t) := ⟨_, rfl⟩
  rw [← hx] at hcx ⊢
  have HX := Lib.hid hx
  have hc1 : bd ≤ x + (r1 - t) := by omega
  have hc2 : x + (r1 - t) ≤ bd := by omega
  clear hx hcx
  refine wp_seq_k fun K1 hK1 => ?_
  have H1 := Lib.hid hK1
  clear hK1
  
  by_cases hlt : t < r1
  · have hxb : x < bd := by omega
    
    go_wp2_with fail
    refine H1.out _ _ ?_
    clear H1
    obtain ⟨s, hs⟩ := HK.out t hr hlt
    have hcc := cX_take hs
    simp only at hcc
    rw [if_neg (by decide), ← HX.out] at hcc
    have HC1 := Lib.hid hcc
    clear hcc
    refine wp_seq_k fun K1 hK1 => ?_
    have H1 := Lib.hid hK1
    clear hK1
    refine wp_block ?_
    refine apCp16 T U F w0 bo pt ct bk bs cst dr pu ph nh ch HC v h _ tt k t s _ w HA.out hs (by rw [← HX.out]; exact AtP.intro) _ ?_
    intro v' a' w' k1 k2
    refine H1.out _ _ ?_
    clear H1
    rw [← HX.out] at k2
    have K1 := Lib.hid k1
    clear k1
    refine AtP.elim (C := fun a => Code.wp Tryd.prog _ Q a w') ?_ k2
    intros
    go_wp2_with fail
    refine HN.out _ _ ⟨g - 1, by omega, t + 1, v', by omega, hlt, by omega, K1.out, ?_⟩
    rw [HC1.out]
    exact AtP.intro
  · obtain rfl : t = r1 := by omega
    have hxb : x = bd := by omega
    subst hxb
    clear hc1 hc2
    have n1 : ¬ x < x := by omega
    go_wp2_with fail
    exact H0.out _ _ _ HA.out AtP.intro

def ApI31 (T U : List (List UInt8)) (F : Sc (List UInt8)) (w0 : World) (bo : Option (Nat × Array Value)) (pt : Option Addr) (ct : Nat) (bk : Bool) (bs cst : Nat) (dr pu : UInt8) (ph : Option Addr) (nh ch : Nat) (h tt k fr : Value) (r r1 g : Nat) (a : Act) (w : World) : Prop :=
  ∃ (t : Nat) (v : Value), r ≤ t ∧ t ≤ r1 ∧ r1 - t ≤ g ∧ APr w0 bo bs v T U F t w ∧ AtP T pt ct bk bs cst dr pu ph nh ch v (.int .i64 (cX (F.take t) : Int)) h fr tt k a
set_option maxRecDepth 1000000 in
set_option maxHeartbeats 4000000 in
theorem apRound31 (T U : List (List UInt8)) (F : Sc (List UInt8)) (w0 : World) (bo : Option (Nat × Array Value)) (pt : Option Addr) (ct : Nat) (bk : Bool) (bs cst : Nat) (dr pu : UInt8) (ph : Option Addr) (nh ch : Nat) (HC : Hid (APc T U F w0 pt ct)) (h tt k fr : Value) (r r1 bd : Nat) (hbd : bd = cX (F.take r1)) (hfr : bd = T.length) (hk : ∀ t, r ≤ t → t < r1 → ∃ s, F[t]? = some (32, s)) (hb : bd ≤ 10000)
    (g : Nat) (a : Act) (w : World) (hI : ApI31 T U F w0 bo pt ct bk bs cst dr pu ph nh ch h tt k fr r r1 g a w) (Q : Exit → Act → World → Prop) (hn : ∀ a' w', (∃ g', g' < g ∧ ApI31 T U F w0 bo pt ct bk bs cst dr pu ph nh ch h tt k fr r r1 g' a' w') → Q .normal a' w')
    (h0 : ∀ v a' w', APr w0 bo bs v T U F r1 w' → AtP T pt ct bk bs cst dr pu ph nh ch v (.int .i64 (bd : Int)) h fr tt k a' → Q (.exit 6) a' w') : Code.wp Tryd.prog (apOf 31) Q a w := by
  obtain ⟨t, v, hr, ht, hg, hA, ha⟩ := hI
  have hcx := keeps_cX hk (r1 - t) t (by omega) hr
  rw [← hbd] at hcx
  have HA := Lib.hid hA
  have HN := Lib.hid hn
  have H0 := Lib.hid h0
  have HBD := Lib.hid hbd
  have HK := Lib.hid hk
  have HFR := Lib.hid hfr
  clear hA hn h0 hbd hk hfr
  refine AtP.elim (C := fun a => Code.wp Tryd.prog (apOf 31) Q a w) ?_ ha
  intro c0 c3 c4 c5 c6 c7 c8 c14 c18 c19 c20 c21 c22 c23 c24 c25 c26 c30 c31 c32 c33 c34 c35 c36 c37 c38 c39 c40 c41 c42 c43 c44 c45 c46 c47 c48 c49 c50 c51 c52 c53 c54 c55 c56 c57 c58 c59 c60 c61 c62 c63 c64 c65 c66 c67 c68 c69 c70 c71 c72 c73 c74 c75 c76 c77 c78 c79 c80 c81 c82 c83 c84 c85 c86 c87 c88 c89 c90 c91 c92 c93 c94 c95 c96 c97 c98 c99 c100 c101 c102 c103 c104 c105 c106 c107 c108 c109 c110 c111 c112 c113 c114 c115 c116 c117 c118 c119 c120 c121 c122 c123 c124 c125 c126 c127 c128 c129 c130 c131 c132
  conv => arg 2; whnf
  obtain ⟨x, hx⟩ : ∃ x, x = cX (F.take t) := ⟨_, rfl⟩
  rw [← hx] at hcx ⊢
  have HX := Lib.hid hx
  have hc1 : bd ≤ x + (r1 - t) := by omega
  have hc2 : x + (r1 - t) ≤ bd := by omega
  clear hx hcx
  refine wp_seq_k fun K1 hK1 => ?_
  have H1 := Lib.hid hK1
  clear hK1
  have hTl := HFR.out
  by_cases hlt : t < r1
  · have hxb : x < T.length := by omega
    clear hTl
    go_wp2_with fail
    refine H1.out _ _ ?_
    clear H1
    obtain ⟨s, hs⟩ := HK.out t hr hlt
    have hcc := cX_take hs
    simp only at hcc
    rw [if_neg (by decide), ← HX.out] at hcc
    have HC1 := Lib.hid hcc
    clear hcc
    refine wp_seq_k fun K1 hK1 => ?_
    have H1 := Lib.hid hK1
    clear hK1
    refine wp_block ?_
    refine apCp33 T U F w0 bo pt ct bk bs cst dr pu ph nh ch HC v h _ tt k t s _ w HA.out hs (by rw [← HX.out]; exact AtP.intro) _ ?_
    intro v' a' w' k1 k2
    refine H1.out _ _ ?_
    clear H1
    rw [← HX.out] at k2
    have K1 := Lib.hid k1
    clear k1
    refine AtP.elim (C := fun a => Code.wp Tryd.prog _ Q a w') ?_ k2
    intros
    go_wp2_with fail
    refine HN.out _ _ ⟨g - 1, by omega, t + 1, v', by omega, hlt, by omega, K1.out, ?_⟩
    rw [HC1.out]
    exact AtP.intro
  · obtain rfl : t = r1 := by omega
    have hxb : x = bd := by omega
    subst hxb
    clear hc1 hc2 hTl
    have n1 : ¬ x < T.length := by have := HFR.out; omega
    go_wp2_with fail
    exact H0.out _ _ _ HA.out AtP.intro
end Go.Proofs.YtncjclmhdhimdaaDoor
/- The reference's Apply: a line of a hunk. -/
namespace Go.Proofs.YtncjclmhdhimdaaDoor
open Go.RowKit

set_option maxRecDepth 1000000 in
def AtQ (T : List (List UInt8)) (pt : Option Addr) (ct : Nat) (bk : Bool) (bs cst : Nat) (dr pu : UInt8) (ph : Option Addr) (nh ch : Nat) (v p h fr tt k ll ln li : Value) (a : Act) : Prop :=
  ∃ c0 c3 c4 c5 c6 c7 c8 c14 c18 c19 c20 c21 c22 c23 c24 c25 c26 c30 c31 c32 c33 c34 c35 c36 c37 c38 c39 c40 c41 c42 c43 c44 c45 c46 c47 c48 c49 c50 c51 c52 c53 c54 c55 c56 c57 c58 c59 c60 c61 c62 c63 c64 c65 c66 c67 c68 c72 c73 c74 c75 c76 c77 c78 c79 c80 c81 c82 c83 c84 c85 c86 c87 c88 c89 c90 c91 c92 c93 c94 c95 c96 c97 c98 c99 c100 c101 c102 c103 c104 c105 c106 c107 c108 c109 c110 c111 c112 c113 c114 c115 c116 c117 c118 c119 c120 c121 c122 c123 c124 c125 c126 c127 c128 c129 c130 c131 c132, a = (⟨#[c0, .slice pt T.length ct, .bool bk, c3, c4, c5, c6, c7, c8, v, .slice (some ⟨bs, 0, none⟩) T.length cst, p, .int .u8 (dr.toNat : Int), .int .u8 (pu.toNat : Int), c14, h, fr, tt, c18, c19, c20, c21, c22, c23, c24, c25, c26, .slice ph nh ch, .int .i64 (nh : Int), k, c30, c31, c32, c33, c34, c35, c36, c37, c38, c39, c40, c41, c42, c43, c44, c45, c46, c47, c48, c49, c50, c51, c52, c53, c54, c55, c56, c57, c58, c59, c60, c61, c62, c63, c64, c65, c66, c67, c68, ll, ln, li, c72, c73, c74, c75, c76, c77, c78, c79, c80, c81, c82, c83, c84, c85, c86, c87, c88, c89, c90, c91, c92, c93, c94, c95, c96, c97, c98, c99, c100, c101, c102, c103, c104, c105, c106, c107, c108, c109, c110, c111, c112, c113, c114, c115, c116, c117, c118, c119, c120, c121, c122, c123, c124, c125, c126, c127, c128, c129, c130, c131, c132], []⟩ : Act)
section
variable {T : List (List UInt8)} {pt : Option Addr} {ct : Nat} {bk : Bool} {bs cst : Nat} {dr pu : UInt8} {ph : Option Addr} {nh ch : Nat} {v p h fr tt k ll ln li : Value}
set_option maxRecDepth 1000000 in
theorem AtQ.intro {c0 c3 c4 c5 c6 c7 c8 c14 c18 c19 c20 c21 c22 c23 c24 c25 c26 c30 c31 c32 c33 c34 c35 c36 c37 c38 c39 c40 c41 c42 c43 c44 c45 c46 c47 c48 c49 c50 c51 c52 c53 c54 c55 c56 c57 c58 c59 c60 c61 c62 c63 c64 c65 c66 c67 c68 c72 c73 c74 c75 c76 c77 c78 c79 c80 c81 c82 c83 c84 c85 c86 c87 c88 c89 c90 c91 c92 c93 c94 c95 c96 c97 c98 c99 c100 c101 c102 c103 c104 c105 c106 c107 c108 c109 c110 c111 c112 c113 c114 c115 c116 c117 c118 c119 c120 c121 c122 c123 c124 c125 c126 c127 c128 c129 c130 c131 c132 : Value} : AtQ T pt ct bk bs cst dr pu ph nh ch v p h fr tt k ll ln li (⟨#[c0, .slice pt T.length ct, .bool bk, c3, c4, c5, c6, c7, c8, v, .slice (some ⟨bs, 0, none⟩) T.length cst, p, .int .u8 (dr.toNat : Int), .int .u8 (pu.toNat : Int), c14, h, fr, tt, c18, c19, c20, c21, c22, c23, c24, c25, c26, .slice ph nh ch, .int .i64 (nh : Int), k, c30, c31, c32, c33, c34, c35, c36, c37, c38, c39, c40, c41, c42, c43, c44, c45, c46, c47, c48, c49, c50, c51, c52, c53, c54, c55, c56, c57, c58, c59, c60, c61, c62, c63, c64, c65, c66, c67, c68, ll, ln, li, c72, c73, c74, c75, c76, c77, c78, c79, c80, c81, c82, c83, c84, c85, c86, c87, c88, c89, c90, c91, c92, c93, c94, c95, c96, c97, c98, c99, c100, c101, c102, c103, c104, c105, c106, c107, c108, c109, c110, c111, c112, c113, c114, c115, c116, c117, c118, c119, c120, c121, c122, c123, c124, c125, c126, c127, c128, c129, c130, c131, c132], []⟩ : Act) := by
  unfold AtQ
  repeat apply Exists.intro
  rfl
set_option maxRecDepth 1000000 in
set_option maxHeartbeats 4000000 in
theorem AtQ.elim {C : Act → Prop} (hh : ∀ c0 c3 c4 c5 c6 c7 c8 c14 c18 c19 c20 c21 c22 c23 c24 c25 c26 c30 c31 c32 c33 c34 c35 c36 c37 c38 c39 c40 c41 c42 c43 c44 c45 c46 c47 c48 c49 c50 c51 c52 c53 c54 c55 c56 c57 c58 c59 c60 c61 c62 c63 c64 c65 c66 c67 c68 c72 c73 c74 c75 c76 c77 c78 c79 c80 c81 c82 c83 c84 c85 c86 c87 c88 c89 c90 c91 c92 c93 c94 c95 c96 c97 c98 c99 c100 c101 c102 c103 c104 c105 c106 c107 c108 c109 c110 c111 c112 c113 c114 c115 c116 c117 c118 c119 c120 c121 c122 c123 c124 c125 c126 c127 c128 c129 c130 c131 c132, C (⟨#[c0, .slice pt T.length ct, .bool bk, c3, c4, c5, c6, c7, c8, v, .slice (some ⟨bs, 0, none⟩) T.length cst, p, .int .u8 (dr.toNat : Int), .int .u8 (pu.toNat : Int), c14, h, fr, tt, c18, c19, c20, c21, c22, c23, c24, c25, c26, .slice ph nh ch, .int .i64 (nh : Int), k, c30, c31, c32, c33, c34, c35, c36, c37, c38, c39, c40, c41, c42, c43, c44, c45, c46, c47, c48, c49, c50, c51, c52, c53, c54, c55, c56, c57, c58, c59, c60, c61, c62, c63, c64, c65, c66, c67, c68, ll, ln, li, c72, c73, c74, c75, c76, c77, c78, c79, c80, c81, c82, c83, c84, c85, c86, c87, c88, c89, c90, c91, c92, c93, c94, c95, c96, c97, c98, c99, c100, c101, c102, c103, c104, c105, c106, c107, c108, c109, c110, c111, c112, c113, c114, c115, c116, c117, c118, c119, c120, c121, c122, c123, c124, c125, c126, c127, c128, c129, c130, c131, c132], []⟩ : Act)) {a : Act} (ha : AtQ T pt ct bk bs cst dr pu ph nh ch v p h fr tt k ll ln li a) : C a := by
  unfold AtQ at ha
  obtain ⟨c0, ha⟩ := ha
  obtain ⟨c3, ha⟩ := ha
  obtain ⟨c4, ha⟩ := ha
  obtain ⟨c5, ha⟩ := ha
  obtain ⟨c6, ha⟩ := ha
  obtain ⟨c7, ha⟩ := ha
  obtain ⟨c8, ha⟩ := ha
  obtain ⟨c14, ha⟩ := ha
  obtain ⟨c18, ha⟩ := ha
  obtain ⟨c19, ha⟩ := ha
  obtain ⟨c20, ha⟩ := ha
  obtain ⟨c21, ha⟩ := ha
  obtain ⟨c22, ha⟩ := ha
  obtain ⟨c23, ha⟩ := ha
  obtain ⟨c24, ha⟩ := ha
  obtain ⟨c25, ha⟩ := ha
  obtain ⟨c26, ha⟩ := ha
  obtain ⟨c30, ha⟩ := ha
  obtain ⟨c31, ha⟩ := ha
  obtain ⟨c32, ha⟩ := ha
  obtain ⟨c33, ha⟩ := ha
  obtain ⟨c34, ha⟩ := ha
  obtain ⟨c35, ha⟩ := ha
  obtain ⟨c36, ha⟩ := ha
  obtain ⟨c37, ha⟩ := ha
  obtain ⟨c38, ha⟩ := ha
  obtain ⟨c39, ha⟩ := ha
  obtain ⟨c40, ha⟩ := ha
  obtain ⟨c41, ha⟩ := ha
  obtain ⟨c42, ha⟩ := ha
  obtain ⟨c43, ha⟩ := ha
  obtain ⟨c44, ha⟩ := ha
  obtain ⟨c45, ha⟩ := ha
  obtain ⟨c46, ha⟩ := ha
  obtain ⟨c47, ha⟩ := ha
  obtain ⟨c48, ha⟩ := ha
  obtain ⟨c49, ha⟩ := ha
  obtain ⟨c50, ha⟩ := ha
  obtain ⟨c51, ha⟩ := ha
  obtain ⟨c52, ha⟩ := ha
  obtain ⟨c53, ha⟩ := ha
  obtain ⟨c54, ha⟩ := ha
  obtain ⟨c55, ha⟩ := ha
  obtain ⟨c56, ha⟩ := ha
  obtain ⟨c57, ha⟩ := ha
  obtain ⟨c58, ha⟩ := ha
  obtain ⟨c59, ha⟩ := ha
  obtain ⟨c60, ha⟩ := ha
  obtain ⟨c61, ha⟩ := ha
  obtain ⟨c62, ha⟩ := ha
  obtain ⟨c63, ha⟩ := ha
  obtain ⟨c64, ha⟩ := ha
  obtain ⟨c65, ha⟩ := ha
  obtain ⟨c66, ha⟩ := ha
  obtain ⟨c67, ha⟩ := ha
  obtain ⟨c68, ha⟩ := ha
  obtain ⟨c72, ha⟩ := ha
  obtain ⟨c73, ha⟩ := ha
  obtain ⟨c74, ha⟩ := ha
  obtain ⟨c75, ha⟩ := ha
  obtain ⟨c76, ha⟩ := ha
  obtain ⟨c77, ha⟩ := ha
  obtain ⟨c78, ha⟩ := ha
  obtain ⟨c79, ha⟩ := ha
  obtain ⟨c80, ha⟩ := ha
  obtain ⟨c81, ha⟩ := ha
  obtain ⟨c82, ha⟩ := ha
  obtain ⟨c83, ha⟩ := ha
  obtain ⟨c84, ha⟩ := ha
  obtain ⟨c85, ha⟩ := ha
  obtain ⟨c86, ha⟩ := ha
  obtain ⟨c87, ha⟩ := ha
  obtain ⟨c88, ha⟩ := ha
  obtain ⟨c89, ha⟩ := ha
  obtain ⟨c90, ha⟩ := ha
  obtain ⟨c91, ha⟩ := ha
  obtain ⟨c92, ha⟩ := ha
  obtain ⟨c93, ha⟩ := ha
  obtain ⟨c94, ha⟩ := ha
  obtain ⟨c95, ha⟩ := ha
  obtain ⟨c96, ha⟩ := ha
  obtain ⟨c97, ha⟩ := ha
  obtain ⟨c98, ha⟩ := ha
  obtain ⟨c99, ha⟩ := ha
  obtain ⟨c100, ha⟩ := ha
  obtain ⟨c101, ha⟩ := ha
  obtain ⟨c102, ha⟩ := ha
  obtain ⟨c103, ha⟩ := ha
  obtain ⟨c104, ha⟩ := ha
  obtain ⟨c105, ha⟩ := ha
  obtain ⟨c106, ha⟩ := ha
  obtain ⟨c107, ha⟩ := ha
  obtain ⟨c108, ha⟩ := ha
  obtain ⟨c109, ha⟩ := ha
  obtain ⟨c110, ha⟩ := ha
  obtain ⟨c111, ha⟩ := ha
  obtain ⟨c112, ha⟩ := ha
  obtain ⟨c113, ha⟩ := ha
  obtain ⟨c114, ha⟩ := ha
  obtain ⟨c115, ha⟩ := ha
  obtain ⟨c116, ha⟩ := ha
  obtain ⟨c117, ha⟩ := ha
  obtain ⟨c118, ha⟩ := ha
  obtain ⟨c119, ha⟩ := ha
  obtain ⟨c120, ha⟩ := ha
  obtain ⟨c121, ha⟩ := ha
  obtain ⟨c122, ha⟩ := ha
  obtain ⟨c123, ha⟩ := ha
  obtain ⟨c124, ha⟩ := ha
  obtain ⟨c125, ha⟩ := ha
  obtain ⟨c126, ha⟩ := ha
  obtain ⟨c127, ha⟩ := ha
  obtain ⟨c128, ha⟩ := ha
  obtain ⟨c129, ha⟩ := ha
  obtain ⟨c130, ha⟩ := ha
  obtain ⟨c131, ha⟩ := ha
  obtain ⟨c132, ha⟩ := ha
  subst ha
  exact hh _ _ _ _ _ _ _ _ _ _ _ _ _ _ _ _ _ _ _ _ _ _ _ _ _ _ _ _ _ _ _ _ _ _ _ _ _ _ _ _ _ _ _ _ _ _ _ _ _ _ _ _ _ _ _ _ _ _ _ _ _ _ _ _ _ _ _ _ _ _ _ _ _ _ _ _ _ _ _ _ _ _ _ _ _ _ _ _ _ _ _ _ _ _ _ _ _ _ _ _ _ _ _ _ _ _ _ _ _ _ _ _ _ _ _ _ _
end

set_option maxRecDepth 1000000 in
set_option maxHeartbeats 4000000 in
theorem apCp27 (T U : List (List UInt8)) (F : Sc (List UInt8)) (w0 : World) (bo : Option (Nat × Array Value)) (pt : Option Addr) (ct : Nat) (bk : Bool) (bs cst : Nat) (dr pu : UInt8) (ph : Option Addr) (nh ch : Nat) (HC : Hid (APc T U F w0 pt ct)) (v h fr tt k ll ln li : Value) (r : Nat) (s : List UInt8) (a : Act) (wr : World) (hA : APr w0 bo bs v T U F r wr) (hF : F[r]? = some (32, s)) (ha : AtQ T pt ct bk bs cst dr pu ph nh ch v (.int .i64 (cX (F.take r) : Int)) h fr tt k ll ln li a)
    (Q : Exit → Act → World → Prop) (hQ : ∀ v' a' w', APr w0 bo bs v' T U F (r + 1) w' → AtQ T pt ct bk bs cst dr pu ph nh ch v' (.int .i64 (cX (F.take r) : Int)) h fr tt k ll ln li a' → Q .normal a' w') : Code.wp Tryd.prog (apReg 27) Q a wr := by
  have HA := Lib.hid hA
  have HQ := Lib.hid hQ
  have HF := Lib.hid hF
  obtain ⟨hT, hU⟩ : T[cX (F.take r)]? = some s ∧ U[cY (F.take r)]? = some s := by
    rcases path_keep HC.out.path hF with ⟨_, h1, h2⟩ | ⟨h1, _⟩ | ⟨h1, _⟩
    · exact ⟨h1, h2⟩
    · exact absurd (show (32 : UInt8) = 45 from h1) (by decide)
    · exact absurd (show (32 : UInt8) = 43 from h1) (by decide)
  have hlt := (List.getElem?_eq_some_iff.1 hT).1
  obtain ⟨b, off, rfl, hc⟩ := HC.out.ls.cell hT
  have hbl := AP.bl hA
  have hcell := (hbl.cell (p := ⟨b, off + cX (F.take r), none⟩) (lt_of_cell hc)).trans hc
  have hbs := hbl.size
  have htl := HC.out.tl
  have hul := HC.out.ul
  have hrow := AP.row hA
  obtain ⟨m, hm⟩ : ∃ m, m = (U.take (cY (F.take r))).length := ⟨_, rfl⟩
  have hm2 : m ≤ 10000 := by rw [hm, List.length_take]; omega
  rw [← hm] at hrow
  obtain ⟨pv, cv, rfl⟩ := ownsRow_slice hrow
  have HROW := Lib.hid hrow
  have HM := Lib.hid hm
  obtain ⟨j0, hi, hz0, hz1, hz2⟩ := info_parts info_line
  clear hA hQ hF hT hU hc hbl hrow hm
  refine AtQ.elim (C := fun a => Code.wp Tryd.prog (apReg 27) Q a wr) ?_ ha
  intro c0 c3 c4 c5 c6 c7 c8 c14 c18 c19 c20 c21 c22 c23 c24 c25 c26 c30 c31 c32 c33 c34 c35 c36 c37 c38 c39 c40 c41 c42 c43 c44 c45 c46 c47 c48 c49 c50 c51 c52 c53 c54 c55 c56 c57 c58 c59 c60 c61 c62 c63 c64 c65 c66 c67 c68 c72 c73 c74 c75 c76 c77 c78 c79 c80 c81 c82 c83 c84 c85 c86 c87 c88 c89 c90 c91 c92 c93 c94 c95 c96 c97 c98 c99 c100 c101 c102 c103 c104 c105 c106 c107 c108 c109 c110 c111 c112 c113 c114 c115 c116 c117 c118 c119 c120 c121 c122 c123 c124 c125 c126 c127 c128 c129 c130 c131 c132
  conv => arg 2; whnf
  obtain ⟨x, hx⟩ : ∃ x, x = cX (F.take r) := ⟨_, rfl⟩
  rw [← hx] at hlt hcell ⊢
  have HX := Lib.hid hx
  clear hx
  go_wp2_with (at_builtin; refine wpList_append_own_at _ rfl _ _ 26 rfl w0.heap.size 9 j0 _ 1 16 Tryd.underlying26 hi hz0 hz1 hz2 rfl (by decide) _ _ _ rfl (HROW.out.alloc _) ⟨_, 0, none⟩ 1 1 [.string (mkB s)] rfl rfl (cell_one_new _ _ _) (by simp [Value.oneCell']) (by unfold maxLen; omega) (by omega) (by simp; omega) ?_; intro v' w3 hown3 hg3 _ hat3; obtain ⟨z0, z1, z2⟩ := APr.keep HC.out.path HA.out HF.out (by rw [← HM.out]; exact hown3) hg3; rw [← HX.out] at z0 z1 z2; have Z2 := Lib.hid z2; clear hown3 hg3 hat3 z2)
  rw [HX.out]
  exact HQ.out _ _ _ (by rw [← HX.out]; exact Z2.out) AtQ.intro

set_option maxRecDepth 1000000 in
set_option maxHeartbeats 8000000 in
theorem apOp (T U : List (List UInt8)) (F : Sc (List UInt8)) (w0 : World) (bo : Option (Nat × Array Value)) (pt : Option Addr) (ct : Nat) (bk : Bool) (bs cst : Nat) (dr pu : UInt8) (ph : Option Addr) (nh ch : Nat) (HC : Hid (APc T U F w0 pt ct)) (v h fr tt k : Value) (pl : Option Addr) (nl cl j : Nat) (r : Nat) (o : UInt8 × List UInt8) (mb : UInt8)
    (hpu : mb = pu ↔ o.1 = 43) (hdr : mb = dr ↔ o.1 = 45) (a : Act) (wr : World) (hA : APr w0 bo bs v T U F r wr) (hF : F[r]? = some o) (hcl : ∃ gl, pl = some ⟨gl, 0, none⟩ ∧ wr.cell? ⟨gl, j, none⟩ = some (.string (mkB (mb :: o.2)))) (hj : j < nl)
    (ha : AtQ T pt ct bk bs cst dr pu ph nh ch v (.int .i64 (cX (F.take r) : Int)) h fr tt k (.slice pl nl cl) (.int .i64 (nl : Int)) (.int .i64 (j : Int)) a)
    (Q : Exit → Act → World → Prop) (hQ : ∀ v' a' w', Below w0.heap.size w0 w' → APr w0 bo bs v' T U F (r + 1) w' → AtQ T pt ct bk bs cst dr pu ph nh ch v' (.int .i64 (cX (F.take (r + 1)) : Int)) h fr tt k (.slice pl nl cl) (.int .i64 (nl : Int)) (.int .i64 (j : Int)) a' → Q .normal a' w' ∧ Q (.exit 5) a' w') :
    Code.wp Tryd.prog (apOf 21) Q a wr := by
  have HA := Lib.hid hA
  have HQ := Lib.hid hQ
  have HF := Lib.hid hF
  obtain ⟨gl, rfl, hcell⟩ := hcl
  have hol := HC.out.sl o (List.mem_of_getElem? hF)
  have hbl := AP.bl hA
  have hbs := hbl.size
  have htl := HC.out.tl
  have hul := HC.out.ul
  have hrow := AP.row hA
  obtain ⟨m, hm⟩ : ∃ m, m = (U.take (cY (F.take r))).length := ⟨_, rfl⟩
  have hm2 : m ≤ 10000 := by rw [hm, List.length_take]; omega
  rw [← hm] at hrow
  obtain ⟨pv, cv, rfl⟩ := ownsRow_slice hrow
  have HROW := Lib.hid hrow
  have HM := Lib.hid hm
  obtain ⟨j0, hi, hz0, hz1, hz2⟩ := info_parts info_line
  obtain ⟨l, hl⟩ : ∃ l, l = mb :: o.2 := ⟨_, rfl⟩
  rw [← hl] at hcell
  have hsz : (mkB l).size = o.2.length + 1 := by rw [mkB_size, hl]; rfl
  have hz : 0 < (mkB l).size := by omega
  have f0 : (mkB l)[0] = mb := by subst hl; rfl
  have hsl : ∀ wx, (Instr.slice 9 (.string (mkB l)) (some (.int .i64 1)) none none).run Tryd.prog wx = .ok (.string (mkB o.2)) wx := fun wx => by
    have := run_slice_string_from_if (P := Tryd.prog) wx 9 (mkB l) .i64 1 Tryd.underlying9
    rw [this, if_pos (by omega), extract_mkB, mkB_toList, hl]
    have : (mkB (mb :: o.2)).size = (mb :: o.2).length := mkB_size _
    rw [this, List.take_length]
    rfl
  have hpk := path_keep HC.out.path hF
  obtain ⟨x, hx⟩ : ∃ x, x = cX (F.take r) := ⟨_, rfl⟩
  rw [← hx] at ha hpk
  have HX := Lib.hid hx
  have hct := cX_take hF
  have HCT := Lib.hid hct
  clear hA hQ hF hbl hrow hm hl hx hct
  refine AtQ.elim (C := fun a => Code.wp Tryd.prog (apOf 21) Q a wr) ?_ ha
  intro c0 c3 c4 c5 c6 c7 c8 c14 c18 c19 c20 c21 c22 c23 c24 c25 c26 c30 c31 c32 c33 c34 c35 c36 c37 c38 c39 c40 c41 c42 c43 c44 c45 c46 c47 c48 c49 c50 c51 c52 c53 c54 c55 c56 c57 c58 c59 c60 c61 c62 c63 c64 c65 c66 c67 c68 c72 c73 c74 c75 c76 c77 c78 c79 c80 c81 c82 c83 c84 c85 c86 c87 c88 c89 c90 c91 c92 c93 c94 c95 c96 c97 c98 c99 c100 c101 c102 c103 c104 c105 c106 c107 c108 c109 c110 c111 c112 c113 c114 c115 c116 c117 c118 c119 c120 c121 c122 c123 c124 c125 c126 c127 c128 c129 c130 c131 c132
  conv => arg 2; whnf
  rcases hpk with ⟨hs, hT, _⟩ | ⟨hs, hT⟩ | ⟨hs, hU⟩
  · have hlt := (List.getElem?_eq_some_iff.1 hT).1
    obtain ⟨b, off, rfl, hc⟩ := HC.out.ls.cell hT
    have zc := ((AP.bl HA.out).cell (p := ⟨b, off + x, none⟩) (lt_of_cell hc)).trans hc
    obtain ⟨s, hso⟩ : ∃ s, s = o.2 := ⟨_, rfl⟩
    rw [← hso] at hsl hol hsz zc
    have npu : ((mb.toNat : Int) == (pu.toNat : Int)) = false := beq_eq_false_iff_ne.2 fun h => absurd (hpu.1 (UInt8.toNat_inj.1 (by omega))) (by rw [hs]; decide)
    have n1 : decide ((T.length : Int) ≤ (x : Int)) = false := decide_eq_false (by omega)
    have n2 : decide (T.length ≤ x) = false := decide_eq_false (by omega)
    have HFS : Hid (F[r]? = some (32, s)) := Lib.hid (by rw [HF.out, hso, ← hs])
    have HCX : Hid (cX (F.take (r + 1)) = x + 1) := Lib.hid (by rw [HCT.out, hs, ← HX.out]; simp)
    have ndp : ¬ (mb.toNat : Int) = (dr.toNat : Int) := fun h => absurd (hdr.1 (UInt8.toNat_inj.1 (by omega))) (by rw [hs]; decide)
    have ndr : ((mb.toNat : Int) == (dr.toNat : Int)) = false := beq_eq_false_iff_ne.2 ndp
    clear hT hc hs hso hpu hdr
    refine wp_seq_k fun K1 hK1 => ?_
    have H1 := Lib.hid hK1
    clear hK1
    go_wp2_with fail
    refine H1.out _ _ ?_
    clear H1
    refine wp_seq_k fun K1 hK1 => ?_
    have H1 := Lib.hid hK1
    clear hK1
    go_wp2_with fail
    refine H1.out _ _ ?_
    clear H1
    refine wp_seq_k fun K1 hK1 => ?_
    have H1 := Lib.hid hK1
    clear hK1
    go_wp2_with fail
    go_quiet (fail)
    go_wp2_with fail
    refine H1.out _ _ ?_
    clear H1
    have HA2 : Hid (APr w0 bo bs (.slice pv m cv) T U F r (wr.drewN nq)) := Lib.hid (AP.below HA.out (below_dN wr nq))
    obtain ⟨wq, hwq⟩ : ∃ wq, wq = wr.drewN nq := ⟨_, rfl⟩
    rw [← hwq] at HA2 ⊢
    clear hwq
    refine wp_seq_k fun K1 hK1 => ?_
    have H1 := Lib.hid hK1
    clear hK1
    go_upto_if 100 with fail
    refine wp_cond_true (by simp [Act.eval, ndp]) ?_
    refine apCp27 T U F w0 bo _ ct bk bs cst dr pu ph nh ch HC _ h fr tt k _ _ _ r s _ wq HA2.out HFS.out (by rw [← HX.out]; exact AtQ.intro) _ ?_
    intro v' a' w' k1 k2
    refine H1.out _ _ ?_
    rw [← HX.out] at k2
    have K1 := Lib.hid k1
    clear k1 H1
    refine AtQ.elim (C := fun a => Code.wp Tryd.prog _ Q a w') ?_ k2
    intros
    go_wp2_with fail
    exact (HQ.out _ _ _ (AP.bl K1.out) K1.out (by rw [HCX.out]; exact AtQ.intro)).1
  · obtain rfl : mb = dr := hdr.2 hs
    have hlt := (List.getElem?_eq_some_iff.1 hT).1
    obtain ⟨b, off, rfl, hc⟩ := HC.out.ls.cell hT
    have zc := ((AP.bl HA.out).cell (p := ⟨b, off + x, none⟩) (lt_of_cell hc)).trans hc
    obtain ⟨s, hso⟩ : ∃ s, s = o.2 := ⟨_, rfl⟩
    rw [← hso] at hsl hol hsz zc
    have npu : ((mb.toNat : Int) == (pu.toNat : Int)) = false := beq_eq_false_iff_ne.2 fun h => absurd (hpu.1 (UInt8.toNat_inj.1 (by omega))) (by rw [hs]; decide)
    have n1 : decide ((T.length : Int) ≤ (x : Int)) = false := decide_eq_false (by omega)
    have n2 : decide (T.length ≤ x) = false := decide_eq_false (by omega)
    have HFS : Hid (F[r]? = some (45, s)) := Lib.hid (by rw [HF.out, hso, ← hs])
    have HCX : Hid (cX (F.take (r + 1)) = x + 1) := Lib.hid (by rw [HCT.out, hs, ← HX.out]; simp)
    clear hT hc hs hso hpu hdr
    refine wp_seq_k fun K1 hK1 => ?_
    have H1 := Lib.hid hK1
    clear hK1
    go_wp2_with fail
    refine H1.out _ _ ?_
    clear H1
    refine wp_seq_k fun K1 hK1 => ?_
    have H1 := Lib.hid hK1
    clear hK1
    go_wp2_with fail
    refine H1.out _ _ ?_
    clear H1
    refine wp_seq_k fun K1 hK1 => ?_
    have H1 := Lib.hid hK1
    clear hK1
    go_wp2_with fail
    go_quiet (fail)
    go_wp2_with fail
    refine H1.out _ _ ?_
    clear H1
    have HA2 : Hid (APr w0 bo bs (.slice pv m cv) T U F r (wr.drewN nq)) := Lib.hid (AP.below HA.out (below_dN wr nq))
    obtain ⟨wq, hwq⟩ : ∃ wq, wq = wr.drewN nq := ⟨_, rfl⟩
    rw [← hwq] at HA2 ⊢
    clear hwq
    refine wp_seq_k fun K1 hK1 => ?_
    have H1 := Lib.hid hK1
    clear hK1
    go_wp2_with fail
    refine H1.out _ _ ?_
    clear H1
    have K1 := Lib.hid (APr.del HC.out.path HA2.out HFS.out)
    go_wp2_with fail
    exact (HQ.out _ _ _ (AP.bl K1.out) K1.out (by rw [HCX.out]; exact AtQ.intro)).1
  · have hmp : mb = pu := hpu.2 hs
    subst hmp
    clear hpu hdr
    refine wp_seq_k fun K1 hK1 => ?_
    have H1 := Lib.hid hK1
    clear hK1
    go_wp2_with fail
    refine H1.out _ _ ?_
    clear H1
    obtain ⟨s, hso⟩ : ∃ s, s = o.2 := ⟨_, rfl⟩
    rw [← hso] at hsl hol hsz
    have HFS : Hid (F[r]? = some (43, s)) := Lib.hid (by rw [HF.out, hso, ← hs])
    have HCX : Hid (cX (F.take (r + 1)) = x) := Lib.hid (by rw [HCT.out, hs, ← HX.out]; simp)
    clear hU hs hso
    go_wp2_with (at_builtin; refine wpList_append_own_at _ rfl _ _ 26 rfl w0.heap.size 9 j0 _ 1 16 Tryd.underlying26 hi hz0 hz1 hz2 rfl (by decide) _ _ _ rfl (HROW.out.alloc _) ⟨_, 0, none⟩ 1 1 [.string (mkB s)] rfl rfl (cell_one_new _ _ _) (by simp [Value.oneCell']) (by unfold maxLen; omega) (by omega) (by simp; omega) ?_; intro v' w3 hown3 hg3 _ hat3; have Z2 := Lib.hid (APr.put HC.out.path HA.out HFS.out (by rw [← HM.out]; exact hown3) hg3); clear hown3 hg3 hat3)
    exact (HQ.out _ _ _ (AP.bl Z2.out) Z2.out (by rw [HCX.out]; exact AtQ.intro)).2
end Go.Proofs.YtncjclmhdhimdaaDoor
/- The reference's Apply: the lines of a hunk; a hunk. -/
namespace Go.Proofs.YtncjclmhdhimdaaDoor
open Go.RowKit

set_option maxRecDepth 1000000 in
set_option maxHeartbeats 4000000 in
theorem AtQ.toP {T : List (List UInt8)} {pt : Option Addr} {ct : Nat} {bk : Bool} {bs cst : Nat} {dr pu : UInt8} {ph : Option Addr} {nh ch : Nat} {v p h fr tt k ll ln li : Value} {a : Act} (ha : AtQ T pt ct bk bs cst dr pu ph nh ch v p h fr tt k ll ln li a) : AtP T pt ct bk bs cst dr pu ph nh ch v p h fr tt k a := by
  refine AtQ.elim (C := fun a => AtP T pt ct bk bs cst dr pu ph nh ch v p h fr tt k a) ?_ ha
  intros
  exact AtP.intro
def mbyte (bk : Bool) (o : UInt8 × List UInt8) : UInt8 := if bk then (swO o).1 else o.1
def memC (bk : Bool) (c : Hk) : Hk := if bk then swC c else c
def drB (bk : Bool) : UInt8 := if bk then 43 else 45
def puB (bk : Bool) : UInt8 := if bk then 45 else 43
theorem mbyte_pu {bk : Bool} {o : UInt8 × List UInt8} (hs : o.1 = 32 ∨ o.1 = 45 ∨ o.1 = 43) : mbyte bk o = puB bk ↔ o.1 = 43 := by
  obtain ⟨s, l⟩ := o
  simp only at hs
  cases bk <;> rcases hs with rfl | rfl | rfl <;> simp [mbyte, puB, swO]
theorem mbyte_dr {bk : Bool} {o : UInt8 × List UInt8} (hs : o.1 = 32 ∨ o.1 = 45 ∨ o.1 = 43) : mbyte bk o = drB bk ↔ o.1 = 45 := by
  obtain ⟨s, l⟩ := o
  simp only at hs
  cases bk <;> rcases hs with rfl | rfl | rfl <;> simp [mbyte, drB, swO]
theorem memC_ops (bk : Bool) (c : Hk) : (memC bk c).ops.length = c.ops.length := by cases bk <;> simp [memC, swC, swS]
theorem memC_get {bk : Bool} {c : Hk} {j : Nat} {o : UInt8 × List UInt8} (h : c.ops[j]? = some o) : (memC bk c).ops[j]? = some (mbyte bk o, o.2) := by
  cases bk
  · exact h
  · simp [memC, swC, swS, mbyte, h, swO]

def ApJ (T U : List (List UInt8)) (F : Sc (List UInt8)) (w0 : World) (bo : Option (Nat × Array Value)) (pt : Option Addr) (ct : Nat) (bk : Bool) (bs cst : Nat) (ph : Option Addr) (nh ch : Nat) (h fr tt k : Value) (pl : Option Addr) (nl cl r1 g : Nat) (a : Act) (w : World) : Prop :=
  ∃ (q : Nat) (v : Value), q ≤ nl ∧ nl - q ≤ g ∧ APr w0 bo bs v T U F (r1 + q) w ∧ AtQ T pt ct bk bs cst (drB bk) (puB bk) ph nh ch v (.int .i64 (cX (F.take (r1 + q)) : Int)) h fr tt k (.slice pl nl cl) (.int .i64 (nl : Int)) (.int .i64 (q : Int)) a
set_option maxRecDepth 1000000 in
set_option maxHeartbeats 4000000 in
theorem apRound20 (T U : List (List UInt8)) (F : Sc (List UInt8)) (w0 : World) (bo : Option (Nat × Array Value)) (pt : Option Addr) (ct : Nat) (bk : Bool) (bs cst : Nat) (ph : Option Addr) (nh ch : Nat) (HC : Hid (APc T U F w0 pt ct)) (h fr tt k : Value) (pl : Option Addr) (nl cl r1 : Nat) (c : Hk) (hnl : nl = c.ops.length) (hnb : nl ≤ 1000000)
    (hF : ∀ q o, c.ops[q]? = some o → F[r1 + q]? = some o) (hl : ∀ q o, c.ops[q]? = some o → ∃ gl, pl = some ⟨gl, 0, none⟩ ∧ w0.cell? ⟨gl, q, none⟩ = some (.string (mkB (mbyte bk o :: o.2)))) (g : Nat) (a : Act) (w : World)
    (hI : ApJ T U F w0 bo pt ct bk bs cst ph nh ch h fr tt k pl nl cl r1 g a w) (Q : Exit → Act → World → Prop) (hn : ∀ a' w', (∃ g', g' < g ∧ ApJ T U F w0 bo pt ct bk bs cst ph nh ch h fr tt k pl nl cl r1 g' a' w') → Q .normal a' w')
    (h0 : ∀ v a' w', APr w0 bo bs v T U F (r1 + nl) w' → (∃ ll ln li, AtQ T pt ct bk bs cst (drB bk) (puB bk) ph nh ch v (.int .i64 (cX (F.take (r1 + nl)) : Int)) h fr tt k ll ln li a') → Q (.exit 4) a' w') : Code.wp Tryd.prog (apOf 20) Q a w := by
  obtain ⟨q, v, hq, hg, hA, ha⟩ := hI
  have HA := Lib.hid hA
  have HN := Lib.hid hn
  have H0 := Lib.hid h0
  have HF := Lib.hid hF
  have HL := Lib.hid hl
  have HNL := Lib.hid hnl
  clear hA hn h0 hF hl hnl
  refine AtQ.elim (C := fun a => Code.wp Tryd.prog (apOf 20) Q a w) ?_ ha
  intro c0 c3 c4 c5 c6 c7 c8 c14 c18 c19 c20 c21 c22 c23 c24 c25 c26 c30 c31 c32 c33 c34 c35 c36 c37 c38 c39 c40 c41 c42 c43 c44 c45 c46 c47 c48 c49 c50 c51 c52 c53 c54 c55 c56 c57 c58 c59 c60 c61 c62 c63 c64 c65 c66 c67 c68 c72 c73 c74 c75 c76 c77 c78 c79 c80 c81 c82 c83 c84 c85 c86 c87 c88 c89 c90 c91 c92 c93 c94 c95 c96 c97 c98 c99 c100 c101 c102 c103 c104 c105 c106 c107 c108 c109 c110 c111 c112 c113 c114 c115 c116 c117 c118 c119 c120 c121 c122 c123 c124 c125 c126 c127 c128 c129 c130 c131 c132
  conv => arg 2; whnf
  refine wp_seq_k fun K1 hK1 => ?_
  have H1 := Lib.hid hK1
  clear hK1
  obtain ⟨x, hx⟩ : ∃ x, x = cX (F.take (r1 + q)) := ⟨_, rfl⟩
  rw [← hx]
  have HX := Lib.hid hx
  clear hx
  by_cases hlt : q < nl
  · obtain ⟨o, ho⟩ : ∃ o, c.ops[q]? = some o := ⟨_, List.getElem?_eq_getElem (by have := HNL.out; omega)⟩
    obtain ⟨gl, rfl, hc⟩ := HL.out q o ho
    have hcell := ((AP.bl HA.out).cell (p := ⟨gl, q, none⟩) (lt_of_cell hc)).trans hc
    have hFo := HF.out q o ho
    have hsg := HC.out.path.signs o (List.mem_of_getElem? hFo)
    have HFO := Lib.hid hFo
    have HCE := Lib.hid hcell
    clear hc hcell hFo ho
    go_wp2_with fail
    refine H1.out _ _ ?_
    clear H1
    refine wp_seq_k fun K1 hK1 => ?_
    have H1 := Lib.hid hK1
    clear hK1
    go_wp2_with fail
    refine H1.out _ _ ?_
    clear H1
    refine wp_seq_k fun K1 hK1 => ?_
    have H1 := Lib.hid hK1
    clear hK1
    refine wp_block ?_
    refine apOp T U F w0 bo pt ct bk bs cst (drB bk) (puB bk) ph nh ch HC v h fr tt k (some ⟨gl, 0, none⟩) nl cl q (r1 + q) o (mbyte bk o) (mbyte_pu hsg) (mbyte_dr hsg) _ w HA.out HFO.out ⟨gl, rfl, HCE.out⟩ hlt (by rw [← HX.out]; exact AtQ.intro) _ ?_
    intro v' a' w' _ k1 k2
    have K1 := Lib.hid k1
    have key : ∀ a', AtQ T pt ct bk bs cst (drB bk) (puB bk) ph nh ch v' (.int .i64 (cX (F.take (r1 + q + 1)) : Int)) h fr tt k (.slice (some ⟨gl, 0, none⟩) nl cl) (.int .i64 (nl : Int)) (.int .i64 (q : Int)) a' → Code.wp Tryd.prog (apReg 29) Q a' w' := by
      intro a' k2
      refine AtQ.elim (C := fun a => Code.wp Tryd.prog (apReg 29) Q a w') ?_ k2
      intro c0 c3 c4 c5 c6 c7 c8 c14 c18 c19 c20 c21 c22 c23 c24 c25 c26 c30 c31 c32 c33 c34 c35 c36 c37 c38 c39 c40 c41 c42 c43 c44 c45 c46 c47 c48 c49 c50 c51 c52 c53 c54 c55 c56 c57 c58 c59 c60 c61 c62 c63 c64 c65 c66 c67 c68 c72 c73 c74 c75 c76 c77 c78 c79 c80 c81 c82 c83 c84 c85 c86 c87 c88 c89 c90 c91 c92 c93 c94 c95 c96 c97 c98 c99 c100 c101 c102 c103 c104 c105 c106 c107 c108 c109 c110 c111 c112 c113 c114 c115 c116 c117 c118 c119 c120 c121 c122 c123 c124 c125 c126 c127 c128 c129 c130 c131 c132
      conv => arg 2; whnf
      clear k1 k2 HA HCE
      go_wp2_with fail
      exact HN.out _ _ ⟨g - 1, by omega, q + 1, v', by omega, by omega, K1.out, AtQ.intro⟩
    exact ⟨H1.out _ _ (key a' k2), H1.out _ _ (key a' k2)⟩
  · obtain rfl : q = nl := by omega
    go_wp2_with fail
    refine H1.out _ _ ?_
    clear H1
    go_wp2_with fail
    refine H0.out v _ _ HA.out ?_
    rw [← HX.out]
    exact ⟨_, _, _, AtQ.intro⟩

/- what is known at a hunk -/
structure ApHk (T U : List (List UInt8)) (F : Sc (List UInt8)) (w0 : World) (bk : Bool) (r : Nat) (c : Hk) (cs : List Hk) (G F2 : Sc (List UInt8)) : Prop where
  keep : allK G
  drop : F.drop r = G ++ (c.ops ++ F2)
  x : c.x = cX (F.take r) + G.length
  y : c.y = cY (F.take r) + G.length
  rest : Cov (c.x + cX c.ops) (c.y + cY c.ops) cs F2
theorem take_more {F A B : Sc (List UInt8)} {r : Nat} (h : F.drop r = A ++ B) (hr : r ≤ F.length) : F.take (r + A.length) = F.take r ++ A ∧ F.drop (r + A.length) = B ∧ r + A.length ≤ F.length ∧ ∀ q o, A[q]? = some o → F[r + q]? = some o := by
  have he : F = F.take r ++ (A ++ B) := by rw [← h, List.take_append_drop]
  have hl : (F.take r).length = r := by rw [List.length_take]; omega
  have hln : F.length = r + (A.length + B.length) := by
    have := congrArg List.length he
    rw [List.length_append, List.length_append, hl] at this
    exact this
  have g : ∀ q, F[r + q]? = (A ++ B)[q]? := fun q => by
    have := congrArg (fun l => l[q]?) h
    rw [List.getElem?_drop] at this
    exact this
  refine ⟨?_, ?_, by omega, fun q o ho => by rw [g q, List.getElem?_append_left (List.getElem?_eq_some_iff.1 ho).1]; exact ho⟩
  · rw [List.take_add, h, List.take_left]
  · rw [← List.drop_drop, h, List.drop_left]
end Go.Proofs.YtncjclmhdhimdaaDoor
/- The reference's Apply: a hunk. -/
namespace Go.Proofs.YtncjclmhdhimdaaDoor
open Go.RowKit

theorem len_take_u {U : List (List UInt8)} {y : Nat} (h : y ≤ U.length) : (U.take y).length = y := by rw [List.length_take]; omega
set_option maxRecDepth 1000000 in
set_option maxHeartbeats 8000000 in
/- behind the lines that stand ahead of a hunk -/
theorem apTail (T U : List (List UInt8)) (F : Sc (List UInt8)) (w0 : World) (pt : Option Addr) (ct : Nat) (bk : Bool) (bs cst : Nat) (ph : Option Addr) (nh ch : Nat) (HC : Hid (APc T U F w0 pt ct)) (v k : Value) (b : Nat) (hv : Array Value) (fr : Value) (pl : Option Addr) (cl r1 : Nat) (c : Hk) (hnb : c.ops.length ≤ 1000000)
    (hF : ∀ q o, c.ops[q]? = some o → F[r1 + q]? = some o) (hl : ∀ q o, c.ops[q]? = some o → ∃ gl, pl = some ⟨gl, 0, none⟩ ∧ w0.cell? ⟨gl, q, none⟩ = some (.string (mkB (mbyte bk o :: o.2)))) (hc2 : hv[2]? = some (.slice pl c.ops.length cl)) (y : Nat) (hy : y = cY (F.take r1)) (hyU : y ≤ U.length)
    (a : Act) (w : World) (hA : APr w0 (some (b, hv)) bs v T U F r1 w) (ha : AtP T pt ct bk bs cst (drB bk) (puB bk) ph nh ch v (.int .i64 (cX (F.take r1) : Int)) (.pointer (some ⟨b, 0, none⟩)) fr (.int .i64 (y : Int)) k a)
    (Q : Exit → Act → World → Prop) (hQ : ∀ v' a' w', APr w0 (some (b, hv)) bs v' T U F (r1 + c.ops.length) w' → (∃ h fr tt, AtP T pt ct bk bs cst (drB bk) (puB bk) ph nh ch v' (.int .i64 (cX (F.take (r1 + c.ops.length)) : Int)) h fr tt k a') → Q .normal a' w') : Code.wp Tryd.prog (apOf 17) Q a w := by
  have HA := Lib.hid hA
  have HQ := Lib.hid hQ
  have hbx := hA.bx _ rfl
  have h2 := cell_at (o := 2) hbx _ hc2
  have hrow := AP.row hA
  rw [len_take_u (by rw [← hy]; exact hyU), ← hy] at hrow
  obtain ⟨pv, cv, rfl⟩ := ownsRow_slice hrow
  clear hA hQ hbx hrow
  refine AtP.elim (C := fun a => Code.wp Tryd.prog (apOf 17) Q a w) ?_ ha
  intro c0 c3 c4 c5 c6 c7 c8 c14 c18 c19 c20 c21 c22 c23 c24 c25 c26 c30 c31 c32 c33 c34 c35 c36 c37 c38 c39 c40 c41 c42 c43 c44 c45 c46 c47 c48 c49 c50 c51 c52 c53 c54 c55 c56 c57 c58 c59 c60 c61 c62 c63 c64 c65 c66 c67 c68 c69 c70 c71 c72 c73 c74 c75 c76 c77 c78 c79 c80 c81 c82 c83 c84 c85 c86 c87 c88 c89 c90 c91 c92 c93 c94 c95 c96 c97 c98 c99 c100 c101 c102 c103 c104 c105 c106 c107 c108 c109 c110 c111 c112 c113 c114 c115 c116 c117 c118 c119 c120 c121 c122 c123 c124 c125 c126 c127 c128 c129 c130 c131 c132
  conv => arg 2; whnf
  obtain ⟨x, hx⟩ : ∃ x, x = cX (F.take r1) := ⟨_, rfl⟩
  rw [← hx]
  have HX := Lib.hid hx
  have HY := Lib.hid hy
  obtain ⟨nl, hnl⟩ : ∃ nl, nl = c.ops.length := ⟨_, rfl⟩
  rw [← hnl] at h2 hnb HQ
  have HNL := Lib.hid hnl
  clear hx hy hnl hc2
  refine wp_seq_k fun K1 hK1 => ?_
  have H1 := Lib.hid hK1
  clear hK1
  go_wp2_with fail
  refine H1.out _ _ ?_
  clear H1
  refine wp_seq_k fun K1 hK1 => ?_
  have H1 := Lib.hid hK1
  clear hK1
  go_wp2_with fail
  refine H1.out _ _ ?_
  clear H1
  refine wp_block ?_
  refine wp_loop_ghost (fun g a w => ApJ T U F w0 (some (b, hv)) pt ct bk bs cst ph nh ch (.pointer (some ⟨b, 0, none⟩)) fr (.int .i64 (y : Int)) k pl nl cl r1 g a w) nl ?_ ?_
  · refine ⟨0, _, by omega, by omega, HA.out, ?_⟩
    rw [Nat.add_zero, ← HX.out]
    exact AtQ.intro
  · intro g a' w' hI
    refine apRound20 T U F w0 (some (b, hv)) pt ct bk bs cst ph nh ch HC _ _ _ k pl nl cl r1 c HNL.out hnb hF hl g a' w' hI _ (fun a2 w2 h2 => h2) ?_
    intro v' a2 w2 k1 k2
    obtain ⟨ll, ln, li, k2⟩ := k2
    exact HQ.out v' a2 w2 k1 ⟨_, _, _, k2.toP⟩

set_option maxRecDepth 1000000 in
set_option maxHeartbeats 8000000 in
/- behind the places of a hunk -/
theorem apMid (T U : List (List UInt8)) (F : Sc (List UInt8)) (w0 : World) (pt : Option Addr) (ct : Nat) (bk : Bool) (bs cst : Nat) (ph : Option Addr) (nh ch : Nat) (HC : Hid (APc T U F w0 pt ct)) (v k : Value) (b : Nat) (hv : Array Value) (pl : Option Addr) (cl r : Nat) (c : Hk) (cs : List Hk) (G F2 : Sc (List UInt8)) (hnb : c.ops.length ≤ 1000000)
    (hk : ApHk T U F w0 bk r c cs G F2) (hr : r ≤ F.length) (hl : ∀ q o, c.ops[q]? = some o → ∃ gl, pl = some ⟨gl, 0, none⟩ ∧ w0.cell? ⟨gl, q, none⟩ = some (.string (mkB (mbyte bk o :: o.2)))) (hc2 : hv[2]? = some (.slice pl c.ops.length cl))
    (a : Act) (w : World) (hA : APr w0 (some (b, hv)) bs v T U F r w) (ha : AtP T pt ct bk bs cst (drB bk) (puB bk) ph nh ch v (.int .i64 (cX (F.take r) : Int)) (.pointer (some ⟨b, 0, none⟩)) (.int .i64 (c.x : Int)) (.int .i64 (c.y : Int)) k a)
    (Q : Exit → Act → World → Prop) (hQ : ∀ v' a' w', APr w0 (some (b, hv)) bs v' T U F (r + G.length + c.ops.length) w' → (∃ h fr tt, AtP T pt ct bk bs cst (drB bk) (puB bk) ph nh ch v' (.int .i64 (cX (F.take (r + G.length + c.ops.length)) : Int)) h fr tt k a') → Q .normal a' w') : Code.wp Tryd.prog (apOf 12) Q a w := by
  have HA := Lib.hid hA
  have HQ := Lib.hid hQ
  have HK := Lib.hid hk
  have HL := Lib.hid hl
  have HC2 := Lib.hid hc2
  obtain ⟨t1, d1, l1, g1⟩ := take_more hk.drop hr
  obtain ⟨t2, d2, l2, g2⟩ := take_more d1 l1
  have G1 := Lib.hid g1
  have G2 := Lib.hid g2
  have ex : c.x = cX (F.take (r + G.length)) := by rw [t1, cX_app, cX_keep hk.keep]; exact hk.x
  have ey : c.y = cY (F.take (r + G.length)) := by rw [t1, cY_app, cY_keep hk.keep]; exact hk.y
  have hp := HC.out.path
  have bx : c.x ≤ T.length ∧ c.y ≤ U.length := by
    have h1 : Path T U 0 0 (F.take (r + G.length) ++ F.drop (r + G.length)) T.length U.length := by rw [List.take_append_drop]; exact hp
    have h2 := h1.split.1.le
    rw [Nat.zero_add, Nat.zero_add, ← ex, ← ey] at h2
    exact ⟨h2.1 (Nat.zero_le _), h2.2 (Nat.zero_le _)⟩
  have hxx := hk.x
  have hkeep := hk.keep
  obtain ⟨bx1, bx2⟩ := bx
  have htl := HC.out.tl
  have hul := HC.out.ul
  obtain ⟨cx, hcx⟩ : ∃ x, x = c.x := ⟨_, rfl⟩
  obtain ⟨cy, hcy⟩ : ∃ x, x = c.y := ⟨_, rfl⟩
  rw [← hcx] at ex ha bx1 hxx
  rw [← hcy] at ey ha bx2
  have EX := Lib.hid ex
  have EY := Lib.hid ey
  have HKP := Lib.hid hkeep
  clear hA hQ hk hl hc2 t1 d1 l1 g1 t2 d2 l2 g2 ex ey hp hcx hcy hkeep
  refine AtP.elim (C := fun a => Code.wp Tryd.prog (apOf 12) Q a w) ?_ ha
  intro c0 c3 c4 c5 c6 c7 c8 c14 c18 c19 c20 c21 c22 c23 c24 c25 c26 c30 c31 c32 c33 c34 c35 c36 c37 c38 c39 c40 c41 c42 c43 c44 c45 c46 c47 c48 c49 c50 c51 c52 c53 c54 c55 c56 c57 c58 c59 c60 c61 c62 c63 c64 c65 c66 c67 c68 c69 c70 c71 c72 c73 c74 c75 c76 c77 c78 c79 c80 c81 c82 c83 c84 c85 c86 c87 c88 c89 c90 c91 c92 c93 c94 c95 c96 c97 c98 c99 c100 c101 c102 c103 c104 c105 c106 c107 c108 c109 c110 c111 c112 c113 c114 c115 c116 c117 c118 c119 c120 c121 c122 c123 c124 c125 c126 c127 c128 c129 c130 c131 c132
  conv => arg 2; whnf
  obtain ⟨x, hx⟩ : ∃ x, x = cX (F.take r) := ⟨_, rfl⟩
  rw [← hx] at hxx ⊢
  have HX := Lib.hid hx
  have h1 : x ≤ cx := by omega
  clear hx hxx
  refine wp_seq_k fun K1 hK1 => ?_
  have H1 := Lib.hid hK1
  clear hK1
  go_wp2_with fail
  refine H1.out _ _ ?_
  clear H1
  refine wp_seq_k fun K1 hK1 => ?_
  have H1 := Lib.hid hK1
  clear hK1
  refine wp_block ?_
  refine wp_loop_ghost (fun g a w => ApI14 T U F w0 (some (b, hv)) pt ct bk bs cst (drB bk) (puB bk) ph nh ch (.pointer (some ⟨b, 0, none⟩)) (.int .i64 (cy : Int)) k (.int .i64 (cx : Int)) r (r + G.length) g a w) G.length ?_ ?_
  · refine ⟨r, _, by omega, by omega, by omega, HA.out, ?_⟩
    rw [← HX.out]
    exact AtP.intro
  · intro g a' w' hI
    refine apRound14 T U F w0 (some (b, hv)) pt ct bk bs cst (drB bk) (puB bk) ph nh ch HC _ _ k _ r (r + G.length) cx EX.out rfl (fun t h2 h3 => ?_) (by omega) g a' w' hI _ (fun a2 w2 h2 => h2) ?_
    · obtain ⟨o, ho⟩ : ∃ o, G[t - r]? = some o := ⟨_, List.getElem?_eq_getElem (by omega)⟩
      have := G1.out (t - r) o ho
      rw [show r + (t - r) = t by omega] at this
      have hs := HKP.out o (List.mem_of_getElem? ho)
      obtain ⟨s, l⟩ := o
      simp only at hs
      subst hs
      exact ⟨l, this⟩
    · intro v' a2 w2 k1 k2
      refine H1.out _ _ ?_
      rw [EX.out] at k2
      exact apTail T U F w0 pt ct bk bs cst ph nh ch HC v' k b hv _ pl cl (r + G.length) c hnb G2.out HL.out HC2.out cy EY.out bx2 a2 w2 k1 k2 Q HQ.out
end Go.Proofs.YtncjclmhdhimdaaDoor
/- The reference's Apply: all hunks; the whole. -/
namespace Go.Proofs.YtncjclmhdhimdaaDoor
open Go.RowKit

theorem AP.box {w0 wr : World} {bo : Option (Nat × Array Value)} {bs n : Nat} {v : Value} {ls : List (List UInt8)} {fl : List Bool} (h : AP w0 bo bs n v ls fl wr) (hv : Array Value) (k : Nat) : AP w0 (some (wr.heap.size, hv)) bs n v ls fl ((wr.alloc (.cells hv 28)).drewN k) := by
  have hb : Below wr.heap.size wr ((wr.alloc (.cells hv 28)).drewN k) := ((Below.refl _ _).alloc (Nat.le_refl _) _).trans ((below_dN _ k).mono (by simp))
  have h1 := h.below hb
  exact ⟨h1.row, h1.stay, h1.bl, h1.hb, fun p hp => by injection hp with hp; subst hp; exact heap_new _ _ rfl⟩
set_option maxRecDepth 1000000 in
set_option maxHeartbeats 8000000 in
theorem apHunk (T U : List (List UInt8)) (F : Sc (List UInt8)) (w0 : World) (bo : Option (Nat × Array Value)) (pt : Option Addr) (ct : Nat) (bk : Bool) (bs cst : Nat) (g0 nh ch : Nat) (HC : Hid (APc T U F w0 pt ct)) (v h fr tt : Value) (kk : Nat) (hkn : kk < nh) (pl : Option Addr) (cl r : Nat) (c : Hk) (cs : List Hk) (G F2 : Sc (List UInt8)) (hnb : c.ops.length ≤ 1000000)
    (hk : ApHk T U F w0 bk r c cs G F2) (hr : r ≤ F.length) (hl : ∀ q o, c.ops[q]? = some o → ∃ gl, pl = some ⟨gl, 0, none⟩ ∧ w0.cell? ⟨gl, q, none⟩ = some (.string (mkB (mbyte bk o :: o.2))))
    (x0 : w0.cell? ⟨g0, kk * 3, none⟩ = some (.int .i64 ((memC bk c).x : Int))) (x1 : w0.cell? ⟨g0, kk * 3 + 1, none⟩ = some (.int .i64 ((memC bk c).y : Int))) (x2 : w0.cell? ⟨g0, kk * 3 + 2, none⟩ = some (.slice pl c.ops.length cl))
    (a : Act) (w : World) (hA : APr w0 bo bs v T U F r w) (ha : AtP T pt ct bk bs cst (drB bk) (puB bk) (some ⟨g0, 0, none⟩) nh ch v (.int .i64 (cX (F.take r) : Int)) h fr tt (.int .i64 (kk : Int)) a)
    (Q : Exit → Act → World → Prop) (hQ : ∀ bo' v' a' w', APr w0 bo' bs v' T U F (r + G.length + c.ops.length) w' → (∃ h fr tt, AtP T pt ct bk bs cst (drB bk) (puB bk) (some ⟨g0, 0, none⟩) nh ch v' (.int .i64 (cX (F.take (r + G.length + c.ops.length)) : Int)) h fr tt (.int .i64 (kk : Int)) a') → Q .normal a' w') : Code.wp Tryd.prog (apOf 8) Q a w := by
  have HA := Lib.hid hA
  have HQ := Lib.hid hQ
  have HK := Lib.hid hk
  have HL := Lib.hid hl
  have hbl := AP.bl hA
  have y0 := (hbl.cell (p := ⟨g0, kk * 3, none⟩) (lt_of_cell x0)).trans x0
  have y1 := (hbl.cell (p := ⟨g0, kk * 3 + 1, none⟩) (lt_of_cell x1)).trans x1
  have y2 := (hbl.cell (p := ⟨g0, kk * 3 + 2, none⟩) (lt_of_cell x2)).trans x2
  obtain ⟨mx, hmx⟩ : ∃ x, x = (memC bk c).x := ⟨_, rfl⟩
  obtain ⟨my, hmy⟩ : ∃ x, x = (memC bk c).y := ⟨_, rfl⟩
  rw [← hmx] at y0
  rw [← hmy] at y1
  obtain ⟨nl, hnl⟩ : ∃ nl, nl = c.ops.length := ⟨_, rfl⟩
  rw [← hnl] at y2
  have HNL := Lib.hid hnl
  have HMX := Lib.hid hmx
  have HMY := Lib.hid hmy
  clear hA hQ hk hl x0 x1 x2 hmx hmy hnl hbl
  refine AtP.elim (C := fun a => Code.wp Tryd.prog (apOf 8) Q a w) ?_ ha
  intro c0 c3 c4 c5 c6 c7 c8 c14 c18 c19 c20 c21 c22 c23 c24 c25 c26 c30 c31 c32 c33 c34 c35 c36 c37 c38 c39 c40 c41 c42 c43 c44 c45 c46 c47 c48 c49 c50 c51 c52 c53 c54 c55 c56 c57 c58 c59 c60 c61 c62 c63 c64 c65 c66 c67 c68 c69 c70 c71 c72 c73 c74 c75 c76 c77 c78 c79 c80 c81 c82 c83 c84 c85 c86 c87 c88 c89 c90 c91 c92 c93 c94 c95 c96 c97 c98 c99 c100 c101 c102 c103 c104 c105 c106 c107 c108 c109 c110 c111 c112 c113 c114 c115 c116 c117 c118 c119 c120 c121 c122 c123 c124 c125 c126 c127 c128 c129 c130 c131 c132
  conv => arg 2; whnf
  obtain ⟨x, hx⟩ : ∃ x, x = cX (F.take r) := ⟨_, rfl⟩
  rw [← hx]
  have HX := Lib.hid hx
  clear hx
  refine wp_seq_k fun K1 hK1 => ?_
  have H1 := Lib.hid hK1
  clear hK1
  go_wp2_with fail
  refine H1.out _ _ ?_
  clear H1
  refine wp_seq_k fun K1 hK1 => ?_
  have H1 := Lib.hid hK1
  clear hK1
  go_quiet (fail)
  go_wp2_with fail
  refine H1.out _ _ ?_
  clear H1
  obtain ⟨wq, hwq⟩ : ∃ wq, wq = (w.alloc (.cells #[.int .i64 (mx : Int), .int .i64 (my : Int), .slice pl nl cl] 28)).drewN nq := ⟨_, rfl⟩
  have HAQ : Hid (APr w0 (some (w.heap.size, #[.int .i64 (mx : Int), .int .i64 (my : Int), .slice pl nl cl])) bs v T U F r wq) := Lib.hid (by rw [hwq]; exact AP.box HA.out _ nq)
  rw [← hwq]
  clear hwq y0 y1 y2
  refine wp_seq_k fun K1 hK1 => ?_
  have H1 := Lib.hid hK1
  clear hK1
  have fin := Lib.hid fun (a' : Act) (ha' : AtP T pt ct bk bs cst (drB bk) (puB bk) (some ⟨g0, 0, none⟩) nh ch v (.int .i64 (cX (F.take r) : Int)) (.pointer (some ⟨w.heap.size, 0, none⟩)) (.int .i64 (c.x : Int)) (.int .i64 (c.y : Int)) (.int .i64 (kk : Int)) a') =>
    apMid T U F w0 pt ct bk bs cst (some ⟨g0, 0, none⟩) nh ch HC v _ w.heap.size _ pl cl r c cs G F2 hnb HK.out hr HL.out (by rw [← HNL.out]; rfl) a' wq HAQ.out ha' Q (fun v' a2 w2 k1 k2 => HQ.out _ v' a2 w2 k1 k2)
  rw [← HX.out] at fin
  have hxx : mx = (if bk then c.y else c.x) ∧ my = (if bk then c.x else c.y) := by
    rw [HMX.out, HMY.out]
    cases bk <;> exact ⟨rfl, rfl⟩
  obtain ⟨e1, e2⟩ := hxx
  cases bk with
  | false =>
    simp only [Bool.false_eq_true, if_false] at e1 e2
    rw [← e1, ← e2] at fin
    clear e1 e2
    go_wp2_with fail
    refine H1.out _ _ ?_
    exact fin.out _ AtP.intro
  | true =>
    simp only [if_true] at e1 e2
    rw [← e1, ← e2] at fin
    clear e1 e2
    go_wp2_with fail
    refine H1.out _ _ ?_
    exact fin.out _ AtP.intro

/- behind so many hunks -/
def ApO (T U : List (List UInt8)) (F : Sc (List UInt8)) (w0 : World) (pt : Option Addr) (ct : Nat) (bk : Bool) (bs cst : Nat) (ph : Option Addr) (ch : Nat) (cs : List Hk) (g : Nat) (a : Act) (w : World) : Prop :=
  ∃ (k r : Nat) (v h fr tt : Value) (bo : Option (Nat × Array Value)), k ≤ cs.length ∧ cs.length - k ≤ g ∧ r ≤ F.length ∧ Cov (cX (F.take r)) (cY (F.take r)) (cs.drop k) (F.drop r) ∧ APr w0 bo bs v T U F r w ∧
    AtP T pt ct bk bs cst (drB bk) (puB bk) ph cs.length ch v (.int .i64 (cX (F.take r) : Int)) h fr tt (.int .i64 (k : Int)) a
set_option maxRecDepth 1000000 in
set_option maxHeartbeats 8000000 in
theorem apOuter (T U : List (List UInt8)) (F : Sc (List UInt8)) (w0 : World) (pt : Option Addr) (ct : Nat) (bk : Bool) (bs cst : Nat) (ph : Option Addr) (ch : Nat) (HC : Hid (APc T U F w0 pt ct)) (cs : List Hk) (us : List Value) (B : Nat) (hR : HRow w0 B (.slice ph cs.length ch) (cs.map (memC bk)) us) (hck : ∀ c ∈ cs, c.ops.length ≤ 1000000) (hcl : cs.length ≤ 1000000)
    (g : Nat) (a : Act) (w : World) (hI : ApO T U F w0 pt ct bk bs cst ph ch cs g a w) (Q : Exit → Act → World → Prop) (hn : ∀ a' w', (∃ g', g' < g ∧ ApO T U F w0 pt ct bk bs cst ph ch cs g' a' w') → Q .normal a' w')
    (h0 : ∀ r bo v a' w', r ≤ F.length → allK (F.drop r) → APr w0 bo bs v T U F r w' → (∃ h fr tt k, AtP T pt ct bk bs cst (drB bk) (puB bk) ph cs.length ch v (.int .i64 (cX (F.take r) : Int)) h fr tt k a') → Q (.exit 0) a' w') : Code.wp Tryd.prog (apOf 7) Q a w := by
  obtain ⟨k, r, v, h, fr, tt, bo, hk, hg, hr, hcov, hA, ha⟩ := hI
  have HA := Lib.hid hA
  have HN := Lib.hid hn
  have H0 := Lib.hid h0
  have HCOV := Lib.hid hcov
  have HR := Lib.hid hR
  clear hA hn h0 hcov hR
  refine AtP.elim (C := fun a => Code.wp Tryd.prog (apOf 7) Q a w) ?_ ha
  intro c0 c3 c4 c5 c6 c7 c8 c14 c18 c19 c20 c21 c22 c23 c24 c25 c26 c30 c31 c32 c33 c34 c35 c36 c37 c38 c39 c40 c41 c42 c43 c44 c45 c46 c47 c48 c49 c50 c51 c52 c53 c54 c55 c56 c57 c58 c59 c60 c61 c62 c63 c64 c65 c66 c67 c68 c69 c70 c71 c72 c73 c74 c75 c76 c77 c78 c79 c80 c81 c82 c83 c84 c85 c86 c87 c88 c89 c90 c91 c92 c93 c94 c95 c96 c97 c98 c99 c100 c101 c102 c103 c104 c105 c106 c107 c108 c109 c110 c111 c112 c113 c114 c115 c116 c117 c118 c119 c120 c121 c122 c123 c124 c125 c126 c127 c128 c129 c130 c131 c132
  conv => arg 2; whnf
  refine wp_seq_k fun K1 hK1 => ?_
  have H1 := Lib.hid hK1
  clear hK1
  obtain ⟨nh, hnh⟩ : ∃ n, n = cs.length := ⟨_, rfl⟩
  rw [← hnh] at hk hg hcl ⊢
  have HNH := Lib.hid hnh
  clear hnh
  by_cases hlt : k < nh
  · obtain ⟨c, hc⟩ : ∃ c, cs[k]? = some c := ⟨_, List.getElem?_eq_getElem (by have := HNH.out; omega)⟩
    have hcm : (cs.map (memC bk))[k]? = some (memC bk c) := by rw [List.getElem?_map, hc]; rfl
    have hR2 : HRow w0 B (.slice ph (cs.map (memC bk)).length ch) (cs.map (memC bk)) us := by rw [List.length_map]; exact HR.out
    obtain ⟨g0, pl, cl, rfl, x0, x1, x2, hlines⟩ := hR2.get hcm
    rw [memC_ops] at x2
    have hdrop : cs.drop k = c :: cs.drop (k + 1) := by
      rw [List.drop_eq_getElem_cons (by have := HNH.out; omega)]
      congr 1
      exact (List.getElem?_eq_some_iff.1 hc).2
    have hcv := HCOV.out
    rw [hdrop] at hcv
    obtain ⟨G, F2, hG, he, hx, hy, hrest⟩ := hcv
    have hk2 : ApHk T U F w0 bk r c (cs.drop (k + 1)) G F2 := ⟨hG, he, hx, hy, hrest⟩
    obtain ⟨t1, d1, l1, g1⟩ := take_more he hr
    obtain ⟨t2, d2, l2, g2⟩ := take_more d1 l1
    have e1 : cX (F.take (r + G.length + c.ops.length)) = c.x + cX c.ops := by rw [t2, cX_app, t1, cX_app, cX_keep hG, ← hx]
    have e2 : cY (F.take (r + G.length + c.ops.length)) = c.y + cY c.ops := by rw [t2, cY_app, t1, cY_app, cY_keep hG, ← hy]
    have HK2 := Lib.hid hk2
    have HC3 : Hid (Cov (cX (F.take (r + G.length + c.ops.length))) (cY (F.take (r + G.length + c.ops.length))) (cs.drop (k + 1)) (F.drop (r + G.length + c.ops.length))) := Lib.hid (by rw [e1, e2, d2]; exact hrest)
    have HX0 := Lib.hid x0
    have HX1 := Lib.hid x1
    have HX2 := Lib.hid x2
    have HLI : Hid (∀ q o, c.ops[q]? = some o → ∃ gl, pl = some ⟨gl, 0, none⟩ ∧ w0.cell? ⟨gl, q, none⟩ = some (.string (mkB (mbyte bk o :: o.2)))) := Lib.hid fun q o ho => hlines q _ (memC_get ho)
    have hnb := hck c (List.mem_of_getElem? hc)
    clear hc hcm hR2 x0 x1 x2 hlines hdrop hG he hx hy hrest hk2 t1 d1 g1 t2 d2 g2 e1 e2
    go_wp2_with fail
    refine H1.out _ _ ?_
    clear H1
    refine wp_seq_k fun K1 hK1 => ?_
    have H1 := Lib.hid hK1
    clear hK1
    go_wp2_with fail
    refine H1.out _ _ ?_
    clear H1
    refine wp_seq_k fun K1 hK1 => ?_
    have H1 := Lib.hid hK1
    clear hK1
    refine wp_block ?_
    refine apHunk T U F w0 bo pt ct bk bs cst g0 nh ch HC v _ _ _ k hlt pl cl r c (cs.drop (k + 1)) G F2 hnb HK2.out hr HLI.out HX0.out HX1.out HX2.out _ w HA.out AtP.intro _ ?_
    intro bo' v' a' w' k1 k2
    obtain ⟨h', fr', tt', k2⟩ := k2
    refine H1.out _ _ ?_
    have K1 := Lib.hid k1
    clear H1 k1 HA
    refine AtP.elim (C := fun a => Code.wp Tryd.prog _ Q a w') ?_ k2
    intros
    go_wp2_with fail
    exact HN.out _ _ ⟨g - 1, by omega, k + 1, r + G.length + c.ops.length, v', _, _, _, bo', by have := HNH.out; omega, by have := HNH.out; omega, l2, HC3.out, K1.out, by rw [← HNH.out]; exact AtP.intro⟩
  · have hke : Hid (allK (F.drop r)) := Lib.hid (by
      have := HCOV.out
      rw [List.drop_eq_nil_of_le (by have := HNH.out; omega)] at this
      exact this)
    go_wp2_with fail
    refine H1.out _ _ ?_
    clear H1
    go_wp2_with fail
    exact H0.out r bo v _ _ hr hke.out HA.out ⟨_, _, _, _, by rw [← HNH.out]; exact AtP.intro⟩
end Go.Proofs.YtncjclmhdhimdaaDoor
/- laws.same: two slices that read as one list are the same. -/
namespace Go.Proofs.YtncjclmhdhimdaaDoor
open Go.RowKit

theorem str_beq (t : List UInt8) : ((mkB t).toList == (mkB t).toList) = true := by simp
set_option maxRecDepth 100000 in
set_option maxHeartbeats 2000000 in
theorem same_any (L : List (List UInt8)) (w : World) (p q : Option Addr) (c d : Nat) (h1 : LS w (.slice p L.length c) L) (h2 : LS w (.slice q L.length d) L) (hl : L.length ≤ 1099511627776) (hs : ∀ t ∈ L, t.length ≤ 1099511627776) :
    Calls Tryd.prog 18 #[.slice p L.length c, .slice q L.length d] w fun e w' => e = .returned (.bool true) ∧ Below w.heap.size w w' := by
  have H1 := Lib.hid h1
  have H2 := Lib.hid h2
  have HS := Lib.hid hs
  obtain ⟨n, hn⟩ : ∃ n, n = L.length := ⟨_, rfl⟩
  rw [← hn] at hl ⊢
  have HN := Lib.hid hn
  clear h1 h2 hs hn
  go_enter Tryd.func18, Tryd.ntmps18
  go_wp2_with fail
  go_loop [14] (fun i => ∃ k : Nat, k ≤ n ∧ i = .int .i64 (k : Int)) (fun i => n - (intOf i).toNat)
  case atStart => exact ⟨0, by omega, rfl⟩
  case round =>
    obtain ⟨k, hk, rfl⟩ := hrel
    by_cases hlt : k < n
    · obtain ⟨t, ht⟩ : ∃ t, L[k]? = some t := ⟨_, List.getElem?_eq_getElem (by rw [← HN.out]; exact hlt)⟩
      obtain ⟨b1, o1, rfl, y1⟩ := H1.out.cell ht
      obtain ⟨b2, o2, rfl, y2⟩ := H2.out.cell ht
      have e0 := str_beq t
      have ht2 := HS.out t (List.mem_of_getElem? ht)
      rw [← mkB_size] at ht2
      clear ht
      go_wp2_with fail
      exact ⟨⟨k + 1, hlt, by go_num⟩, by simp [intOf]; omega⟩
    · go_wp2_with fail
      go_ret
      exact ⟨rfl, Below.refl _ _⟩
end Go.Proofs.YtncjclmhdhimdaaDoor
/- The reference's Apply at the hunks of a diff. -/
namespace Go.Proofs.YtncjclmhdhimdaaDoor
open Go.RowKit

def ApPost (T U : List (List UInt8)) (F : Sc (List UInt8)) (w : World) (e : Ending) (w' : World) : Prop :=
  ∃ vo bs, e = .returned (.tuple #[vo, .slice (some ⟨bs, 0, none⟩) T.length T.length, .bool true]) ∧ w'.ownsRow w.heap.size 9 1 vo U.length (strs U) ∧ w'.heap[bs]? = some (.cells (bools (flags F)).toArray 4 (0, 0)) ∧ Below w.heap.size w w'
theorem info_bool : (Tryd.prog.info? 4).map (fun i => (i.zero, i.size, i.bytes)) = some (some (.bool false), 1, 1) := by kernel_rfl
theorem bools_made (n : Nat) : madeCells #[.bool false] n = (bools (pad [] n)).toArray := by
  apply Array.toList_inj.1
  rw [toList_madeCells_one]
  simp [bools, pad]
theorem ap_a {w : World} {n : Nat} {T U : List (List UInt8)} {F : Sc (List UInt8)} (hn : n = T.length) (w' : World) (hw : w' = ((w.alloc (.cells #[] 9)).alloc (.cells (bools (pad [] n)).toArray 4)).drew) :
    APr w none (w.heap.size + 1) (.slice (some ⟨w.heap.size, 0, none⟩) 0 0) T U F 0 w' := by
  subst hn hw
  have hr := World.ownsRow_made (base := w.heap.size) (e := 9) (size := 1) w #[] 0 (by simp) (by unfold maxLen; omega) rfl
  refine AP.below (wr := (w.alloc (.cells #[] 9)).alloc (.cells (bools (pad [] T.length)).toArray 4)) ⟨?_, ?_, ((Below.refl _ _).alloc (Nat.le_refl _) _).alloc (by simp) _, Nat.le_succ _, fun p hp => by cases hp⟩ (Below.refl _ _).drew
  · have h2 := hr.alloc (.cells (bools (pad [] T.length)).toArray 4)
    simpa [cY_nil, strs] using h2
  · exact heap_new _ _ (by simp)
theorem ap_b {w : World} {n : Nat} {T U : List (List UInt8)} {F : Sc (List UInt8)} (hn : n = T.length) (w' : World) (hw : w' = ((w.alloc (.cells (bools (pad [] n)).toArray 4)).alloc (.cells #[] 9)).drew) :
    APr w none w.heap.size (.slice (some ⟨w.heap.size + 1, 0, none⟩) 0 0) T U F 0 w' := by
  subst hn hw
  have hr := World.ownsRow_made (base := w.heap.size) (e := 9) (size := 1) (w.alloc (.cells (bools (pad [] T.length)).toArray 4)) #[] 0 (by simp) (by unfold maxLen; omega) rfl
  refine AP.below (wr := (w.alloc (.cells (bools (pad [] T.length)).toArray 4)).alloc (.cells #[] 9)) ⟨?_, ?_, ((Below.refl _ _).alloc (Nat.le_refl _) _).alloc (by simp) _, Nat.le_refl _, fun p hp => by cases hp⟩ (Below.refl _ _).drew
  · simpa [cY_nil, strs] using hr
  · rw [Below.heap_alloc _ _ _ (by simp)]
    exact heap_new _ _ rfl

set_option maxRecDepth 1000000 in
set_option maxHeartbeats 8000000 in
theorem apply_any (T U : List (List UInt8)) (F : Sc (List UInt8)) (w0 : World) (pt : Option Addr) (ct : Nat) (bk : Bool) (ph : Option Addr) (ch : Nat) (hC : APc T U F w0 pt ct) (cs : List Hk) (us : List Value) (B : Nat) (hR : HRow w0 B (.slice ph cs.length ch) (cs.map (memC bk)) us) (hck : ∀ c ∈ cs, c.ops.length ≤ 1000000) (hcl : cs.length ≤ 1000000) (hcov : Cov 0 0 cs F) :
    Calls Tryd.prog 17 #[.slice ph cs.length ch, .slice pt T.length ct, .bool bk] w0 (ApPost T U F w0) := by
  have HC := Lib.hid hC
  have HR := Lib.hid hR
  have HCK := Lib.hid hck
  have HCOV := Lib.hid hcov
  have htl := hC.tl
  obtain ⟨i0, hi, hz0, hz1, hz2⟩ := info_parts info_bool
  have hmk : ∀ w : World, (Instr.makeSlice 31 (.int .i64 (T.length : Int)) (.int .i64 (T.length : Int))).run Tryd.prog w = .ok (.slice (some ⟨w.heap.size, 0, none⟩) T.length T.length) (w.alloc (.cells (bools (pad [] T.length)).toArray 4)) := fun w => by
    have := run_makeSlice (P := Tryd.prog) w 31 4 i0 _ Tryd.underlying31 hi hz0 .i64 .i64 (T.length : Int) (T.length : Int) (by omega) (by omega) (by rw [hz1]; omega) (by rw [hz2]; omega) (by omega)
    rw [this, hz1]
    simp only [Int.toNat_natCast, Nat.mul_one]
    rw [show (Value.bool false).cells = #[.bool false] from rfl, bools_made]
  clear hC hR hck hcov
  cases bk with
  | false =>
    go_enter Tryd.func17, Tryd.ntmps17
    go_wp2_with fail
    go_region
    · obtain ⟨wq, hwq⟩ : ∃ wq, wq = ((w0.alloc (.cells #[] 9)).alloc (.cells (bools (pad [] T.length)).toArray 4)).drew := ⟨_, rfl⟩
      have HAP : Hid (APr w0 none (w0.heap.size + 1) (.slice (some ⟨w0.heap.size, 0, none⟩) 0 0) T U F 0 wq) := Lib.hid (ap_a rfl wq hwq)
      rw [← hwq]
      clear hwq hmk
      go_wp2_with fail
      refine wp_loop_ghost (fun g a w => ApO T U F w0 pt ct false (w0.heap.size + 1) T.length ph ch cs g a w) cs.length ?_ ?_
      · exact ⟨0, 0, _, _, _, _, none, by omega, by omega, by omega, HCOV.out, HAP.out, AtP.intro⟩
      · intro g a' w' hI
        refine apOuter T U F w0 pt ct false (w0.heap.size + 1) T.length ph ch HC cs us B HR.out HCK.out hcl g a' w' hI _ (fun a2 w2 h2 => h2) ?_
        clear hI HAP
        intro r bo v a2 w2 hr hke hA ha
        obtain ⟨h, fr, tt, k, ha⟩ := ha
        have HKE := Lib.hid hke
        have HA := Lib.hid hA
        have hlast : T.length = cX (F.take F.length) := by
          rw [List.take_length]
          have := HC.out.path.ends.1
          omega
        have HLA := Lib.hid hlast
        clear hke hA hlast
        refine AtP.elim (C := fun a => Exit.then _ _ (.exit 0) a w2) ?_ ha
        intro c0
        intros
        go_wp2_with fail
        refine wp_loop_ghost (fun g a w => ApI31 T U F w0 bo pt ct false (w0.heap.size + 1) T.length (drB false) (puB false) ph cs.length ch h tt k fr r F.length g a w) F.length ?_ ?_
        · exact ⟨r, v, by omega, hr, by omega, HA.out, AtP.intro⟩
        · intro g a' w' hI
          refine apRound31 T U F w0 bo pt ct false (w0.heap.size + 1) T.length (drB false) (puB false) ph cs.length ch HC h tt k fr r F.length T.length HLA.out rfl (fun t h1 h2 => ?_) htl g a' w' hI _ (fun a2 w2 h2 => h2) ?_
          · obtain ⟨o, ho⟩ : ∃ o, F[t]? = some o := ⟨_, List.getElem?_eq_getElem h2⟩
            have hs := HKE.out o (List.mem_of_getElem? (i := t - r) (by rw [List.getElem?_drop, show r + (t - r) = t by omega]; exact ho))
            obtain ⟨s, l⟩ := o
            simp only at hs
            subst hs
            exact ⟨l, ho⟩
          · clear hI
            intro v' a3 w3 hA3 ha3
            have hlen : cY (F.take F.length) = U.length := by
              rw [List.take_length]
              have := HC.out.path.ends.2
              omega
            have hfl : flags (F.take F.length) = flags F := by rw [List.take_length]
            have hpad : pad (flags F) T.length = flags F := by
              unfold pad
              rw [flags_len]
              have := HC.out.path.ends.1
              rw [show T.length - cX F = 0 by omega]
              simp
            have hrow := AP.row hA3
            rw [hlen, List.take_length] at hrow
            have hst := AP.stay hA3
            rw [hfl, hpad] at hst
            have HROW := Lib.hid hrow
            have HST := Lib.hid hst
            have HBL := Lib.hid (AP.bl hA3)
            clear hA3 hrow hst hlen hfl hpad
            refine AtP.elim (C := fun a => Exit.then _ _ (.exit 6) a w3) ?_ ha3
            intro c0
            intros
            go_wp2_with fail
            go_ret3
            exact ⟨v', _, rfl, HROW.out, HST.out, HBL.out⟩
    · obtain ⟨wq, hwq⟩ : ∃ wq, wq = ((w0.alloc (.cells (bools (pad [] T.length)).toArray 4)).alloc (.cells #[] 9)).drew := ⟨_, rfl⟩
      have HAP : Hid (APr w0 none (w0.heap.size) (.slice (some ⟨w0.heap.size + 1, 0, none⟩) 0 0) T U F 0 wq) := Lib.hid (ap_b rfl wq hwq)
      rw [← hwq]
      clear hwq hmk
      go_wp2_with fail
      refine wp_loop_ghost (fun g a w => ApO T U F w0 pt ct false (w0.heap.size) T.length ph ch cs g a w) cs.length ?_ ?_
      · exact ⟨0, 0, _, _, _, _, none, by omega, by omega, by omega, HCOV.out, HAP.out, AtP.intro⟩
      · intro g a' w' hI
        refine apOuter T U F w0 pt ct false (w0.heap.size) T.length ph ch HC cs us B HR.out HCK.out hcl g a' w' hI _ (fun a2 w2 h2 => h2) ?_
        clear hI HAP
        intro r bo v a2 w2 hr hke hA ha
        obtain ⟨h, fr, tt, k, ha⟩ := ha
        have HKE := Lib.hid hke
        have HA := Lib.hid hA
        have hlast : T.length = cX (F.take F.length) := by
          rw [List.take_length]
          have := HC.out.path.ends.1
          omega
        have HLA := Lib.hid hlast
        clear hke hA hlast
        refine AtP.elim (C := fun a => Exit.then _ _ (.exit 0) a w2) ?_ ha
        intro c0
        intros
        go_wp2_with fail
        refine wp_loop_ghost (fun g a w => ApI31 T U F w0 bo pt ct false (w0.heap.size) T.length (drB false) (puB false) ph cs.length ch h tt k fr r F.length g a w) F.length ?_ ?_
        · exact ⟨r, v, by omega, hr, by omega, HA.out, AtP.intro⟩
        · intro g a' w' hI
          refine apRound31 T U F w0 bo pt ct false (w0.heap.size) T.length (drB false) (puB false) ph cs.length ch HC h tt k fr r F.length T.length HLA.out rfl (fun t h1 h2 => ?_) htl g a' w' hI _ (fun a2 w2 h2 => h2) ?_
          · obtain ⟨o, ho⟩ : ∃ o, F[t]? = some o := ⟨_, List.getElem?_eq_getElem h2⟩
            have hs := HKE.out o (List.mem_of_getElem? (i := t - r) (by rw [List.getElem?_drop, show r + (t - r) = t by omega]; exact ho))
            obtain ⟨s, l⟩ := o
            simp only at hs
            subst hs
            exact ⟨l, ho⟩
          · clear hI
            intro v' a3 w3 hA3 ha3
            have hlen : cY (F.take F.length) = U.length := by
              rw [List.take_length]
              have := HC.out.path.ends.2
              omega
            have hfl : flags (F.take F.length) = flags F := by rw [List.take_length]
            have hpad : pad (flags F) T.length = flags F := by
              unfold pad
              rw [flags_len]
              have := HC.out.path.ends.1
              rw [show T.length - cX F = 0 by omega]
              simp
            have hrow := AP.row hA3
            rw [hlen, List.take_length] at hrow
            have hst := AP.stay hA3
            rw [hfl, hpad] at hst
            have HROW := Lib.hid hrow
            have HST := Lib.hid hst
            have HBL := Lib.hid (AP.bl hA3)
            clear hA3 hrow hst hlen hfl hpad
            refine AtP.elim (C := fun a => Exit.then _ _ (.exit 6) a w3) ?_ ha3
            intro c0
            intros
            go_wp2_with fail
            go_ret3
            exact ⟨v', _, rfl, HROW.out, HST.out, HBL.out⟩
  | true =>
    go_enter Tryd.func17, Tryd.ntmps17
    go_wp2_with fail
    go_region
    · obtain ⟨wq, hwq⟩ : ∃ wq, wq = ((w0.alloc (.cells #[] 9)).alloc (.cells (bools (pad [] T.length)).toArray 4)).drew := ⟨_, rfl⟩
      have HAP : Hid (APr w0 none (w0.heap.size + 1) (.slice (some ⟨w0.heap.size, 0, none⟩) 0 0) T U F 0 wq) := Lib.hid (ap_a rfl wq hwq)
      rw [← hwq]
      clear hwq hmk
      go_wp2_with fail
      refine wp_loop_ghost (fun g a w => ApO T U F w0 pt ct true (w0.heap.size + 1) T.length ph ch cs g a w) cs.length ?_ ?_
      · exact ⟨0, 0, _, _, _, _, none, by omega, by omega, by omega, HCOV.out, HAP.out, AtP.intro⟩
      · intro g a' w' hI
        refine apOuter T U F w0 pt ct true (w0.heap.size + 1) T.length ph ch HC cs us B HR.out HCK.out hcl g a' w' hI _ (fun a2 w2 h2 => h2) ?_
        clear hI HAP
        intro r bo v a2 w2 hr hke hA ha
        obtain ⟨h, fr, tt, k, ha⟩ := ha
        have HKE := Lib.hid hke
        have HA := Lib.hid hA
        have hlast : T.length = cX (F.take F.length) := by
          rw [List.take_length]
          have := HC.out.path.ends.1
          omega
        have HLA := Lib.hid hlast
        clear hke hA hlast
        refine AtP.elim (C := fun a => Exit.then _ _ (.exit 0) a w2) ?_ ha
        intro c0
        intros
        go_wp2_with fail
        refine wp_loop_ghost (fun g a w => ApI31 T U F w0 bo pt ct true (w0.heap.size + 1) T.length (drB true) (puB true) ph cs.length ch h tt k fr r F.length g a w) F.length ?_ ?_
        · exact ⟨r, v, by omega, hr, by omega, HA.out, AtP.intro⟩
        · intro g a' w' hI
          refine apRound31 T U F w0 bo pt ct true (w0.heap.size + 1) T.length (drB true) (puB true) ph cs.length ch HC h tt k fr r F.length T.length HLA.out rfl (fun t h1 h2 => ?_) htl g a' w' hI _ (fun a2 w2 h2 => h2) ?_
          · obtain ⟨o, ho⟩ : ∃ o, F[t]? = some o := ⟨_, List.getElem?_eq_getElem h2⟩
            have hs := HKE.out o (List.mem_of_getElem? (i := t - r) (by rw [List.getElem?_drop, show r + (t - r) = t by omega]; exact ho))
            obtain ⟨s, l⟩ := o
            simp only at hs
            subst hs
            exact ⟨l, ho⟩
          · clear hI
            intro v' a3 w3 hA3 ha3
            have hlen : cY (F.take F.length) = U.length := by
              rw [List.take_length]
              have := HC.out.path.ends.2
              omega
            have hfl : flags (F.take F.length) = flags F := by rw [List.take_length]
            have hpad : pad (flags F) T.length = flags F := by
              unfold pad
              rw [flags_len]
              have := HC.out.path.ends.1
              rw [show T.length - cX F = 0 by omega]
              simp
            have hrow := AP.row hA3
            rw [hlen, List.take_length] at hrow
            have hst := AP.stay hA3
            rw [hfl, hpad] at hst
            have HROW := Lib.hid hrow
            have HST := Lib.hid hst
            have HBL := Lib.hid (AP.bl hA3)
            clear hA3 hrow hst hlen hfl hpad
            refine AtP.elim (C := fun a => Exit.then _ _ (.exit 6) a w3) ?_ ha3
            intro c0
            intros
            go_wp2_with fail
            go_ret3
            exact ⟨v', _, rfl, HROW.out, HST.out, HBL.out⟩
    · obtain ⟨wq, hwq⟩ : ∃ wq, wq = ((w0.alloc (.cells (bools (pad [] T.length)).toArray 4)).alloc (.cells #[] 9)).drew := ⟨_, rfl⟩
      have HAP : Hid (APr w0 none (w0.heap.size) (.slice (some ⟨w0.heap.size + 1, 0, none⟩) 0 0) T U F 0 wq) := Lib.hid (ap_b rfl wq hwq)
      rw [← hwq]
      clear hwq hmk
      go_wp2_with fail
      refine wp_loop_ghost (fun g a w => ApO T U F w0 pt ct true (w0.heap.size) T.length ph ch cs g a w) cs.length ?_ ?_
      · exact ⟨0, 0, _, _, _, _, none, by omega, by omega, by omega, HCOV.out, HAP.out, AtP.intro⟩
      · intro g a' w' hI
        refine apOuter T U F w0 pt ct true (w0.heap.size) T.length ph ch HC cs us B HR.out HCK.out hcl g a' w' hI _ (fun a2 w2 h2 => h2) ?_
        clear hI HAP
        intro r bo v a2 w2 hr hke hA ha
        obtain ⟨h, fr, tt, k, ha⟩ := ha
        have HKE := Lib.hid hke
        have HA := Lib.hid hA
        have hlast : T.length = cX (F.take F.length) := by
          rw [List.take_length]
          have := HC.out.path.ends.1
          omega
        have HLA := Lib.hid hlast
        clear hke hA hlast
        refine AtP.elim (C := fun a => Exit.then _ _ (.exit 0) a w2) ?_ ha
        intro c0
        intros
        go_wp2_with fail
        refine wp_loop_ghost (fun g a w => ApI31 T U F w0 bo pt ct true (w0.heap.size) T.length (drB true) (puB true) ph cs.length ch h tt k fr r F.length g a w) F.length ?_ ?_
        · exact ⟨r, v, by omega, hr, by omega, HA.out, AtP.intro⟩
        · intro g a' w' hI
          refine apRound31 T U F w0 bo pt ct true (w0.heap.size) T.length (drB true) (puB true) ph cs.length ch HC h tt k fr r F.length T.length HLA.out rfl (fun t h1 h2 => ?_) htl g a' w' hI _ (fun a2 w2 h2 => h2) ?_
          · obtain ⟨o, ho⟩ : ∃ o, F[t]? = some o := ⟨_, List.getElem?_eq_getElem h2⟩
            have hs := HKE.out o (List.mem_of_getElem? (i := t - r) (by rw [List.getElem?_drop, show r + (t - r) = t by omega]; exact ho))
            obtain ⟨s, l⟩ := o
            simp only at hs
            subst hs
            exact ⟨l, ho⟩
          · clear hI
            intro v' a3 w3 hA3 ha3
            have hlen : cY (F.take F.length) = U.length := by
              rw [List.take_length]
              have := HC.out.path.ends.2
              omega
            have hfl : flags (F.take F.length) = flags F := by rw [List.take_length]
            have hpad : pad (flags F) T.length = flags F := by
              unfold pad
              rw [flags_len]
              have := HC.out.path.ends.1
              rw [show T.length - cX F = 0 by omega]
              simp
            have hrow := AP.row hA3
            rw [hlen, List.take_length] at hrow
            have hst := AP.stay hA3
            rw [hfl, hpad] at hst
            have HROW := Lib.hid hrow
            have HST := Lib.hid hst
            have HBL := Lib.hid (AP.bl hA3)
            clear hA3 hrow hst hlen hfl hpad
            refine AtP.elim (C := fun a => Exit.then _ _ (.exit 6) a w3) ?_ ha3
            intro c0
            intros
            go_wp2_with fail
            go_ret3
            exact ⟨v', _, rfl, HROW.out, HST.out, HBL.out⟩
end Go.Proofs.YtncjclmhdhimdaaDoor
