/- The package's parsePlusBuildExpr: what stands behind // +build is read as the plain law says, or is too much. -/
import Derived.Test.YteemenhinhkonaaDoorPlusF
import Derived.Test.YteemenhinhkonaaDoorCons
import Derived.RangeFuncBox
import Derived.Maps.AppendAt
namespace Go.Proofs.YteemenhinhkonaaDoor
open Go.RowKit Go.Shelf
attribute [local go_sem] Oper.semAt_some

def Errs (w : World) : Prop := (∃ a, w.cell? ⟨0, 0, none⟩ = some (.iface 183 (.pointer (some a)))) ∧ ∃ a, w.cell? ⟨1, 0, none⟩ = some (.iface 183 (.pointer (some a)))
theorem Errs.below {w w' : World} (h : Errs w) (hb : Below w.heap.size w w') : Errs w' := by
  obtain ⟨⟨a, ha⟩, ⟨b, hb'⟩⟩ := h
  exact ⟨⟨a, (hb.cell (p := ⟨_, 0, none⟩) (lt_of_cell ha)).trans ha⟩, ⟨b, (hb.cell (p := ⟨_, 0, none⟩) (lt_of_cell hb')).trans hb'⟩⟩
def PpPost (t : List UInt8) (w : World) (en : Ending) (w' : World) : Prop := Below w.heap.size w w' ∧
  ((∃ v, en = .returned (.tuple #[v, .nilIface]) ∧ CIs w' (plusEx t) v) ∨ (101 ≤ litsC (Lib.fieldsD t) ∧ ∃ a, en = .returned (.tuple #[.nilIface, .iface 183 (.pointer (some a))])))

/- new nodes -/
def NewC (x : Ex) (w : World) (e : Ending) (w' : World) : Prop := ∃ b, e = .returned (.iface x.ptr (.pointer (some ⟨b, 0, none⟩))) ∧ CIs w' x (.iface x.ptr (.pointer (some ⟨b, 0, none⟩))) ∧ Below w.heap.size w w'
theorem mkTagC (s : ByteArray) (w : World) (hs : s.size ≤ 1152921504606846976) : Calls Tryd.prog 77 #[.string s] w (NewC (.tag s) w) :=
  (mkTag_any s w).mono fun e w' ⟨he, hw⟩ => ⟨w.heap.size, he, ⟨w.heap.size, rfl, by rw [← hw]; exact heap_new _ _ rfl, hs⟩, by rw [← hw]; exact (Below.refl _ _).alloc (Nat.le_refl _) _⟩
theorem mkNotC (x : Ex) (b : Nat) (w : World) (h : CIs w x (.iface x.ptr (.pointer (some ⟨b, 0, none⟩)))) : Calls Tryd.prog 79 #[.iface x.ptr (.pointer (some ⟨b, 0, none⟩))] w (NewC (.not x) w) :=
  (mkNot_any x.ptr b w).mono fun e w' ⟨he, hw⟩ => by
    subst hw
    exact ⟨w.heap.size, he, ⟨w.heap.size, _, rfl, heap_new _ _ rfl, h.below ((Below.refl _ _).alloc (Nat.le_refl _) _)⟩, (Below.refl _ _).alloc (Nat.le_refl _) _⟩
theorem mkAndC (x y : Ex) (b c : Nat) (w : World) (hx : CIs w x (.iface x.ptr (.pointer (some ⟨b, 0, none⟩)))) (hy : CIs w y (.iface y.ptr (.pointer (some ⟨c, 0, none⟩)))) : Calls Tryd.prog 80 #[.iface x.ptr (.pointer (some ⟨b, 0, none⟩)), .iface y.ptr (.pointer (some ⟨c, 0, none⟩))] w (NewC (.and x y) w) :=
  (mkAnd_any x.ptr y.ptr b c w).mono fun e w' ⟨he, hw⟩ => by
    subst hw
    have hn := fun o => (Below.refl w.heap.size w).alloc (Nat.le_refl _) o
    exact ⟨w.heap.size, he, ⟨w.heap.size, _, _, rfl, heap_new _ _ rfl, hx.below (hn _), hy.below (hn _)⟩, hn _⟩
theorem mkOrC (x y : Ex) (b c : Nat) (w : World) (hx : CIs w x (.iface x.ptr (.pointer (some ⟨b, 0, none⟩)))) (hy : CIs w y (.iface y.ptr (.pointer (some ⟨c, 0, none⟩)))) : Calls Tryd.prog 81 #[.iface x.ptr (.pointer (some ⟨b, 0, none⟩)), .iface y.ptr (.pointer (some ⟨c, 0, none⟩))] w (NewC (.or x y) w) :=
  (mkOr_any x.ptr y.ptr b c w).mono fun e w' ⟨he, hw⟩ => by
    subst hw
    have hn := fun o => (Below.refl w.heap.size w).alloc (Nat.le_refl _) o
    exact ⟨w.heap.size, he, ⟨w.heap.size, _, _, rfl, heap_new _ _ rfl, hx.below (hn _), hy.below (hn _)⟩, hn _⟩
theorem hp_any (t : List UInt8) (p : ByteArray) (w : World) : Calls Tryd.prog 71 #[.string (mkB t), .string p] w fun e w' => e = .returned (.bool (Lib.hasPrefix t p.data.toList)) ∧ w = w' :=
  (Tryd.strings_HasPrefix (mkB t) p w).mono fun e w' ⟨he, hw⟩ => ⟨by rw [he, mkB_toList], hw.symm⟩
theorem fseq_any (s : ByteArray) (w : World) : Calls Tryd.prog 75 #[.string s] w fun e w' => e = .returned (.func (.func 94) #[] #[.pointer (some ⟨w.heap.size, 0, none⟩)]) ∧ w.alloc (.cells #[.string s] 9) = w' := by
  have hmf : ∀ (fn : Fn) (first cap : Array Value) (w : World), (Instr.makeFunc fn first cap).run Tryd.prog w = .ok (.func fn first cap) w := fun _ _ _ _ => rfl
  go_enter Tryd.func75, Tryd.ntmps75
  go_wp2_with fail
  go_ret
  exact ⟨rfl, rfl⟩

/- what the body keeps -/
def XV (w : World) (o : Option Ex) (v : Value) : Prop := match o with
  | none => v = .nilIface
  | some x => ∃ b, v = .iface x.ptr (.pointer (some ⟨b, 0, none⟩)) ∧ CIs w x v
theorem XV.keep {w w' : World} (hk : ∀ (b : Nat) (cs : Array Value) (t : TypeId) (f : Nat × Nat), w.heap[b]? = some (.cells cs t f) → nodeT t = true → w'.heap[b]? = w.heap[b]?) {o : Option Ex} {v : Value} (h : XV w o v) : XV w' o v := by
  cases o with
  | none => exact h
  | some x => obtain ⟨b, h1, h2⟩ := h; exact ⟨b, h1, h2.keep hk⟩
theorem XV.below {w w' : World} {o : Option Ex} {v : Value} (h : XV w o v) (hb : Below w.heap.size w w') : XV w' o v := h.keep fun b _ _ _ hc _ => hb.block b (lt_of_heap hc)
theorem XV.of_new {w : World} {x : Ex} {b : Nat} (h : CIs w x (.iface x.ptr (.pointer (some ⟨b, 0, none⟩)))) : XV w (some x) (.iface x.ptr (.pointer (some ⟨b, 0, none⟩))) := ⟨b, rfl, h⟩
theorem keeps_below {w w' : World} (hb : Below w.heap.size w w') : KeepsOthers w w' := ⟨hb.size, fun k _ hk _ => (hb.block k (lt_of_heap hk)).trans hk⟩
structure PB (B : Nat) (w W wr : World) (o : Option Ex) (n : Nat) (v : Value) : Prop where
  r1 : Boxed wr B 63 .nilIface
  r2 : Boxed wr (B + 1) 65 .nilIface
  bs : Boxed wr (B + 1 + 1) 3 (.int .i64 (n : Int))
  bx : Boxed wr (B + 1 + 1 + 1) 63 v
  xv : XV wr o v
  be : Below B w wr
  kp : KpF B (B + 1 + 1 + 1 + 1) W wr
  ko : KeepsOthers W wr
theorem boxed_below {W W' : World} {B : Nat} {t : TypeId} {v : Value} (h : Boxed W B t v) (hb : Below W.heap.size W W') : Boxed W' B t v := (hb.block B (lt_of_heap h)).trans h
theorem PB.below {B : Nat} {w W wr w1 : World} {o : Option Ex} {n : Nat} {v : Value} (h : PB B w W wr o n v) (hf : B + 1 + 1 + 1 + 1 < wr.heap.size) (hb : Below wr.heap.size wr w1) : PB B w W w1 o n v :=
  ⟨boxed_below h.r1 hb, boxed_below h.r2 hb, boxed_below h.bs hb, boxed_below h.bx hb, h.xv.below hb, h.be.trans (hb.mono (by omega)), kpF_t h.kp (KpF.of_below hb (by omega) hf), h.ko.trans (keeps_below hb)⟩
theorem boxed_set_ne {W : World} {B C : Nat} {t : TypeId} {v u : Value} (h : Boxed W B t v) (hne : B ≠ C) : Boxed (W.setCell ⟨C, 0, none⟩ u) B t v := (Below.heap_setCell _ _ _ B hne).trans h
theorem xv_set {W : World} {C : Nat} {t : TypeId} {u u' : Value} {o : Option Ex} {v : Value} (h : XV W o v) (hc : Boxed W C t u) (ht : nodeT t = false) : XV (W.setCell ⟨C, 0, none⟩ u') o v :=
  h.keep fun b cs t' f hb hn => Below.heap_setCell _ _ _ b fun e => by
    subst e
    rw [show W.heap[b]? = _ from hc] at hb
    injection hb with hb
    injection hb with _ hb _
    rw [hb, hn] at ht
    cases ht
theorem PB.setS {B : Nat} {w W wr : World} {o : Option Ex} {n m : Nat} {v : Value} (h : PB B w W wr o n v) : PB B w W (wr.setCell ⟨B + 1 + 1, 0, none⟩ (.int .i64 (m : Int))) o m v :=
  ⟨boxed_set_ne h.r1 (by omega), boxed_set_ne h.r2 (by omega), h.bs.set _, boxed_set_ne h.bx (by omega), xv_set h.xv h.bs rfl, h.be.setCell (p := ⟨B + 1 + 1, 0, none⟩) (by show B ≤ B + 1 + 1; omega) _,
    ⟨h.kp.1.setCell (p := ⟨B + 1 + 1, 0, none⟩) (by show B ≤ B + 1 + 1; omega) _, (Below.heap_setCell _ _ _ _ (by show B + 1 + 1 + 1 + 1 ≠ B + 1 + 1; omega)).trans h.kp.2⟩, h.ko.trans (KeepsOthers.setCell _ _ _)⟩
theorem PB.setX {B : Nat} {w W wr : World} {o o' : Option Ex} {n : Nat} {v u : Value} (h : PB B w W wr o n v) (hu : XV wr o' u) : PB B w W (wr.setCell ⟨B + 1 + 1 + 1, 0, none⟩ u) o' n u :=
  ⟨boxed_set_ne h.r1 (by omega), boxed_set_ne h.r2 (by omega), boxed_set_ne h.bs (by omega), h.bx.set _, xv_set hu h.bx rfl, h.be.setCell (p := ⟨B + 1 + 1 + 1, 0, none⟩) (by show B ≤ B + 1 + 1 + 1; omega) _,
    ⟨h.kp.1.setCell (p := ⟨B + 1 + 1 + 1, 0, none⟩) (by show B ≤ B + 1 + 1 + 1; omega) _, (Below.heap_setCell _ _ _ _ (by show B + 1 + 1 + 1 + 1 ≠ B + 1 + 1 + 1; omega)).trans h.kp.2⟩, h.ko.trans (KeepsOthers.setCell _ _ _)⟩
theorem PB.here {B : Nat} {w W wr : World} {o : Option Ex} {n : Nat} {v : Value} (h : PB B w W wr o n v) : PB B w wr wr o n v := ⟨h.r1, h.r2, h.bs, h.bx, h.xv, h.be, ⟨Below.refl _ _, rfl⟩, KeepsOthers.refl _⟩
def IPl (B : Nat) (w : World) (s : ByteArray) (N : Nat) (pre : List (Fld N)) (W : World) : Prop := (∃ n v, PB B w W W (lineO (pre.map (·.1))) n v ∧ n ≤ litsC (pre.map (·.1)) ∧ n ≤ 100) ∧ W.heap[B + 1 + 1 + 1 + 1]? = some (.cells #[.string s] 9 (0, 0))
def XPl (B : Nat) (w : World) (N : Nat) (c : Code) (pre : List (Fld N)) (W : World) : Prop := c = .ret ∧ 101 ≤ litsC (pre.map (·.1)) ∧ (∃ a, Boxed W B 63 .nilIface ∧ Boxed W (B + 1) 65 (.iface 183 (.pointer (some a)))) ∧ Below B w W
theorem same_cells {C : Nat} {A A' : World} {row : Option Nat} (hg : A.grownBy A' row) (hr : ∀ r, row = some r → C ≤ r ∧ ∃ o : Obj, A.heap[r]? = some o ∧ o.isCells = false) {b : Nat} {cs : Array Value} {t : TypeId} {f : Nat × Nat} (h : A.heap[b]? = some (.cells cs t f)) : A'.heap[b]? = A.heap[b]? :=
  hg.block b (lt_of_heap h) fun e => by
    obtain ⟨_, o, ho, hc⟩ := hr b e.symm
    rw [h] at ho
    cases ho
    cases hc
theorem IPl.own (B C : Nat) (w : World) (s : ByteArray) (N : Nat) (hC : B ≤ C) : OwnFrom C (IPl B w s N) := by
  rintro pre A A' row ⟨⟨n, v, h, h1, h2⟩, h3⟩ hg hr
  have sc : ∀ {b : Nat} {cs : Array Value} {t : TypeId} {f : Nat × Nat}, A.heap[b]? = some (.cells cs t f) → A'.heap[b]? = A.heap[b]? := fun h => same_cells hg hr h
  have hsz : B ≤ A.heap.size := by have := lt_of_heap h.r1; omega
  refine ⟨⟨n, v, ⟨(sc h.r1).trans h.r1, (sc h.r2).trans h.r2, (sc h.bs).trans h.bs, (sc h.bx).trans h.bx, h.xv.keep fun b _ _ _ hb _ => sc hb, h.be.grown hg hsz fun k e => by have := (hr k e).1; omega, ⟨Below.refl _ _, rfl⟩, KeepsOthers.refl _⟩, h1, h2⟩, (sc h3).trans h3⟩
theorem XPl.own (B C : Nat) (w : World) (N : Nat) (c : Code) (hC : B ≤ C) : OwnFrom C (XPl B w N c) := by
  rintro pre A A' row ⟨h0, h1, ⟨a, h2, h3⟩, h4⟩ hg hr
  have sc : ∀ {b : Nat} {cs : Array Value} {t : TypeId} {f : Nat × Nat}, A.heap[b]? = some (.cells cs t f) → A'.heap[b]? = A.heap[b]? := fun h => same_cells hg hr h
  exact ⟨h0, h1, ⟨a, (sc h2).trans h2, (sc h3).trans h3⟩, h4.grown hg (by have := lt_of_heap h2; omega) fun k e => by have := (hr k e).1; omega⟩

/- the terms of a clause -/
def CellsL (n : Nat) (ps : Option Addr) (ls : List (List UInt8)) (wr : World) : Prop := ∀ (i : Nat) (t : List UInt8), ls[i]? = some t → ∃ g, n ≤ g ∧ ps = some ⟨g, 0, none⟩ ∧ wr.cell? ⟨g, i, none⟩ = some (.string (mkB t))
theorem CellsL.below {n : Nat} {ps : Option Addr} {ls : List (List UInt8)} {wr w' : World} (h : CellsL n ps ls wr) (hb : Below wr.heap.size wr w') : CellsL n ps ls w' := fun i t ht => by
  obtain ⟨g, h1, h2, h3⟩ := h i t ht
  exact ⟨g, h1, h2, (hb.cell (p := ⟨g, i, none⟩) (lt_of_cell h3)).trans h3⟩
theorem CellsL.set {n C : Nat} {ps : Option Addr} {ls : List (List UInt8)} {wr : World} {u : Value} (h : CellsL n ps ls wr) (hC : C < n) : CellsL n ps ls (wr.setCell ⟨C, 0, none⟩ u) := fun i t ht => by
  obtain ⟨g, h1, h2, h3⟩ := h i t ht
  exact ⟨g, h1, h2, (World.cell?_of_block (a := ⟨g, i, none⟩) (Below.heap_setCell _ _ _ g (by show g ≠ C; omega))).trans h3⟩
def InR (B : Nat) (w W : World) (ps : Option Addr) (ls : List (List UInt8)) (pre : List (List UInt8)) (y i : Value) (wr : World) : Prop :=
  ∃ (k n : Nat) (v : Value), k ≤ ls.length ∧ i = .int .i64 (k : Int) ∧ PB B w W wr (lineO pre) n v ∧ XV wr (clauseO (ls.take k)) y ∧ n ≤ litsC pre + (k - 1) ∧ n ≤ 100 ∧ CellsL W.heap.size ps ls wr ∧ B + 1 + 1 + 1 + 1 < wr.heap.size
theorem InR.go {B : Nat} {w W wr : World} {ps : Option Addr} {ls : List (List UInt8)} {pre : List (List UInt8)} {y v : Value} {k n : Nat} {u : List UInt8} (_hu : ls[k]? = some u) (hk : k < ls.length) (hp : PB B w W wr (lineO pre) n v) (hx : XV wr (clauseO (ls.take (k + 1))) y) (h1 : n ≤ litsC pre + k) (h2 : n ≤ 100) (hc : CellsL W.heap.size ps ls wr) (hf : B + 1 + 1 + 1 + 1 < wr.heap.size) : InR B w W ps ls pre y (.int .i64 ((k : Int) + 1)) wr :=
  ⟨k + 1, n, v, hk, by simp, hp, hx, by omega, h2, hc, hf⟩
theorem clauseO_take {ls : List (List UInt8)} {k : Nat} {u : List UInt8} (h : ls[k]? = some u) : clauseO (ls.take (k + 1)) = joinO .and (clauseO (ls.take k)) (litEx u) := by
  rw [List.take_add_one, h]
  exact clauseO_snoc _ _
theorem ci_set {W : World} {C : Nat} {t : TypeId} {u u' : Value} {x : Ex} {v : Value} (h : CIs W x v) (hc : Boxed W C t u') (ht : nodeT t = false := by rfl) : CIs (W.setCell ⟨C, 0, none⟩ u) x v :=
  h.keep fun b cs t' f hb hn => Below.heap_setCell _ _ _ b fun e => by
    subst e
    rw [show W.heap[b]? = _ from hc] at hb
    injection hb with hb
    injection hb with _ hb _
    rw [hb, hn] at ht
    cases ht
theorem xv_ci {W : World} {x : Ex} {v : Value} (h : XV W (some x) v) : CIs W x v := by
  obtain ⟨b, _, h⟩ := h
  exact h
theorem ign_size : (ByteArray.mk #[105, 103, 110, 111, 114, 101]).size ≤ 1152921504606846976 := by show (6 : Nat) ≤ _; omega
theorem size_set (W : World) (C : Nat) (u : Value) : (W.setCell ⟨C, 0, none⟩ u).heap.size = W.heap.size := by
  show (W.heap.modify C _).size = _
  rw [Array.size_modify]
theorem PB.err {B : Nat} {w W wz W' : World} {o : Option Ex} {n : Nat} {v u m : Value} (h : PB B w W wz o n v) (hW : W' = (((wz.setCell ⟨B + 1 + 1, 0, none⟩ m).setCell ⟨B, 0, none⟩ .nilIface).setCell ⟨B + 1, 0, none⟩ u).drew) :
    KeepsOthers W W' ∧ Boxed W' B 63 .nilIface ∧ Boxed W' (B + 1) 65 u ∧ Below B w W' := by
  subst hW
  refine ⟨(((h.ko.trans (KeepsOthers.setCell _ _ _)).trans (KeepsOthers.setCell _ _ _)).trans (KeepsOthers.setCell _ _ _)).trans (KeepsOthers.drew _), ?_, ?_, ?_⟩
  · exact boxed_set_ne (Boxed.set _ (boxed_set_ne h.r1 (by omega))) (by omega)
  · exact Boxed.set _ (boxed_set_ne (boxed_set_ne h.r2 (by omega)) (by omega))
  · exact (((h.be.setCell (p := ⟨B + 1 + 1, 0, none⟩) (by show B ≤ B + 1 + 1; omega) _).setCell (p := ⟨B, 0, none⟩) (Nat.le_refl _) _).setCell (p := ⟨B + 1, 0, none⟩) (by show B ≤ B + 1; omega) _).drew
theorem PB.round {B C N : Nat} {w W W' : World} {o : Option Ex} {n : Nat} {v : Value} {s : ByteArray} {pre : List (Fld N)} {x : Fld N} (h : PB B w W W' o n v) (ho : lineO ((pre ++ [x]).map (·.1)) = o) (h1 : n ≤ litsC ((pre ++ [x]).map (·.1))) (h2 : n ≤ 100) (h5 : W.heap[B + 1 + 1 + 1 + 1]? = some (.cells #[.string s] 9 (0, 0))) :
    KeepsFrom C W W' ∧ KpF B (B + 1 + 1 + 1 + 1) W W' ∧ IPl B w s N (pre ++ [x]) W' :=
  ⟨h.ko.from _, h.kp, ⟨n, v, by rw [ho]; exact h.here, h1, h2⟩, h.kp.2.trans h5⟩
theorem cell_put {W : World} {b D : Nat} {t : TypeId} {v : Value} {o o' : Obj} (h : Boxed W b t v) (hK : W.heap[D]? = some o) (ho : o.isCells = false) : (W.putObj D o').cell? ⟨b, 0, none⟩ = some v :=
  cell_kept h.cell (grownBy_putObj' _ D o') (fun r e => by cases e; exact ⟨_, hK, ho⟩)
theorem below_put {B D : Nat} {w W : World} {o' : Obj} (h : Below B w W) (hB : B ≤ W.heap.size) (hD : B ≤ D) : Below B w (W.putObj D o') := h.grown (grownBy_putObj' _ D o') hB fun k e => by cases e; exact hD
theorem ci_put {W : World} {D : Nat} {x : Ex} {v : Value} {o o' : Obj} (h : CIs W x v) (hK : W.heap[D]? = some o) (ho : o.isCells = false) : CIs (W.putObj D o') x v :=
  h.keep fun b cs t f hb _ => World.putObj_heap_other fun e => by
    subst e
    rw [hb] at hK
    cases hK
    cases ho
theorem PB.fin {B D : Nat} {w W wz W' : World} {o : Option Ex} {n : Nat} {v u : Value} {x : Ex} (h : PB B w W wz o n v) (hu : CIs wz x u) (hK : wz.heap[D]? = some (.deferred (some []))) (hD : B ≤ D) (hW : W' = (wz.setCell ⟨B, 0, none⟩ u).setCell ⟨B + 1, 0, none⟩ .nilIface) :
    W'.heap[D]? = some (.deferred (some [])) ∧ (W'.putObj D (.deferred none)).cell? ⟨B, 0, none⟩ = some u ∧ (W'.putObj D (.deferred none)).cell? ⟨B + 1, 0, none⟩ = some .nilIface ∧ Below B w (W'.putObj D (.deferred none)) ∧ CIs (W'.putObj D (.deferred none)) x u := by
  subst hW
  have k1 : Boxed ((wz.setCell ⟨B, 0, none⟩ u).setCell ⟨B + 1, 0, none⟩ .nilIface) B 63 u := boxed_set_ne (h.r1.set _) (by omega)
  have k2 : Boxed ((wz.setCell ⟨B, 0, none⟩ u).setCell ⟨B + 1, 0, none⟩ .nilIface) (B + 1) 65 .nilIface := Boxed.set _ (boxed_set_ne h.r2 (by omega))
  have k3 := ((KeepsOthers.setCell wz ⟨B, 0, none⟩ u).trans (KeepsOthers.setCell _ ⟨B + 1, 0, none⟩ .nilIface)).same D _ hK rfl
  have k4 : Below B w ((wz.setCell ⟨B, 0, none⟩ u).setCell ⟨B + 1, 0, none⟩ .nilIface) := (h.be.setCell (p := ⟨B, 0, none⟩) (Nat.le_refl _) _).setCell (p := ⟨B + 1, 0, none⟩) (by show B ≤ B + 1; omega) _
  exact ⟨k3, cell_put k1 k3 rfl, cell_put k2 k3 rfl, below_put k4 (by have := lt_of_heap k1; omega) hD, ci_put (ci_set (ci_set hu h.r1) (boxed_set_ne h.r2 (by omega))) k3 rfl⟩
theorem litsC_prefix {a b : List (List UInt8)} (h : a <+: b) : litsC a ≤ litsC b := by
  obtain ⟨r, rfl⟩ := h
  simp [litsC]
theorem splitGo_len {u : List UInt8} (l : List UInt8) : ∀ cur, u ∈ splitGo cur l → u.length ≤ cur.length + l.length := by
  induction l with
  | nil => intro cur h; rw [splitGo, List.mem_singleton] at h; subst h; simp
  | cons c r ih =>
    intro cur h
    rw [splitGo] at h
    split at h
    · rcases List.mem_cons.1 h with rfl | h
      · simp
      · have := ih [] h
        simp at this ⊢
        omega
    · have := ih _ h
      simp at this ⊢
      omega
theorem cells_row {w : World} {B : Nat} {ps : Option Addr} {c : Nat} {ls : List (List UInt8)} (h : w.ownsRow B 9 1 (.slice ps ls.length c) ls.length (strs ls)) : CellsL B ps ls w := fun i t ht => by
  have hl := (List.getElem?_eq_some_iff.1 ht).1
  obtain ⟨g, rfl, hb, _, hc⟩ := ownsRow_at h (by omega)
  exact ⟨g, hb, rfl, hc i _ (by simp [strs, List.getElem?_map, ht])⟩
set_option maxRecDepth 100000 in
set_option maxHeartbeats 40000000 in
theorem parsePlus_any (t : List UInt8) (w : World) (ht : t.length ≤ 1000000000) (hT : Tabs w) (hE : Errs w) : Calls Tryd.prog 61 #[.string (mkB t)] w (PpPost t w) := by
  have HT := Lib.hid hT.upTo
  have HE := Lib.hid hE
  have hmx : Tryd.prog.follows .mixedOrders = true := by kernel_rfl
  clear hT hE
  refine (callsIn_wide (n := 4)).1 ?_
  refine callsIn_of_wp_marks Tryd.func61 rfl trivial ?_ rfl
  simp only [Tryd.ntmps61, List.size_toArray, List.length_cons, List.length_nil, Nat.reduceAdd, Nat.reduceSub, Array.replicate_succ, Array.replicate_zero, List.push_toArray, List.append_toArray, List.nil_append, List.cons_append]
  gi_wp2_with (refine ⟨trivial, ?_⟩; gi_at_call 75; refine (callsIn_wide.2 (fseq_any _ _)).mono ?_; rintro e1 w1 ⟨rfl, rfl⟩)
  obtain ⟨wl, hwl⟩ : ∃ wl, wl = ((((w.alloc (.cells #[.nilIface] 63)).alloc (.cells #[.nilIface] 65)).alloc (.cells #[.int .i64 0] 3)).alloc (.cells #[.nilIface] 63)).alloc (.cells #[.string (mkB t)] 9) := ⟨_, rfl⟩
  rw [← hwl]
  have hsz : wl.heap.size = w.heap.size + 5 := by rw [hwl]; simp
  have hbl : Below w.heap.size w wl := by rw [hwl]; exact (((((Below.refl _ _).alloc (Nat.le_refl _) _).alloc (by simp) _).alloc (by simp; omega) _).alloc (by simp; omega) _).alloc (by simp; omega) _
  have x1 : Boxed wl w.heap.size 63 .nilIface := by rw [hwl]; exact ((((Boxed.new w _ _).alloc _).alloc _).alloc _).alloc _
  have x2 : Boxed wl (w.heap.size + 1) 65 .nilIface := by
    have := Boxed.new (w.alloc (.cells #[.nilIface] 63)) 65 .nilIface
    rw [World.size_alloc] at this
    rw [hwl]; exact ((this.alloc _).alloc _).alloc _
  have x3 : Boxed wl (w.heap.size + 1 + 1) 3 (.int .i64 0) := by
    have := Boxed.new ((w.alloc (.cells #[.nilIface] 63)).alloc (.cells #[.nilIface] 65)) 3 (.int .i64 0)
    rw [World.size_alloc, World.size_alloc] at this
    rw [hwl]; exact (this.alloc _).alloc _
  have x4 : Boxed wl (w.heap.size + 1 + 1 + 1) 63 .nilIface := by
    have := Boxed.new (((w.alloc (.cells #[.nilIface] 63)).alloc (.cells #[.nilIface] 65)).alloc (.cells #[.int .i64 0] 3)) 63 .nilIface
    rw [World.size_alloc, World.size_alloc, World.size_alloc] at this
    rw [hwl]; exact this.alloc _
  have x5 : wl.heap[w.heap.size + 1 + 1 + 1 + 1]? = some (.cells #[.string (mkB t)] 9 (0, 0)) := by rw [hwl]; exact heap_new _ _ (by simp)
  have hTN : TabsN w.heap.size wl := HT.out.next fun b hb => hbl.block b hb
  have HX5 := Lib.hid x5
  have HI0 : Hid (IPl w.heap.size w (mkB t) 1000000000 [] wl) := Lib.hid ⟨⟨0, .nilIface, ⟨x1, x2, x3, x4, rfl, hbl, ⟨Below.refl _ _, rfl⟩, KeepsOthers.refl _⟩, Nat.zero_le _, by omega⟩, x5⟩
  have HTN := Lib.hid hTN
  have HSZ := Lib.hid hsz
  have HBL := Lib.hid hbl
  have HLT : Hid (t.length ≤ 1000000000) := Lib.hid ht
  clear hwl hsz hbl x1 x2 x3 x4 x5 hTN ht
  refine wpIn_rangeFunc_ownG rfl (by omega) (gf := 94) (lb := #[.pointer (some ⟨w.heap.size + 1 + 1 + 1 + 1, 0, none⟩)]) rfl trivial (enters_of Tryd.func94 (by kernel_rfl) rfl)
    (fields_stops _ 1000000000 (by omega) (mkB t) w.heap.size (w.heap.size + 1 + 1 + 1 + 1) wl (by rw [mkB_size]; exact HLT.out) (Nat.le_refl _) HX5.out (by have := HSZ.out; omega) HTN.out) kpF_t (kpF_b (by have := HSZ.out; omega) (by have := HSZ.out; omega)) (Below.refl _ _) (fun _ => rfl)
    (IPl w.heap.size w (mkB t) 1000000000) (XPl w.heap.size w 1000000000) (IPl.own _ _ _ _ _ (by have := HSZ.out; omega)) (fun c => XPl.own _ _ _ _ c (by have := HSZ.out; omega)) HI0.out
    (fun x => { tmps := #[Value.string (mkB t), undef, Value.pointer (some ⟨w.heap.size, 0, none⟩), Value.pointer (some ⟨w.heap.size + 1, 0, none⟩), Value.pointer (some ⟨w.heap.size + 1 + 1, 0, none⟩), Value.pointer (some ⟨w.heap.size + 1 + 1 + 1, 0, none⟩), Value.string (mkB x.1), undef, undef, undef, undef, undef, Value.string (mkB t), Value.func (Fn.func 94) #[] #[Value.pointer (some ⟨w.heap.size + 1 + 1 + 1 + 1, 0, none⟩)], Value.string (mkB x.1), undef, undef, undef, undef, undef, undef, undef, undef, undef, undef, undef, undef, undef, undef, undef, undef, undef, undef, undef, undef, undef, undef, undef, undef, undef, undef, undef, undef, undef, undef, undef, undef, undef, undef, undef, undef, undef, undef, undef, undef, undef, undef, undef, undef, undef, undef, undef, undef, undef, undef, undef, undef, undef], defers := [] }) ?assign ?body ?done ?stop
  case assign =>
    intro l x W K hK
    gi_wp2
    exact hK
  case body =>
    rintro l pre x W ⟨⟨n, v, hPB, hn1, hn2⟩, hx5⟩ hlt
    have hxl := x.2
    have HP0 := Lib.hid hPB
    have HF5 : Hid (w.heap.size + 1 + 1 + 1 + 1 < W.heap.size) := Lib.hid (lt_of_heap hx5)
    have HX5' := Lib.hid hx5
    have HXL : Hid ((mkB x.1).size ≤ 1000000000) := Lib.hid (by rw [mkB_size]; exact hxl)
    clear hPB hx5 hlt hxl
    gi_wp2_with (refine ⟨trivial, ?_⟩; gi_at_call 76; refine (CallsIn.inRound l (callsIn_wide.2 (split_any (mkB x.1) _ HXL.out))).mono ?_; rw [mkB_toList]; rintro e1 w1 ⟨vs, rfl, hrow⟩; obtain ⟨ps, cs, rfl⟩ := ownsRow_slice hrow.1; have HROW := Lib.hid hrow; clear hrow)
    obtain ⟨ls, hls⟩ : ∃ ls, ls = splitC x.1 := ⟨_, rfl⟩
    obtain ⟨pr, hpr⟩ : ∃ pr, pr = pre.map (·.1) := ⟨_, rfl⟩
    rw [← hls] at HROW ⊢
    rw [← hpr] at HP0 hn1
    have HLS := Lib.hid hls
    have HPR := Lib.hid hpr
    have HWS : Hid (w.heap.size + 1 + 1 + 1 + 1 < W.heap.size) := Lib.hid HF5.out
    have HLI : Hid (litsC ((pre ++ [x]).map (·.1)) = litsC pr + ls.length) := Lib.hid (by rw [List.map_append, List.map_singleton, litsC_snoc, ← hpr, ← hls])
    have HLO : Hid (lineO ((pre ++ [x]).map (·.1)) = joinO .or (lineO pr) (clauseEx x.1)) := Lib.hid (by rw [List.map_append, List.map_singleton, lineO_snoc, ← hpr])
    have HPOS : Hid (1 ≤ ls.length) := Lib.hid (by rw [hls]; exact splitGo_pos _ _)
    have hlb : ls.length ≤ 1000000001 := by
      rw [hls, splitC_eq, List.length_append]
      have h1 := spC_len x.1
      have h2 := x.2
      simp
      omega
    clear hls hpr
    gi_loopw [7, 18] (fun y i wr => InR w.heap.size w W ps ls pr y i wr) (fun _ i _ => ls.length - (intOf i).toNat)
    case atStart => exact ⟨0, n, v, Nat.zero_le _, rfl, HP0.out.below HF5.out HROW.out.2, rfl, by omega, hn2, cells_row HROW.out.1, Nat.lt_of_lt_of_le HF5.out HROW.out.2.size⟩
    case round =>
      obtain ⟨k, n, v, hk, rfl, hp, hxy, hn1, hn2, hce, hf⟩ := hrel
      have HP := Lib.hid hp
      have HCE := Lib.hid hce
      have HF := Lib.hid hf
      clear hp hce hf HP0
      by_cases hlk : k < ls.length
      · obtain ⟨u, hu⟩ : ∃ u, ls[k]? = some u := ⟨_, List.getElem?_eq_getElem hlk⟩
        obtain ⟨gs, _, rfl, hcell⟩ := HCE.out k u hu
        have HU := Lib.hid hu
        have HUS : Hid ((mkB u).size ≤ 1152921504606846976) := Lib.hid (by
          have h1 := splitGo_len _ _ (by rw [HLS.out] at hu; exact List.mem_of_getElem? hu)
          have h2 := HXL.out
          rw [mkB_size] at h2 ⊢
          simp at h1
          omega)
        have HTR : Hid (Tabs wr) := Lib.hid (HTN.out.next fun b hb => ((HP.out.be.block b hb).trans (HBL.out.block b hb).symm)).here
        have HER : Hid (Errs wr) := Lib.hid (HE.out.below HP.out.be)
        have hnk : n ≤ litsC pr + k := by omega
        have hw2 : 1 < w.heap.size := by obtain ⟨_, a, ha⟩ := HE.out; exact lt_of_cell ha
        have hg0 : ¬ (1 = w.heap.size) := by omega
        have hg1 : ¬ (1 = w.heap.size + 1) := by omega
        have hg2 : ¬ (w.heap.size = 0) := by omega
        have hg3 : ¬ (0 = w.heap.size) := by omega
        clear hu
        cases hp2 : Lib.hasPrefix u [33, 33]
        · have P2 : Hid (Lib.hasPrefix u (ByteArray.mk #[33, 33]).data.toList = false) := Lib.hid hp2
          have HQ2 := Lib.hid hp2
          clear hp2
          by_cases h33 : u = [33]
          · have hq : ((mkB u).toList == [33]) = true := by rw [txt_eq, h33]; rfl
            have H33 := Lib.hid h33
            clear h33
            have HLE : Hid (litEx u = Ex.tag ign) := Lib.hid (by unfold litEx; rw [if_pos (by rw [H33.out]; rfl)])
            cases hcl : clauseO (ls.take k) with
            | none =>
              have HCL := Lib.hid hcl
              rw [hcl] at hxy
              have hy0 : u7 = .nilIface := hxy
              have HXY : Hid (XV wr none u7) := Lib.hid hxy
              subst hy0
              clear hcl hxy
              gi_wp2_with (first | (refine ⟨trivial, ?_⟩; gi_at_call 71; refine (CallsIn.inRound l (callsIn_wide.2 (hp_any _ _ _))).mono ?_; (first | rw [P2.out] | rw [P1.out]); rintro e9 w9 ⟨rfl, rfl⟩) | (refine ⟨trivial, ?_⟩; gi_at_call 77; refine (CallsIn.inRound l (callsIn_wide.2 (mkTagC _ _ (by first | exact HUS.out | exact HUT.out | exact ign_size)))).mono ?_; rintro e3 w3 ⟨b3, rfl, hc3, hb3⟩; have HC3 := Lib.hid hc3; have HB3 := Lib.hid hb3; clear hc3 hb3; have HBZ := Lib.hid HB3.out; have HCZ := Lib.hid HC3.out; have HPZ := Lib.hid (HP.out.below HF.out HBZ.out); have HYZ := Lib.hid (HXY.out.below HBZ.out); have HEZ := Lib.hid (HER.out.below HBZ.out)))
              exact ⟨InR.go HU.out hlk HPZ.out (by rw [clauseO_take HU.out, HCL.out, HLE.out]; exact ⟨_, rfl, HCZ.out⟩) (by omega) hn2 (HCE.out.below HBZ.out) (Nat.lt_of_lt_of_le HF.out HBZ.out.size), by simp [intOf]; omega⟩
            | some ye =>
              have HCL := Lib.hid hcl
              rw [hcl] at hxy
              have HXY : Hid (XV wr (some ye) u7) := Lib.hid hxy
              have hk0 : 1 ≤ k := by
                cases k with
                | zero => cases hcl
                | succ k => omega
              obtain ⟨by0, hy0, _⟩ := hxy
              subst hy0
              clear hcl
              by_cases h100 : n < 100
              · have hwn : IntKind.i64.wrap ((n : Int) + 1) = (n : Int) + 1 := IntWalk.i64_in _ (by omega)
                clear hwn
                gi_wp2_with (first | (refine ⟨trivial, ?_⟩; gi_at_call 71; refine (CallsIn.inRound l (callsIn_wide.2 (hp_any _ _ _))).mono ?_; (first | rw [P2.out] | rw [P1.out]); rintro e9 w9 ⟨rfl, rfl⟩) | (refine ⟨trivial, ?_⟩; gi_at_call 77; refine (CallsIn.inRound l (callsIn_wide.2 (mkTagC _ _ (by first | exact HUS.out | exact HUT.out | exact ign_size)))).mono ?_; rintro e3 w3 ⟨b3, rfl, hc3, hb3⟩; have HC3 := Lib.hid hc3; have HB3 := Lib.hid hb3; clear hc3 hb3; have HBZ := Lib.hid HB3.out; have HCZ := Lib.hid HC3.out; have HPZ := Lib.hid (HP.out.below HF.out HBZ.out); have HYZ := Lib.hid (HXY.out.below HBZ.out); have HEZ := Lib.hid (HER.out.below HBZ.out); have zc := HPZ.out.bs.cell; have zf := HPZ.out.bs.frozen; have HYS := Lib.hid (ci_set (xv_ci HYZ.out) HPZ.out.bs (u := .int .i64 ((n : Int) + 1))); have HZS := Lib.hid (ci_set HCZ.out HPZ.out.bs (u := .int .i64 ((n : Int) + 1)))) | (refine ⟨trivial, ?_⟩; gi_at_call 80; refine (CallsIn.inRound l (callsIn_wide.2 (mkAndC _ _ _ _ _ (by exact HYS.out) (by exact HZS.out)))).mono ?_; rintro e6 w6 ⟨b6, rfl, hc6, hb6⟩; have HC6 := Lib.hid hc6; have HB6 := Lib.hid hb6; clear hc6 hb6))
                have HPS := Lib.hid ((HPZ.out.setS (m := n + 1)).below (by show _ < (World.heap _).size; rw [size_set]; exact Nat.lt_of_lt_of_le HF.out HBZ.out.size) HB6.out)
                exact ⟨InR.go HU.out hlk HPS.out (by rw [clauseO_take HU.out, HCL.out, HLE.out]; exact ⟨_, rfl, HC6.out⟩) (by omega) (by omega) (((HCE.out.below HBZ.out).set (by have := HWS.out; omega)).below HB6.out) (Nat.lt_of_lt_of_le HF.out (Nat.le_trans HBZ.out.size (by have := HB6.out.size; rw [size_set] at this; exact this))), by simp [intOf]; omega⟩
              · have hn100 : n = 100 := by omega
                subst hn100
                clear h100
                gi_wp2_with (first | (refine ⟨trivial, ?_⟩; gi_at_call 71; refine (CallsIn.inRound l (callsIn_wide.2 (hp_any _ _ _))).mono ?_; (first | rw [P2.out] | rw [P1.out]); rintro e9 w9 ⟨rfl, rfl⟩) | (refine ⟨trivial, ?_⟩; gi_at_call 77; refine (CallsIn.inRound l (callsIn_wide.2 (mkTagC _ _ (by first | exact HUS.out | exact HUT.out | exact ign_size)))).mono ?_; rintro e3 w3 ⟨b3, rfl, hc3, hb3⟩; have HC3 := Lib.hid hc3; have HB3 := Lib.hid hb3; clear hc3 hb3; have HBZ := Lib.hid HB3.out; have HCZ := Lib.hid HC3.out; have HPZ := Lib.hid (HP.out.below HF.out HBZ.out); have HYZ := Lib.hid (HXY.out.below HBZ.out); have HEZ := Lib.hid (HER.out.below HBZ.out); have zc := HPZ.out.bs.cell; have zf := HPZ.out.bs.frozen; have z1 := HPZ.out.r1.cell; have z1f := HPZ.out.r1.frozen; have z2 := HPZ.out.r2.cell; have z2f := HPZ.out.r2.frozen; obtain ⟨_, a, hea⟩ := HEZ.out))
                gi_region_with_o (fail)
                all_goals gi_wp2
                all_goals
                  obtain ⟨k1, k2, k3, k4⟩ := HPZ.out.err rfl
                  exact ⟨k1.from _, rfl, by rw [HLI.out]; omega, ⟨a, k2, k3⟩, k4⟩
          · have hq : ((mkB u).toList == [33]) = false := by rw [txt_eq]; simp [h33]
            have H33 := Lib.hid h33
            clear h33
            cases hp1 : Lib.hasPrefix u [33]
            · have P1 : Hid (Lib.hasPrefix u (ByteArray.mk #[33]).data.toList = false) := Lib.hid hp1
              have HQ1 := Lib.hid hp1
              clear hp1
              cases hv : validB (mkB u)
              · have HV := Lib.hid hv
                clear hv
                have HLE : Hid (litEx u = Ex.tag ign) := Lib.hid (by unfold litEx; rw [if_neg (by rw [HQ2.out]; simp [H33.out]), if_neg (by rw [HQ1.out]; simp)]; unfold litTag; rw [if_neg (by rw [HV.out]; simp)])
                cases hcl : clauseO (ls.take k) with
                | none =>
                  have HCL := Lib.hid hcl
                  rw [hcl] at hxy
                  have hy0 : u7 = .nilIface := hxy
                  have HXY : Hid (XV wr none u7) := Lib.hid hxy
                  subst hy0
                  clear hcl hxy
                  gi_wp2_with (first | (refine ⟨trivial, ?_⟩; gi_at_call 71; refine (CallsIn.inRound l (callsIn_wide.2 (hp_any _ _ _))).mono ?_; (first | rw [P2.out] | rw [P1.out]); rintro e9 w9 ⟨rfl, rfl⟩) | (refine ⟨trivial, ?_⟩; gi_at_call 78; refine (CallsIn.inRound l (callsIn_wide.2 (isValid_any _ _ (by first | exact HUS.out | exact HUT.out) HTR.out))).mono ?_; rw [HV.out]; rintro e2 w2 ⟨rfl, hb2⟩; have HB2 := Lib.hid hb2; clear hb2) | (refine ⟨trivial, ?_⟩; gi_at_call 77; refine (CallsIn.inRound l (callsIn_wide.2 (mkTagC _ _ (by first | exact HUS.out | exact HUT.out | exact ign_size)))).mono ?_; rintro e3 w3 ⟨b3, rfl, hc3, hb3⟩; have HC3 := Lib.hid hc3; have HB3 := Lib.hid (HB2.out.trans (hb3.mono HB2.out.size)); clear hc3 hb3; have HBZ := Lib.hid HB3.out; have HCZ := Lib.hid HC3.out; have HPZ := Lib.hid (HP.out.below HF.out HBZ.out); have HYZ := Lib.hid (HXY.out.below HBZ.out); have HEZ := Lib.hid (HER.out.below HBZ.out)))
                  exact ⟨InR.go HU.out hlk HPZ.out (by rw [clauseO_take HU.out, HCL.out, HLE.out]; exact ⟨_, rfl, HCZ.out⟩) (by omega) hn2 (HCE.out.below HBZ.out) (Nat.lt_of_lt_of_le HF.out HBZ.out.size), by simp [intOf]; omega⟩
                | some ye =>
                  have HCL := Lib.hid hcl
                  rw [hcl] at hxy
                  have HXY : Hid (XV wr (some ye) u7) := Lib.hid hxy
                  have hk0 : 1 ≤ k := by
                    cases k with
                    | zero => cases hcl
                    | succ k => omega
                  obtain ⟨by0, hy0, _⟩ := hxy
                  subst hy0
                  clear hcl
                  by_cases h100 : n < 100
                  · have hwn : IntKind.i64.wrap ((n : Int) + 1) = (n : Int) + 1 := IntWalk.i64_in _ (by omega)
                    clear hwn
                    gi_wp2_with (first | (refine ⟨trivial, ?_⟩; gi_at_call 71; refine (CallsIn.inRound l (callsIn_wide.2 (hp_any _ _ _))).mono ?_; (first | rw [P2.out] | rw [P1.out]); rintro e9 w9 ⟨rfl, rfl⟩) | (refine ⟨trivial, ?_⟩; gi_at_call 78; refine (CallsIn.inRound l (callsIn_wide.2 (isValid_any _ _ (by first | exact HUS.out | exact HUT.out) HTR.out))).mono ?_; rw [HV.out]; rintro e2 w2 ⟨rfl, hb2⟩; have HB2 := Lib.hid hb2; clear hb2) | (refine ⟨trivial, ?_⟩; gi_at_call 77; refine (CallsIn.inRound l (callsIn_wide.2 (mkTagC _ _ (by first | exact HUS.out | exact HUT.out | exact ign_size)))).mono ?_; rintro e3 w3 ⟨b3, rfl, hc3, hb3⟩; have HC3 := Lib.hid hc3; have HB3 := Lib.hid (HB2.out.trans (hb3.mono HB2.out.size)); clear hc3 hb3; have HBZ := Lib.hid HB3.out; have HCZ := Lib.hid HC3.out; have HPZ := Lib.hid (HP.out.below HF.out HBZ.out); have HYZ := Lib.hid (HXY.out.below HBZ.out); have HEZ := Lib.hid (HER.out.below HBZ.out); have zc := HPZ.out.bs.cell; have zf := HPZ.out.bs.frozen; have HYS := Lib.hid (ci_set (xv_ci HYZ.out) HPZ.out.bs (u := .int .i64 ((n : Int) + 1))); have HZS := Lib.hid (ci_set HCZ.out HPZ.out.bs (u := .int .i64 ((n : Int) + 1)))) | (refine ⟨trivial, ?_⟩; gi_at_call 80; refine (CallsIn.inRound l (callsIn_wide.2 (mkAndC _ _ _ _ _ (by exact HYS.out) (by exact HZS.out)))).mono ?_; rintro e6 w6 ⟨b6, rfl, hc6, hb6⟩; have HC6 := Lib.hid hc6; have HB6 := Lib.hid hb6; clear hc6 hb6))
                    have HPS := Lib.hid ((HPZ.out.setS (m := n + 1)).below (by show _ < (World.heap _).size; rw [size_set]; exact Nat.lt_of_lt_of_le HF.out HBZ.out.size) HB6.out)
                    exact ⟨InR.go HU.out hlk HPS.out (by rw [clauseO_take HU.out, HCL.out, HLE.out]; exact ⟨_, rfl, HC6.out⟩) (by omega) (by omega) (((HCE.out.below HBZ.out).set (by have := HWS.out; omega)).below HB6.out) (Nat.lt_of_lt_of_le HF.out (Nat.le_trans HBZ.out.size (by have := HB6.out.size; rw [size_set] at this; exact this))), by simp [intOf]; omega⟩
                  · have hn100 : n = 100 := by omega
                    subst hn100
                    clear h100
                    gi_wp2_with (first | (refine ⟨trivial, ?_⟩; gi_at_call 71; refine (CallsIn.inRound l (callsIn_wide.2 (hp_any _ _ _))).mono ?_; (first | rw [P2.out] | rw [P1.out]); rintro e9 w9 ⟨rfl, rfl⟩) | (refine ⟨trivial, ?_⟩; gi_at_call 78; refine (CallsIn.inRound l (callsIn_wide.2 (isValid_any _ _ (by first | exact HUS.out | exact HUT.out) HTR.out))).mono ?_; rw [HV.out]; rintro e2 w2 ⟨rfl, hb2⟩; have HB2 := Lib.hid hb2; clear hb2) | (refine ⟨trivial, ?_⟩; gi_at_call 77; refine (CallsIn.inRound l (callsIn_wide.2 (mkTagC _ _ (by first | exact HUS.out | exact HUT.out | exact ign_size)))).mono ?_; rintro e3 w3 ⟨b3, rfl, hc3, hb3⟩; have HC3 := Lib.hid hc3; have HB3 := Lib.hid (HB2.out.trans (hb3.mono HB2.out.size)); clear hc3 hb3; have HBZ := Lib.hid HB3.out; have HCZ := Lib.hid HC3.out; have HPZ := Lib.hid (HP.out.below HF.out HBZ.out); have HYZ := Lib.hid (HXY.out.below HBZ.out); have HEZ := Lib.hid (HER.out.below HBZ.out); have zc := HPZ.out.bs.cell; have zf := HPZ.out.bs.frozen; have z1 := HPZ.out.r1.cell; have z1f := HPZ.out.r1.frozen; have z2 := HPZ.out.r2.cell; have z2f := HPZ.out.r2.frozen; obtain ⟨_, a, hea⟩ := HEZ.out))
                    gi_region_with_o (fail)
                    all_goals gi_wp2
                    all_goals
                      obtain ⟨k1, k2, k3, k4⟩ := HPZ.out.err rfl
                      exact ⟨k1.from _, rfl, by rw [HLI.out]; omega, ⟨a, k2, k3⟩, k4⟩
              · have HV := Lib.hid hv
                clear hv
                have HLE : Hid (litEx u = Ex.tag (mkB u)) := Lib.hid (by unfold litEx; rw [if_neg (by rw [HQ2.out]; simp [H33.out]), if_neg (by rw [HQ1.out]; simp)]; unfold litTag; rw [if_pos HV.out])
                cases hcl : clauseO (ls.take k) with
                | none =>
                  have HCL := Lib.hid hcl
                  rw [hcl] at hxy
                  have hy0 : u7 = .nilIface := hxy
                  have HXY : Hid (XV wr none u7) := Lib.hid hxy
                  subst hy0
                  clear hcl hxy
                  gi_wp2_with (first | (refine ⟨trivial, ?_⟩; gi_at_call 71; refine (CallsIn.inRound l (callsIn_wide.2 (hp_any _ _ _))).mono ?_; (first | rw [P2.out] | rw [P1.out]); rintro e9 w9 ⟨rfl, rfl⟩) | (refine ⟨trivial, ?_⟩; gi_at_call 78; refine (CallsIn.inRound l (callsIn_wide.2 (isValid_any _ _ (by first | exact HUS.out | exact HUT.out) HTR.out))).mono ?_; rw [HV.out]; rintro e2 w2 ⟨rfl, hb2⟩; have HB2 := Lib.hid hb2; clear hb2) | (refine ⟨trivial, ?_⟩; gi_at_call 77; refine (CallsIn.inRound l (callsIn_wide.2 (mkTagC _ _ (by first | exact HUS.out | exact HUT.out | exact ign_size)))).mono ?_; rintro e3 w3 ⟨b3, rfl, hc3, hb3⟩; have HC3 := Lib.hid hc3; have HB3 := Lib.hid (HB2.out.trans (hb3.mono HB2.out.size)); clear hc3 hb3; have HBZ := Lib.hid HB3.out; have HCZ := Lib.hid HC3.out; have HPZ := Lib.hid (HP.out.below HF.out HBZ.out); have HYZ := Lib.hid (HXY.out.below HBZ.out); have HEZ := Lib.hid (HER.out.below HBZ.out)))
                  exact ⟨InR.go HU.out hlk HPZ.out (by rw [clauseO_take HU.out, HCL.out, HLE.out]; exact ⟨_, rfl, HCZ.out⟩) (by omega) hn2 (HCE.out.below HBZ.out) (Nat.lt_of_lt_of_le HF.out HBZ.out.size), by simp [intOf]; omega⟩
                | some ye =>
                  have HCL := Lib.hid hcl
                  rw [hcl] at hxy
                  have HXY : Hid (XV wr (some ye) u7) := Lib.hid hxy
                  have hk0 : 1 ≤ k := by
                    cases k with
                    | zero => cases hcl
                    | succ k => omega
                  obtain ⟨by0, hy0, _⟩ := hxy
                  subst hy0
                  clear hcl
                  by_cases h100 : n < 100
                  · have hwn : IntKind.i64.wrap ((n : Int) + 1) = (n : Int) + 1 := IntWalk.i64_in _ (by omega)
                    clear hwn
                    gi_wp2_with (first | (refine ⟨trivial, ?_⟩; gi_at_call 71; refine (CallsIn.inRound l (callsIn_wide.2 (hp_any _ _ _))).mono ?_; (first | rw [P2.out] | rw [P1.out]); rintro e9 w9 ⟨rfl, rfl⟩) | (refine ⟨trivial, ?_⟩; gi_at_call 78; refine (CallsIn.inRound l (callsIn_wide.2 (isValid_any _ _ (by first | exact HUS.out | exact HUT.out) HTR.out))).mono ?_; rw [HV.out]; rintro e2 w2 ⟨rfl, hb2⟩; have HB2 := Lib.hid hb2; clear hb2) | (refine ⟨trivial, ?_⟩; gi_at_call 77; refine (CallsIn.inRound l (callsIn_wide.2 (mkTagC _ _ (by first | exact HUS.out | exact HUT.out | exact ign_size)))).mono ?_; rintro e3 w3 ⟨b3, rfl, hc3, hb3⟩; have HC3 := Lib.hid hc3; have HB3 := Lib.hid (HB2.out.trans (hb3.mono HB2.out.size)); clear hc3 hb3; have HBZ := Lib.hid HB3.out; have HCZ := Lib.hid HC3.out; have HPZ := Lib.hid (HP.out.below HF.out HBZ.out); have HYZ := Lib.hid (HXY.out.below HBZ.out); have HEZ := Lib.hid (HER.out.below HBZ.out); have zc := HPZ.out.bs.cell; have zf := HPZ.out.bs.frozen; have HYS := Lib.hid (ci_set (xv_ci HYZ.out) HPZ.out.bs (u := .int .i64 ((n : Int) + 1))); have HZS := Lib.hid (ci_set HCZ.out HPZ.out.bs (u := .int .i64 ((n : Int) + 1)))) | (refine ⟨trivial, ?_⟩; gi_at_call 80; refine (CallsIn.inRound l (callsIn_wide.2 (mkAndC _ _ _ _ _ (by exact HYS.out) (by exact HZS.out)))).mono ?_; rintro e6 w6 ⟨b6, rfl, hc6, hb6⟩; have HC6 := Lib.hid hc6; have HB6 := Lib.hid hb6; clear hc6 hb6))
                    have HPS := Lib.hid ((HPZ.out.setS (m := n + 1)).below (by show _ < (World.heap _).size; rw [size_set]; exact Nat.lt_of_lt_of_le HF.out HBZ.out.size) HB6.out)
                    exact ⟨InR.go HU.out hlk HPS.out (by rw [clauseO_take HU.out, HCL.out, HLE.out]; exact ⟨_, rfl, HC6.out⟩) (by omega) (by omega) (((HCE.out.below HBZ.out).set (by have := HWS.out; omega)).below HB6.out) (Nat.lt_of_lt_of_le HF.out (Nat.le_trans HBZ.out.size (by have := HB6.out.size; rw [size_set] at this; exact this))), by simp [intOf]; omega⟩
                  · have hn100 : n = 100 := by omega
                    subst hn100
                    clear h100
                    gi_wp2_with (first | (refine ⟨trivial, ?_⟩; gi_at_call 71; refine (CallsIn.inRound l (callsIn_wide.2 (hp_any _ _ _))).mono ?_; (first | rw [P2.out] | rw [P1.out]); rintro e9 w9 ⟨rfl, rfl⟩) | (refine ⟨trivial, ?_⟩; gi_at_call 78; refine (CallsIn.inRound l (callsIn_wide.2 (isValid_any _ _ (by first | exact HUS.out | exact HUT.out) HTR.out))).mono ?_; rw [HV.out]; rintro e2 w2 ⟨rfl, hb2⟩; have HB2 := Lib.hid hb2; clear hb2) | (refine ⟨trivial, ?_⟩; gi_at_call 77; refine (CallsIn.inRound l (callsIn_wide.2 (mkTagC _ _ (by first | exact HUS.out | exact HUT.out | exact ign_size)))).mono ?_; rintro e3 w3 ⟨b3, rfl, hc3, hb3⟩; have HC3 := Lib.hid hc3; have HB3 := Lib.hid (HB2.out.trans (hb3.mono HB2.out.size)); clear hc3 hb3; have HBZ := Lib.hid HB3.out; have HCZ := Lib.hid HC3.out; have HPZ := Lib.hid (HP.out.below HF.out HBZ.out); have HYZ := Lib.hid (HXY.out.below HBZ.out); have HEZ := Lib.hid (HER.out.below HBZ.out); have zc := HPZ.out.bs.cell; have zf := HPZ.out.bs.frozen; have z1 := HPZ.out.r1.cell; have z1f := HPZ.out.r1.frozen; have z2 := HPZ.out.r2.cell; have z2f := HPZ.out.r2.frozen; obtain ⟨_, a, hea⟩ := HEZ.out))
                    gi_region_with_o (fail)
                    all_goals gi_wp2
                    all_goals
                      obtain ⟨k1, k2, k3, k4⟩ := HPZ.out.err rfl
                      exact ⟨k1.from _, rfl, by rw [HLI.out]; omega, ⟨a, k2, k3⟩, k4⟩
            · have P1 : Hid (Lib.hasPrefix u (ByteArray.mk #[33]).data.toList = true) := Lib.hid hp1
              have HQ1 := Lib.hid hp1
              have hpos : 1 ≤ u.length := by
                cases u with
                | nil => cases hp1
                | cons c r => simp
              clear hp1
              obtain ⟨q, hqd⟩ : ∃ q, q = u.drop 1 := ⟨_, rfl⟩
              have HQD := Lib.hid hqd
              have HUT : Hid ((mkB q).size ≤ 1152921504606846976) := Lib.hid (by rw [hqd, mkB_size, List.length_drop]; have := HUS.out; rw [mkB_size] at this; omega)
              clear hqd
              have hpos2 : (1 : Int) ≤ ((mkB u).size : Int) := by rw [mkB_size]; omega
              have hpos3 : 1 ≤ (mkB u).size := by rw [mkB_size]; omega
              have sl1 : ∀ wx, (Instr.slice 9 (.string (mkB u)) (some (.int .i64 1)) none none).run Tryd.prog wx = .ok (.string (mkB q)) wx := fun wx => by
                have := run_slice_string_from_if (P := Tryd.prog) wx 9 (mkB u) .i64 1 Tryd.underlying9
                rw [this, if_pos (by omega), show (1 : Int).toNat = 1 from rfl, extract_end]
                unfold dropB
                rw [mkB_toList, HQD.out]
              cases hv : validB (mkB q)
              · have HV := Lib.hid hv
                clear hv
                have HLE : Hid (litEx u = Ex.not (.tag ign)) := Lib.hid (by unfold litEx; rw [if_neg (by rw [HQ2.out]; simp [H33.out]), if_pos HQ1.out, ← HQD.out]; unfold litTag; rw [if_neg (by rw [HV.out]; simp)])
                cases hcl : clauseO (ls.take k) with
                | none =>
                  have HCL := Lib.hid hcl
                  rw [hcl] at hxy
                  have hy0 : u7 = .nilIface := hxy
                  have HXY : Hid (XV wr none u7) := Lib.hid hxy
                  subst hy0
                  clear hcl hxy
                  gi_wp2_with (first | (refine ⟨trivial, ?_⟩; gi_at_call 71; refine (CallsIn.inRound l (callsIn_wide.2 (hp_any _ _ _))).mono ?_; (first | rw [P2.out] | rw [P1.out]); rintro e9 w9 ⟨rfl, rfl⟩) | (refine ⟨trivial, ?_⟩; gi_at_call 78; refine (CallsIn.inRound l (callsIn_wide.2 (isValid_any _ _ (by first | exact HUS.out | exact HUT.out) HTR.out))).mono ?_; rw [HV.out]; rintro e2 w2 ⟨rfl, hb2⟩; have HB2 := Lib.hid hb2; clear hb2) | (refine ⟨trivial, ?_⟩; gi_at_call 77; refine (CallsIn.inRound l (callsIn_wide.2 (mkTagC _ _ (by first | exact HUS.out | exact HUT.out | exact ign_size)))).mono ?_; rintro e3 w3 ⟨b3, rfl, hc3, hb3⟩; have HC3 := Lib.hid hc3; have HB3 := Lib.hid (HB2.out.trans (hb3.mono HB2.out.size)); clear hc3 hb3) | (refine ⟨trivial, ?_⟩; gi_at_call 79; refine (CallsIn.inRound l (callsIn_wide.2 (mkNotC _ _ _ HC3.out))).mono ?_; rintro e4 w4 ⟨b4, rfl, hc4, hb4⟩; have HC4 := Lib.hid hc4; have HB4 := Lib.hid (HB3.out.trans (hb4.mono HB3.out.size)); clear hc4 hb4; have HBZ := Lib.hid HB4.out; have HCZ := Lib.hid HC4.out; have HPZ := Lib.hid (HP.out.below HF.out HBZ.out); have HYZ := Lib.hid (HXY.out.below HBZ.out); have HEZ := Lib.hid (HER.out.below HBZ.out)))
                  exact ⟨InR.go HU.out hlk HPZ.out (by rw [clauseO_take HU.out, HCL.out, HLE.out]; exact ⟨_, rfl, HCZ.out⟩) (by omega) hn2 (HCE.out.below HBZ.out) (Nat.lt_of_lt_of_le HF.out HBZ.out.size), by simp [intOf]; omega⟩
                | some ye =>
                  have HCL := Lib.hid hcl
                  rw [hcl] at hxy
                  have HXY : Hid (XV wr (some ye) u7) := Lib.hid hxy
                  have hk0 : 1 ≤ k := by
                    cases k with
                    | zero => cases hcl
                    | succ k => omega
                  obtain ⟨by0, hy0, _⟩ := hxy
                  subst hy0
                  clear hcl
                  by_cases h100 : n < 100
                  · have hwn : IntKind.i64.wrap ((n : Int) + 1) = (n : Int) + 1 := IntWalk.i64_in _ (by omega)
                    clear hwn
                    gi_wp2_with (first | (refine ⟨trivial, ?_⟩; gi_at_call 71; refine (CallsIn.inRound l (callsIn_wide.2 (hp_any _ _ _))).mono ?_; (first | rw [P2.out] | rw [P1.out]); rintro e9 w9 ⟨rfl, rfl⟩) | (refine ⟨trivial, ?_⟩; gi_at_call 78; refine (CallsIn.inRound l (callsIn_wide.2 (isValid_any _ _ (by first | exact HUS.out | exact HUT.out) HTR.out))).mono ?_; rw [HV.out]; rintro e2 w2 ⟨rfl, hb2⟩; have HB2 := Lib.hid hb2; clear hb2) | (refine ⟨trivial, ?_⟩; gi_at_call 77; refine (CallsIn.inRound l (callsIn_wide.2 (mkTagC _ _ (by first | exact HUS.out | exact HUT.out | exact ign_size)))).mono ?_; rintro e3 w3 ⟨b3, rfl, hc3, hb3⟩; have HC3 := Lib.hid hc3; have HB3 := Lib.hid (HB2.out.trans (hb3.mono HB2.out.size)); clear hc3 hb3) | (refine ⟨trivial, ?_⟩; gi_at_call 79; refine (CallsIn.inRound l (callsIn_wide.2 (mkNotC _ _ _ HC3.out))).mono ?_; rintro e4 w4 ⟨b4, rfl, hc4, hb4⟩; have HC4 := Lib.hid hc4; have HB4 := Lib.hid (HB3.out.trans (hb4.mono HB3.out.size)); clear hc4 hb4; have HBZ := Lib.hid HB4.out; have HCZ := Lib.hid HC4.out; have HPZ := Lib.hid (HP.out.below HF.out HBZ.out); have HYZ := Lib.hid (HXY.out.below HBZ.out); have HEZ := Lib.hid (HER.out.below HBZ.out); have zc := HPZ.out.bs.cell; have zf := HPZ.out.bs.frozen; have HYS := Lib.hid (ci_set (xv_ci HYZ.out) HPZ.out.bs (u := .int .i64 ((n : Int) + 1))); have HZS := Lib.hid (ci_set HCZ.out HPZ.out.bs (u := .int .i64 ((n : Int) + 1)))) | (refine ⟨trivial, ?_⟩; gi_at_call 80; refine (CallsIn.inRound l (callsIn_wide.2 (mkAndC _ _ _ _ _ (by exact HYS.out) (by exact HZS.out)))).mono ?_; rintro e6 w6 ⟨b6, rfl, hc6, hb6⟩; have HC6 := Lib.hid hc6; have HB6 := Lib.hid hb6; clear hc6 hb6))
                    have HPS := Lib.hid ((HPZ.out.setS (m := n + 1)).below (by show _ < (World.heap _).size; rw [size_set]; exact Nat.lt_of_lt_of_le HF.out HBZ.out.size) HB6.out)
                    exact ⟨InR.go HU.out hlk HPS.out (by rw [clauseO_take HU.out, HCL.out, HLE.out]; exact ⟨_, rfl, HC6.out⟩) (by omega) (by omega) (((HCE.out.below HBZ.out).set (by have := HWS.out; omega)).below HB6.out) (Nat.lt_of_lt_of_le HF.out (Nat.le_trans HBZ.out.size (by have := HB6.out.size; rw [size_set] at this; exact this))), by simp [intOf]; omega⟩
                  · have hn100 : n = 100 := by omega
                    subst hn100
                    clear h100
                    gi_wp2_with (first | (refine ⟨trivial, ?_⟩; gi_at_call 71; refine (CallsIn.inRound l (callsIn_wide.2 (hp_any _ _ _))).mono ?_; (first | rw [P2.out] | rw [P1.out]); rintro e9 w9 ⟨rfl, rfl⟩) | (refine ⟨trivial, ?_⟩; gi_at_call 78; refine (CallsIn.inRound l (callsIn_wide.2 (isValid_any _ _ (by first | exact HUS.out | exact HUT.out) HTR.out))).mono ?_; rw [HV.out]; rintro e2 w2 ⟨rfl, hb2⟩; have HB2 := Lib.hid hb2; clear hb2) | (refine ⟨trivial, ?_⟩; gi_at_call 77; refine (CallsIn.inRound l (callsIn_wide.2 (mkTagC _ _ (by first | exact HUS.out | exact HUT.out | exact ign_size)))).mono ?_; rintro e3 w3 ⟨b3, rfl, hc3, hb3⟩; have HC3 := Lib.hid hc3; have HB3 := Lib.hid (HB2.out.trans (hb3.mono HB2.out.size)); clear hc3 hb3) | (refine ⟨trivial, ?_⟩; gi_at_call 79; refine (CallsIn.inRound l (callsIn_wide.2 (mkNotC _ _ _ HC3.out))).mono ?_; rintro e4 w4 ⟨b4, rfl, hc4, hb4⟩; have HC4 := Lib.hid hc4; have HB4 := Lib.hid (HB3.out.trans (hb4.mono HB3.out.size)); clear hc4 hb4; have HBZ := Lib.hid HB4.out; have HCZ := Lib.hid HC4.out; have HPZ := Lib.hid (HP.out.below HF.out HBZ.out); have HYZ := Lib.hid (HXY.out.below HBZ.out); have HEZ := Lib.hid (HER.out.below HBZ.out); have zc := HPZ.out.bs.cell; have zf := HPZ.out.bs.frozen; have z1 := HPZ.out.r1.cell; have z1f := HPZ.out.r1.frozen; have z2 := HPZ.out.r2.cell; have z2f := HPZ.out.r2.frozen; obtain ⟨_, a, hea⟩ := HEZ.out))
                    gi_region_with_o (fail)
                    all_goals gi_wp2
                    all_goals
                      obtain ⟨k1, k2, k3, k4⟩ := HPZ.out.err rfl
                      exact ⟨k1.from _, rfl, by rw [HLI.out]; omega, ⟨a, k2, k3⟩, k4⟩
              · have HV := Lib.hid hv
                clear hv
                have HLE : Hid (litEx u = Ex.not (.tag (mkB q))) := Lib.hid (by unfold litEx; rw [if_neg (by rw [HQ2.out]; simp [H33.out]), if_pos HQ1.out, ← HQD.out]; unfold litTag; rw [if_pos HV.out])
                cases hcl : clauseO (ls.take k) with
                | none =>
                  have HCL := Lib.hid hcl
                  rw [hcl] at hxy
                  have hy0 : u7 = .nilIface := hxy
                  have HXY : Hid (XV wr none u7) := Lib.hid hxy
                  subst hy0
                  clear hcl hxy
                  gi_wp2_with (first | (refine ⟨trivial, ?_⟩; gi_at_call 71; refine (CallsIn.inRound l (callsIn_wide.2 (hp_any _ _ _))).mono ?_; (first | rw [P2.out] | rw [P1.out]); rintro e9 w9 ⟨rfl, rfl⟩) | (refine ⟨trivial, ?_⟩; gi_at_call 78; refine (CallsIn.inRound l (callsIn_wide.2 (isValid_any _ _ (by first | exact HUS.out | exact HUT.out) HTR.out))).mono ?_; rw [HV.out]; rintro e2 w2 ⟨rfl, hb2⟩; have HB2 := Lib.hid hb2; clear hb2) | (refine ⟨trivial, ?_⟩; gi_at_call 77; refine (CallsIn.inRound l (callsIn_wide.2 (mkTagC _ _ (by first | exact HUS.out | exact HUT.out | exact ign_size)))).mono ?_; rintro e3 w3 ⟨b3, rfl, hc3, hb3⟩; have HC3 := Lib.hid hc3; have HB3 := Lib.hid (HB2.out.trans (hb3.mono HB2.out.size)); clear hc3 hb3) | (refine ⟨trivial, ?_⟩; gi_at_call 79; refine (CallsIn.inRound l (callsIn_wide.2 (mkNotC _ _ _ HC3.out))).mono ?_; rintro e4 w4 ⟨b4, rfl, hc4, hb4⟩; have HC4 := Lib.hid hc4; have HB4 := Lib.hid (HB3.out.trans (hb4.mono HB3.out.size)); clear hc4 hb4; have HBZ := Lib.hid HB4.out; have HCZ := Lib.hid HC4.out; have HPZ := Lib.hid (HP.out.below HF.out HBZ.out); have HYZ := Lib.hid (HXY.out.below HBZ.out); have HEZ := Lib.hid (HER.out.below HBZ.out)))
                  exact ⟨InR.go HU.out hlk HPZ.out (by rw [clauseO_take HU.out, HCL.out, HLE.out]; exact ⟨_, rfl, HCZ.out⟩) (by omega) hn2 (HCE.out.below HBZ.out) (Nat.lt_of_lt_of_le HF.out HBZ.out.size), by simp [intOf]; omega⟩
                | some ye =>
                  have HCL := Lib.hid hcl
                  rw [hcl] at hxy
                  have HXY : Hid (XV wr (some ye) u7) := Lib.hid hxy
                  have hk0 : 1 ≤ k := by
                    cases k with
                    | zero => cases hcl
                    | succ k => omega
                  obtain ⟨by0, hy0, _⟩ := hxy
                  subst hy0
                  clear hcl
                  by_cases h100 : n < 100
                  · have hwn : IntKind.i64.wrap ((n : Int) + 1) = (n : Int) + 1 := IntWalk.i64_in _ (by omega)
                    clear hwn
                    gi_wp2_with (first | (refine ⟨trivial, ?_⟩; gi_at_call 71; refine (CallsIn.inRound l (callsIn_wide.2 (hp_any _ _ _))).mono ?_; (first | rw [P2.out] | rw [P1.out]); rintro e9 w9 ⟨rfl, rfl⟩) | (refine ⟨trivial, ?_⟩; gi_at_call 78; refine (CallsIn.inRound l (callsIn_wide.2 (isValid_any _ _ (by first | exact HUS.out | exact HUT.out) HTR.out))).mono ?_; rw [HV.out]; rintro e2 w2 ⟨rfl, hb2⟩; have HB2 := Lib.hid hb2; clear hb2) | (refine ⟨trivial, ?_⟩; gi_at_call 77; refine (CallsIn.inRound l (callsIn_wide.2 (mkTagC _ _ (by first | exact HUS.out | exact HUT.out | exact ign_size)))).mono ?_; rintro e3 w3 ⟨b3, rfl, hc3, hb3⟩; have HC3 := Lib.hid hc3; have HB3 := Lib.hid (HB2.out.trans (hb3.mono HB2.out.size)); clear hc3 hb3) | (refine ⟨trivial, ?_⟩; gi_at_call 79; refine (CallsIn.inRound l (callsIn_wide.2 (mkNotC _ _ _ HC3.out))).mono ?_; rintro e4 w4 ⟨b4, rfl, hc4, hb4⟩; have HC4 := Lib.hid hc4; have HB4 := Lib.hid (HB3.out.trans (hb4.mono HB3.out.size)); clear hc4 hb4; have HBZ := Lib.hid HB4.out; have HCZ := Lib.hid HC4.out; have HPZ := Lib.hid (HP.out.below HF.out HBZ.out); have HYZ := Lib.hid (HXY.out.below HBZ.out); have HEZ := Lib.hid (HER.out.below HBZ.out); have zc := HPZ.out.bs.cell; have zf := HPZ.out.bs.frozen; have HYS := Lib.hid (ci_set (xv_ci HYZ.out) HPZ.out.bs (u := .int .i64 ((n : Int) + 1))); have HZS := Lib.hid (ci_set HCZ.out HPZ.out.bs (u := .int .i64 ((n : Int) + 1)))) | (refine ⟨trivial, ?_⟩; gi_at_call 80; refine (CallsIn.inRound l (callsIn_wide.2 (mkAndC _ _ _ _ _ (by exact HYS.out) (by exact HZS.out)))).mono ?_; rintro e6 w6 ⟨b6, rfl, hc6, hb6⟩; have HC6 := Lib.hid hc6; have HB6 := Lib.hid hb6; clear hc6 hb6))
                    have HPS := Lib.hid ((HPZ.out.setS (m := n + 1)).below (by show _ < (World.heap _).size; rw [size_set]; exact Nat.lt_of_lt_of_le HF.out HBZ.out.size) HB6.out)
                    exact ⟨InR.go HU.out hlk HPS.out (by rw [clauseO_take HU.out, HCL.out, HLE.out]; exact ⟨_, rfl, HC6.out⟩) (by omega) (by omega) (((HCE.out.below HBZ.out).set (by have := HWS.out; omega)).below HB6.out) (Nat.lt_of_lt_of_le HF.out (Nat.le_trans HBZ.out.size (by have := HB6.out.size; rw [size_set] at this; exact this))), by simp [intOf]; omega⟩
                  · have hn100 : n = 100 := by omega
                    subst hn100
                    clear h100
                    gi_wp2_with (first | (refine ⟨trivial, ?_⟩; gi_at_call 71; refine (CallsIn.inRound l (callsIn_wide.2 (hp_any _ _ _))).mono ?_; (first | rw [P2.out] | rw [P1.out]); rintro e9 w9 ⟨rfl, rfl⟩) | (refine ⟨trivial, ?_⟩; gi_at_call 78; refine (CallsIn.inRound l (callsIn_wide.2 (isValid_any _ _ (by first | exact HUS.out | exact HUT.out) HTR.out))).mono ?_; rw [HV.out]; rintro e2 w2 ⟨rfl, hb2⟩; have HB2 := Lib.hid hb2; clear hb2) | (refine ⟨trivial, ?_⟩; gi_at_call 77; refine (CallsIn.inRound l (callsIn_wide.2 (mkTagC _ _ (by first | exact HUS.out | exact HUT.out | exact ign_size)))).mono ?_; rintro e3 w3 ⟨b3, rfl, hc3, hb3⟩; have HC3 := Lib.hid hc3; have HB3 := Lib.hid (HB2.out.trans (hb3.mono HB2.out.size)); clear hc3 hb3) | (refine ⟨trivial, ?_⟩; gi_at_call 79; refine (CallsIn.inRound l (callsIn_wide.2 (mkNotC _ _ _ HC3.out))).mono ?_; rintro e4 w4 ⟨b4, rfl, hc4, hb4⟩; have HC4 := Lib.hid hc4; have HB4 := Lib.hid (HB3.out.trans (hb4.mono HB3.out.size)); clear hc4 hb4; have HBZ := Lib.hid HB4.out; have HCZ := Lib.hid HC4.out; have HPZ := Lib.hid (HP.out.below HF.out HBZ.out); have HYZ := Lib.hid (HXY.out.below HBZ.out); have HEZ := Lib.hid (HER.out.below HBZ.out); have zc := HPZ.out.bs.cell; have zf := HPZ.out.bs.frozen; have z1 := HPZ.out.r1.cell; have z1f := HPZ.out.r1.frozen; have z2 := HPZ.out.r2.cell; have z2f := HPZ.out.r2.frozen; obtain ⟨_, a, hea⟩ := HEZ.out))
                    gi_region_with_o (fail)
                    all_goals gi_wp2
                    all_goals
                      obtain ⟨k1, k2, k3, k4⟩ := HPZ.out.err rfl
                      exact ⟨k1.from _, rfl, by rw [HLI.out]; omega, ⟨a, k2, k3⟩, k4⟩
        · have P2 : Hid (Lib.hasPrefix u (ByteArray.mk #[33, 33]).data.toList = true) := Lib.hid hp2
          have HQ2 := Lib.hid hp2
          clear hp2
          have HLE : Hid (litEx u = Ex.tag ign) := Lib.hid (by unfold litEx; rw [if_pos (by rw [HQ2.out]; rfl)])
          cases hcl : clauseO (ls.take k) with
          | none =>
            have HCL := Lib.hid hcl
            rw [hcl] at hxy
            have hy0 : u7 = .nilIface := hxy
            have HXY : Hid (XV wr none u7) := Lib.hid hxy
            subst hy0
            clear hcl hxy
            gi_wp2_with (first | (refine ⟨trivial, ?_⟩; gi_at_call 71; refine (CallsIn.inRound l (callsIn_wide.2 (hp_any _ _ _))).mono ?_; (first | rw [P2.out] | rw [P1.out]); rintro e9 w9 ⟨rfl, rfl⟩) | (refine ⟨trivial, ?_⟩; gi_at_call 77; refine (CallsIn.inRound l (callsIn_wide.2 (mkTagC _ _ (by first | exact HUS.out | exact HUT.out | exact ign_size)))).mono ?_; rintro e3 w3 ⟨b3, rfl, hc3, hb3⟩; have HC3 := Lib.hid hc3; have HB3 := Lib.hid hb3; clear hc3 hb3; have HBZ := Lib.hid HB3.out; have HCZ := Lib.hid HC3.out; have HPZ := Lib.hid (HP.out.below HF.out HBZ.out); have HYZ := Lib.hid (HXY.out.below HBZ.out); have HEZ := Lib.hid (HER.out.below HBZ.out)))
            exact ⟨InR.go HU.out hlk HPZ.out (by rw [clauseO_take HU.out, HCL.out, HLE.out]; exact ⟨_, rfl, HCZ.out⟩) (by omega) hn2 (HCE.out.below HBZ.out) (Nat.lt_of_lt_of_le HF.out HBZ.out.size), by simp [intOf]; omega⟩
          | some ye =>
            have HCL := Lib.hid hcl
            rw [hcl] at hxy
            have HXY : Hid (XV wr (some ye) u7) := Lib.hid hxy
            have hk0 : 1 ≤ k := by
              cases k with
              | zero => cases hcl
              | succ k => omega
            obtain ⟨by0, hy0, _⟩ := hxy
            subst hy0
            clear hcl
            by_cases h100 : n < 100
            · have hwn : IntKind.i64.wrap ((n : Int) + 1) = (n : Int) + 1 := IntWalk.i64_in _ (by omega)
              clear hwn
              gi_wp2_with (first | (refine ⟨trivial, ?_⟩; gi_at_call 71; refine (CallsIn.inRound l (callsIn_wide.2 (hp_any _ _ _))).mono ?_; (first | rw [P2.out] | rw [P1.out]); rintro e9 w9 ⟨rfl, rfl⟩) | (refine ⟨trivial, ?_⟩; gi_at_call 77; refine (CallsIn.inRound l (callsIn_wide.2 (mkTagC _ _ (by first | exact HUS.out | exact HUT.out | exact ign_size)))).mono ?_; rintro e3 w3 ⟨b3, rfl, hc3, hb3⟩; have HC3 := Lib.hid hc3; have HB3 := Lib.hid hb3; clear hc3 hb3; have HBZ := Lib.hid HB3.out; have HCZ := Lib.hid HC3.out; have HPZ := Lib.hid (HP.out.below HF.out HBZ.out); have HYZ := Lib.hid (HXY.out.below HBZ.out); have HEZ := Lib.hid (HER.out.below HBZ.out); have zc := HPZ.out.bs.cell; have zf := HPZ.out.bs.frozen; have HYS := Lib.hid (ci_set (xv_ci HYZ.out) HPZ.out.bs (u := .int .i64 ((n : Int) + 1))); have HZS := Lib.hid (ci_set HCZ.out HPZ.out.bs (u := .int .i64 ((n : Int) + 1)))) | (refine ⟨trivial, ?_⟩; gi_at_call 80; refine (CallsIn.inRound l (callsIn_wide.2 (mkAndC _ _ _ _ _ (by exact HYS.out) (by exact HZS.out)))).mono ?_; rintro e6 w6 ⟨b6, rfl, hc6, hb6⟩; have HC6 := Lib.hid hc6; have HB6 := Lib.hid hb6; clear hc6 hb6))
              have HPS := Lib.hid ((HPZ.out.setS (m := n + 1)).below (by show _ < (World.heap _).size; rw [size_set]; exact Nat.lt_of_lt_of_le HF.out HBZ.out.size) HB6.out)
              exact ⟨InR.go HU.out hlk HPS.out (by rw [clauseO_take HU.out, HCL.out, HLE.out]; exact ⟨_, rfl, HC6.out⟩) (by omega) (by omega) (((HCE.out.below HBZ.out).set (by have := HWS.out; omega)).below HB6.out) (Nat.lt_of_lt_of_le HF.out (Nat.le_trans HBZ.out.size (by have := HB6.out.size; rw [size_set] at this; exact this))), by simp [intOf]; omega⟩
            · have hn100 : n = 100 := by omega
              subst hn100
              clear h100
              gi_wp2_with (first | (refine ⟨trivial, ?_⟩; gi_at_call 71; refine (CallsIn.inRound l (callsIn_wide.2 (hp_any _ _ _))).mono ?_; (first | rw [P2.out] | rw [P1.out]); rintro e9 w9 ⟨rfl, rfl⟩) | (refine ⟨trivial, ?_⟩; gi_at_call 77; refine (CallsIn.inRound l (callsIn_wide.2 (mkTagC _ _ (by first | exact HUS.out | exact HUT.out | exact ign_size)))).mono ?_; rintro e3 w3 ⟨b3, rfl, hc3, hb3⟩; have HC3 := Lib.hid hc3; have HB3 := Lib.hid hb3; clear hc3 hb3; have HBZ := Lib.hid HB3.out; have HCZ := Lib.hid HC3.out; have HPZ := Lib.hid (HP.out.below HF.out HBZ.out); have HYZ := Lib.hid (HXY.out.below HBZ.out); have HEZ := Lib.hid (HER.out.below HBZ.out); have zc := HPZ.out.bs.cell; have zf := HPZ.out.bs.frozen; have z1 := HPZ.out.r1.cell; have z1f := HPZ.out.r1.frozen; have z2 := HPZ.out.r2.cell; have z2f := HPZ.out.r2.frozen; obtain ⟨_, a, hea⟩ := HEZ.out))
              gi_region_with_o (fail)
              all_goals gi_wp2
              all_goals
                obtain ⟨k1, k2, k3, k4⟩ := HPZ.out.err rfl
                exact ⟨k1.from _, rfl, by rw [HLI.out]; omega, ⟨a, k2, k3⟩, k4⟩
      · obtain rfl : k = ls.length := by omega
        have hlast := hxy
        rw [List.take_length] at hlast
        obtain ⟨ye, hcl, _⟩ := clause_eval (fun _ => false) ls (fun e => by have := HPOS.out; rw [e] at this; simp at this)
        rw [hcl] at hlast
        have HCX : Hid (clauseEx x.1 = ye) := Lib.hid (by unfold clauseEx; rw [← HLS.out, hcl]; rfl)
        have HYV := Lib.hid hlast
        have HER : Hid (Errs wr) := Lib.hid (HE.out.below HP.out.be)
        have hw2 : 1 < w.heap.size := by obtain ⟨_, a, ha⟩ := HE.out; exact lt_of_cell ha
        have hg0 : ¬ (1 = w.heap.size) := by omega
        have hg1 : ¬ (1 = w.heap.size + 1) := by omega
        have hg2 : ¬ (w.heap.size = 0) := by omega
        have hg3 : ¬ (0 = w.heap.size) := by omega
        obtain ⟨by0, hy0, hyc⟩ := hlast
        have HYC := Lib.hid hyc
        subst hy0
        clear hxy hcl hyc
        have bx := HP.out.bx.cell
        have bxf := HP.out.bx.frozen
        cases hlo : lineO pr with
        | none =>
          have hv0 := HP.out.xv
          rw [hlo] at hv0
          have hv1 : v = .nilIface := hv0
          have HLN : Hid (lineO ((pre ++ [x]).map (·.1)) = some ye) := Lib.hid (by rw [HLO.out, hlo, HCX.out]; rfl)
          subst hv1
          clear hlo hv0
          gi_wp2
          exact (HP.out.setX HYV.out).round HLN.out (by rw [HLI.out]; omega) hn2 HX5'.out
        | some xe =>
          have hv0 := HP.out.xv
          rw [hlo] at hv0
          have HLN : Hid (lineO ((pre ++ [x]).map (·.1)) = some (.or xe ye)) := Lib.hid (by rw [HLO.out, hlo, HCX.out]; rfl)
          obtain ⟨bv, hv1, hvc⟩ := hv0
          subst hv1
          have zc := HP.out.bs.cell
          have zf := HP.out.bs.frozen
          by_cases h100 : n < 100
          · have HVS := Lib.hid (ci_set hvc HP.out.bs (u := .int .i64 ((n : Int) + 1)))
            have HYS := Lib.hid (ci_set HYC.out HP.out.bs (u := .int .i64 ((n : Int) + 1)))
            clear hlo hvc
            gi_wp2_with (refine ⟨trivial, ?_⟩; gi_at_call 81; refine (CallsIn.inRound l (callsIn_wide.2 (mkOrC _ _ _ _ _ (by exact HVS.out) (by exact HYS.out)))).mono ?_; rintro e6 w6 ⟨b6, rfl, hc6, hb6⟩; have HC6 := Lib.hid hc6; have HP6 := Lib.hid ((HP.out.setS (m := n + 1)).below (by show _ < (World.heap _).size; rw [size_set]; exact HF.out) hb6); have bx6 := HP6.out.bx.cell; have bx6f := HP6.out.bx.frozen; clear hc6 hb6)
            exact (HP6.out.setX (XV.of_new HC6.out)).round HLN.out (by rw [HLI.out]; have := HPOS.out; omega) (by omega) HX5'.out
          · have hn100 : n = 100 := by omega
            subst hn100
            have z1 := HP.out.r1.cell
            have z1f := HP.out.r1.frozen
            have z2 := HP.out.r2.cell
            have z2f := HP.out.r2.frozen
            obtain ⟨_, a, hea⟩ := HER.out
            clear h100 hlo hvc
            gi_wp2
            gi_region_with_o (fail)
            all_goals gi_wp2
            all_goals
              obtain ⟨k1, k2, k3, k4⟩ := HP.out.err rfl
              exact ⟨k1.from _, rfl, by rw [HLI.out]; have := HPOS.out; omega, ⟨a, k2, k3⟩, k4⟩
  case done =>
    rintro D ys W hD hys ⟨⟨n, v, hPB, hn1, hn2⟩, hx5⟩ hK
    have hD2 : w.heap.size ≤ D := by have := HSZ.out; omega
    have hys2 : ys.map (·.1) = Lib.fieldsD t := by rw [← mkB_toList t]; exact hys
    rw [hys2] at hPB
    have HP := Lib.hid hPB
    have HF : Hid (w.heap.size + 1 + 1 + 1 + 1 < W.heap.size) := Lib.hid (lt_of_heap hx5)
    have HK := Lib.hid hK
    have HD := Lib.hid hD2
    clear hPB hx5 hK hys hys2 hn1 hn2 hD hD2
    cases hlo : lineO (Lib.fieldsD t) with
    | none =>
      have hv0 := HP.out.xv
      rw [hlo] at hv0
      have hv1 : v = .nilIface := hv0
      have HPL : Hid (plusEx t = .tag ign) := Lib.hid (by unfold plusEx; rw [hlo]; rfl)
      subst hv1
      have b0 := HP.out.bx.cell
      have b1 := HP.out.bx.frozen
      clear hlo hv0
      gi_wp2_with (refine ⟨trivial, ?_⟩; gi_at_call 77; refine (callsIn_wide.2 (mkTagC _ _ ign_size)).mono ?_; rintro e3 w3 ⟨b3, rfl, hc3, hb3⟩; have HC3 := Lib.hid hc3; have HP3 := Lib.hid (HP.out.below HF.out hb3); have HK3 := Lib.hid ((hb3.block D (lt_of_heap HK.out)).trans HK.out); have bx6 := HP3.out.bx.cell; have bx6f := HP3.out.bx.frozen; have z1 := HP3.out.r1.cell; have z1f := HP3.out.r1.frozen; have z2 := HP3.out.r2.cell; have z2f := HP3.out.r2.frozen; clear hc3 hb3)
      obtain ⟨k1, k2, k3, k4, k5⟩ := (HP3.out.setX (XV.of_new HC3.out)).fin (ci_set HC3.out HP3.out.bx) ((KeepsOthers.setCell _ _ _).same D _ HK3.out rfl) HD.out rfl
      refine ⟨by simp, .inl ⟨_, _, rfl, run_takeDeferred k1, ?_⟩⟩
      refine ⟨.tuple #[_, .nilIface], ?_, k4, .inl ⟨_, rfl, by rw [HPL.out]; exact k5⟩⟩
      simp [results, Tryd.f61, go_sem, k2, k3]
    | some xe =>
      have hv0 := HP.out.xv
      rw [hlo] at hv0
      have HPL : Hid (plusEx t = xe) := Lib.hid (by unfold plusEx; rw [hlo]; rfl)
      obtain ⟨bv, hv1, hvc⟩ := hv0
      subst hv1
      have HVC := Lib.hid hvc
      have b0 := HP.out.bx.cell
      have b1 := HP.out.bx.frozen
      have z1 := HP.out.r1.cell
      have z1f := HP.out.r1.frozen
      have z2 := HP.out.r2.cell
      have z2f := HP.out.r2.frozen
      clear hlo hvc
      gi_wp2
      obtain ⟨k1, k2, k3, k4, k5⟩ := HP.out.fin HVC.out HK.out HD.out rfl
      refine ⟨by simp, .inl ⟨_, _, rfl, run_takeDeferred k1, ?_⟩⟩
      refine ⟨.tuple #[_, .nilIface], ?_, k4, .inl ⟨_, rfl, by rw [HPL.out]; exact k5⟩⟩
      simp [results, Tryd.f61, go_sem, k2, k3]
  case stop =>
    rintro D c pre W hD hpre ⟨rfl, h101, ⟨a, k1, k2⟩, k3⟩ hK
    have hD2 : w.heap.size ≤ D := by have := HSZ.out; omega
    have hm : 101 ≤ litsC (Lib.fieldsD t) := Nat.le_trans h101 (litsC_prefix (by rw [← mkB_toList t]; exact hpre))
    gi_wp2
    refine ⟨by simp, .inl ⟨_, _, rfl, run_takeDeferred hK, ?_⟩⟩
    have c1 := cell_put (o' := .deferred none) k1 hK rfl
    have c2 := cell_put (o' := .deferred none) k2 hK rfl
    refine ⟨.tuple #[.nilIface, .iface 183 (.pointer (some a))], ?_, below_put k3 (by have := lt_of_heap k1; omega) hD2, .inr ⟨hm, a, rfl⟩⟩
    simp [results, Tryd.f61, go_sem, c1, c2]
end Go.Proofs.YteemenhinhkonaaDoor
