/- The main loop of diff.Diff: its pieces of code, its state with the boxes of start and end, what a part of a list of lines is. -/
import Derived.Test.YtncjclmhdhimdaaDoorProg
import Derived.Test.YtncjclmhdhimdaaDoorDWorld
import Derived.Test.YtncjclmhdhimdaaDoorShelfA
import Derived.Deep.QuietTactic
import Derived.BigQuiet
import Derived.Deep.CutBlock
namespace Go.Proofs.YtncjclmhdhimdaaDoor
open Go.RowKit

/- the piece of code that begins with a region -/
def hdR : Code → Option Nat
  | .region m _ _ => some m
  | .seq a _ => hdR a
  | _ => none
def tailAt (n : Nat) : Code → Option Code
  | .seq a b => if hdR a = some n then some (.seq a b) else match tailAt n a with
    | some c => some c
    | none => tailAt n b
  | .block _ c => tailAt n c
  | .loop c => tailAt n c
  | .scope c => tailAt n c
  | .cond _ a b => match tailAt n a with
    | some c => some c
    | none => tailAt n b
  | _ => none
noncomputable def tailOf (n : Nat) : Code := ((Tryd.f25.body.bind (tailAt n)).getD .skip)

/- a part of a list of lines -/
theorem LS.sub {w : World} {a : Option Addr} {cap : Nat} {X : List (List UInt8)} (h : LS w (.slice a X.length cap) X) (hc : X.length ≤ cap) (i j : Nat) (hij : i ≤ j) (hj : j ≤ X.length) :
    ∃ a' c', (∀ wr, (Instr.slice 26 (.slice a X.length cap) (some (.int .i64 (i : Int))) (some (.int .i64 (j : Int))) none).run Tryd.prog wr = .ok (.slice a' (j - i) c') wr) ∧
      ∀ k s, k < j - i → X[i + k]? = some s → ∃ b off, a' = some ⟨b, off, none⟩ ∧ w.cell? ⟨b, off + k, none⟩ = some (.string (mkB s)) := by
  refine ⟨if cap = i then a else a.map (·.add (i * 1)), cap - i, fun wr => ?_, fun k s hk hs => ?_⟩
  · rw [run_slice_lh (P := Tryd.prog) wr 26 a X.length cap Tryd.underlying26 .i64 .i64 (i : Int) (j : Int) (by omega) (by omega) (by omega)]
    rw [show Tryd.prog.elem 26 = 9 by kernel_rfl, Tryd.sizeOf9 wr]
    simp [Result.andThen, sliced]
  · obtain ⟨b, off, rfl, hcell⟩ := h.cell hs
    have : i < X.length := by omega
    rw [if_neg (by omega)]
    refine ⟨b, off + i * 1, by rw [Option.map_some, addr_plus], ?_⟩
    rw [← hcell]
    congr 2
    omega
theorem sum_l (c x t : List UInt8) (ht : t = c ++ x) (h : c.length + x.length ≤ 9223372036854775807) (w : World) : (Op.stringOp .add (mkB c) (mkB x)).run Tryd.prog w = .ok (.string (mkB t)) w := by
  rw [ht, ← mkB_append]
  exact run_string_add_sum (P := Tryd.prog) w (mkB c) (mkB x) (by rw [mkB_size, mkB_size]; exact h)

/- what stays all along -/
structure CX (X Y : List (List UInt8)) (M : List (Nat × Nat)) (w2 : World) (ax ay : Option Addr) (cax cay : Nat) : Prop where
  lx : LS w2 (.slice ax X.length cax) X
  ly : LS w2 (.slice ay Y.length cay) Y
  hx : X.length ≤ 10000
  hy : Y.length ≤ 10000
  cx : X.length ≤ cax
  cy : Y.length ≤ cay
  sx : ∀ t ∈ X, t.length ≤ 1048605
  sy : ∀ t ∈ Y, t.length ≤ 1048605
  mt : Matches X Y M
/- the state with two boxes more -/
structure DR (w2 : World) (n S : Nat) (M : List (Nat × Nat)) (out : List UInt8) (v : Value) (ct : Sc (List UInt8)) (dx dy cx cy kx ky b1 x1 y1 b2 x2 y2 : Nat) (wr : World) : Prop where
  dw : DW w2 n S M out v ct dx dy cx cy kx ky wr
  s : bx wr b1 x1 y1
  e : bx wr b2 x2 y2
  ns : n + 3 ≤ b1
  ne : n + 3 ≤ b2
section
variable {w2 : World} {n S : Nat} {M : List (Nat × Nat)} {out : List UInt8} {v : Value} {ct : Sc (List UInt8)} {dx dy cx cy kx ky b1 x1 y1 b2 x2 y2 : Nat} {wr : World}
theorem DR.below {w' : World} (h : DR w2 n S M out v ct dx dy cx cy kx ky b1 x1 y1 b2 x2 y2 wr) (hb : Below wr.heap.size wr w') : DR w2 n S M out v ct dx dy cx cy kx ky b1 x1 y1 b2 x2 y2 w' :=
  ⟨h.dw.below hb, h.s.below hb, h.e.below hb, h.ns, h.ne⟩
theorem DR.app {v' : Value} {sg : UInt8} {l : List UInt8} {w3 : World} {o : Obj} (h : DR w2 n S M out v ct dx dy cx cy kx ky b1 x1 y1 b2 x2 y2 wr) (ho : w3.ownsRow w2.heap.size 9 1 v' (ct.length + 1) (strs (cts ct) ++ [.string (mkB (sg :: l))])) (hg : (wr.alloc o).grownBy w3 v.ownBlock) :
    DR w2 n S M out v' (ct ++ [(sg, l)]) dx dy cx cy kx ky b1 x1 y1 b2 x2 y2 w3 := ⟨h.dw.app ho hg, h.s.app h.dw.ds.row hg, h.e.app h.dw.ds.row hg, h.ns, h.ne⟩
theorem DR.count0 (h : DR w2 n S M out v ct dx dy cx cy kx ky b1 x1 y1 b2 x2 y2 wr) (x : Nat) : DR w2 n S M out v ct dx dy cx cy x ky b1 x1 y1 b2 x2 y2 (wr.setCell ⟨n + 2, 0, none⟩ (.int .i64 (x : Int))) :=
  ⟨h.dw.count0 x, h.s.other (by have := h.ns; omega) _, h.e.other (by have := h.ne; omega) _, h.ns, h.ne⟩
theorem DR.count1 (h : DR w2 n S M out v ct dx dy cx cy kx ky b1 x1 y1 b2 x2 y2 wr) (x : Nat) : DR w2 n S M out v ct dx dy cx cy kx x b1 x1 y1 b2 x2 y2 (wr.setCell ⟨n + 2, 1, none⟩ (.int .i64 (x : Int))) :=
  ⟨h.dw.count1 x, h.s.other (by have := h.ns; omega) _, h.e.other (by have := h.ne; omega) _, h.ns, h.ne⟩
theorem DR.chunk0 (h : DR w2 n S M out v ct dx dy cx cy kx ky b1 x1 y1 b2 x2 y2 wr) (x : Nat) : DR w2 n S M out v ct dx dy x cy kx ky b1 x1 y1 b2 x2 y2 (wr.setCell ⟨n + 1, 0, none⟩ (.int .i64 (x : Int))) :=
  ⟨h.dw.chunk0 x, h.s.other (by have := h.ns; omega) _, h.e.other (by have := h.ne; omega) _, h.ns, h.ne⟩
theorem DR.chunk1 (h : DR w2 n S M out v ct dx dy cx cy kx ky b1 x1 y1 b2 x2 y2 wr) (x : Nat) : DR w2 n S M out v ct dx dy cx x kx ky b1 x1 y1 b2 x2 y2 (wr.setCell ⟨n + 1, 1, none⟩ (.int .i64 (x : Int))) :=
  ⟨h.dw.chunk1 x, h.s.other (by have := h.ns; omega) _, h.e.other (by have := h.ne; omega) _, h.ns, h.ne⟩
theorem DR.done0 (h : DR w2 n S M out v ct dx dy cx cy kx ky b1 x1 y1 b2 x2 y2 wr) (x : Nat) : DR w2 n S M out v ct x dy cx cy kx ky b1 x1 y1 b2 x2 y2 (wr.setCell ⟨n, 0, none⟩ (.int .i64 (x : Int))) :=
  ⟨h.dw.done0 x, h.s.other (by have := h.ns; omega) _, h.e.other (by have := h.ne; omega) _, h.ns, h.ne⟩
theorem DR.done1 (h : DR w2 n S M out v ct dx dy cx cy kx ky b1 x1 y1 b2 x2 y2 wr) (x : Nat) : DR w2 n S M out v ct dx x cx cy kx ky b1 x1 y1 b2 x2 y2 (wr.setCell ⟨n, 1, none⟩ (.int .i64 (x : Int))) :=
  ⟨h.dw.done1 x, h.s.other (by have := h.ns; omega) _, h.e.other (by have := h.ne; omega) _, h.ns, h.ne⟩
theorem DR.write {l : List UInt8} {w' : World} (h : DR w2 n S M out v ct dx dy cx cy kx ky b1 x1 y1 b2 x2 y2 wr) (hi : Lib.IsBuffer 54 5 w2.heap.size w2.heap.size (Lib.byteCells out ++ Lib.byteCells l) w') (hb : Below w2.heap.size wr w') (hk : Lib.OthersKept 5 (some w2.heap.size) wr w') :
    DR w2 n S M (out ++ l) v ct dx dy cx cy kx ky b1 x1 y1 b2 x2 y2 w' := ⟨h.dw.write hi hb hk, h.s.write h.dw.ds.buf hk, h.e.write h.dw.ds.buf hk, h.ns, h.ne⟩
theorem DR.clear {a : Option Addr} {k cap : Nat} (h : DR w2 n S M out (.slice a k cap) ct dx dy cx cy kx ky b1 x1 y1 b2 x2 y2 wr) : DR w2 n S M out (.slice a 0 cap) [] dx dy cx cy kx ky b1 x1 y1 b2 x2 y2 wr := ⟨h.dw.clear, h.s, h.e, h.ns, h.ne⟩
end
end Go.Proofs.YtncjclmhdhimdaaDoor
