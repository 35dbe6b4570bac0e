/- The state of diff.Diff: its buffer, its three boxes of two numbers, the row of lines, the list of matches; what each kind of step makes of it. -/
import Derived.Test.YtncjclmhdhimdaaDoorProg
import Derived.Test.YtncjclmhdhimdaaDoorDBox
namespace Go.Proofs.YtncjclmhdhimdaaDoor
open Go.RowKit

theorem flat_len (M : List (Nat × Nat)) : (flat M).length = 2 * M.length := by
  unfold flat
  induction M with
  | nil => rfl
  | cons m M ih => rw [List.flatMap_cons, List.length_append, ih]; simp; omega
theorem ms_ne {w : World} {S b x y : Nat} {M : List (Nat × Nat)} (h : w.heap[S]? = some (.cells (nums (flat M)).toArray 60 (0, 0))) (hz : 2 ≤ M.length) (hb : bx w b x y) : S ≠ b := by
  rintro rfl
  have hb : _ = _ := hb
  rw [h] at hb
  injection hb with hb
  injection hb with hb _
  have hl := congrArg Array.size hb
  simp [nums, flat_len] at hl
  omega
structure DW (w2 : World) (n S : Nat) (M : List (Nat × Nat)) (out : List UInt8) (v : Value) (ct : Sc (List UInt8)) (dx dy cx cy kx ky : Nat) (wr : World) : Prop where
  ds : DS w2.heap.size w2.heap.size out v ct wr
  done : bx wr n dx dy
  chunk : bx wr (n + 1) cx cy
  count : bx wr (n + 2) kx ky
  ms : wr.heap[S]? = some (.cells (nums (flat M)).toArray 60 (0, 0))
  bl : Below w2.heap.size w2 wr
  nb : w2.heap.size < n
  mz : 2 ≤ M.length
section
variable {w2 : World} {n S : Nat} {M : List (Nat × Nat)} {out : List UInt8} {v : Value} {ct : Sc (List UInt8)} {dx dy cx cy kx ky : Nat} {wr : World}
theorem DW.below {w' : World} (h : DW w2 n S M out v ct dx dy cx cy kx ky wr) (hb : Below wr.heap.size wr w') : DW w2 n S M out v ct dx dy cx cy kx ky w' where
  ds := h.ds.below hb
  done := h.done.below hb
  chunk := h.chunk.below hb
  count := h.count.below hb
  ms := (hb.block _ (lt_of_heap h.ms)).trans h.ms
  bl := h.bl.trans (hb.mono h.bl.size)
  nb := h.nb
  mz := h.mz
theorem DW.alloc (h : DW w2 n S M out v ct dx dy cx cy kx ky wr) (o : Obj) : DW w2 n S M out v ct dx dy cx cy kx ky (wr.alloc o) := h.below ((Below.refl _ _).alloc (Nat.le_refl _) _)
theorem DW.box {b x y o : Nat} (h : DW w2 n S M out v ct dx dy cx cy kx ky wr) (hb : bx wr b x y) (hn : n + 3 ≤ b) (u : Value) : DW w2 n S M out v ct dx dy cx cy kx ky (wr.setCell ⟨b, o, none⟩ u) where
  ds := h.ds.box hb u
  done := h.done.other (by omega) u
  chunk := h.chunk.other (by omega) u
  count := h.count.other (by omega) u
  ms := by rw [Below.heap_setCell _ _ _ _ (ms_ne h.ms h.mz hb)]; exact h.ms
  bl := h.bl.setCell (p := ⟨b, o, none⟩) (by have := h.nb; simp; omega) _
  nb := h.nb
  mz := h.mz
theorem DW.done0 (h : DW w2 n S M out v ct dx dy cx cy kx ky wr) (x : Nat) : DW w2 n S M out v ct x dy cx cy kx ky (wr.setCell ⟨n, 0, none⟩ (.int .i64 (x : Int))) where
  ds := h.ds.box h.done _
  done := h.done.set0 x
  chunk := h.chunk.other (by omega) _
  count := h.count.other (by omega) _
  ms := by rw [Below.heap_setCell _ _ _ _ (ms_ne h.ms h.mz h.done)]; exact h.ms
  bl := h.bl.setCell (p := ⟨n, 0, none⟩) (by have := h.nb; simp; omega) _
  nb := h.nb
  mz := h.mz
theorem DW.done1 (h : DW w2 n S M out v ct dx dy cx cy kx ky wr) (x : Nat) : DW w2 n S M out v ct dx x cx cy kx ky (wr.setCell ⟨n, 1, none⟩ (.int .i64 (x : Int))) where
  ds := h.ds.box h.done _
  done := h.done.set1 x
  chunk := h.chunk.other (by omega) _
  count := h.count.other (by omega) _
  ms := by rw [Below.heap_setCell _ _ _ _ (ms_ne h.ms h.mz h.done)]; exact h.ms
  bl := h.bl.setCell (p := ⟨n, 1, none⟩) (by have := h.nb; simp; omega) _
  nb := h.nb
  mz := h.mz
theorem DW.chunk0 (h : DW w2 n S M out v ct dx dy cx cy kx ky wr) (x : Nat) : DW w2 n S M out v ct dx dy x cy kx ky (wr.setCell ⟨n + 1, 0, none⟩ (.int .i64 (x : Int))) where
  ds := h.ds.box h.chunk _
  done := h.done.other (by omega) _
  chunk := h.chunk.set0 x
  count := h.count.other (by omega) _
  ms := by rw [Below.heap_setCell _ _ _ _ (ms_ne h.ms h.mz h.chunk)]; exact h.ms
  bl := h.bl.setCell (p := ⟨n + 1, 0, none⟩) (by have := h.nb; simp; omega) _
  nb := h.nb
  mz := h.mz
theorem DW.chunk1 (h : DW w2 n S M out v ct dx dy cx cy kx ky wr) (x : Nat) : DW w2 n S M out v ct dx dy cx x kx ky (wr.setCell ⟨n + 1, 1, none⟩ (.int .i64 (x : Int))) where
  ds := h.ds.box h.chunk _
  done := h.done.other (by omega) _
  chunk := h.chunk.set1 x
  count := h.count.other (by omega) _
  ms := by rw [Below.heap_setCell _ _ _ _ (ms_ne h.ms h.mz h.chunk)]; exact h.ms
  bl := h.bl.setCell (p := ⟨n + 1, 1, none⟩) (by have := h.nb; simp; omega) _
  nb := h.nb
  mz := h.mz
theorem DW.count0 (h : DW w2 n S M out v ct dx dy cx cy kx ky wr) (x : Nat) : DW w2 n S M out v ct dx dy cx cy x ky (wr.setCell ⟨n + 2, 0, none⟩ (.int .i64 (x : Int))) where
  ds := h.ds.box h.count _
  done := h.done.other (by omega) _
  chunk := h.chunk.other (by omega) _
  count := h.count.set0 x
  ms := by rw [Below.heap_setCell _ _ _ _ (ms_ne h.ms h.mz h.count)]; exact h.ms
  bl := h.bl.setCell (p := ⟨n + 2, 0, none⟩) (by have := h.nb; simp; omega) _
  nb := h.nb
  mz := h.mz
theorem DW.count1 (h : DW w2 n S M out v ct dx dy cx cy kx ky wr) (x : Nat) : DW w2 n S M out v ct dx dy cx cy kx x (wr.setCell ⟨n + 2, 1, none⟩ (.int .i64 (x : Int))) where
  ds := h.ds.box h.count _
  done := h.done.other (by omega) _
  chunk := h.chunk.other (by omega) _
  count := h.count.set1 x
  ms := by rw [Below.heap_setCell _ _ _ _ (ms_ne h.ms h.mz h.count)]; exact h.ms
  bl := h.bl.setCell (p := ⟨n + 2, 1, none⟩) (by have := h.nb; simp; omega) _
  nb := h.nb
  mz := h.mz
/- a line more -/
theorem DW.app {v' : Value} {s : UInt8} {l : List UInt8} {w3 : World} {o : Obj} (h : DW w2 n S M out v ct dx dy cx cy kx ky wr) (ho : w3.ownsRow w2.heap.size 9 1 v' (ct.length + 1) (strs (cts ct) ++ [.string (mkB (s :: l))])) (hg : (wr.alloc o).grownBy w3 v.ownBlock) :
    DW w2 n S M out v' (ct ++ [(s, l)]) dx dy cx cy kx ky w3 where
  ds := h.ds.app ho hg
  done := h.done.app h.ds.row hg
  chunk := h.chunk.app h.ds.row hg
  count := h.count.app h.ds.row hg
  ms := by
    have h1 := (h.alloc o).ms
    exact (hg.block S (lt_of_heap h1) (fun he => row_ne (h.ds.row.alloc o) h1 (by decide) he.symm)).trans h1
  bl := by
    have h1 := h.bl.alloc h.bl.size o
    refine h1.grown hg h1.size fun q hq => ?_
    have hr := h.ds.row
    rcases hr.2 with ⟨rfl, _⟩ | ⟨g, cap, cur, rfl, hb, _⟩
    · simp [Value.ownBlock] at hq
    · simp [Value.ownBlock] at hq
      omega
  nb := h.nb
  mz := h.mz
/- a text more -/
theorem DW.write {l : List UInt8} {w' : World} (h : DW w2 n S M out v ct dx dy cx cy kx ky wr) (hi : Lib.IsBuffer 54 5 w2.heap.size w2.heap.size (Lib.byteCells out ++ Lib.byteCells l) w') (hb : Below w2.heap.size wr w') (hk : Lib.OthersKept 5 (some w2.heap.size) wr w') :
    DW w2 n S M (out ++ l) v ct dx dy cx cy kx ky w' where
  ds := ⟨by unfold Lib.byteCells at hi ⊢; rw [List.map_append]; exact hi, row_write h.ds.row h.ds.buf hk⟩
  done := h.done.write h.ds.buf hk
  chunk := h.chunk.write h.ds.buf hk
  count := h.count.write h.ds.buf hk
  ms := hk S _ h.ms (fun he => by injection he with he; exact buf_ne h.ds.buf h.ms (by decide) he.symm) fun c fz he => by injection he with _ he; exact absurd he (by decide)
  bl := h.bl.trans hb
  nb := h.nb
  mz := h.mz
/- no line -/
theorem DW.clear {a : Option Addr} {k cap : Nat} (h : DW w2 n S M out (.slice a k cap) ct dx dy cx cy kx ky wr) : DW w2 n S M out (.slice a 0 cap) [] dx dy cx cy kx ky wr where
  ds := ⟨h.ds.buf, by
    have hr := h.ds.row
    refine ⟨by simp [strs, cts], ?_⟩
    rcases hr.2 with ⟨hv, _⟩ | ⟨g, cap', cur, hv, hb, hh, rest⟩
    · injection hv with h1 h2 h3
      subst h1 h3
      exact .inl ⟨rfl, rfl⟩
    · injection hv with h1 h2 h3
      subst h1 h3
      exact .inr ⟨g, _, cur, rfl, hb, hh, Nat.zero_le _, rest.2.1, rest.2.2.1, by simp [strs, cts]⟩⟩
  done := h.done
  chunk := h.chunk
  count := h.count
  ms := h.ms
  bl := h.bl
  nb := h.nb
  mz := h.mz
end
end Go.Proofs.YtncjclmhdhimdaaDoor
