/- Hunks in memory: a row of the call's own, whose elements hold rows of lines. -/
import Derived.Test.YtncjclmhdhimdaaDoorProg
import Derived.Test.YtncjclmhdhimdaaDoorDWorld
import Derived.Test.YtncjclmhdhimdaaDoorDText
import Derived.Test.YtncjclmhdhimdaaDoorDMD5
namespace Go.Proofs.YtncjclmhdhimdaaDoor
open Go.RowKit

abbrev Hk := Ck (List UInt8)
def hcells (cs : List Hk) (us : List Value) : List Value := (cs.zip us).flatMap fun p => [.int .i64 (p.1.x : Int), .int .i64 (p.1.y : Int), p.2]
theorem hcells_snoc {cs : List Hk} {us : List Value} (h : us.length = cs.length) (c : Hk) (u : Value) : hcells (cs ++ [c]) (us ++ [u]) = hcells cs us ++ [.int .i64 (c.x : Int), .int .i64 (c.y : Int), u] := by
  unfold hcells
  rw [List.zip_append h.symm, List.flatMap_append]
  rfl
structure HRow (w : World) (B : Nat) (v : Value) (cs : List Hk) (us : List Value) : Prop where
  len : us.length = cs.length
  row : w.ownsRow B 28 3 v cs.length (hcells cs us)
  lines : ∀ (i : Nat) (c : Hk) (u : Value), cs[i]? = some c → us[i]? = some u → w.ownsRow B 9 1 u c.ops.length (strs (cts c.ops))
theorem HRow.below {w w' : World} {B : Nat} {v : Value} {cs : List Hk} {us : List Value} (h : HRow w B v cs us) (hb : Below w.heap.size w w') : HRow w' B v cs us :=
  ⟨h.len, ownsRow_below h.row hb, fun i c u h1 h2 => ownsRow_below (h.lines i c u h1 h2) hb⟩
/- rows of two types do not lie in one block -/
theorem rows_ne {w : World} {B B' : Nat} {e e' : TypeId} {s s' n n' : Nat} {v v' : Value} {xs xs' : List Value} (h : w.ownsRow B e s v n xs) (h' : w.ownsRow B' e' s' v' n' xs') (hne : e ≠ e') : v.ownBlock = none ∨ v.ownBlock ≠ v'.ownBlock := by
  cases hv : v.ownBlock with
  | none => exact .inl rfl
  | some g =>
    right
    intro hg
    obtain ⟨cur, hc⟩ := row_block h hv
    obtain ⟨cur', hc'⟩ := row_block h' hg.symm
    rw [hc] at hc'
    injection hc' with hc'
    injection hc' with _ hc'
    exact hne hc'
theorem HRow.app {w w3 : World} {B : Nat} {v v' : Value} {cs : List Hk} {us : List Value} {o : Obj} {c : Hk} {u : Value} (h : HRow w B v cs us) (ho : w3.ownsRow B 28 3 v' (cs.length + 1) (hcells cs us ++ [.int .i64 (c.x : Int), .int .i64 (c.y : Int), u]))
    (hg : (w.alloc o).grownBy w3 v.ownBlock) (hu : w.ownsRow B 9 1 u c.ops.length (strs (cts c.ops))) : HRow w3 B v' (cs ++ [c]) (us ++ [u]) := by
  refine ⟨by simp [h.len], by rw [hcells_snoc h.len, List.length_append]; exact ho, fun i d x h1 h2 => ?_⟩
  have hrow := h.row.alloc o
  have key : ∀ {m : Nat} {x : Value} {xs : List Value}, w.ownsRow B 9 1 x m xs → w3.ownsRow B 9 1 x m xs := fun hx => (hx.alloc o).kept hg (rows_ne (hx.alloc o) hrow (by decide))
  rcases Nat.lt_or_ge i cs.length with hi | hi
  · rw [List.getElem?_append_left hi] at h1
    rw [List.getElem?_append_left (by rw [h.len]; exact hi)] at h2
    exact key (h.lines i d x h1 h2)
  · rw [List.getElem?_append_right hi] at h1
    rw [List.getElem?_append_right (by rw [h.len]; exact hi), h.len] at h2
    have h0 : i - cs.length = 0 := by
      have := (List.getElem?_eq_some_iff.1 h1).1
      simp at this
      exact this
    rw [h0] at h1 h2
    simp at h1 h2
    subst h1 h2
    exact key hu
/- a hunk in hand: its box, and the row of its lines -/
structure HBox (w : World) (B bh x y : Nat) (u : Value) (ops : Sc (List UInt8)) : Prop where
  box : w.heap[bh]? = some (.cells #[.int .i64 (x : Int), .int .i64 (y : Int), u] 28 (0, 0))
  row : w.ownsRow B 9 1 u ops.length (strs (cts ops))
theorem HBox.app {w w3 : World} {B bh x y : Nat} {u u' : Value} {ops : Sc (List UInt8)} {o : Obj} {sg : UInt8} {l : List UInt8} (h : HBox w B bh x y u ops) (ho : w3.ownsRow B 9 1 u' (ops.length + 1) (strs (cts ops) ++ [.string (mkB (sg :: l))])) (hg : (w.alloc o).grownBy w3 u.ownBlock) :
    w3.heap[bh]? = some (.cells #[.int .i64 (x : Int), .int .i64 (y : Int), u] 28 (0, 0)) ∧ HBox (w3.setCell ⟨bh, 2, none⟩ u') B bh x y u' (ops ++ [(sg, l)]) := by
  have hlt : bh < w.heap.size := lt_of_heap h.box
  have hb1 : (w.alloc o).heap[bh]? = some (.cells #[.int .i64 (x : Int), .int .i64 (y : Int), u] 28 (0, 0)) := by rw [Below.heap_alloc w o bh hlt]; exact h.box
  have hne : some bh ≠ u.ownBlock := fun he => row_ne (h.row.alloc o) hb1 (by decide) he.symm
  have hb3 := (hg.block bh (lt_of_heap hb1) hne).trans hb1
  refine ⟨hb3, heap_set w3 hb3 _, ?_⟩
  have hrow : w3.ownsRow B 9 1 u' (ops ++ [(sg, l)]).length (strs (cts (ops ++ [(sg, l)]))) := by rw [cts_snoc, strs_snoc, List.length_append]; exact ho
  exact hrow.kept (Lib.grownBy_setCell w3 bh 2 u') (.inr fun he => row_ne hrow hb3 (by decide) he)

/- what stands in the lines of a diff -/
theorem drop_cons {α : Type} {L : List α} {p : Nat} {x : α} {t : List α} (h : L.drop p = x :: t) : p < L.length ∧ L[p]? = some x ∧ L.drop (p + 1) = t := by
  have hl : p < L.length := by
    rcases Nat.lt_or_ge p L.length with h1 | h1
    · exact h1
    · rw [List.drop_eq_nil_of_le h1] at h
      cases h
  refine ⟨hl, ?_, ?_⟩
  · have := congrArg (fun l => l[0]?) h
    simpa using this
  · rw [← List.drop_drop, h]
    rfl
def okOp (o : UInt8 × List UInt8) : Prop := (o.1 = 32 ∨ o.1 = 45 ∨ o.1 = 43) ∧ isLine o.2
/- the first byte of a line behind a line: none begins with a backslash, but the remark -/
theorem next_line {rm : Sc (List UInt8)} {cs : List Hk} {x : List UInt8} {t : List (List UInt8)} (hr : ∀ o ∈ rm, okOp o) (h : rm.flatMap opLns ++ cs.flatMap ckLns = x :: t) : ∃ c r, x = c :: r ∧ c ≠ 92 := by
  cases rm with
  | nil =>
    cases cs with
    | nil => cases h
    | cons c cs =>
      rw [List.flatMap_nil, List.nil_append, List.flatMap_cons] at h
      unfold ckLns at h
      rw [List.cons_append] at h
      injection h with h _
      exact ⟨64, _, h.symm, by decide⟩
  | cons o rm =>
    rw [List.flatMap_cons] at h
    unfold opLns at h
    obtain ⟨hs, _⟩ := hr o (List.mem_cons_self ..)
    have hne : o.1 ≠ 92 := by rcases hs with h1 | h1 | h1 <;> rw [h1] <;> decide
    split at h
    · simp only [List.cons_append] at h
      injection h with h _
      exact ⟨o.1, _, h.symm, hne⟩
    · simp only [List.cons_append] at h
      injection h with h _
      exact ⟨o.1, _, h.symm, hne⟩
end Go.Proofs.YtncjclmhdhimdaaDoor
