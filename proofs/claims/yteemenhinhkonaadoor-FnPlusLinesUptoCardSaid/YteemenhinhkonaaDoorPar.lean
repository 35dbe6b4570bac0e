/- The package's parser: its state in memory, and what its functions hand back. -/
import Derived.Test.YteemenhinhkonaaDoorProg
import Derived.Test.YteemenhinhkonaaDoorTabs
import Derived.Test.YteemenhinhkonaaDoorReadA
import Derived.StillTail
import Derived.BigQuiet
namespace Go.Proofs.YteemenhinhkonaaDoor
open Go.RowKit

/- a region that draws its order, whose operations but the last ones only read -/
theorem wpStill_of_quiet {P : Program} {ops : Array Oper} {W : World} {Q : Act → Prop} : ∀ {l : List Oper} {a : Act}, wpQuiet P ops (fun w' => w' = W) Q l a → wpStill P ops W Q l a := by
  intro l
  induction l with
  | nil => intro a h; exact h
  | cons o rest ih =>
    intro a h
    unfold wpQuiet at h
    unfold wpStill
    split
    · rename_i hw
      rw [if_pos hw] at h
      obtain ⟨v, h1, h2⟩ := h
      have h3 := h1 W rfl
      unfold Oper.quietAt at h3
      unfold Oper.still
      cases hr : (execOp a.eval o).run P W with
      | ok n w' =>
        rw [hr] at h3
        cases n with
        | value u =>
          obtain ⟨e1, e2⟩ := h3
          subst e2
          exact ⟨e1, ih h2⟩
        | skip =>
          obtain ⟨e1, e2⟩ := h3
          subst e2
          exact ⟨e1, ih h2⟩
        | enter f args =>
          obtain ⟨e1, e2⟩ := h3
          exact ⟨e1, v, e2, ih h2⟩
        | _ => exact h3.elim
      | _ => rw [hr] at h3; exact h3.elim
    · rename_i hw
      rw [if_neg hw] at h
      exact ih h
theorem region_tail {P : Program} {id : Nat} {Q : Exit → Act → World → Prop} {a : Act} {w : World} {l : List Oper} (n : Nat) (hm : P.follows .mixedOrders = true) (hB : Region.lexTailB .any l.toArray n = true)
    (h : wpQuiet P l.toArray (fun w' => w' = w.drew) (fun a' => wpList P l.toArray Q (l.drop n) a' w.drew) (l.take n) a) : (Code.region id l.toArray true).wp P Q a w :=
  wp_region_still_tail n hm hB (wpStill_of_quiet h)

/- the parser's six cells -/
def PIs (w : World) (bp : Nat) (s tok : ByteArray) (i : Int) (tg : Bool) (pos z : Int) : Prop :=
  w.heap[bp]? = some (.cells #[.string s, .int .i64 i, .string tok, .bool tg, .int .i64 pos, .int .i64 z] 113 (0, 0))
section
variable {w : World} {bp : Nat} {s tok : ByteArray} {i : Int} {tg : Bool} {pos z : Int}
theorem PIs.c0 (h : PIs w bp s tok i tg pos z) : w.cell? ⟨bp, 0, none⟩ = some (.string s) := cell_at h _ rfl
theorem PIs.c1 (h : PIs w bp s tok i tg pos z) : w.cell? ⟨bp, 1, none⟩ = some (.int .i64 i) := cell_at h _ rfl
theorem PIs.c2 (h : PIs w bp s tok i tg pos z) : w.cell? ⟨bp, 2, none⟩ = some (.string tok) := cell_at h _ rfl
theorem PIs.c3 (h : PIs w bp s tok i tg pos z) : w.cell? ⟨bp, 3, none⟩ = some (.bool tg) := cell_at h _ rfl
theorem PIs.c4 (h : PIs w bp s tok i tg pos z) : w.cell? ⟨bp, 4, none⟩ = some (.int .i64 pos) := cell_at h _ rfl
theorem PIs.c5 (h : PIs w bp s tok i tg pos z) : w.cell? ⟨bp, 5, none⟩ = some (.int .i64 z) := cell_at h _ rfl
theorem PIs.f (h : PIs w bp s tok i tg pos z) (o : Nat) : w.frozen? ⟨bp, o, none⟩ = false := free_at h o
theorem PIs.set1 (h : PIs w bp s tok i tg pos z) (j : Int) : PIs (w.setCell ⟨bp, 1, none⟩ (.int .i64 j)) bp s tok j tg pos z := heap_set w h _
theorem PIs.set2 (h : PIs w bp s tok i tg pos z) (t : ByteArray) : PIs (w.setCell ⟨bp, 2, none⟩ (.string t)) bp s t i tg pos z := heap_set w h _
theorem PIs.set3 (h : PIs w bp s tok i tg pos z) (b : Bool) : PIs (w.setCell ⟨bp, 3, none⟩ (.bool b)) bp s tok i b pos z := heap_set w h _
theorem PIs.set4 (h : PIs w bp s tok i tg pos z) (j : Int) : PIs (w.setCell ⟨bp, 4, none⟩ (.int .i64 j)) bp s tok i tg j z := heap_set w h _
theorem PIs.set5 (h : PIs w bp s tok i tg pos z) (j : Int) : PIs (w.setCell ⟨bp, 5, none⟩ (.int .i64 j)) bp s tok i tg pos j := heap_set w h _
theorem PIs.drewN (h : PIs w bp s tok i tg pos z) (n : Nat) : PIs (w.drewN n) bp s tok i tg pos z := h
theorem PIs.drew (h : PIs w bp s tok i tg pos z) : PIs w.drew bp s tok i tg pos z := h
theorem PIs.grown {w' : World} {row : Option Nat} (h : PIs w bp s tok i tg pos z) (hg : w.grownBy w' row) (hne : row ≠ some bp) : PIs w' bp s tok i tg pos z := (hg.block bp (lt_of_heap h) (fun e => hne e.symm)).trans h
end

/- the tokens that are left: the head of them lexed (Cur) or not (Unl) -/
def headText : List Tok → List UInt8
  | .sym c :: _ => [c]
  | .op c :: _ => [c, c]
  | .tag t :: _ => t
  | _ => []
def headTag : List Tok → Bool
  | .tag _ :: _ => true
  | _ => false
def Unl (w : World) (bp : Nat) (s : ByteArray) (ts : List Tok) (z : Nat) : Prop :=
  ∃ (tok : ByteArray) (k : Nat) (tg : Bool) (pos : Nat), PIs w bp s tok k tg pos z ∧ k ≤ s.size ∧ pos ≤ s.size ∧ toks tlG (dropB s k) = ts
def Cur (w : World) (bp : Nat) (s : ByteArray) (ts : List Tok) (z : Nat) : Prop :=
  ∃ (k pos : Nat), PIs w bp s (mkB (headText ts)) k (headTag ts) pos z ∧ k ≤ s.size ∧ pos ≤ s.size ∧ toks tlG (dropB s k) = ts.tail ∧ errB ts = false
theorem Cur.unl {w : World} {bp : Nat} {s : ByteArray} {ts : List Tok} {z : Nat} (h : Cur w bp s ts z) : Unl w bp s ts.tail z := by
  obtain ⟨k, pos, h1, h2, h3, h4, _⟩ := h
  exact ⟨_, k, _, pos, h1, h2, h3, h4⟩

/- an error that is thrown -/
def SErr (w : World) (b : Nat) (off : Int) (msg : ByteArray) : Prop := w.heap[b]? = some (.cells #[.int .i64 off, .string msg] 72 (0, 0))
def PanicP (s : ByteArray) (n : Nat) (en : Ending) (w' : World) : Prop :=
  ∃ (b : Nat) (off : Int) (msg : ByteArray) (older : List PanicEntry), en = .panicked ({ v := .iface 69 (.pointer (some ⟨b, 0, none⟩)), recovered := false } :: older) ∧ (∀ x ∈ older, x.goexit = false) ∧
    SErr w' b off msg ∧ n ≤ b ∧ 0 ≤ off ∧ off ≤ s.size ∧ msg.size ≤ 2305843009213693952
def LexPost (bp : Nat) (s : ByteArray) (ts : List Tok) (z : Nat) (w : World) (en : Ending) (w' : World) : Prop :=
  w.grownBy w' (some bp) ∧ ((errB ts = false ∧ en = .returned (.tuple #[]) ∧ Cur w' bp s ts z) ∨ (errB ts = true ∧ PanicP s w.heap.size en w'))
theorem extract_one (s : ByteArray) (k : Nat) (h : k < s.size) : s.extract k (k + 1) = mkB [s[k]] := by
  apply ByteArray.ext
  rw [ByteArray.data_extract]
  apply Array.ext'
  rw [Array.toList_extract, mkB_toList]
  show List.take (k + 1 - k) (s.data.toList.drop k) = _
  rw [show k + 1 - k = 1 from by omega]
  have := dropB_cons s k h
  unfold dropB at this
  rw [this]
  rfl
theorem extract_two (s : ByteArray) (k : Nat) (h : k + 1 < s.size) : s.extract k (k + 2) = mkB [s[k], s[k + 1]] := by
  apply ByteArray.ext
  rw [ByteArray.data_extract]
  apply Array.ext'
  rw [Array.toList_extract, mkB_toList]
  show List.take (k + 2 - k) (s.data.toList.drop k) = _
  rw [show k + 2 - k = 2 from by omega]
  have h1 := dropB_cons s k (by omega)
  have h2 := dropB_cons s (k + 1) h
  unfold dropB at h1 h2
  rw [h1, h2]
  rfl
theorem extract_any (s : ByteArray) (k n : Nat) : s.extract k (k + n) = mkB ((dropB s k).take n) := by
  apply ByteArray.ext
  rw [ByteArray.data_extract]
  apply Array.ext'
  rw [Array.toList_extract, mkB_toList]
  show List.take (k + n - k) (s.data.toList.drop k) = _
  rw [show k + n - k = n from by omega]
  rfl
theorem extract_end (s : ByteArray) (k : Nat) : s.extract k s.size = mkB (dropB s k) := by
  by_cases h : k ≤ s.size
  · have := extract_any s k (s.size - k)
    rw [show k + (s.size - k) = s.size from by omega, List.take_of_length_le (by rw [dropB_length]; omega)] at this
    exact this
  · apply ByteArray.ext
    rw [ByteArray.data_extract]
    apply Array.ext'
    rw [Array.toList_extract, mkB_toList]
    show List.take (s.size - k) (s.data.toList.drop k) = s.data.toList.drop k
    rw [List.drop_eq_nil_of_le (by simp; omega)]
    simp
end Go.Proofs.YteemenhinhkonaaDoor
