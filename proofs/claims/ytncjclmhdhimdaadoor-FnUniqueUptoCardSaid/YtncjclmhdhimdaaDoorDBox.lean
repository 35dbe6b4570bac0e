/- The memory of diff.Diff: boxes of two numbers, the buffer, and the row of the lines of the hunk in hand; what each kind of step keeps of them. -/
import Derived.Test.YtncjclmhdhimdaaDoorProg
import Derived.Test.YtncjclmhdhimdaaDoorDTgs
import Derived.Test.YtncjclmhdhimdaaDoorDRound
import Derived.Test.YtncjclmhdhimdaaDoorDText
import Derived.Lib.BufferKept
namespace Go.Proofs.YtncjclmhdhimdaaDoor
open Go.RowKit

def bx (w : World) (b x y : Nat) : Prop := w.heap[b]? = some (.cells #[.int .i64 (x : Int), .int .i64 (y : Int)] 60 (0, 0))
theorem bx.c0 {w : World} {b x y : Nat} (h : bx w b x y) : w.cell? ⟨b, 0, none⟩ = some (.int .i64 (x : Int)) := cell_at h _ rfl
theorem bx.c1 {w : World} {b x y : Nat} (h : bx w b x y) : w.cell? ⟨b, 1, none⟩ = some (.int .i64 (y : Int)) := cell_at h _ rfl
theorem bx.free {w : World} {b x y : Nat} (h : bx w b x y) (o : Nat) : w.frozen? ⟨b, o, none⟩ = false := free_at h o
theorem bx.lt {w : World} {b x y : Nat} (h : bx w b x y) : b < w.heap.size := lt_of_heap h
theorem bx.below {w w' : World} {b x y : Nat} (h : bx w b x y) (hb : Below w.heap.size w w') : bx w' b x y := (hb.block b h.lt).trans h
theorem bx.set0 {w : World} {b x y : Nat} (h : bx w b x y) (x' : Nat) : bx (w.setCell ⟨b, 0, none⟩ (.int .i64 (x' : Int))) b x' y := heap_set w h _
theorem bx.set1 {w : World} {b x y : Nat} (h : bx w b x y) (y' : Nat) : bx (w.setCell ⟨b, 1, none⟩ (.int .i64 (y' : Int))) b x y' := heap_set w h _
theorem bx.other {w : World} {b b' o x y : Nat} (h : bx w b x y) (hne : b ≠ b') (v : Value) : bx (w.setCell ⟨b', o, none⟩ v) b x y := by
  unfold bx
  rw [Below.heap_setCell _ _ _ _ hne]
  exact h
theorem bx.new (w : World) (x y : Nat) : bx (w.alloc (.cells #[.int .i64 (x : Int), .int .i64 (y : Int)] 60)) w.heap.size x y := heap_new _ _ rfl

structure DS (bo base : Nat) (out : List UInt8) (v : Value) (ct : Sc (List UInt8)) (wr : World) : Prop where
  buf : Lib.IsBuffer 54 5 bo bo (Lib.byteCells out) wr
  row : wr.ownsRow base 9 1 v ct.length (strs (cts ct))
/- a row lies in a block that holds its own type -/
theorem row_block {w : World} {base : Nat} {e : TypeId} {size n : Nat} {v : Value} {xs : List Value} (h : w.ownsRow base e size v n xs) {g : Nat} (hg : v.ownBlock = some g) : ∃ cur, w.heap[g]? = some (.cells cur e (0, 0)) := by
  rcases h.2 with ⟨rfl, _⟩ | ⟨g', cap, cur, rfl, _, hh, _⟩
  · simp [Value.ownBlock] at hg
  · simp [Value.ownBlock] at hg
    subst hg
    exact ⟨cur, hh⟩
theorem row_ne {w : World} {base : Nat} {e e' : TypeId} {size n b : Nat} {v : Value} {xs : List Value} {cs : Array Value} {fz : Nat × Nat} (h : w.ownsRow base e size v n xs) (hb : w.heap[b]? = some (.cells cs e' fz)) (hne : e ≠ e') : v.ownBlock ≠ some b := by
  intro hg
  obtain ⟨cur, hc⟩ := row_block h hg
  rw [hb] at hc
  injection hc with hc
  injection hc with _ hc
  exact hne hc.symm
/- the buffer stays while another block is turned -/
theorem buf_grown {T e : TypeId} {B b : Nat} {bs : List Value} {w w' : World} {row : Option Nat} (h : Lib.IsBuffer T e B b bs w) (hg : w.grownBy w' row) (h1 : some b ≠ row) (h2 : ∀ g, row = some g → ∀ cur fz, w.heap[g]? ≠ some (.cells cur e fz)) : Lib.IsBuffer T e B b bs w' := by
  have hlt := h.lt
  obtain ⟨hB, v, lr, hbk, hown, hne⟩ := h
  refine ⟨hB, v, lr, (hg.block b hlt h1).trans hbk, hown.kept hg ?_, hne⟩
  cases hv : v.ownBlock with
  | none => exact .inl rfl
  | some g =>
    right
    intro he
    obtain ⟨cur, hc⟩ := row_block hown hv
    exact h2 g he.symm cur _ hc
theorem buf_below {T e : TypeId} {B b : Nat} {bs : List Value} {w w' : World} (h : Lib.IsBuffer T e B b bs w) (hb : Below w.heap.size w w') : Lib.IsBuffer T e B b bs w' := by
  refine buf_grown (row := none) h (grown_of_below hb none) (by simp) fun g hg => by cases hg
theorem buf_ne {T e t : TypeId} {B b b' : Nat} {bs : List Value} {w : World} {cs : Array Value} {fz : Nat × Nat} (h : Lib.IsBuffer T e B b bs w) (hb : w.heap[b']? = some (.cells cs t fz)) (hne : t ≠ T) : b ≠ b' := by
  rintro rfl
  obtain ⟨_, v, lr, hbk, _⟩ := h
  rw [hb] at hbk
  injection hbk with hbk
  injection hbk with _ hbk
  exact hne hbk
theorem DS.below {bo base : Nat} {out : List UInt8} {v : Value} {ct : Sc (List UInt8)} {w w' : World} (h : DS bo base out v ct w) (hb : Below w.heap.size w w') : DS bo base out v ct w' := ⟨buf_below h.buf hb, ownsRow_below h.row hb⟩
theorem DS.box {bo base b x y o : Nat} {out : List UInt8} {v : Value} {ct : Sc (List UInt8)} {w : World} (h : DS bo base out v ct w) (hb : bx w b x y) (u : Value) : DS bo base out v ct (w.setCell ⟨b, o, none⟩ u) := by
  have hg : w.grownBy (w.setCell ⟨b, o, none⟩ u) (some b) := Lib.grownBy_setCell w b o u
  refine ⟨buf_grown h.buf hg (fun he => ?_) fun g hgb cur fz hc => ?_, h.row.kept hg (.inr (row_ne h.row hb (by decide)))⟩
  · injection he with he
    exact buf_ne h.buf hb (by decide) he
  · injection hgb with hgb
    subst hgb
    rw [hb] at hc
    injection hc with hc
    injection hc with _ hc
    exact absurd hc (by decide)
/- an append to the row of lines -/
theorem app_grown {w w' : World} {v v' : Value} (h : (v'.ownBlock = v.ownBlock ∧ w.grownBy w' v.ownBlock) ∨ (v'.ownBlock = some w.heap.size ∧ Below w.heap.size w w')) : w.grownBy w' v.ownBlock := by
  rcases h with ⟨_, h⟩ | ⟨_, h⟩
  · exact h
  · exact grown_of_below h _
theorem DS.app {bo base : Nat} {out : List UInt8} {v v' : Value} {ct : Sc (List UInt8)} {s : UInt8} {l : List UInt8} {w w3 : World} {o : Obj} (h : DS bo base out v ct w) (ho : w3.ownsRow base 9 1 v' (ct.length + 1) (strs (cts ct) ++ [.string (mkB (s :: l))])) (hg : (w.alloc o).grownBy w3 v.ownBlock) : DS bo base out v' (ct ++ [(s, l)]) w3 := by
  have h1 : DS bo base out v ct (w.alloc o) := h.below ((Below.refl _ _).alloc (Nat.le_refl _) _)
  refine ⟨buf_grown h1.buf hg (fun he => ?_) fun g hgb cur fz hc => ?_, by rw [cts_snoc, strs_snoc, List.length_append]; exact ho⟩
  · obtain ⟨cur, hc⟩ := row_block h1.row he.symm
    exact buf_ne h1.buf hc (by decide) rfl
  · obtain ⟨cur', hc'⟩ := row_block h1.row hgb
    rw [hc'] at hc
    injection hc with hc
    injection hc with _ hc
    exact absurd hc (by decide)
theorem bx.app {base b x y n : Nat} {v : Value} {xs : List Value} {w w3 : World} {o : Obj} (h : bx w b x y) (hr : w.ownsRow base 9 1 v n xs) (hg : (w.alloc o).grownBy w3 v.ownBlock) : bx w3 b x y := by
  have h1 : bx (w.alloc o) b x y := h.below ((Below.refl _ _).alloc (Nat.le_refl _) _)
  exact (hg.block b h1.lt (fun he => row_ne (hr.alloc o) h1 (by decide) he.symm)).trans h1
/- a write to the buffer -/
theorem bx.write {bo b x y : Nat} {w w' : World} {bs : List Value} (h : bx w b x y) (hi : Lib.IsBuffer 54 5 bo bo bs w) (hk : Lib.OthersKept 5 (some bo) w w') : bx w' b x y :=
  hk b _ h (fun he => by injection he with he; exact buf_ne hi h (by decide) he.symm) fun c fz he => by injection he with _ he; exact absurd he (by decide)
theorem row_write {bo base n : Nat} {w w' : World} {v : Value} {xs : List Value} {bs : List Value} (h : w.ownsRow base 9 1 v n xs) (hi : Lib.IsBuffer 54 5 bo bo bs w) (hk : Lib.OthersKept 5 (some bo) w w') : w'.ownsRow base 9 1 v n xs := by
  refine ⟨h.1, ?_⟩
  rcases h.2 with hn | ⟨g, cap, cur, hv, hb, hh, rest⟩
  · exact .inl hn
  · exact .inr ⟨g, cap, cur, hv, hb, hk g _ hh (fun he => by injection he with he; exact buf_ne hi hh (by decide) he.symm) (fun c fz he => by injection he with _ he; exact absurd he (by decide)), rest⟩
end Go.Proofs.YtncjclmhdhimdaaDoor
