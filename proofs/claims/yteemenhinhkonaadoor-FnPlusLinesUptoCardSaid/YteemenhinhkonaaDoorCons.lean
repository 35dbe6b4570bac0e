/- The package's small makers of nodes, and what its parser's functions hand back. -/
import Derived.Test.YteemenhinhkonaaDoorProg
import Derived.Test.YteemenhinhkonaaDoorTok2
import Derived.Test.YteemenhinhkonaaDoorBuild
namespace Go.Proofs.YteemenhinhkonaaDoor
open Go.RowKit

theorem mkTag_any (t : ByteArray) (w : World) : Calls Tryd.prog 77 #[.string t] w fun e w' => e = .returned (.iface 94 (.pointer (some ⟨w.heap.size, 0, none⟩))) ∧ w.alloc (.cells #[.string t] 96) = w' := by
  go_enter Tryd.func77, Tryd.ntmps77
  go_wp2_with fail
  go_ret
  exact ⟨rfl, rfl⟩
theorem mkNot_any (t : TypeId) (b : Nat) (w : World) : Calls Tryd.prog 79 #[.iface t (.pointer (some ⟨b, 0, none⟩))] w fun e w' => e = .returned (.iface 86 (.pointer (some ⟨w.heap.size, 0, none⟩))) ∧ w.alloc (.cells #[.iface t (.pointer (some ⟨b, 0, none⟩))] 88) = w' := by
  go_enter Tryd.func79, Tryd.ntmps79
  go_wp2_with fail
  go_ret
  exact ⟨rfl, rfl⟩
theorem mkAnd_any (t u : TypeId) (b c : Nat) (w : World) : Calls Tryd.prog 80 #[.iface t (.pointer (some ⟨b, 0, none⟩)), .iface u (.pointer (some ⟨c, 0, none⟩))] w fun e w' => e = .returned (.iface 89 (.pointer (some ⟨w.heap.size, 0, none⟩))) ∧ w.alloc (.cells #[.iface t (.pointer (some ⟨b, 0, none⟩)), .iface u (.pointer (some ⟨c, 0, none⟩))] 91) = w' := by
  go_enter Tryd.func80, Tryd.ntmps80
  go_wp2_with fail
  go_ret
  exact ⟨rfl, rfl⟩
theorem mkOr_any (t u : TypeId) (b c : Nat) (w : World) : Calls Tryd.prog 81 #[.iface t (.pointer (some ⟨b, 0, none⟩)), .iface u (.pointer (some ⟨c, 0, none⟩))] w fun e w' => e = .returned (.iface 92 (.pointer (some ⟨w.heap.size, 0, none⟩))) ∧ w.alloc (.cells #[.iface t (.pointer (some ⟨b, 0, none⟩)), .iface u (.pointer (some ⟨c, 0, none⟩))] 93) = w' := by
  go_enter Tryd.func81, Tryd.ntmps81
  go_wp2_with fail
  go_ret
  exact ⟨rfl, rfl⟩

def OkT (s : ByteArray) (ts : List Tok) : Prop := ∃ k, toks tlG (dropB s k) = ts
def RetP (bp : Nat) (s : ByteArray) (r : Option (Ex × List Tok × Nat)) (w : World) (en : Ending) (w' : World) : Prop :=
  w.grownBy w' (some bp) ∧ ((∃ x ts z v, r = some (x, ts, z) ∧ en = .returned v ∧ CIs w' x v ∧ Cur w' bp s ts z ∧ OkT s ts) ∨ (r = none ∧ PanicP s w.heap.size en w'))
theorem Unl.okT {w : World} {bp : Nat} {s : ByteArray} {ts : List Tok} {z : Nat} (h : Unl w bp s ts z) : OkT s ts := by
  obtain ⟨_, k, _, _, _, _, _, h⟩ := h
  exact ⟨k, h⟩
theorem OkT.isSym {s : ByteArray} {ts : List Tok} (h : OkT s ts) (c : UInt8) (hc : symB c = true) : (headText ts = [c]) ↔ isSym c ts = true := by
  obtain ⟨k, rfl⟩ := h
  exact head_sym _ _ c hc
theorem OkT.isOp {s : ByteArray} {ts : List Tok} (h : OkT s ts) (c : UInt8) (hc : opB c = true) : (headText ts = [c, c]) ↔ headOp c ts = true := by
  obtain ⟨k, rfl⟩ := h
  exact head_op _ _ c hc
/- texts of tokens held against constants, as the walk spells it -/
theorem txt_eq (l m : List UInt8) : ((mkB l).toList == m) = decide (l = m) := by
  rw [ByteArray.toList_eq, mkB_toList]
  by_cases h : l = m
  · simp [h]
  · simp [h]
theorem grown_block_of {w w' : World} {bp : Nat} (hg : w.grownBy w' (some bp)) {b : Nat} (hb : b < w.heap.size) (hne : b ≠ bp) : w'.heap[b]? = w.heap[b]? := hg.block b hb (by intro e; injection e with e; exact hne e)
theorem CIs.grownP {w w' : World} {x : Ex} {v : Value} {bp : Nat} {s tok : ByteArray} {i : Int} {tg : Bool} {pos z : Int} (h : CIs w x v) (hp : PIs w bp s tok i tg pos z) (hg : w.grownBy w' (some bp)) : CIs w' x v :=
  CIs.keep (fun b cs t f hc ht => grown_block_of hg (lt_of_heap hc) (by
    rintro rfl
    unfold PIs at hp
    rw [hp] at hc
    injection hc with hc
    injection hc with _ h2 _
    subst h2
    revert ht
    decide)) h
theorem Cur.pis {w : World} {bp : Nat} {s : ByteArray} {ts : List Tok} {z : Nat} (h : Cur w bp s ts z) : ∃ (k pos : Nat), PIs w bp s (mkB (headText ts)) k (headTag ts) pos z ∧ pos ≤ s.size := by
  obtain ⟨k, pos, h1, _, h3, _⟩ := h
  exact ⟨k, pos, h1, h3⟩
theorem Cur.below {w w' : World} {bp : Nat} {s : ByteArray} {ts : List Tok} {z : Nat} (h : Cur w bp s ts z) (hb : Below w.heap.size w w') : Cur w' bp s ts z := by
  obtain ⟨k, pos, h1, h2, h3, h4, h5⟩ := h
  exact ⟨k, pos, (hb.block bp (lt_of_heap h1)).trans h1, h2, h3, h4, h5⟩
theorem OkT.tail {w : World} {bp : Nat} {s : ByteArray} {ts : List Tok} {z : Nat} (h : Cur w bp s ts z) : OkT s ts.tail := h.unl.okT
theorem panic_up {s : ByteArray} {n m : Nat} {en : Ending} {w' : World} (h : PanicP s m en w') (hn : n ≤ m) : PanicP s n en w' := by
  obtain ⟨b, off, msg, older, h1, h2, h3, h4, h5⟩ := h
  exact ⟨b, off, msg, older, h1, h2, h3, by omega, h5⟩
/- a new error -/
theorem panic_new {s : ByteArray} {n : Nat} {wy : World} (hn : n ≤ wy.heap.size) {b : Nat} (hb : b = wy.heap.size) (off : Int) (h0 : 0 ≤ off) (h1 : off ≤ s.size) (msg : ByteArray) (hm : msg.size ≤ 2305843009213693952) :
    PanicP s n (.panicked [{ v := .iface 69 (.pointer (some ⟨b, 0, none⟩)), recovered := false }]) (wy.alloc (.cells #[.int .i64 off, .string msg] 72)) := by
  subst hb
  exact ⟨wy.heap.size, off, msg, [], rfl, by simp, heap_new _ _ rfl, hn, h0, h1, hm⟩
theorem PanicP.drew {s : ByteArray} {n : Nat} {en : Ending} {w : World} (h : PanicP s n en w) : PanicP s n en w.drew := h
theorem PanicP.form {s : ByteArray} {n : Nat} {en : Ending} {w' : World} (h : PanicP s n en w') : ∃ ps, en = .panicked ps := by
  obtain ⟨b, off, msg, older, h1, _⟩ := h
  exact ⟨_, h1⟩
end Go.Proofs.YteemenhinhkonaaDoor
