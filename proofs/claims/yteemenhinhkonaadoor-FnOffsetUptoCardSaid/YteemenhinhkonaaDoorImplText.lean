/- impl.Text: the text of an expression; that the reference reads it as what it is. -/
import Derived.Test.YteemenhinhkonaaDoorProg
import Derived.Test.YteemenhinhkonaaDoorStr
import Derived.Test.YteemenhinhkonaaDoorRead
namespace Go.Proofs.YteemenhinhkonaaDoor
open Go.RowKit

theorem below_of_grown {w w' : World} (h : w.grownBy w' none) : Below w.heap.size w w' := ⟨h.os, h.tape, h.output, h.size, fun i hi => h.block i hi (by simp)⟩
theorem tagB_ok {c : UInt8} (h : tagB c = true) : okB c = true := by
  have := tagB_true h
  unfold okB
  simp
  omega
theorem brk_ok {b : Bool} {l : List UInt8} (h : l.all okB = true) : (brk b l).all okB = true := by
  cases b with
  | false => exact h
  | true =>
    simp only [brk, if_true, List.all_cons, List.all_append, h, List.all_nil]
    decide
theorem text_ok (x : Ex) (h : x.tagsOk) : x.text.all okB = true := by
  induction x with
  | tag t =>
    have h' : tagOkB t = true := h
    unfold tagOkB at h'
    rw [Bool.and_eq_true] at h'
    rw [List.all_eq_true] at h' ⊢
    exact fun c hc => tagB_ok (h'.1 c hc)
  | not x ih =>
    simp only [Ex.text, List.all_cons, brk_ok (ih h)]
    decide
  | and x y ihx ihy =>
    simp only [Ex.text, List.all_append, brk_ok (ihx h.1), brk_ok (ihy h.2)]
    decide
  | or x y ihx ihy =>
    simp only [Ex.text, List.all_append, brk_ok (ihx h.1), brk_ok (ihy h.2)]
    decide
theorem dropB_mkB (l : List UInt8) : dropB (mkB l) 0 = l := by
  unfold dropB
  rw [mkB_toList]
  rfl
theorem textOk_mkB (l : List UInt8) : textOk (mkB l) = l.all okB := by
  unfold textOk
  rw [mkB_toList]
/- what Read says of the text of an expression -/
theorem rdSpec_text {x : Ex} (hd : x.deep ≤ 8) (hb : x.dbl = false) (ht : x.tagsOk) {st : Int} {y : Ex} (h : RdSpec (mkB x.text) st y) : st = 1 ∧ SameEx y x := by
  obtain ⟨x', hs, hr⟩ := text_read (n := 8) (by omega) hb ht
  unfold RdSpec at h
  rw [dropB_mkB] at h
  rcases h with ⟨h1, n, hn⟩ | ⟨h1, hn⟩ | ⟨h1, hn⟩
  · have := orP_same hr hn
    injection this with h2 _
    subst h2
    exact ⟨h1, hs⟩
  · exact absurd hr (hn 8 x')
  · have := hn 8 (by rw [hr]; simp)
    omega

def StrPost (s : ByteArray) (w : World) (en : Ending) (w' : World) : Prop := en = .returned (.string s) ∧ Below w.heap.size w w'
set_option maxHeartbeats 400000 in
theorem implText_any (x : Ex) (c0 c1 c2 : Value) (w : World) (h : XIs (fun _ => True) w x c0 c1 c2) (hs : x.text.length ≤ 4611686018427387904) :
    Calls Tryd.prog 18 #[.agg #[c0, c1, c2]] w (StrPost (mkB x.text) w) := by
  obtain ⟨s, a, cap, rfl, rfl, rfl, -⟩ := h.form
  have HX := Lib.hid h
  clear h
  go_enter Tryd.func18, Tryd.ntmps18
  go_wp2_with fail
  have bwa : Below w.heap.size w (w.alloc (.cells #[.int .i64 x.kind, .string s, .slice a x.arity cap] 29)) := (Below.refl _ _).alloc (Nat.le_refl _) _
  refine (build_any x _ _ _ _ (HX.out.below bwa)).mono ?_
  rintro e1 w1 ⟨v1, rfl, hc1, hb1⟩
  obtain ⟨b1, rfl⟩ := hc1.form
  have HB := Lib.hid (bwa.trans (hb1.mono bwa.size))
  have HC := Lib.hid hc1
  clear hb1 hc1 bwa
  have me := fun w => method_str x ⟨b1, 0, none⟩ w
  have en := fun args w => enter_str x args w
  go_wp2_with fail
  refine (str_any x b1 _ HC.out hs).mono ?_
  rintro e2 w2 ⟨rfl, m, rfl⟩
  go_wp2_with fail
  go_ret
  exact ⟨rfl, below_drewN HB.out m⟩

end Go.Proofs.YteemenhinhkonaaDoor
