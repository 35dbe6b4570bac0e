/- The walk of laws.FnBuildText: whatever expression the argument reads as, the call returns true and leaves all memory that was there. -/
import Derived.Test.YteemenhinhkonaaProg
import Derived.Test.YteemenhinhkonaaStr
import Derived.Test.YteemenhinhkonaaRead
import Derived.Test.YteemenhinhkonaaAlike
import Derived.Test.YteemenhinhkonaaDouble
namespace Go.Proofs.Yteemenhinhkonaa
open Go.RowKit

theorem below_of_grown {w w' : World} (h : w.grownBy w' none) : Below w.heap.size w w' := ⟨h.os, h.tape, h.output, h.size, fun i hi => h.block i hi (by simp)⟩
theorem tagB_ok {c : UInt8} (h : tagB c = true) : okB c = true := by
  have := tagB_true h
  unfold okB
  simp
  omega
theorem brk_ok {b : Bool} {l : List UInt8} (h : l.all okB = true) : (brk b l).all okB = true := by
  cases b with
  | false => exact h
  | true =>
    simp only [brk, if_true, List.all_cons, List.all_append, h, List.all_nil]
    decide
theorem text_ok (x : Ex) (h : x.tagsOk) : x.text.all okB = true := by
  induction x with
  | tag t =>
    have h' : tagOkB t = true := h
    unfold tagOkB at h'
    rw [Bool.and_eq_true] at h'
    rw [List.all_eq_true] at h' ⊢
    exact fun c hc => tagB_ok (h'.1 c hc)
  | not x ih =>
    simp only [Ex.text, List.all_cons, brk_ok (ih h)]
    decide
  | and x y ihx ihy =>
    simp only [Ex.text, List.all_append, brk_ok (ihx h.1), brk_ok (ihy h.2)]
    decide
  | or x y ihx ihy =>
    simp only [Ex.text, List.all_append, brk_ok (ihx h.1), brk_ok (ihy h.2)]
    decide
theorem dropB_mkB (l : List UInt8) : dropB (mkB l) 0 = l := by
  unfold dropB
  rw [mkB_toList]
  rfl
theorem textOk_mkB (l : List UInt8) : textOk (mkB l) = l.all okB := by
  unfold textOk
  rw [mkB_toList]
/- what Read says of the text of an expression -/
theorem rdSpec_text {x : Ex} (hd : x.deep ≤ 8) (hb : x.dbl = false) (ht : x.tagsOk) {st : Int} {y : Ex} (h : RdSpec (mkB x.text) st y) : st = 1 ∧ SameEx y x := by
  obtain ⟨x', hs, hr⟩ := text_read (n := 8) (by omega) hb ht
  unfold RdSpec at h
  rw [dropB_mkB] at h
  rcases h with ⟨h1, n, hn⟩ | ⟨h1, hn⟩ | ⟨h1, hn⟩
  · have := orP_same hr hn
    injection this with h2 _
    subst h2
    exact ⟨h1, hs⟩
  · exact absurd hr (hn 8 x')
  · have := hn 8 (by rw [hr]; simp)
    omega

def StrPost (s : ByteArray) (w : World) (en : Ending) (w' : World) : Prop := en = .returned (.string s) ∧ Below w.heap.size w w'
set_option maxHeartbeats 400000 in
theorem implText_any (x : Ex) (c0 c1 c2 : Value) (w : World) (h : XIs (fun _ => True) w x c0 c1 c2) (hs : x.text.length ≤ 4611686018427387904) :
    Calls Try.prog 13 #[.agg #[c0, c1, c2]] w (StrPost (mkB x.text) w) := by
  obtain ⟨s, a, cap, rfl, rfl, rfl, -⟩ := h.form
  have HX := Lib.hid h
  clear h
  go_enter Try.func13, Try.ntmps13
  go_wp2_with fail
  have bwa : Below w.heap.size w (w.alloc (.cells #[.int .i64 x.kind, .string s, .slice a x.arity cap] 24)) := (Below.refl _ _).alloc (Nat.le_refl _) _
  refine (build_any x _ _ _ _ (HX.out.below bwa)).mono ?_
  rintro e1 w1 ⟨v1, rfl, hc1, hb1⟩
  obtain ⟨b1, rfl⟩ := hc1.form
  have HB := Lib.hid (bwa.trans (hb1.mono bwa.size))
  have HC := Lib.hid hc1
  clear hb1 hc1 bwa
  have me := fun w => method_str x ⟨b1, 0, none⟩ w
  have en := fun args w => enter_str x args w
  go_wp2_with fail
  refine (str_any x b1 _ HC.out hs).mono ?_
  rintro e2 w2 ⟨rfl, m, rfl⟩
  go_wp2_with fail
  go_ret
  exact ⟨rfl, below_drewN HB.out m⟩

set_option maxHeartbeats 2000000 in
set_option maxRecDepth 100000 in
theorem fnBuildText_any (n : Nat) (e : E) (c0 c1 c2 : Value) (w : World) (h : EIs (fun _ => True) w n e c0 c1 c2) : Calls Try.prog 5 #[.agg #[c0, c1, c2]] w (CallPost true w) := by
  obtain ⟨a, cap, rfl, rfl, rfl⟩ := h.form
  have HE := Lib.hid h
  clear h
  go_enter Try.func5, Try.ntmps5
  go_wp2_with fail
  obtain ⟨wa, hwa⟩ : ∃ wa, wa = w.alloc (.cells #[.int .i64 e.kind, .string e.tag, .slice a e.subs.length cap] 24) := ⟨_, rfl⟩
  rw [← hwa]
  have bwa : Below w.heap.size w wa := by rw [hwa]; exact (Below.refl _ _).alloc (Nat.le_refl _) _
  have swa : wa.heap.size = w.heap.size + 1 := by rw [hwa]; simp
  have d0 : wa.cell? ⟨w.heap.size, 0, none⟩ = some (.int .i64 e.kind) := by rw [hwa]; simp [go_sem]
  have d1 : wa.cell? ⟨w.heap.size, 1, none⟩ = some (.string e.tag) := by rw [hwa]; simp [go_sem]
  have d2 : wa.cell? ⟨w.heap.size, 2, none⟩ = some (.slice a e.subs.length cap) := by rw [hwa]; simp [go_sem]
  have BWA := Lib.hid bwa
  have kc : ∀ w', Below wa.heap.size wa w' → w'.cell? ⟨w.heap.size, 0, none⟩ = some (.int .i64 e.kind) ∧ w'.cell? ⟨w.heap.size, 1, none⟩ = some (.string e.tag) ∧ w'.cell? ⟨w.heap.size, 2, none⟩ = some (.slice a e.subs.length cap) := fun w' hb =>
    ⟨(hb.cell (by simp; omega)).trans d0, (hb.cell (by simp; omega)).trans d1, (hb.cell (by simp; omega)).trans d2⟩
  have KC := Lib.hid kc
  have HEA := Lib.hid (HE.out.below bwa)
  clear hwa bwa swa kc
  refine (lawForm_any n e _ _ _ _ HEA.out).mono ?_
  rintro e1 w1 ⟨b, rfl, hb1, hform⟩
  cases b with
  | false =>
    have HB1 := Lib.hid hb1
    clear hb1 hform
    go_wp2_with fail
    go_ret
    exact ⟨rfl, BWA.out.trans (HB1.out.mono BWA.out.size)⟩
  | true =>
    obtain ⟨x, hx, hd, ho, h8⟩ := hform rfl
    have HX := Lib.hid hx
    have HB1 := Lib.hid hb1
    obtain ⟨q0, q1, q2⟩ := KC.out w1 hb1
    have hlv : x.leaves ≤ 128 := by
      have h1 := (leaves_deep x).1
      have h2 : 2 ^ (x.deep - 1) ≤ 2 ^ 7 := Nat.pow_le_pow_right (by omega) (by omega)
      have h3 : (2 : Nat) ^ 7 = 128 := rfl
      omega
    have hlen : x.text.length ≤ 1152921504606846976 := by
      have h1 := text_len x _ (tagsLe_of hx HE.out)
      have h2 : 2 ^ x.deep ≤ 2 ^ 8 := Nat.pow_le_pow_right (by omega) hd
      have h3 : (2 : Nat) ^ 8 = 256 := rfl
      have h4 : x.leaves * (140737488355328 + 8) ≤ 128 * (140737488355328 + 8) := Nat.mul_le_mul_right _ hlv
      omega
    clear hb1 hform hx h8
    go_wp2_with fail
    refine (implText_any x _ _ _ _ (XIs_of HX.out (HEA.out.below HB1.out)) (by omega)).mono ?_
    rintro e2 w2 ⟨rfl, hb2⟩
    have HB2 := Lib.hid (HB1.out.trans (hb2.mono HB1.out.size))
    clear hb2 q0 q1 q2
    go_wp2_with fail
    refine (read_any _ _ (by rw [mkB_size]; omega)).mono ?_
    rintro e3 w3 ⟨hg3, hrd⟩
    have HB3 := Lib.hid (HB2.out.trans ((below_of_grown hg3).mono HB2.out.size))
    clear hg3
    rcases hrd with ⟨hbad, -⟩ | ⟨-, y, y0, y1, y2, st, rfl, hy, -, hsp⟩
    · rw [textOk_mkB, text_ok x ho] at hbad
      cases hbad
    obtain ⟨sy, ay, cy, rfl, rfl, rfl, -⟩ := hy.form
    have HY := Lib.hid hy.any
    have HSP := Lib.hid hsp
    clear hy hsp
    go_wp2_with fail
    obtain ⟨w4, hw4⟩ : ∃ w4, w4 = w3.alloc (.cells #[.int .i64 y.kind, .string sy, .slice ay y.arity cy] 32) := ⟨_, rfl⟩
    rw [← hw4]
    have b34 : Below w3.heap.size w3 w4 := by rw [hw4]; exact (Below.refl _ _).alloc (Nat.le_refl _) _
    have hc4 : w4.heap[w3.heap.size]? = some (.cells #[.int .i64 y.kind, .string sy, .slice ay y.arity cy] 32 (0, 0)) := by rw [hw4]; exact heap_new _ _ rfl
    have HB4 := Lib.hid (HB3.out.trans (b34.mono HB3.out.size))
    have HY4 := Lib.hid (HY.out.below b34)
    have kd : ∀ w', Below w4.heap.size w4 w' → w'.cell? ⟨w3.heap.size, 0, none⟩ = some (.int .i64 y.kind) ∧ w'.cell? ⟨w3.heap.size, 1, none⟩ = some (.string sy) ∧ w'.cell? ⟨w3.heap.size, 2, none⟩ = some (.slice ay y.arity cy) := fun w' hb =>
      ⟨(hb.cell (lt_of_heap hc4)).trans (cell_at hc4 _ rfl), (hb.cell (lt_of_heap hc4)).trans (cell_at hc4 _ rfl), (hb.cell (lt_of_heap hc4)).trans (cell_at hc4 _ rfl)⟩
    have KD := Lib.hid kd
    have hd4 : Below w4.heap.size w4 w4.drew := (Below.refl _ _).drew
    have HD4 := Lib.hid hd4
    obtain ⟨q0, q1, q2⟩ := KC.out w4 HB4.out
    obtain ⟨p0, p1, p2⟩ := KD.out w4 (Below.refl _ _)
    clear hw4 b34 hc4 kd hd4 HY
    have tok1 : True := trivial
    cases hdb : x.dbl
    · obtain ⟨rfl, hsame⟩ := rdSpec_text hd hdb ho HSP.out
      have HDB := Lib.hid hdb
      have HSA := Lib.hid hsame
      clear hdb hsame
      go_region_law (first | (go_simp; go_at_call 9; have _t := tok1; (with_reducible refine (specExpr_any n e _ _ _ _ (by exact HEA.out.below (HB4.out.trans (HD4.out.mono HB4.out.size)))).mono ?_); rintro e5 w5 ⟨c5, rfl, hx5, hb5⟩; obtain ⟨a5, cap5, -, -, rfl⟩ := hx5.form; have HX5 := Lib.hid (XIs_of HX.out (hx5.widen (S' := fun _ => True) fun _ _ _ => trivial)); have HB5 := Lib.hid (HD4.out.trans (hb5.mono HD4.out.size)); clear _t tok1 hx5 hb5) | (go_simp; go_at_call 15; (with_reducible refine (double_any x _ _ _ _ HX5.out).mono ?_); rw [HDB.out]; rintro e6 w6 ⟨rfl, hb6⟩; have HB6 := Lib.hid (HB5.out.trans (hb6.mono HB5.out.size)); obtain ⟨r0, r1, r2⟩ := KC.out w6 (HB4.out.trans (HB6.out.mono HB4.out.size)); obtain ⟨s0, s1, s2⟩ := KD.out w6 HB6.out; clear hb6 q0 q1 q2 p0 p1 p2) | (go_simp; go_at_call 9; (with_reducible refine (specExpr_any n e _ _ _ _ (by exact HEA.out.below (HB4.out.trans (HB6.out.mono HB4.out.size)))).mono ?_); rintro e7 w7 ⟨c7, rfl, hx7, hb7⟩; obtain ⟨a7, cap7, -, -, rfl⟩ := hx7.form; have HX7 := Lib.hid (XIs_of HX.out (hx7.widen (S' := fun _ => True) fun _ _ _ => trivial)); have HB7 := Lib.hid (HB6.out.trans (hb7.mono HB6.out.size)); obtain ⟨s0, s1, s2⟩ := KD.out w7 HB7.out; clear hx7 hb7) | (go_simp; go_at_call 16; (with_reducible refine (alike_any y x _ _ _ _ _ _ _ (by exact HY4.out.below HB7.out) (by exact HX7.out) (by have := HSA.out.leaves; omega) (by exact HSA.out.eval)).mono ?_); rintro e8 w8 ⟨rfl, hb8⟩; have HB8 := Lib.hid (HB7.out.trans (hb8.mono HB7.out.size)); clear hb8))
      all_goals go_wp2_with fail
      all_goals go_ret
      all_goals exact ⟨rfl, BWA.out.trans ((HB4.out.trans (HB8.out.mono HB4.out.size)).mono BWA.out.size)⟩
    · have HDB := Lib.hid hdb
      clear hdb
      have hu : undef = .tuple #[] := rfl
      first | ((go_region_law (first | (go_simp; go_at_call 9; have _t := tok1; (with_reducible refine (specExpr_any n e _ _ _ _ (by exact HEA.out.below (HB4.out.trans (HD4.out.mono HB4.out.size)))).mono ?_); rintro e5 w5 ⟨c5, rfl, hx5, hb5⟩; obtain ⟨a5, cap5, -, -, rfl⟩ := hx5.form; have HX5 := Lib.hid (XIs_of HX.out (hx5.widen (S' := fun _ => True) fun _ _ _ => trivial)); have HB5 := Lib.hid (HD4.out.trans (hb5.mono HD4.out.size)); clear _t tok1 hx5 hb5) | (go_simp; go_at_call 15; (with_reducible refine (double_any x _ _ _ _ HX5.out).mono ?_); rw [HDB.out]; rintro e6 w6 ⟨rfl, hb6⟩; have HB6 := Lib.hid (HB5.out.trans (hb6.mono HB5.out.size)); obtain ⟨r0, r1, r2⟩ := KC.out w6 (HB4.out.trans (HB6.out.mono HB4.out.size)); obtain ⟨s0, s1, s2⟩ := KD.out w6 HB6.out; clear hb6 q0 q1 q2 p0 p1 p2)))) | fail
      all_goals go_wp2_with fail
      all_goals go_ret
      all_goals exact ⟨rfl, BWA.out.trans ((HB4.out.trans (HB6.out.mono HB4.out.size)).mono BWA.out.size)⟩
end Go.Proofs.Yteemenhinhkonaa
