/- The contract of laws.form: it says yes only of an expression that is made as one, at most eight deep, of at most eight tags. -/
import Derived.Test.YteemenhinhkonaaDoorProg
import Derived.Test.YteemenhinhkonaaDoorSpecExpr
import Derived.Test.YteemenhinhkonaaDoorTags
namespace Go.Proofs.YteemenhinhkonaaDoor
open Go.RowKit

def FormPost (e : E) (w : World) (en : Ending) (w' : World) : Prop :=
  ∃ b, en = .returned (.bool b) ∧ Below w.heap.size w w' ∧ (b = true → ∃ x, isEx x e ∧ x.deep ≤ 8 ∧ x.tagsOk ∧ x.tags.length ≤ 8)

set_option maxHeartbeats 1000000 in
theorem lawForm_any (n : Nat) (e : E) (c0 c1 c2 : Value) (w : World) (h : EIs (fun _ => True) w n e c0 c1 c2) : Calls Tryd.prog 27 #[.agg #[c0, c1, c2]] w (FormPost e w) := by
  obtain ⟨a, cap, rfl, rfl, rfl⟩ := h.form
  have HE := Lib.hid h
  clear h
  go_enter Tryd.func27, Tryd.ntmps27
  go_wp2_with fail
  obtain ⟨wa, hwa⟩ : ∃ wa, wa = w.alloc (.cells #[.int .i64 e.kind, .string e.tag, .slice a e.subs.length cap] 29) := ⟨_, rfl⟩
  rw [← hwa]
  have bwa : Below w.heap.size w wa := by rw [hwa]; exact (Below.refl _ _).alloc (Nat.le_refl _) _
  have swa : wa.heap.size = w.heap.size + 1 := by rw [hwa]; simp
  have d0 : wa.cell? ⟨w.heap.size, 0, none⟩ = some (.int .i64 e.kind) := by rw [hwa]; simp [go_sem]
  have d1 : wa.cell? ⟨w.heap.size, 1, none⟩ = some (.string e.tag) := by rw [hwa]; simp [go_sem]
  have d2 : wa.cell? ⟨w.heap.size, 2, none⟩ = some (.slice a e.subs.length cap) := by rw [hwa]; simp [go_sem]
  have BWA := Lib.hid bwa
  have SWA := Lib.hid swa
  clear hwa bwa swa
  refine (specExpr_any n e _ _ _ _ (HE.out.below BWA.out)).mono ?_
  rintro e1 w1 ⟨c2', rfl, hx1, hb1⟩
  obtain ⟨a2, cap2, -, -, rfl⟩ := hx1.form
  have HX1 := Lib.hid (hx1.widen (S' := fun _ => True) fun _ _ _ => trivial)
  have HB1 := Lib.hid hb1
  clear hx1 hb1
  go_wp2_with fail
  refine (form_any 9 n e _ _ _ 8 _ HX1.out (by omega) (by omega) (by omega)).mono ?_
  cases hf : formB ((8 : Int)).toNat e with
  | false =>
    rintro e2 w2 ⟨rfl, hb2⟩
    have HB2 := Lib.hid hb2
    clear hb2 hf
    go_wp2_with fail
    go_ret
    exact ⟨false, rfl, BWA.out.trans ((HB1.out.mono BWA.out.size).trans (HB2.out.mono (Nat.le_trans BWA.out.size HB1.out.size))), fun h => by cases h⟩
  | true =>
    rintro e2 w2 ⟨rfl, hb2⟩
    obtain ⟨x, hx, hd, ho⟩ := exists_ex 8 e hf
    have hlv : x.leaves ≤ 128 := by
      have h1 := (leaves_deep x).1
      have h2 : 2 ^ (x.deep - 1) ≤ 2 ^ 7 := Nat.pow_le_pow_right (by omega) (by omega)
      have h3 : (2 : Nat) ^ 7 = 128 := rfl
      omega
    have hs1 := HB1.out.size
    have q0 : w2.cell? ⟨w.heap.size, 0, none⟩ = some (.int .i64 e.kind) := (hb2.cell (by have := SWA.out; simp; omega)).trans ((HB1.out.cell (by have := SWA.out; simp; omega)).trans d0)
    have q1 : w2.cell? ⟨w.heap.size, 1, none⟩ = some (.string e.tag) := (hb2.cell (by have := SWA.out; simp; omega)).trans ((HB1.out.cell (by have := SWA.out; simp; omega)).trans d1)
    have q2 : w2.cell? ⟨w.heap.size, 2, none⟩ = some (.slice a e.subs.length cap) := (hb2.cell (by have := SWA.out; simp; omega)).trans ((HB1.out.cell (by have := SWA.out; simp; omega)).trans d2)
    have bw2 : Below w.heap.size w w2 := BWA.out.trans ((HB1.out.mono BWA.out.size).trans (hb2.mono (Nat.le_trans BWA.out.size hs1)))
    have BW2 := Lib.hid bw2
    have HX := Lib.hid hx
    clear hf hb2 bw2 hx hs1
    go_wp2_with fail
    refine (specExpr_any n e _ _ _ _ (HE.out.below BW2.out)).mono ?_
    rintro e3 w3 ⟨c3', rfl, hx3, hb3⟩
    obtain ⟨a3, cap3, -, -, rfl⟩ := hx3.form
    have HX3 := Lib.hid (XIs_of HX.out (hx3.widen (S' := fun _ => True) fun _ _ _ => trivial))
    have HB3 := Lib.hid hb3
    clear hx3 hb3
    go_wp2_with fail
    refine (tags_any x _ _ _ _ HX3.out (by omega)).mono ?_
    rintro e4 w4 ⟨vt, rfl, hss, -, hb4⟩
    obtain ⟨at_, ct, rfl, -⟩ : ∃ a cap, vt = .slice a x.tags.length cap ∧ True := by obtain ⟨a, cap, h1, _⟩ := hss; exact ⟨a, cap, h1, trivial⟩
    have bw4 : Below w.heap.size w w4 := BW2.out.trans ((HB3.out.mono BW2.out.size).trans (hb4.mono (Nat.le_trans BW2.out.size HB3.out.size)))
    have BW4 := Lib.hid bw4
    have htl := tags_length x
    clear hss hb4 bw4
    by_cases h8 : x.tags.length ≤ 8
    · have h8a : decide (x.tags.length ≤ 8) = true := by simpa using h8
      have h8b : decide ((x.tags.length : Int) ≤ 8) = true := by simp; omega
      go_wp2_with fail
      go_ret
      exact ⟨true, rfl, BW4.out, fun _ => ⟨x, HX.out, hd, ho, h8⟩⟩
    · have h8a : decide (x.tags.length ≤ 8) = false := by simpa using h8
      have h8b : decide ((x.tags.length : Int) ≤ 8) = false := by simp; omega
      go_wp2_with fail
      go_ret
      exact ⟨false, rfl, BW4.out, fun h => by cases h⟩
end Go.Proofs.YteemenhinhkonaaDoor
