/- The walk of laws.FnGoVersion. -/
import Derived.Test.YteemenhinhkonaaDoorProg
import Derived.Test.YteemenhinhkonaaDoorGoVer
namespace Go.Proofs.YteemenhinhkonaaDoor
open Go.RowKit

theorem leaves_small {x : Ex} (hd : x.deep ≤ 8) : x.leaves ≤ 128 := by
  have h1 := (leaves_deep x).1
  have h2 : 2 ^ (x.deep - 1) ≤ 2 ^ 7 := Nat.pow_le_pow_right (by omega) (by omega)
  have h3 : (2 : Nat) ^ 7 = 128 := rfl
  omega
set_option maxHeartbeats 2000000 in
theorem fnGoVersion_any (n : Nat) (e : E) (c0 c1 c2 : Value) (w : World) (h : EIs (fun _ => True) w n e c0 c1 c2) : Calls Tryd.prog 6 #[.agg #[c0, c1, c2]] w (CallPost true w) := by
  obtain ⟨a, cap, rfl, rfl, rfl⟩ := h.form
  have HE := Lib.hid h
  clear h
  go_enter Tryd.func6, Tryd.ntmps6
  go_wp2_with fail
  obtain ⟨wa, hwa⟩ : ∃ wa, wa = w.alloc (.cells #[.int .i64 e.kind, .string e.tag, .slice a e.subs.length cap] 29) := ⟨_, rfl⟩
  rw [← hwa]
  have bwa : Below w.heap.size w wa := by rw [hwa]; exact (Below.refl _ _).alloc (Nat.le_refl _) _
  have swa : wa.heap.size = w.heap.size + 1 := by rw [hwa]; simp
  have d0 : wa.cell? ⟨w.heap.size, 0, none⟩ = some (.int .i64 e.kind) := by rw [hwa]; simp [go_sem]
  have d1 : wa.cell? ⟨w.heap.size, 1, none⟩ = some (.string e.tag) := by rw [hwa]; simp [go_sem]
  have d2 : wa.cell? ⟨w.heap.size, 2, none⟩ = some (.slice a e.subs.length cap) := by rw [hwa]; simp [go_sem]
  have BWA := Lib.hid bwa
  have kc : ∀ w', Below wa.heap.size wa w' → w'.cell? ⟨w.heap.size, 0, none⟩ = some (.int .i64 e.kind) ∧ w'.cell? ⟨w.heap.size, 1, none⟩ = some (.string e.tag) ∧ w'.cell? ⟨w.heap.size, 2, none⟩ = some (.slice a e.subs.length cap) := fun w' hb =>
    ⟨(hb.cell (by simp; omega)).trans d0, (hb.cell (by simp; omega)).trans d1, (hb.cell (by simp; omega)).trans d2⟩
  have KC := Lib.hid kc
  have HEA := Lib.hid (HE.out.below bwa)
  clear hwa bwa swa kc HE
  refine (lawForm_any n e _ _ _ _ HEA.out).mono ?_
  rintro e1 w1 ⟨b, rfl, hb1, hform⟩
  cases b with
  | false =>
    have HB1 := Lib.hid hb1
    clear hb1 hform
    go_wp2_with fail
    go_ret
    exact ⟨rfl, BWA.out.trans (HB1.out.mono BWA.out.size)⟩
  | true =>
    obtain ⟨x, hx, hd, ho, h8⟩ := hform rfl
    have hlv := leaves_small hd
    have HX := Lib.hid hx
    have HB1 := Lib.hid hb1
    clear d0 d1 d2
    obtain ⟨q0, q1, q2⟩ := KC.out w1 hb1
    clear hb1 hform hx ho
    go_wp2_with fail
    refine (specExpr_any n e _ _ _ _ (HEA.out.below HB1.out)).mono ?_
    rintro e2 w2 ⟨c2', rfl, hx2, hb2⟩
    obtain ⟨a2, cap2, -, -, rfl⟩ := hx2.form
    have HX2 := Lib.hid (XIs_of HX.out (hx2.widen (S' := fun _ => True) fun _ _ _ => trivial))
    have HB2 := Lib.hid (HB1.out.trans (hb2.mono HB1.out.size))
    clear hx2 hb2 q0 q1 q2
    go_wp2_with fail
    refine (plainly_any x _ _ _ _ HX2.out (by omega) HX2.out.tagSizes).mono ?_
    rintro e3 w3 ⟨pb, rfl, hb3, hpl⟩
    have HB3 := Lib.hid (HB2.out.trans (hb3.mono HB2.out.size))
    clear hb3
    cases pb with
    | false =>
      clear hpl
      go_wp2_with fail
      go_ret
      exact ⟨rfl, BWA.out.trans (HB3.out.mono BWA.out.size)⟩
    | true =>
      have HPL := Lib.hid (hpl rfl)
      clear hpl
      obtain ⟨q0, q1, q2⟩ := KC.out w3 HB3.out
      go_wp2_with fail
      refine (specExpr_any n e _ _ _ _ (HEA.out.below HB3.out)).mono ?_
      rintro e4 w4 ⟨c4', rfl, hx4, hb4⟩
      obtain ⟨a4, cap4, -, -, rfl⟩ := hx4.form
      have HX4 := Lib.hid (XIs_of HX.out (hx4.widen (S' := fun _ => True) fun _ _ _ => trivial))
      have HB4 := Lib.hid (HB3.out.trans (hb4.mono HB3.out.size))
      clear hx4 hb4 q0 q1 q2
      go_wp2_with fail
      have hr := least_range x true HPL.out
      obtain ⟨m, hm⟩ : ∃ m, m = x.least true := ⟨_, rfl⟩
      rw [← hm] at hr
      have HM := Lib.hid hm
      clear hm
      refine (least_any x _ _ _ true _ HX4.out).mono ?_
      rw [← HM.out]
      rintro e5 w5 ⟨rfl, hb5⟩
      have HB5 := Lib.hid (HB4.out.trans (hb5.mono HB4.out.size))
      clear hb5
      rcases hr with hr | ⟨hr1, hr2⟩
      · subst hr
        obtain ⟨q0, q1, q2⟩ := KC.out w5 HB5.out
        go_wp2_with fail
        refine (implGoVer_any x _ _ _ _ (XIs_of HX.out (HEA.out.below HB5.out)) HPL.out).mono ?_
        rw [← HM.out]
        rintro e6 w6 ⟨rfl, hb6⟩
        have HB6 := Lib.hid (HB5.out.trans (hb6.mono HB5.out.size))
        clear hb6
        rw [show mkB (verText (-1)) = { data := #[] } from rfl]
        go_wp2_with fail
        go_ret
        exact ⟨rfl, BWA.out.trans (HB6.out.mono BWA.out.size)⟩
      · go_wp2_with fail
        refine (number_any m _ hr1 hr2).mono ?_
        rintro e6 w6 ⟨rfl, hb6⟩
        have HB6 := Lib.hid (HB5.out.trans (hb6.mono HB5.out.size))
        obtain ⟨q0, q1, q2⟩ := KC.out w6 HB6.out
        have hsz := digits_small m.toNat (by omega)
        have s1 := run_string_add_sum (P := Tryd.prog) w6 { data := #[103, 111, 49, 46] } (mkB (Lib.decDigits m.toNat)) (by
          have e1 : (ByteArray.mk #[103, 111, 49, 46]).size = 4 := rfl
          rw [e1, mkB_size]; omega)
        have e7 : ByteArray.mk #[103, 111, 49, 46] ++ mkB (Lib.decDigits m.toNat) = mkB (verText m) := by rw [verText_pos (by omega), ← mkB_append]; rfl
        rw [e7] at s1
        clear hb6 e7 hsz
        go_wp2_with fail
        refine (implGoVer_any x _ _ _ _ (XIs_of HX.out (HEA.out.below HB6.out)) HPL.out).mono ?_
        rw [← HM.out]
        rintro e7 w7 ⟨rfl, hb7⟩
        have HB7 := Lib.hid (HB6.out.trans (hb7.mono HB6.out.size))
        clear hb7 s1
        go_wp2_with fail
        go_ret
        exact ⟨ret_bool (by simp), BWA.out.trans (HB7.out.mono BWA.out.size)⟩
end Go.Proofs.YteemenhinhkonaaDoor
