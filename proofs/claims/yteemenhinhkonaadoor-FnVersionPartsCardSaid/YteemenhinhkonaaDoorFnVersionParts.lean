/- The walk of laws.FnVersionParts. -/
import Derived.Test.YteemenhinhkonaaDoorProg
import Derived.Test.YteemenhinhkonaaDoorGoVer
import Derived.Test.YteemenhinhkonaaDoorFnGoVersion
import Derived.Test.YteemenhinhkonaaDoorBackEx
namespace Go.Proofs.YteemenhinhkonaaDoor
open Go.RowKit

theorem xis_pair {W : World} {B : Nat} {x y z : Ex} {kd : Int} {t : TypeId} {c0 c1 c2 d0 d1 d2 : Value} (hk : (z = .and x y ∧ kd = 3) ∨ (z = .or x y ∧ kd = 4)) (hc : W.heap[B]? = some (.cells #[c0, c1, c2, d0, d1, d2] t (0, 0))) (hx : XIs (fun _ => True) W x c0 c1 c2) (hy : XIs (fun _ => True) W y d0 d1 d2) : XIs (fun _ => True) W z (.int .i64 kd) (.string { data := #[] }) (.slice (some ⟨B, 0, none⟩) 2 2) := by
  rcases hk with ⟨rfl, rfl⟩ | ⟨rfl, rfl⟩
  · exact ⟨rfl, ⟨_, rfl, Nat.zero_le _⟩, B, 0, 2, c0, c1, c2, d0, d1, d2, rfl, trivial, cell_at hc _ rfl, cell_at hc _ rfl, cell_at hc _ rfl, cell_at hc _ rfl, cell_at hc _ rfl, cell_at hc _ rfl, hx, hy⟩
  · exact ⟨rfl, ⟨_, rfl, Nat.zero_le _⟩, B, 0, 2, c0, c1, c2, d0, d1, d2, rfl, trivial, cell_at hc _ rfl, cell_at hc _ rfl, cell_at hc _ rfl, cell_at hc _ rfl, cell_at hc _ rfl, cell_at hc _ rfl, hx, hy⟩
theorem vt_empty {n : Int} (h : n = -1 ∨ (1 ≤ n ∧ n ≤ 99)) : (mkB (verText n)).toList.isEmpty = decide (n < 0) := by
  rcases h with h | h
  · subst h; rw [ByteArray.toList_eq, mkB_toList]; rfl
  · rw [ByteArray.toList_eq, mkB_toList, verText_pos (by omega)]
    simp
    omega
set_option maxHeartbeats 8000000 in
set_option maxRecDepth 100000 in
theorem fnVersionParts_any (n m : Nat) (e : E) (c0 c1 c2 : Value) (f : E) (g0 g1 g2 : Value) (w : World) (h : EIs (fun _ => True) w n e c0 c1 c2) (h' : EIs (fun _ => True) w m f g0 g1 g2) : Calls Tryd.prog 7 #[.agg #[c0, c1, c2], .agg #[g0, g1, g2]] w (CallPost true w) := by
  obtain ⟨a, cap, rfl, rfl, rfl⟩ := h.form
  obtain ⟨a', cap', rfl, rfl, rfl⟩ := h'.form
  have HE := Lib.hid h
  have HF := Lib.hid h'
  clear h h'
  go_enter Tryd.func7, Tryd.ntmps7
  go_wp2_with fail
  obtain ⟨wa, hwa⟩ : ∃ wa, wa = (w.alloc (.cells #[.int .i64 e.kind, .string e.tag, .slice a e.subs.length cap] 29)).alloc (.cells #[.int .i64 f.kind, .string f.tag, .slice a' f.subs.length cap'] 29) := ⟨_, rfl⟩
  rw [← hwa]
  have bwa : Below w.heap.size w wa := by rw [hwa]; exact ((Below.refl _ _).alloc (Nat.le_refl _) _).alloc (by simp) _
  have hx : wa.heap[w.heap.size]? = some (.cells #[.int .i64 e.kind, .string e.tag, .slice a e.subs.length cap] 29 (0, 0)) := by
    rw [hwa, Below.heap_alloc _ _ _ (by simp)]
    exact heap_new _ _ rfl
  have hy : wa.heap[w.heap.size + 1]? = some (.cells #[.int .i64 f.kind, .string f.tag, .slice a' f.subs.length cap'] 29 (0, 0)) := by
    rw [hwa]
    have := heap_new (w.alloc (.cells #[.int .i64 e.kind, .string e.tag, .slice a e.subs.length cap] 29)) (.cells #[.int .i64 f.kind, .string f.tag, .slice a' f.subs.length cap'] 29) rfl
    simpa using this
  have BWA := Lib.hid bwa
  have kc : ∀ W', Below wa.heap.size wa W' → W'.cell? ⟨w.heap.size, 0, none⟩ = some (.int .i64 e.kind) ∧ W'.cell? ⟨w.heap.size, 1, none⟩ = some (.string e.tag) ∧ W'.cell? ⟨w.heap.size, 2, none⟩ = some (.slice a e.subs.length cap) ∧ W'.cell? ⟨w.heap.size + 1, 0, none⟩ = some (.int .i64 f.kind) ∧ W'.cell? ⟨w.heap.size + 1, 1, none⟩ = some (.string f.tag) ∧ W'.cell? ⟨w.heap.size + 1, 2, none⟩ = some (.slice a' f.subs.length cap') := fun W' hb =>
    ⟨(hb.cell (lt_of_heap hx)).trans (cell_at (o := 0) hx (.int .i64 e.kind) rfl), (hb.cell (lt_of_heap hx)).trans (cell_at (o := 1) hx (.string e.tag) rfl), (hb.cell (lt_of_heap hx)).trans (cell_at (o := 2) hx (.slice a e.subs.length cap) rfl), (hb.cell (lt_of_heap hy)).trans (cell_at (o := 0) hy (.int .i64 f.kind) rfl), (hb.cell (lt_of_heap hy)).trans (cell_at (o := 1) hy (.string f.tag) rfl), (hb.cell (lt_of_heap hy)).trans (cell_at (o := 2) hy (.slice a' f.subs.length cap') rfl)⟩
  have KC := Lib.hid kc
  have HEA := Lib.hid (HE.out.below bwa)
  have HFA := Lib.hid (HF.out.below bwa)
  clear hwa bwa kc HE HF hx hy
  obtain ⟨i0, i1, i2, i3, i4, i5⟩ := KC.out wa (Below.refl _ _)
  refine (lawForm_any n e _ _ _ _ HEA.out).mono ?_
  rintro e1 w1 ⟨b, rfl, hb1, hform⟩
  have HB1 := Lib.hid hb1
  clear hb1
  cases b with
  | false =>
    clear hform
    go_wp2_with fail
    go_ret
    exact ⟨rfl, BWA.out.trans (HB1.out.mono BWA.out.size)⟩
  | true =>
  obtain ⟨x, hx, hd, -, -⟩ := hform rfl
  have hlv := leaves_small hd
  have HX := Lib.hid hx
  clear hform hx hd i0 i1 i2 i3 i4 i5
  obtain ⟨i0, i1, i2, i3, i4, i5⟩ := KC.out w1 HB1.out
  go_wp2_with fail
  refine (lawForm_any m f _ _ _ _ (HFA.out.below HB1.out)).mono ?_
  rintro e2 w2 ⟨b, rfl, hb2, hform⟩
  have HB2 := Lib.hid (HB1.out.trans (hb2.mono HB1.out.size))
  clear hb2
  cases b with
  | false =>
    clear hform
    go_wp2_with fail
    go_ret
    exact ⟨rfl, BWA.out.trans (HB2.out.mono BWA.out.size)⟩
  | true =>
  obtain ⟨y, hy, hd, -, -⟩ := hform rfl
  have hlw := leaves_small hd
  have HY := Lib.hid hy
  clear hform hy hd i0 i1 i2 i3 i4 i5
  obtain ⟨i0, i1, i2, i3, i4, i5⟩ := KC.out w2 HB2.out
  go_wp2_with fail
  refine (specExpr_any n e _ _ _ _ (HEA.out.below HB2.out)).mono ?_
  rintro e3 w3 ⟨c3', rfl, hx3, hb3⟩
  obtain ⟨a3, cap3, -, -, rfl⟩ := hx3.form
  have HX3 := Lib.hid (XIs_of HX.out (hx3.widen (S' := fun _ => True) fun _ _ _ => trivial))
  have HB3 := Lib.hid (HB2.out.trans (hb3.mono HB2.out.size))
  clear hx3 hb3
  go_wp2_with fail
  refine (plainly_any x _ _ _ _ HX3.out (by omega) HX3.out.tagSizes).mono ?_
  rintro e4 w4 ⟨pb, rfl, hb4, hpl⟩
  have HB4 := Lib.hid (HB3.out.trans (hb4.mono HB3.out.size))
  clear hb4
  cases pb with
  | false =>
    clear hpl
    go_wp2_with fail
    go_ret
    exact ⟨rfl, BWA.out.trans (HB4.out.mono BWA.out.size)⟩
  | true =>
  have HPX := Lib.hid (hpl rfl)
  clear hpl i0 i1 i2 i3 i4 i5
  obtain ⟨i0, i1, i2, i3, i4, i5⟩ := KC.out w4 HB4.out
  go_wp2_with fail
  refine (specExpr_any m f _ _ _ _ (HFA.out.below HB4.out)).mono ?_
  rintro e5 w5 ⟨c5', rfl, hx5, hb5⟩
  obtain ⟨a5, cap5, -, -, rfl⟩ := hx5.form
  have HX5 := Lib.hid (XIs_of HY.out (hx5.widen (S' := fun _ => True) fun _ _ _ => trivial))
  have HB5 := Lib.hid (HB4.out.trans (hb5.mono HB4.out.size))
  clear hx5 hb5
  go_wp2_with fail
  refine (plainly_any y _ _ _ _ HX5.out (by omega) HX5.out.tagSizes).mono ?_
  rintro e6 w6 ⟨pb, rfl, hb6, hpl⟩
  have HB6 := Lib.hid (HB5.out.trans (hb6.mono HB5.out.size))
  clear hb6
  cases pb with
  | false =>
    clear hpl
    go_wp2_with fail
    go_ret
    exact ⟨rfl, BWA.out.trans (HB6.out.mono BWA.out.size)⟩
  | true =>
  have HPY := Lib.hid (hpl rfl)
  clear hpl i0 i1 i2 i3 i4 i5
  obtain ⟨i0, i1, i2, i3, i4, i5⟩ := KC.out w6 HB6.out
  have hrx := least_range x true HPX.out
  have hry := least_range y true HPY.out
  obtain ⟨A, hA⟩ : ∃ A, A = x.least true := ⟨_, rfl⟩
  obtain ⟨B, hB⟩ : ∃ B, B = y.least true := ⟨_, rfl⟩
  rw [← hA] at hrx
  rw [← hB] at hry
  have hvx := vt_empty hrx
  have hvy := vt_empty hry
  obtain ⟨TX, hTX⟩ : ∃ TX, TX = mkB (verText A) := ⟨_, rfl⟩
  obtain ⟨TY, hTY⟩ : ∃ TY, TY = mkB (verText B) := ⟨_, rfl⟩
  rw [← hTX] at hvx
  rw [← hTY] at hvy
  have HA := Lib.hid hA
  have HB := Lib.hid hB
  have HTX := Lib.hid hTX
  have HTY := Lib.hid hTY
  have KX : Hid (∀ W', Below wa.heap.size wa W' → XIs (fun _ => True) W' x (.int .i64 e.kind) (.string e.tag) (.slice a e.subs.length cap)) := Lib.hid fun W' hb => XIs_of HX.out (HEA.out.below hb)
  have KY : Hid (∀ W', Below wa.heap.size wa W' → XIs (fun _ => True) W' y (.int .i64 f.kind) (.string f.tag) (.slice a' f.subs.length cap')) := Lib.hid fun W' hb => XIs_of HY.out (HFA.out.below hb)
  have HD : Hid (Below wa.heap.size wa w6.drew) := Lib.hid HB6.out.drew
  have tok1 : True := trivial
  have HVX := Lib.hid hvx
  have HVY := Lib.hid hvy
  have HRX := Lib.hid hrx
  have HRY := Lib.hid hry
  clear hA hB hTX hTY hvx hvy hrx hry
  go_wp2_with fail
  go_region_law (first | (go_simp; go_at_call 36; have _t := tok1; (with_reducible refine (implGoVer_any x _ _ _ _ (by exact KX.out _ HD.out) HPX.out).mono ?_); rw [← HA.out]; unfold VTPost; rw [← HTX.out]; rintro e7 w7 ⟨rfl, hb7⟩; have HN7 := Lib.hid (HD.out.trans (hb7.mono HD.out.size)); clear i0 i1 i2 i3 i4 i5; obtain ⟨i0, i1, i2, i3, i4, i5⟩ := KC.out w7 HN7.out; clear hb7 _t tok1) | (go_simp; go_at_call 36; (with_reducible refine (implGoVer_any y _ _ _ _ (by exact KY.out _ HN7.out) HPY.out).mono ?_); rw [← HB.out]; unfold VTPost; rw [← HTY.out]; rintro e8 w8 ⟨rfl, hb8⟩; have HN8 := Lib.hid (HN7.out.trans (hb8.mono HN7.out.size)); clear i0 i1 i2 i3 i4 i5; obtain ⟨i0, i1, i2, i3, i4, i5⟩ := KC.out w8 HN8.out; clear hb8))
  all_goals
    have HD8 : Hid (Below wa.heap.size wa w8.drew) := Lib.hid HN8.out.drew
    have tok1 : True := trivial
    go_wp2_with fail
    go_region_law (first | (go_simp; go_at_call 17; have _t := tok1; (with_reducible refine (specX_any x _ _ _ _ (by exact KX.out _ HD8.out)).mono ?_); rintro e9 w9 ⟨z0, z1, z2, rfl, hz, hb9⟩; obtain ⟨s9, a9, cp9, rfl, rfl, rfl, -⟩ := hz.form; have HZ9 := Lib.hid hz.any; have HN9 := Lib.hid (HD8.out.trans (hb9.mono HD8.out.size)); clear i0 i1 i2 i3 i4 i5; obtain ⟨i0, i1, i2, i3, i4, i5⟩ := KC.out w9 HN9.out; clear hz hb9 _t tok1; have tok2 : True := trivial) | (go_simp; go_at_call 34; have _t := tok2; (with_reducible refine (least_any x _ _ _ true _ (by exact HZ9.out)).mono ?_); rw [← HA.out]; rintro e10 w10 ⟨rfl, hb10⟩; have HN10 := Lib.hid (HN9.out.trans (hb10.mono HN9.out.size)); clear i0 i1 i2 i3 i4 i5; obtain ⟨i0, i1, i2, i3, i4, i5⟩ := KC.out w10 HN10.out; clear hb10 _t tok2; have tok3 : True := trivial) | (go_simp; go_at_call 17; have _t := tok3; (with_reducible refine (specX_any y _ _ _ _ (by exact KY.out _ HN10.out)).mono ?_); rintro e11 w11 ⟨z0, z1, z2, rfl, hz, hb11⟩; obtain ⟨s11, a11, cp11, rfl, rfl, rfl, -⟩ := hz.form; have HZ11 := Lib.hid hz.any; have HN11 := Lib.hid (HN10.out.trans (hb11.mono HN10.out.size)); clear i0 i1 i2 i3 i4 i5; obtain ⟨i0, i1, i2, i3, i4, i5⟩ := KC.out w11 HN11.out; clear hz hb11 _t tok3; have tok4 : True := trivial) | (go_simp; go_at_call 34; have _t := tok4; (with_reducible refine (least_any y _ _ _ true _ (by exact HZ11.out)).mono ?_); rw [← HB.out]; rintro e12 w12 ⟨rfl, hb12⟩; have HN12 := Lib.hid (HN11.out.trans (hb12.mono HN11.out.size)); clear i0 i1 i2 i3 i4 i5; obtain ⟨i0, i1, i2, i3, i4, i5⟩ := KC.out w12 HN12.out; clear hb12 _t tok4))
    all_goals
      have hvx := HVX.out
      have hvy := HVY.out
      have HX13 : Hid (XIs (fun _ => True) (w12.alloc (.cells #[.int .i64 e.kind, .string e.tag, .slice a e.subs.length cap, .int .i64 f.kind, .string f.tag, .slice a' f.subs.length cap'] 29)) (.and x y) (.int .i64 3) (.string { data := #[] }) (.slice (some ⟨w12.heap.size, 0, none⟩) 2 2)) := Lib.hid (xis_pair (.inl ⟨rfl, rfl⟩) (heap_new w12 _ rfl) (KX.out _ (HN12.out.alloc HN12.out.size _)) (KY.out _ (HN12.out.alloc HN12.out.size _)))
      have HPA : Hid (Ex.and x y).plain := Lib.hid ⟨HPX.out, HPY.out⟩
      have HPO : Hid (Ex.or x y).plain := Lib.hid ⟨HPX.out, HPY.out⟩
      have HWA : Hid (Below wa.heap.size wa (w12.alloc (.cells #[.int .i64 e.kind, .string e.tag, .slice a e.subs.length cap, .int .i64 f.kind, .string f.tag, .slice a' f.subs.length cap'] 29))) := Lib.hid (HN12.out.alloc HN12.out.size _)
      have HAN : Hid ((Ex.and x y).least true = max A B) := Lib.hid (by rw [HA.out, HB.out]; rfl)
      have HOR : Hid ((Ex.or x y).least true = min A B) := Lib.hid (by rw [HA.out, HB.out]; rfl)
      by_cases hAB : A < B
      · have HAN2 : Hid (mkB (verText ((Ex.and x y).least true)) = TY) := Lib.hid (by rw [HAN.out, show max A B = B by omega, HTY.out])
        have HOR2 : Hid (mkB (verText ((Ex.or x y).least true)) = TX) := Lib.hid (by rw [HOR.out, show min A B = A by omega, HTX.out])
        go_wp2_with fail
        refine (implGoVer_any (.and x y) _ _ _ _ HX13.out HPA.out).mono ?_
        unfold VTPost
        rw [HAN2.out]
        rintro e13 w13 ⟨rfl, hb13⟩
        have HN13 := Lib.hid (HWA.out.trans (hb13.mono HWA.out.size))
        clear hb13 i0 i1 i2 i3 i4 i5
        obtain ⟨i0, i1, i2, i3, i4, i5⟩ := KC.out w13 HN13.out
        go_wp2_with fail
        refine (implGoVer_any (.or x y) _ _ _ _ (xis_pair (.inr ⟨rfl, rfl⟩) (heap_new w13 _ rfl) (KX.out _ (HN13.out.alloc HN13.out.size _)) (KY.out _ (HN13.out.alloc HN13.out.size _))) HPO.out).mono ?_
        unfold VTPost
        rw [HOR2.out]
        rintro e14 w14 ⟨rfl, hb14⟩
        have HN14 := Lib.hid ((HN13.out.alloc HN13.out.size _).trans (hb14.mono (HN13.out.alloc HN13.out.size _).size))
        clear hb14
        go_wp2_with fail
        go_ret
        exact ⟨ret_bool (by simp), BWA.out.trans (HN14.out.mono BWA.out.size)⟩
      · have HAN2 : Hid (mkB (verText ((Ex.and x y).least true)) = TX) := Lib.hid (by rw [HAN.out, show max A B = A by omega, HTX.out])
        have HOR2 : Hid (mkB (verText ((Ex.or x y).least true)) = TY) := Lib.hid (by rw [HOR.out, show min A B = B by omega, HTY.out])
        go_wp2_with fail
        refine (implGoVer_any (.and x y) _ _ _ _ HX13.out HPA.out).mono ?_
        unfold VTPost
        rw [HAN2.out]
        rintro e13 w13 ⟨rfl, hb13⟩
        have HN13 := Lib.hid (HWA.out.trans (hb13.mono HWA.out.size))
        clear hb13 i0 i1 i2 i3 i4 i5
        obtain ⟨i0, i1, i2, i3, i4, i5⟩ := KC.out w13 HN13.out
        go_wp2_with fail
        refine (implGoVer_any (.or x y) _ _ _ _ (xis_pair (.inr ⟨rfl, rfl⟩) (heap_new w13 _ rfl) (KX.out _ (HN13.out.alloc HN13.out.size _)) (KY.out _ (HN13.out.alloc HN13.out.size _))) HPO.out).mono ?_
        unfold VTPost
        rw [HOR2.out]
        rintro e14 w14 ⟨rfl, hb14⟩
        have HN14 := Lib.hid ((HN13.out.alloc HN13.out.size _).trans (hb14.mono (HN13.out.alloc HN13.out.size _).size))
        clear hb14
        go_wp2_with fail
        go_ret
        exact ⟨ret_bool (by simp), BWA.out.trans (HN14.out.mono BWA.out.size)⟩
end Go.Proofs.YteemenhinhkonaaDoor
