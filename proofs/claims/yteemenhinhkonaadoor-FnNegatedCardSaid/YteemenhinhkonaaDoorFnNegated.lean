/- The walk of laws.FnNegated. -/
import Derived.Test.YteemenhinhkonaaDoorProg
import Derived.Test.YteemenhinhkonaaDoorBridge
import Derived.Test.YteemenhinhkonaaDoorBackEx
import Derived.Test.YteemenhinhkonaaDoorBackRd
import Derived.Test.YteemenhinhkonaaDoorAlike
import Derived.Test.YteemenhinhkonaaDoorRead
import Derived.Test.YteemenhinhkonaaDoorImplText
namespace Go.Proofs.YteemenhinhkonaaDoor
open Go.RowKit

theorem xis_not {W : World} {B : Nat} {x : Ex} {t : TypeId} {c0 c1 c2 : Value} (hc : W.heap[B]? = some (.cells #[c0, c1, c2] t (0, 0))) (hx : XIs (fun _ => True) W x c0 c1 c2) : XIs (fun _ => True) W (.not x) (.int .i64 2) (.string { data := #[] }) (.slice (some ⟨B, 0, none⟩) 1 1) :=
  ⟨rfl, ⟨_, rfl, Nat.zero_le _⟩, B, 0, 1, c0, c1, c2, rfl, trivial, cell_at hc _ rfl, cell_at hc _ rfl, cell_at hc _ rfl, hx⟩
set_option maxHeartbeats 2000000 in
set_option maxRecDepth 100000 in
theorem fnNegated_any (s : ByteArray) (w : World) (hs : s.size ≤ 1152921504606846976) (hT : Tabs w) : Calls Tryd.prog 9 #[.string s] w (CallPost true w) := by
  have HT := Lib.hid hT
  clear hT
  go_enter Tryd.func9, Tryd.ntmps9
  go_wp2_with fail
  refine (read_any s w hs).mono ?_
  rintro e1 w1 ⟨hg1, hrd⟩
  have hb1 := below_of_grown hg1
  have HB1 := Lib.hid hb1
  have HT1 := Lib.hid (HT.out.below hb1)
  clear hg1 hb1
  rcases hrd with ⟨-, rfl⟩ | ⟨hok, x, c0, c1, c2, st, rfl, hx, hlv, hsp⟩
  · go_wp2_with fail
    go_ret
    exact ⟨rfl, HB1.out.alloc HB1.out.size _⟩
  obtain ⟨sx, ax, cx, rfl, rfl, rfl, -⟩ := hx.form
  have HX := Lib.hid hx.any
  have HSP := Lib.hid hsp
  have HOK := Lib.hid hok
  have HLV := Lib.hid hlv
  clear hx hsp hok hlv
  by_cases hst : st = 1
  · subst hst
    by_cases hlen : s.size ≤ 500
    · go_wp2_with fail
      obtain ⟨wa, hwa⟩ : ∃ wa, wa = w1.alloc (.cells #[.int .i64 x.kind, .string sx, .slice ax x.arity cx] 24) := ⟨_, rfl⟩
      rw [← hwa]
      have hba : Below w1.heap.size w1 wa := by rw [hwa]; exact (Below.refl _ _).alloc (Nat.le_refl _) _
      have hca : wa.heap[w1.heap.size]? = some (.cells #[.int .i64 x.kind, .string sx, .slice ax x.arity cx] 24 (0, 0)) := by rw [hwa]; exact heap_new _ _ rfl
      have HBA := Lib.hid (HB1.out.trans (hba.mono HB1.out.size))
      have HXA := Lib.hid (HX.out.below hba)
      have HTA := Lib.hid (HT1.out.below hba)
      have HCA := Lib.hid hca
      clear hwa hba hca
      refine (tags_any x _ _ _ wa HXA.out (by have := HLV.out; omega)).mono ?_
      rintro e2 w2 ⟨v, rfl, hss, -, hb2⟩
      obtain ⟨av, cv, rfl, hvl, -⟩ : ∃ a cap, v = .slice a x.tags.length cap ∧ x.tags.length ≤ 140737488355328 ∧ True := by obtain ⟨a, cap, h1, h2, _⟩ := hss; exact ⟨a, cap, h1, h2, trivial⟩
      have HB2 := Lib.hid (HBA.out.trans (hb2.mono HBA.out.size))
      have HX2 := Lib.hid (HXA.out.below hb2)
      have HT2 := Lib.hid (HTA.out.below hb2)
      have HC2 := Lib.hid ((hb2.block _ (lt_of_heap HCA.out)).trans HCA.out)
      clear hss hb2
      by_cases h8 : x.tags.length ≤ 8
      · obtain ⟨n, hrd⟩ : ∃ n, Rd n s.data.toList x := by
          rcases HSP.out with ⟨_, n, h⟩ | ⟨h, _⟩ | ⟨h, _⟩
          · exact ⟨n, h⟩
          · omega
          · omega
        have HRD := Lib.hid hrd
        have e1 : (ByteArray.mk #[47, 47, 103, 111, 58, 98, 117, 105, 108, 100, 32, 33, 40]).size = 13 := rfl
        have e2 : (ByteArray.mk #[41]).size = 1 := rfl
        have s1 := fun w => run_string_add_sum (P := Tryd.prog) w { data := #[47, 47, 103, 111, 58, 98, 117, 105, 108, 100, 32, 33, 40] } s (by rw [e1]; omega)
        have s2 := fun w => run_string_add_sum (P := Tryd.prog) w ({ data := #[47, 47, 103, 111, 58, 98, 117, 105, 108, 100, 32, 33, 40] } ++ s) { data := #[41] } (by rw [ByteArray.size_append, e1, e2]; omega)
        clear hrd e1 e2
        go_wp2_with fail
        refine (parse_is (l := 33 :: 40 :: (s.data.toList ++ [41])) _ w2 (by simp [goWord, ByteArray.data_append]) (by have := textOk_plain HOK.out; simp only [List.all_cons, List.all_append, this]; rfl) HRD.out.neg (by simp; omega) HT2.out).mono ?_
        rintro e3 w3 ⟨d0, d1, d2, rfl, hy, hb3⟩
        obtain ⟨sy, ay, cy, rfl, rfl, rfl, -⟩ := hy.form
        have HB3 := Lib.hid (HB2.out.trans (hb3.mono HB2.out.size))
        have HX3 := Lib.hid (HX2.out.below hb3)
        have HY := Lib.hid hy.any
        have HC3 := Lib.hid ((hb3.block _ (lt_of_heap HC2.out)).trans HC2.out)
        clear hy hb3 s1 s2
        go_wp2_with fail
        obtain ⟨w4, hw4⟩ : ∃ w4, w4 = w3.alloc (.cells #[.int .i64 (Ex.not x).kind, .string sy, .slice ay (Ex.not x).arity cy] 29) := ⟨_, rfl⟩
        rw [← hw4]
        have b34 : Below w3.heap.size w3 w4 := by rw [hw4]; exact (Below.refl _ _).alloc (Nat.le_refl _) _
        have hc4 : w4.heap[w3.heap.size]? = some (.cells #[.int .i64 (Ex.not x).kind, .string sy, .slice ay (Ex.not x).arity cy] 29 (0, 0)) := by rw [hw4]; exact heap_new _ _ rfl
        have hc1 := (b34.block _ (lt_of_heap HC3.out)).trans HC3.out
        have HB4 := Lib.hid (HB3.out.trans (b34.mono HB3.out.size))
        have KY : Hid (∀ W', Below w4.heap.size w4 W' → XIs (fun _ => True) W' (.not x) (.int .i64 (Ex.not x).kind) (.string sy) (.slice ay (Ex.not x).arity cy)) := Lib.hid fun W' hb => (HY.out.below b34).below hb
        have KX : Hid (∀ W', Below w4.heap.size w4 W' → XIs (fun _ => True) W' x (.int .i64 x.kind) (.string sx) (.slice ax x.arity cx)) := Lib.hid fun W' hb => (HX3.out.below b34).below hb
        have KC : Hid (∀ W', Below w4.heap.size w4 W' → W'.heap[w1.heap.size]? = some (.cells #[.int .i64 x.kind, .string sx, .slice ax x.arity cx] 24 (0, 0))) := Lib.hid fun W' hb => (hb.block _ (lt_of_heap hc1)).trans hc1
        have hd4 : Below w4.heap.size w4 w4.drew := (Below.refl _ _).drew
        have HD4 := Lib.hid hd4
        have HO : Hid (∀ o, Below w4.heap.size w4 (w4.alloc o).drew) := Lib.hid fun o => ((Below.refl _ _).alloc (Nat.le_refl _) o).drew
        have p0 := cell_at (o := 0) hc4 (.int .i64 (Ex.not x).kind) rfl
        have p1 := cell_at (o := 1) hc4 (.string sy) rfl
        have p2 := cell_at (o := 2) hc4 (.slice ay (Ex.not x).arity cy) rfl
        have q0 := cell_at (o := 0) hc1 (.int .i64 x.kind) rfl
        have q1 := cell_at (o := 1) hc1 (.string sx) rfl
        have q2 := cell_at (o := 2) hc1 (.slice ax x.arity cx) rfl
        have pd0 := cellsA p0
        have pd1 := cellsA p1
        have pd2 := cellsA p2
        clear hw4 b34 hc4 hc1 hd4
        go_region_law (first | (go_simp; go_at_call 17; (with_reducible refine (specX_any (.not x) _ _ _ _ (by first | exact KY.out _ HD4.out | exact KY.out _ (HO.out _))).mono ?_); rintro e5 w5 ⟨z0, z1, z2, rfl, hz5, hb5⟩; obtain ⟨s5, a5, cp5, rfl, rfl, rfl, -⟩ := hz5.form; have HZ5 := Lib.hid hz5.any; have HN5 := Lib.hid hb5; have hC5 := KC.out w5 (by first | exact HD4.out.trans hb5 | exact (HO.out _).trans (hb5.mono (HO.out _).size)); have r0 := cell_at (o := 0) hC5 (.int .i64 x.kind) rfl; have r1 := cell_at (o := 1) hC5 (.string sx) rfl; have r2 := cell_at (o := 2) hC5 (.slice ax x.arity cx) rfl; clear hz5 hb5 hC5) | (go_simp; go_at_call 19; have HL : Hid ((Ex.not x).leaves + (Ex.not x).leaves ≤ 1000000000) := Lib.hid (by have := HLV.out; simp only [Ex.leaves]; omega); first | (have hE : Below w4.heap.size w4 (w5.alloc (.cells #[.int .i64 x.kind, .string sx, .slice ax x.arity cx] 24)) := (HD4.out.trans HN5.out).alloc (HD4.out.trans HN5.out).size _; have hZ : XIs (fun _ => True) (w5.alloc (.cells #[.int .i64 x.kind, .string sx, .slice ax x.arity cx] 24)) (.not x) _ _ _ := HZ5.out.below ((Below.refl _ _).alloc (Nat.le_refl _) _); have hN : XIs (fun _ => True) (w5.alloc (.cells #[.int .i64 x.kind, .string sx, .slice ax x.arity cx] 24)) (.not x) _ _ _ := xis_not (heap_new w5 _ rfl) (KX.out _ hE); refine (alike_any (.not x) (.not x) _ _ _ _ _ _ _ hZ hN HL.out (fun _ => rfl)).mono ?_; rintro e6 w6 ⟨rfl, hb6⟩; have HB6 := Lib.hid (HB4.out.trans ((hE.trans (hb6.mono hE.size)).mono HB4.out.size)); clear hb6 hE hZ hN) | (have hE : Below w4.heap.size w4 w5 := (HO.out _).trans (HN5.out.mono (HO.out _).size); have hN : XIs (fun _ => True) w5 (.not x) _ _ _ := xis_not ((HN5.out.block _ (by show w4.heap.size < (w4.heap.push _).size; simp)).trans (heap_new w4 _ rfl)) (KX.out _ hE); refine (alike_any (.not x) (.not x) _ _ _ _ _ _ _ HZ5.out hN HL.out (fun _ => rfl)).mono ?_; rintro e6 w6 ⟨rfl, hb6⟩; have HB6 := Lib.hid (HB4.out.trans ((hE.trans (hb6.mono hE.size)).mono HB4.out.size)); clear hb6 hE hN)))
        all_goals go_wp2_with fail
        all_goals go_ret
        all_goals exact ⟨rfl, HB6.out⟩
      · go_wp2_with fail
        go_ret
        exact ⟨rfl, HB2.out⟩
    · go_wp2_with fail
      go_ret
      exact ⟨rfl, HB1.out.alloc HB1.out.size _⟩
  · go_wp2_with fail
    go_ret
    exact ⟨rfl, HB1.out.alloc HB1.out.size _⟩
end Go.Proofs.YteemenhinhkonaaDoor
