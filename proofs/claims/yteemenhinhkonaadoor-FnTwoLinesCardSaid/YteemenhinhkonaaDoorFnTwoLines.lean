/- The walk of laws.FnTwoLines. -/
import Derived.Test.YteemenhinhkonaaDoorProg
import Derived.Test.YteemenhinhkonaaDoorBridge
import Derived.Test.YteemenhinhkonaaDoorBackEx
import Derived.Test.YteemenhinhkonaaDoorBackRd
import Derived.Test.YteemenhinhkonaaDoorAlike
import Derived.Test.YteemenhinhkonaaDoorRead2
namespace Go.Proofs.YteemenhinhkonaaDoor
open Go.RowKit

theorem xis_two {W : World} {B : Nat} {x y z : Ex} {kd : Int} {t : TypeId} {c0 c1 c2 d0 d1 d2 : Value} (hk : (z = .and x y ∧ kd = 3) ∨ (z = .or x y ∧ kd = 4)) (hc : W.heap[B]? = some (.cells #[c0, c1, c2, d0, d1, d2] t (0, 0))) (hx : XIs (fun _ => True) W x c0 c1 c2) (hy : XIs (fun _ => True) W y d0 d1 d2) : XIs (fun _ => True) W z (.int .i64 kd) (.string { data := #[] }) (.slice (some ⟨B, 0, none⟩) 2 2) := by
  rcases hk with ⟨rfl, rfl⟩ | ⟨rfl, rfl⟩
  · exact ⟨rfl, ⟨_, rfl, Nat.zero_le _⟩, B, 0, 2, c0, c1, c2, d0, d1, d2, rfl, trivial, cell_at hc _ rfl, cell_at hc _ rfl, cell_at hc _ rfl, cell_at hc _ rfl, cell_at hc _ rfl, cell_at hc _ rfl, hx, hy⟩
  · exact ⟨rfl, ⟨_, rfl, Nat.zero_le _⟩, B, 0, 2, c0, c1, c2, d0, d1, d2, rfl, trivial, cell_at hc _ rfl, cell_at hc _ rfl, cell_at hc _ rfl, cell_at hc _ rfl, cell_at hc _ rfl, cell_at hc _ rfl, hx, hy⟩
set_option maxHeartbeats 40000000 in
set_option maxRecDepth 100000 in
theorem fnTwoLines_any (s r : ByteArray) (w : World) (hs : s.size ≤ 140737488355328) (hr : r.size ≤ 140737488355328) (hT : Tabs w) : Calls Tryd.prog 11 #[.string s, .string r] w (CallPost true w) := by
  have HT := Lib.hid hT
  clear hT
  go_enter Tryd.func11, Tryd.ntmps11
  go_wp2_with fail
  refine (read2 s w (by omega)).mono ?_
  rintro e1 w1 ⟨hb1, kx, tx, ax, nx, px, st, rfl, hx⟩
  have HB1 := Lib.hid hb1
  have HX := Lib.hid hx
  clear hb1 hx
  go_wp2_with fail
  obtain ⟨wa, hwa⟩ : ∃ wa, wa = w1.alloc (.cells #[.int .i64 kx, .string tx, .slice ax nx px] 24) := ⟨_, rfl⟩
  rw [← hwa]
  have hba : Below w1.heap.size w1 wa := by rw [hwa]; exact (Below.refl _ _).alloc (Nat.le_refl _) _
  have hca : wa.heap[w1.heap.size]? = some (.cells #[.int .i64 kx, .string tx, .slice ax nx px] 24 (0, 0)) := by rw [hwa]; exact heap_new _ _ rfl
  have HBA := Lib.hid (HB1.out.trans (hba.mono HB1.out.size))
  have HA := Lib.hid hba
  have HCA := Lib.hid hca
  clear hwa hba hca
  refine (read2 r wa (by omega)).mono ?_
  rintro e2 w2 ⟨hb2, ky, ty, ay, ny, py, st2, rfl, hy⟩
  have HB2 := Lib.hid (HBA.out.trans (hb2.mono HBA.out.size))
  have H12 := Lib.hid (HA.out.trans (hb2.mono HA.out.size))
  have hc2 := (hb2.block _ (lt_of_heap HCA.out)).trans HCA.out
  have HC2 := Lib.hid hc2
  have HY := Lib.hid hy
  have u0 := cell_at (o := 0) hc2 (.int .i64 kx) rfl
  have u1 := cell_at (o := 1) hc2 (.string tx) rfl
  have u2 := cell_at (o := 2) hc2 (.slice ax nx px) rfl
  have ua0 := cellsA u0
  have ua1 := cellsA u1
  have ua2 := cellsA u2
  clear hb2 hy hc2
  by_cases hst : st = 1
  · subst hst
    obtain ⟨x, n, rfl, rfl, hx, hlx, hrx, hpx⟩ := HX.out rfl
    have HXX := Lib.hid hx
    have HRX := Lib.hid hrx
    have HPX := Lib.hid hpx
    have HLX := Lib.hid hlx
    clear HX hx hrx hpx hlx
    by_cases hst2 : st2 = 1
    · subst hst2
      obtain ⟨y, m, rfl, rfl, hy, hly, hry, hpy⟩ := HY.out rfl
      have HYY := Lib.hid hy
      have HRY := Lib.hid hry
      have HPY := Lib.hid hpy
      have HLY := Lib.hid hly
      clear HY hy hry hpy hly
      by_cases hlen : s.size + r.size ≤ 500
      · go_wp2_with fail
        obtain ⟨w3, hw3⟩ : ∃ w3, w3 = ((w2.alloc (.cells #[.int .i64 y.kind, .string ty, .slice ay y.arity py] 24)).alloc (.cells #[.int .i64 x.kind, .string tx, .slice ax x.arity px, .int .i64 y.kind, .string ty, .slice ay y.arity py] 24)).alloc (.cells #[.int .i64 4, .string { data := #[] }, .slice (some ⟨w2.heap.size + 1, 0, none⟩) 2 2] 24) := ⟨_, rfl⟩
        rw [← hw3]
        have b23 : Below w2.heap.size w2 w3 := by rw [hw3]; exact (((Below.refl _ _).alloc (Nat.le_refl _) _).alloc (by simp) _).alloc (by simp; omega) _
        have hs3 : w3.heap.size = w2.heap.size + 3 := by rw [hw3]; simp
        have hcs : w3.heap[w2.heap.size + 1]? = some (.cells #[.int .i64 x.kind, .string tx, .slice ax x.arity px, .int .i64 y.kind, .string ty, .slice ay y.arity py] 24 (0, 0)) := by
          rw [hw3, Below.heap_alloc _ _ _ (by simp)]
          have := heap_new (w2.alloc (.cells #[.int .i64 y.kind, .string ty, .slice ay y.arity py] 24)) (.cells #[.int .i64 x.kind, .string tx, .slice ax x.arity px, .int .i64 y.kind, .string ty, .slice ay y.arity py] 24) rfl
          simpa using this
        have hcb : w3.heap[w2.heap.size + 1 + 1]? = some (.cells #[.int .i64 4, .string { data := #[] }, .slice (some ⟨w2.heap.size + 1, 0, none⟩) 2 2] 24 (0, 0)) := by
          rw [hw3]
          have := heap_new ((w2.alloc (.cells #[.int .i64 y.kind, .string ty, .slice ay y.arity py] 24)).alloc (.cells #[.int .i64 x.kind, .string tx, .slice ax x.arity px, .int .i64 y.kind, .string ty, .slice ay y.arity py] 24)) (.cells #[.int .i64 4, .string { data := #[] }, .slice (some ⟨w2.heap.size + 1, 0, none⟩) 2 2] 24) rfl
          simpa using this
        have HB3 := Lib.hid (HB2.out.trans (b23.mono HB2.out.size))
        have HX3 := Lib.hid ((HXX.out.below H12.out).below b23)
        have H23 := Lib.hid b23
        have HY3 := Lib.hid (HYY.out.below b23)
        have HT3 := Lib.hid (HT.out.below HB3.out)
        have HCS := Lib.hid hcs
        have HCB := Lib.hid hcb
        clear hw3 b23 hs3 hcs hcb u0 u1 u2 ua0 ua1 ua2
        have HLV : Hid ((Ex.or x y).leaves ≤ 502 ∧ (Ex.or x y).leaves = x.leaves + y.leaves) := Lib.hid ⟨by have := HLX.out; have := HLY.out; simp only [Ex.leaves]; omega, rfl⟩
        refine (tags_any (.or x y) _ _ _ w3 (xis_two (.inr ⟨rfl, rfl⟩) HCS.out HX3.out HY3.out) (by have := HLV.out.1; omega)).mono ?_
        rintro e4 w4 ⟨v, rfl, hss, -, hb4⟩
        obtain ⟨av, cv, rfl, hvl, -⟩ : ∃ a cap, v = .slice a (Ex.or x y).tags.length cap ∧ (Ex.or x y).tags.length ≤ 140737488355328 ∧ True := by obtain ⟨a, cap, h1, h2, _⟩ := hss; exact ⟨a, cap, h1, h2, trivial⟩
        have HB4 := Lib.hid (HB3.out.trans (hb4.mono HB3.out.size))
        have HX4 := Lib.hid (HX3.out.below hb4)
        have H24 := Lib.hid (H23.out.trans (hb4.mono H23.out.size))
        have HY4 := Lib.hid (HY3.out.below hb4)
        have HT4 := Lib.hid (HT3.out.below hb4)
        have HCS4 := Lib.hid ((hb4.block _ (lt_of_heap HCS.out)).trans HCS.out)
        have HCB4 := Lib.hid ((hb4.block _ (lt_of_heap HCB.out)).trans HCB.out)
        clear hss hb4
        by_cases h8 : (Ex.or x y).tags.length ≤ 8
        · have e1 : (ByteArray.mk #[47, 47, 103, 111, 58, 98, 117, 105, 108, 100, 32]).size = 11 := rfl
          have e2 : (ByteArray.mk #[124, 124]).size = 2 := rfl
          have e3 : (ByteArray.mk #[47, 47, 103, 111, 58, 98, 117, 105, 108, 100, 32, 40]).size = 12 := rfl
          have e4 : (ByteArray.mk #[41, 38, 38, 40]).size = 4 := rfl
          have e5 : (ByteArray.mk #[41]).size = 1 := rfl
          have s1 := fun w => run_string_add_sum (P := Tryd.prog) w { data := #[47, 47, 103, 111, 58, 98, 117, 105, 108, 100, 32] } s (by rw [e1]; omega)
          have s2 := fun w => run_string_add_sum (P := Tryd.prog) w ({ data := #[47, 47, 103, 111, 58, 98, 117, 105, 108, 100, 32] } ++ s) { data := #[124, 124] } (by rw [ByteArray.size_append, e1, e2]; omega)
          have s3 := fun w => run_string_add_sum (P := Tryd.prog) w ({ data := #[47, 47, 103, 111, 58, 98, 117, 105, 108, 100, 32] } ++ s ++ { data := #[124, 124] }) r (by rw [ByteArray.size_append, ByteArray.size_append, e1, e2]; omega)
          have s4 := fun w => run_string_add_sum (P := Tryd.prog) w { data := #[47, 47, 103, 111, 58, 98, 117, 105, 108, 100, 32, 40] } s (by rw [e3]; omega)
          have s5 := fun w => run_string_add_sum (P := Tryd.prog) w ({ data := #[47, 47, 103, 111, 58, 98, 117, 105, 108, 100, 32, 40] } ++ s) { data := #[41, 38, 38, 40] } (by rw [ByteArray.size_append, e3, e4]; omega)
          have s6 := fun w => run_string_add_sum (P := Tryd.prog) w ({ data := #[47, 47, 103, 111, 58, 98, 117, 105, 108, 100, 32, 40] } ++ s ++ { data := #[41, 38, 38, 40] }) r (by rw [ByteArray.size_append, ByteArray.size_append, e3, e4]; omega)
          have s7 := fun w => run_string_add_sum (P := Tryd.prog) w ({ data := #[47, 47, 103, 111, 58, 98, 117, 105, 108, 100, 32, 40] } ++ s ++ { data := #[41, 38, 38, 40] } ++ r) { data := #[41] } (by rw [ByteArray.size_append, ByteArray.size_append, ByteArray.size_append, e3, e4, e5]; omega)
          have hsl : s.data.toList.length = s.size := by simp
          have hrl : r.data.toList.length = r.size := by simp
          have HSL := Lib.hid hsl
          have HRL := Lib.hid hrl
          obtain ⟨z, hz, hze, hzl⟩ := (HRX.out.le (Nat.le_max_left n m)).two (HRY.out.le (Nat.le_max_right n m))
          have HRZ := Lib.hid hz
          have HZE : Hid (∀ f, z.eval f = (Ex.or x y).eval f) := Lib.hid hze
          have HZL := Lib.hid hzl
          have HRW := Lib.hid ((HRX.out.le (Nat.le_max_left n m)).and (HRY.out.le (Nat.le_max_right n m)))
          clear e1 e2 e3 e4 e5 hsl hrl hz hze hzl
          go_wp2_with fail
          refine (parse_is (l := s.data.toList ++ 124 :: 124 :: r.data.toList) _ w4 (by simp [goWord, ByteArray.data_append]) (by simp only [List.all_cons, List.all_append, HPX.out, HPY.out]; rfl) HRZ.out (by simp; omega) HT4.out).mono ?_
          rintro e5 w5 ⟨d0, d1, d2, rfl, hu, hb5⟩
          obtain ⟨su, au, cu, rfl, rfl, rfl, -⟩ := hu.form
          have HB5 := Lib.hid (HB4.out.trans (hb5.mono HB4.out.size))
          have HX5 := Lib.hid (HX4.out.below hb5)
          have H25 := Lib.hid (H24.out.trans (hb5.mono H24.out.size))
          have HY5 := Lib.hid (HY4.out.below hb5)
          have HU5 := Lib.hid hu.any
          have HT5 := Lib.hid (HT4.out.below hb5)
          have HCS5 := Lib.hid ((hb5.block _ (lt_of_heap HCS4.out)).trans HCS4.out)
          have HCB5 := Lib.hid ((hb5.block _ (lt_of_heap HCB4.out)).trans HCB4.out)
          clear hu hb5 s1 s2 s3
          go_wp2_with fail
          obtain ⟨w6, hw6⟩ : ∃ w6, w6 = w5.alloc (.cells #[.int .i64 z.kind, .string su, .slice au z.arity cu] 29) := ⟨_, rfl⟩
          rw [← hw6]
          have b56 : Below w5.heap.size w5 w6 := by rw [hw6]; exact (Below.refl _ _).alloc (Nat.le_refl _) _
          have hc6 : w6.heap[w5.heap.size]? = some (.cells #[.int .i64 z.kind, .string su, .slice au z.arity cu] 29 (0, 0)) := by rw [hw6]; exact heap_new _ _ rfl
          have HB6 := Lib.hid (HB5.out.trans (b56.mono HB5.out.size))
          have HX6 := Lib.hid (HX5.out.below b56)
          have H26 := Lib.hid (H25.out.trans (b56.mono H25.out.size))
          have HY6 := Lib.hid (HY5.out.below b56)
          have HU6 := Lib.hid (HU5.out.below b56)
          have HT6 := Lib.hid (HT5.out.below b56)
          have HCS6 := Lib.hid ((b56.block _ (lt_of_heap HCS5.out)).trans HCS5.out)
          have HCB6 := Lib.hid ((b56.block _ (lt_of_heap HCB5.out)).trans HCB5.out)
          have HCU6 := Lib.hid hc6
          clear hw6 b56 hc6
          refine (parse_is (l := 40 :: (s.data.toList ++ 41 :: 38 :: 38 :: 40 :: (r.data.toList ++ [41]))) _ w6 (by simp [goWord, ByteArray.data_append]) (by simp only [List.all_cons, List.all_append, HPX.out, HPY.out]; rfl) HRW.out (by simp; omega) HT6.out).mono ?_
          rintro e7 w7 ⟨d0, d1, d2, rfl, ha, hb7⟩
          obtain ⟨sa, aa, ca, rfl, rfl, rfl, -⟩ := ha.form
          have HB7 := Lib.hid (HB6.out.trans (hb7.mono HB6.out.size))
          have HX7 := Lib.hid (HX6.out.below hb7)
          have H27 := Lib.hid (H26.out.trans (hb7.mono H26.out.size))
          have HY7 := Lib.hid (HY6.out.below hb7)
          have HU7 := Lib.hid (HU6.out.below hb7)
          have HA7 := Lib.hid ha
          have HCS7 := Lib.hid ((hb7.block _ (lt_of_heap HCS6.out)).trans HCS6.out)
          have HCB7 := Lib.hid ((hb7.block _ (lt_of_heap HCB6.out)).trans HCB6.out)
          have HCU7 := Lib.hid ((hb7.block _ (lt_of_heap HCU6.out)).trans HCU6.out)
          have H67 := Lib.hid hb7
          clear ha hb7 s4 s5 s6 s7
          go_wp2_with fail
          obtain ⟨w8, hw8⟩ : ∃ w8, w8 = w7.alloc (.cells #[.int .i64 (Ex.and x y).kind, .string sa, .slice aa (Ex.and x y).arity ca] 29) := ⟨_, rfl⟩
          rw [← hw8]
          have b78 : Below w7.heap.size w7 w8 := by rw [hw8]; exact (Below.refl _ _).alloc (Nat.le_refl _) _
          have hc8 : w8.heap[w7.heap.size]? = some (.cells #[.int .i64 (Ex.and x y).kind, .string sa, .slice aa (Ex.and x y).arity ca] 29 (0, 0)) := by rw [hw8]; exact heap_new _ _ rfl
          have HB8 := Lib.hid (HB7.out.trans (b78.mono HB7.out.size))
          have H28 := Lib.hid (H27.out.trans (b78.mono H27.out.size))
          have H78 := Lib.hid b78
          have hq1 := (b78.block _ (lt_of_heap HCU7.out)).trans HCU7.out
          have hq2 := (b78.block _ (lt_of_heap HCB7.out)).trans HCB7.out
          have hq3 := (b78.block _ (lt_of_heap HCS7.out)).trans HCS7.out
          have KW : Hid (∀ W', Below w8.heap.size w8 W' → W'.heap[w5.heap.size]? = some (.cells #[.int .i64 z.kind, .string su, .slice au z.arity cu] 29 (0, 0)) ∧ W'.heap[w2.heap.size + 1 + 1]? = some (.cells #[.int .i64 4, .string { data := #[] }, .slice (some ⟨w2.heap.size + 1, 0, none⟩) 2 2] 24 (0, 0)) ∧ W'.heap[w7.heap.size]? = some (.cells #[.int .i64 (Ex.and x y).kind, .string sa, .slice aa (Ex.and x y).arity ca] 29 (0, 0)) ∧ W'.heap[w2.heap.size + 1]? = some (.cells #[.int .i64 x.kind, .string tx, .slice ax x.arity px, .int .i64 y.kind, .string ty, .slice ay y.arity py] 24 (0, 0))) := Lib.hid fun W' hb => ⟨(hb.block _ (lt_of_heap hq1)).trans hq1, (hb.block _ (lt_of_heap hq2)).trans hq2, (hb.block _ (lt_of_heap hc8)).trans hc8, (hb.block _ (lt_of_heap hq3)).trans hq3⟩
          have KX : Hid (∀ W', Below w8.heap.size w8 W' → XIs (fun _ => True) W' x (.int .i64 x.kind) (.string tx) (.slice ax x.arity px)) := Lib.hid fun W' hb => (HX7.out.below b78).below hb
          have KY : Hid (∀ W', Below w8.heap.size w8 W' → XIs (fun _ => True) W' y (.int .i64 y.kind) (.string ty) (.slice ay y.arity py)) := Lib.hid fun W' hb => (HY7.out.below b78).below hb
          have KU : Hid (∀ W', Below w8.heap.size w8 W' → XIs (fun _ => True) W' z (.int .i64 z.kind) (.string su) (.slice au z.arity cu)) := Lib.hid fun W' hb => (HU7.out.below b78).below hb
          have KB : Hid (∀ W', Below w8.heap.size w8 W' → XIs (fun _ => True) W' (.or x y) (.int .i64 4) (.string { data := #[] }) (.slice (some ⟨w2.heap.size + 1, 0, none⟩) 2 2)) := Lib.hid fun W' hb => xis_two (.inr ⟨rfl, rfl⟩) (KW.out W' hb).2.2.2 (KX.out W' hb) (KY.out W' hb)
          have HD : Hid (Below w8.heap.size w8 w8.drew) := Lib.hid (Below.refl _ _).drew
          have HLZ : Hid (z.leaves + (Ex.or x y).leaves ≤ 1000000000) := Lib.hid (by rw [HZL.out, ← HLV.out.2]; have := HLV.out.1; omega)
          have i0 := cell_at (o := 0) hq1 (.int .i64 z.kind) rfl
          have i1 := cell_at (o := 1) hq1 (.string su) rfl
          have i2 := cell_at (o := 2) hq1 (.slice au z.arity cu) rfl
          have j0 := cell_at (o := 0) hq2 (.int .i64 4) rfl
          have j1 := cell_at (o := 1) hq2 (.string { data := #[] }) rfl
          have j2 := cell_at (o := 2) hq2 (.slice (some ⟨w2.heap.size + 1, 0, none⟩) 2 2) rfl
          clear hw8 b78 hc8 hq1 hq2 hq3
          go_region_law (first | (go_simp; go_at_call 17; (with_reducible refine (specX_any z _ _ _ _ (by exact KU.out _ HD.out)).mono ?_); rintro e9 w9 ⟨z0, z1, z2, rfl, hz9, hb9⟩; obtain ⟨s9, a9, cp9, rfl, rfl, rfl, -⟩ := hz9.form; have HZ9 := Lib.hid hz9.any; have HN9 := Lib.hid (HD.out.trans (hb9.mono HD.out.size)); clear j0 j1 j2; have hk := (KW.out w9 HN9.out).2.1; have j0 := cell_at (o := 0) hk (.int .i64 4) rfl; have j1 := cell_at (o := 1) hk (.string { data := #[] }) rfl; have j2 := cell_at (o := 2) hk (.slice (some ⟨w2.heap.size + 1, 0, none⟩) 2 2) rfl; clear hz9 hb9 hk) | (go_simp; go_at_call 19; (with_reducible refine (alike_any z (.or x y) _ _ _ _ _ _ _ (by exact HZ9.out) (by exact KB.out _ HN9.out) HLZ.out HZE.out).mono ?_); rintro e10 w10 ⟨rfl, hb10⟩; have HN10 := Lib.hid (HN9.out.trans (hb10.mono HN9.out.size)); have hk := (KW.out w10 HN10.out).2.1; have k0 := cell_at (o := 0) hk (.int .i64 4) rfl; have k1 := cell_at (o := 1) hk (.string { data := #[] }) rfl; have k2 := cell_at (o := 2) hk (.slice (some ⟨w2.heap.size + 1, 0, none⟩) 2 2) rfl; have fz := free_at hk; clear hb10 hk))
          all_goals go_wp2_with fail
          all_goals
            obtain ⟨w11, hw11⟩ : ∃ w11, w11 = w10.setCell ⟨w2.heap.size + 1 + 1, 0, none⟩ (.int .i64 3) := ⟨_, rfl⟩
            rw [← hw11]
            have keep : ∀ b, b ≠ w2.heap.size + 1 + 1 → w11.heap[b]? = w10.heap[b]? := fun b hb => by rw [hw11, Below.heap_setCell _ _ _ b hb]
            have hB6 := lt_of_heap HCB6.out
            have hB7 := lt_of_heap HCB7.out
            have h1 : w11.heap[w2.heap.size + 1 + 1]? = some (.cells #[.int .i64 3, .string { data := #[] }, .slice (some ⟨w2.heap.size + 1, 0, none⟩) 2 2] 24 (0, 0)) := by rw [hw11, heap_set _ (KW.out w10 HN10.out).2.1 _]; rfl
            have h2 : w11.heap[w7.heap.size]? = some (.cells #[.int .i64 (Ex.and x y).kind, .string sa, .slice aa (Ex.and x y).arity ca] 29 (0, 0)) := (keep _ (by omega)).trans (KW.out w10 HN10.out).2.2.1
            have h3 : w11.heap[w2.heap.size + 1]? = some (.cells #[.int .i64 x.kind, .string tx, .slice ax x.arity px, .int .i64 y.kind, .string ty, .slice ay y.arity py] 24 (0, 0)) := (keep _ (by omega)).trans (KW.out w10 HN10.out).2.2.2
            have H210 : Below w2.heap.size w2 w10 := H28.out.trans (HN10.out.mono H28.out.size)
            have HX11 : XIs (fun _ => True) w11 x (.int .i64 x.kind) (.string tx) (.slice ax x.arity px) := XIs.move (fun b _ hlt => ⟨trivial, (keep b (by omega)).trans (H210.block b hlt)⟩) (HXX.out.below H12.out)
            have HY11 : XIs (fun _ => True) w11 y (.int .i64 y.kind) (.string ty) (.slice ay y.arity py) := XIs.move (fun b _ hlt => ⟨trivial, (keep b (by omega)).trans (H210.block b hlt)⟩) HYY.out
            have HA11 : XIs (fun _ => True) w11 (.and x y) (.int .i64 (Ex.and x y).kind) (.string sa) (.slice aa (Ex.and x y).arity ca) := XIs.move (fun b hb hlt => ⟨trivial, ((keep b (by omega)).trans (HN10.out.block b (Nat.lt_of_lt_of_le hlt H78.out.size))).trans (H78.out.block b hlt)⟩) HA7.out
            have HB10 : Below w.heap.size w w10 := HB8.out.trans (HN10.out.mono HB8.out.size)
            have HB11 : Hid (Below w.heap.size w w11) := Lib.hid (by rw [hw11]; exact HB10.setCell (p := ⟨w2.heap.size + 1 + 1, 0, none⟩) (by have := HB2.out.size; simp; omega) _)
            have JA : Hid (∀ W', Below w11.heap.size w11 W' → XIs (fun _ => True) W' (.and x y) (.int .i64 (Ex.and x y).kind) (.string sa) (.slice aa (Ex.and x y).arity ca)) := Lib.hid fun W' hb => HA11.below hb
            have JB : Hid (∀ W', Below w11.heap.size w11 W' → XIs (fun _ => True) W' (.and x y) (.int .i64 3) (.string { data := #[] }) (.slice (some ⟨w2.heap.size + 1, 0, none⟩) 2 2)) := Lib.hid fun W' hb => xis_two (.inl ⟨rfl, rfl⟩) ((hb.block _ (lt_of_heap h3)).trans h3) (HX11.below hb) (HY11.below hb)
            have JC : Hid (∀ W', Below w11.heap.size w11 W' → W'.heap[w2.heap.size + 1 + 1]? = some (.cells #[.int .i64 3, .string { data := #[] }, .slice (some ⟨w2.heap.size + 1, 0, none⟩) 2 2] 24 (0, 0))) := Lib.hid fun W' hb => (hb.block _ (lt_of_heap h1)).trans h1
            have HE : Hid (Below w11.heap.size w11 w11.drew) := Lib.hid (Below.refl _ _).drew
            have HLA : Hid ((Ex.and x y).leaves + (Ex.and x y).leaves ≤ 1000000000) := Lib.hid (by have := HLX.out; have := HLY.out; simp only [Ex.leaves]; omega)
            have m0 := cell_at (o := 0) h2 (.int .i64 (Ex.and x y).kind) rfl
            have m1 := cell_at (o := 1) h2 (.string sa) rfl
            have m2 := cell_at (o := 2) h2 (.slice aa (Ex.and x y).arity ca) rfl
            have n0 := cell_at (o := 0) h1 (.int .i64 3) rfl
            have n1 := cell_at (o := 1) h1 (.string { data := #[] }) rfl
            have n2 := cell_at (o := 2) h1 (.slice (some ⟨w2.heap.size + 1, 0, none⟩) 2 2) rfl
            clear hw11 keep hB6 hB7 h1 h2 h3 H210 HX11 HY11 HA11 HB10 i0 i1 i2 j0 j1 j2 k0 k1 k2 fz
            go_region_law (first | (go_simp; go_at_call 17; (with_reducible refine (specX_any (.and x y) _ _ _ _ (by exact JA.out _ HE.out)).mono ?_); rintro e12 w12 ⟨z0, z1, z2, rfl, hz12, hb12⟩; obtain ⟨s12, a12, cp12, rfl, rfl, rfl, -⟩ := hz12.form; have HZ12 := Lib.hid hz12.any; have HN12 := Lib.hid (HE.out.trans (hb12.mono HE.out.size)); clear n0 n1 n2; have hk := JC.out w12 HN12.out; have n0 := cell_at (o := 0) hk (.int .i64 3) rfl; have n1 := cell_at (o := 1) hk (.string { data := #[] }) rfl; have n2 := cell_at (o := 2) hk (.slice (some ⟨w2.heap.size + 1, 0, none⟩) 2 2) rfl; clear hz12 hb12 hk) | (go_simp; go_at_call 19; (with_reducible refine (alike_any (.and x y) (.and x y) _ _ _ _ _ _ _ (by exact HZ12.out) (by exact JB.out _ HN12.out) HLA.out (fun _ => rfl)).mono ?_); rintro e13 w13 ⟨rfl, hb13⟩; have HN13 := Lib.hid (HN12.out.trans (hb13.mono HN12.out.size)); clear hb13))
            all_goals go_wp2_with fail
            all_goals go_ret
            all_goals exact ⟨rfl, HB11.out.trans (HN13.out.mono HB11.out.size)⟩
        · go_wp2_with fail
          go_ret
          exact ⟨rfl, HB4.out⟩
      · go_wp2_with fail
        go_ret
        exact ⟨rfl, ((HB2.out.alloc HB2.out.size _).alloc (Nat.le_trans HB2.out.size (by simp)) _).alloc (Nat.le_trans HB2.out.size (by simp; omega)) _⟩
    · go_wp2_with fail
      go_ret
      exact ⟨rfl, ((HB2.out.alloc HB2.out.size _).alloc (Nat.le_trans HB2.out.size (by simp)) _).alloc (Nat.le_trans HB2.out.size (by simp; omega)) _⟩
  · go_wp2_with fail
    go_ret
    exact ⟨rfl, ((HB2.out.alloc HB2.out.size _).alloc (Nat.le_trans HB2.out.size (by simp)) _).alloc (Nat.le_trans HB2.out.size (by simp; omega)) _⟩
end Go.Proofs.YteemenhinhkonaaDoor
