/- The walk of laws.FnTextBack. -/
import Derived.Test.YteemenhinhkonaaDoorProg
import Derived.Test.YteemenhinhkonaaDoorBridge
import Derived.Test.YteemenhinhkonaaDoorBackEx
import Derived.Test.YteemenhinhkonaaDoorBackRd
import Derived.Test.YteemenhinhkonaaDoorAlike
import Derived.Test.YteemenhinhkonaaDoorDouble
import Derived.Test.YteemenhinhkonaaDoorRead
import Derived.Test.YteemenhinhkonaaDoorImplText
namespace Go.Proofs.YteemenhinhkonaaDoor
open Go.RowKit

set_option maxHeartbeats 40000000 in
set_option maxRecDepth 100000 in
theorem fnTextBack_any (s : ByteArray) (w : World) (hs : s.size ≤ 1152921504606846976) (hT : Tabs w) : Calls Tryd.prog 3 #[.string s] w (CallPost true w) := by
  have HT := Lib.hid hT
  clear hT
  go_enter Tryd.func3, Tryd.ntmps3
  go_wp2_with fail
  refine (read_any s w hs).mono ?_
  rintro e1 w1 ⟨hg1, hrd⟩
  have hb1 := below_of_grown hg1
  have HB1 := Lib.hid hb1
  have HT1 := Lib.hid (HT.out.below hb1)
  clear hg1 hb1
  rcases hrd with ⟨-, rfl⟩ | ⟨hok, x, c0, c1, c2, st, rfl, hx, hlv, hsp⟩
  · go_wp2_with fail
    go_ret
    exact ⟨rfl, HB1.out.alloc HB1.out.size _⟩
  obtain ⟨sx, ax, cx, rfl, rfl, rfl, -⟩ := hx.form
  have HSP := Lib.hid hsp
  have HOK := Lib.hid hok
  have HLV := Lib.hid hlv
  clear hx hsp hok hlv
  by_cases hst : st = 1
  · subst hst
    by_cases hlen : s.size ≤ 500
    · obtain ⟨n, hrd⟩ : ∃ n, Rd n s.data.toList x := by
        rcases HSP.out with ⟨_, n, h⟩ | ⟨h, _⟩ | ⟨h, _⟩
        · exact ⟨n, h⟩
        · omega
        · omega
      have HRD := Lib.hid hrd
      have hlen2 : s.data.toList.length = s.size := by simp
      have HL2 := Lib.hid hlen2
      have e1 : (ByteArray.mk #[47, 47, 103, 111, 58, 98, 117, 105, 108, 100, 32]).size = 11 := rfl
      have s1 := fun w => run_string_add_sum (P := Tryd.prog) w { data := #[47, 47, 103, 111, 58, 98, 117, 105, 108, 100, 32] } s (by rw [e1]; omega)
      clear hrd e1 hlen2
      go_wp2_with fail
      obtain ⟨wa, hwa⟩ : ∃ wa, wa = w1.alloc (.cells #[.int .i64 x.kind, .string sx, .slice ax x.arity cx] 24) := ⟨_, rfl⟩
      rw [← hwa]
      have hba : Below w1.heap.size w1 wa := by rw [hwa]; exact (Below.refl _ _).alloc (Nat.le_refl _) _
      have HBA := Lib.hid (HB1.out.trans (hba.mono HB1.out.size))
      have HTA := Lib.hid (HT1.out.below hba)
      clear hwa hba
      refine (parse_is (l := s.data.toList) _ wa (by simp [goWord, ByteArray.data_append]) (textOk_plain HOK.out) HRD.out (by rw [HL2.out]; omega) HTA.out).mono ?_
      rintro e3 w3 ⟨d0, d1, d2, rfl, hy, hb3⟩
      obtain ⟨sy, ay, cy, rfl, rfl, rfl, -⟩ := hy.form
      have HB3 := Lib.hid (HBA.out.trans (hb3.mono HBA.out.size))
      have HY := Lib.hid hy.any
      have HT3 := Lib.hid (HTA.out.below hb3)
      clear hy hb3 s1
      go_wp2_with fail
      obtain ⟨w4, hw4⟩ : ∃ w4, w4 = w3.alloc (.cells #[.int .i64 x.kind, .string sy, .slice ay x.arity cy] 29) := ⟨_, rfl⟩
      rw [← hw4]
      have b34 : Below w3.heap.size w3 w4 := by rw [hw4]; exact (Below.refl _ _).alloc (Nat.le_refl _) _
      have hc4 : w4.heap[w3.heap.size]? = some (.cells #[.int .i64 x.kind, .string sy, .slice ay x.arity cy] 29 (0, 0)) := by rw [hw4]; exact heap_new _ _ rfl
      have HB4 := Lib.hid (HB3.out.trans (b34.mono HB3.out.size))
      have HY4 := Lib.hid (HY.out.below b34)
      have HT4 := Lib.hid (HT3.out.below b34)
      have HC4 := Lib.hid hc4
      clear hw4 b34 hc4
      refine (specX_any x _ _ _ w4 HY4.out).mono ?_
      rintro e5 w5 ⟨z0, z1, z2, rfl, hz, hb5⟩
      obtain ⟨sz, az, cz, rfl, rfl, rfl, -⟩ := hz.form
      have HB5 := Lib.hid (HB4.out.trans (hb5.mono HB4.out.size))
      have HZ5 := Lib.hid hz.any
      have HY5 := Lib.hid (HY4.out.below hb5)
      have HT5 := Lib.hid (HT4.out.below hb5)
      have HC5 := Lib.hid ((hb5.block _ (lt_of_heap HC4.out)).trans HC4.out)
      clear hz hb5
      go_wp2_with fail
      refine (double_any x _ _ _ w5 HZ5.out).mono ?_
      rintro e6 w6 ⟨rfl, hb6⟩
      have HB6 := Lib.hid (HB5.out.trans (hb6.mono HB5.out.size))
      have HY6 := Lib.hid (HY5.out.below hb6)
      have HT6 := Lib.hid (HT5.out.below hb6)
      have HC6 := Lib.hid ((hb6.block _ (lt_of_heap HC5.out)).trans HC5.out)
      have hc6 := HC6.out
      have p0 := cell_at (o := 0) hc6 (.int .i64 x.kind) rfl
      have p1 := cell_at (o := 1) hc6 (.string sy) rfl
      have p2 := cell_at (o := 2) hc6 (.slice ay x.arity cy) rfl
      clear hb6 hc6
      cases hdb : x.dbl
      · obtain ⟨x', m, hsame, hrd'⟩ := HRD.out.text hdb
        have HSA := Lib.hid hsame
        have HRT := Lib.hid hrd'
        have HNI := Lib.hid HRD.out.nice
        have hn1 : x.text.length ≤ 1500 := by have := HNI.out.len; rw [HL2.out] at this; omega
        have HN1 := Lib.hid hn1
        clear hdb hsame hrd' hn1
        go_wp2_with fail
        refine (implText_any x _ _ _ w6 HY6.out (by have := HN1.out; omega)).mono ?_
        rintro e7 w7 ⟨rfl, hb7⟩
        have HB7 := Lib.hid (HB6.out.trans (hb7.mono HB6.out.size))
        have HY7 := Lib.hid (HY6.out.below hb7)
        have HT7 := Lib.hid (HT6.out.below hb7)
        have HC7 := Lib.hid ((hb7.block _ (lt_of_heap HC6.out)).trans HC6.out)
        have e1 : (ByteArray.mk #[47, 47, 103, 111, 58, 98, 117, 105, 108, 100, 32]).size = 11 := rfl
        have s1 := fun w => run_string_add_sum (P := Tryd.prog) w { data := #[47, 47, 103, 111, 58, 98, 117, 105, 108, 100, 32] } (mkB x.text) (by rw [e1, mkB_size]; have := HN1.out; omega)
        clear hb7 p0 p1 p2 e1
        go_wp2_with fail
        refine (parse_is (l := x.text) _ w7 (by rw [ByteArray.data_append, Array.toList_append, mkB_toList]; rfl) (text_ok x HNI.out.ok) HRT.out (by have := HN1.out; omega) HT7.out).mono ?_
        rintro e8 w8 ⟨d0, d1, d2, rfl, hu, hb8⟩
        obtain ⟨su, au, cu, rfl, rfl, rfl, -⟩ := hu.form
        have HB8 := Lib.hid (HB7.out.trans (hb8.mono HB7.out.size))
        have HY8 := Lib.hid (HY7.out.below hb8)
        have HU8 := Lib.hid hu.any
        have HC8 := Lib.hid ((hb8.block _ (lt_of_heap HC7.out)).trans HC7.out)
        clear hu hb8 s1
        go_wp2_with fail
        obtain ⟨w9, hw9⟩ : ∃ w9, w9 = w8.alloc (.cells #[.int .i64 x'.kind, .string su, .slice au x'.arity cu] 29) := ⟨_, rfl⟩
        rw [← hw9]
        have b89 : Below w8.heap.size w8 w9 := by rw [hw9]; exact (Below.refl _ _).alloc (Nat.le_refl _) _
        have hc9 : w9.heap[w8.heap.size]? = some (.cells #[.int .i64 x'.kind, .string su, .slice au x'.arity cu] 29 (0, 0)) := by rw [hw9]; exact heap_new _ _ rfl
        have HB9 := Lib.hid (HB8.out.trans (b89.mono HB8.out.size))
        have KY : Hid (∀ W', Below w9.heap.size w9 W' → XIs (fun _ => True) W' x (.int .i64 x.kind) (.string sy) (.slice ay x.arity cy)) := Lib.hid fun W' hb => (HY8.out.below b89).below hb
        have KU : Hid (∀ W', Below w9.heap.size w9 W' → XIs (fun _ => True) W' x' (.int .i64 x'.kind) (.string su) (.slice au x'.arity cu)) := Lib.hid fun W' hb => (HU8.out.below b89).below hb
        have hC9 := (b89.block _ (lt_of_heap HC8.out)).trans HC8.out
        have KC : Hid (∀ W', Below w9.heap.size w9 W' → W'.cell? ⟨w3.heap.size, 0, none⟩ = some (.int .i64 x.kind) ∧ W'.cell? ⟨w3.heap.size, 1, none⟩ = some (.string sy) ∧ W'.cell? ⟨w3.heap.size, 2, none⟩ = some (.slice ay x.arity cy) ∧ W'.cell? ⟨w8.heap.size, 0, none⟩ = some (.int .i64 x'.kind) ∧ W'.cell? ⟨w8.heap.size, 1, none⟩ = some (.string su) ∧ W'.cell? ⟨w8.heap.size, 2, none⟩ = some (.slice au x'.arity cu)) := Lib.hid fun W' hb => ⟨(hb.cell (lt_of_heap hC9)).trans (cell_at (o := 0) hC9 (.int .i64 x.kind) rfl), (hb.cell (lt_of_heap hC9)).trans (cell_at (o := 1) hC9 (.string sy) rfl), (hb.cell (lt_of_heap hC9)).trans (cell_at (o := 2) hC9 (.slice ay x.arity cy) rfl), (hb.cell (lt_of_heap hc9)).trans (cell_at (o := 0) hc9 (.int .i64 x'.kind) rfl), (hb.cell (lt_of_heap hc9)).trans (cell_at (o := 1) hc9 (.string su) rfl), (hb.cell (lt_of_heap hc9)).trans (cell_at (o := 2) hc9 (.slice au x'.arity cu) rfl)⟩
        have HD : Hid (Below w9.heap.size w9 w9.drew) := Lib.hid (Below.refl _ _).drew
        obtain ⟨i0, i1, i2, i3, i4, i5⟩ := KC.out w9 (Below.refl _ _)
        have hem : (mkB x.text).toList.isEmpty = false := empty_no (by rw [mkB_size]; have := HNI.out.pos; omega)
        have hem2 : (!(mkB x.text).toList.isEmpty) = true := by rw [hem]; rfl
        have HLX : Hid (x'.text.length ≤ 4611686018427387904) := Lib.hid (by rw [HSA.out.text]; have := HN1.out; omega)
        have HLL : Hid (x.leaves + x'.leaves ≤ 1000000000) := Lib.hid (by rw [HSA.out.leaves]; have := HLV.out; omega)
        clear hw9 b89 hc9 hC9
        have tok1 : True := trivial
        have tok2 : True := trivial
        go_region_law (first | (go_simp; go_at_call 18; (with_reducible refine (implText_any x' _ _ _ _ (by exact KU.out _ HD.out) HLX.out).mono ?_); rw [HSA.out.text]; rintro e10 w10 ⟨rfl, hb10⟩; have HN10 := Lib.hid (HD.out.trans (hb10.mono HD.out.size)); clear i0 i1 i2 i3 i4 i5; obtain ⟨i0, i1, i2, i3, i4, i5⟩ := KC.out w10 HN10.out; clear hb10) | (go_simp; go_at_call 17; have _t := tok1; (with_reducible refine (specX_any x _ _ _ _ (by exact KY.out _ HN10.out)).mono ?_); rintro e11 w11 ⟨z0, z1, z2, rfl, hz, hb11⟩; obtain ⟨s11, a11, cp11, rfl, rfl, rfl, -⟩ := hz.form; have HZ11 := Lib.hid hz.any; have HN11 := Lib.hid (HN10.out.trans (hb11.mono HN10.out.size)); clear i0 i1 i2 i3 i4 i5; obtain ⟨i0, i1, i2, i3, i4, i5⟩ := KC.out w11 HN11.out; clear hz hb11 _t tok1) | (go_simp; go_at_call 17; have _t := tok2; (with_reducible refine (specX_any x' _ _ _ _ (by exact KU.out _ HN11.out)).mono ?_); rintro e12 w12 ⟨z0, z1, z2, rfl, hz, hb12⟩; obtain ⟨s12, a12, cp12, rfl, rfl, rfl, -⟩ := hz.form; have HZ12 := Lib.hid hz.any; have HZ13 := Lib.hid (HZ11.out.below hb12); have HN12 := Lib.hid (HN11.out.trans (hb12.mono HN11.out.size)); clear i0 i1 i2 i3 i4 i5; obtain ⟨i0, i1, i2, i3, i4, i5⟩ := KC.out w12 HN12.out; clear hz hb12 _t tok2) | (go_simp; go_at_call 19; (with_reducible refine (alike_any x x' _ _ _ _ _ _ _ (by exact HZ13.out) (by exact HZ12.out) HLL.out (fun f => (HSA.out.eval f).symm)).mono ?_); rintro e13 w13 ⟨rfl, hb13⟩; have HN13 := Lib.hid (HN12.out.trans (hb13.mono HN12.out.size)); clear hb13))
        all_goals go_wp2_with fail
        all_goals go_ret
        all_goals exact ⟨rfl, HB9.out.trans (HN13.out.mono HB9.out.size)⟩
      · clear hdb
        go_wp2_with fail
        go_ret
        exact ⟨rfl, HB6.out⟩
    · go_wp2_with fail
      go_ret
      exact ⟨rfl, HB1.out.alloc HB1.out.size _⟩
  · go_wp2_with fail
    go_ret
    exact ⟨rfl, HB1.out.alloc HB1.out.size _⟩
end Go.Proofs.YteemenhinhkonaaDoor
