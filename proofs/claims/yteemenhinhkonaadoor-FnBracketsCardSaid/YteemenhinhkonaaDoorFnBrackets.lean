/- The walk of laws.FnBrackets. -/
import Derived.Test.YteemenhinhkonaaDoorProg
import Derived.Test.YteemenhinhkonaaDoorBridge2
import Derived.Test.YteemenhinhkonaaDoorBackEx
import Derived.Test.YteemenhinhkonaaDoorBackRd
import Derived.Test.YteemenhinhkonaaDoorAlike
import Derived.Test.YteemenhinhkonaaDoorRead
import Derived.Test.YteemenhinhkonaaDoorImplText
namespace Go.Proofs.YteemenhinhkonaaDoor
open Go.RowKit

set_option maxHeartbeats 40000000 in
set_option maxRecDepth 100000 in
theorem fnBrackets_any (s : ByteArray) (w : World) (hs : s.size ≤ 1152921504606846976) (hT : Tabs w) : Calls Tryd.prog 8 #[.string s] w (CallPost true w) := by
  have HT := Lib.hid hT
  clear hT
  go_enter Tryd.func8, Tryd.ntmps8
  go_wp2_with fail
  refine (read_any s w hs).mono ?_
  rintro e1 w1 ⟨hg1, hrd⟩
  have hb1 := below_of_grown hg1
  have HB1 := Lib.hid hb1
  have HT1 := Lib.hid (HT.out.below hb1)
  clear hg1 hb1
  rcases hrd with ⟨-, rfl⟩ | ⟨hok, x, c0, c1, c2, st, rfl, hx, hlv, hsp⟩
  · go_wp2_with fail
    go_ret
    exact ⟨rfl, HB1.out.alloc HB1.out.size _⟩
  obtain ⟨sx, ax, cx, rfl, rfl, rfl, -⟩ := hx.form
  have HX := Lib.hid hx.any
  have HSP := Lib.hid hsp
  have HOK := Lib.hid hok
  have HLV := Lib.hid hlv
  clear hx hsp hok hlv
  by_cases hst : st = 1
  · subst hst
    by_cases hlen : s.size ≤ 500
    · go_wp2_with fail
      obtain ⟨wa, hwa⟩ : ∃ wa, wa = w1.alloc (.cells #[.int .i64 x.kind, .string sx, .slice ax x.arity cx] 24) := ⟨_, rfl⟩
      rw [← hwa]
      have hba : Below w1.heap.size w1 wa := by rw [hwa]; exact (Below.refl _ _).alloc (Nat.le_refl _) _
      have hca : wa.heap[w1.heap.size]? = some (.cells #[.int .i64 x.kind, .string sx, .slice ax x.arity cx] 24 (0, 0)) := by rw [hwa]; exact heap_new _ _ rfl
      have HBA := Lib.hid (HB1.out.trans (hba.mono HB1.out.size))
      have HXA := Lib.hid (HX.out.below hba)
      have HTA := Lib.hid (HT1.out.below hba)
      have HCA := Lib.hid hca
      clear hwa hba hca
      refine (tags_any x _ _ _ wa HXA.out (by have := HLV.out; omega)).mono ?_
      rintro e2 w2 ⟨v, rfl, hss, -, hb2⟩
      obtain ⟨av, cv, rfl, hvl, -⟩ : ∃ a cap, v = .slice a x.tags.length cap ∧ x.tags.length ≤ 140737488355328 ∧ True := by obtain ⟨a, cap, h1, h2, _⟩ := hss; exact ⟨a, cap, h1, h2, trivial⟩
      have HB2 := Lib.hid (HBA.out.trans (hb2.mono HBA.out.size))
      have HX2 := Lib.hid (HXA.out.below hb2)
      have HT2 := Lib.hid (HTA.out.below hb2)
      have HC2 := Lib.hid ((hb2.block _ (lt_of_heap HCA.out)).trans HCA.out)
      clear hss hb2
      by_cases h8 : x.tags.length ≤ 8
      · obtain ⟨n, hrd⟩ : ∃ n, Rd n s.data.toList x := by
          rcases HSP.out with ⟨_, n, h⟩ | ⟨h, _⟩ | ⟨h, _⟩
          · exact ⟨n, h⟩
          · omega
          · omega
        have HRD := Lib.hid hrd
        have e1 : (ByteArray.mk #[47, 47, 103, 111, 58, 98, 117, 105, 108, 100, 32, 40]).size = 12 := rfl
        have e2 : (ByteArray.mk #[41]).size = 1 := rfl
        have e3 : (ByteArray.mk #[47, 47, 103, 111, 58, 98, 117, 105, 108, 100, 32, 9, 32]).size = 13 := rfl
        have e4 : (ByteArray.mk #[32, 9]).size = 2 := rfl
        have e5 : (ByteArray.mk #[47, 47, 103, 111, 58, 98, 117, 105, 108, 100, 32, 40, 40]).size = 13 := rfl
        have e6 : (ByteArray.mk #[41, 32, 38, 38, 32, 40]).size = 6 := rfl
        have e7 : (ByteArray.mk #[41, 41]).size = 2 := rfl
        have s1 := fun w => run_string_add_sum (P := Tryd.prog) w { data := #[47, 47, 103, 111, 58, 98, 117, 105, 108, 100, 32, 40] } s (by rw [e1]; omega)
        have s2 := fun w => run_string_add_sum (P := Tryd.prog) w ({ data := #[47, 47, 103, 111, 58, 98, 117, 105, 108, 100, 32, 40] } ++ s) { data := #[41] } (by rw [ByteArray.size_append, e1, e2]; omega)
        have s3 := fun w => run_string_add_sum (P := Tryd.prog) w { data := #[47, 47, 103, 111, 58, 98, 117, 105, 108, 100, 32, 9, 32] } s (by rw [e3]; omega)
        have s4 := fun w => run_string_add_sum (P := Tryd.prog) w ({ data := #[47, 47, 103, 111, 58, 98, 117, 105, 108, 100, 32, 9, 32] } ++ s) { data := #[32, 9] } (by rw [ByteArray.size_append, e3, e4]; omega)
        have s5 := fun w => run_string_add_sum (P := Tryd.prog) w { data := #[47, 47, 103, 111, 58, 98, 117, 105, 108, 100, 32, 40, 40] } s (by rw [e5]; omega)
        have s6 := fun w => run_string_add_sum (P := Tryd.prog) w ({ data := #[47, 47, 103, 111, 58, 98, 117, 105, 108, 100, 32, 40, 40] } ++ s) { data := #[41, 32, 38, 38, 32, 40] } (by rw [ByteArray.size_append, e5, e6]; omega)
        have s7 := fun w => run_string_add_sum (P := Tryd.prog) w ({ data := #[47, 47, 103, 111, 58, 98, 117, 105, 108, 100, 32, 40, 40] } ++ s ++ { data := #[41, 32, 38, 38, 32, 40] }) s (by rw [ByteArray.size_append, ByteArray.size_append, e5, e6]; omega)
        have s8 := fun w => run_string_add_sum (P := Tryd.prog) w ({ data := #[47, 47, 103, 111, 58, 98, 117, 105, 108, 100, 32, 40, 40] } ++ s ++ { data := #[41, 32, 38, 38, 32, 40] } ++ s) { data := #[41, 41] } (by rw [ByteArray.size_append, ByteArray.size_append, ByteArray.size_append, e5, e6, e7]; omega)
        have hp := textOk_plain HOK.out
        have HP := Lib.hid hp
        have hlen2 : s.data.toList.length = s.size := by simp
        have HL2 := Lib.hid hlen2
        clear hrd e1 e2 e3 e4 e5 e6 e7 hp hlen2
        go_wp2_with fail
        refine (parse_is (l := 40 :: (s.data.toList ++ [41])) _ w2 (by simp [goWord, ByteArray.data_append]) (by simp only [List.all_cons, List.all_append, HP.out]; rfl) HRD.out.brk (by simp; omega) HT2.out).mono ?_
        rintro e3 w3 ⟨d0, d1, d2, rfl, hy, hb3⟩
        obtain ⟨sy, ay, cy, rfl, rfl, rfl, -⟩ := hy.form
        have HB3 := Lib.hid (HB2.out.trans (hb3.mono HB2.out.size))
        have HX3 := Lib.hid (HX2.out.below hb3)
        have HY := Lib.hid hy.any
        have HT3 := Lib.hid (HT2.out.below hb3)
        have HC3 := Lib.hid ((hb3.block _ (lt_of_heap HC2.out)).trans HC2.out)
        clear hy hb3 s1 s2
        go_wp2_with fail
        obtain ⟨w4, hw4⟩ : ∃ w4, w4 = w3.alloc (.cells #[.int .i64 x.kind, .string sy, .slice ay x.arity cy] 29) := ⟨_, rfl⟩
        rw [← hw4]
        have b34 : Below w3.heap.size w3 w4 := by rw [hw4]; exact (Below.refl _ _).alloc (Nat.le_refl _) _
        have hc4 : w4.heap[w3.heap.size]? = some (.cells #[.int .i64 x.kind, .string sy, .slice ay x.arity cy] 29 (0, 0)) := by rw [hw4]; exact heap_new _ _ rfl
        have HB4 := Lib.hid (HB3.out.trans (b34.mono HB3.out.size))
        have HX4 := Lib.hid (HX3.out.below b34)
        have HY4 := Lib.hid (HY.out.below b34)
        have HT4 := Lib.hid (HT3.out.below b34)
        have HC4 := Lib.hid ((b34.block _ (lt_of_heap HC3.out)).trans HC3.out)
        have HA4 := Lib.hid hc4
        clear hw4 b34 hc4
        refine (parse_same (l := s.data.toList) (l' := 9 :: 32 :: (s.data.toList ++ [32, 9])) _ w4 (by simp [goWord, ByteArray.data_append]) (by simp only [List.all_cons, List.all_append, HP.out]; rfl) (tA_around (a := [9, 32]) (b := [32, 9]) (by rfl) (by rfl)) HRD.out (by rw [HL2.out]; omega) (by simp; omega) HT4.out).mono ?_
        rintro e5 w5 ⟨d0, d1, d2, rfl, hz, hb5⟩
        obtain ⟨sz, az, cz, rfl, rfl, rfl, -⟩ := hz.form
        have HB5 := Lib.hid (HB4.out.trans (hb5.mono HB4.out.size))
        have HX5 := Lib.hid (HX4.out.below hb5)
        have HY5 := Lib.hid (HY4.out.below hb5)
        have HZ5 := Lib.hid hz.any
        have HT5 := Lib.hid (HT4.out.below hb5)
        have HC5 := Lib.hid ((hb5.block _ (lt_of_heap HC4.out)).trans HC4.out)
        have HA5 := Lib.hid ((hb5.block _ (lt_of_heap HA4.out)).trans HA4.out)
        clear hz hb5 s3 s4
        go_wp2_with fail
        obtain ⟨w6, hw6⟩ : ∃ w6, w6 = w5.alloc (.cells #[.int .i64 x.kind, .string sz, .slice az x.arity cz] 29) := ⟨_, rfl⟩
        rw [← hw6]
        have b56 : Below w5.heap.size w5 w6 := by rw [hw6]; exact (Below.refl _ _).alloc (Nat.le_refl _) _
        have hc6 : w6.heap[w5.heap.size]? = some (.cells #[.int .i64 x.kind, .string sz, .slice az x.arity cz] 29 (0, 0)) := by rw [hw6]; exact heap_new _ _ rfl
        have HB6 := Lib.hid (HB5.out.trans (b56.mono HB5.out.size))
        have HX6 := Lib.hid (HX5.out.below b56)
        have HY6 := Lib.hid (HY5.out.below b56)
        have HZ6 := Lib.hid (HZ5.out.below b56)
        have HT6 := Lib.hid (HT5.out.below b56)
        have HC6 := Lib.hid ((b56.block _ (lt_of_heap HC5.out)).trans HC5.out)
        have HA6 := Lib.hid ((b56.block _ (lt_of_heap HA5.out)).trans HA5.out)
        have HD6 := Lib.hid hc6
        clear hw6 b56 hc6
        refine (parse_is (l := 40 :: ((40 :: (s.data.toList ++ 41 :: 32 :: 38 :: 38 :: 32 :: 40 :: (s.data.toList ++ [41]))) ++ [41])) _ w6 (by simp [goWord, ByteArray.data_append]) (by simp only [List.all_cons, List.all_append, HP.out]; rfl) (HRD.out.and2 HRD.out).brk (by simp; omega) HT6.out).mono ?_
        rintro e7 w7 ⟨d0, d1, d2, rfl, hu, hb7⟩
        obtain ⟨su, au, cu, rfl, rfl, rfl, -⟩ := hu.form
        have HB7 := Lib.hid (HB6.out.trans (hb7.mono HB6.out.size))
        have HX7 := Lib.hid (HX6.out.below hb7)
        have HY7 := Lib.hid (HY6.out.below hb7)
        have HZ7 := Lib.hid (HZ6.out.below hb7)
        have HU7 := Lib.hid hu.any
        have HC7 := Lib.hid ((hb7.block _ (lt_of_heap HC6.out)).trans HC6.out)
        have HA7 := Lib.hid ((hb7.block _ (lt_of_heap HA6.out)).trans HA6.out)
        have HD7 := Lib.hid ((hb7.block _ (lt_of_heap HD6.out)).trans HD6.out)
        clear hu hb7 s5 s6 s7 s8
        go_wp2_with fail
        obtain ⟨w8, hw8⟩ : ∃ w8, w8 = w7.alloc (.cells #[.int .i64 (Ex.and x x).kind, .string su, .slice au (Ex.and x x).arity cu] 29) := ⟨_, rfl⟩
        rw [← hw8]
        have b78 : Below w7.heap.size w7 w8 := by rw [hw8]; exact (Below.refl _ _).alloc (Nat.le_refl _) _
        have hc8 : w8.heap[w7.heap.size]? = some (.cells #[.int .i64 (Ex.and x x).kind, .string su, .slice au (Ex.and x x).arity cu] 29 (0, 0)) := by rw [hw8]; exact heap_new _ _ rfl
        have HB8 := Lib.hid (HB7.out.trans (b78.mono HB7.out.size))
        have KX : Hid (∀ W', Below w8.heap.size w8 W' → XIs (fun _ => True) W' x (.int .i64 x.kind) (.string sx) (.slice ax x.arity cx)) := Lib.hid fun W' hb => (HX7.out.below b78).below hb
        have KY : Hid (∀ W', Below w8.heap.size w8 W' → XIs (fun _ => True) W' x (.int .i64 x.kind) (.string sy) (.slice ay x.arity cy)) := Lib.hid fun W' hb => (HY7.out.below b78).below hb
        have KZ : Hid (∀ W', Below w8.heap.size w8 W' → XIs (fun _ => True) W' x (.int .i64 x.kind) (.string sz) (.slice az x.arity cz)) := Lib.hid fun W' hb => (HZ7.out.below b78).below hb
        have KU : Hid (∀ W', Below w8.heap.size w8 W' → XIs (fun _ => True) W' (.and x x) (.int .i64 (Ex.and x x).kind) (.string su) (.slice au (Ex.and x x).arity cu)) := Lib.hid fun W' hb => (HU7.out.below b78).below hb
        have hC8 := (b78.block _ (lt_of_heap HC7.out)).trans HC7.out
        have hA8 := (b78.block _ (lt_of_heap HA7.out)).trans HA7.out
        have hD8 := (b78.block _ (lt_of_heap HD7.out)).trans HD7.out
        have KC : Hid (∀ W', Below w8.heap.size w8 W' → W'.cell? ⟨w1.heap.size, 0, none⟩ = some (.int .i64 x.kind) ∧ W'.cell? ⟨w1.heap.size, 1, none⟩ = some (.string sx) ∧ W'.cell? ⟨w1.heap.size, 2, none⟩ = some (.slice ax x.arity cx) ∧ W'.cell? ⟨w3.heap.size, 0, none⟩ = some (.int .i64 x.kind) ∧ W'.cell? ⟨w3.heap.size, 1, none⟩ = some (.string sy) ∧ W'.cell? ⟨w3.heap.size, 2, none⟩ = some (.slice ay x.arity cy) ∧ W'.cell? ⟨w5.heap.size, 0, none⟩ = some (.int .i64 x.kind) ∧ W'.cell? ⟨w5.heap.size, 1, none⟩ = some (.string sz) ∧ W'.cell? ⟨w5.heap.size, 2, none⟩ = some (.slice az x.arity cz) ∧ W'.cell? ⟨w7.heap.size, 0, none⟩ = some (.int .i64 (Ex.and x x).kind) ∧ W'.cell? ⟨w7.heap.size, 1, none⟩ = some (.string su) ∧ W'.cell? ⟨w7.heap.size, 2, none⟩ = some (.slice au (Ex.and x x).arity cu)) := Lib.hid fun W' hb => ⟨(hb.cell (lt_of_heap hC8)).trans (cell_at (o := 0) hC8 (.int .i64 x.kind) rfl), (hb.cell (lt_of_heap hC8)).trans (cell_at (o := 1) hC8 (.string sx) rfl), (hb.cell (lt_of_heap hC8)).trans (cell_at (o := 2) hC8 (.slice ax x.arity cx) rfl), (hb.cell (lt_of_heap hA8)).trans (cell_at (o := 0) hA8 (.int .i64 x.kind) rfl), (hb.cell (lt_of_heap hA8)).trans (cell_at (o := 1) hA8 (.string sy) rfl), (hb.cell (lt_of_heap hA8)).trans (cell_at (o := 2) hA8 (.slice ay x.arity cy) rfl), (hb.cell (lt_of_heap hD8)).trans (cell_at (o := 0) hD8 (.int .i64 x.kind) rfl), (hb.cell (lt_of_heap hD8)).trans (cell_at (o := 1) hD8 (.string sz) rfl), (hb.cell (lt_of_heap hD8)).trans (cell_at (o := 2) hD8 (.slice az x.arity cz) rfl), (hb.cell (lt_of_heap hc8)).trans (cell_at (o := 0) hc8 (.int .i64 (Ex.and x x).kind) rfl), (hb.cell (lt_of_heap hc8)).trans (cell_at (o := 1) hc8 (.string su) rfl), (hb.cell (lt_of_heap hc8)).trans (cell_at (o := 2) hc8 (.slice au (Ex.and x x).arity cu) rfl)⟩
        have HD : Hid (Below w8.heap.size w8 w8.drew) := Lib.hid (Below.refl _ _).drew
        obtain ⟨i0, i1, i2, i3, i4, i5, i6, i7, i8, i9, i10, i11⟩ := KC.out w8 (Below.refl _ _)
        clear hw8 b78 hc8 hC8 hA8 hD8
        have tok1 : True := trivial
        have tok2 : True := trivial
        have tok3 : True := trivial
        have tok4 : True := trivial
        have tok5 : True := trivial
        have tok6 : True := trivial
        have HL : Hid (x.leaves + x.leaves ≤ 1000000000 ∧ (Ex.and x x).leaves + x.leaves ≤ 1000000000) := Lib.hid (by have := HLV.out; simp only [Ex.leaves]; omega)
        go_region_law (first | (go_simp; go_at_call 17; have _t := tok1; (with_reducible refine (specX_any x _ _ _ _ (by exact KY.out _ HD.out)).mono ?_); rintro e9 w9 ⟨z0, z1, z2, rfl, hz, hb9⟩; obtain ⟨s9, a9, cp9, rfl, rfl, rfl, -⟩ := hz.form; have HZ9 := Lib.hid hz.any; have HN9 := Lib.hid (HD.out.trans (hb9.mono HD.out.size)); clear i0 i1 i2 i3 i4 i5 i6 i7 i8 i9 i10 i11; obtain ⟨i0, i1, i2, i3, i4, i5, i6, i7, i8, i9, i10, i11⟩ := KC.out w9 HN9.out; clear hz hb9 _t tok1) | (go_simp; go_at_call 19; have _t := tok2; (with_reducible refine (alike_any x x _ _ _ _ _ _ _ (by exact HZ9.out) (by exact KX.out _ HN9.out) HL.out.1 (fun _ => rfl)).mono ?_); rintro e10 w10 ⟨rfl, hb10⟩; have HN10 := Lib.hid (HN9.out.trans (hb10.mono HN9.out.size)); clear i0 i1 i2 i3 i4 i5 i6 i7 i8 i9 i10 i11; obtain ⟨i0, i1, i2, i3, i4, i5, i6, i7, i8, i9, i10, i11⟩ := KC.out w10 HN10.out; clear hb10 _t tok2) | (go_simp; go_at_call 17; have _t := tok3; (with_reducible refine (specX_any x _ _ _ _ (by exact KZ.out _ HN10.out)).mono ?_); rintro e11 w11 ⟨z0, z1, z2, rfl, hz, hb11⟩; obtain ⟨s11, a11, cp11, rfl, rfl, rfl, -⟩ := hz.form; have HZ11 := Lib.hid hz.any; have HN11 := Lib.hid (HN10.out.trans (hb11.mono HN10.out.size)); clear i0 i1 i2 i3 i4 i5 i6 i7 i8 i9 i10 i11; obtain ⟨i0, i1, i2, i3, i4, i5, i6, i7, i8, i9, i10, i11⟩ := KC.out w11 HN11.out; clear hz hb11 _t tok3) | (go_simp; go_at_call 19; have _t := tok4; (with_reducible refine (alike_any x x _ _ _ _ _ _ _ (by exact HZ11.out) (by exact KX.out _ HN11.out) HL.out.1 (fun _ => rfl)).mono ?_); rintro e12 w12 ⟨rfl, hb12⟩; have HN12 := Lib.hid (HN11.out.trans (hb12.mono HN11.out.size)); clear i0 i1 i2 i3 i4 i5 i6 i7 i8 i9 i10 i11; obtain ⟨i0, i1, i2, i3, i4, i5, i6, i7, i8, i9, i10, i11⟩ := KC.out w12 HN12.out; clear hb12 _t tok4) | (go_simp; go_at_call 17; have _t := tok5; (with_reducible refine (specX_any (.and x x) _ _ _ _ (by exact KU.out _ HN12.out)).mono ?_); rintro e13 w13 ⟨z0, z1, z2, rfl, hz, hb13⟩; obtain ⟨s13, a13, cp13, rfl, rfl, rfl, -⟩ := hz.form; have HZ13 := Lib.hid hz.any; have HN13 := Lib.hid (HN12.out.trans (hb13.mono HN12.out.size)); clear i0 i1 i2 i3 i4 i5 i6 i7 i8 i9 i10 i11; obtain ⟨i0, i1, i2, i3, i4, i5, i6, i7, i8, i9, i10, i11⟩ := KC.out w13 HN13.out; clear hz hb13 _t tok5) | (go_simp; go_at_call 19; have _t := tok6; (with_reducible refine (alike_any (.and x x) x _ _ _ _ _ _ _ (by exact HZ13.out) (by exact KX.out _ HN13.out) HL.out.2 (fun f => by simp [Ex.eval])).mono ?_); rintro e14 w14 ⟨rfl, hb14⟩; have HN14 := Lib.hid (HN13.out.trans (hb14.mono HN13.out.size)); clear i0 i1 i2 i3 i4 i5 i6 i7 i8 i9 i10 i11; obtain ⟨i0, i1, i2, i3, i4, i5, i6, i7, i8, i9, i10, i11⟩ := KC.out w14 HN14.out; clear hb14 _t tok6))
        all_goals go_wp2_with fail
        all_goals go_ret
        all_goals exact ⟨rfl, HB8.out.trans (HN14.out.mono HB8.out.size)⟩
      · go_wp2_with fail
        go_ret
        exact ⟨rfl, HB2.out⟩
    · go_wp2_with fail
      go_ret
      exact ⟨rfl, HB1.out.alloc HB1.out.size _⟩
  · go_wp2_with fail
    go_ret
    exact ⟨rfl, HB1.out.alloc HB1.out.size _⟩
end Go.Proofs.YteemenhinhkonaaDoor
