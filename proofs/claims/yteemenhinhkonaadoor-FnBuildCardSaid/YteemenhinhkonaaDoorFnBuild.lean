/- The walk of laws.FnBuild. -/
import Derived.Test.YteemenhinhkonaaDoorProg
import Derived.Test.YteemenhinhkonaaDoorBridge
import Derived.Test.YteemenhinhkonaaDoorBackEx
import Derived.Test.YteemenhinhkonaaDoorBackRd
import Derived.Test.YteemenhinhkonaaDoorAlike
import Derived.Test.YteemenhinhkonaaDoorRead
import Derived.Test.YteemenhinhkonaaDoorImplText
import Derived.Test.YteemenhinhkonaaDoorLoop
namespace Go.Proofs.YteemenhinhkonaaDoor
open Go.RowKit

set_option maxHeartbeats 40000000 in
set_option maxRecDepth 100000 in
theorem fnBuild_any (s : ByteArray) (w : World) (hs : s.size ≤ 1152921504606846976) (hT : Tabs w) : Calls Tryd.prog 13 #[.string s] w (CallPost true w) := by
  have HT := Lib.hid hT
  clear hT
  go_enter Tryd.func13, Tryd.ntmps13
  go_wp2_with fail
  refine (read_any s w hs).mono ?_
  rintro e1 w1 ⟨hg1, hrd⟩
  have hb1 := below_of_grown hg1
  have HB1 := Lib.hid hb1
  have HT1 := Lib.hid (HT.out.below hb1)
  clear hg1 hb1
  rcases hrd with ⟨-, rfl⟩ | ⟨hok, x, c0, c1, c2, st, rfl, hx, hlv, hsp⟩
  · go_wp2_with fail
    go_ret
    exact ⟨rfl, HB1.out.alloc HB1.out.size _⟩
  obtain ⟨sx, ax, cx, rfl, rfl, rfl, -⟩ := hx.form
  have HX := Lib.hid hx.any
  have HSP := Lib.hid hsp
  have HOK := Lib.hid hok
  have HLV := Lib.hid hlv
  clear hx hsp hok hlv
  by_cases hst0 : st = 0
  · subst hst0
    go_wp2_with fail
    go_ret
    exact ⟨rfl, HB1.out.alloc HB1.out.size _⟩
  by_cases hlen : s.size ≤ 500
  · go_wp2_with fail
    obtain ⟨wa, hwa⟩ : ∃ wa, wa = w1.alloc (.cells #[.int .i64 x.kind, .string sx, .slice ax x.arity cx] 24) := ⟨_, rfl⟩
    rw [← hwa]
    have hba : Below w1.heap.size w1 wa := by rw [hwa]; exact (Below.refl _ _).alloc (Nat.le_refl _) _
    have hca : wa.heap[w1.heap.size]? = some (.cells #[.int .i64 x.kind, .string sx, .slice ax x.arity cx] 24 (0, 0)) := by rw [hwa]; exact heap_new _ _ rfl
    have HBA := Lib.hid (HB1.out.trans (hba.mono HB1.out.size))
    have HXA := Lib.hid (HX.out.below hba)
    have HTA := Lib.hid (HT1.out.below hba)
    have HCA := Lib.hid hca
    clear hwa hba hca
    refine (tags_any x _ _ _ wa HXA.out (by have := HLV.out; omega)).mono ?_
    rintro e2 w2 ⟨v, rfl, hss, -, hb2⟩
    obtain ⟨av, cv, rfl, hvl, -⟩ : ∃ a cap, v = .slice a x.tags.length cap ∧ x.tags.length ≤ 140737488355328 ∧ True := by obtain ⟨a, cap, h1, h2, _⟩ := hss; exact ⟨a, cap, h1, h2, trivial⟩
    have HB2 := Lib.hid (HBA.out.trans (hb2.mono HBA.out.size))
    have HX2 := Lib.hid (HXA.out.below hb2)
    have HT2 := Lib.hid (HTA.out.below hb2)
    have HC2 := Lib.hid ((hb2.block _ (lt_of_heap HCA.out)).trans HCA.out)
    clear hss hb2
    by_cases h8 : x.tags.length ≤ 8
    · have hlen2 : s.data.toList.length = s.size := by simp
      have HL2 := Lib.hid hlen2
      have e1 : (ByteArray.mk #[47, 47, 103, 111, 58, 98, 117, 105, 108, 100, 32]).size = 11 := rfl
      have s1 := fun w => run_string_add_sum (P := Tryd.prog) w { data := #[47, 47, 103, 111, 58, 98, 117, 105, 108, 100, 32] } s (by rw [e1]; omega)
      clear e1 hlen2
      by_cases hst : st = 1
      · subst hst
        obtain ⟨n, hrd⟩ : ∃ n, Rd n s.data.toList x := by
          rcases HSP.out with ⟨_, n, h⟩ | ⟨h, _⟩ | ⟨h, _⟩
          · exact ⟨n, h⟩
          · omega
          · omega
        have HRD := Lib.hid hrd
        clear hrd
        go_wp2_with fail
        refine (parse_is (l := s.data.toList) _ w2 (by simp [goWord, ByteArray.data_append]) (textOk_plain HOK.out) HRD.out (by rw [HL2.out]; omega) HT2.out).mono ?_
        rintro e3 w3 ⟨d0, d1, d2, rfl, hy, hb3⟩
        obtain ⟨sy, ay, cy, rfl, rfl, rfl, -⟩ := hy.form
        have HB3 := Lib.hid (HB2.out.trans (hb3.mono HB2.out.size))
        have HX3 := Lib.hid (HX2.out.below hb3)
        have HY := Lib.hid hy.any
        have hc3 := (hb3.block _ (lt_of_heap HC2.out)).trans HC2.out
        have HC3 := Lib.hid hc3
        have q0 := cell_at (o := 0) hc3 (.int .i64 x.kind) rfl
        have q1 := cell_at (o := 1) hc3 (.string sx) rfl
        have q2 := cell_at (o := 2) hc3 (.slice ax x.arity cx) rfl
        have qd0 := cellsA q0
        have qd1 := cellsA q1
        have qd2 := cellsA q2
        clear hy hb3 s1 hc3
        go_wp2_with fail
        obtain ⟨w4, hw4⟩ : ∃ w4, w4 = w3.alloc (.cells #[.int .i64 x.kind, .string sy, .slice ay x.arity cy] 29) := ⟨_, rfl⟩
        rw [← hw4]
        have b34 : Below w3.heap.size w3 w4 := by rw [hw4]; exact (Below.refl _ _).alloc (Nat.le_refl _) _
        have hc4 : w4.heap[w3.heap.size]? = some (.cells #[.int .i64 x.kind, .string sy, .slice ay x.arity cy] 29 (0, 0)) := by rw [hw4]; exact heap_new _ _ rfl
        have hx4 := (b34.block _ (lt_of_heap HC3.out)).trans HC3.out
        have HB4 := Lib.hid (HB3.out.trans (b34.mono HB3.out.size))
        have KY : Hid (∀ W', Below w4.heap.size w4 W' → XIs (fun _ => True) W' x (.int .i64 x.kind) (.string sy) (.slice ay x.arity cy)) := Lib.hid fun W' hb => (HY.out.below b34).below hb
        have KX : Hid (∀ W', Below w4.heap.size w4 W' → XIs (fun _ => True) W' x (.int .i64 x.kind) (.string sx) (.slice ax x.arity cx)) := Lib.hid fun W' hb => (HX3.out.below b34).below hb
        have KC : Hid (∀ W', Below w4.heap.size w4 W' → W'.cell? ⟨w1.heap.size, 0, none⟩ = some (.int .i64 x.kind) ∧ W'.cell? ⟨w1.heap.size, 1, none⟩ = some (.string sx) ∧ W'.cell? ⟨w1.heap.size, 2, none⟩ = some (.slice ax x.arity cx) ∧ W'.cell? ⟨w3.heap.size, 0, none⟩ = some (.int .i64 x.kind) ∧ W'.cell? ⟨w3.heap.size, 1, none⟩ = some (.string sy) ∧ W'.cell? ⟨w3.heap.size, 2, none⟩ = some (.slice ay x.arity cy)) := Lib.hid fun W' hb => ⟨(hb.cell (lt_of_heap hx4)).trans (cell_at (o := 0) hx4 (.int .i64 x.kind) rfl), (hb.cell (lt_of_heap hx4)).trans (cell_at (o := 1) hx4 (.string sx) rfl), (hb.cell (lt_of_heap hx4)).trans (cell_at (o := 2) hx4 (.slice ax x.arity cx) rfl), (hb.cell (lt_of_heap hc4)).trans (cell_at (o := 0) hc4 (.int .i64 x.kind) rfl), (hb.cell (lt_of_heap hc4)).trans (cell_at (o := 1) hc4 (.string sy) rfl), (hb.cell (lt_of_heap hc4)).trans (cell_at (o := 2) hc4 (.slice ay x.arity cy) rfl)⟩
        clear hw4 b34 hc4 hx4 q0 q1 q2 qd0 qd1 qd2
        refine (tags_any x _ _ _ w4 (KX.out _ (Below.refl _ _)) (by have := HLV.out; omega)).mono ?_
        rintro e5 w5 ⟨v, rfl, hss, -, hb5⟩
        have HN5 := Lib.hid hb5
        have HSS := Lib.hid hss
        obtain ⟨at_, ct, rfl, -⟩ : ∃ a cap, v = .slice a x.tags.length cap ∧ True := by obtain ⟨a, cap, h1, _⟩ := hss; exact ⟨a, cap, h1, trivial⟩
        clear hss hb5
        go_wp2_with fail
        refine (choices_any _ x.tags _ HSS.out).mono ?_
        rintro e6 w6 ⟨vc, rfl, hll, hb6⟩
        rw [if_pos h8] at hll
        have HN6 := Lib.hid (HN5.out.trans (hb6.mono HN5.out.size))
        obtain ⟨ac, cc, rfl, hcell⟩ := hll.cellsAt
        have HCE := Lib.hid hcell
        have hsm := choices_small x.tags h8
        have hcl := hsm.1
        have HCM := Lib.hid hsm.2
        obtain ⟨cs, hcs⟩ : ∃ cs, cs = choices x.tags := ⟨_, rfl⟩
        rw [← hcs] at HCE HCM hcl
        rw [← hcs]
        clear hcs hll hb6 hcell hsm HSS
        go_wp2_with fail
        go_loopw [49] (fun i wr => LoopB cs.length w6 i wr) (fun i _ => cs.length - (intOf i).toNat)
        case atStart => exact ⟨0, Nat.zero_le _, rfl, Below.refl _ _⟩
        case round =>
          obtain ⟨k, hk, rfl, hbr⟩ := hrel
          have HBR := Lib.hid hbr
          have HNR := Lib.hid (HN6.out.trans (hbr.mono HN6.out.size))
          clear hbr
          by_cases hlt : k < cs.length
          · obtain ⟨c, hc⟩ : ∃ c, cs[k]? = some c := ⟨_, List.getElem?_eq_getElem hlt⟩
            obtain ⟨b, u, rfl, hcu, ⟨gu, cu, rfl⟩, hssu⟩ := HCE.out k c hc
            have hc8 : c.length ≤ 8 := HCM.out c (List.mem_of_getElem? hc)
            have HSU := Lib.hid ((hssu (by omega)).below HBR.out)
            have hcu' := (HBR.out.cell (p := ⟨b, k, none⟩) (lt_of_cell hcu)).trans hcu
            obtain ⟨i0, i1, i2, i3, i4, i5⟩ := KC.out wr HNR.out
            have HD : Hid (Below wr.heap.size wr wr.drew) := Lib.hid (Below.refl _ _).drew
            have KYR : Hid (∀ W', Below wr.heap.size wr W' → XIs (fun _ => True) W' x (.int .i64 x.kind) (.string sy) (.slice ay x.arity cy)) := Lib.hid fun W' hb => KY.out W' (HNR.out.trans (hb.mono HNR.out.size))
            have KXR : Hid (∀ W', Below wr.heap.size wr W' → XIs (fun _ => True) W' x (.int .i64 x.kind) (.string sx) (.slice ax x.arity cx)) := Lib.hid fun W' hb => KX.out W' (HNR.out.trans (hb.mono HNR.out.size))
            have KCR : Hid (∀ W', Below wr.heap.size wr W' → W'.cell? ⟨w1.heap.size, 0, none⟩ = some (.int .i64 x.kind) ∧ W'.cell? ⟨w1.heap.size, 1, none⟩ = some (.string sx) ∧ W'.cell? ⟨w1.heap.size, 2, none⟩ = some (.slice ax x.arity cx) ∧ W'.cell? ⟨w3.heap.size, 0, none⟩ = some (.int .i64 x.kind) ∧ W'.cell? ⟨w3.heap.size, 1, none⟩ = some (.string sy) ∧ W'.cell? ⟨w3.heap.size, 2, none⟩ = some (.slice ay x.arity cy)) := Lib.hid fun W' hb => KC.out W' (HNR.out.trans (hb.mono HNR.out.size))
            have HSD := Lib.hid (HSU.out.below HD.out)
            obtain ⟨bv, hbv⟩ : ∃ bv, bv = x.eval (hasB c) := ⟨_, rfl⟩
            have HG := Lib.hid hbv.symm
            clear hc hcu hssu hbv
            go_wp2_with fail
            go_region_law (first | (go_simp; go_at_call 23; (with_reducible refine (implEval_any x _ _ _ _ c _ (by exact KYR.out _ HD.out) (by exact HSD.out)).mono ?_); rw [HG.out]; rintro e7 w7 ⟨rfl, hb7⟩; have HN7 := Lib.hid (HD.out.trans (hb7.mono HD.out.size)); have HS7 := Lib.hid (HSD.out.below hb7); clear i0 i1 i2 i3 i4 i5; obtain ⟨i0, i1, i2, i3, i4, i5⟩ := KCR.out w7 HN7.out; clear hb7) | (go_simp; go_at_call 32; (with_reducible refine (specEval_any x _ _ _ _ c _ (by exact KXR.out _ HN7.out) (by exact HS7.out)).mono ?_); rw [HG.out]; rintro e8 w8 ⟨rfl, hb8⟩; have HN8 := Lib.hid (HN7.out.trans (hb8.mono HN7.out.size)); clear hb8))
            all_goals go_wp2_with fail
            all_goals exact ⟨⟨k + 1, hlt, by go_num, HBR.out.trans (HN8.out.mono HBR.out.size)⟩, by simp [intOf]; omega⟩
          · obtain ⟨i0, i1, i2, i3, i4, i5⟩ := KC.out wr HNR.out
            have HD : Hid (Below w4.heap.size w4 wr.drew) := Lib.hid HNR.out.drew
            have HL : Hid (x.leaves + x.leaves ≤ 1000000000) := Lib.hid (by have := HLV.out; omega)
            go_wp2_with fail
            go_region_law (first | (go_simp; go_at_call 17; (with_reducible refine (specX_any x _ _ _ _ (by exact KY.out _ HD.out)).mono ?_); rintro e9 w9 ⟨z0, z1, z2, rfl, hz, hb9⟩; obtain ⟨s9, a9, cp9, rfl, rfl, rfl, -⟩ := hz.form; have HZ9 := Lib.hid hz.any; have HN9 := Lib.hid (HD.out.trans (hb9.mono HD.out.size)); clear i0 i1 i2 i3 i4 i5; obtain ⟨i0, i1, i2, i3, i4, i5⟩ := KC.out w9 HN9.out; clear hz hb9) | (go_simp; go_at_call 19; (with_reducible refine (alike_any x x _ _ _ _ _ _ _ (by exact HZ9.out) (by exact KX.out _ HN9.out) HL.out (fun _ => rfl)).mono ?_); rintro e10 w10 ⟨rfl, hb10⟩; have HN10 := Lib.hid (HN9.out.trans (hb10.mono HN9.out.size)); clear hb10))
            all_goals go_wp2_with fail
            all_goals go_ret
            all_goals exact ⟨rfl, HB4.out.trans (HN10.out.mono HB4.out.size)⟩
      · obtain rfl : st = 2 := by rcases HSP.out with ⟨h, _⟩ | ⟨h, _⟩ | ⟨h, _⟩ <;> omega
        have hno : ∀ n y, orP (pOr n) s.data.toList ≠ some (y, []) := by
          rcases HSP.out with ⟨h, _⟩ | ⟨_, h⟩ | ⟨h, _⟩
          · omega
          · exact h
          · omega
        have HNO := Lib.hid hno
        clear hno
        go_wp2_with fail
        refine (parse_no (l := s.data.toList) _ w2 (by simp [goWord, ByteArray.data_append]) (textOk_plain HOK.out) HNO.out (by rw [HL2.out]; omega) HT2.out).mono ?_
        rintro e3 w3 ⟨off, rfl, -, -, hb3⟩
        have HB3 := Lib.hid (HB2.out.trans (hb3.mono HB2.out.size))
        clear hb3 s1
        go_wp2_with fail
        go_ret
        exact ⟨rfl, HB3.out.alloc HB3.out.size _⟩
    · go_wp2_with fail
      go_ret
      exact ⟨rfl, HB2.out⟩
  · go_wp2_with fail
    go_ret
    exact ⟨rfl, HB1.out.alloc HB1.out.size _⟩
end Go.Proofs.YteemenhinhkonaaDoor
