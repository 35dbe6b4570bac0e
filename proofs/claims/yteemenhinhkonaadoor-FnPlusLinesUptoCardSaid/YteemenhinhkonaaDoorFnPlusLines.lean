/- The walk of laws.FnPlusLines. -/
import Derived.Test.YteemenhinhkonaaDoorProg
import Derived.Test.YteemenhinhkonaaDoorForm
import Derived.Test.YteemenhinhkonaaDoorChoices
import Derived.Test.YteemenhinhkonaaDoorImplEval
import Derived.Test.YteemenhinhkonaaDoorLoop
import Derived.Test.YteemenhinhkonaaDoorPlusE
import Derived.Test.YteemenhinhkonaaDoorPblO
import Derived.Test.YteemenhinhkonaaDoorLeaves
namespace Go.Proofs.YteemenhinhkonaaDoor
open Go.RowKit

theorem fit_join {x : Ex} (hl : x.leaves ≤ 40) (ht : x.tagsLe 1048576) (hf : fineR (rowsE (pn false x)) = true) : Fit (joinR (rowsE (pn false x))) := by
  have h1 : (pn false x).leaves ≤ 40 := by rw [pn_leaves]; exact hl
  unfold joinR
  split
  · exact fit_one _ h1 (pn_nnf x false) (pn_tagsLe x _ false ht) hf
  · exact fit_rows _ h1 (pn_nnf x false) (pn_tagsLe x _ false ht) hf
theorem line_short {x : Ex} (hok : x.tagsOk) (hl : x.leaves ≤ 40) (ht : x.tagsLe 1048576) (hf : fineR (rowsE (pn false x)) = true) : ∀ r ∈ joinR (rowsE (pn false x)), (lineR r).length ≤ 100000000 := by
  have hP := pbl_ok x hok hf
  have hfit := fit_join hl ht hf
  intro r hr
  have h1 := lineR_len r fun a ha l hl => hfit.lit r hr a ha l hl
  have h2 := hP.sums r hr
  have h3 := (hfit.row r hr).2
  omega
theorem no10b {s : ByteArray} (h : (10 : UInt8) ∉ s.data.toList) : hasByte s 10 = false := by
  unfold hasByte
  rw [List.any_eq_false]
  intro c hc e
  have e : c = 10 := by simpa using e
  exact h (e ▸ hc)
theorem go_none (r : List (List Ex)) : goText (lineR r) = none := goText_no (by simp [lineR, Lib.hasPrefix, lineOf, plHead, goWord]; rfl)
def HoldsIn (xs : List Ex) (c : List ByteArray) (w0 : World) (hv j : Value) (w : World) : Prop := ∃ m : Nat, m ≤ xs.length ∧ j = .int .i64 m ∧ hv = .bool ((xs.take m).all fun x => x.eval (hasB c)) ∧ Below w0.heap.size w0 w
theorem holds_next {xs : List Ex} {c : List ByteArray} {w0 w : World} {m : Nat} {x : Ex} {b : Bool} (hx : xs[m]? = some x) (hb : Below w0.heap.size w0 w) (he : b = (((xs.take m).all fun x => x.eval (hasB c)) && x.eval (hasB c))) : HoldsIn xs c w0 (.bool b) (.int .i64 ((m : Int) + 1)) w := by
  refine ⟨m + 1, (List.getElem?_eq_some_iff.1 hx).1, by simp, ?_, hb⟩
  rw [he, List.take_add_one, hx, List.all_append]
  simp

set_option maxRecDepth 100000 in
set_option maxHeartbeats 40000000 in
theorem fnPlusLines_any (n : Nat) (e : E) (c0 c1 c2 : Value) (w : World) (h : EIs (fun _ => True) w n e c0 c1 c2) (hS : E.Small e) (hT : Tabs w) (hEr : Errs w) : Calls Tryd.prog 5 #[.agg #[c0, c1, c2]] w (CallPost true w) := by
  obtain ⟨a, cap, rfl, rfl, rfl⟩ := h.form
  obtain ⟨i0, hi, hz0, hz1, hz2⟩ := info_parts info_iexpr
  have HE := Lib.hid h
  have HSM := Lib.hid hS
  have HT := Lib.hid hT
  have HER := Lib.hid hEr
  clear h hS hT hEr
  go_enter Tryd.func5, Tryd.ntmps5
  go_wp2_with fail
  obtain ⟨wa, hwa⟩ : ∃ wa, wa = w.alloc (.cells #[.int .i64 e.kind, .string e.tag, .slice a e.subs.length cap] 29) := ⟨_, rfl⟩
  rw [← hwa]
  have bwa : Below w.heap.size w wa := by rw [hwa]; exact (Below.refl _ _).alloc (Nat.le_refl _) _
  have swa : wa.heap.size = w.heap.size + 1 := by rw [hwa]; simp
  have d0 : wa.cell? ⟨w.heap.size, 0, none⟩ = some (.int .i64 e.kind) := by rw [hwa]; simp [go_sem]
  have d1 : wa.cell? ⟨w.heap.size, 1, none⟩ = some (.string e.tag) := by rw [hwa]; simp [go_sem]
  have d2 : wa.cell? ⟨w.heap.size, 2, none⟩ = some (.slice a e.subs.length cap) := by rw [hwa]; simp [go_sem]
  have BWA := Lib.hid bwa
  have kc : ∀ w', Below wa.heap.size wa w' → w'.cell? ⟨w.heap.size, 0, none⟩ = some (.int .i64 e.kind) ∧ w'.cell? ⟨w.heap.size, 1, none⟩ = some (.string e.tag) ∧ w'.cell? ⟨w.heap.size, 2, none⟩ = some (.slice a e.subs.length cap) := fun w' hb =>
    ⟨(hb.cell (by simp; omega)).trans d0, (hb.cell (by simp; omega)).trans d1, (hb.cell (by simp; omega)).trans d2⟩
  have KC := Lib.hid kc
  have HEA := Lib.hid (HE.out.below bwa)
  have HTA := Lib.hid (HT.out.below bwa)
  have HRA := Lib.hid (HER.out.below bwa)
  clear hwa bwa swa kc HE HT HER
  refine (lawForm_any n e _ _ _ _ HEA.out).mono ?_
  rintro e1 w1 ⟨b, rfl, hb1, hform⟩
  cases b with
  | false =>
    have HB1 := Lib.hid hb1
    clear hb1 hform
    go_wp2_with fail
    go_ret
    exact ⟨rfl, BWA.out.trans (HB1.out.mono BWA.out.size)⟩
  | true =>
    obtain ⟨x, hx, hd, ho, h8⟩ := hform rfl
    have HX := Lib.hid hx
    have HOK := Lib.hid ho
    have HB1 := Lib.hid hb1
    have HTL := Lib.hid (E.Small.tagsLe hx HSM.out)
    have hlv : x.leaves ≤ 1000000000 := by
      have h1 := (leaves_deep x).1
      have h2 : 2 ^ (x.deep - 1) ≤ 2 ^ 7 := Nat.pow_le_pow_right (by omega) (by omega)
      have h3 : (2 : Nat) ^ 7 = 128 := rfl
      omega
    clear d0 d1 d2
    obtain ⟨q0, q1, q2⟩ := KC.out w1 hb1
    clear hb1 hform hx ho
    go_wp2_with fail
    refine (specExpr_any n e _ _ _ _ (HEA.out.below HB1.out)).mono ?_
    rintro e2 w2 ⟨c2', rfl, hx2, hb2⟩
    obtain ⟨a2, cap2, -, -, rfl⟩ := hx2.form
    have HX2 := Lib.hid (XIs_of HX.out (hx2.widen (S' := fun _ => True) fun _ _ _ => trivial))
    have HB2 := Lib.hid (HB1.out.trans (hb2.mono HB1.out.size))
    clear hx2 hb2 q0 q1 q2
    go_wp2_with fail
    refine (leaves_any x _ _ _ _ HX2.out hlv).mono ?_
    rintro e3 w3 ⟨rfl, hb3⟩
    have HB3 := Lib.hid (HB2.out.trans (hb3.mono HB2.out.size))
    clear hb3
    by_cases h40 : x.leaves ≤ 40
    · have H40 := Lib.hid h40
      obtain ⟨q0, q1, q2⟩ := KC.out w3 HB3.out
      go_wp2_with fail
      refine (implPbl_any x _ _ _ w3 (XIs_of HX.out (HEA.out.below HB3.out)) (HRA.out.below HB3.out) h40 HTL.out).mono ?_
      rintro e4 w4 ⟨hb4, ⟨hf, v, rfl, hss⟩ | ⟨hf, v, rfl⟩⟩
      · have HB4 := Lib.hid (HB3.out.trans (hb4.mono HB3.out.size))
        have HPB := Lib.hid (pbl_ok x HOK.out hf)
        have HSH := Lib.hid (line_short HOK.out H40.out HTL.out hf)
        have hR40 := (fit_join H40.out HTL.out hf).len
        obtain ⟨RR, hRR⟩ : ∃ R, R = joinR (rowsE (pn false x)) := ⟨_, rfl⟩
        rw [← hRR] at HPB HSH hR40 hss
        have HSS := Lib.hid hss
        have hml : (RR.map fun r => mkB (lineR r)).length = RR.length := List.length_map _
        obtain ⟨pv, cv, rfl, -⟩ : ∃ a c, v = .slice a RR.length c ∧ True := by
          obtain ⟨a, c, h1, _⟩ := id hss
          rw [hml] at h1
          exact ⟨a, c, h1, trivial⟩
        have HN0 := Lib.hid (List.length_pos_iff.2 HPB.out.ne)
        clear hb4 hf hss hRR hml q0 q1 q2
        go_wp2_with fail
        go_loopw [5, 39] (fun v i wr => ARout RR w4 v i wr) (fun _ i _ => RR.length - (intOf i).toNat)
        case atStart =>
          refine ⟨0, [], [], Nat.zero_le _, rfl, (Below.refl _ _).alloc (Nat.le_refl _) _, rfl, ?_, fun j x r h => by simp at h, fun j x h => by simp at h⟩
          have h := World.ownsRow_made (base := w4.heap.size) (e := 29) (size := 3) w4 #[] 0 (by simp) (by unfold maxLen; omega) rfl
          simpa using h
        case round =>
          obtain ⟨k, xs, vals, hk, rfl, har⟩ := hrel
          obtain ⟨pt, ct, rfl⟩ := ownsRow_slice har.own
          have HAR := Lib.hid har
          have HBR := Lib.hid (HB4.out.trans (har.below.mono HB4.out.size))
          obtain ⟨wq, hwq⟩ : ∃ x, x = wr := ⟨_, rfl⟩
          subst hwq
          clear har
          by_cases hlt : k < RR.length
          · obtain ⟨r, hr⟩ : ∃ r, RR[k]? = some r := ⟨_, List.getElem?_eq_getElem hlt⟩
            obtain ⟨gt, ot, rfl, hct0⟩ := HSS.out.cell (i := k) (s := mkB (lineR r)) (by rw [List.getElem?_map, hr]; rfl)
            have hct := (HAR.out.below.cell (p := ⟨gt, ot + k, none⟩) (lt_of_cell hct0)).trans hct0
            obtain ⟨m, hm1, hm2, hm3, hm4, hm5⟩ := line_ok HPB.out (List.mem_of_getElem? hr)
            have hsz : (mkB (lineR r)).size ≤ 100000000 := by rw [mkB_size]; exact HSH.out r (List.mem_of_getElem? hr)
            have HM1 := Lib.hid hm1
            have HM2 := Lib.hid hm2
            have HM3 : Hid (litsC (Lib.fieldsD m) ≤ 40) := Lib.hid (Nat.le_trans hm3 H40.out)
            have HGO := Lib.hid (go_none r)
            have HN10 : Hid (hasByte (mkB (lineR r)) 10 = false) := Lib.hid (no10b (by rw [mkB_toList]; exact hm5))
            have HR := Lib.hid hr
            have HTR := Lib.hid (HTA.out.below HBR.out)
            have HRR := Lib.hid (HRA.out.below HBR.out)
            clear hr hct0 hm1 hm2 hm3 hm4 hm5
            go_wp2_with fail
            refine (implParse_all (mkB (lineR r)) wq HN10.out (by omega) HTR.out HRR.out).mono ?_
            rw [mkB_toList]
            rintro e5 w5 ⟨hb5, hcase⟩
            have hres : ∃ y d0 d1 d2, e5 = .returned (.tuple #[.agg #[d0, d1, d2], .int .i64 0, .bool true]) ∧ XIs (fun b => wq.heap.size ≤ b) w5 y d0 d1 d2 ∧ ∀ f, y.eval f = lineEv r f := by
              rcases hcase with ⟨y, d0, d1, d2, hp, he, hx⟩ | ⟨hq, off, he⟩
              · obtain ⟨t, ht, hxe⟩ := hp.2 HGO.out
                rw [HM1.out] at ht
                injection ht with ht
                subst ht
                exact ⟨y, d0, d1, d2, he, hx, fun f => by rw [hxe]; exact HM2.out f⟩
              · have := hq HGO.out m HM1.out
                have := HM3.out
                omega
            obtain ⟨y, d0, d1, d2, rfl, hy, hev⟩ := hres
            obtain ⟨sy, ay, cy, rfl, rfl, rfl, -⟩ := hy.form
            have HB5 := Lib.hid (HBR.out.trans (hb5.mono HBR.out.size))
            have HB5b := Lib.hid hb5
            have HY := Lib.hid hy
            have HEV := Lib.hid hev
            have HT5 := Lib.hid (HTA.out.below HB5.out)
            have hct5 := (hb5.cell (p := ⟨gt, ot + k, none⟩) (lt_of_cell hct)).trans hct
            clear hb5 hcase hy hev hct
            have HP5 := Lib.hid (isPl_any (mkB (lineR r)) (w5.alloc (.cells #[.int .i64 y.kind, .string sy, .slice ay y.arity cy] 29)) HN10.out (by omega) (HT5.out.below ((Below.refl _ _).alloc (Nat.le_refl _) _)))
            rw [mkB_toList, HM1.out] at HP5
            go_wp2_with fail
            refine HP5.out.mono ?_
            rintro e6 w6 ⟨rfl, hb6⟩
            have hba := ((Below.refl w5.heap.size w5).alloc (Nat.le_refl _) (.cells #[.int .i64 y.kind, .string sy, .slice ay y.arity cy] 29))
            have HA6 := Lib.hid ((HAR.out.on HB5b.out).on (hba.trans (hb6.mono hba.size)))
            have HY6 := Lib.hid (HY.out.below (hba.trans (hb6.mono hba.size)))
            have hc6 := (hb6.block w5.heap.size (by simp)).trans (heap_new w5 (.cells #[.int .i64 y.kind, .string sy, .slice ay y.arity cy] 29) rfl)
            have y0 := cell_at (o := 0) hc6 (.int .i64 y.kind) rfl
            have y1 := cell_at (o := 1) hc6 (.string sy) rfl
            have y2 := cell_at (o := 2) hc6 (.slice ay y.arity cy) rfl
            have hs6 : w4.heap.size ≤ w6.heap.size := HA6.out.below.size
            clear hb6 hba hc6 HP5 hct5
            go_wp2_with (at_builtin; refine wpList_append_own_at _ rfl _ _ 27 rfl w4.heap.size 29 i0 _ 3 48 Tryd.underlying27 hi hz0 hz1 hz2 rfl (by decide) _ k vals rfl (HA6.out.own.alloc _) ⟨_, 0, none⟩ 1 1 [.int .i64 y.kind, .string sy, .slice ay y.arity cy] rfl rfl (cells_new3 _ _ _ _ _) (by simp [Value.oneCell']) (by unfold maxLen; omega) (by omega) (by simp; omega) ?_; intro v7 w7 ho7 hg7 _ hat7; have HO7 := Lib.hid ho7; have HG7 := Lib.hid hg7; have HAT7 := Lib.hid hat7; clear ho7 hg7 hat7)
            exact ⟨⟨k + 1, xs ++ [y], vals ++ [.int .i64 y.kind, .string sy, .slice ay y.arity cy], hlt, by go_num, HA6.out.step HR.out HEV.out (fun q hq => (HAR.out.own.lt q hq).2) HY6.out HO7.out ((World.grownBy_alloc _ _ _).trans HG7.out) (by rcases HAT7.out with h | h; exact .inl h; exact .inr ⟨_, h, by simp⟩)⟩, by simp [intOf]; omega⟩
          · obtain rfl : k = RR.length := by omega
            have HFIN := Lib.hid (fun f => all_ev HAR.out.len HAR.out.ev f)
            obtain ⟨gx, cx, hpx, hxc⟩ := HAR.out.at HN0.out
            injection hpx with hpx _ hcx
            subst hpx
            subst hcx
            have HXC := Lib.hid hxc
            obtain ⟨q0, q1, q2⟩ := KC.out wq HBR.out
            clear hxc
            have hxl := HAR.out.len
            have HXL := Lib.hid hxl
            clear hxl
            go_wp2_with fail
            refine (specExpr_any n e _ _ _ _ (HEA.out.below HBR.out)).mono ?_
            rintro e5 w5 ⟨c5', rfl, hx5, hb5⟩
            obtain ⟨a5, cap5, -, -, rfl⟩ := hx5.form
            have HX5 := Lib.hid (XIs_of HX.out (hx5.widen (S' := fun _ => True) fun _ _ _ => trivial))
            have HB5 := Lib.hid (HBR.out.trans (hb5.mono HBR.out.size))
            have HQ5 := Lib.hid hb5
            clear hx5 hb5 q0 q1 q2
            go_wp2_with fail
            refine (tags_any x _ _ _ _ HX5.out hlv).mono ?_
            rintro e6 w6 ⟨vt, rfl, hss6, -, hb6⟩
            have HB6 := Lib.hid (HB5.out.trans (hb6.mono HB5.out.size))
            have HQ6 := Lib.hid (HQ5.out.trans (hb6.mono HQ5.out.size))
            have HSS6 := Lib.hid hss6
            obtain ⟨at6, ct6, rfl, -⟩ : ∃ a cap, vt = .slice a x.tags.length cap ∧ True := by obtain ⟨a, cap, h1, _⟩ := hss6; exact ⟨a, cap, h1, trivial⟩
            clear hss6 hb6
            go_wp2_with fail
            refine (choices_any _ x.tags _ HSS6.out).mono ?_
            rintro e7 w7 ⟨vc, rfl, hll, hb7⟩
            rw [if_pos h8] at hll
            have HB7 := Lib.hid (HB6.out.trans (hb7.mono HB6.out.size))
            have HQ7 := Lib.hid (HQ6.out.trans (hb7.mono HQ6.out.size))
            obtain ⟨ac, cc, rfl, hcell⟩ := hll.cellsAt
            have HCE := Lib.hid hcell
            have hcl : (choices x.tags).length ≤ 256 := by
              have h1 := choices_length x.tags x.tags.length (Nat.le_refl _)
              rw [List.take_of_length_le (Nat.le_refl _)] at h1
              rw [h1]
              exact Nat.le_trans (Nat.pow_le_pow_right (by omega) h8) (by decide)
            have hcm : ∀ c ∈ choices x.tags, c.length ≤ 8 := fun c hc => by
              have := choices_mem x.tags x.tags.length (Nat.le_refl _) c (by rw [List.take_of_length_le (Nat.le_refl _)]; exact hc)
              omega
            have HCM := Lib.hid hcm
            obtain ⟨cs, hcs⟩ : ∃ cs, cs = choices x.tags := ⟨_, rfl⟩
            rw [← hcs] at HCE HCM hcl
            rw [← hcs]
            clear hcs hll hb7 hcell hcm HSS6 HX5
            go_wp2_with fail
            go_loopw [66] (fun i w8 => LoopB cs.length w7 i w8) (fun i _ => cs.length - (intOf i).toNat)
            case atStart => exact ⟨0, Nat.zero_le _, rfl, Below.refl _ _⟩
            case round =>
              obtain ⟨m, hm, rfl, hbr⟩ := hrel
              have HBM := Lib.hid hbr
              have HB8 := Lib.hid (HB7.out.trans (hbr.mono HB7.out.size))
              have HQ8 := Lib.hid (HQ7.out.trans (hbr.mono HQ7.out.size))
              obtain ⟨wm, hwm⟩ : ∃ X, X = wr := ⟨_, rfl⟩
              subst hwm
              clear hbr
              by_cases hlt : m < cs.length
              · obtain ⟨c, hc⟩ : ∃ c, cs[m]? = some c := ⟨_, List.getElem?_eq_getElem hlt⟩
                obtain ⟨b, u, rfl, hcu, ⟨gu, cu, rfl⟩, hssu⟩ := HCE.out m c hc
                have hc8 : c.length ≤ 8 := HCM.out c (List.mem_of_getElem? hc)
                have HSU := Lib.hid ((hssu (by omega)).below HBM.out)
                have hcu' := (HBM.out.cell (p := ⟨b, m, none⟩) (lt_of_cell hcu)).trans hcu
                clear hc hcu hssu
                go_wp2_with fail
                go_loopw [13, 72] (fun hv j w9 => HoldsIn xs c wm hv j w9) (fun _ j _ => RR.length - (intOf j).toNat)
                case atStart => exact ⟨0, Nat.zero_le _, rfl, rfl, Below.refl _ _⟩
                case round =>
                  obtain ⟨j, hj, rfl, rfl, hbj⟩ := hrel
                  rw [HXL.out] at hj
                  have HBJ := Lib.hid hbj
                  clear hbj
                  obtain ⟨hv, hhv⟩ : ∃ h, h = ((xs.take j).all fun x => x.eval (hasB c)) := ⟨_, rfl⟩
                  rw [← hhv]
                  have HHV := Lib.hid hhv
                  clear hhv
                  by_cases hltj : j < RR.length
                  · obtain ⟨y, hy⟩ : ∃ y, xs[j]? = some y := ⟨_, List.getElem?_eq_getElem (by rw [HXL.out]; exact hltj)⟩
                    obtain ⟨y0, y1, y2, g0, g1, g2, hyx⟩ := HXC.out j y hy
                    have hq9 := HQ8.out.trans (HBJ.out.mono HQ8.out.size)
                    rw [← hq9.cell (p := ⟨_, _, none⟩) (lt_of_cell g0)] at g0
                    rw [← hq9.cell (p := ⟨_, _, none⟩) (lt_of_cell g1)] at g1
                    rw [← hq9.cell (p := ⟨_, _, none⟩) (lt_of_cell g2)] at g2
                    obtain ⟨sy, ay, cy, rfl, rfl, rfl, -⟩ := hyx.form
                    have HY := Lib.hid hy
                    have HYX := Lib.hid (hyx.below hq9)
                    have HSJ := Lib.hid (HSU.out.below HBJ.out)
                    clear hy hyx hq9 hcu'
                    cases hv with
                    | false =>
                      go_wp2_with fail
                      exact ⟨holds_next HY.out (HBJ.out.alloc HBJ.out.size _) (by rw [← HHV.out]; rfl), by simp [intOf]; omega⟩
                    | true =>
                      go_wp2_with fail
                      have hba := (Below.refl wr.heap.size wr).alloc (Nat.le_refl _) (.cells #[.int .i64 y.kind, .string sy, .slice ay y.arity cy] 29)
                      refine (implEval_any y _ _ _ _ c _ (HYX.out.below hba) (HSJ.out.below hba)).mono ?_
                      rintro e9 w9 ⟨rfl, hb9⟩
                      have HB9 := Lib.hid ((HBJ.out.alloc HBJ.out.size _).trans (hb9.mono (HBJ.out.alloc HBJ.out.size _).size))
                      clear hb9 hba g0 g1 g2
                      go_wp2_with fail
                      exact ⟨holds_next HY.out HB9.out (by rw [← HHV.out]; rfl), by simp [intOf]; omega⟩
                  · have hte : xs.take j = xs := List.take_of_length_le (by rw [HXL.out]; omega)
                    have HHV2 : Hid (hv = x.eval (hasB c)) := Lib.hid (by rw [HHV.out, hte, HFIN.out, HPB.out.ev])
                    have HB9 := Lib.hid (HB8.out.trans (HBJ.out.mono HB8.out.size))
                    have HM9 := Lib.hid (HBM.out.trans (HBJ.out.mono HBM.out.size))
                    have HSJ := Lib.hid (HSU.out.below HBJ.out)
                    obtain ⟨q0, q1, q2⟩ := KC.out _ HB9.out
                    clear hte hcu'
                    go_wp2_with fail
                    refine (specExpr_any n e _ _ _ _ (HEA.out.below HB9.out)).mono ?_
                    rintro e9 w9 ⟨c9', rfl, hx9, hb9⟩
                    obtain ⟨a9, cap9, -, -, rfl⟩ := hx9.form
                    have HX9 := Lib.hid (XIs_of HX.out (hx9.widen (S' := fun _ => True) fun _ _ _ => trivial))
                    have HM10 := Lib.hid (HM9.out.trans (hb9.mono HM9.out.size))
                    have HSK := Lib.hid (HSJ.out.below hb9)
                    clear hx9 hb9 q0 q1 q2
                    go_wp2_with fail
                    refine (specEval_any x _ _ _ _ c _ HX9.out HSK.out).mono ?_
                    rw [← HHV2.out]
                    rintro e10 w10 ⟨rfl, hb10⟩
                    have HM11 := Lib.hid (HM10.out.trans (hb10.mono HM10.out.size))
                    clear hb10
                    cases hv with
                    | false =>
                      go_wp2_with fail
                      exact ⟨⟨m + 1, hlt, by go_num, HM11.out⟩, by simp [intOf]; omega⟩
                    | true =>
                      go_wp2_with fail
                      exact ⟨⟨m + 1, hlt, by go_num, HM11.out⟩, by simp [intOf]; omega⟩
              · go_wp2_with fail
                go_ret
                exact ⟨ret_bool (by have := HN0.out; simp; omega), BWA.out.trans (HB8.out.mono BWA.out.size)⟩
      · have HB4 := Lib.hid (HB3.out.trans (hb4.mono HB3.out.size))
        have HSI : Hid (simpB x = false) := Lib.hid (by
          rw [Bool.eq_false_iff]
          intro h
          rw [simp_fine h] at hf
          cases hf)
        clear hb4 hf q0 q1 q2
        obtain ⟨q0, q1, q2⟩ := KC.out w4 HB4.out
        go_wp2_with fail
        refine (specExpr_any n e _ _ _ _ (HEA.out.below HB4.out)).mono ?_
        rintro e5 w5 ⟨c5', rfl, hx5, hb5⟩
        obtain ⟨a5, cap5, -, -, rfl⟩ := hx5.form
        have HX5 := Lib.hid (XIs_of HX.out (hx5.widen (S' := fun _ => True) fun _ _ _ => trivial))
        have HB5 := Lib.hid (HB4.out.trans (hb5.mono HB4.out.size))
        clear hx5 hb5 q0 q1 q2
        go_wp2_with fail
        refine (simple_any x _ _ _ _ HX5.out).mono ?_
        rw [HSI.out]
        rintro e6 w6 ⟨rfl, hb6⟩
        have HB6 := Lib.hid (HB5.out.trans (hb6.mono HB5.out.size))
        clear hb6
        go_wp2_with fail
        go_ret
        exact ⟨rfl, BWA.out.trans (HB6.out.mono BWA.out.size)⟩
    · go_wp2_with fail
      go_ret
      exact ⟨rfl, BWA.out.trans (HB3.out.mono BWA.out.size)⟩
end Go.Proofs.YteemenhinhkonaaDoor
