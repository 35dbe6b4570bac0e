/- The walk of laws.FnPlus. -/
import Derived.Test.YteemenhinhkonaaDoorProg
import Derived.Test.YteemenhinhkonaaDoorPlusE
import Derived.Test.YteemenhinhkonaaDoorPlusI
import Derived.Test.YteemenhinhkonaaDoorFnIsBuild
import Derived.Test.YteemenhinhkonaaDoorLoop
import Derived.Test.YteemenhinhkonaaDoorAlike
import Derived.Maps.AppendAt
import Derived.RegionTactic
namespace Go.Proofs.YteemenhinhkonaaDoor
open Go.RowKit

def nameT (t : List UInt8) : List UInt8 := match t with | 33 :: u => u | _ => t
theorem nameT_else {c : UInt8} {r : List UInt8} (h : ¬ c.toNat = 33) : nameT (c :: r) = c :: r := by
  unfold nameT
  split
  · rename_i e
    injection e with e _
    exact absurd (by rw [e]; rfl) h
  · rfl
def accN (ts : List (List UInt8)) : List ByteArray := ts.foldl (fun acc t => addTag acc (mkB (nameT t))) []
theorem accN_snoc (ts : List (List UInt8)) (t : List UInt8) : accN (ts ++ [t]) = addTag (accN ts) (mkB (nameT t)) := by unfold accN; rw [List.foldl_append]; rfl
theorem accN_len (ts : List (List UInt8)) : (accN ts).length ≤ ts.length := by
  induction ts using snoc_recT with
  | h0 => simp [accN]
  | h1 ts t ih =>
    rw [accN_snoc, List.length_append]
    have := addTag_length (accN ts) (mkB (nameT t))
    simp
    omega
def seen (os : List (List (List UInt8))) (o : List (List UInt8)) (k m : Nat) : List (List UInt8) := (os.take k).flatten ++ o.take m
theorem seen_len (os : List (List (List UInt8))) (k : Nat) : (os.take k).flatten.length ≤ bulkO os := by
  have h1 : ∀ l : List (List (List UInt8)), l.flatten.length ≤ bulkO l := by
    intro l
    induction l with
    | nil => simp [bulkO]
    | cons o r ih =>
      have := len_sum (fun t : List UInt8 => t.length) o
      have e : bulkO (o :: r) = 1 + bulkT o + bulkO r := by simp [bulkO]
      rw [List.flatten_cons, List.length_append, e]
      unfold bulkT
      omega
  exact Nat.le_trans (h1 _) (bulk_take os k)
def TgR (ts : List (List UInt8)) (w : World) (v n : Value) (wr : World) : Prop := n = .int .i64 (ts.length : Int) ∧ wr.ownsRow w.heap.size 9 1 v (accN ts).length ((accN ts).map Value.string) ∧ Below w.heap.size w wr
def TgOut (os : List (List (List UInt8))) (w : World) (v n i : Value) (wr : World) : Prop := ∃ k : Nat, k ≤ os.length ∧ i = .int .i64 (k : Int) ∧ TgR (os.take k).flatten w v n wr
def TgIn (P : List (List UInt8)) (o : List (List UInt8)) (w : World) (v n j : Value) (wr : World) : Prop := ∃ m : Nat, m ≤ o.length ∧ j = .int .i64 (m : Int) ∧ TgR (P ++ o.take m) w v n wr
theorem TgR.hit {ts : List (List UInt8)} {t : List UInt8} {w wr : World} {v : Value} (h : TgR ts w v (.int .i64 (ts.length : Int)) wr) (hh : hasB (accN ts) (mkB (nameT t)) = true) : TgR (ts ++ [t]) w v (.int .i64 ((ts.length : Int) + 1)) wr := by
  refine ⟨by simp, ?_, h.2.2⟩
  rw [accN_snoc, addTag, hh]
  exact h.2.1
theorem TgR.miss {ts : List (List UInt8)} {t : List UInt8} {w wr w3 : World} {v v' : Value} {o : Obj} (h : TgR ts w v (.int .i64 (ts.length : Int)) wr) (hh : hasB (accN ts) (mkB (nameT t)) = false)
    (ho : w3.ownsRow w.heap.size 9 1 v' ((accN ts).length + 1) ((accN ts).map Value.string ++ [.string (mkB (nameT t))])) (hg : (wr.alloc o).grownBy w3 v.ownBlock) : TgR (ts ++ [t]) w v' (.int .i64 ((ts.length : Int) + 1)) w3 := by
  have hg' : wr.grownBy w3 v.ownBlock := (World.grownBy_alloc wr o _).trans hg
  refine ⟨by simp, ?_, h.2.2.grown hg' h.2.2.size (fun q hq => (h.2.1.lt q hq).1)⟩
  rw [accN_snoc, addTag, hh]
  simpa using ho
set_option maxRecDepth 100000 in
set_option maxHeartbeats 40000000 in
theorem fnPlus_any (v : Value) (os : List (List (List UInt8))) (w : World) (h : OS w v os) (hbk : bulkO os ≤ 1048576) (hT : Tabs w) (hE : Errs w) : Calls Tryd.prog 4 #[v] w (CallPost true w) := by
  obtain ⟨i0, hi, hz0, hz1, hz2⟩ := info_parts info_string
  obtain ⟨pv, cv, rfl⟩ : ∃ a c, v = .slice a os.length c := by obtain ⟨a, c, h, _⟩ := h; exact ⟨a, c, h⟩
  have HO := Lib.hid h
  have HT := Lib.hid hT
  have HE := Lib.hid hE
  have HBK := Lib.hid hbk
  have hol : os.length ≤ 1048576 := Nat.le_trans (len_sum _ _) hbk
  clear h hT hE hbk
  go_enter Tryd.func4, Tryd.ntmps4
  go_wp2_with fail
  refine (plus_any _ os w HO.out HBK.out).mono ?_
  rintro e0 w0 ⟨hb0, l, ok, rfl, hll, hok⟩
  have HB0 := Lib.hid hb0
  have HOK := Lib.hid hok
  have HLL : Hid ((mkB l).size ≤ 1000000000) := Lib.hid (by rw [mkB_size]; exact hll)
  clear hb0 hok hll
  go_wp2_with fail
  go_loopw [5, 6, 24] (fun v n i wr => TgOut os w0 v n i wr) (fun _ _ i _ => os.length - (intOf i).toNat)
  case atStart =>
    refine ⟨0, Nat.zero_le _, rfl, rfl, ?_, (Below.refl _ _).alloc (Nat.le_refl _) _⟩
    have h := World.ownsRow_made (base := w0.heap.size) (e := 9) (size := 1) w0 #[] 0 (by simp) (by unfold maxLen; omega) rfl
    simpa [accN] using h
  case round =>
    obtain ⟨k, hk, rfl, htr⟩ := hrel
    obtain ⟨P, hP⟩ : ∃ P, P = (os.take k).flatten := ⟨_, rfl⟩
    rw [← hP] at htr
    obtain ⟨pt, ct, hu5⟩ := ownsRow_slice htr.2.1
    have hn5 := htr.1
    subst hu5
    subst hn5
    have hPl : P.length ≤ 1048576 := by rw [hP]; have := seen_len os k; have := HBK.out; omega
    have HPE := Lib.hid hP
    have HTR := Lib.hid htr
    clear htr hP
    by_cases hlt : k < os.length
    · obtain ⟨o, ho⟩ : ∃ o, os[k]? = some o := ⟨_, List.getElem?_eq_getElem hlt⟩
      obtain ⟨b, off, u, rfl, hcell0, hss⟩ := (HO.out.below HB0.out).get ho
      have hcell := (HTR.out.2.2.cell (p := ⟨b, off + k, none⟩) (lt_of_cell hcell0)).trans hcell0
      have hml : (o.map mkB).length = o.length := List.length_map _
      obtain ⟨a2, c2, hu, _⟩ := id hss
      rw [hml] at hu
      subst hu
      have hbt := bulk_opt (List.mem_of_getElem? ho)
      have hlo : o.length ≤ 1048576 := by have := HBK.out; have := len_sum (fun t : List UInt8 => t.length) o; unfold bulkT at hbt; omega
      have hbt2 : bulkT o ≤ 1048576 := by have := HBK.out; omega
      have HBT := Lib.hid hbt2
      have HSS := Lib.hid hss
      have HOK2 := Lib.hid ho
      have HNX : Hid ((os.take (k + 1)).flatten = P ++ o) := Lib.hid (by rw [List.take_add_one, ho, Option.toList_some, List.flatten_append, ← HPE.out]; simp)
      clear hss hml ho hbt hbt2 hcell0
      obtain ⟨wo, hwo⟩ : ∃ x, x = wr := ⟨_, rfl⟩
      subst hwo
      go_wp2_with fail
      go_loopw [5, 6, 30] (fun v n j wq => TgIn P o w0 v n j wq) (fun _ _ j _ => o.length - (intOf j).toNat)
      case atStart => exact ⟨0, Nat.zero_le _, rfl, by simpa using HTR.out⟩
      case round =>
        obtain ⟨m, hm, rfl, hti⟩ := hrel
        obtain ⟨ts, hts⟩ : ∃ ts, ts = P ++ o.take m := ⟨_, rfl⟩
        rw [← hts] at hti
        obtain ⟨pt2, ct2, hu5⟩ := ownsRow_slice hti.2.1
        have hn5 := hti.1
        subst hu5
        subst hn5
        have htl : ts.length ≤ 2097152 := by rw [hts, List.length_append, List.length_take]; omega
        have hal : (accN ts).length ≤ 2097152 := Nat.le_trans (accN_len ts) htl
        have HSA := Lib.hid (SS.of_row hti.2.1 (by omega))
        have HTE := Lib.hid hts
        have HTI := Lib.hid hti
        clear hti hts
        by_cases hlm : m < o.length
        · obtain ⟨t, ht⟩ : ∃ t, o[m]? = some t := ⟨_, List.getElem?_eq_getElem hlm⟩
          obtain ⟨gt, ot, rfl, hct0⟩ := HSS.out.cell (i := m) (s := mkB t) (by rw [List.getElem?_map, ht]; rfl)
          have hct := (HTI.out.2.2.cell (p := ⟨gt, ot + m, none⟩) (lt_of_cell hct0)).trans hct0
          have htl2 : t.length ≤ 1048576 := by have := bulk_term (List.mem_of_getElem? ht); have := HBT.out; omega
          have HTN : Hid (P ++ o.take (m + 1) = ts ++ [t]) := Lib.hid (by rw [List.take_add_one, ht, Option.toList_some, ← List.append_assoc, ← HTE.out])
          clear hct0 ht
          cases t with
          | nil =>
            have hz : ((mkB []).size : Int) = 0 := rfl
            have HNM : Hid (nameT [] = []) := Lib.hid (rfl)
            cases hh : hasB (accN ts) (mkB []) with
            | true =>
              have HHH : Hid (hasB (accN ts) (mkB (nameT [])) = true) := Lib.hid (by rw [HNM.out]; exact hh)
              go_wp2_with fail
              refine (has_any _ _ _ _ HSA.out).mono ?_
              rw [hh]
              rintro e1 w1 ⟨rfl, rfl⟩
              clear hh
              go_wp2_with fail
              exact ⟨⟨m + 1, hlm, by go_num, by rw [HTN.out]; exact HTI.out.hit HHH.out⟩, by simp [intOf]; omega⟩
            | false =>
              have HHH : Hid (hasB (accN ts) (mkB (nameT [])) = false) := Lib.hid (by rw [HNM.out]; exact hh)
              go_wp2_with fail
              refine (has_any _ _ _ _ HSA.out).mono ?_
              rw [hh]
              rintro e1 w1 ⟨rfl, rfl⟩
              clear hh
              go_wp2_with (at_builtin; refine wpList_append_own_at _ rfl _ _ 41 rfl w0.heap.size 9 i0 _ 1 16 Tryd.underlying41 hi hz0 hz1 hz2 rfl (by decide) _ _ _ rfl (HTI.out.2.1.alloc _) ⟨_, 0, none⟩ 1 1 [.string (mkB [])] rfl rfl (cell_one_new _ _ _) (by simp [Value.oneCell']) (by unfold maxLen; omega) (by omega) (by have := HTI.out.2.2.size; simp; omega) ?_; intro v' w4 hown4 hgrow _ _; have HO4 := Lib.hid hown4; have HG4 := Lib.hid hgrow; clear hown4 hgrow)
              exact ⟨⟨m + 1, hlm, by go_num, by rw [HTN.out]; exact HTI.out.miss HHH.out (by rw [HNM.out]; exact HO4.out) HG4.out⟩, by simp [intOf]; omega⟩
          | cons c r =>
            have kz : 0 < (mkB (c :: r)).size := by rw [mkB_size]; simp
            have kz2 : (0 : Int) < ((mkB (c :: r)).size : Int) := by omega
            have kz3 : (1 : Int) ≤ ((mkB (c :: r)).size : Int) := by omega
            have hh0 : (mkB (c :: r))[0] = c := rfl
            by_cases h33 : c.toNat = 33
            · have hc : c = 33 := UInt8.toNat_inj.1 h33
              have n33 : (((mkB (c :: r))[0].toNat : Int) == 33) = true := by rw [hh0]; simp; omega
              have sl1 : ∀ wx, (Instr.slice 9 (.string (mkB (c :: r))) (some (.int .i64 1)) none none).run Tryd.prog wx = .ok (.string (mkB r)) wx := fun wx => by
                have := run_slice_string_from_if (P := Tryd.prog) wx 9 (mkB (c :: r)) .i64 1 Tryd.underlying9
                rw [this, if_pos (by omega), show (1 : Int).toNat = 1 from rfl, extract_end]
                unfold dropB
                rw [mkB_toList]
                rfl
              have HNM : Hid (nameT (c :: r) = r) := Lib.hid (by rw [hc]; rfl)
              clear h33 hc hh0
              cases hh : hasB (accN ts) (mkB r) with
              | true =>
                have HHH : Hid (hasB (accN ts) (mkB (nameT (c :: r))) = true) := Lib.hid (by rw [HNM.out]; exact hh)
                go_wp2_with fail
                refine (has_any _ _ _ _ HSA.out).mono ?_
                rw [hh]
                rintro e1 w1 ⟨rfl, rfl⟩
                clear hh sl1
                go_wp2_with fail
                exact ⟨⟨m + 1, hlm, by go_num, by rw [HTN.out]; exact HTI.out.hit HHH.out⟩, by simp [intOf]; omega⟩
              | false =>
                have HHH : Hid (hasB (accN ts) (mkB (nameT (c :: r))) = false) := Lib.hid (by rw [HNM.out]; exact hh)
                go_wp2_with fail
                refine (has_any _ _ _ _ HSA.out).mono ?_
                rw [hh]
                rintro e1 w1 ⟨rfl, rfl⟩
                clear hh sl1
                go_wp2_with (at_builtin; refine wpList_append_own_at _ rfl _ _ 41 rfl w0.heap.size 9 i0 _ 1 16 Tryd.underlying41 hi hz0 hz1 hz2 rfl (by decide) _ _ _ rfl (HTI.out.2.1.alloc _) ⟨_, 0, none⟩ 1 1 [.string (mkB r)] rfl rfl (cell_one_new _ _ _) (by simp [Value.oneCell']) (by unfold maxLen; omega) (by omega) (by have := HTI.out.2.2.size; simp; omega) ?_; intro v' w4 hown4 hgrow _ _; have HO4 := Lib.hid hown4; have HG4 := Lib.hid hgrow; clear hown4 hgrow)
                exact ⟨⟨m + 1, hlm, by go_num, by rw [HTN.out]; exact HTI.out.miss HHH.out (by rw [HNM.out]; exact HO4.out) HG4.out⟩, by simp [intOf]; omega⟩
            · have n33 : (((mkB (c :: r))[0].toNat : Int) == 33) = false := by rw [hh0]; simp; omega
              have HNM : Hid (nameT (c :: r) = (c :: r)) := Lib.hid (nameT_else h33)
              clear h33 hh0
              cases hh : hasB (accN ts) (mkB (c :: r)) with
              | true =>
                have HHH : Hid (hasB (accN ts) (mkB (nameT (c :: r))) = true) := Lib.hid (by rw [HNM.out]; exact hh)
                go_wp2_with fail
                refine (has_any _ _ _ _ HSA.out).mono ?_
                rw [hh]
                rintro e1 w1 ⟨rfl, rfl⟩
                clear hh
                go_wp2_with fail
                exact ⟨⟨m + 1, hlm, by go_num, by rw [HTN.out]; exact HTI.out.hit HHH.out⟩, by simp [intOf]; omega⟩
              | false =>
                have HHH : Hid (hasB (accN ts) (mkB (nameT (c :: r))) = false) := Lib.hid (by rw [HNM.out]; exact hh)
                go_wp2_with fail
                refine (has_any _ _ _ _ HSA.out).mono ?_
                rw [hh]
                rintro e1 w1 ⟨rfl, rfl⟩
                clear hh
                go_wp2_with (at_builtin; refine wpList_append_own_at _ rfl _ _ 41 rfl w0.heap.size 9 i0 _ 1 16 Tryd.underlying41 hi hz0 hz1 hz2 rfl (by decide) _ _ _ rfl (HTI.out.2.1.alloc _) ⟨_, 0, none⟩ 1 1 [.string (mkB (c :: r))] rfl rfl (cell_one_new _ _ _) (by simp [Value.oneCell']) (by unfold maxLen; omega) (by omega) (by have := HTI.out.2.2.size; simp; omega) ?_; intro v' w4 hown4 hgrow _ _; have HO4 := Lib.hid hown4; have HG4 := Lib.hid hgrow; clear hown4 hgrow)
                exact ⟨⟨m + 1, hlm, by go_num, by rw [HTN.out]; exact HTI.out.miss HHH.out (by rw [HNM.out]; exact HO4.out) HG4.out⟩, by simp [intOf]; omega⟩
        · obtain rfl : m = o.length := by omega
          have HTX : Hid (ts = (os.take (k + 1)).flatten) := Lib.hid (by rw [HTE.out, List.take_length, HNX.out])
          go_wp2_with fail
          exact ⟨⟨k + 1, hlt, by go_num, by rw [← HTX.out]; exact HTI.out⟩, by simp [intOf]; omega⟩
    · obtain rfl : k = os.length := by omega
      have HPF : Hid (P = os.flatten) := Lib.hid (by rw [HPE.out, List.take_length])
      have hal : (accN P).length ≤ 1048576 := Nat.le_trans (accN_len P) hPl
      have HSA := Lib.hid (SS.of_row HTR.out.2.1 (by omega))
      have HB1 : Hid (Below w.heap.size w wr) := Lib.hid (HB0.out.trans (HTR.out.2.2.mono HB0.out.size))
      have HO1 := Lib.hid ((HO.out.below HB0.out).below HTR.out.2.2)
      cases ok with
      | false =>
        go_wp2_with fail
        go_ret
        exact ⟨rfl, HB1.out⟩
      | true =>
      obtain ⟨hl, hne, hgood⟩ := HOK.out rfl
      subst hl
      have hallg : ∀ o ∈ os, o ≠ [] ∧ ∀ t ∈ o, goodT t = true := fun o ho => by
        have h := List.all_eq_true.1 hgood o ho
        unfold goodL at h
        simp only [Bool.and_eq_true, Bool.not_eq_true', List.isEmpty_eq_false_iff] at h
        exact ⟨h.1, fun t ht => List.all_eq_true.1 h.2 t ht⟩
      obtain ⟨m, hm1, hm2, hm3, hm4, hm5⟩ := plus_line os hne hallg
      have HM1 := Lib.hid hm1
      have HM2 := Lib.hid hm2
      have HM3 : Hid (litsC (Lib.fieldsD m) = P.length) := Lib.hid (by rw [hm3, HPF.out, List.length_flatten])
      have HM5 := Lib.hid hm5
      have HTN : Hid (∀ o ∈ os, ∀ t ∈ o, t ≠ []) := Lib.hid fun o ho t ht => (goodT_all ((hallg o ho).2 t ht)).2
      have HGO : Hid (goText (lineOf os) = none) := Lib.hid (goText_no (by simp [Lib.hasPrefix, lineOf, plHead, goWord]; rfl))
      obtain ⟨ln, hln⟩ : ∃ ln, ln = lineOf os := ⟨_, rfl⟩
      rw [← hln] at HLL HM1 HM5 HGO ⊢
      have HN10 : Hid (hasByte (mkB ln) 10 = false) := Lib.hid (no10_of (by rw [mkB_toList]; exact HM5.out))
      clear hne hgood hallg hm1 hm2 hm3 hm4 hm5 hln
      have hsz0 := HLL.out
      by_cases h8 : (accN P).length ≤ 8
      · by_cases h500 : (mkB ln).size ≤ 500
        · by_cases h40 : P.length ≤ 40
          · have HT1 := Lib.hid (HT.out.below HB1.out)
            have HE1 := Lib.hid (HE.out.below HB1.out)
            have H40 := Lib.hid h40
            go_wp2_with fail
            refine (implParse_all (mkB ln) wr HN10.out (by omega) HT1.out HE1.out).mono ?_
            rw [mkB_toList]
            rintro e1 w1 ⟨hb1, hcase⟩
            have hres : ∃ x c0 c1 c2, e1 = .returned (.tuple #[.agg #[c0, c1, c2], .int .i64 0, .bool true]) ∧ XIs (fun b => wr.heap.size ≤ b) w1 x c0 c1 c2 ∧ ∀ f, x.eval f = holdsO os f := by
              rcases hcase with ⟨x, c0, c1, c2, hp, he, hx⟩ | ⟨hq, off, he⟩
              · obtain ⟨t, ht, hxe⟩ := hp.2 HGO.out
                rw [HM1.out] at ht
                injection ht with ht
                subst ht
                exact ⟨x, c0, c1, c2, he, hx, fun f => by rw [hxe]; exact HM2.out f⟩
              · have := hq HGO.out m HM1.out
                rw [HM3.out] at this
                have := H40.out
                omega
            obtain ⟨x, c0, c1, c2, rfl, hx, hev⟩ := hres
            obtain ⟨sx, ax, cx, rfl, rfl, rfl, -⟩ := hx.form
            have HB2 := Lib.hid (HB1.out.trans (hb1.mono HB1.out.size))
            have HX := Lib.hid hx.any
            have HEV := Lib.hid hev
            have HSA2 := Lib.hid (HSA.out.below hb1)
            have HO2 := Lib.hid (HO1.out.below hb1)
            clear hb1 hcase hx hev
            go_wp2_with fail
            obtain ⟨w4, hw4⟩ : ∃ w4, w4 = w1.alloc (.cells #[.int .i64 x.kind, .string sx, .slice ax x.arity cx] 29) := ⟨_, rfl⟩
            rw [← hw4]
            have b34 : Below w1.heap.size w1 w4 := by rw [hw4]; exact (Below.refl _ _).alloc (Nat.le_refl _) _
            have hc4 : w4.heap[w1.heap.size]? = some (.cells #[.int .i64 x.kind, .string sx, .slice ax x.arity cx] 29 (0, 0)) := by rw [hw4]; exact heap_new _ _ rfl
            have HC4 := Lib.hid hc4
            have HB4 := Lib.hid (HB2.out.trans (b34.mono HB2.out.size))
            have HX4 := Lib.hid (HX.out.below b34)
            have HSA4 := Lib.hid (HSA2.out.below b34)
            have HO4 := Lib.hid (HO2.out.below b34)
            clear hw4 b34 hc4
            refine (choices_any _ (accN P) _ HSA4.out).mono ?_
            rintro e6 w6 ⟨vc, rfl, hll, hb6⟩
            rw [if_pos h8] at hll
            obtain ⟨ac, cc, rfl, hcell⟩ := hll.cellsAt
            have HCE := Lib.hid hcell
            have hsm := choices_small (accN P) h8
            have hcl := hsm.1
            have HCM := Lib.hid hsm.2
            obtain ⟨cs, hcs⟩ : ∃ cs, cs = choices (accN P) := ⟨_, rfl⟩
            rw [← hcs] at HCE HCM hcl
            rw [← hcs]
            have HB6 := Lib.hid (HB4.out.trans (hb6.mono HB4.out.size))
            have HX6 := Lib.hid (HX4.out.below hb6)
            have HO6 := Lib.hid (HO4.out.below hb6)
            have HC6 := Lib.hid ((hb6.block _ (lt_of_heap HC4.out)).trans HC4.out)
            clear hcs hll hb6 hcell hsm
            go_wp2_with fail
            go_loopw [81] (fun i wr => LoopB cs.length w6 i wr) (fun i _ => cs.length - (intOf i).toNat)
            case atStart => exact ⟨0, Nat.zero_le _, rfl, Below.refl _ _⟩
            case round =>
              obtain ⟨k, hk, rfl, hbr⟩ := hrel
              have HBR := Lib.hid hbr
              by_cases hlt : k < cs.length
              · obtain ⟨c, hc⟩ : ∃ c, cs[k]? = some c := ⟨_, List.getElem?_eq_getElem hlt⟩
                obtain ⟨b, u, rfl, hcu, ⟨gu, cu, rfl⟩, hssu⟩ := HCE.out k c hc
                have hc8 : c.length ≤ 8 := HCM.out c (List.mem_of_getElem? hc)
                have HSU := Lib.hid ((hssu (by omega)).below HBR.out)
                have hcu' := (HBR.out.cell (p := ⟨b, k, none⟩) (lt_of_cell hcu)).trans hcu
                have hcr := (hbr.block _ (lt_of_heap HC6.out)).trans HC6.out
                have q0 := cell_at (o := 0) hcr (.int .i64 x.kind) rfl
                have q1 := cell_at (o := 1) hcr (.string sx) rfl
                have q2 := cell_at (o := 2) hcr (.slice ax x.arity cx) rfl
                have qd0 := cellsA q0
                have qd1 := cellsA q1
                have qd2 := cellsA q2
                have HXR := Lib.hid (HX6.out.below hbr)
                have HOR := Lib.hid (HO6.out.below hbr)
                obtain ⟨bv, hbv⟩ : ∃ bv, bv = holdsO os (hasB c) := ⟨_, rfl⟩
                have HG := Lib.hid hbv.symm
                clear hc hcu hssu hbv hbr hcr
                go_wp2_with fail
                refine (implEval_any x _ _ _ _ c _ HXR.out HSU.out).mono ?_
                rw [HEV.out, HG.out]
                rintro e7 w7 ⟨rfl, hb7⟩
                have HB7 := Lib.hid (HBR.out.trans (hb7.mono HBR.out.size))
                have HO7 := Lib.hid (HOR.out.below hb7)
                have HSU7 := Lib.hid (HSU.out.below hb7)
                clear hb7 q0 q1 q2 qd0 qd1 qd2
                go_wp2_with fail
                refine (holdsO_any _ _ os c _ HO7.out HSU7.out HTN.out HBK.out).mono ?_
                rw [HG.out]
                rintro e8 w8 ⟨rfl, rfl⟩
                go_wp2_with fail
                exact ⟨⟨k + 1, hlt, by go_num, HB7.out⟩, by simp [intOf]; omega⟩
              · have HB7 := Lib.hid (HB6.out.trans (hbr.mono HB6.out.size))
                have HT7 := Lib.hid (HT.out.below HB7.out)
                have HP7 := Lib.hid (isPl_any (mkB ln) wr HN10.out (by omega) HT7.out)
                rw [mkB_toList, HM1.out] at HP7
                clear hbr
                go_wp2_with fail
                refine HP7.out.mono ?_
                rintro e8 w8 ⟨rfl, hb8⟩
                have HB8 := Lib.hid (HB7.out.trans (hb8.mono HB7.out.size))
                have HG8 := Lib.hid (isGo_any (mkB ln) w8 HN10.out (by omega) (HT.out.below HB8.out))
                rw [mkB_toList, HGO.out] at HG8
                clear hb8
                go_wp2_with fail
                refine HG8.out.mono ?_
                rintro e9 w9 ⟨rfl, hb9⟩
                have HB9 := Lib.hid (HB8.out.trans (hb9.mono HB8.out.size))
                clear hb9
                go_wp2_with fail
                go_ret
                exact ⟨rfl, HB9.out⟩
          · go_wp2_with fail
            go_ret
            exact ⟨rfl, HB1.out⟩
        · go_wp2_with fail
          go_ret
          exact ⟨rfl, HB1.out⟩
      · go_wp2_with fail
        go_ret
        exact ⟨rfl, HB1.out⟩
end Go.Proofs.YteemenhinhkonaaDoor
