/- The package's PlusBuildLines: the walk. -/
import Derived.Test.YteemenhinhkonaaDoorPblL
import Derived.Deep.QuietTactic
import Derived.BigQuiet
namespace Go.Proofs.YteemenhinhkonaaDoor
open Go.RowKit

def PblP (y : Ex) (w : World) (e : Ending) (w' : World) : Prop := Below w.heap.size w w' ∧ ((fineR (rowsE y) = true ∧ ∃ v, e = .returned (.tuple #[v, .nilIface]) ∧ SS w' v ((joinR (rowsE y)).map fun r => mkB (lineR r))) ∨
  (fineR (rowsE y) = false ∧ ∃ a, e = .returned (.tuple #[.slice none 0 0, .iface 183 (.pointer (some a))])))
theorem splitA_leaves {y o : Ex} {n : Nat} (h : y.leaves ≤ n) (ho : o ∈ splitA y) : o.leaves ≤ n := splitA_mem (Q := fun x => x.leaves ≤ n) (fun x y h => by simp only [Ex.leaves] at h; exact ⟨by omega, by omega⟩) y h o ho
theorem splitO_leaves {y o : Ex} {n : Nat} (h : y.leaves ≤ n) (ho : o ∈ splitO y) : o.leaves ≤ n := splitO_mem (Q := fun x => x.leaves ≤ n) (fun x y h => by simp only [Ex.leaves] at h; exact ⟨by omega, by omega⟩) y h o ho
theorem not_fine {y o a l : Ex} (ho : o ∈ splitA y) (ha : a ∈ splitO o) (hl : l ∈ splitA a) (hb : litB l = false) : fineR (rowsE y) = false := by
  rw [Bool.eq_false_iff]
  intro h
  unfold fineR at h
  have := List.all_eq_true.1 (List.all_eq_true.1 (List.all_eq_true.1 h _ (List.mem_map.2 ⟨o, ho, rfl⟩)) _ (List.mem_map.2 ⟨a, ha, rfl⟩)) l hl
  rw [hb] at this
  cases this
theorem out1_start (w2 : World) (y : Ex) : Out1 w2 y (.slice none 0 0) (.int .i64 0) w2 := ⟨0, Nat.zero_le _, rfl, Below.refl _ _, RL.nil _ _ _ _, rfl⟩
theorem out2_start (w2 : World) (y : Ex) : Out2 w2 y (.slice none 0 0) (.int .i64 0) w2 := ⟨0, Nat.zero_le _, rfl, Below.refl _ _, RL.nil _ _ _ _, rfl⟩
theorem out3_start (w2 : World) (y : Ex) : Out3 w2 y (.slice none 0 0) (.int .i64 0) w2 := ⟨0, Nat.zero_le _, rfl, Below.refl _ _, RL.nil _ _ _ _, rfl⟩

theorem ta_both (l : Ex) (b : Nat) : ∃ (p1 p2 : Value) (t1 t2 : Bool), (∀ w, (Instr.typeAssert (.iface l.ptr (.pointer (some ⟨b, 0, none⟩))) 63 94 true).run Tryd.prog w = .ok (.tuple #[p1, .bool t1]) w) ∧
    (∀ w, (Instr.typeAssert (.iface l.ptr (.pointer (some ⟨b, 0, none⟩))) 63 86 true).run Tryd.prog w = .ok (.tuple #[p2, .bool t2]) w) ∧ (t1 || t2) = litB l := by
  cases l with
  | tag t => exact ⟨_, _, true, false, fun w => ta_yes (.tag t) b w, fun w => (ta_no (.tag t) b w).2.1 rfl, rfl⟩
  | not x => exact ⟨_, _, false, true, fun w => (ta_no (.not x) b w).1 rfl, fun w => ta_yes (.not x) b w, rfl⟩
  | and x y => exact ⟨_, _, false, false, fun w => (ta_no (.and x y) b w).1 rfl, fun w => (ta_no (.and x y) b w).2.1 rfl, rfl⟩
  | or x y => exact ⟨_, _, false, false, fun w => (ta_no (.or x y) b w).1 rfl, fun w => (ta_no (.or x y) b w).2.1 rfl, rfl⟩

set_option maxHeartbeats 16000000 in
set_option maxRecDepth 100000 in
theorem pbl_any (x : Ex) (b : Nat) (w : World) (hC : CIs w x (.iface x.ptr (.pointer (some ⟨b, 0, none⟩)))) (hE : Errs w) (hl : x.leaves ≤ 40) (ht : x.tagsLe 1048576) : Calls Tryd.prog 51 #[.iface x.ptr (.pointer (some ⟨b, 0, none⟩))] w (PblP (pn false x) w) := by
  have hly : (pn false x).leaves ≤ 40 := by rw [pn_leaves]; exact hl
  have HC := Lib.hid hC
  have HE := Lib.hid hE
  have HPU := Lib.hid (push_any x false b w hC)
  have HNN := Lib.hid (pn_nnf x false)
  have HTT := Lib.hid (pn_tagsLe x _ false ht)
  obtain ⟨y, hy⟩ : ∃ y, y = pn false x := ⟨_, rfl⟩
  rw [← hy] at HPU HNN HTT hly ⊢
  obtain ⟨i0, hi, hz0, hz1, hz2⟩ := info_parts info_expr
  obtain ⟨j0, hj, hy0, hy1, hy2⟩ := info_parts info_exprs
  obtain ⟨k0, hk, hx0, hx1, hx2⟩ := info_parts info_exprss
  have HLY := Lib.hid hly
  obtain ⟨s0, hsi, hsz0, hsz1, hsz2⟩ := info_parts info_string
  clear hC hE hl hly hy HC ht
  go_enter Tryd.func51, Tryd.ntmps51
  go_wp2_with (go_at_call 62; (with_reducible refine HPU.out.mono ?_); rintro e1 w1 ⟨b1, rfl, hc1, hb1⟩; have HC1 := Lib.hid hc1; have HB1 := Lib.hid hb1; clear hc1 hb1 HPU)
  go_wp2_with (go_at_call 63; (with_reducible refine (splitA_nil y b1 w1 HC1.out (Nat.le_trans HLY.out (by decide))).mono ?_); rintro e2 w2 ⟨g1, c1, rfl, hb2, hr2⟩; have HR2 := Lib.hid hr2; have HB2 := Lib.hid (HB1.out.trans (hb2.mono HB1.out.size)); clear hb2 hr2)
  have hny : (splitA y).length ≤ 40 := Nat.le_trans (splitA_pos y).2 HLY.out
  go_loopw [4, 32] (fun v i wr => Out1 w2 y v i wr) (fun _ i _ => (splitA y).length - (intOf i).toNat)
  case atStart => exact out1_start w2 y
  case round =>
    obtain ⟨k, hk1, rfl, hb3, ⟨vals1, ho1, hl1, hc1⟩, hf1⟩ := hrel
    have e1 : ((rowsE y).take k).length = k := by unfold rowsE; rw [List.length_take, List.length_map]; omega
    rw [e1] at ho1 hl1
    obtain ⟨p1, cp1, rfl⟩ := ownsRow_slice ho1
    clear e1
    have HB3 := Lib.hid hb3
    have HO1 := Lib.hid ho1
    have HL1 := Lib.hid hl1
    have HCC1 := Lib.hid hc1
    have HF1 := Lib.hid hf1
    clear hb3 ho1 hl1 hc1 hf1
    by_cases hlt : k < (splitA y).length
    · obtain ⟨o, hok⟩ : ∃ o, (splitA y)[k]? = some o := ⟨_, List.getElem?_eq_getElem hlt⟩
      obtain ⟨bo, q0, hxo⟩ := (HR2.out.below HB3.out) k o hok
      have HXO := Lib.hid hxo
      have HOK := Lib.hid hok
      have HLO : Hid (o.leaves ≤ 40) := Lib.hid (splitA_leaves HLY.out (List.mem_of_getElem? hok))
      clear hxo hok
      go_wp2_with (go_at_call 64; (with_reducible refine (splitO_nil o bo _ HXO.out (Nat.le_trans HLO.out (by decide))).mono ?_); rintro e3 w3 ⟨g2, c2, rfl, hb4, hr4⟩; have HR4 := Lib.hid hr4; have HB4 := Lib.hid hb4; clear hb4 hr4)
      have hno : (splitO o).length ≤ 40 := Nat.le_trans (splitO_pos o).2 HLO.out
      go_loopw [7, 39] (fun v i wq => Out2 w3 o v i wq) (fun _ i _ => (splitO o).length - (intOf i).toNat)
      case atStart => exact out2_start w3 o
      case round =>
        obtain ⟨m, hm1, rfl, hb5, ⟨vals2, ho2, hl2, hc2⟩, hf2⟩ := hrel
        have e2 : (((splitO o).map splitA).take m).length = m := by rw [List.length_take, List.length_map]; omega
        rw [e2] at ho2 hl2
        obtain ⟨p2, cp2, rfl⟩ := ownsRow_slice ho2
        clear e2
        have HB5 := Lib.hid hb5
        have HO2 := Lib.hid ho2
        have HL2 := Lib.hid hl2
        have HCC2 := Lib.hid hc2
        have HF2 := Lib.hid hf2
        clear hb5 ho2 hl2 hc2 hf2
        by_cases hlt2 : m < (splitO o).length
        · obtain ⟨a, ham⟩ : ∃ a, (splitO o)[m]? = some a := ⟨_, List.getElem?_eq_getElem hlt2⟩
          obtain ⟨ba, q1, hxa⟩ := (HR4.out.below HB5.out) m a ham
          have HXA := Lib.hid hxa
          have HAM := Lib.hid ham
          have HLA : Hid (a.leaves ≤ 40) := Lib.hid (splitO_leaves HLO.out (List.mem_of_getElem? ham))
          clear hxa ham
          go_wp2_with (go_at_call 63; (with_reducible refine (splitA_nil a ba _ HXA.out (Nat.le_trans HLA.out (by decide))).mono ?_); rintro e4 w4 ⟨g3, c3, rfl, hb6, hr6⟩; have HR6 := Lib.hid hr6; have HB6 := Lib.hid hb6; clear hb6 hr6)
          have hna : (splitA a).length ≤ 40 := Nat.le_trans (splitA_pos a).2 HLA.out
          go_loopw [10, 46] (fun v i ws => Out3 w4 a v i ws) (fun _ i _ => (splitA a).length - (intOf i).toNat)
          case atStart => exact out3_start w4 a
          case round =>
            obtain ⟨j, hj1, rfl, hb7, ⟨vals3, ho3, hl3, hc3⟩, hf3⟩ := hrel
            have e3 : ((splitA a).take j).length = j := by rw [List.length_take]; omega
            rw [e3] at ho3 hl3
            obtain ⟨p3, cp3, rfl⟩ := ownsRow_slice ho3
            clear e3
            have HB7 := Lib.hid hb7
            have HO3 := Lib.hid ho3
            have HL3 := Lib.hid hl3
            have HCC3 := Lib.hid hc3
            have HF3 := Lib.hid hf3
            clear hb7 ho3 hl3 hc3 hf3
            by_cases hlt3 : j < (splitA a).length
            · obtain ⟨l, hlj⟩ : ∃ l, (splitA a)[j]? = some l := ⟨_, List.getElem?_eq_getElem hlt3⟩
              obtain ⟨bl, q2, hxl⟩ := (HR6.out.below HB7.out) j l hlj
              have HXL := Lib.hid hxl
              have HLJ := Lib.hid hlj
              clear hxl hlj
              have hs7 : w4.heap.size ≤ _ := HB7.out.size
              obtain ⟨u1, u2, t1, t2, TA1, TA2, HT⟩ := ta_both l bl
              cases hlb : litB l
              · rw [hlb] at HT
                obtain ⟨rfl, rfl⟩ : t1 = false ∧ t2 = false := by cases t1 <;> cases t2 <;> simp_all
                have hnf := not_fine (List.mem_of_getElem? HOK.out) (List.mem_of_getElem? HAM.out) (List.mem_of_getElem? HLJ.out) hlb
                have hbw := HB2.out.trans ((HB3.out.mono HB2.out.size).trans ((HB4.out.mono (HB2.out.trans (HB3.out.mono HB2.out.size)).size).trans ((HB5.out.mono (Nat.le_trans (HB2.out.trans (HB3.out.mono HB2.out.size)).size HB4.out.size)).trans ((HB6.out.mono (Nat.le_trans (Nat.le_trans (HB2.out.trans (HB3.out.mono HB2.out.size)).size HB4.out.size) HB5.out.size)).trans (HB7.out.mono (Nat.le_trans (Nat.le_trans (Nat.le_trans (HB2.out.trans (HB3.out.mono HB2.out.size)).size HB4.out.size) HB5.out.size) HB6.out.size))))))
                obtain ⟨-, ea, hea⟩ := HE.out.below hbw
                have HNF := Lib.hid hnf
                have HBW := Lib.hid hbw
                clear hnf hbw hlb HT
                go_wp2_with fail
                go_quiet (fail)
                all_goals go_wp2_with fail
                all_goals go_ret2
                all_goals exact ⟨below_drewN' HBW.out _, .inr ⟨HNF.out, ea, rfl⟩⟩
              · rw [hlb] at HT
                have HLB := Lib.hid hlb
                have hcase : t1 = true ∨ t1 = false ∧ t2 = true := by cases t1 <;> cases t2 <;> simp_all
                clear HT hlb
                rcases hcase with rfl | ⟨rfl, rfl⟩
                all_goals go_wp2_with (at_builtin; refine wpList_append_own2 rfl (.tmp 59) (.tmp 61) 100 rfl w4.heap.size 63 i0 _ 1 16 Tryd.underlying100 hi hz0 hz1 hz2 rfl (by decide) _ j vals3 rfl (HO3.out.alloc _) ⟨_, 0, none⟩ 1 1 [.iface l.ptr (.pointer (some ⟨bl, 0, none⟩))] rfl rfl (cell_one_new _ _ _) (by simp [Value.oneCell']) (by unfold maxLen; omega) (by omega) (by simp; omega) ?_; intro v3 w5 ho5 hc5)
                all_goals exact ⟨out3_next HLJ.out HLB.out HB7.out HO3.out HL3.out HCC3.out HF3.out HXL.out ho5 hc5, by simp [intOf]; omega⟩
            · have htk : (splitA a).take j = splitA a := List.take_of_length_le (by omega)
              obtain rfl : j = (splitA a).length := by omega
              have HE3 : Hid (RL 63 P0 _ w4.heap.size (.slice p3 (splitA a).length cp3) (splitA a)) := Lib.hid ⟨vals3, HO3.out, HL3.out, by have := HCC3.out; rw [htk] at this; exact this⟩
              have HF3b : Hid ((splitA a).all litB = true) := Lib.hid (by have := HF3.out; rw [htk] at this; exact this)
              have HB67 := Lib.hid (HB6.out.trans (HB7.out.mono HB6.out.size))
              have hbs : w3.heap.size ≤ _ := Nat.le_trans HB5.out.size HB67.out.size
              clear htk
              go_wp2_with (at_builtin; refine wpList_append_own2 rfl (.tmp 64) (.tmp 66) 102 rfl w3.heap.size 100 j0 _ 1 24 Tryd.underlying102 hj hy0 hy1 hy2 rfl (by decide) _ m vals2 rfl ((ownsRow_below HO2.out HB67.out).alloc _) ⟨_, 0, none⟩ 1 1 [.slice p3 (splitA a).length cp3] rfl rfl (cell_one_new _ _ _) (by simp [Value.oneCell']) (by unfold maxLen; omega) (by omega) (by simp; omega) ?_; intro v6 w6 ho6 hc6)
              exact ⟨out2_next HAM.out HB5.out HB67.out HO2.out HL2.out HCC2.out HF2.out HE3.out HF3b.out ho6 hc6, by simp [intOf]; omega⟩
        · have htk : ((splitO o).map splitA).take m = (splitO o).map splitA := List.take_of_length_le (by simp; omega)
          have em : m = ((splitO o).map splitA).length := by rw [List.length_map]; omega
          have HE2 : Hid (RL 100 P1 _ w3.heap.size (.slice p2 m cp2) ((splitO o).map splitA)) := Lib.hid ⟨vals2, by have := HO2.out; rw [← em]; exact this, by rw [← em]; exact HL2.out, by have := HCC2.out; rw [htk] at this; exact this⟩
          clear em
          have HF2b : Hid (((splitO o).map splitA).all (fun a => a.all litB) = true) := Lib.hid (by have := HF2.out; rw [htk] at this; exact this)
          have HB45 := Lib.hid (HB4.out.trans (HB5.out.mono HB4.out.size))
          have hbs : w2.heap.size ≤ _ := Nat.le_trans HB3.out.size HB45.out.size
          clear htk
          go_wp2_with (at_builtin; refine wpList_append_own2 rfl (.tmp 69) (.tmp 71) 99 rfl w2.heap.size 102 k0 _ 1 24 Tryd.underlying99 hk hx0 hx1 hx2 rfl (by decide) _ k vals1 rfl ((ownsRow_below HO1.out HB45.out).alloc _) ⟨_, 0, none⟩ 1 1 [.slice p2 m cp2] rfl rfl (cell_one_new _ _ _) (by simp [Value.oneCell']) (by unfold maxLen; omega) (by omega) (by simp; omega) ?_; intro v6 w6 ho6 hc6)
          exact ⟨out1_next HOK.out HB3.out HB45.out HO1.out HL1.out HCC1.out HF1.out HE2.out HF2b.out ho6 hc6, by simp [intOf]; omega⟩
    · obtain ⟨wA, hwA⟩ : ∃ wA, wA = wr := ⟨_, rfl⟩
      subst hwA
      have htk : (rowsE y).take k = rowsE y := List.take_of_length_le (by simp [rowsE]; omega)
      have ek : k = (rowsE y).length := by unfold rowsE; rw [List.length_map]; omega
      have HE1 : Hid (RL 102 P2 _ w2.heap.size (.slice p1 k cp1) (rowsE y)) := Lib.hid ⟨vals1, by have := HO1.out; rw [← ek]; exact this, by rw [← ek]; exact HL1.out, by have := HCC1.out; rw [htk] at this; exact this⟩
      have HF1b : Hid (fineR (rowsE y) = true) := Lib.hid (by have := HF1.out; rw [htk] at this; exact this)
      have hRl : k ≤ 40 := by omega
      clear htk HO1 HL1 HCC1 HF1
      obtain ⟨hRn, hRp⟩ := rowsE_pos y
      have HLS := Lib.hid (Nat.le_trans (litsR_le y) HLY.out)
      obtain ⟨R, hR⟩ : ∃ R, R = rowsE y := ⟨_, rfl⟩
      rw [← hR] at HE1 HF1b ek hRn hRp HLS
      have HR := Lib.hid hR
      have HRP := Lib.hid hRp
      have hRpos : 0 < R.length := List.length_pos_iff.2 hRn
      subst ek
      obtain ⟨g4, c4, hv4, hr4⟩ := HE1.out.read hRpos
      injection hv4 with ea _ ec
      subst ea ec
      have HR4b := Lib.hid hr4
      have HWB := Lib.hid (HB2.out.trans (HB3.out.mono HB2.out.size))
      clear hr4 hR hRp hRn HE1 HB3 HR2 hk1
      go_wp2_with fail
      go_loopw [13, 76] (fun v i w6 => Out4 R wA v i w6) (fun _ i _ => R.length - (intOf i).toNat)
      case atStart => exact ⟨0, Nat.zero_le _, rfl, rfl, rfl⟩
      case round =>
        obtain ⟨m, hm, rfl, rfl, rfl⟩ := hrel
        by_cases hltm : m < R.length
        · obtain ⟨r, hr⟩ : ∃ r, R[m]? = some r := ⟨_, List.getElem?_eq_getElem hltm⟩
          obtain ⟨u, qu, hP⟩ := HR4b.out m r hr
          obtain ⟨gr, cr, rfl, -⟩ := hP.read (List.length_pos_iff.2 (HRP.out r (List.mem_of_getElem? hr)).1)
          have HOUT := Lib.hid (fun z hz => out4_next (R := R) (wr := wA) (z := z) hr hz)
          clear hr hP
          obtain ⟨M, hM⟩ : ∃ M, M = maxR (R.take m) := ⟨_, rfl⟩
          rw [← hM] at HOUT ⊢
          clear hM
          by_cases hmx : M < r.length
          · have HZ := Lib.hid (if_pos hmx : (if M < r.length then r.length else M) = r.length)
            go_wp2_with fail
            exact ⟨HOUT.out _ HZ.out.symm, by simp [intOf]; omega⟩
          · have HZ := Lib.hid (if_neg hmx : (if M < r.length then r.length else M) = M)
            go_wp2_with fail
            exact ⟨HOUT.out _ HZ.out.symm, by simp [intOf]; omega⟩
        · have htm : R.take m = R := List.take_of_length_le (by omega)
          rw [htm]
          obtain rfl : m = R.length := by omega
          clear htm hm hltm
          obtain ⟨M, hM⟩ : ∃ M, M = maxR R := ⟨_, rfl⟩
          rw [← hM]
          by_cases hM1 : M = 1
          · have heq : (((M : Int)) == 1) = true := by simp; omega
            have HM := Lib.hid hM
            have HM1 := Lib.hid hM1
            clear hM hM1
            go_wp2_with fail
            go_loopw [16, 91] (fun v i w7 => Out5 R wA v i w7) (fun _ i _ => R.length - (intOf i).toNat)
            case atStart => exact ⟨0, Nat.zero_le _, rfl, Below.refl _ _, RL.nil _ _ _ _⟩
            case round =>
              obtain ⟨m, hm, rfl, hb8, ⟨vals5, ho5, hl5, hc5⟩⟩ := hrel
              obtain ⟨n5, hn5⟩ : ∃ n, n = (flatR (R.take m)).length := ⟨_, rfl⟩
              rw [← hn5] at ho5 hl5
              have hn5b : n5 ≤ 40 := by rw [hn5]; exact Nat.le_trans (flatR_len _) (Nat.le_trans (litsR_take R m) HLS.out)
              obtain ⟨p5, c5, rfl⟩ := ownsRow_slice ho5
              have HN5 := Lib.hid hn5
              have HO5 := Lib.hid ho5
              have HL5 := Lib.hid hl5
              have HC5 := Lib.hid hc5
              have HB8 := Lib.hid hb8
              clear hn5 ho5 hl5 hc5 hb8
              by_cases hlt5 : m < R.length
              · obtain ⟨r, hr⟩ : ∃ r, R[m]? = some r := ⟨_, List.getElem?_eq_getElem hlt5⟩
                have hrm := List.mem_of_getElem? hr
                have hrp : 0 < r.length := List.length_pos_iff.2 (HRP.out r hrm).1
                obtain ⟨u, qu, hP⟩ := (HR4b.out.below KL2 HB8.out) m r hr
                obtain ⟨gr, cr, rfl, hPr⟩ := hP.read hrp
                obtain ⟨a, ha⟩ : ∃ a, r[0]? = some a := ⟨_, List.getElem?_eq_getElem hrp⟩
                obtain ⟨ua, qa, hPa⟩ := hPr 0 a ha
                have ham := List.mem_of_getElem? ha
                have hap : 0 < a.length := List.length_pos_iff.2 ((HRP.out r hrm).2 a ham)
                obtain ⟨valsA, hoA, hlA, hcA⟩ := hPa
                obtain ⟨pa, ca, rfl⟩ := ownsRow_slice hoA
                have hA0 := fun g (e : pa = some (⟨g, 0, none⟩ : Addr)) => hoA.cells (g := g) (by rw [e]; rfl)
                obtain ⟨ga, rfl, -, -, -⟩ := ownsRow_at hoA hap
                have hAc := hA0 ga rfl
                have ha40 : a.length ≤ 40 := by
                  have h1 := row_le R r hrm
                  have h2 := one_le r a ham
                  have h3 := HLS.out
                  omega
                have HAC := Lib.hid hAc
                have HR1 := Lib.hid hr
                have HA1 := Lib.hid ha
                have HLA := Lib.hid hlA
                have HCA := Lib.hid hcA
                have h1A : ∀ u ∈ valsA, u.oneCell' = true := fun u hu => by
                  obtain ⟨i, hi⟩ := List.getElem?_of_mem hu
                  obtain ⟨x, hx⟩ : ∃ x, a[i]? = some x := ⟨_, List.getElem?_eq_getElem (by rw [← hlA]; exact (List.getElem?_eq_some_iff.1 hi).1)⟩
                  obtain ⟨b, rfl⟩ := (hcA i u x hi hx).form
                  rfl
                have H1A := Lib.hid h1A
                have hs8 : wA.heap.size ≤ _ := HB8.out.size
                clear hP hPr hoA hlA hcA hA0 hAc hr ha h1A hrm ham
                go_wp2_with (at_builtin; refine wpList_append_own2 rfl (.tmp 95) (.tmp 98) 100 rfl wA.heap.size 63 i0 _ 1 16 Tryd.underlying100 hi hz0 hz1 hz2 rfl (by decide) _ n5 vals5 rfl HO5.out ⟨ga, 0, none⟩ a.length ca valsA rfl (by rw [HLA.out, Nat.mul_one]) HAC.out H1A.out (by unfold maxLen; omega) (by omega) (by omega) ?_; intro v8 w8 ho8 hc8)
                exact ⟨out5_next HR1.out HA1.out HN5.out HB8.out HO5.out HL5.out HC5.out HLA.out HCA.out ho8 hc8, by simp [intOf]; omega⟩
              · have htm : R.take m = R := List.take_of_length_le (by omega)
                have HF5 : Hid (RL 63 P0 wr wA.heap.size (.slice p5 n5 c5) (flatR R)) := Lib.hid ⟨vals5, by have h := HO5.out; have e := HN5.out; rw [htm] at e; rw [← e]; exact h, by have h := HL5.out; have e := HN5.out; rw [htm] at e; rw [← e]; exact h, by have h := HC5.out; rw [htm] at h; exact h⟩
                clear htm
                have HF1b := Lib.hid (show fineR (rowsE y) = true by have := HF1b.out; rw [HR.out] at this; exact this)
                have HJ : Hid (joinR (rowsE y) = [[flatR R]]) := Lib.hid (by rw [← HR.out]; unfold joinR; rw [← HM.out, if_pos HM1.out])
                have HFIT : Hid (Fit [[flatR R]]) := Lib.hid (by rw [HR.out]; exact fit_one y HLY.out HNN.out HTT.out HF1b.out)
                have HB8b := Lib.hid HB8.out
                obtain ⟨wE, hwE⟩ : ∃ X, X = wr := ⟨_, rfl⟩
                subst hwE
                have HRD0 := Lib.hid (ready_one HF5.out)
                clear hn5b
                go_wp2_with fail
                obtain ⟨wB, hwB⟩ : ∃ X, X = (wE.alloc (.cells #[.slice p5 n5 c5] 100)).alloc (.cells #[.slice (some ⟨wE.heap.size, 0, none⟩) 1 1] 102) := ⟨_, rfl⟩
                obtain ⟨RR, hRR⟩ : ∃ X, X = [[flatR R]] := ⟨_, rfl⟩
                rw [← hwB]
                rw [← hwB, ← hRR] at HRD0
                rw [← hRR] at HJ HFIT
                have HRD := Lib.hid HRD0.out
                have HWB : Hid (Below w.heap.size w wB) := Lib.hid (by
                  have h1 := HWB.out.trans (HB8b.out.mono HWB.out.size)
                  rw [hwB]
                  exact (h1.alloc h1.size _).alloc (Nat.le_trans h1.size (by simp)) _)
                have HLEN : Hid (RR.length = 1) := Lib.hid (by rw [hRR]; rfl)
                clear hwB hRR HRD0
                go_loopw [19, 106] (fun v i w7 => Out6 RR wB v i w7) (fun _ i _ => 1 - (intOf i).toNat)
                case atStart => exact out6_start RR wB
                case round =>
                  obtain ⟨m, hm, rfl, hb6, ho6⟩ := hrel
                  rw [HLEN.out] at hm
                  obtain ⟨p6, c6, rfl⟩ := ownsRow_slice ho6
                  have HB6 := Lib.hid hb6
                  have HO6 := Lib.hid ho6
                  clear hb6 ho6
                  by_cases hlt6 : m < 1
                  · obtain ⟨r, hr⟩ : ∃ r, RR[m]? = some r := ⟨_, List.getElem?_eq_getElem (by rw [HLEN.out]; exact hlt6)⟩
                    have hrm := List.mem_of_getElem? hr
                    obtain ⟨u, qu, hP⟩ := HRD.out m r hr
                    obtain ⟨hrn, hr40⟩ := HFIT.out.row r hrm
                    obtain ⟨gr, cr, rfl, hPr⟩ := hP.read (List.length_pos_iff.2 hrn)
                    have qu6 := (HB6.out.cell (p := ⟨_, _, none⟩) (lt_of_cell qu)).trans qu
                    have HR6 := Lib.hid hr
                    have HRM := Lib.hid hrm
                    have HPR := Lib.hid hPr
                    obtain ⟨ws, hws⟩ : ∃ x, x = wr := ⟨_, rfl⟩
                    subst hws
                    clear hr hrm hP hPr qu hrn
                    go_wp2_with fail
                    refine (write_bs ws [] _ _ (BS.fresh ws) (by decide)).mono ?_
                    rintro e1 w1 ⟨rfl, hbs1⟩
                    have HBS1 : Hid (BS ws plHead w1) := Lib.hid hbs1
                    clear hbs1 qu6
                    go_wp2_with fail
                    go_loopw [113] (fun i w8 => Out7 ws r i w8) (fun i _ => r.length - (intOf i).toNat)
                    case atStart => exact out7_start HBS1.out
                    case round =>
                      obtain ⟨k, hk, rfl, hbs7⟩ := hrel
                      have HBS7 := Lib.hid hbs7
                      clear hbs7
                      by_cases hlt7 : k < r.length
                      · obtain ⟨a, ha⟩ : ∃ a, r[k]? = some a := ⟨_, List.getElem?_eq_getElem hlt7⟩
                        have ham := List.mem_of_getElem? ha
                        obtain ⟨u, qu, hPa⟩ := HPR.out k a ha
                        obtain ⟨han, ha40⟩ := HFIT.out.opt r HRM.out a ham
                        obtain ⟨ga, ca, rfl, hPa2⟩ := hPa.read (List.length_pos_iff.2 han)
                        have HB7 := Lib.hid (HB6.out.trans (HBS7.out.2.mono HB6.out.size))
                        have qu7 := (HB7.out.cell (p := ⟨_, _, none⟩) (lt_of_cell qu)).trans qu
                        have HA7 := Lib.hid ha
                        have HAM := Lib.hid ham
                        have HAN := Lib.hid han
                        have HPA := Lib.hid hPa2
                        have HLN := Lib.hid (HFIT.out.line HRM.out k)
                        clear ha ham hPa hPa2 qu han
                        go_wp2_with fail
                        refine (write_bs ws (lineR (r.take k)) _ _ HBS7.out (by have := HLN.out; have e : (ByteArray.mk #[32]).size = 1 := rfl; rw [e]; omega)).mono ?_
                        rintro e2 w2' ⟨rfl, hbs2⟩
                        have HBS2 : Hid (BS ws (lineR (r.take k) ++ [32]) w2') := Lib.hid hbs2
                        clear hbs2 qu7
                        obtain ⟨pre, hpre⟩ : ∃ p, p = lineR (r.take k) := ⟨_, rfl⟩
                        rw [← hpre] at HBS2 HLN
                        have HPRE := Lib.hid hpre
                        clear hpre
                        go_wp2_with fail
                        go_loopw [120] (fun i w9 => Out8 ws pre a i w9) (fun i _ => a.length - (intOf i).toNat)
                        case atStart => exact out8_start HBS2.out
                        case round =>
                          obtain ⟨j, hj, rfl, hbs8⟩ := hrel
                          have HBS8 := Lib.hid hbs8
                          clear hbs8
                          by_cases hlt8 : j < a.length
                          · obtain ⟨l, hl⟩ : ∃ l, a[j]? = some l := ⟨_, List.getElem?_eq_getElem hlt8⟩
                            have hlm := List.mem_of_getElem? hl
                            obtain ⟨u, qu, hCl⟩ := HPA.out j l hl
                            obtain ⟨bl, rfl⟩ := hCl.form
                            have HB8 := Lib.hid (HB6.out.trans (HBS8.out.2.mono HB6.out.size))
                            have qu8 := (HB8.out.cell (p := ⟨_, _, none⟩) (lt_of_cell qu)).trans qu
                            have HQU := Lib.hid qu
                            have HL8 := Lib.hid hl
                            have HCL := Lib.hid hCl
                            have HTL := Lib.hid (HFIT.out.lit r HRM.out a HAM.out l hlm)
                            have HOL := Lib.hid (HFIT.out.opts HRM.out HAM.out j)
                            have me := fun w => method_str l ⟨bl, 0, none⟩ w
                            have en := fun args w => enter_str l args w
                            clear hl hlm hCl qu
                            rcases Nat.eq_zero_or_pos j with rfl | hjp
                            · go_wp2_with fail
                              refine (str_any l bl _ (HCL.out.below HB8.out) (by have := HTL.out; omega)).mono ?_
                              rintro e3 w3' ⟨rfl, n3, rfl⟩
                              go_wp2_with fail
                              refine (write_bs ws (pre ++ 32 :: optW ((a.take 0).map Ex.text)) _ _ (HBS8.out.drewN n3) (by have h1 := HLN.out; have h2 := HOL.out; have h3 := HTL.out; rw [mkB_size, List.length_append, List.length_cons]; omega)).mono ?_
                              rintro e4 w4' ⟨rfl, hbs9⟩
                              rw [mkB_toList] at hbs9
                              have HBS9 := Lib.hid hbs9
                              clear hbs9
                              go_wp2_with fail
                              exact ⟨out8_first HL8.out HBS9.out, by simp [intOf]; omega⟩
                            · have hjp2 : (0 : Int) < (j : Int) := by omega
                              go_wp2_with fail
                              refine (write_bs ws (pre ++ 32 :: optW ((a.take j).map Ex.text)) _ _ HBS8.out (by have h1 := HLN.out; have h2 := HOL.out; have e : (ByteArray.mk #[44]).size = 1 := rfl; rw [e, List.length_append, List.length_cons]; omega)).mono ?_
                              rintro e3 w3' ⟨rfl, hbs9⟩
                              have HBS9 : Hid (BS ws ((pre ++ 32 :: optW ((a.take j).map Ex.text)) ++ [44]) w3') := Lib.hid hbs9
                              have HB9 := Lib.hid (HB6.out.trans (hbs9.2.mono HB6.out.size))
                              have qu9 := (HB9.out.cell (p := ⟨_, _, none⟩) (lt_of_cell HQU.out)).trans HQU.out
                              clear hbs9 qu8
                              go_wp2_with fail
                              refine (str_any l bl _ (HCL.out.below HB9.out) (by have := HTL.out; omega)).mono ?_
                              rintro e4 w4' ⟨rfl, n3, rfl⟩
                              go_wp2_with fail
                              refine (write_bs ws ((pre ++ 32 :: optW ((a.take j).map Ex.text)) ++ [44]) _ _ (HBS9.out.drewN n3) (by have h1 := HLN.out; have h2 := HOL.out; have h3 := HTL.out; rw [mkB_size, List.length_append, List.length_append, List.length_cons, List.length_singleton]; omega)).mono ?_
                              rintro e5 w5' ⟨rfl, hbs10⟩
                              rw [mkB_toList] at hbs10
                              have HBS10 := Lib.hid hbs10
                              clear hbs10
                              go_wp2_with fail
                              exact ⟨out8_next HL8.out hjp HBS10.out, by simp [intOf]; omega⟩
                          · have hte : a.take j = a := List.take_of_length_le (by omega)
                            have HBS9 : Hid (BS ws (pre ++ 32 :: optW (a.map Ex.text)) _) := Lib.hid (by have := HBS8.out; rw [hte] at this; exact this)
                            rw [HPRE.out] at HBS9
                            clear hte
                            go_wp2_with fail
                            exact ⟨out7_next HA7.out HAN.out HBS9.out, by simp [intOf]; omega⟩
                      · have hte : r.take k = r := List.take_of_length_le (by omega)
                        have HBS8 : Hid (BS ws (lineR r) _) := Lib.hid (by have := HBS7.out; rw [hte] at this; exact this)
                        clear hte
                        go_wp2_with fail
                        refine (string_bs ws (lineR r) _ HBS8.out).mono ?_
                        rintro e2 w2' ⟨rfl, hb9⟩
                        have HB9 := Lib.hid hb9
                        have HO9 := Lib.hid (ownsRow_below HO6.out hb9)
                        have hs9 : wB.heap.size ≤ w2'.heap.size := Nat.le_trans HB6.out.size hb9.size
                        clear hb9
                        go_wp2_with (at_builtin; refine wpList_append_own_at _ rfl _ _ 41 rfl wB.heap.size 9 s0 _ 1 16 Tryd.underlying41 hsi hsz0 hsz1 hsz2 rfl (by decide) _ m (linesV (RR.take m)) rfl (HO9.out.alloc _) ⟨_, 0, none⟩ 1 1 [.string (mkB (lineR r))] rfl rfl (cell_one_new _ _ _) (by simp [Value.oneCell']) (by unfold maxLen; omega) (by omega) (by simp; omega) ?_; intro v' w4' hown4 hgrow _ _; have HO4 := Lib.hid hown4; have HG4 := Lib.hid hgrow; clear hown4 hgrow)
                        exact ⟨out6_next HR6.out (HB6.out.trans (HB9.out.mono HB6.out.size)) HO9.out HO4.out HG4.out, by simp [intOf]; omega⟩
                  · have hte : RR.take m = RR := List.take_of_length_le (by rw [HLEN.out]; omega)
                    have HSS : Hid (SS _ (.slice p6 m c6) (RR.map fun r => mkB (lineR r))) := Lib.hid (SS.of_row (n := m) (by have h := HO6.out; rw [hte] at h; unfold linesV at h; rw [List.map_map]; exact h) (by rw [List.length_map, HLEN.out]; omega))
                    clear hte
                    go_wp2_with fail
                    go_ret2
                    exact ⟨HWB.out.trans (HB6.out.mono HWB.out.size), .inl ⟨HF1b.out, _, rfl, by rw [HJ.out]; exact HSS.out⟩⟩
          · have hne : (((M : Int)) == 1) = false := by simp; omega
            have HM := Lib.hid hM
            have HJ : Hid (joinR (rowsE y) = R) := Lib.hid (by rw [← HR.out]; unfold joinR; rw [← HM.out, if_neg hM1])
            have HF1b := Lib.hid (show fineR (rowsE y) = true by have := HF1b.out; rw [HR.out] at this; exact this)
            have HFIT : Hid (Fit R) := Lib.hid (by rw [HR.out]; exact fit_rows y HLY.out HNN.out HTT.out HF1b.out)
            have HRD := Lib.hid HR4b.out
            clear hM hM1
            go_wp2_with fail
            go_loopw [19, 106] (fun v i w7 => Out6 R wA v i w7) (fun _ i _ => R.length - (intOf i).toNat)
            case atStart => exact out6_start R wA
            case round =>
              obtain ⟨m, hm, rfl, hb6, ho6⟩ := hrel
              obtain ⟨p6, c6, rfl⟩ := ownsRow_slice ho6
              have HB6 := Lib.hid hb6
              have HO6 := Lib.hid ho6
              clear hb6 ho6
              by_cases hlt6 : m < R.length
              · obtain ⟨r, hr⟩ : ∃ r, R[m]? = some r := ⟨_, List.getElem?_eq_getElem hlt6⟩
                have hrm := List.mem_of_getElem? hr
                obtain ⟨u, qu, hP⟩ := HRD.out m r hr
                obtain ⟨hrn, hr40⟩ := HFIT.out.row r hrm
                obtain ⟨gr, cr, rfl, hPr⟩ := hP.read (List.length_pos_iff.2 hrn)
                have qu6 := (HB6.out.cell (p := ⟨_, _, none⟩) (lt_of_cell qu)).trans qu
                have HR6 := Lib.hid hr
                have HRM := Lib.hid hrm
                have HPR := Lib.hid hPr
                obtain ⟨ws, hws⟩ : ∃ x, x = wr := ⟨_, rfl⟩
                subst hws
                clear hr hrm hP hPr qu hrn
                go_wp2_with fail
                refine (write_bs ws [] _ _ (BS.fresh ws) (by decide)).mono ?_
                rintro e1 w1 ⟨rfl, hbs1⟩
                have HBS1 : Hid (BS ws plHead w1) := Lib.hid hbs1
                clear hbs1 qu6
                go_wp2_with fail
                go_loopw [113] (fun i w8 => Out7 ws r i w8) (fun i _ => r.length - (intOf i).toNat)
                case atStart => exact out7_start HBS1.out
                case round =>
                  obtain ⟨k, hk, rfl, hbs7⟩ := hrel
                  have HBS7 := Lib.hid hbs7
                  clear hbs7
                  by_cases hlt7 : k < r.length
                  · obtain ⟨a, ha⟩ : ∃ a, r[k]? = some a := ⟨_, List.getElem?_eq_getElem hlt7⟩
                    have ham := List.mem_of_getElem? ha
                    obtain ⟨u, qu, hPa⟩ := HPR.out k a ha
                    obtain ⟨han, ha40⟩ := HFIT.out.opt r HRM.out a ham
                    obtain ⟨ga, ca, rfl, hPa2⟩ := hPa.read (List.length_pos_iff.2 han)
                    have HB7 := Lib.hid (HB6.out.trans (HBS7.out.2.mono HB6.out.size))
                    have qu7 := (HB7.out.cell (p := ⟨_, _, none⟩) (lt_of_cell qu)).trans qu
                    have HA7 := Lib.hid ha
                    have HAM := Lib.hid ham
                    have HAN := Lib.hid han
                    have HPA := Lib.hid hPa2
                    have HLN := Lib.hid (HFIT.out.line HRM.out k)
                    clear ha ham hPa hPa2 qu han
                    go_wp2_with fail
                    refine (write_bs ws (lineR (r.take k)) _ _ HBS7.out (by have := HLN.out; have e : (ByteArray.mk #[32]).size = 1 := rfl; rw [e]; omega)).mono ?_
                    rintro e2 w2' ⟨rfl, hbs2⟩
                    have HBS2 : Hid (BS ws (lineR (r.take k) ++ [32]) w2') := Lib.hid hbs2
                    clear hbs2 qu7
                    obtain ⟨pre, hpre⟩ : ∃ p, p = lineR (r.take k) := ⟨_, rfl⟩
                    rw [← hpre] at HBS2 HLN
                    have HPRE := Lib.hid hpre
                    clear hpre
                    go_wp2_with fail
                    go_loopw [120] (fun i w9 => Out8 ws pre a i w9) (fun i _ => a.length - (intOf i).toNat)
                    case atStart => exact out8_start HBS2.out
                    case round =>
                      obtain ⟨j, hj, rfl, hbs8⟩ := hrel
                      have HBS8 := Lib.hid hbs8
                      clear hbs8
                      by_cases hlt8 : j < a.length
                      · obtain ⟨l, hl⟩ : ∃ l, a[j]? = some l := ⟨_, List.getElem?_eq_getElem hlt8⟩
                        have hlm := List.mem_of_getElem? hl
                        obtain ⟨u, qu, hCl⟩ := HPA.out j l hl
                        obtain ⟨bl, rfl⟩ := hCl.form
                        have HB8 := Lib.hid (HB6.out.trans (HBS8.out.2.mono HB6.out.size))
                        have qu8 := (HB8.out.cell (p := ⟨_, _, none⟩) (lt_of_cell qu)).trans qu
                        have HQU := Lib.hid qu
                        have HL8 := Lib.hid hl
                        have HCL := Lib.hid hCl
                        have HTL := Lib.hid (HFIT.out.lit r HRM.out a HAM.out l hlm)
                        have HOL := Lib.hid (HFIT.out.opts HRM.out HAM.out j)
                        have me := fun w => method_str l ⟨bl, 0, none⟩ w
                        have en := fun args w => enter_str l args w
                        clear hl hlm hCl qu
                        rcases Nat.eq_zero_or_pos j with rfl | hjp
                        · go_wp2_with fail
                          refine (str_any l bl _ (HCL.out.below HB8.out) (by have := HTL.out; omega)).mono ?_
                          rintro e3 w3' ⟨rfl, n3, rfl⟩
                          go_wp2_with fail
                          refine (write_bs ws (pre ++ 32 :: optW ((a.take 0).map Ex.text)) _ _ (HBS8.out.drewN n3) (by have h1 := HLN.out; have h2 := HOL.out; have h3 := HTL.out; rw [mkB_size, List.length_append, List.length_cons]; omega)).mono ?_
                          rintro e4 w4' ⟨rfl, hbs9⟩
                          rw [mkB_toList] at hbs9
                          have HBS9 := Lib.hid hbs9
                          clear hbs9
                          go_wp2_with fail
                          exact ⟨out8_first HL8.out HBS9.out, by simp [intOf]; omega⟩
                        · have hjp2 : (0 : Int) < (j : Int) := by omega
                          go_wp2_with fail
                          refine (write_bs ws (pre ++ 32 :: optW ((a.take j).map Ex.text)) _ _ HBS8.out (by have h1 := HLN.out; have h2 := HOL.out; have e : (ByteArray.mk #[44]).size = 1 := rfl; rw [e, List.length_append, List.length_cons]; omega)).mono ?_
                          rintro e3 w3' ⟨rfl, hbs9⟩
                          have HBS9 : Hid (BS ws ((pre ++ 32 :: optW ((a.take j).map Ex.text)) ++ [44]) w3') := Lib.hid hbs9
                          have HB9 := Lib.hid (HB6.out.trans (hbs9.2.mono HB6.out.size))
                          have qu9 := (HB9.out.cell (p := ⟨_, _, none⟩) (lt_of_cell HQU.out)).trans HQU.out
                          clear hbs9 qu8
                          go_wp2_with fail
                          refine (str_any l bl _ (HCL.out.below HB9.out) (by have := HTL.out; omega)).mono ?_
                          rintro e4 w4' ⟨rfl, n3, rfl⟩
                          go_wp2_with fail
                          refine (write_bs ws ((pre ++ 32 :: optW ((a.take j).map Ex.text)) ++ [44]) _ _ (HBS9.out.drewN n3) (by have h1 := HLN.out; have h2 := HOL.out; have h3 := HTL.out; rw [mkB_size, List.length_append, List.length_append, List.length_cons, List.length_singleton]; omega)).mono ?_
                          rintro e5 w5' ⟨rfl, hbs10⟩
                          rw [mkB_toList] at hbs10
                          have HBS10 := Lib.hid hbs10
                          clear hbs10
                          go_wp2_with fail
                          exact ⟨out8_next HL8.out hjp HBS10.out, by simp [intOf]; omega⟩
                      · have hte : a.take j = a := List.take_of_length_le (by omega)
                        have HBS9 : Hid (BS ws (pre ++ 32 :: optW (a.map Ex.text)) _) := Lib.hid (by have := HBS8.out; rw [hte] at this; exact this)
                        rw [HPRE.out] at HBS9
                        clear hte
                        go_wp2_with fail
                        exact ⟨out7_next HA7.out HAN.out HBS9.out, by simp [intOf]; omega⟩
                  · have hte : r.take k = r := List.take_of_length_le (by omega)
                    have HBS8 : Hid (BS ws (lineR r) _) := Lib.hid (by have := HBS7.out; rw [hte] at this; exact this)
                    clear hte
                    go_wp2_with fail
                    refine (string_bs ws (lineR r) _ HBS8.out).mono ?_
                    rintro e2 w2' ⟨rfl, hb9⟩
                    have HB9 := Lib.hid hb9
                    have HO9 := Lib.hid (ownsRow_below HO6.out hb9)
                    have hs9 : wA.heap.size ≤ w2'.heap.size := Nat.le_trans HB6.out.size hb9.size
                    clear hb9
                    go_wp2_with (at_builtin; refine wpList_append_own_at _ rfl _ _ 41 rfl wA.heap.size 9 s0 _ 1 16 Tryd.underlying41 hsi hsz0 hsz1 hsz2 rfl (by decide) _ m (linesV (R.take m)) rfl (HO9.out.alloc _) ⟨_, 0, none⟩ 1 1 [.string (mkB (lineR r))] rfl rfl (cell_one_new _ _ _) (by simp [Value.oneCell']) (by unfold maxLen; omega) (by omega) (by simp; omega) ?_; intro v' w4' hown4 hgrow _ _; have HO4 := Lib.hid hown4; have HG4 := Lib.hid hgrow; clear hown4 hgrow)
                    exact ⟨out6_next HR6.out (HB6.out.trans (HB9.out.mono HB6.out.size)) HO9.out HO4.out HG4.out, by simp [intOf]; omega⟩
              · have hte : R.take m = R := List.take_of_length_le (by omega)
                have HSS : Hid (SS _ (.slice p6 m c6) (R.map fun r => mkB (lineR r))) := Lib.hid (SS.of_row (n := m) (by have h := HO6.out; rw [hte] at h; unfold linesV at h; rw [List.map_map]; exact h) (by rw [List.length_map]; omega))
                clear hte
                go_wp2_with fail
                go_ret2
                exact ⟨HWB.out.trans (HB6.out.mono HWB.out.size), .inl ⟨HF1b.out, _, rfl, by rw [HJ.out]; exact HSS.out⟩⟩
end Go.Proofs.YteemenhinhkonaaDoor
/- impl.PlusBuildLines. -/
namespace Go.Proofs.YteemenhinhkonaaDoor
open Go.RowKit

def ImpP (x : Ex) (w : World) (e : Ending) (w' : World) : Prop := Below w.heap.size w w' ∧ ((fineR (rowsE (pn false x)) = true ∧ ∃ v, e = .returned (.tuple #[v, .bool true]) ∧ SS w' v ((joinR (rowsE (pn false x))).map fun r => mkB (lineR r))) ∨
  (fineR (rowsE (pn false x)) = false ∧ ∃ v, e = .returned (.tuple #[v, .bool false])))
set_option maxHeartbeats 1000000 in
theorem implPbl_any (x : Ex) (c0 c1 c2 : Value) (w : World) (h : XIs (fun _ => True) w x c0 c1 c2) (hE : Errs w) (hl : x.leaves ≤ 40) (ht : x.tagsLe 1048576) :
    Calls Tryd.prog 29 #[.agg #[c0, c1, c2]] w (ImpP x w) := by
  obtain ⟨s, a, cap, rfl, rfl, rfl, -⟩ := h.form
  have HX := Lib.hid h
  have HE := Lib.hid hE
  clear h hE
  go_enter Tryd.func29, Tryd.ntmps29
  go_wp2_with fail
  have bwa : Below w.heap.size w (w.alloc (.cells #[.int .i64 x.kind, .string s, .slice a x.arity cap] 29)) := (Below.refl _ _).alloc (Nat.le_refl _) _
  refine (build_any x _ _ _ _ (HX.out.below bwa)).mono ?_
  rintro e1 w1 ⟨v1, rfl, hc1, hb1⟩
  obtain ⟨b1, rfl⟩ := hc1.form
  have HB := Lib.hid (bwa.trans (hb1.mono bwa.size))
  have HC := Lib.hid hc1
  clear hb1 hc1 bwa
  go_wp2_with fail
  refine (pbl_any x b1 w1 HC.out (HE.out.below HB.out) hl ht).mono ?_
  rintro e2 w2 ⟨hb2, ⟨hf, v, rfl, hss⟩ | ⟨hf, a2, rfl⟩⟩
  · have HB2 := Lib.hid (HB.out.trans (hb2.mono HB.out.size))
    have HF := Lib.hid hf
    have HSS := Lib.hid hss
    clear hb2 hf hss
    go_wp2_with fail
    go_quiet (fail)
    all_goals go_wp2_with fail
    all_goals go_ret2
    all_goals exact ⟨below_drewN' HB2.out _, .inl ⟨HF.out, v, rfl, HSS.out.below (below_drewN' (Below.refl _ _) _)⟩⟩
  · have HB2 := Lib.hid (HB.out.trans (hb2.mono HB.out.size))
    have HF := Lib.hid hf
    clear hb2 hf
    go_wp2_with fail
    go_quiet (fail)
    all_goals go_wp2_with fail
    all_goals go_ret2
    all_goals exact ⟨below_drewN' HB2.out _, .inr ⟨HF.out, _, rfl⟩⟩
end Go.Proofs.YteemenhinhkonaaDoor
