/- The walk of laws.FnEvalOther: whatever expression and text the arguments read as, the call returns true and leaves all memory that was there. -/
import Derived.Test.YteemenhinhkonaaProg
import Derived.Test.YteemenhinhkonaaFnEval
namespace Go.Proofs.Yteemenhinhkonaa
open Go.RowKit

theorem hasB_other {ts c : List ByteArray} {other t : ByteArray} (ho : hasB ts other = false) (ht : t ∈ ts) : hasB (other :: c) t = hasB c t := by
  have hne : other ≠ t := by
    rintro rfl
    rw [(hasB_iff ts other).2 ht] at ho
    cases ho
  unfold hasB
  rw [List.any_cons, toList_beq]
  simp [hne]
theorem eval_other {x : Ex} {c : List ByteArray} {other : ByteArray} (ho : hasB x.tags other = false) : x.eval (hasB (other :: c)) = x.eval (hasB c) :=
  eval_congr x fun t ht => hasB_other ho ((mem_tags x t).2 ht)

theorem below_appD {wr w1 : World} {o : Obj} {v : Value} {n c : Nat} (h : (v.ownBlock = (Value.slice (some ⟨wr.heap.size, 0, none⟩) n c).ownBlock ∧ (wr.alloc o).drew.grownBy w1 (Value.slice (some ⟨wr.heap.size, 0, none⟩) n c).ownBlock) ∨ (v.ownBlock = some (wr.alloc o).drew.heap.size ∧ Below (wr.alloc o).drew.heap.size (wr.alloc o).drew w1)) : Below wr.heap.size wr w1 := by
  have h0 : Below wr.heap.size wr (wr.alloc o).drew := ((Below.refl _ _).alloc (Nat.le_refl _) _).drew
  have hs : (wr.alloc o).drew.heap.size = wr.heap.size + 1 := by show (wr.alloc o).heap.size = _; simp
  rcases h with ⟨_, h⟩ | ⟨_, h⟩
  · exact h0.grown h (by omega) (fun k hk => by simp [Value.ownBlock] at hk; omega)
  · exact h0.trans (h.mono (by omega))
theorem SS_cells {w : World} {gu cu : Nat} {c : List ByteArray} (h : SS w (.slice (some ⟨gu, 0, none⟩) c.length cu) c) : ∀ (o : Obj) (j : Nat) (u : Value), (c.map Value.string)[j]? = some u → (w.alloc o).drew.cell? ((⟨gu, 0, none⟩ : Addr).add j) = some u := by
  intro o j u hu
  show (w.alloc o).cell? _ = _
  rw [List.getElem?_map] at hu
  cases hs : c[j]? with
  | none => rw [hs] at hu; cases hu
  | some s =>
    rw [hs] at hu
    simp at hu
    subst hu
    obtain ⟨b, off, ha, hc⟩ := h.cell hs
    injection ha with ha
    injection ha with hb hoff
    subst hb hoff
    have hadd : (⟨gu, 0, none⟩ : Addr).add j = ⟨gu, 0 + j, none⟩ := by
      unfold Addr.add
      split
      · rename_i h0; subst h0; rfl
      · rfl
    rw [hadd]
    exact (cell_old_alloc w o (lt_of_cell hc)).trans hc

set_option maxHeartbeats 4000000 in
theorem fnEvalOther_any (n : Nat) (e : E) (c0 c1 c2 : Value) (other : ByteArray) (w : World) (h : EIs (fun _ => True) w n e c0 c1 c2) : Calls Try.prog 4 #[.agg #[c0, c1, c2], .string other] w (CallPost true w) := by
  obtain ⟨a, cap, rfl, rfl, rfl⟩ := h.form
  obtain ⟨i0, hi, hz0, hz1, hz2⟩ := info_parts info_string
  have HE := Lib.hid h
  clear h
  go_enter Try.func4, Try.ntmps4
  go_wp2_with fail
  obtain ⟨wa, hwa⟩ : ∃ wa, wa = w.alloc (.cells #[.int .i64 e.kind, .string e.tag, .slice a e.subs.length cap] 24) := ⟨_, rfl⟩
  rw [← hwa]
  have bwa : Below w.heap.size w wa := by rw [hwa]; exact (Below.refl _ _).alloc (Nat.le_refl _) _
  have swa : wa.heap.size = w.heap.size + 1 := by rw [hwa]; simp
  have d0 : wa.cell? ⟨w.heap.size, 0, none⟩ = some (.int .i64 e.kind) := by rw [hwa]; simp [go_sem]
  have d1 : wa.cell? ⟨w.heap.size, 1, none⟩ = some (.string e.tag) := by rw [hwa]; simp [go_sem]
  have d2 : wa.cell? ⟨w.heap.size, 2, none⟩ = some (.slice a e.subs.length cap) := by rw [hwa]; simp [go_sem]
  have BWA := Lib.hid bwa
  have kc : ∀ w', Below wa.heap.size wa w' → w'.cell? ⟨w.heap.size, 0, none⟩ = some (.int .i64 e.kind) ∧ w'.cell? ⟨w.heap.size, 1, none⟩ = some (.string e.tag) ∧ w'.cell? ⟨w.heap.size, 2, none⟩ = some (.slice a e.subs.length cap) := fun w' hb =>
    ⟨(hb.cell (by simp; omega)).trans d0, (hb.cell (by simp; omega)).trans d1, (hb.cell (by simp; omega)).trans d2⟩
  have KC := Lib.hid kc
  have HEA := Lib.hid (HE.out.below bwa)
  clear hwa bwa swa kc HE
  refine (lawForm_any n e _ _ _ _ HEA.out).mono ?_
  rintro e1 w1 ⟨b, rfl, hb1, hform⟩
  cases b with
  | false =>
    have HB1 := Lib.hid hb1
    clear hb1 hform
    go_wp2_with fail
    go_ret
    exact ⟨rfl, BWA.out.trans (HB1.out.mono BWA.out.size)⟩
  | true =>
    obtain ⟨x, hx, hd, ho, h8⟩ := hform rfl
    have HX := Lib.hid hx
    have HB1 := Lib.hid hb1
    obtain ⟨q0, q1, q2⟩ := KC.out w1 hb1
    have hlv : x.leaves ≤ 128 := by
      have h1 := (leaves_deep x).1
      have h2 : 2 ^ (x.deep - 1) ≤ 2 ^ 7 := Nat.pow_le_pow_right (by omega) (by omega)
      have h3 : (2 : Nat) ^ 7 = 128 := rfl
      omega
    clear hb1 hform hx
    go_wp2_with fail
    refine (specExpr_any n e _ _ _ _ (HEA.out.below HB1.out)).mono ?_
    rintro e2 w2 ⟨c2', rfl, hx2, hb2⟩
    obtain ⟨a2, cap2, -, -, rfl⟩ := hx2.form
    have HX2 := Lib.hid (XIs_of HX.out (hx2.widen (S' := fun _ => True) fun _ _ _ => trivial))
    have HB2 := Lib.hid (HB1.out.trans (hb2.mono HB1.out.size))
    clear hx2 hb2 q0 q1 q2
    go_wp2_with fail
    refine (tags_any x _ _ _ _ HX2.out (by omega)).mono ?_
    rintro e3 w3 ⟨vt, rfl, hss, -, hb3⟩
    have HB3 := Lib.hid (HB2.out.trans (hb3.mono HB2.out.size))
    have HSS := Lib.hid hss
    obtain ⟨at_, ct, rfl, -⟩ : ∃ a cap, vt = .slice a x.tags.length cap ∧ True := by obtain ⟨a, cap, h1, _⟩ := hss; exact ⟨a, cap, h1, trivial⟩
    clear hss hb3
    go_wp2_with fail
    refine (has_any _ x.tags other _ HSS.out).mono ?_
    cases hot : hasB x.tags other with
    | true =>
      rintro e4 w4 ⟨rfl, rfl⟩
      clear hot
      go_wp2_with fail
      go_ret
      exact ⟨rfl, BWA.out.trans (HB3.out.mono BWA.out.size)⟩
    | false =>
    rintro e4 w4 ⟨rfl, rfl⟩
    have HOT := Lib.hid hot
    obtain ⟨q0, q1, q2⟩ := KC.out w3 HB3.out
    clear hot HSS HX2 HB2
    go_wp2_with fail
    refine (specExpr_any n e _ _ _ _ (HEA.out.below HB3.out)).mono ?_
    rintro e5 w5 ⟨c5', rfl, hx5, hb5⟩
    obtain ⟨a5, cap5, -, -, rfl⟩ := hx5.form
    have HX5 := Lib.hid (XIs_of HX.out (hx5.widen (S' := fun _ => True) fun _ _ _ => trivial))
    have HB5 := Lib.hid (HB3.out.trans (hb5.mono HB3.out.size))
    clear hx5 hb5 q0 q1 q2
    go_wp2_with fail
    refine (tags_any x _ _ _ _ HX5.out (by omega)).mono ?_
    rintro e6 w6 ⟨vt6, rfl, hss, -, hb6⟩
    have HB6 := Lib.hid (HB5.out.trans (hb6.mono HB5.out.size))
    have HSS := Lib.hid hss
    obtain ⟨at6, ct6, rfl, -⟩ : ∃ a cap, vt6 = .slice a x.tags.length cap ∧ True := by obtain ⟨a, cap, h1, _⟩ := hss; exact ⟨a, cap, h1, trivial⟩
    clear hss hb6
    go_wp2_with fail
    refine (choices_any _ x.tags _ HSS.out).mono ?_
    rintro e7 w7 ⟨vc, rfl, hll, hb7⟩
    rw [if_pos h8] at hll
    have HB7 := Lib.hid (HB6.out.trans (hb7.mono HB6.out.size))
    obtain ⟨ac, cc, rfl, hcell⟩ := hll.cellsAt
    have HCE := Lib.hid hcell
    have hcl : (choices x.tags).length ≤ 256 := by
      have h1 := choices_length x.tags x.tags.length (Nat.le_refl _)
      rw [List.take_of_length_le (Nat.le_refl _)] at h1
      rw [h1]
      exact Nat.le_trans (Nat.pow_le_pow_right (by omega) h8) (by decide)
    have hcm : ∀ c ∈ choices x.tags, c.length ≤ 8 := fun c hc => by
      have := choices_mem x.tags x.tags.length (Nat.le_refl _) c (by rw [List.take_of_length_le (Nat.le_refl _)]; exact hc)
      omega
    have HCM := Lib.hid hcm
    obtain ⟨cs, hcs⟩ : ∃ cs, cs = choices x.tags := ⟨_, rfl⟩
    rw [← hcs] at HCE HCM hcl
    rw [← hcs]
    clear hcs hll hb7 hcell hcm HSS HX5
    go_wp2_with fail
    go_loopw [22] (fun i wr => LoopB cs.length w7 i wr) (fun i _ => cs.length - (intOf i).toNat)
    case atStart => exact ⟨0, Nat.zero_le _, rfl, Below.refl _ _⟩
    case round =>
      obtain ⟨k, hk, rfl, hbr⟩ := hrel
      have HBR := Lib.hid hbr
      have HBA := Lib.hid (HB7.out.trans (hbr.mono HB7.out.size))
      clear hbr
      by_cases hlt : k < cs.length
      · obtain ⟨c, hc⟩ : ∃ c, cs[k]? = some c := ⟨_, List.getElem?_eq_getElem hlt⟩
        obtain ⟨b, u, rfl, hcu, ⟨gu, cu, rfl⟩, hssu⟩ := HCE.out k c hc
        have hc8 : c.length ≤ 8 := HCM.out c (List.mem_of_getElem? hc)
        have HSU := Lib.hid ((hssu (by omega)).below HBR.out)
        have hcu' := (HBR.out.cell (p := ⟨b, k, none⟩) (lt_of_cell hcu)).trans hcu
        obtain ⟨q0, q1, q2⟩ := KC.out wr HBA.out
        have qa : ∀ o, (wr.alloc o).cell? ⟨w.heap.size, 0, none⟩ = some (.int .i64 e.kind) ∧ (wr.alloc o).cell? ⟨w.heap.size, 1, none⟩ = some (.string e.tag) ∧ (wr.alloc o).cell? ⟨w.heap.size, 2, none⟩ = some (.slice a e.subs.length cap) := fun o => KC.out _ (HBA.out.alloc HBA.out.size o)
        have qa0 := fun o => (qa o).1
        have qa1 := fun o => (qa o).2.1
        have qa2 := fun o => (qa o).2.2
        have HXA := Lib.hid (XIs_of HX.out (HEA.out.below HBA.out))
        have HSC := Lib.hid (SS_cells HSU.out)
        clear hc hcu hssu qa
        go_wp2_with fail
        cases hg : x.eval (hasB c)
        all_goals
          have HG := Lib.hid hg
          clear hg
          go_region_law (first | (go_simp; go_at_call 10; refine (implEval_any x _ _ _ _ (other :: c) _ (by exact HXA.out.below HB1x.out) (by exact SS.of_row (ss := other :: c) HO1.out (by simp; omega))).mono ?_; rw [eval_other HOT.out, HG.out]; rintro e2 w2 ⟨rfl, hb2⟩; have HB2x := Lib.hid (HB1x.out.trans (hb2.mono HB1x.out.size)); obtain ⟨r0, r1, r2⟩ := KC.out w2 (HBA.out.trans (HB2x.out.mono HBA.out.size)); clear hb2) | (go_simp; go_at_call 9; refine (specExpr_any n e _ _ _ _ (by exact HEA.out.below (HBA.out.trans (HB2x.out.mono HBA.out.size)))).mono ?_; rintro e3 w3 ⟨c3', rfl, hx3, hb3⟩; obtain ⟨a3, cap3, -, -, rfl⟩ := hx3.form; have HX3 := Lib.hid (XIs_of HX.out (hx3.widen (S' := fun _ => True) fun _ _ _ => trivial)); have HB3x := Lib.hid (HB2x.out.trans (hb3.mono HB2x.out.size)); clear hx3 hb3) | (go_simp; go_at_call 11; refine (specEval_any x _ _ _ _ c _ HX3.out (by exact HSU.out.below HB3x.out)).mono ?_; rw [HG.out]; rintro e4 w4 ⟨rfl, hb4⟩; have HB4x := Lib.hid (HB3x.out.trans (hb4.mono HB3x.out.size)); clear hb4) | (refine step_append_own2 rfl (.tmp 28) (.tmp 29) 28 rfl wr.heap.size 9 i0 _ 1 16 Try.underlying28 hi hz0 hz1 hz2 rfl (by decide) _ 1 [.string other] rfl (by exact ⟨rfl, .inr ⟨wr.heap.size, 1, #[.string other], rfl, Nat.le_refl _, heap_new _ _ rfl, Nat.le_refl _, by unfold maxLen; omega, rfl, rfl⟩⟩) ⟨gu, 0, none⟩ c.length cu (c.map Value.string) rfl (by simp) (by exact HSC.out _) (strings_oneCell c) (by unfold maxLen; omega) (by omega) (by simp) ?_; intro v1 w1 ho1 hc1; have hb1 : Below wr.heap.size wr w1 := below_appD hc1; obtain ⟨p1, cp1, rfl⟩ := ownsRow_slice ho1; obtain ⟨q10, q11, q12⟩ := KC.out w1 (HBA.out.trans (hb1.mono HBA.out.size)); have HO1 := Lib.hid ho1; have HB1x := Lib.hid hb1; clear ho1 hb1 hc1))
          all_goals go_wp2
          all_goals exact ⟨⟨k + 1, hlt, by go_num, HBR.out.trans (HB4x.out.mono HBR.out.size)⟩, by simp [intOf]; omega⟩
      · go_wp2_with fail
        go_ret
        exact ⟨rfl, BWA.out.trans (HBA.out.mono BWA.out.size)⟩
end Go.Proofs.Yteemenhinhkonaa
