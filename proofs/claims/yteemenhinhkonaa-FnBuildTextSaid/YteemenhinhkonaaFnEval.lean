/- The walk of laws.FnEval: whatever expression the argument reads as, the call returns true and leaves all memory that was there. -/
import Derived.Test.YteemenhinhkonaaProg
import Derived.Test.YteemenhinhkonaaForm
import Derived.Test.YteemenhinhkonaaChoices
import Derived.Test.YteemenhinhkonaaImplEval
namespace Go.Proofs.Yteemenhinhkonaa
open Go.RowKit

theorem LL.cellsAt {w : World} {v : Value} {cs : List (List ByteArray)} (h : LL w v cs) : ∃ a cap, v = .slice a cs.length cap ∧ ∀ i c, cs[i]? = some c → ∃ b u, a = some ⟨b, 0, none⟩ ∧ w.cell? ⟨b, i, none⟩ = some u ∧ (∃ g cu, u = .slice (some ⟨g, 0, none⟩) c.length cu) ∧ (c.length ≤ 140737488355328 → SS w u c) := by
  obtain ⟨vals, base, ho, hl⟩ := h
  obtain ⟨p, cap, rfl⟩ := ownsRow_slice ho
  refine ⟨p, cap, rfl, fun i c hc => ?_⟩
  have hi : i < cs.length := (List.getElem?_eq_some_iff.1 hc).1
  obtain ⟨g, rfl, _, _, hcell⟩ := ownsRow_at ho (by omega)
  obtain ⟨u, hu⟩ : ∃ u, vals[i]? = some u := ⟨_, List.getElem?_eq_getElem (by have := hl.1; omega)⟩
  obtain ⟨hform, hrow⟩ := hl.2 i u c hu hc
  exact ⟨g, u, rfl, hcell i u hu, hform, fun h => SS.of_row hrow h⟩

def LoopB (n : Nat) (w : World) (i : Value) (wr : World) : Prop := ∃ k : Nat, k ≤ n ∧ i = .int .i64 k ∧ Below w.heap.size w wr
def EvalRel (n : Nat) (w : World) (i sm : Value) (wr : World) : Prop := ∃ k : Nat, k ≤ n ∧ i = .int .i64 k ∧ sm = .bool (decide (0 < k)) ∧ Below w.heap.size w wr

set_option maxHeartbeats 2000000 in
theorem fnEval_any (n : Nat) (e : E) (c0 c1 c2 : Value) (w : World) (h : EIs (fun _ => True) w n e c0 c1 c2) : Calls Try.prog 3 #[.agg #[c0, c1, c2]] w (CallPost true w) := by
  obtain ⟨a, cap, rfl, rfl, rfl⟩ := h.form
  have HE := Lib.hid h
  clear h
  go_enter Try.func3, Try.ntmps3
  go_wp2_with fail
  obtain ⟨wa, hwa⟩ : ∃ wa, wa = w.alloc (.cells #[.int .i64 e.kind, .string e.tag, .slice a e.subs.length cap] 24) := ⟨_, rfl⟩
  rw [← hwa]
  have bwa : Below w.heap.size w wa := by rw [hwa]; exact (Below.refl _ _).alloc (Nat.le_refl _) _
  have swa : wa.heap.size = w.heap.size + 1 := by rw [hwa]; simp
  have d0 : wa.cell? ⟨w.heap.size, 0, none⟩ = some (.int .i64 e.kind) := by rw [hwa]; simp [go_sem]
  have d1 : wa.cell? ⟨w.heap.size, 1, none⟩ = some (.string e.tag) := by rw [hwa]; simp [go_sem]
  have d2 : wa.cell? ⟨w.heap.size, 2, none⟩ = some (.slice a e.subs.length cap) := by rw [hwa]; simp [go_sem]
  have BWA := Lib.hid bwa
  have kc : ∀ w', Below wa.heap.size wa w' → w'.cell? ⟨w.heap.size, 0, none⟩ = some (.int .i64 e.kind) ∧ w'.cell? ⟨w.heap.size, 1, none⟩ = some (.string e.tag) ∧ w'.cell? ⟨w.heap.size, 2, none⟩ = some (.slice a e.subs.length cap) := fun w' hb =>
    ⟨(hb.cell (by simp; omega)).trans d0, (hb.cell (by simp; omega)).trans d1, (hb.cell (by simp; omega)).trans d2⟩
  have KC := Lib.hid kc
  have HEA := Lib.hid (HE.out.below bwa)
  clear hwa bwa swa kc HE
  refine (lawForm_any n e _ _ _ _ HEA.out).mono ?_
  rintro e1 w1 ⟨b, rfl, hb1, hform⟩
  cases b with
  | false =>
    have HB1 := Lib.hid hb1
    clear hb1 hform
    go_wp2_with fail
    go_ret
    exact ⟨rfl, BWA.out.trans (HB1.out.mono BWA.out.size)⟩
  | true =>
    obtain ⟨x, hx, hd, ho, h8⟩ := hform rfl
    have HX := Lib.hid hx
    have HB1 := Lib.hid hb1
    obtain ⟨q0, q1, q2⟩ := KC.out w1 hb1
    have hlv : x.leaves ≤ 128 := by
      have h1 := (leaves_deep x).1
      have h2 : 2 ^ (x.deep - 1) ≤ 2 ^ 7 := Nat.pow_le_pow_right (by omega) (by omega)
      have h3 : (2 : Nat) ^ 7 = 128 := rfl
      omega
    clear hb1 hform hx
    go_wp2_with fail
    refine (specExpr_any n e _ _ _ _ (HEA.out.below HB1.out)).mono ?_
    rintro e2 w2 ⟨c2', rfl, hx2, hb2⟩
    obtain ⟨a2, cap2, -, -, rfl⟩ := hx2.form
    have HX2 := Lib.hid (XIs_of HX.out (hx2.widen (S' := fun _ => True) fun _ _ _ => trivial))
    have HB2 := Lib.hid (HB1.out.trans (hb2.mono HB1.out.size))
    clear hx2 hb2
    go_wp2_with fail
    refine (tags_any x _ _ _ _ HX2.out (by omega)).mono ?_
    rintro e3 w3 ⟨vt, rfl, hss, -, hb3⟩
    have HB3 := Lib.hid (HB2.out.trans (hb3.mono HB2.out.size))
    have HSS := Lib.hid hss
    obtain ⟨at_, ct, rfl, -⟩ : ∃ a cap, vt = .slice a x.tags.length cap ∧ True := by obtain ⟨a, cap, h1, _⟩ := hss; exact ⟨a, cap, h1, trivial⟩
    clear hss hb3
    go_wp2_with fail
    refine (choices_any _ x.tags _ HSS.out).mono ?_
    rintro e4 w4 ⟨vc, rfl, hll, hb4⟩
    rw [if_pos h8] at hll
    have HB4 := Lib.hid (HB3.out.trans (hb4.mono HB3.out.size))
    obtain ⟨ac, cc, rfl, hcell⟩ := hll.cellsAt
    have HCE := Lib.hid hcell
    have hne : 0 < (choices x.tags).length := by
      have h1 := choices_length x.tags x.tags.length (Nat.le_refl _)
      rw [List.take_of_length_le (Nat.le_refl _)] at h1
      rw [h1]
      exact Nat.pow_pos (by omega)
    have hcl : (choices x.tags).length ≤ 256 := by
      have h1 := choices_length x.tags x.tags.length (Nat.le_refl _)
      rw [List.take_of_length_le (Nat.le_refl _)] at h1
      rw [h1]
      exact Nat.le_trans (Nat.pow_le_pow_right (by omega) h8) (by decide)
    have hcm : ∀ c ∈ choices x.tags, c.length ≤ 8 := fun c hc => by
      have := choices_mem x.tags x.tags.length (Nat.le_refl _) c (by rw [List.take_of_length_le (Nat.le_refl _)]; exact hc)
      omega
    have HCM := Lib.hid hcm
    obtain ⟨cs, hcs⟩ : ∃ cs, cs = choices x.tags := ⟨_, rfl⟩
    rw [← hcs] at HCE HCM hne hcl
    rw [← hcs]
    clear hcs hll hb4 hcell hcm HSS HX2 q0 q1 q2
    go_wp2_with fail
    go_loopw [3, 15] (fun sm i wr => EvalRel cs.length w4 i sm wr) (fun _ i _ => cs.length - (intOf i).toNat)
    case atStart => exact ⟨0, Nat.zero_le _, rfl, rfl, Below.refl _ _⟩
    case round =>
      obtain ⟨k, hk, rfl, rfl, hbr⟩ := hrel
      have HBR := Lib.hid hbr
      have HBA := Lib.hid (HB4.out.trans (hbr.mono HB4.out.size))
      clear hbr
      by_cases hlt : k < cs.length
      · obtain ⟨c, hc⟩ : ∃ c, cs[k]? = some c := ⟨_, List.getElem?_eq_getElem hlt⟩
        obtain ⟨b, u, rfl, hcu, ⟨gu, cu, rfl⟩, hssu⟩ := HCE.out k c hc
        have hc8 : c.length ≤ 8 := HCM.out c (List.mem_of_getElem? hc)
        have HSU := Lib.hid ((hssu (by omega)).below HBR.out)
        have hcu' := (HBR.out.cell (p := ⟨b, k, none⟩) (lt_of_cell hcu)).trans hcu
        obtain ⟨q0, q1, q2⟩ := KC.out wr HBA.out
        have HXA := Lib.hid (XIs_of HX.out (HEA.out.below HBA.out))
        clear hc hcu hssu
        go_wp2_with fail
        refine (implEval_any x _ _ _ _ c _ HXA.out HSU.out).mono ?_
        cases hg : x.eval (hasB c)
        all_goals
          rintro e5 w5 ⟨rfl, hb5⟩
          have HG := Lib.hid hg
          have HB5 := Lib.hid (HBA.out.trans (hb5.mono HBA.out.size))
          obtain ⟨r0, r1, r2⟩ := KC.out w5 HB5.out
          have HSU5 := Lib.hid (HSU.out.below hb5)
          have HR5 := Lib.hid (HBR.out.trans (hb5.mono HBR.out.size))
          clear hg hb5 q0 q1 q2
          go_wp2_with fail
          refine (specExpr_any n e _ _ _ _ (HEA.out.below HB5.out)).mono ?_
          rintro e6 w6 ⟨c6, rfl, hx6, hb6⟩
          obtain ⟨a6, cap6, -, -, rfl⟩ := hx6.form
          have HX6 := Lib.hid (XIs_of HX.out (hx6.widen (S' := fun _ => True) fun _ _ _ => trivial))
          have HB6 := Lib.hid (HB5.out.trans (hb6.mono HB5.out.size))
          have HSU6 := Lib.hid (HSU5.out.below hb6)
          have HR6 := Lib.hid (HR5.out.trans (hb6.mono HR5.out.size))
          clear hx6 hb6 r0 r1 r2
          go_wp2_with fail
          refine (specEval_any x _ _ _ _ c _ HX6.out HSU6.out).mono ?_
          rw [HG.out]
          rintro e7 w7 ⟨rfl, hb7⟩
          have HB7 := Lib.hid (HB6.out.trans (hb7.mono HB6.out.size))
          obtain ⟨r0, r1, r2⟩ := KC.out w7 HB7.out
          have HSU7 := Lib.hid (HSU6.out.below hb7)
          have HR7 := Lib.hid (HR6.out.trans (hb7.mono HR6.out.size))
          clear hb7
          go_wp2_with fail
          have hba7 : Below w7.heap.size w7 (w7.alloc (.cells #[.int .i64 e.kind, .string e.tag, .slice a e.subs.length cap] 24)) := (Below.refl _ _).alloc (Nat.le_refl _) _
          refine (implEval_any (.not x) _ _ _ _ c _ ⟨rfl, ⟨_, rfl, Nat.zero_le _⟩, w7.heap.size, 0, 1, _, _, _, rfl, trivial, by simp [go_sem], by simp [go_sem], by simp [go_sem], XIs_of HX.out ((HEA.out.below HB7.out).below hba7)⟩ (HSU7.out.below hba7)).mono ?_
          have HR8 := Lib.hid (HR7.out.trans (hba7.mono HR7.out.size))
          rw [show (Ex.not x).eval (hasB c) = !x.eval (hasB c) from rfl, HG.out]
          rintro e8 w8 ⟨rfl, hb8⟩
          have HR9 := Lib.hid (HR8.out.trans (hb8.mono HR8.out.size))
          clear hb8 hba7 r0 r1 r2
          go_wp2_with fail
          exact ⟨⟨k + 1, hlt, by go_num, by simp, HR9.out⟩, by simp [intOf]; omega⟩
      · have hk0 : decide (0 < k) = true := by simp; omega
        go_wp2_with fail
        go_ret
        exact ⟨ret_bool hk0, BWA.out.trans (HBA.out.mono BWA.out.size)⟩
end Go.Proofs.Yteemenhinhkonaa
