/- Contracts of the reference's small functions: Has, TagOk, Form, each for every argument that reads. -/
import Derived.Test.YteemenhinhkonaaDoorProg
import Derived.Test.YteemenhinhkonaaDoorEx
namespace Go.Proofs.YteemenhinhkonaaDoor
open Go.RowKit

set_option maxHeartbeats 400000 in
theorem has_any (v : Value) (ss : List ByteArray) (s : ByteArray) (w : World) (h : SS w v ss) :
    Calls Tryd.prog 21 #[v, .string s] w fun e w' => e = .returned (.bool (hasB ss s)) ∧ w = w' := by
  obtain ⟨a, cap, rfl, hlen, hc⟩ := h
  have HC := Lib.hid hc
  clear hc
  go_enter Tryd.func21, Tryd.ntmps21
  go_wp2
  go_loop [9] (fun i => ∃ k : Nat, k ≤ ss.length ∧ i = .int .i64 k ∧ hasB (ss.take k) s = false) (fun i => ss.length - (intOf i).toNat)
  case atStart => exact ⟨0, Nat.zero_le _, rfl, rfl⟩
  case round =>
    obtain ⟨k, hk, rfl, hno⟩ := hrel
    have HN := Lib.hid hno
    clear hno
    by_cases hlt : k < ss.length
    · obtain ⟨x, hx⟩ : ∃ x, ss[k]? = some x := ⟨_, List.getElem?_eq_getElem hlt⟩
      obtain ⟨b, off, rfl, hcell⟩ := HC.out k x hx
      have HX := Lib.hid hx
      clear hx
      go_wp2
      · have hb : (x.toList == s.toList) = true := by assumption
        go_ret
        exact ⟨ret_bool (any_true_of HX.out hb).symm, rfl⟩
      · have hb : (x.toList == s.toList) = false := by assumption
        exact ⟨⟨k + 1, hlt, by go_num, any_take_snoc HX.out HN.out hb⟩, by simp [intOf]; omega⟩
    · go_wp2
      go_ret
      exact ⟨ret_bool (any_take_all HN.out (by omega)).symm, rfl⟩

set_option maxHeartbeats 400000 in
theorem tagOk_any (s : ByteArray) (w : World) (hs : s.size ≤ 1152921504606846976) :
    Calls Tryd.prog 38 #[.string s] w fun e w' => e = .returned (.bool (tagOkB s)) ∧ w = w' := by
  go_enter Tryd.func38, Tryd.ntmps38
  go_wp2
  go_loop [7] (fun i => ∃ k : Nat, k ≤ s.size ∧ i = .int .i64 k ∧ (s.data.toList.take k).all tagB = true) (fun i => s.size - (intOf i).toNat)
  case atStart => exact ⟨0, Nat.zero_le _, rfl, rfl⟩
  case round =>
    obtain ⟨k, hk, rfl, hno⟩ := hrel
    have HN := Lib.hid hno
    clear hno
    by_cases hlt : k < s.size
    · by_cases ht : tagB s[k] = true
      · have HT := Lib.hid ht
        clear ht
        go_wp2
        all_goals first
          | exact ⟨⟨k + 1, hlt, by go_num, by rw [all_take_byte s k hlt, HN.out, HT.out]; rfl⟩, by simp [intOf]; omega⟩
          | (exfalso
             simp at *
             have h := tagB_true HT.out
             omega)
      · have HT := Lib.hid (Bool.eq_false_iff.2 ht)
        clear ht
        go_wp2
        all_goals first
          | (go_ret
             exact ⟨by rw [tagOkB, all_of_byte s k hlt HT.out]; rfl, rfl⟩)
          | (exfalso
             simp at *
             have h := tagB_false HT.out
             omega)
    · go_wp2
      go_ret
      have hks : k = s.size := by omega
      refine ⟨?_, rfl⟩
      have := HN.out
      rw [hks, List.take_of_length_le (by simp)] at this
      simp [tagOkB, this]
def formMap : Array MapEntry := #[⟨.int .i64 1, .int .i64 0, 0⟩, ⟨.int .i64 2, .int .i64 1, 1⟩, ⟨.int .i64 3, .int .i64 2, 2⟩, ⟨.int .i64 4, .int .i64 2, 3⟩]
theorem find_form (k : Int) : ∃ x, Instr.findNow (.int .i64) (.int .i64 k) formMap.toList 0 = some x ∧ (x.map (·.2)).getD (.int .i64 0) = .int .i64 ((subsOf k).getD 0) ∧ x.isSome = (subsOf k).isSome := by
  unfold subsOf formMap
  by_cases h1 : k = 1
  · subst h1; exact ⟨some (0, .int .i64 0), by simp [Instr.findNow, Instr.sameNow], rfl, rfl⟩
  by_cases h2 : k = 2
  · subst h2; exact ⟨some (1, .int .i64 1), by simp [Instr.findNow, Instr.sameNow], rfl, rfl⟩
  by_cases h3 : k = 3
  · subst h3; exact ⟨some (2, .int .i64 2), by simp [Instr.findNow, Instr.sameNow], rfl, rfl⟩
  by_cases h4 : k = 4
  · subst h4; exact ⟨some (3, .int .i64 2), by simp [Instr.findNow, Instr.sameNow], rfl, rfl⟩
  refine ⟨none, ?_, by simp [h1, h2, h3, h4], by simp [h1, h2, h3, h4]⟩
  have e1 : (k == 1) = false := by simp [h1]
  have e2 : (k == 2) = false := by simp [h2]
  have e3 : (k == 3) = false := by simp [h3]
  have e4 : (k == 4) = false := by simp [h4]
  simp [Instr.findNow, Instr.sameNow, e1, e2, e3, e4]


def FormRel (d : Int) (e : E) (w : World) (i : Value) (wr : World) : Prop :=
  ∃ k : Nat, k ≤ e.subs.length ∧ i = .int .i64 k ∧ Below w.heap.size w wr ∧ (e.subs.take k).all (formB (d - 1).toNat) = true

set_option maxHeartbeats 1000000 in
theorem form_any (N : Nat) : ∀ (n : Nat) (e : E) (c0 c1 c2 : Value) (d : Int) (w : World), EIs (fun _ => True) w n e c0 c1 c2 → 0 ≤ d → d < N → d ≤ 1000 →
    Calls Tryd.prog 50 #[.agg #[c0, c1, c2], .int .i64 d] w fun en w' => en = .returned (.bool (formB d.toNat e)) ∧ Below w.heap.size w w' := by
  induction N with
  | zero => intro n e c0 c1 c2 d w h hd0 hdN; omega
  | succ N ih =>
  intro n e c0 c1 c2 d w h hd0 hdN hdm
  cases n with
  | zero => exact h.elim
  | succ n =>
  obtain ⟨rfl, hk0, hk1, rfl, ht0, a, cap, rfl, hlen, hsub⟩ := h
  have ht : e.tag.size ≤ 1152921504606846976 := Nat.le_trans ht0 (by omega)
  clear ht0
  have HS := Lib.hid hsub
  clear hsub
  have IH := Lib.hid ih
  clear ih
  have hmm := @run_makeMap Tryd.prog
  obtain ⟨wb, hwb⟩ : ∃ wb, wb = w.alloc (.cells #[.int .i64 e.kind, .string e.tag, .slice a e.subs.length cap] 24) := ⟨_, rfl⟩
  have m1 := run_mapUpdate_last (P := Tryd.prog) wb (t := 97) Tryd.underlying97 Tryd.underlying3 #[] 0 (.int .i64 1) (.int .i64 0) rfl (r := w.heap.size + 1) (by rw [hwb]; simp)
  have m2 := run_mapUpdate_last (P := Tryd.prog) wb (t := 97) Tryd.underlying97 Tryd.underlying3 #[⟨.int .i64 1, .int .i64 0, 0⟩] 1 (.int .i64 2) (.int .i64 1) rfl (r := w.heap.size + 1) (by rw [hwb]; simp)
  have m3 := run_mapUpdate_last (P := Tryd.prog) wb (t := 97) Tryd.underlying97 Tryd.underlying3 #[⟨.int .i64 1, .int .i64 0, 0⟩, ⟨.int .i64 2, .int .i64 1, 1⟩] 2 (.int .i64 3) (.int .i64 2) rfl (r := w.heap.size + 1) (by rw [hwb]; simp)
  have m4 := run_mapUpdate_last (P := Tryd.prog) wb (t := 97) Tryd.underlying97 Tryd.underlying3 #[⟨.int .i64 1, .int .i64 0, 0⟩, ⟨.int .i64 2, .int .i64 1, 1⟩, ⟨.int .i64 3, .int .i64 2, 2⟩] 3 (.int .i64 4) (.int .i64 2) rfl (r := w.heap.size + 1) (by rw [hwb]; simp)
  obtain ⟨x, hx1, hx2, hx3⟩ := find_form e.kind
  have lk := run_lookup_int (P := Tryd.prog) (w := wb.alloc (.map formMap 4)) (t := 97) Tryd.underlying97 Tryd.underlying3 (r := w.heap.size + 1) (heap_new wb _ (by rw [hwb]; simp)) (.int .i64 e.kind) (.int .i64 0) (by kernel_rfl) x hx1
  rw [hx2, hx3] at lk
  clear hx1 hx2 hx3 x
  unfold formMap at lk
  simp only [List.push_toArray, List.cons_append, List.nil_append, Nat.zero_add, Nat.reduceAdd] at m1 m2 m3 m4
  have bW : Below w.heap.size w (wb.alloc (.map formMap 4)) := by rw [hwb]; exact ((Below.refl _ _).alloc (Nat.le_refl _) _).alloc (by simp) _
  unfold formMap at bW
  rw [hwb] at m1 m2 m3 m4 lk bW
  have BW := Lib.hid bW
  clear hwb bW wb
  cases hs : subsOf e.kind with
  | none =>
    have F := Lib.hid (formB_none (d := d) hs)
    rw [hs] at lk
    simp only [Option.getD_none, Option.isSome_none] at lk
    clear hs
    go_enter Tryd.func50, Tryd.ntmps50
    go_wp2_with fail
    go_ret
    exact ⟨ret_bool F.out.symm, BW.out⟩
  | some m =>
  rw [hs] at lk
  simp only [Option.getD_some, Option.isSome_some] at lk
  have HM := Lib.hid hs
  clear hs
  by_cases hd1 : d < 1
  · have F := Lib.hid (formB_zero (e := e) hd1)
    go_enter Tryd.func50, Tryd.ntmps50
    go_wp2_with fail
    go_ret
    exact ⟨ret_bool F.out.symm, BW.out⟩
  have F := Lib.hid (formB_pos (d := d) (by omega) e)
  by_cases hl : (e.subs.length : Int) = m
  · have hl' : ((e.subs.length : Int) != m) = false := by simp [hl]
    have FL : Hid (formB d.toNat e = ((!(e.kind == 1) || tagOkB e.tag) && e.subs.all (formB (d - 1).toNat))) := Lib.hid (by rw [F.out, HM.out]; simp [hl])
    clear F
    have HL := Lib.hid hl
    clear hl
    by_cases hkt : e.kind = 1 ∧ tagOkB e.tag = false
    · have hkb : (e.kind == 1) = true := by simp [hkt.1]
      have HT := Lib.hid hkt.2
      have FL2 : Hid (formB d.toNat e = false) := Lib.hid (by rw [FL.out, hkb, hkt.2]; simp)
      clear FL hkt
      go_enter Tryd.func50, Tryd.ntmps50
      go_wp2_with (go_at_call 38; refine (tagOk_any _ _ ht).mono ?_; rw [HT.out]; rintro e1 w1 ⟨rfl, rfl⟩)
      go_ret
      exact ⟨ret_bool FL2.out.symm, BW.out⟩
    · have FL2 : Hid (formB d.toNat e = e.subs.all (formB (d - 1).toNat)) := Lib.hid (by
        rw [FL.out]
        by_cases hk1 : e.kind = 1
        · have : tagOkB e.tag = true := by cases h : tagOkB e.tag with | false => exact absurd ⟨hk1, h⟩ hkt | true => rfl
          simp [this]
        · simp [hk1])
      have hcase : (e.kind == 1) = false ∨ ((e.kind == 1) = true ∧ Hid (tagOkB e.tag = true)) := by
        by_cases hk1 : e.kind = 1
        · exact .inr ⟨by simp [hk1], Lib.hid (by cases h : tagOkB e.tag with | false => exact absurd ⟨hk1, h⟩ hkt | true => rfl)⟩
        · exact .inl (by simp [hk1])
      clear FL hkt
      rcases hcase with hkb | ⟨hkb, HT⟩
      all_goals
        go_enter Tryd.func50, Tryd.ntmps50
        go_wp2_with (go_at_call 38; refine (tagOk_any _ _ ht).mono ?_; rw [HT.out]; rintro e1 w1 ⟨rfl, rfl⟩)
        clear lk m1 m2 m3 m4 hmm
        go_loopw [46] (fun i wr => FormRel d e w i wr) (fun i _ => e.subs.length - (intOf i).toNat)
        case atStart => exact ⟨0, Nat.zero_le _, rfl, BW.out, rfl⟩
        case round =>
          obtain ⟨k, hk, rfl, hb, hall⟩ := hrel
          have HB := Lib.hid hb
          have HA := Lib.hid hall
          clear hb hall
          by_cases hlt : k < e.subs.length
          · obtain ⟨x, hx0⟩ : ∃ x, e.subs[k]? = some x := ⟨_, List.getElem?_eq_getElem hlt⟩
            obtain ⟨b, off, x0, x1, x2, rfl, -, g0, g1, g2, hx⟩ := HS.out k _ hx0
            have l0 := lt_of_cell g0
            rw [← HB.out.cell (p := ⟨_, _, none⟩) l0] at g0 g1 g2
            obtain ⟨a', cap', rfl, rfl, rfl⟩ := hx.form
            have HX0 := Lib.hid hx0
            have HX := Lib.hid hx
            clear hx0 hx
            cases hf : formB (d - 1).toNat x with
            | false =>
              have HF := Lib.hid hf
              clear hf
              go_wp2_with (go_at_call 50; refine (IH.out n x _ _ _ (d - 1) _ (by exact HX.out.frame fun b' _ hb' => (Below.heap_alloc wr _ b' (by have := HB.out.size; omega)).trans (HB.out.block b' hb')) (by omega) (by omega) (by omega)).mono ?_; rw [HF.out]; rintro e1 w1 ⟨rfl, hb1⟩; have HB1 := Lib.hid hb1; clear hb1)
              go_ret
              exact ⟨ret_bool (by rw [FL2.out]; exact (all_false_of HX0.out HF.out).symm), (HB.out.alloc HB.out.size _).trans (HB1.out.mono (by have := HB.out.size; simp; omega))⟩
            | true =>
              have HF := Lib.hid hf
              clear hf
              go_wp2_with (go_at_call 50; refine (IH.out n x _ _ _ (d - 1) _ (by exact HX.out.frame fun b' _ hb' => (Below.heap_alloc wr _ b' (by have := HB.out.size; omega)).trans (HB.out.block b' hb')) (by omega) (by omega) (by omega)).mono ?_; rw [HF.out]; rintro e1 w1 ⟨rfl, hb1⟩; have HB1 := Lib.hid hb1; clear hb1)
              exact ⟨⟨k + 1, hlt, by go_num, (HB.out.alloc HB.out.size _).trans (HB1.out.mono (by have := HB.out.size; simp; omega)), all_take_snoc HX0.out HA.out HF.out⟩, by simp [intOf]; omega⟩
          · go_wp2_with fail
            go_ret
            exact ⟨ret_bool (by rw [FL2.out]; exact (all_take_all HA.out (by omega)).symm), HB.out⟩
  · have hl' : ((e.subs.length : Int) != m) = true := by simp [hl]
    clear hl
    go_enter Tryd.func50, Tryd.ntmps50
    go_wp2_with fail
    go_ret
    exact ⟨ret_bool (by rw [F.out, HM.out]; simp at hl'; simp [hl']), BW.out⟩
end Go.Proofs.YteemenhinhkonaaDoor
