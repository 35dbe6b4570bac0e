/- The reference's Read, for every text. -/
import Derived.Test.YteemenhinhkonaaDoorProg
import Derived.Test.YteemenhinhkonaaDoorReadF
import Derived.Deep.RegionHeld3
namespace Go.Proofs.YteemenhinhkonaaDoor
open Go.RowKit

theorem okB_true {c : UInt8} (h : okB c = true) : c.toNat < 128 ∧ (32 ≤ c.toNat ∨ c.toNat = 9) := by
  unfold okB at h
  simpa using h
theorem okB_false {c : UInt8} (h : okB c = false) : 128 ≤ c.toNat ∨ (c.toNat < 32 ∧ c.toNat ≠ 9) := by
  unfold okB at h
  simp at h
  omega

/- the state within a call of Read -/
def RS (w : World) (s : ByteArray) (wq : World) (k : Nat) (st : Int) : Prop :=
  wq.heap[w.heap.size]? = some (.cells #[.int .i64 0, .string { data := #[] }, .slice none 0 0] 24 (0, 0)) ∧ RIs wq (w.heap.size + 1) s k 0 st ∧ w.grownBy wq none
theorem RS.next {w : World} {s : ByteArray} {wq w' : World} {k k' : Nat} {st st' : Int} (h : RS w s wq k st) (hg : wq.grownBy w' (some (w.heap.size + 1))) (hr : RIs w' (w.heap.size + 1) s k' 0 st') : RS w s w' k' st' := by
  obtain ⟨h0, h1, h2⟩ := h
  exact ⟨(hg.block _ (lt_of_heap h0) (fun e => by injection e with e; omega)).trans h0, hr, hg.os.trans h2.os, hg.tape.trans h2.tape, hg.output.trans h2.output, by have := h2.size; have := hg.size; omega, fun b hb hne => (hg.block b (by have := h2.size; omega) (fun e => by injection e with e; omega)).trans (h2.block b hb hne)⟩
theorem RS_start (w : World) (s : ByteArray) : RS w s ((w.alloc (.cells #[.int .i64 0, .string { data := #[] }, .slice none 0 0] 24)).alloc (.cells #[.string s, .int .i64 0, .int .i64 0, .int .i64 1] 59)) 0 1 := by
  refine ⟨?_, heap_new _ _ (by simp), (World.grownBy_alloc _ _ _).trans (World.grownBy_alloc _ _ _)⟩
  rw [Below.heap_alloc _ _ _ (by simp)]
  exact heap_new _ _ rfl
theorem rd_post {w : World} {s : ByteArray} {wq W : World} {k bx : Nat} {st : Int} {x : Ex} {c0 c1 c2 : Value} (ht : textOk s = true) (h : RS w s wq k st) (hx : XIs (fun b => w.heap.size + 2 ≤ b ∧ b ≠ bx) wq x c0 c1 c2) (hlv : x.leaves ≤ s.size + 1) (hsp : RdSpec s st x)
    (hW : W = (((wq.setCell ⟨w.heap.size, 0, none⟩ c0).setCell ⟨w.heap.size, 1, none⟩ c1).setCell ⟨w.heap.size, 2, none⟩ c2)) :
    W.heap[w.heap.size]? = some (.cells #[c0, c1, c2] 24 (0, 0)) ∧ RdPost s w (.returned (.tuple #[.agg #[c0, c1, c2], .int .i64 st])) W.drew := by
  obtain ⟨h0, h1, h2⟩ := h
  have keep : ∀ b, b ≠ w.heap.size → W.heap[b]? = wq.heap[b]? := fun b hb => by
    rw [hW, Below.heap_setCell _ _ _ b hb, Below.heap_setCell _ _ _ b hb, Below.heap_setCell _ _ _ b hb]
  have hg : w.grownBy W none := by
    rw [hW]
    exact grown_new (grown_new (grown_new h2 (Nat.le_refl _)) (Nat.le_refl _)) (Nat.le_refl _)
  have hX : XIs (fun b => w.heap.size ≤ b) W.drew x c0 c1 c2 := XIs.move (S' := fun b => w.heap.size ≤ b) (w' := W.drew) (fun b hb hlt => ⟨by omega, show W.heap[b]? = wq.heap[b]? from keep b (by omega)⟩) hx
  refine ⟨?_, grown_drewN hg 1, .inr ⟨ht, x, c0, c1, c2, st, rfl, hX, hlv, hsp⟩⟩
  rw [hW, heap_set _ (heap_set _ (heap_set _ h0 _) _) _]
  rfl

set_option maxHeartbeats 2000000 in
set_option maxRecDepth 100000 in
theorem read_any (s : ByteArray) (w : World) (hs : s.size ≤ 1152921504606846976) : Calls Tryd.prog 14 #[.string s] w (RdPost s w) := by
  go_enter Tryd.func14, Tryd.ntmps14
  go_wp2_with fail
  go_loop [9] (fun i => ∃ k : Nat, k ≤ s.size ∧ i = .int .i64 k ∧ (s.data.toList.take k).all okB = true) (fun i => s.size - (intOf i).toNat)
  case atStart => exact ⟨0, Nat.zero_le _, rfl, rfl⟩
  case round =>
    obtain ⟨k, hk, rfl, hno⟩ := hrel
    have HN := Lib.hid hno
    clear hno
    by_cases hlt : k < s.size
    · by_cases ht : okB s[k] = true
      · have HT := Lib.hid ht
        clear ht
        go_wp2_with fail
        all_goals first
          | exact ⟨⟨k + 1, hlt, by go_num, by rw [all_ok_take s k hlt, HN.out, HT.out]; rfl⟩, by simp [intOf]; omega⟩
          | (exfalso
             simp at *
             have h := okB_true HT.out
             omega)
      · have HT := Lib.hid (Bool.eq_false_iff.2 ht)
        clear ht
        go_wp2_with fail
        all_goals first
          | (exfalso
             simp at *
             have h := okB_false HT.out
             omega)
          | (have hc := heap_new w (.cells #[.int .i64 0, .string { data := #[] }, .slice none 0 0] 24) rfl
             have r0 := cell_at (o := 0) hc (.int .i64 0) rfl
             have r1 := cell_at (o := 1) hc (.string { data := #[] }) rfl
             have r2 := cell_at (o := 2) hc (.slice none 0 0) rfl
             exact bodyPost_ret (v := .tuple #[.agg #[.int .i64 0, .string { data := #[] }, .slice none 0 0], .int .i64 0]) (by simp [results, Tryd.results14, go_sem, r0, r1, r2]) rfl ⟨World.grownBy_alloc _ _ _, .inl ⟨bad_ok s k hlt HT.out, rfl⟩⟩)
    · have HTX : Hid (textOk s = true) := Lib.hid (by
        have h1 := HN.out
        rwa [List.take_of_length_le (by simp; omega)] at h1)
      have hasc : ∀ k (h : k < s.size), s[k].toNat < 128 := fun k h => (okB_true (textOk_byte HTX.out k h)).1
      have HOR := Lib.hid ((reader_all s hs hasc s.size).2)
      have HR0 := Lib.hid (RS_start w s)
      clear hasc HN
      go_wp2_with fail
      obtain ⟨wa, hwa⟩ : ∃ wa, wa = ((w.alloc (.cells #[.int .i64 0, .string { data := #[] }, .slice none 0 0] 24)).alloc (.cells #[.string s, .int .i64 0, .int .i64 0, .int .i64 1] 59)) := ⟨_, rfl⟩
      rw [← hwa] at HR0
      rw [← hwa]
      have hsa : wa.heap.size = w.heap.size + 2 := by rw [hwa]; simp
      clear hwa
      refine (HOR.out (w.heap.size + 1) 0 0 1 wa HR0.out.2.1 (Nat.zero_le _) (by omega) (by decide) (by decide)).mono ?_
      rintro e1 w1 ⟨x, c0, c1, c2, j, st, rfl, hx, hij, hj, hlv, hr1, hg1, hsp⟩
      obtain ⟨sx, ax, cx, rfl, rfl, rfl, -⟩ := hx.form
      have hs1 : wa.heap.size ≤ w1.heap.size := hg1.size
      have HR1 := Lib.hid ((HR0.out.next hg1 hr1).next (World.grownBy_alloc w1 (.cells #[.int .i64 x.kind, .string sx, .slice ax x.arity cx] 24) _) ((Below.heap_alloc _ _ _ (by omega)).trans hr1))
      have HX := Lib.hid (XIs.move (S' := fun b => w.heap.size + 2 ≤ b ∧ b ≠ w1.heap.size) (w' := w1.alloc (.cells #[.int .i64 x.kind, .string sx, .slice ax x.arity cx] 24)) (fun b hb hlt => ⟨⟨by omega, by omega⟩, Below.heap_alloc _ _ _ hlt⟩) hx)
      have HBX := Lib.hid (heap_new w1 (.cells #[.int .i64 x.kind, .string sx, .slice ax x.arity cx] 24) rfl)
      have HSP := Lib.hid hsp
      have HLV := Lib.hid hlv
      clear hx hr1 hg1 hsp hlv HR0 HOR
      go_wp2_with fail
      obtain ⟨wz, hwz⟩ : ∃ wz, wz = w1.alloc (.cells #[.int .i64 x.kind, .string sx, .slice ax x.arity cx] 24) := ⟨_, rfl⟩
      rw [← hwz] at HR1 HX HBX
      rw [← hwz]
      have hsz : w1.heap.size < wz.heap.size := by rw [hwz]; simp
      clear hwz
      refine (skip_any (w.heap.size + 1) s j 0 st _ HR1.out.2.1 hj hs).mono ?_
      rintro e2 w2 ⟨m, rfl, hjm, hm, hr2, hsk, hg2⟩
      have HR2 := Lib.hid (HR1.out.next hg2 hr2)
      have hxb := (hg2.block w1.heap.size hsz (fun e => by injection e with e; omega)).trans HBX.out
      have HX2 := Lib.hid (XIs.move (S' := fun b => w.heap.size + 2 ≤ b ∧ b ≠ w1.heap.size) (w' := w2) (fun b hb hlt => ⟨hb, hg2.block b hlt (fun e => by injection e with e; omega)⟩) HX.out)
      have HRD := Lib.hid (rd_spec HSP.out hsk hm)
      have hs2 : wz.heap.size ≤ w2.heap.size := hg2.size
      have q1 := HR2.out.2.1.c1
      clear hsk hr2 hg2 HBX HX HR1 HSP
      by_cases hml : m < s.size
      · have hb : decide ((m : Int) < (s.size : Int)) = true := by simp; omega
        have HXB := Lib.hid hxb
        clear hxb
        go_wp2_with fail
        refine (stop_any (w.heap.size + 1) s m 0 st 2 _ HR2.out.2.1).mono ?_
        rintro e3 w3 ⟨rfl, hr3, hg3⟩
        have hxb := (hg3.block w1.heap.size (by omega) (fun e => by injection e with e; omega)).trans HXB.out
        have HR3 := Lib.hid (HR2.out.next hg3 hr3)
        have HX3 := Lib.hid (XIs.move (S' := fun b => w.heap.size + 2 ≤ b ∧ b ≠ w1.heap.size) (w' := w3) (fun b hb hlt => ⟨hb, hg3.block b hlt (fun e => by injection e with e; omega)⟩) HX2.out)
        obtain ⟨st3, hst3⟩ : ∃ st3, st3 = (if st = 1 then 2 else st) := ⟨_, rfl⟩
        rw [if_pos hml, ← hst3] at HRD
        rw [← hst3] at HR3
        have p0 := cell_at (o := 0) hxb (.int .i64 x.kind) rfl
        have p1 := cell_at (o := 1) hxb (.string sx) rfl
        have p2 := cell_at (o := 2) hxb (.slice ax x.arity cx) rfl
        have b0 := cell_at (o := 0) HR3.out.1 (.int .i64 0) rfl
        have b1 := cell_at (o := 1) HR3.out.1 (.string { data := #[] }) rfl
        have b2 := cell_at (o := 2) HR3.out.1 (.slice none 0 0) rfl
        have bf := free_at HR3.out.1
        have q3 := HR3.out.2.1.c3
        clear hxb hr3 hg3 HXB HX2 HR2 q1 hb hst3
        go_wp2_with fail
        go_region
        go_wp2_with fail
        obtain ⟨W, hW⟩ : ∃ W, W = (((w3.setCell ⟨w.heap.size, 0, none⟩ (.int .i64 x.kind)).setCell ⟨w.heap.size, 1, none⟩ (.string sx)).setCell ⟨w.heap.size, 2, none⟩ (.slice ax x.arity cx)) := ⟨_, rfl⟩
        rw [← hW]
        obtain ⟨hc, hpost⟩ := rd_post HTX.out HR3.out HX3.out (by have := HLV.out; omega) HRD.out hW
        have r0 := cell_at (o := 0) hc _ rfl
        have r1 := cell_at (o := 1) hc _ rfl
        have r2 := cell_at (o := 2) hc _ rfl
        exact bodyPost_ret (v := .tuple #[.agg #[.int .i64 x.kind, .string sx, .slice ax x.arity cx], .int .i64 st3]) (by simp [results, Tryd.results14, go_sem, r0, r1, r2]) rfl hpost
      · have hb : decide ((m : Int) < (s.size : Int)) = false := by simp; omega
        rw [if_neg hml] at HRD
        have p0 := cell_at (o := 0) hxb (.int .i64 x.kind) rfl
        have p1 := cell_at (o := 1) hxb (.string sx) rfl
        have p2 := cell_at (o := 2) hxb (.slice ax x.arity cx) rfl
        have b0 := cell_at (o := 0) HR2.out.1 (.int .i64 0) rfl
        have b1 := cell_at (o := 1) HR2.out.1 (.string { data := #[] }) rfl
        have b2 := cell_at (o := 2) HR2.out.1 (.slice none 0 0) rfl
        have bf := free_at HR2.out.1
        have q3 := HR2.out.2.1.c3
        clear hxb
        go_wp2_with fail
        go_region
        go_wp2_with fail
        obtain ⟨W, hW⟩ : ∃ W, W = (((w2.setCell ⟨w.heap.size, 0, none⟩ (.int .i64 x.kind)).setCell ⟨w.heap.size, 1, none⟩ (.string sx)).setCell ⟨w.heap.size, 2, none⟩ (.slice ax x.arity cx)) := ⟨_, rfl⟩
        rw [← hW]
        obtain ⟨hc, hpost⟩ := rd_post HTX.out HR2.out HX2.out (by have := HLV.out; omega) HRD.out hW
        have r0 := cell_at (o := 0) hc _ rfl
        have r1 := cell_at (o := 1) hc _ rfl
        have r2 := cell_at (o := 2) hc _ rfl
        exact bodyPost_ret (v := .tuple #[.agg #[.int .i64 x.kind, .string sx, .slice ax x.arity cx], .int .i64 st]) (by simp [results, Tryd.results14, go_sem, r0, r1, r2]) rfl hpost
end Go.Proofs.YteemenhinhkonaaDoor
