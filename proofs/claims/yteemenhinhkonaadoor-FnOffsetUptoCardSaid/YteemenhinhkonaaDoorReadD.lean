/- The reference's reader: not, behind the bound of the depth. -/
import Derived.Test.YteemenhinhkonaaDoorProg
import Derived.Test.YteemenhinhkonaaDoorReadC
import Derived.IntWalk
import Derived.Deep.RegionHeld3
namespace Go.Proofs.YteemenhinhkonaaDoor
open Go.RowKit

set_option maxHeartbeats 4000000 in
set_option maxRecDepth 100000 in
theorem not_deep (s : ByteArray) (hs : s.size ≤ 1152921504606846976) (hasc : ∀ k (h : k < s.size), s[k].toNat < 128) (br i : Nat) (d st : Int) (w : World) (h : RIs w br s i d st) (hi : i ≤ s.size) (hd0 : 0 ≤ d) (hd1 : d ≤ 1000) (hdp : 100 < d + 1) :
    Calls Tryd.prog 69 #[.pointer (some ⟨br, 0, none⟩)] w (NPost br s i d st w) := by
  have H := Lib.hid h
  have HA := Lib.hid hasc
  have hbr : br < w.heap.size := lt_of_heap h
  have hmf : ∀ (fn : Fn) (first cap : Array Value) (w : World), (Instr.makeFunc fn first cap).run Tryd.prog w = .ok (.func fn first cap) w := fun _ _ _ _ => rfl
  have q2 := h.c2
  have k2 : ∀ o o', ((w.alloc o).alloc o').cell? ⟨br, 2, none⟩ = some (.int .i64 d) := fun o o' => cellsA (cellsA q2 o) o'
  have f2 : ∀ o o', ((w.alloc o).alloc o').frozen? ⟨br, 2, none⟩ = false := fun o o' => ((frozen_old_alloc _ _ (by simp; omega)).trans (frozen_old_alloc _ _ hbr)).trans (h.f 2)
  have hns := NS_start (d := d) h
  have HNS0 := Lib.hid hns
  clear h hasc hns
  go_enter_defers Tryd.func69, Tryd.ntmps69
  go_wp2_with fail
  obtain ⟨wa, hwa⟩ : ∃ wa, wa = (((w.setCell ⟨br, 2, none⟩ (.int .i64 (d + 1))).alloc (.cells #[.pointer (some ⟨br, 0, none⟩)] 57)).alloc (.cells #[.int .i64 0, .string { data := #[] }, .slice none 0 0] 24)) := ⟨_, rfl⟩
  rw [← hwa] at HNS0
  rw [← hwa]
  have HNS := Lib.hid HNS0.out
  clear hwa HNS0 k2 f2 q2 H
  refine (stop_any br s i (d + 1) st 0 _ HNS.out.2.2.1).mono ?_
  rintro e1 w1 ⟨rfl, hr1, hg1⟩
  obtain ⟨st1, hst1⟩ : ∃ st1, st1 = (if st = 1 then 0 else st) := ⟨_, rfl⟩
  rw [← hst1] at hr1
  have HS1 : Hid (St1 d st st1) := Lib.hid ⟨fun h => by rw [hst1, if_neg h], fun h => .inr ⟨hdp, by rw [hst1, if_pos h]⟩⟩
  have hne1 : st1 ≠ 1 := by rw [hst1]; split <;> omega
  have HN1 := Lib.hid (HNS.out.next hg1 hr1)
  have hbox1 := HN1.out.box
  clear hst1 hr1 hg1 HNS hdp
  go_wp2_with fail
  refine (take_any br s { data := #[33] } i (d + 1) st1 _ HN1.out.2.2.1 hi hs (by decide)).mono ?_
  rintro e2 w2 ⟨m, him, hskm, hg2, hcase⟩
  rcases hcase with ⟨rfl, hst, hml, hpre, hr2⟩ | ⟨rfl, hml, hno, hr2⟩
  · exact absurd hst hne1
  have HN2 := Lib.hid (HN1.out.next hg2 hr2)
  have hbox2 := HN2.out.box
  have HNO := Lib.hid hno
  have HSK := Lib.hid hskm
  clear hno hskm hr2 hg2 HN1 hbox1
  go_wp2_with fail
  refine (take_any br s { data := #[40] } m (d + 1) st1 _ HN2.out.2.2.1 hml hs (by decide)).mono ?_
  rintro e3 w3 ⟨m3, hm3, hsk3, hg3, hcase3⟩
  have HEQ3 : Hid (dropB s m3 = dropB s m) := Lib.hid (by rw [← hsk3, ← HSK.out, skipL_skipL])
  have HSK3 : Hid (skipL (dropB s i) = dropB s m3) := Lib.hid (by rw [← hsk3, ← HSK.out, skipL_skipL])
  clear hsk3
  rcases hcase3 with ⟨rfl, hst, hml3, hpre3, hr3⟩ | ⟨rfl, hml3, hno3, hr3⟩
  · exact absurd hst hne1
  have HN3 := Lib.hid (HN2.out.next hg3 hr3)
  have hbox3 := HN3.out.box
  have HNO3 := Lib.hid hno3
  have HNO1 : Hid (st1 ≠ 1 ∨ (dropB s m3).take (ByteArray.mk #[33]).size ≠ (ByteArray.mk #[33]).data.toList) := Lib.hid (by rw [HEQ3.out]; exact HNO.out)
  clear hno3 hr3 hg3 HN2 hbox2 hne1 HNO HEQ3 HSK
  -- TAGWAY
  go_wp2_with fail
  refine (skip_any br s m3 (d + 1) st1 _ HN3.out.2.2.1 hml3 hs).mono ?_
  rintro e4 w4 ⟨m4, rfl, hm4, hm4s, hr4, hsk4, hg4⟩
  have HSK4 : Hid (skipL (dropB s i) = dropB s m4) := Lib.hid (by rw [← hsk4, ← HSK3.out, skipL_skipL])
  have HEQ4 : Hid (dropB s m3 = dropB s m4) := Lib.hid (by rw [← HSK3.out, HSK4.out])
  have HNA : Hid (st1 ≠ 1 ∨ (dropB s m4).take (ByteArray.mk #[33]).size ≠ (ByteArray.mk #[33]).data.toList) := Lib.hid (by rw [← HEQ4.out]; exact HNO1.out)
  have HNB : Hid (st1 ≠ 1 ∨ (dropB s m4).take (ByteArray.mk #[40]).size ≠ (ByteArray.mk #[40]).data.toList) := Lib.hid (by rw [← HEQ4.out]; exact HNO3.out)
  have HN4 := Lib.hid (HN3.out.next hg4 hr4)
  have hbox4 := HN4.out.box
  have q1 := HN4.out.2.2.1.c1
  clear hsk4 hr4 hg4 hbox3 HN3 HNO1 HNO3 HEQ4 HSK3
  go_wp2_with fail
  go_loopg [] (s.size - m4) (fun g wr => TagRel w br s m4 (d + 1) st1 g wr)
  case atStart => exact ⟨m4, ⟨Nat.le_refl _, hm4s, fun k h1 h2 _ => by omega⟩, rfl, HN4.out⟩
  case round =>
    clear hbox4 q1 HN4
    obtain ⟨k, hT, rfl, hns⟩ := hrel
    have hbox := hns.box
    have q0 := hns.2.2.1.c0
    have q1 := hns.2.2.1.c1
    have f1 := hns.2.2.1.f 1
    have hmk : m4 ≤ k := hT.1
    have hks : k ≤ s.size := hT.2.1
    have HT := Lib.hid hT
    have HNS := Lib.hid hns
    clear hT hns
    have hk0 : (0 : Int) ≤ (k : Int) := by omega
    by_cases hlt : k < s.size
    · have hlt2 : ((k : Int) < (s.size : Int)) := by omega
      have hlt3 : decide (k < s.size) = true := by simp; omega
      have hlt4 : ((k : Int) + 1 ≤ (s.size : Int)) := by omega
      have hlt5 : k + 1 ≤ s.size := hlt
      have hone : (s.extract k (k + 1)).size ≤ 1152921504606846976 := by rw [ByteArray.size_extract]; omega
      have hsl : ∀ wx, (Instr.slice 9 (.string s) (some (.int .i64 (k : Int))) (some (.int .i64 ((k : Int) + 1))) none).run Tryd.prog wx = .ok (.string (s.extract k (k + 1))) wx := fun wx => by
        have := run_slice_string (P := Tryd.prog) wx 9 s .i64 .i64 (k : Int) ((k : Int) + 1) Tryd.underlying9 (by omega) (by omega) (by omega)
        rwa [show ((k : Int) + 1).toNat = k + 1 from by omega, show ((k : Int)).toNat = k from by omega] at this
      by_cases ht : tagB s[k] = true
      · have HOK : Hid (tagOkB (s.extract k (k + 1)) = true) := Lib.hid ((tag_one hlt).trans ht)
        have hcall : ∀ wx : World, Calls Tryd.prog 38 #[.string (s.extract k (k + 1))] wx fun e w' => e = .returned (.bool true) ∧ w' = wx := fun wx =>
          (tagOk_any (s.extract k (k + 1)) wx hone).mono fun _ _ h => ⟨by rw [h.1, HOK.out], h.2.symm⟩
        have HTG := Lib.hid ht
        clear ht
        have hn0 : (0 : Int) ≤ (k : Int) + 1 := by omega
        have hn1 : ((k : Int) + 1).toNat = k + 1 := by omega
        have hwr : IntKind.i64.wrap ((k : Int) + 1) = (k : Int) + 1 := IntWalk.i64_in _ (by omega)
        go_wp2_with fail
        go_quiet ((go_at_call 38; refine Calls.quiet_of_same (hcall _)))
        clear hwr hn0 hn1
        go_wp2_with fail
        go_roundg (s.size - (k + 1))
        case measure => omega
        case rel => exact TagRel_step HT.out HNS.out hlt HTG.out nq
      · have HOK : Hid (tagOkB (s.extract k (k + 1)) = false) := Lib.hid ((tag_one hlt).trans (Bool.eq_false_iff.2 ht))
        have hcall : ∀ wx : World, Calls Tryd.prog 38 #[.string (s.extract k (k + 1))] wx fun e w' => e = .returned (.bool false) ∧ w' = wx := fun wx =>
          (tagOk_any (s.extract k (k + 1)) wx hone).mono fun _ _ h => ⟨by rw [h.1, HOK.out], h.2.symm⟩
        have HE : Hid (∀ h : k < s.size, tagB s[k] = false) := Lib.hid (fun _ => Bool.eq_false_iff.2 ht)
        have hsm : decide ((128 : Int) ≤ (s[k].toNat : Int)) = false := decide_eq_false (by have := HA.out k hlt; omega)
        have hsm2 : ¬ ((128 : Int) ≤ (s[k].toNat : Int)) := by have := HA.out k hlt; omega
        have hsm3 : decide (128 ≤ s[k].toNat) = false := decide_eq_false (by have := HA.out k hlt; omega)
        clear ht
        have hn0 : (0 : Int) ≤ (k : Int) + 1 := by omega
        have hn1 : ((k : Int) + 1).toNat = k + 1 := by omega
        have hwr : IntKind.i64.wrap ((k : Int) + 1) = (k : Int) + 1 := IntWalk.i64_in _ (by omega)
        go_wp2_with fail
        go_quiet ((go_at_call 38; refine Calls.quiet_of_same (hcall _)))
        clear hwr hn0 hn1
        revert nq
        intro nqa
        go_wp2_with fail
        go_quiet (fail)
        by_cases hkm : k = m4
        · have hbm : ((k : Int) == (m4 : Int)) = true := by simp [hkm]
          have HKM := Lib.hid hkm
          clear hkm
          go_wp2_with fail
          refine (stop_any br s (k : Int) (d + 1) st1 2 _ (HNS.out.drewN _).2.2.1).mono ?_
          rintro e6 w6 ⟨rfl, hr6, hg6⟩
          have HN6 := Lib.hid ((HNS.out.drewN _).next hg6 hr6)
          have b0 := cell_at (o := 0) HN6.out.2.1 (.int .i64 0) rfl
          have b1 := cell_at (o := 1) HN6.out.2.1 (.string { data := #[] }) rfl
          have b2 := cell_at (o := 2) HN6.out.2.1 (.slice none 0 0) rfl
          have bf := free_at HN6.out.2.1
          clear hr6 hg6 hbox q0 q1 f1 HNS hbm
          go_wp2_with fail
          obtain ⟨W, hW⟩ : ∃ W, W = ((((w6.setCell ⟨w.heap.size + 1, 0, none⟩ (.int .i64 1)).setCell ⟨w.heap.size + 1, 1, none⟩ (.string { data := #[120] })).setCell ⟨w.heap.size + 1, 2, none⟩ (.slice none 0 0))) := ⟨_, rfl⟩
          rw [← hW]
          obtain ⟨hD, hX⟩ := par_made (x := .tag { data := #[120] }) (bx := 0) HN6.out ⟨rfl, rfl, by decide, none, 0, rfl⟩ hW
          refine leaves_cons (f := 88) (args := #[.pointer (some ⟨w.heap.size, 0, none⟩)]) (by simp) (by simp [go_sem]) ?_
          refine (down_any w.heap.size br s k (d + 1) _ .returning _ hD.1 hD.2.2.1 (by omega)).mono ?_
          rintro e6 u6 w6 ⟨rfl, rfl, rfl⟩
          have z0 := cell_at (o := 0) hD.2.1 _ rfl; have z1 := cell_at (o := 1) hD.2.1 _ rfl; have z2 := cell_at (o := 2) hD.2.1 _ rfl
          have hkm := HKM.out
          subst hkm
          exact ⟨_, by simp [results, Tryd.results69, go_sem, z0, z1, z2], not_close hD hX (by omega) (by omega) (by simp [Ex.leaves]) (spec_none _ HS1.out HSK4.out HNA.out HNB.out HE.out)⟩
        · have hbm : ((k : Int) == (m4 : Int)) = false := by simp; omega
          go_wp2_with fail
          have HNZ := Lib.hid (HNS.out.drewN (nqa + nq))
          obtain ⟨wz, hwz⟩ : ∃ wz, wz = wr.drewN (nqa + nq) := ⟨_, rfl⟩
          rw [← hwz] at HNZ
          rw [← hwz]
          have b0 := cell_at (o := 0) HNZ.out.2.1 (.int .i64 0) rfl
          have b1 := cell_at (o := 1) HNZ.out.2.1 (.string { data := #[] }) rfl
          have b2 := cell_at (o := 2) HNZ.out.2.1 (.slice none 0 0) rfl
          have bf := free_at HNZ.out.2.1
          clear hbox q0 q1 f1 HNS hbm hwz
          have hbox := HNZ.out.box
          have q0 := HNZ.out.2.2.1.c0
          have q1 := HNZ.out.2.2.1.c1
          have hm40 : (0 : Int) ≤ (m4 : Int) := by omega
          have hm4k : (m4 : Int) ≤ (k : Int) := by omega
          have hkk : (k : Int) ≤ (s.size : Int) := by omega
          have hslm : ∀ wx, (Instr.slice 9 (.string s) (some (.int .i64 (m4 : Int))) (some (.int .i64 (k : Int))) none).run Tryd.prog wx = .ok (.string (s.extract m4 k)) wx := fun wx =>
            run_slice_string (P := Tryd.prog) wx 9 s .i64 .i64 (m4 : Int) (k : Int) Tryd.underlying9 (by omega) (by omega) (by omega)
          have hne1 : ¬ br = w.heap.size + 1 := by omega
          have hne2 : ¬ w.heap.size + 1 = br := by omega
          have hne3 : ¬ w.heap.size = w.heap.size + 1 := by omega
          have hne4 : ¬ w.heap.size + 1 = w.heap.size := by omega
          go_region_held3 (fun w' => w'.cell? ⟨w.heap.size, 0, none⟩ = some (.pointer (some ⟨br, 0, none⟩)) ∧ w'.cell? ⟨br, 0, none⟩ = some (.string s) ∧ w'.cell? ⟨br, 1, none⟩ = some (.int .i64 (k : Int))) (go_keep) ((fail))
          all_goals
            go_wp2_with fail
            obtain ⟨W0, hW0⟩ : ∃ W, W = (((((wz.setCell ⟨w.heap.size + 1, 0, none⟩ (.int .i64 0)).setCell ⟨w.heap.size + 1, 1, none⟩ (.string { data := #[] })).setCell ⟨w.heap.size + 1, 2, none⟩ (.slice none 0 0)).setCell ⟨w.heap.size + 1, 0, none⟩ (.int .i64 1)).setCell ⟨w.heap.size + 1, 1, none⟩ (.string (s.extract m4 k))) := ⟨_, rfl⟩
            rw [← hW0]
            obtain ⟨hD0, -⟩ := tag_made (s.extract m4 k) (by rw [ByteArray.size_extract]; omega) HNZ.out hW0
            have hD := hD0.drew
            have hX : XIs (fun b => w.heap.size + 2 ≤ b) W0.drew (.tag (s.extract m4 k)) (.int .i64 1) (.string (s.extract m4 k)) (.slice none 0 0) := ⟨rfl, rfl, by rw [ByteArray.size_extract]; omega, none, 0, rfl⟩
            refine leaves_cons (f := 88) (args := #[.pointer (some ⟨w.heap.size, 0, none⟩)]) (by simp) (by simp [go_sem]) ?_
            refine (down_any w.heap.size br s k (d + 1) _ .returning _ hD.1 hD.2.2.1 (by omega)).mono ?_
            rintro e6 u6 w6 ⟨rfl, rfl, rfl⟩
            have z0 := cell_at (o := 0) hD0.2.1 _ rfl; have z1 := cell_at (o := 1) hD0.2.1 _ rfl; have z2 := cell_at (o := 2) hD0.2.1 _ rfl
            exact ⟨_, by simp [results, Tryd.results69, go_sem, z0, z1, z2], not_close hD hX (by omega) (by omega) (by simp [Ex.leaves]) (spec_tag HS1.out HSK4.out HT.out HE.out (by omega))⟩
    · have HE : Hid (∀ h : k < s.size, tagB s[k] = false) := Lib.hid (fun h => absurd h hlt)
      have hlt2 : ¬ ((k : Int) < (s.size : Int)) := by omega
      have hlt3 : decide (k < s.size) = false := by simp; omega
      have hlt4 : decide ((k : Int) < (s.size : Int)) = false := by simp; omega
      go_wp2_with fail
      go_quiet (fail)
      revert nq
      intro nqa
      go_wp2_with fail
      go_quiet (fail)
      by_cases hkm : k = m4
      · have hbm : ((k : Int) == (m4 : Int)) = true := by simp [hkm]
        have HKM := Lib.hid hkm
        clear hkm
        go_wp2_with fail
        refine (stop_any br s (k : Int) (d + 1) st1 2 _ (HNS.out.drewN _).2.2.1).mono ?_
        rintro e6 w6 ⟨rfl, hr6, hg6⟩
        have HN6 := Lib.hid ((HNS.out.drewN _).next hg6 hr6)
        have b0 := cell_at (o := 0) HN6.out.2.1 (.int .i64 0) rfl
        have b1 := cell_at (o := 1) HN6.out.2.1 (.string { data := #[] }) rfl
        have b2 := cell_at (o := 2) HN6.out.2.1 (.slice none 0 0) rfl
        have bf := free_at HN6.out.2.1
        clear hr6 hg6 hbox q0 q1 f1 HNS hbm
        go_wp2_with fail
        obtain ⟨W, hW⟩ : ∃ W, W = ((((w6.setCell ⟨w.heap.size + 1, 0, none⟩ (.int .i64 1)).setCell ⟨w.heap.size + 1, 1, none⟩ (.string { data := #[120] })).setCell ⟨w.heap.size + 1, 2, none⟩ (.slice none 0 0))) := ⟨_, rfl⟩
        rw [← hW]
        obtain ⟨hD, hX⟩ := par_made (x := .tag { data := #[120] }) (bx := 0) HN6.out ⟨rfl, rfl, by decide, none, 0, rfl⟩ hW
        refine leaves_cons (f := 88) (args := #[.pointer (some ⟨w.heap.size, 0, none⟩)]) (by simp) (by simp [go_sem]) ?_
        refine (down_any w.heap.size br s k (d + 1) _ .returning _ hD.1 hD.2.2.1 (by omega)).mono ?_
        rintro e6 u6 w6 ⟨rfl, rfl, rfl⟩
        have z0 := cell_at (o := 0) hD.2.1 _ rfl; have z1 := cell_at (o := 1) hD.2.1 _ rfl; have z2 := cell_at (o := 2) hD.2.1 _ rfl
        have hkm := HKM.out
        subst hkm
        exact ⟨_, by simp [results, Tryd.results69, go_sem, z0, z1, z2], not_close hD hX (by omega) (by omega) (by simp [Ex.leaves]) (spec_none _ HS1.out HSK4.out HNA.out HNB.out HE.out)⟩
      · have hbm : ((k : Int) == (m4 : Int)) = false := by simp; omega
        go_wp2_with fail
        have HNZ := Lib.hid (HNS.out.drewN (nqa + nq))
        obtain ⟨wz, hwz⟩ : ∃ wz, wz = wr.drewN (nqa + nq) := ⟨_, rfl⟩
        rw [← hwz] at HNZ
        rw [← hwz]
        have b0 := cell_at (o := 0) HNZ.out.2.1 (.int .i64 0) rfl
        have b1 := cell_at (o := 1) HNZ.out.2.1 (.string { data := #[] }) rfl
        have b2 := cell_at (o := 2) HNZ.out.2.1 (.slice none 0 0) rfl
        have bf := free_at HNZ.out.2.1
        clear hbox q0 q1 f1 HNS hbm hwz
        have hbox := HNZ.out.box
        have q0 := HNZ.out.2.2.1.c0
        have q1 := HNZ.out.2.2.1.c1
        have hm40 : (0 : Int) ≤ (m4 : Int) := by omega
        have hm4k : (m4 : Int) ≤ (k : Int) := by omega
        have hkk : (k : Int) ≤ (s.size : Int) := by omega
        have hslm : ∀ wx, (Instr.slice 9 (.string s) (some (.int .i64 (m4 : Int))) (some (.int .i64 (k : Int))) none).run Tryd.prog wx = .ok (.string (s.extract m4 k)) wx := fun wx =>
          run_slice_string (P := Tryd.prog) wx 9 s .i64 .i64 (m4 : Int) (k : Int) Tryd.underlying9 (by omega) (by omega) (by omega)
        have hne1 : ¬ br = w.heap.size + 1 := by omega
        have hne2 : ¬ w.heap.size + 1 = br := by omega
        have hne3 : ¬ w.heap.size = w.heap.size + 1 := by omega
        have hne4 : ¬ w.heap.size + 1 = w.heap.size := by omega
        go_region_held3 (fun w' => w'.cell? ⟨w.heap.size, 0, none⟩ = some (.pointer (some ⟨br, 0, none⟩)) ∧ w'.cell? ⟨br, 0, none⟩ = some (.string s) ∧ w'.cell? ⟨br, 1, none⟩ = some (.int .i64 (k : Int))) (go_keep) ((fail))
        all_goals
          go_wp2_with fail
          obtain ⟨W0, hW0⟩ : ∃ W, W = (((((wz.setCell ⟨w.heap.size + 1, 0, none⟩ (.int .i64 0)).setCell ⟨w.heap.size + 1, 1, none⟩ (.string { data := #[] })).setCell ⟨w.heap.size + 1, 2, none⟩ (.slice none 0 0)).setCell ⟨w.heap.size + 1, 0, none⟩ (.int .i64 1)).setCell ⟨w.heap.size + 1, 1, none⟩ (.string (s.extract m4 k))) := ⟨_, rfl⟩
          rw [← hW0]
          obtain ⟨hD0, -⟩ := tag_made (s.extract m4 k) (by rw [ByteArray.size_extract]; omega) HNZ.out hW0
          have hD := hD0.drew
          have hX : XIs (fun b => w.heap.size + 2 ≤ b) W0.drew (.tag (s.extract m4 k)) (.int .i64 1) (.string (s.extract m4 k)) (.slice none 0 0) := ⟨rfl, rfl, by rw [ByteArray.size_extract]; omega, none, 0, rfl⟩
          refine leaves_cons (f := 88) (args := #[.pointer (some ⟨w.heap.size, 0, none⟩)]) (by simp) (by simp [go_sem]) ?_
          refine (down_any w.heap.size br s k (d + 1) _ .returning _ hD.1 hD.2.2.1 (by omega)).mono ?_
          rintro e6 u6 w6 ⟨rfl, rfl, rfl⟩
          have z0 := cell_at (o := 0) hD0.2.1 _ rfl; have z1 := cell_at (o := 1) hD0.2.1 _ rfl; have z2 := cell_at (o := 2) hD0.2.1 _ rfl
          exact ⟨_, by simp [results, Tryd.results69, go_sem, z0, z1, z2], not_close hD hX (by omega) (by omega) (by simp [Ex.leaves]) (spec_tag HS1.out HSK4.out HT.out HE.out (by omega))⟩
end Go.Proofs.YteemenhinhkonaaDoor
