/- The reference's ReadDiff at the text of a diff. -/
import Derived.Test.YtncjclmhdhimdaaDoorDRD3
import Derived.Deep.QuietTactic
import Derived.BigQuiet
import Derived.Deep.CutBlock
namespace Go.Proofs.YtncjclmhdhimdaaDoor
open Go.RowKit

def RDPost (o n : List UInt8) (cs : List Hk) (w : World) (e : Ending) (w' : World) : Prop :=
  ∃ v us B, e = .returned (.tuple #[.string (mkB o), .string (mkB n), v, .bool (decide (0 < cs.length))]) ∧ HRow w' B v cs us ∧ Below w.heap.size w w'
theorem row_none (w : World) : (w.alloc (.cells #[] 28)).ownsRow w.heap.size 28 3 (.slice (some ⟨w.heap.size, 0, none⟩) 0 0) 0 [] := by
  have h := World.ownsRow_made (base := w.heap.size) (e := 28) (size := 3) w #[] 0 (by simp) (by unfold maxLen; omega) rfl
  simpa using h

set_option maxRecDepth 1000000 in
set_option maxHeartbeats 8000000 in
theorem readDiff_any (o n : List UInt8) (cs : List Hk) (B : List UInt8) (w : World) (hB : lns B = dfLns o n cs) (hBl : B.length ≤ 1099511627776) (ho : o.length ≤ 1048576) (hn : n.length ≤ 1048576) (hcs : ∀ c ∈ cs, CkOk c) (hcl : cs.length ≤ 1000000) :
    Calls Tryd.prog 20 #[.string (mkB B)] w (RDPost o n cs w) := by
  have HCS := Lib.hid hcs
  clear hcs
  go_enter Tryd.func20, Tryd.ntmps20
  go_wp2_with fail
  refine (lines_any (mkB B) w (by rw [mkB_size]; exact hBl)).mono ?_
  rw [mkB_toList, hB]
  rintro e1 w1 ⟨v, rfl, hrow, hb1⟩
  obtain ⟨L, hL⟩ : ∃ L, L = dfLns o n cs := ⟨_, rfl⟩
  have hLl : L.length ≤ 1099511627776 := by
    rw [hL, ← hB]
    have := lns_len B
    omega
  rw [← hL] at hrow
  have hls : LS w1 v L := LS.of (SS.of_row (by rw [← strs_map]; exact hrow) (by rw [List.length_map]; omega))
  obtain ⟨pl, cl, rfl, -⟩ := hls
  have hls : LS w1 (.slice pl L.length cl) L := LS.of (SS.of_row (by rw [← strs_map]; exact hrow) (by rw [List.length_map]; omega))
  have HB1 := Lib.hid hb1
  have HLS := Lib.hid hls
  have l0 : L[0]? = some (hdr1 o n) := by rw [hL]; rfl
  have l1 : L[1]? = some (hdr2 o) := by rw [hL]; rfl
  have l2 : L[2]? = some (hdr3 n) := by rw [hL]; rfl
  have HD : Hid (L.drop 3 = cs.flatMap ckLns) := Lib.hid (by rw [hL]; rfl)
  have h3 : 3 ≤ L.length := by rw [hL]; unfold dfLns; simp
  obtain ⟨b0, o0, rfl, c0⟩ := hls.cell l0
  obtain ⟨b0', o0', he, c1⟩ := hls.cell l1
  injection he with he
  injection he with he1 he2
  subst he1 he2
  obtain ⟨b0', o0', he, c2⟩ := hls.cell l2
  injection he with he
  injection he with he1 he2
  subst he1 he2
  rw [Nat.add_zero] at c0
  clear hrow hls hb1 hB l0 l1 l2 hL
  obtain ⟨t1, ht1⟩ : ∃ t, t = hdr1 o n := ⟨_, rfl⟩
  obtain ⟨t2, ht2⟩ : ∃ t, t = hdr2 o := ⟨_, rfl⟩
  obtain ⟨t3, ht3⟩ : ∃ t, t = hdr3 n := ⟨_, rfl⟩
  rw [← ht1] at c0
  rw [← ht2] at c1
  rw [← ht3] at c2
  have k1 : (mkB t1).size ≤ 3000000 ∧ 4 ≤ (mkB t1).size := by rw [mkB_size, ht1]; unfold hdr1; simp; omega
  have k2 : (mkB t2).size = o.length + 5 := by rw [mkB_size, ht2]; unfold hdr2; simp
  have k3 : (mkB t3).size = n.length + 5 := by rw [mkB_size, ht3]; unfold hdr3; simp
  have s1 : ∀ wx, (Instr.slice 9 (.string (mkB t1)) none (some (.int .i64 4)) none).run Tryd.prog wx = .ok (.string { data := #[100, 105, 102, 102] }) wx := fun wx => by
    have := run_slice_string_to_if (P := Tryd.prog) wx 9 (mkB t1) .i64 4 Tryd.underlying9
    rw [this, if_pos (by omega), extract_mkB, mkB_toList, ht1]
    rfl
  have s2 : ∀ wx, (Instr.slice 9 (.string (mkB t2)) none (some (.int .i64 4)) none).run Tryd.prog wx = .ok (.string { data := #[45, 45, 45, 32] }) wx := fun wx => by
    have := run_slice_string_to_if (P := Tryd.prog) wx 9 (mkB t2) .i64 4 Tryd.underlying9
    rw [this, if_pos (by omega), extract_mkB, mkB_toList, ht2]
    rfl
  have s3 : ∀ wx, (Instr.slice 9 (.string (mkB t3)) none (some (.int .i64 4)) none).run Tryd.prog wx = .ok (.string { data := #[43, 43, 43, 32] }) wx := fun wx => by
    have := run_slice_string_to_if (P := Tryd.prog) wx 9 (mkB t3) .i64 4 Tryd.underlying9
    rw [this, if_pos (by omega), extract_mkB, mkB_toList, ht3]
    rfl
  have n1 : ¬ ((mkB t1).size : Int) < 4 := by omega
  have n2 : ¬ ((mkB t2).size : Int) < 4 := by omega
  have n3 : ¬ ((mkB t3).size : Int) < 5 := by omega
  have m1 : ((mkB t1).size : Int) ≤ 3000000 := by omega
  have m2 : ((mkB t2).size : Int) ≤ 3000000 := by omega
  have m3 : ((mkB t3).size : Int) ≤ 3000000 := by omega
  obtain ⟨q2, hq2⟩ : ∃ q, q = o.length + 4 := ⟨_, rfl⟩
  obtain ⟨q3, hq3⟩ : ∃ q, q = n.length + 4 := ⟨_, rfl⟩
  have i2 : ((mkB t2).size : Int) - 1 = (q2 : Int) := by omega
  have i3 : ((mkB t3).size : Int) - 1 = (q3 : Int) := by omega
  have y2 : ∀ wx, (Instr.slice 9 (.string (mkB t2)) (some (.int .i64 4)) (some (.int .i64 (q2 : Int))) none).run Tryd.prog wx = .ok (.string (mkB o)) wx := fun wx => by
    have := run_slice_string (P := Tryd.prog) wx 9 (mkB t2) .i64 .i64 4 (q2 : Int) Tryd.underlying9 (by omega) (by omega) (by omega)
    rw [this, extract_mkB, mkB_toList, show ((q2 : Int)).toNat = q2 by omega, show ((4 : Int)).toNat = 4 by rfl, cut_at (L := t2) (i := 4) (j := q2) (P := [45, 45, 45, 32]) (T := o) (S := [10]) (by rw [ht2]; rfl) rfl (by rw [hq2]; omega)]
  have y3 : ∀ wx, (Instr.slice 9 (.string (mkB t3)) (some (.int .i64 4)) (some (.int .i64 (q3 : Int))) none).run Tryd.prog wx = .ok (.string (mkB n)) wx := fun wx => by
    have := run_slice_string (P := Tryd.prog) wx 9 (mkB t3) .i64 .i64 4 (q3 : Int) Tryd.underlying9 (by omega) (by omega) (by omega)
    rw [this, extract_mkB, mkB_toList, show ((q3 : Int)).toNat = q3 by omega, show ((4 : Int)).toNat = 4 by rfl, cut_at (L := t3) (i := 4) (j := q3) (P := [43, 43, 43, 32]) (T := n) (S := [10]) (by rw [ht3]; rfl) rfl (by rw [hq3]; omega)]
  clear k1 k2 k3 hq2 hq3 ht1 ht2 ht3
  have d1 : (({ data := #[100, 105, 102, 102] } : ByteArray).toList == ({ data := #[45, 45, 45, 32] } : ByteArray).toList) = false := by kernel_rfl
  go_wp2_with fail
  go_loop [7] (fun i => ∃ k : Nat, k ≤ 1 ∧ i = .int .i64 (k : Int)) (fun i => 2 - (intOf i).toNat)
  case atStart => exact ⟨0, by omega, rfl⟩
  case round =>
    obtain ⟨k, hk, rfl⟩ := hrel
    by_cases hk0 : k = 0
    · subst hk0
      go_wp2_with fail
      exact ⟨⟨1, by omega, rfl⟩, by simp [intOf]⟩
    · obtain rfl : k = 1 := by omega
      go_upto_region 7 with fail
      go_quiet (fail)
      clear y2 y3 s1 s2 s3 d1 n1 n2 n3 m1 m2 m3 i2 i3 c0 c1 c2
      go_wp2_with fail
      obtain ⟨w3, hw3⟩ : ∃ w3, w3 = (w1.drewN nq).alloc (.cells #[] 28) := ⟨_, rfl⟩
      have HB3 : Hid (Below w1.heap.size w1 w3) := Lib.hid (by rw [hw3]; exact (show Below w1.heap.size w1 (w1.drewN nq) from ⟨rfl, rfl, rfl, Nat.le_refl _, fun _ _ => rfl⟩).alloc (Nat.le_refl _) _)
      have HR3 : Hid (HRow w3 w1.heap.size (.slice (some ⟨w1.heap.size, 0, none⟩) 0 0) [] []) := Lib.hid ⟨rfl, by rw [hw3]; exact row_none (w1.drewN nq), fun i c u h => by simp at h⟩
      rw [← hw3]
      clear hw3
      refine wp_loop_ghost (fun g a w => RdO L o n w1 b0 o0 cl cs g a w) cs.length ?_ ?_
      · exact ⟨[], cs, [], 3, _, _, _, _, _, rfl, Nat.le_refl _, HD.out, h3, HR3.out, HB3.out, AtR.intro⟩
      · intro g a' w' hI
        refine rdOut L o n w1 b0 o0 cl cs HCS.out hcl HLS.out hLl g a' w' hI _ (fun a2 w2 h2 => h2) ?_
        clear hI HR3 HB3
        intro p us v a2 w2 hR hB ha
        obtain ⟨h, m, k, ln, ha⟩ := ha
        have HR := Lib.hid hR
        have HBB := Lib.hid hB
        have hrow := hR.row
        obtain ⟨pv, cv, rfl⟩ := ownsRow_slice hrow
        clear hR hB hrow
        refine AtR.elim (C := fun a => Exit.then _ _ (.exit 2) a w2) ?_ ha
        intro c0 c1 c2 c3 c4 c5
        intros
        obtain ⟨nc, hnc⟩ : ∃ nc, nc = cs.length := ⟨_, rfl⟩
        have HNC := Lib.hid hnc
        rw [← hnc] at HR ⊢
        clear hnc
        go_wp2_with fail
        have hdec : decide ((0 : Int) < (nc : Int)) = decide (0 < cs.length) := by rw [← HNC.out]; simp
        refine bodyPost_ret (v := .tuple #[.string (mkB o), .string (mkB n), .slice pv nc cv, .bool (decide (0 < cs.length))]) (by simp [results, Tryd.results20, go_sem, HNC.out]) rfl ⟨_, us, w1.heap.size, rfl, HR.out, HB1.out.trans (HBB.out.mono HB1.out.size)⟩
end Go.Proofs.YtncjclmhdhimdaaDoor
