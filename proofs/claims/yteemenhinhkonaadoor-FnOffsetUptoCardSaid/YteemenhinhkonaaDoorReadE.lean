/- The reference's reader: the contract of not. -/
import Derived.Test.YteemenhinhkonaaDoorProg
import Derived.Test.YteemenhinhkonaaDoorReadD
namespace Go.Proofs.YteemenhinhkonaaDoor
open Go.RowKit

set_option maxHeartbeats 4000000 in
set_option maxRecDepth 100000 in
theorem not_of (N : Nat) (s : ByteArray) (hs : s.size ≤ 1152921504606846976) (hasc : ∀ k (h : k < s.size), s[k].toNat < 128) (hn : ∀ M, M < N → NotS M s ∧ OrC M s) : NotS N s := by
  intro br i d st w h hi hN hd0 hd1
  have H := Lib.hid h
  have HN := Lib.hid hn
  have HA := Lib.hid hasc
  have hbr : br < w.heap.size := lt_of_heap h
  have hmf : ∀ (fn : Fn) (first cap : Array Value) (w : World), (Instr.makeFunc fn first cap).run Tryd.prog w = .ok (.func fn first cap) w := fun _ _ _ _ => rfl
  have q2 := h.c2
  have k2 : ∀ o o', ((w.alloc o).alloc o').cell? ⟨br, 2, none⟩ = some (.int .i64 d) := fun o o' => cellsA (cellsA q2 o) o'
  have f2 : ∀ o o', ((w.alloc o).alloc o').frozen? ⟨br, 2, none⟩ = false := fun o o' => ((frozen_old_alloc _ _ (by simp; omega)).trans (frozen_old_alloc _ _ hbr)).trans (h.f 2)
  have hns := NS_start (d := d) h
  have HNS0 := Lib.hid hns
  clear h hn hasc hns
  by_cases hdp : 100 < d + 1
  · exact not_deep s hs HA.out br i d st w H.out hi hd0 hd1 hdp
  · have hd99 : d ≤ 99 := by omega
    clear hdp
    go_enter_defers Tryd.func69, Tryd.ntmps69
    go_wp2_with fail
    obtain ⟨wa, hwa⟩ : ∃ wa, wa = (((w.setCell ⟨br, 2, none⟩ (.int .i64 (d + 1))).alloc (.cells #[.pointer (some ⟨br, 0, none⟩)] 57)).alloc (.cells #[.int .i64 0, .string { data := #[] }, .slice none 0 0] 24)) := ⟨_, rfl⟩
    rw [← hwa] at HNS0
    rw [← hwa]
    have HNS := Lib.hid HNS0.out
    clear hwa HNS0 k2 f2 q2 H
    refine (take_any br s { data := #[33] } i (d + 1) st _ HNS.out.2.2.1 hi hs (by decide)).mono ?_
    rintro e2 w2 ⟨m, him, hskm, hg2, hcase⟩
    rcases hcase with ⟨rfl, hst, hml, hpre, hr2⟩ | ⟨rfl, hml, hno, hr2⟩
    · have hr2' : RIs w2 br s ((m + 1 : Nat) : Int) (d + 1) st := hr2
      have hml' : m + 1 ≤ s.size := hml
      have HN2 := Lib.hid (HNS.out.next hg2 hr2')
      have hbox2 := HN2.out.box
      have HST := Lib.hid hst
      have HB1 : Hid (skipL (dropB s i) = 33 :: dropB s (m + 1)) := Lib.hid (head1 hskm hml' hpre)
      clear hst hpre hskm hr2 hr2' hml hg2 HNS
      go_wp2_with fail
      refine (skip_any br s (m + 1) (d + 1) st _ HN2.out.2.2.1 hml' hs).mono ?_
      rintro e3 w3 ⟨m3, rfl, hm3, hm3s, hr3, hsk3, hg3⟩
      have HN3 := Lib.hid (HN2.out.next hg3 hr3)
      have hbox3 := HN3.out.box
      have HSK3 := Lib.hid hsk3
      clear hbox2 hsk3 hr3 hg3 HN2
      go_wp2_with fail
      refine (take_any br s { data := #[33] } m3 (d + 1) st _ HN3.out.2.2.1 hm3s hs (by decide)).mono ?_
      rintro e4 w4a ⟨m4, him4, hskm4, hg4, hcase4⟩
      have HSK4 : Hid (dropB s m4 = skipL (dropB s (m + 1))) := Lib.hid (by rw [← hskm4, ← HSK3.out, skipL_skipL])
      clear hskm4
      rcases hcase4 with ⟨rfl, hst4, hml4, hpre4, hr4⟩ | ⟨rfl, hml4, hno4, hr4⟩
      · have hr4' : RIs w4a br s ((m4 + 1 : Nat) : Int) (d + 1) st := hr4
        have hml4' : m4 + 1 ≤ s.size := hml4
        have HN4a := Lib.hid (HN3.out.next hg4 hr4')
        have hbox4a := HN4a.out.box
        have HPRE4 := Lib.hid hpre4
        clear hbox3 hr4 hg4 HN3 hst4 hml4 hpre4 hr4'
        go_wp2_with fail
        refine (stop_any br s ((m4 + 1 : Nat) : Int) (d + 1) st 0 _ HN4a.out.2.2.1).mono ?_
        rintro e4b w4 ⟨rfl, hr4b, hg4b⟩
        rw [if_pos HST.out] at hr4b
        have HN4 := Lib.hid (HN4a.out.next hg4b hr4b)
        have hbox4 := HN4.out.box
        clear hr4b hg4b HN4a hbox4a
        go_wp2_with fail
        refine ((HN.out (N - 1) (by omega)).1 br (m4 + 1) (d + 1) 0 _ HN4.out.2.2.1 hml4' (by omega) (by omega) (by omega)).mono ?_
        rintro e5 w5 ⟨x, c0, c1, c2, j, st', rfl, hx, hij, hj, hlv, hr5, hg5, hsp⟩
        obtain ⟨sx, ax, cx, rfl, rfl, rfl, -⟩ := hx.form
        have HN5 := Lib.hid (HN4.out.next hg5 hr5)
        have HX := Lib.hid hx
        have HSP := Lib.hid hsp
        have hs5 : w4.heap.size ≤ w5.heap.size := hg5.size
        have hs4 : w.heap.size + 1 < w4.heap.size := lt_of_heap HN4.out.2.1
        have b0 := cellsA (cell_at (o := 0) HN5.out.2.1 (.int .i64 0) rfl)
        have b1 := cellsA (cell_at (o := 1) HN5.out.2.1 (.string { data := #[] }) rfl)
        have b2 := cellsA (cell_at (o := 2) HN5.out.2.1 (.slice none 0 0) rfl)
        have bf : ∀ (o : Obj) (q : Nat), (w5.alloc o).frozen? ⟨w.heap.size + 1, q, none⟩ = false := fun o q => (frozen_old_alloc w5 o (lt_of_heap HN5.out.2.1)).trans (free_at HN5.out.2.1 q)
        clear hx hr5 hg5 hsp hbox4
        go_wp2_with fail
        obtain ⟨W, hW⟩ : ∃ W, W = ((((w5.alloc (.cells #[.int .i64 x.kind, .string sx, .slice ax x.arity cx] 24)).setCell ⟨w.heap.size + 1, 0, none⟩ (.int .i64 2)).setCell ⟨w.heap.size + 1, 1, none⟩ (.string { data := #[] })).setCell ⟨w.heap.size + 1, 2, none⟩ (.slice (some ⟨w5.heap.size, 0, none⟩) 1 1)) := ⟨_, rfl⟩
        rw [← hW]
        obtain ⟨hD, hX⟩ := not_made HN5.out HX.out (by omega) hW
        refine leaves_cons (f := 88) (args := #[.pointer (some ⟨w.heap.size, 0, none⟩)]) (by simp) (by simp [go_sem]) ?_
        refine (down_any w.heap.size br s j (d + 1) st' .returning _ hD.1 hD.2.2.1 (by omega)).mono ?_
        rintro e6 u6 w6 ⟨rfl, rfl, rfl⟩
        have z0 := cell_at (o := 0) hD.2.1 _ rfl; have z1 := cell_at (o := 1) hD.2.1 _ rfl; have z2 := cell_at (o := 2) hD.2.1 _ rfl
        exact ⟨_, by simp [results, Tryd.results69, go_sem, z0, z1, z2], not_close hD hX (by omega) (by omega) (by simp only [Ex.leaves]; omega) (spec_bang2 HST.out HB1.out HSK4.out HPRE4.out HSP.out)⟩
      · obtain ⟨w4, hw4⟩ : ∃ w4, w4 = w4a := ⟨_, rfl⟩
        rw [← hw4] at hg4 hr4
        rw [← hw4]
        have HN4 := Lib.hid (HN3.out.next hg4 hr4)
        have hbox4 := HN4.out.box
        have HNO4 := Lib.hid hno4
        clear hbox3 hr4 hg4 HN3 hno4 hw4
        go_wp2_with fail
        refine ((HN.out (N - 1) (by omega)).1 br m4 (d + 1) st _ HN4.out.2.2.1 hml4 (by omega) (by omega) (by omega)).mono ?_
        rintro e5 w5 ⟨x, c0, c1, c2, j, st', rfl, hx, hij, hj, hlv, hr5, hg5, hsp⟩
        obtain ⟨sx, ax, cx, rfl, rfl, rfl, -⟩ := hx.form
        have HN5 := Lib.hid (HN4.out.next hg5 hr5)
        have HX := Lib.hid hx
        have HSP := Lib.hid hsp
        have hs5 : w4.heap.size ≤ w5.heap.size := hg5.size
        have hs4 : w.heap.size + 1 < w4.heap.size := lt_of_heap HN4.out.2.1
        have b0 := cellsA (cell_at (o := 0) HN5.out.2.1 (.int .i64 0) rfl)
        have b1 := cellsA (cell_at (o := 1) HN5.out.2.1 (.string { data := #[] }) rfl)
        have b2 := cellsA (cell_at (o := 2) HN5.out.2.1 (.slice none 0 0) rfl)
        have bf : ∀ (o : Obj) (q : Nat), (w5.alloc o).frozen? ⟨w.heap.size + 1, q, none⟩ = false := fun o q => (frozen_old_alloc w5 o (lt_of_heap HN5.out.2.1)).trans (free_at HN5.out.2.1 q)
        clear hx hr5 hg5 hsp hbox4
        go_wp2_with fail
        obtain ⟨W, hW⟩ : ∃ W, W = ((((w5.alloc (.cells #[.int .i64 x.kind, .string sx, .slice ax x.arity cx] 24)).setCell ⟨w.heap.size + 1, 0, none⟩ (.int .i64 2)).setCell ⟨w.heap.size + 1, 1, none⟩ (.string { data := #[] })).setCell ⟨w.heap.size + 1, 2, none⟩ (.slice (some ⟨w5.heap.size, 0, none⟩) 1 1)) := ⟨_, rfl⟩
        rw [← hW]
        obtain ⟨hD, hX⟩ := not_made HN5.out HX.out (by omega) hW
        refine leaves_cons (f := 88) (args := #[.pointer (some ⟨w.heap.size, 0, none⟩)]) (by simp) (by simp [go_sem]) ?_
        refine (down_any w.heap.size br s j (d + 1) st' .returning _ hD.1 hD.2.2.1 (by omega)).mono ?_
        rintro e6 u6 w6 ⟨rfl, rfl, rfl⟩
        have z0 := cell_at (o := 0) hD.2.1 _ rfl; have z1 := cell_at (o := 1) hD.2.1 _ rfl; have z2 := cell_at (o := 2) hD.2.1 _ rfl
        exact ⟨_, by simp [results, Tryd.results69, go_sem, z0, z1, z2], not_close hD hX (by omega) (by omega) (by simp only [Ex.leaves]; omega) (spec_bang HST.out HB1.out HSK4.out HNO4.out HSP.out)⟩
    · have HN2 := Lib.hid (HNS.out.next hg2 hr2)
      have hbox2 := HN2.out.box
      have HNO := Lib.hid hno
      have HSK := Lib.hid hskm
      clear hno hskm hr2 hg2 HNS
      go_wp2_with fail
      refine (take_any br s { data := #[40] } m (d + 1) st _ HN2.out.2.2.1 hml hs (by decide)).mono ?_
      rintro e3 w3 ⟨m3, hm3, hsk3, hg3, hcase3⟩
      have HSK3 : Hid (skipL (dropB s i) = dropB s m3) := Lib.hid (by rw [← hsk3, ← HSK.out, skipL_skipL])
      clear hsk3
      rcases hcase3 with ⟨rfl, hst, hml3, hpre3, hr3⟩ | ⟨rfl, hml3, hno3, hr3⟩
      · have hr3' : RIs w3 br s ((m3 + 1 : Nat) : Int) (d + 1) st := hr3
        have hml3' : m3 + 1 ≤ s.size := hml3
        have HN3 := Lib.hid (HN2.out.next hg3 hr3')
        have hbox3 := HN3.out.box
        have HST := Lib.hid hst
        have HP3 : Hid (skipL (dropB s i) = 40 :: dropB s (m3 + 1)) := Lib.hid (head1 HSK3.out hml3' hpre3)
        clear hbox2 hr3 hr3' hg3 HN2 hst hml3 hpre3
        go_wp2_with fail
        refine ((HN.out (N - 1) (by omega)).2 br (m3 + 1) (d + 1) st _ HN3.out.2.2.1 hml3' (by omega) (by omega) (by omega)).mono ?_
        rintro e4 w4 ⟨x, c0, c1, c2, j, st4, rfl, hx, hij, hj, hlv, hr4, hg4, hsp⟩
        obtain ⟨sx, ax, cx, rfl, rfl, rfl, -⟩ := hx.form
        have HN4 := Lib.hid ((HN3.out.next hg4 hr4).grow (.cells #[.int .i64 x.kind, .string sx, .slice ax x.arity cx] 24))
        have hs3 : w.heap.size + 1 < w3.heap.size := lt_of_heap HN3.out.2.1
        have hs4 : w3.heap.size ≤ w4.heap.size := hg4.size
        have HX := Lib.hid (XIs.move (S' := fun b => w.heap.size + 2 ≤ b ∧ b ≠ w4.heap.size) (w' := w4.alloc (.cells #[.int .i64 x.kind, .string sx, .slice ax x.arity cx] 24)) (fun b hb hlt => ⟨⟨by omega, by omega⟩, Below.heap_alloc _ _ _ hlt⟩) hx)
        have HBX := Lib.hid (heap_new w4 (.cells #[.int .i64 x.kind, .string sx, .slice ax x.arity cx] 24) rfl)
        have HSP := Lib.hid hsp
        have hbox4 : ∀ o, (w4.alloc o).cell? ⟨w.heap.size, 0, none⟩ = some (.pointer (some ⟨br, 0, none⟩)) := cellsA (HN3.out.next hg4 hr4).box
        clear hbox3 hx hr4 hg4 hsp
        go_wp2_with fail
        obtain ⟨wz, hwz⟩ : ∃ wz, wz = w4.alloc (.cells #[.int .i64 x.kind, .string sx, .slice ax x.arity cx] 24) := ⟨_, rfl⟩
        rw [← hwz] at HN4 HX HBX
        rw [← hwz]
        have hsz : w4.heap.size < wz.heap.size := by rw [hwz]; simp
        clear hwz hbox4
        refine (take_any br s { data := #[41] } j (d + 1) st4 _ HN4.out.2.2.1 hj hs (by decide)).mono ?_
        rintro e5 w5 ⟨m5, hm5, hsk5, hg5, hcase5⟩
        have hxb := (hg5.block w4.heap.size hsz (fun e => by injection e with e; omega)).trans HBX.out
        have HX5 := Lib.hid (XIs.move (S' := fun b => w.heap.size + 2 ≤ b ∧ b ≠ w4.heap.size) (w' := w5) (fun b hb hlt => ⟨hb, hg5.block b hlt (fun e => by injection e with e; omega)⟩) HX.out)
        have HSK5 := Lib.hid hsk5
        clear hsk5 HX HBX
        rcases hcase5 with ⟨rfl, hst5, hml5, hpre5, hr5⟩ | ⟨rfl, hml5, hno5, hr5⟩
        · have hr5' : RIs w5 br s ((m5 + 1 : Nat) : Int) (d + 1) st4 := hr5
          have hml5' : m5 + 1 ≤ s.size := hml5
          have HN5 := Lib.hid (HN4.out.next hg5 hr5')
          have HST5 := Lib.hid hst5
          have HP5 : Hid (skipL (dropB s j) = 41 :: dropB s (m5 + 1)) := Lib.hid (head1 HSK5.out hml5' hpre5)
          have p0 := cell_at (o := 0) hxb (.int .i64 x.kind) rfl
          have p1 := cell_at (o := 1) hxb (.string sx) rfl
          have p2 := cell_at (o := 2) hxb (.slice ax x.arity cx) rfl
          have b0 := cell_at (o := 0) HN5.out.2.1 (.int .i64 0) rfl
          have b1 := cell_at (o := 1) HN5.out.2.1 (.string { data := #[] }) rfl
          have b2 := cell_at (o := 2) HN5.out.2.1 (.slice none 0 0) rfl
          have bf := free_at HN5.out.2.1
          clear hxb hr5 hr5' hg5 hst5 hml5 hpre5 HN4
          go_wp2_with fail
          obtain ⟨W, hW⟩ : ∃ W, W = ((((w5.setCell ⟨w.heap.size + 1, 0, none⟩ (.int .i64 x.kind)).setCell ⟨w.heap.size + 1, 1, none⟩ (.string sx)).setCell ⟨w.heap.size + 1, 2, none⟩ (.slice ax x.arity cx))) := ⟨_, rfl⟩
          rw [← hW]
          obtain ⟨hD, hX⟩ := par_made HN5.out HX5.out hW
          refine leaves_cons (f := 88) (args := #[.pointer (some ⟨w.heap.size, 0, none⟩)]) (by simp) (by simp [go_sem]) ?_
          refine (down_any w.heap.size br s ((m5 + 1 : Nat) : Int) (d + 1) st4 .returning _ hD.1 hD.2.2.1 (by omega)).mono ?_
          rintro e6 u6 w6 ⟨rfl, rfl, rfl⟩
          have z0 := cell_at (o := 0) hD.2.1 _ rfl; have z1 := cell_at (o := 1) hD.2.1 _ rfl; have z2 := cell_at (o := 2) hD.2.1 _ rfl
          exact ⟨_, by simp [results, Tryd.results69, go_sem, z0, z1, z2], not_close hD hX (by omega) (by omega) (by omega) (spec_par HST.out HP3.out HST5.out HP5.out HSP.out)⟩
        · have HN5 := Lib.hid (HN4.out.next hg5 hr5)
          have hbox5 := HN5.out.box
          have HNO5 := Lib.hid hno5
          have HXB := Lib.hid hxb
          have hsz5 := hg5.size
          clear hxb hr5 hg5 hno5 HN4
          go_wp2_with fail
          refine (stop_any br s m5 (d + 1) st4 2 _ HN5.out.2.2.1).mono ?_
          rintro e6 w6 ⟨rfl, hr6, hg6⟩
          have HN6 := Lib.hid (HN5.out.next hg6 hr6)
          have hxb6 := (hg6.block w4.heap.size (by omega) (fun e => by injection e with e; omega)).trans HXB.out
          have HX6 := Lib.hid (XIs.move (S' := fun b => w.heap.size + 2 ≤ b ∧ b ≠ w4.heap.size) (w' := w6) (fun b hb hlt => ⟨hb, hg6.block b hlt (fun e => by injection e with e; omega)⟩) HX5.out)
          have p0 := cell_at (o := 0) hxb6 (.int .i64 x.kind) rfl
          have p1 := cell_at (o := 1) hxb6 (.string sx) rfl
          have p2 := cell_at (o := 2) hxb6 (.slice ax x.arity cx) rfl
          have b0 := cell_at (o := 0) HN6.out.2.1 (.int .i64 0) rfl
          have b1 := cell_at (o := 1) HN6.out.2.1 (.string { data := #[] }) rfl
          have b2 := cell_at (o := 2) HN6.out.2.1 (.slice none 0 0) rfl
          have bf := free_at HN6.out.2.1
          clear hxb6 hr6 hg6 HX5 HXB HN5 hbox5
          go_wp2_with fail
          obtain ⟨W, hW⟩ : ∃ W, W = ((((w6.setCell ⟨w.heap.size + 1, 0, none⟩ (.int .i64 x.kind)).setCell ⟨w.heap.size + 1, 1, none⟩ (.string sx)).setCell ⟨w.heap.size + 1, 2, none⟩ (.slice ax x.arity cx))) := ⟨_, rfl⟩
          rw [← hW]
          obtain ⟨hD, hX⟩ := par_made HN6.out HX6.out hW
          refine leaves_cons (f := 88) (args := #[.pointer (some ⟨w.heap.size, 0, none⟩)]) (by simp) (by simp [go_sem]) ?_
          refine (down_any w.heap.size br s m5 (d + 1) _ .returning _ hD.1 hD.2.2.1 (by omega)).mono ?_
          rintro e6 u6 w6 ⟨rfl, rfl, rfl⟩
          have z0 := cell_at (o := 0) hD.2.1 _ rfl; have z1 := cell_at (o := 1) hD.2.1 _ rfl; have z2 := cell_at (o := 2) hD.2.1 _ rfl
          exact ⟨_, by simp [results, Tryd.results69, go_sem, z0, z1, z2], not_close hD hX (by omega) (by omega) (by omega) (spec_par_no HST.out HP3.out HSK5.out HNO5.out HSP.out)⟩
      · have HS1 : Hid (St1 d st st) := Lib.hid ⟨fun _ => rfl, fun h => .inl ⟨by omega, h⟩⟩
        have HEQ3 : Hid (dropB s m3 = dropB s m) := Lib.hid (by rw [← HSK3.out, HSK.out])
        have HNO1 : Hid (st ≠ 1 ∨ (dropB s m3).take (ByteArray.mk #[33]).size ≠ (ByteArray.mk #[33]).data.toList) := Lib.hid (by rw [HEQ3.out]; exact HNO.out)
        have HN3 := Lib.hid (HN2.out.next hg3 hr3)
        have hbox3 := HN3.out.box
        have HNO3 := Lib.hid hno3
        clear hno3 hr3 hg3 HN2 hbox2 HNO HEQ3 HSK
        obtain ⟨st1, hst1⟩ : ∃ st1, st1 = st := ⟨_, rfl⟩
        have HS1' : Hid (St1 d st st1) := by rw [hst1]; exact HS1
        have HN3' : Hid (NS w br s w3 m3 (d + 1) st1) := by rw [hst1]; exact HN3
        have HNO1' : Hid (st1 ≠ 1 ∨ (dropB s m3).take (ByteArray.mk #[33]).size ≠ (ByteArray.mk #[33]).data.toList) := by rw [hst1]; exact HNO1
        have HNO3' : Hid (st1 ≠ 1 ∨ (dropB s m3).take (ByteArray.mk #[40]).size ≠ (ByteArray.mk #[40]).data.toList) := by rw [hst1]; exact HNO3
        clear HS1 HN3 HNO1 HNO3 hst1
        have HS1 := Lib.hid HS1'.out
        have HN3 := Lib.hid HN3'.out
        have HNO1 := Lib.hid HNO1'.out
        have HNO3 := Lib.hid HNO3'.out
        clear HS1' HN3' HNO1' HNO3'
        go_wp2_with fail
        refine (skip_any br s m3 (d + 1) st1 _ HN3.out.2.2.1 hml3 hs).mono ?_
        rintro e4 w4 ⟨m4, rfl, hm4, hm4s, hr4, hsk4, hg4⟩
        have HSK4 : Hid (skipL (dropB s i) = dropB s m4) := Lib.hid (by rw [← hsk4, ← HSK3.out, skipL_skipL])
        have HEQ4 : Hid (dropB s m3 = dropB s m4) := Lib.hid (by rw [← HSK3.out, HSK4.out])
        have HNA : Hid (st1 ≠ 1 ∨ (dropB s m4).take (ByteArray.mk #[33]).size ≠ (ByteArray.mk #[33]).data.toList) := Lib.hid (by rw [← HEQ4.out]; exact HNO1.out)
        have HNB : Hid (st1 ≠ 1 ∨ (dropB s m4).take (ByteArray.mk #[40]).size ≠ (ByteArray.mk #[40]).data.toList) := Lib.hid (by rw [← HEQ4.out]; exact HNO3.out)
        have HN4 := Lib.hid (HN3.out.next hg4 hr4)
        have hbox4 := HN4.out.box
        have q1 := HN4.out.2.2.1.c1
        clear hsk4 hr4 hg4 hbox3 HN3 HNO1 HNO3 HEQ4 HSK3
        go_wp2_with fail
        go_loopg [] (s.size - m4) (fun g wr => TagRel w br s m4 (d + 1) st1 g wr)
        case atStart => exact ⟨m4, ⟨Nat.le_refl _, hm4s, fun k h1 h2 _ => by omega⟩, rfl, HN4.out⟩
        case round =>
          clear hbox4 q1 HN4
          obtain ⟨k, hT, rfl, hns⟩ := hrel
          have hbox := hns.box
          have q0 := hns.2.2.1.c0
          have q1 := hns.2.2.1.c1
          have f1 := hns.2.2.1.f 1
          have hmk : m4 ≤ k := hT.1
          have hks : k ≤ s.size := hT.2.1
          have HT := Lib.hid hT
          have HNS := Lib.hid hns
          clear hT hns
          have hk0 : (0 : Int) ≤ (k : Int) := by omega
          by_cases hlt : k < s.size
          · have hlt2 : ((k : Int) < (s.size : Int)) := by omega
            have hlt3 : decide (k < s.size) = true := by simp; omega
            have hlt4 : ((k : Int) + 1 ≤ (s.size : Int)) := by omega
            have hlt5 : k + 1 ≤ s.size := hlt
            have hone : (s.extract k (k + 1)).size ≤ 1152921504606846976 := by rw [ByteArray.size_extract]; omega
            have hsl : ∀ wx, (Instr.slice 9 (.string s) (some (.int .i64 (k : Int))) (some (.int .i64 ((k : Int) + 1))) none).run Tryd.prog wx = .ok (.string (s.extract k (k + 1))) wx := fun wx => by
              have := run_slice_string (P := Tryd.prog) wx 9 s .i64 .i64 (k : Int) ((k : Int) + 1) Tryd.underlying9 (by omega) (by omega) (by omega)
              rwa [show ((k : Int) + 1).toNat = k + 1 from by omega, show ((k : Int)).toNat = k from by omega] at this
            by_cases ht : tagB s[k] = true
            · have HOK : Hid (tagOkB (s.extract k (k + 1)) = true) := Lib.hid ((tag_one hlt).trans ht)
              have hcall : ∀ wx : World, Calls Tryd.prog 38 #[.string (s.extract k (k + 1))] wx fun e w' => e = .returned (.bool true) ∧ w' = wx := fun wx =>
                (tagOk_any (s.extract k (k + 1)) wx hone).mono fun _ _ h => ⟨by rw [h.1, HOK.out], h.2.symm⟩
              have HTG := Lib.hid ht
              clear ht
              have hn0 : (0 : Int) ≤ (k : Int) + 1 := by omega
              have hn1 : ((k : Int) + 1).toNat = k + 1 := by omega
              have hwr : IntKind.i64.wrap ((k : Int) + 1) = (k : Int) + 1 := IntWalk.i64_in _ (by omega)
              go_wp2_with fail
              go_quiet ((go_at_call 38; refine Calls.quiet_of_same (hcall _)))
              clear hwr hn0 hn1
              go_wp2_with fail
              go_roundg (s.size - (k + 1))
              case measure => omega
              case rel => exact TagRel_step HT.out HNS.out hlt HTG.out nq
            · have HOK : Hid (tagOkB (s.extract k (k + 1)) = false) := Lib.hid ((tag_one hlt).trans (Bool.eq_false_iff.2 ht))
              have hcall : ∀ wx : World, Calls Tryd.prog 38 #[.string (s.extract k (k + 1))] wx fun e w' => e = .returned (.bool false) ∧ w' = wx := fun wx =>
                (tagOk_any (s.extract k (k + 1)) wx hone).mono fun _ _ h => ⟨by rw [h.1, HOK.out], h.2.symm⟩
              have HE : Hid (∀ h : k < s.size, tagB s[k] = false) := Lib.hid (fun _ => Bool.eq_false_iff.2 ht)
              have hsm : decide ((128 : Int) ≤ (s[k].toNat : Int)) = false := decide_eq_false (by have := HA.out k hlt; omega)
              have hsm2 : ¬ ((128 : Int) ≤ (s[k].toNat : Int)) := by have := HA.out k hlt; omega
              have hsm3 : decide (128 ≤ s[k].toNat) = false := decide_eq_false (by have := HA.out k hlt; omega)
              clear ht
              have hn0 : (0 : Int) ≤ (k : Int) + 1 := by omega
              have hn1 : ((k : Int) + 1).toNat = k + 1 := by omega
              have hwr : IntKind.i64.wrap ((k : Int) + 1) = (k : Int) + 1 := IntWalk.i64_in _ (by omega)
              go_wp2_with fail
              go_quiet ((go_at_call 38; refine Calls.quiet_of_same (hcall _)))
              clear hwr hn0 hn1
              revert nq
              intro nqa
              go_wp2_with fail
              go_quiet (fail)
              by_cases hkm : k = m4
              · have hbm : ((k : Int) == (m4 : Int)) = true := by simp [hkm]
                have HKM := Lib.hid hkm
                clear hkm
                go_wp2_with fail
                refine (stop_any br s (k : Int) (d + 1) st1 2 _ (HNS.out.drewN _).2.2.1).mono ?_
                rintro e6 w6 ⟨rfl, hr6, hg6⟩
                have HN6 := Lib.hid ((HNS.out.drewN _).next hg6 hr6)
                have b0 := cell_at (o := 0) HN6.out.2.1 (.int .i64 0) rfl
                have b1 := cell_at (o := 1) HN6.out.2.1 (.string { data := #[] }) rfl
                have b2 := cell_at (o := 2) HN6.out.2.1 (.slice none 0 0) rfl
                have bf := free_at HN6.out.2.1
                clear hr6 hg6 hbox q0 q1 f1 HNS hbm
                go_wp2_with fail
                obtain ⟨W, hW⟩ : ∃ W, W = ((((w6.setCell ⟨w.heap.size + 1, 0, none⟩ (.int .i64 1)).setCell ⟨w.heap.size + 1, 1, none⟩ (.string { data := #[120] })).setCell ⟨w.heap.size + 1, 2, none⟩ (.slice none 0 0))) := ⟨_, rfl⟩
                rw [← hW]
                obtain ⟨hD, hX⟩ := par_made (x := .tag { data := #[120] }) (bx := 0) HN6.out ⟨rfl, rfl, by decide, none, 0, rfl⟩ hW
                refine leaves_cons (f := 88) (args := #[.pointer (some ⟨w.heap.size, 0, none⟩)]) (by simp) (by simp [go_sem]) ?_
                refine (down_any w.heap.size br s k (d + 1) _ .returning _ hD.1 hD.2.2.1 (by omega)).mono ?_
                rintro e6 u6 w6 ⟨rfl, rfl, rfl⟩
                have z0 := cell_at (o := 0) hD.2.1 _ rfl; have z1 := cell_at (o := 1) hD.2.1 _ rfl; have z2 := cell_at (o := 2) hD.2.1 _ rfl
                have hkm := HKM.out
                subst hkm
                exact ⟨_, by simp [results, Tryd.results69, go_sem, z0, z1, z2], not_close hD hX (by omega) (by omega) (by simp [Ex.leaves]) (spec_none _ HS1.out HSK4.out HNA.out HNB.out HE.out)⟩
              · have hbm : ((k : Int) == (m4 : Int)) = false := by simp; omega
                go_wp2_with fail
                have HNZ := Lib.hid (HNS.out.drewN (nqa + nq))
                obtain ⟨wz, hwz⟩ : ∃ wz, wz = wr.drewN (nqa + nq) := ⟨_, rfl⟩
                rw [← hwz] at HNZ
                rw [← hwz]
                have b0 := cell_at (o := 0) HNZ.out.2.1 (.int .i64 0) rfl
                have b1 := cell_at (o := 1) HNZ.out.2.1 (.string { data := #[] }) rfl
                have b2 := cell_at (o := 2) HNZ.out.2.1 (.slice none 0 0) rfl
                have bf := free_at HNZ.out.2.1
                clear hbox q0 q1 f1 HNS hbm hwz
                have hbox := HNZ.out.box
                have q0 := HNZ.out.2.2.1.c0
                have q1 := HNZ.out.2.2.1.c1
                have hm40 : (0 : Int) ≤ (m4 : Int) := by omega
                have hm4k : (m4 : Int) ≤ (k : Int) := by omega
                have hkk : (k : Int) ≤ (s.size : Int) := by omega
                have hslm : ∀ wx, (Instr.slice 9 (.string s) (some (.int .i64 (m4 : Int))) (some (.int .i64 (k : Int))) none).run Tryd.prog wx = .ok (.string (s.extract m4 k)) wx := fun wx =>
                  run_slice_string (P := Tryd.prog) wx 9 s .i64 .i64 (m4 : Int) (k : Int) Tryd.underlying9 (by omega) (by omega) (by omega)
                have hne1 : ¬ br = w.heap.size + 1 := by omega
                have hne2 : ¬ w.heap.size + 1 = br := by omega
                have hne3 : ¬ w.heap.size = w.heap.size + 1 := by omega
                have hne4 : ¬ w.heap.size + 1 = w.heap.size := by omega
                go_region_held3 (fun w' => w'.cell? ⟨w.heap.size, 0, none⟩ = some (.pointer (some ⟨br, 0, none⟩)) ∧ w'.cell? ⟨br, 0, none⟩ = some (.string s) ∧ w'.cell? ⟨br, 1, none⟩ = some (.int .i64 (k : Int))) (go_keep) ((fail))
                all_goals
                  go_wp2_with fail
                  obtain ⟨W0, hW0⟩ : ∃ W, W = (((((wz.setCell ⟨w.heap.size + 1, 0, none⟩ (.int .i64 0)).setCell ⟨w.heap.size + 1, 1, none⟩ (.string { data := #[] })).setCell ⟨w.heap.size + 1, 2, none⟩ (.slice none 0 0)).setCell ⟨w.heap.size + 1, 0, none⟩ (.int .i64 1)).setCell ⟨w.heap.size + 1, 1, none⟩ (.string (s.extract m4 k))) := ⟨_, rfl⟩
                  rw [← hW0]
                  obtain ⟨hD0, -⟩ := tag_made (s.extract m4 k) (by rw [ByteArray.size_extract]; omega) HNZ.out hW0
                  have hD := hD0.drew
                  have hX : XIs (fun b => w.heap.size + 2 ≤ b) W0.drew (.tag (s.extract m4 k)) (.int .i64 1) (.string (s.extract m4 k)) (.slice none 0 0) := ⟨rfl, rfl, by rw [ByteArray.size_extract]; omega, none, 0, rfl⟩
                  refine leaves_cons (f := 88) (args := #[.pointer (some ⟨w.heap.size, 0, none⟩)]) (by simp) (by simp [go_sem]) ?_
                  refine (down_any w.heap.size br s k (d + 1) _ .returning _ hD.1 hD.2.2.1 (by omega)).mono ?_
                  rintro e6 u6 w6 ⟨rfl, rfl, rfl⟩
                  have z0 := cell_at (o := 0) hD0.2.1 _ rfl; have z1 := cell_at (o := 1) hD0.2.1 _ rfl; have z2 := cell_at (o := 2) hD0.2.1 _ rfl
                  exact ⟨_, by simp [results, Tryd.results69, go_sem, z0, z1, z2], not_close hD hX (by omega) (by omega) (by simp [Ex.leaves]) (spec_tag HS1.out HSK4.out HT.out HE.out (by omega))⟩
          · have HE : Hid (∀ h : k < s.size, tagB s[k] = false) := Lib.hid (fun h => absurd h hlt)
            have hlt2 : ¬ ((k : Int) < (s.size : Int)) := by omega
            have hlt3 : decide (k < s.size) = false := by simp; omega
            have hlt4 : decide ((k : Int) < (s.size : Int)) = false := by simp; omega
            go_wp2_with fail
            go_quiet (fail)
            revert nq
            intro nqa
            go_wp2_with fail
            go_quiet (fail)
            by_cases hkm : k = m4
            · have hbm : ((k : Int) == (m4 : Int)) = true := by simp [hkm]
              have HKM := Lib.hid hkm
              clear hkm
              go_wp2_with fail
              refine (stop_any br s (k : Int) (d + 1) st1 2 _ (HNS.out.drewN _).2.2.1).mono ?_
              rintro e6 w6 ⟨rfl, hr6, hg6⟩
              have HN6 := Lib.hid ((HNS.out.drewN _).next hg6 hr6)
              have b0 := cell_at (o := 0) HN6.out.2.1 (.int .i64 0) rfl
              have b1 := cell_at (o := 1) HN6.out.2.1 (.string { data := #[] }) rfl
              have b2 := cell_at (o := 2) HN6.out.2.1 (.slice none 0 0) rfl
              have bf := free_at HN6.out.2.1
              clear hr6 hg6 hbox q0 q1 f1 HNS hbm
              go_wp2_with fail
              obtain ⟨W, hW⟩ : ∃ W, W = ((((w6.setCell ⟨w.heap.size + 1, 0, none⟩ (.int .i64 1)).setCell ⟨w.heap.size + 1, 1, none⟩ (.string { data := #[120] })).setCell ⟨w.heap.size + 1, 2, none⟩ (.slice none 0 0))) := ⟨_, rfl⟩
              rw [← hW]
              obtain ⟨hD, hX⟩ := par_made (x := .tag { data := #[120] }) (bx := 0) HN6.out ⟨rfl, rfl, by decide, none, 0, rfl⟩ hW
              refine leaves_cons (f := 88) (args := #[.pointer (some ⟨w.heap.size, 0, none⟩)]) (by simp) (by simp [go_sem]) ?_
              refine (down_any w.heap.size br s k (d + 1) _ .returning _ hD.1 hD.2.2.1 (by omega)).mono ?_
              rintro e6 u6 w6 ⟨rfl, rfl, rfl⟩
              have z0 := cell_at (o := 0) hD.2.1 _ rfl; have z1 := cell_at (o := 1) hD.2.1 _ rfl; have z2 := cell_at (o := 2) hD.2.1 _ rfl
              have hkm := HKM.out
              subst hkm
              exact ⟨_, by simp [results, Tryd.results69, go_sem, z0, z1, z2], not_close hD hX (by omega) (by omega) (by simp [Ex.leaves]) (spec_none _ HS1.out HSK4.out HNA.out HNB.out HE.out)⟩
            · have hbm : ((k : Int) == (m4 : Int)) = false := by simp; omega
              go_wp2_with fail
              have HNZ := Lib.hid (HNS.out.drewN (nqa + nq))
              obtain ⟨wz, hwz⟩ : ∃ wz, wz = wr.drewN (nqa + nq) := ⟨_, rfl⟩
              rw [← hwz] at HNZ
              rw [← hwz]
              have b0 := cell_at (o := 0) HNZ.out.2.1 (.int .i64 0) rfl
              have b1 := cell_at (o := 1) HNZ.out.2.1 (.string { data := #[] }) rfl
              have b2 := cell_at (o := 2) HNZ.out.2.1 (.slice none 0 0) rfl
              have bf := free_at HNZ.out.2.1
              clear hbox q0 q1 f1 HNS hbm hwz
              have hbox := HNZ.out.box
              have q0 := HNZ.out.2.2.1.c0
              have q1 := HNZ.out.2.2.1.c1
              have hm40 : (0 : Int) ≤ (m4 : Int) := by omega
              have hm4k : (m4 : Int) ≤ (k : Int) := by omega
              have hkk : (k : Int) ≤ (s.size : Int) := by omega
              have hslm : ∀ wx, (Instr.slice 9 (.string s) (some (.int .i64 (m4 : Int))) (some (.int .i64 (k : Int))) none).run Tryd.prog wx = .ok (.string (s.extract m4 k)) wx := fun wx =>
                run_slice_string (P := Tryd.prog) wx 9 s .i64 .i64 (m4 : Int) (k : Int) Tryd.underlying9 (by omega) (by omega) (by omega)
              have hne1 : ¬ br = w.heap.size + 1 := by omega
              have hne2 : ¬ w.heap.size + 1 = br := by omega
              have hne3 : ¬ w.heap.size = w.heap.size + 1 := by omega
              have hne4 : ¬ w.heap.size + 1 = w.heap.size := by omega
              go_region_held3 (fun w' => w'.cell? ⟨w.heap.size, 0, none⟩ = some (.pointer (some ⟨br, 0, none⟩)) ∧ w'.cell? ⟨br, 0, none⟩ = some (.string s) ∧ w'.cell? ⟨br, 1, none⟩ = some (.int .i64 (k : Int))) (go_keep) ((fail))
              all_goals
                go_wp2_with fail
                obtain ⟨W0, hW0⟩ : ∃ W, W = (((((wz.setCell ⟨w.heap.size + 1, 0, none⟩ (.int .i64 0)).setCell ⟨w.heap.size + 1, 1, none⟩ (.string { data := #[] })).setCell ⟨w.heap.size + 1, 2, none⟩ (.slice none 0 0)).setCell ⟨w.heap.size + 1, 0, none⟩ (.int .i64 1)).setCell ⟨w.heap.size + 1, 1, none⟩ (.string (s.extract m4 k))) := ⟨_, rfl⟩
                rw [← hW0]
                obtain ⟨hD0, -⟩ := tag_made (s.extract m4 k) (by rw [ByteArray.size_extract]; omega) HNZ.out hW0
                have hD := hD0.drew
                have hX : XIs (fun b => w.heap.size + 2 ≤ b) W0.drew (.tag (s.extract m4 k)) (.int .i64 1) (.string (s.extract m4 k)) (.slice none 0 0) := ⟨rfl, rfl, by rw [ByteArray.size_extract]; omega, none, 0, rfl⟩
                refine leaves_cons (f := 88) (args := #[.pointer (some ⟨w.heap.size, 0, none⟩)]) (by simp) (by simp [go_sem]) ?_
                refine (down_any w.heap.size br s k (d + 1) _ .returning _ hD.1 hD.2.2.1 (by omega)).mono ?_
                rintro e6 u6 w6 ⟨rfl, rfl, rfl⟩
                have z0 := cell_at (o := 0) hD0.2.1 _ rfl; have z1 := cell_at (o := 1) hD0.2.1 _ rfl; have z2 := cell_at (o := 2) hD0.2.1 _ rfl
                exact ⟨_, by simp [results, Tryd.results69, go_sem, z0, z1, z2], not_close hD hX (by omega) (by omega) (by simp [Ex.leaves]) (spec_tag HS1.out HSK4.out HT.out HE.out (by omega))⟩
end Go.Proofs.YteemenhinhkonaaDoor
