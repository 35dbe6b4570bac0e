/- impl.plain: an expression of the package as data. -/
import Derived.Test.YteemenhinhkonaaDoorProg
import Derived.Test.YteemenhinhkonaaDoorStr
namespace Go.Proofs.YteemenhinhkonaaDoor
open Go.RowKit

def PlPost (x : Ex) (w : World) (en : Ending) (w' : World) : Prop := ∃ c0 c1 c2, en = .returned (.agg #[c0, c1, c2]) ∧ XIs (fun b => w.heap.size ≤ b) w' x c0 c1 c2 ∧ Below w.heap.size w w'
def zeroE : Obj := .cells #[.int .i64 0, .string { data := #[] }, .slice none 0 0] 29 (0, 0)

theorem pl_zero {w wa w1 : World} (hwa : wa = w.alloc zeroE) (hb1 : Below wa.heap.size wa w1) : w1.heap[w.heap.size]? = some zeroE ∧ w.heap.size + 1 ≤ w1.heap.size ∧ Below w.heap.size w w1 := by
  have hsz : wa.heap.size = w.heap.size + 1 := by rw [hwa]; simp
  have hca : wa.heap[w.heap.size]? = some zeroE := by rw [hwa]; exact heap_new _ _ rfl
  refine ⟨(hb1.block _ (lt_of_heap hca)).trans hca, by have := hb1.size; omega, ?_⟩
  have hba : Below w.heap.size w wa := by rw [hwa]; exact (Below.refl _ _).alloc (Nat.le_refl _) _
  exact hba.trans (hb1.mono hba.size)
theorem drew_x {w wa w1 : World} {x : Ex} {c0 c1 c2 : Value} (h : wa = w.alloc zeroE) (hx : XIs (fun b => wa.drew.heap.size ≤ b) w1 x c0 c1 c2) : XIs (fun b => w.heap.size + 1 ≤ b) w1 x c0 c1 c2 := by
  have e : wa.drew.heap.size = w.heap.size + 1 := by rw [h]; show (w.heap.push _).size = _; simp
  rw [e] at hx
  exact hx
theorem pl_end1 {x : Ex} {w w1 W : World} {c0 c1 c2 : Value} (hz : w1.heap[w.heap.size]? = some zeroE) (hb : Below w.heap.size w w1) (hx : XIs (fun b => w.heap.size + 1 ≤ b) w1 x c0 c1 c2)
    (hW : W = (((w1.alloc (.cells #[c0, c1, c2] 29)).setCell ⟨w.heap.size, 0, none⟩ (.int .i64 2)).setCell ⟨w.heap.size, 1, none⟩ (.string { data := #[] })).setCell ⟨w.heap.size, 2, none⟩ (.slice (some ⟨w1.heap.size, 0, none⟩) 1 1)) :
    W.heap[w.heap.size]? = some (.cells #[.int .i64 2, .string { data := #[] }, .slice (some ⟨w1.heap.size, 0, none⟩) 1 1] 29 (0, 0)) ∧ XIs (fun b => w.heap.size ≤ b) W (.not x) (.int .i64 2) (.string { data := #[] }) (.slice (some ⟨w1.heap.size, 0, none⟩) 1 1) ∧ Below w.heap.size w W := by
  have hlt := lt_of_heap hz
  have hza : (w1.alloc (.cells #[c0, c1, c2] 29)).heap[w.heap.size]? = some zeroE := (Below.heap_alloc _ _ _ hlt).trans hz
  unfold zeroE at hza
  have keep : ∀ b, b ≠ w.heap.size → W.heap[b]? = (w1.alloc (.cells #[c0, c1, c2] 29)).heap[b]? := fun b hb => by
    rw [hW, Below.heap_setCell _ _ _ b hb, Below.heap_setCell _ _ _ b hb, Below.heap_setCell _ _ _ b hb]
  have hnew : W.heap[w1.heap.size]? = some (.cells #[c0, c1, c2] 29 (0, 0)) := (keep _ (by omega)).trans (heap_new _ _ rfl)
  refine ⟨by rw [hW, heap_set _ (heap_set _ (heap_set _ hza _) _) _]; rfl, ⟨rfl, ⟨_, rfl, Nat.zero_le _⟩, w1.heap.size, 0, 1, c0, c1, c2, rfl, by omega, cell_at hnew _ rfl, cell_at hnew _ rfl, cell_at hnew _ rfl, ?_⟩, ?_⟩
  · exact XIs.move (fun b hb hlt => ⟨by omega, (keep b (by omega)).trans (Below.heap_alloc _ _ _ hlt)⟩) hx
  · rw [hW]
    exact (((hb.alloc hb.size _).setCell (p := ⟨w.heap.size, 0, none⟩) (Nat.le_refl _) _).setCell (p := ⟨w.heap.size, 1, none⟩) (Nat.le_refl _) _).setCell (p := ⟨w.heap.size, 2, none⟩) (Nat.le_refl _) _
theorem pl_end2 {x y z : Ex} {kd : Int} {w w1 w2 W : World} {c0 c1 c2 d0 d1 d2 : Value} (hk : (z = .and x y ∧ kd = 3) ∨ (z = .or x y ∧ kd = 4)) (hz : w2.heap[w.heap.size]? = some zeroE) (hb : Below w.heap.size w w2) (hx : XIs (fun b => w.heap.size + 1 ≤ b) w1 x c0 c1 c2) (h12 : Below w1.heap.size w1 w2) (hs1 : w.heap.size + 1 ≤ w1.heap.size) (hy : XIs (fun b => w1.heap.size ≤ b) w2 y d0 d1 d2)
    (hW : W = (((w2.alloc (.cells #[c0, c1, c2, d0, d1, d2] 29)).setCell ⟨w.heap.size, 0, none⟩ (.int .i64 kd)).setCell ⟨w.heap.size, 1, none⟩ (.string { data := #[] })).setCell ⟨w.heap.size, 2, none⟩ (.slice (some ⟨w2.heap.size, 0, none⟩) 2 2)) :
    W.heap[w.heap.size]? = some (.cells #[.int .i64 kd, .string { data := #[] }, .slice (some ⟨w2.heap.size, 0, none⟩) 2 2] 29 (0, 0)) ∧ XIs (fun b => w.heap.size ≤ b) W z (.int .i64 kd) (.string { data := #[] }) (.slice (some ⟨w2.heap.size, 0, none⟩) 2 2) ∧ Below w.heap.size w W := by
  have hlt := lt_of_heap hz
  have hs2 := h12.size
  have hza : (w2.alloc (.cells #[c0, c1, c2, d0, d1, d2] 29)).heap[w.heap.size]? = some zeroE := (Below.heap_alloc _ _ _ hlt).trans hz
  unfold zeroE at hza
  have keep : ∀ b, b ≠ w.heap.size → W.heap[b]? = (w2.alloc (.cells #[c0, c1, c2, d0, d1, d2] 29)).heap[b]? := fun b hb => by
    rw [hW, Below.heap_setCell _ _ _ b hb, Below.heap_setCell _ _ _ b hb, Below.heap_setCell _ _ _ b hb]
  have hnew : W.heap[w2.heap.size]? = some (.cells #[c0, c1, c2, d0, d1, d2] 29 (0, 0)) := (keep _ (by omega)).trans (heap_new _ _ rfl)
  have hX : XIs (fun b => w.heap.size ≤ b) W x c0 c1 c2 := XIs.move (fun b hb hlt => ⟨by omega, ((keep b (by omega)).trans (Below.heap_alloc _ _ _ (by omega))).trans (h12.block b hlt)⟩) hx
  have hY : XIs (fun b => w.heap.size ≤ b) W y d0 d1 d2 := XIs.move (fun b hb hlt => ⟨by omega, (keep b (by omega)).trans (Below.heap_alloc _ _ _ hlt)⟩) hy
  refine ⟨by rw [hW, heap_set _ (heap_set _ (heap_set _ hza _) _) _]; rfl, ?_, ?_⟩
  · rcases hk with ⟨rfl, rfl⟩ | ⟨rfl, rfl⟩
    · exact ⟨rfl, ⟨_, rfl, Nat.zero_le _⟩, w2.heap.size, 0, 2, c0, c1, c2, d0, d1, d2, rfl, by omega, cell_at hnew _ rfl, cell_at hnew _ rfl, cell_at hnew _ rfl, cell_at hnew _ rfl, cell_at hnew _ rfl, cell_at hnew _ rfl, hX, hY⟩
    · exact ⟨rfl, ⟨_, rfl, Nat.zero_le _⟩, w2.heap.size, 0, 2, c0, c1, c2, d0, d1, d2, rfl, by omega, cell_at hnew _ rfl, cell_at hnew _ rfl, cell_at hnew _ rfl, cell_at hnew _ rfl, cell_at hnew _ rfl, cell_at hnew _ rfl, hX, hY⟩
  · rw [hW]
    exact (((hb.alloc hb.size _).setCell (p := ⟨w.heap.size, 0, none⟩) (Nat.le_refl _) _).setCell (p := ⟨w.heap.size, 1, none⟩) (Nat.le_refl _) _).setCell (p := ⟨w.heap.size, 2, none⟩) (Nat.le_refl _) _

set_option maxHeartbeats 4000000 in
theorem plain_any (x : Ex) : ∀ (v : Value) (w : World), CIs w x v → Calls Tryd.prog 45 #[v] w (PlPost x w) := by
  induction x with
  | tag t =>
    intro v w h
    obtain ⟨b, rfl, hh, ht⟩ := h
    have q0 := cell_at (o := 0) hh (.string t) rfl
    have k0 := cellsA q0
    have t2 := fun w => (ta_no (.tag t) b w).2.1 rfl
    have t3 := fun w => (ta_no (.tag t) b w).2.2.1 rfl
    have t4 := fun w => (ta_no (.tag t) b w).2.2.2 rfl
    have t1 := fun w => ta_yes (.tag t) b w
    simp only [Ex.ptr] at t1 t2 t3 t4
    clear hh
    go_enter Tryd.func45, Tryd.ntmps45
    go_wp2_with fail
    refine bodyPost_ret (v := .agg #[.int .i64 1, .string t, .slice none 0 0]) (by simp [results, Tryd.results45, go_sem]) rfl ⟨_, _, _, rfl, ⟨rfl, rfl, ht, none, 0, rfl⟩, ?_⟩
    exact (Below.refl _ _).alloc (Nat.le_refl _) _
  | not x ih =>
    intro v w h
    obtain ⟨b, vx, rfl, hh, hx⟩ := h
    obtain ⟨bx, rfl⟩ := hx.form
    have q0 := cell_at (o := 0) hh (.iface x.ptr (.pointer (some ⟨bx, 0, none⟩))) rfl
    have k0 := cellsA q0
    have t2 := fun w => ta_yes (.not x) b w
    simp only [Ex.ptr] at t2
    have HX := Lib.hid hx
    have IH := Lib.hid ih
    clear hh hx ih
    go_enter Tryd.func45, Tryd.ntmps45
    go_wp2_with fail
    obtain ⟨wa, hwa⟩ : ∃ wa, wa = w.alloc zeroE := ⟨_, rfl⟩
    have hwa' := hwa
    unfold zeroE at hwa'
    rw [← hwa']
    have hba : Below w.heap.size w wa := by rw [hwa]; exact (Below.refl _ _).alloc (Nat.le_refl _) _
    have hsz : wa.heap.size = w.heap.size + 1 := by rw [hwa]; simp
    refine (IH.out _ _ (HX.out.below hba)).mono ?_
    rintro e1 w1 ⟨c0, c1, c2, rfl, hx1, hb1⟩
    obtain ⟨hz1, hs1, hw1⟩ := pl_zero hwa hb1
    obtain ⟨s1, a1, cp1, rfl, rfl, rfl, -⟩ := hx1.form
    have HX1 : Hid (XIs (fun b => w.heap.size + 1 ≤ b) w1 x (.int .i64 x.kind) (.string s1) (.slice a1 x.arity cp1)) := Lib.hid (by rw [hsz] at hx1; exact hx1)
    have HZ1 := Lib.hid hz1
    have HW1 := Lib.hid hw1
    have u0 := cell_at (o := 0) hz1 (.int .i64 0) rfl
    have u1 := cell_at (o := 1) hz1 (.string { data := #[] }) rfl
    have u2 := cell_at (o := 2) hz1 (.slice none 0 0) rfl
    have ua0 := cellsA u0
    have ua1 := cellsA u1
    have ua2 := cellsA u2
    have fza : ∀ (o : Obj) (q : Nat), (w1.alloc o).frozen? ⟨w.heap.size, q, none⟩ = false := fun o q => (frozen_old_alloc w1 o (lt_of_heap hz1)).trans (free_at hz1 q)
    have hne : ¬ w1.heap.size = w.heap.size := by omega
    have hne2 : ¬ w.heap.size = w1.heap.size := by omega
    clear hwa hwa' hba hsz hb1 hz1 hw1 hx1
    go_wp2_with fail
    obtain ⟨W, hW⟩ : ∃ W, W = (((w1.alloc (.cells #[.int .i64 x.kind, .string s1, .slice a1 x.arity cp1] 29)).setCell ⟨w.heap.size, 0, none⟩ (.int .i64 2)).setCell ⟨w.heap.size, 1, none⟩ (.string { data := #[] })).setCell ⟨w.heap.size, 2, none⟩ (.slice (some ⟨w1.heap.size, 0, none⟩) 1 1) := ⟨_, rfl⟩
    obtain ⟨hc, hX, hB⟩ := pl_end1 HZ1.out HW1.out HX1.out hW
    have r0 := cell_at (o := 0) hc (.int .i64 2) rfl
    have r1 := cell_at (o := 1) hc (.string { data := #[] }) rfl
    have r2 := cell_at (o := 2) hc (.slice (some ⟨w1.heap.size, 0, none⟩) 1 1) rfl
    rw [← hW]
    clear hW
    exact bodyPost_ret (v := .agg #[.int .i64 2, .string { data := #[] }, .slice (some ⟨w1.heap.size, 0, none⟩) 1 1]) (by simp [results, Tryd.results45, go_sem, r0, r1, r2]) rfl ⟨_, _, _, rfl, hX, hB⟩
  | and x y ihx ihy =>
    intro v w h
    obtain ⟨b, vx, vy, rfl, hh, hx, hy⟩ := h
    obtain ⟨bx, rfl⟩ := hx.form
    obtain ⟨by_, rfl⟩ := hy.form
    have t2 := fun w => (ta_no (.and x y) b w).2.1 rfl
    have t3 := fun w => ta_yes (.and x y) b w
    simp only [Ex.ptr] at t2 t3
    have HX := Lib.hid hx
    have HY := Lib.hid hy
    have IHX := Lib.hid ihx
    have IHY := Lib.hid ihy
    have HH := Lib.hid hh
    have lb := lt_of_heap hh
    clear hh hx hy ihx ihy
    go_enter Tryd.func45, Tryd.ntmps45
    go_wp2_with fail
    obtain ⟨wa, hwa⟩ : ∃ wa, wa = w.alloc zeroE := ⟨_, rfl⟩
    have hwa' := hwa
    unfold zeroE at hwa'
    rw [← hwa']
    have HWA := Lib.hid hwa
    have hba : Below w.heap.size w wa := by rw [hwa]; exact (Below.refl _ _).alloc (Nat.le_refl _) _
    have HBA := Lib.hid hba
    have hha := (hba.block b lb).trans HH.out
    have lba := lt_of_heap hha
    have q0 := cell_at (o := 0) hha (.iface x.ptr (.pointer (some ⟨bx, 0, none⟩))) rfl
    have q1 := cell_at (o := 1) hha (.iface y.ptr (.pointer (some ⟨by_, 0, none⟩))) rfl
    have hd : Below wa.heap.size wa wa.drew := (Below.refl _ _).drew
    have HD := Lib.hid hd
    clear hwa hwa' hba hha hd
    go_region_law (first | (go_simp; go_at_call_of 45 bx; (with_reducible refine (IHX.out _ _ (by exact (HX.out.below HBA.out).below HD.out)).mono ?_); rintro e1 w1 ⟨c0, c1, c2, rfl, hx1, hb1⟩; obtain ⟨s1, a1, cp1, rfl, rfl, rfl, -⟩ := hx1.form; have r1 : w1.cell? ⟨b, 1, none⟩ = some (.iface y.ptr (.pointer (some ⟨by_, 0, none⟩))) := (hb1.cell lba).trans q1; have HB1 := Lib.hid (HD.out.trans (hb1.mono HD.out.size)); have HX1 := Lib.hid hx1; clear hb1 hx1) | (go_simp; go_at_call_of 45 by_; (with_reducible refine (IHY.out _ _ (by exact ((HY.out.below HBA.out).below HB1.out))).mono ?_); rintro e2 w2 ⟨d0, d1, d2, rfl, hy2, hb2⟩; obtain ⟨s2, a2, cp2, rfl, rfl, rfl, -⟩ := hy2.form; have HB12 := Lib.hid hb2; have HB2 := Lib.hid (HB1.out.trans (hb2.mono HB1.out.size)); have HY2 := Lib.hid hy2; obtain ⟨hz2, hs2, hw2⟩ := pl_zero HWA.out HB2.out; have HZ2 := Lib.hid hz2; have HW2 := Lib.hid hw2; have u0 := cell_at (o := 0) hz2 (.int .i64 0) rfl; have u1 := cell_at (o := 1) hz2 (.string { data := #[] }) rfl; have u2 := cell_at (o := 2) hz2 (.slice none 0 0) rfl; have ua0 := cellsA u0; have ua1 := cellsA u1; have ua2 := cellsA u2; have fz := free_at hz2; have fza : ∀ (o : Obj) (q : Nat), (w2.alloc o).frozen? ⟨w.heap.size, q, none⟩ = false := fun o q => (frozen_old_alloc w2 o (lt_of_heap hz2)).trans (free_at hz2 q); clear hb2 hy2 hz2 hw2))
    all_goals go_wp2
    all_goals
      obtain ⟨W, hW⟩ : ∃ W, W = (((w2.alloc (.cells #[.int .i64 x.kind, .string s1, .slice a1 x.arity cp1, .int .i64 y.kind, .string s2, .slice a2 y.arity cp2] 29)).setCell ⟨w.heap.size, 0, none⟩ (.int .i64 3)).setCell ⟨w.heap.size, 1, none⟩ (.string { data := #[] })).setCell ⟨w.heap.size, 2, none⟩ (.slice (some ⟨w2.heap.size, 0, none⟩) 2 2) := ⟨_, rfl⟩
      obtain ⟨hc, hX, hB⟩ := pl_end2 (z := .and x y) (kd := 3) (Or.inl ⟨rfl, rfl⟩) HZ2.out HW2.out (drew_x HWA.out HX1.out) HB12.out (pl_zero HWA.out HB1.out).2.1 HY2.out hW
      have r0 := cell_at (o := 0) hc (.int .i64 3) rfl
      have r1 := cell_at (o := 1) hc (.string { data := #[] }) rfl
      have r2 := cell_at (o := 2) hc (.slice (some ⟨w2.heap.size, 0, none⟩) 2 2) rfl
      rw [← hW]
      clear hW
      exact bodyPost_ret (v := .agg #[.int .i64 3, .string { data := #[] }, .slice (some ⟨w2.heap.size, 0, none⟩) 2 2]) (by simp [results, Tryd.results45, go_sem, r0, r1, r2]) rfl ⟨_, _, _, rfl, hX, hB⟩
  | or x y ihx ihy =>
    intro v w h
    obtain ⟨b, vx, vy, rfl, hh, hx, hy⟩ := h
    obtain ⟨bx, rfl⟩ := hx.form
    obtain ⟨by_, rfl⟩ := hy.form
    have t2 := fun w => (ta_no (.or x y) b w).2.1 rfl
    have t3 := fun w => (ta_no (.or x y) b w).2.2.1 rfl
    have t4 := fun w => ta_yes (.or x y) b w
    simp only [Ex.ptr] at t2 t3 t4
    have HX := Lib.hid hx
    have HY := Lib.hid hy
    have IHX := Lib.hid ihx
    have IHY := Lib.hid ihy
    have HH := Lib.hid hh
    have lb := lt_of_heap hh
    clear hh hx hy ihx ihy
    go_enter Tryd.func45, Tryd.ntmps45
    go_wp2_with fail
    obtain ⟨wa, hwa⟩ : ∃ wa, wa = w.alloc zeroE := ⟨_, rfl⟩
    have hwa' := hwa
    unfold zeroE at hwa'
    rw [← hwa']
    have HWA := Lib.hid hwa
    have hba : Below w.heap.size w wa := by rw [hwa]; exact (Below.refl _ _).alloc (Nat.le_refl _) _
    have HBA := Lib.hid hba
    have hha := (hba.block b lb).trans HH.out
    have lba := lt_of_heap hha
    have q0 := cell_at (o := 0) hha (.iface x.ptr (.pointer (some ⟨bx, 0, none⟩))) rfl
    have q1 := cell_at (o := 1) hha (.iface y.ptr (.pointer (some ⟨by_, 0, none⟩))) rfl
    have hd : Below wa.heap.size wa wa.drew := (Below.refl _ _).drew
    have HD := Lib.hid hd
    clear hwa hwa' hba hha hd
    go_region_law (first | (go_simp; go_at_call_of 45 bx; (with_reducible refine (IHX.out _ _ (by exact (HX.out.below HBA.out).below HD.out)).mono ?_); rintro e1 w1 ⟨c0, c1, c2, rfl, hx1, hb1⟩; obtain ⟨s1, a1, cp1, rfl, rfl, rfl, -⟩ := hx1.form; have r1 : w1.cell? ⟨b, 1, none⟩ = some (.iface y.ptr (.pointer (some ⟨by_, 0, none⟩))) := (hb1.cell lba).trans q1; have HB1 := Lib.hid (HD.out.trans (hb1.mono HD.out.size)); have HX1 := Lib.hid hx1; clear hb1 hx1) | (go_simp; go_at_call_of 45 by_; (with_reducible refine (IHY.out _ _ (by exact ((HY.out.below HBA.out).below HB1.out))).mono ?_); rintro e2 w2 ⟨d0, d1, d2, rfl, hy2, hb2⟩; obtain ⟨s2, a2, cp2, rfl, rfl, rfl, -⟩ := hy2.form; have HB12 := Lib.hid hb2; have HB2 := Lib.hid (HB1.out.trans (hb2.mono HB1.out.size)); have HY2 := Lib.hid hy2; obtain ⟨hz2, hs2, hw2⟩ := pl_zero HWA.out HB2.out; have HZ2 := Lib.hid hz2; have HW2 := Lib.hid hw2; have u0 := cell_at (o := 0) hz2 (.int .i64 0) rfl; have u1 := cell_at (o := 1) hz2 (.string { data := #[] }) rfl; have u2 := cell_at (o := 2) hz2 (.slice none 0 0) rfl; have ua0 := cellsA u0; have ua1 := cellsA u1; have ua2 := cellsA u2; have fz := free_at hz2; have fza : ∀ (o : Obj) (q : Nat), (w2.alloc o).frozen? ⟨w.heap.size, q, none⟩ = false := fun o q => (frozen_old_alloc w2 o (lt_of_heap hz2)).trans (free_at hz2 q); clear hb2 hy2 hz2 hw2))
    all_goals go_wp2
    all_goals
      obtain ⟨W, hW⟩ : ∃ W, W = (((w2.alloc (.cells #[.int .i64 x.kind, .string s1, .slice a1 x.arity cp1, .int .i64 y.kind, .string s2, .slice a2 y.arity cp2] 29)).setCell ⟨w.heap.size, 0, none⟩ (.int .i64 4)).setCell ⟨w.heap.size, 1, none⟩ (.string { data := #[] })).setCell ⟨w.heap.size, 2, none⟩ (.slice (some ⟨w2.heap.size, 0, none⟩) 2 2) := ⟨_, rfl⟩
      obtain ⟨hc, hX, hB⟩ := pl_end2 (z := .or x y) (kd := 4) (Or.inr ⟨rfl, rfl⟩) HZ2.out HW2.out (drew_x HWA.out HX1.out) HB12.out (pl_zero HWA.out HB1.out).2.1 HY2.out hW
      have r0 := cell_at (o := 0) hc (.int .i64 4) rfl
      have r1 := cell_at (o := 1) hc (.string { data := #[] }) rfl
      have r2 := cell_at (o := 2) hc (.slice (some ⟨w2.heap.size, 0, none⟩) 2 2) rfl
      rw [← hW]
      clear hW
      exact bodyPost_ret (v := .agg #[.int .i64 4, .string { data := #[] }, .slice (some ⟨w2.heap.size, 0, none⟩) 2 2]) (by simp [results, Tryd.results45, go_sem, r0, r1, r2]) rfl ⟨_, _, _, rfl, hX, hB⟩
end Go.Proofs.YteemenhinhkonaaDoor
