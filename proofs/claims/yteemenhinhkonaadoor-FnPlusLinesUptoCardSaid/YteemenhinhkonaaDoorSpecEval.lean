/- The contract of the reference's Eval: it holds where the parts do. -/
import Derived.Test.YteemenhinhkonaaDoorProg
import Derived.Test.YteemenhinhkonaaDoorSpecTags
namespace Go.Proofs.YteemenhinhkonaaDoor
open Go.RowKit

theorem cellsA {w : World} {b o : Nat} {v : Value} (h : w.cell? ⟨b, o, none⟩ = some v) (x : Obj) : (w.alloc x).cell? ⟨b, o, none⟩ = some v := (cell_old_alloc w x (lt_of_cell h)).trans h

set_option maxHeartbeats 1000000 in
theorem specEval_any (x : Ex) : ∀ (c0 c1 c2 v : Value) (ss : List ByteArray) (w : World), XIs (fun _ => True) w x c0 c1 c2 → SS w v ss →
    Calls Tryd.prog 32 #[.agg #[c0, c1, c2], v] w fun en w' => en = .returned (.bool (x.eval (hasB ss))) ∧ Below w.heap.size w w' := by
  induction x with
  | tag t =>
    intro c0 c1 c2 v ss w h hv
    obtain ⟨rfl, rfl, ht, a, cap, rfl⟩ := h
    obtain ⟨av, cv, rfl, hlen, hc⟩ := hv
    have HV : Hid (SS w (.slice av ss.length cv) ss) := Lib.hid ⟨av, cv, rfl, hlen, hc⟩
    clear hc
    go_enter Tryd.func32, Tryd.ntmps32
    go_wp2_with (go_at_call 21; refine (has_any _ ss _ _ (by exact HV.out.below ((Below.refl _ _).alloc (Nat.le_refl _) _))).mono ?_; rintro e1 w1 ⟨rfl, rfl⟩)
    go_ret
    exact ⟨rfl, (Below.refl _ _).alloc (Nat.le_refl _) _⟩
  | not x ih =>
    intro c0 c1 c2 v ss w h hv
    obtain ⟨rfl, ⟨s, rfl, hs⟩, b, off, cap, x0, x1, x2, rfl, -, g0, g1, g2, hx⟩ := h
    obtain ⟨av, cv, rfl, hlen, hc⟩ := hv
    have HV : Hid (SS w (.slice av ss.length cv) ss) := Lib.hid ⟨av, cv, rfl, hlen, hc⟩
    have HX := Lib.hid hx
    have IH := Lib.hid ih
    clear hc hx ih
    have k0 := cellsA g0
    have k1 := cellsA g1
    have k2 := cellsA g2
    obtain ⟨sx, ax, cx, rfl, rfl, rfl, -⟩ := HX.out.form
    go_enter Tryd.func32, Tryd.ntmps32
    go_wp2_with (go_at_call 32; refine (IH.out _ _ _ _ ss _ (by exact HX.out.below ((Below.refl _ _).alloc (Nat.le_refl _) _)) (by exact HV.out.below ((Below.refl _ _).alloc (Nat.le_refl _) _))).mono ?_; rintro e1 w1 ⟨rfl, hb1⟩; have HB1 := Lib.hid hb1; clear hb1)
    go_ret
    exact ⟨rfl, ((Below.refl _ _).alloc (Nat.le_refl _) _).trans (HB1.out.mono (by simp))⟩
  | and x y ihx ihy =>
    intro c0 c1 c2 v ss w h hv
    obtain ⟨rfl, ⟨s, rfl, hs⟩, b, off, cap, x0, x1, x2, y0, y1, y2, rfl, -, g0, g1, g2, g3, g4, g5, hx, hy⟩ := h
    obtain ⟨av, cv, rfl, hlen, hc⟩ := hv
    have HV : Hid (SS w (.slice av ss.length cv) ss) := Lib.hid ⟨av, cv, rfl, hlen, hc⟩
    have HX := Lib.hid hx
    have HY := Lib.hid hy
    have IHX := Lib.hid ihx
    have IHY := Lib.hid ihy
    have G3 := Lib.hid g3
    have G4 := Lib.hid g4
    have G5 := Lib.hid g5
    have lb := lt_of_cell g0
    clear hc hx hy ihx ihy g3 g4 g5
    have k0 := cellsA g0
    have k1 := cellsA g1
    have k2 := cellsA g2
    obtain ⟨sx, ax, cx, rfl, rfl, rfl, -⟩ := HX.out.form
    obtain ⟨sy, ay, cy, rfl, rfl, rfl, -⟩ := HY.out.form
    cases hex : x.eval (hasB ss) with
    | false =>
      have HE := Lib.hid hex
      clear hex
      go_enter Tryd.func32, Tryd.ntmps32
      go_wp2_with fail
      refine (IHX.out _ _ _ _ ss _ (by exact HX.out.below ((Below.refl _ _).alloc (Nat.le_refl _) _)) (by exact HV.out.below ((Below.refl _ _).alloc (Nat.le_refl _) _))).mono ?_
      rw [HE.out]
      rintro e1 w1 ⟨rfl, hb1⟩
      have HB1 := Lib.hid hb1
      clear hb1
      go_wp2_with fail
      go_ret
      exact ⟨ret_bool (by rw [Ex.eval, HE.out]; rfl), ((Below.refl _ _).alloc (Nat.le_refl _) _).trans (HB1.out.mono (by simp))⟩
    | true =>
      have HE := Lib.hid hex
      clear hex
      go_enter Tryd.func32, Tryd.ntmps32
      go_wp2_with fail
      refine (IHX.out _ _ _ _ ss _ (by exact HX.out.below ((Below.refl _ _).alloc (Nat.le_refl _) _)) (by exact HV.out.below ((Below.refl _ _).alloc (Nat.le_refl _) _))).mono ?_
      rw [HE.out]
      rintro e1 w1 ⟨rfl, hb1⟩
      have q2 : w1.cell? ⟨w.heap.size, 2, none⟩ = some (.slice (some ⟨b, off, none⟩) 2 cap) := (hb1.cell (by simp)).trans (by simp [go_sem])
      have q3 : w1.cell? ⟨b, off + 3, none⟩ = some (.int .i64 y.kind) := (hb1.cell (by simp; omega)).trans (cellsA G3.out _)
      have q4 : w1.cell? ⟨b, off + 3 + 1, none⟩ = some (.string sy) := (hb1.cell (by simp; omega)).trans (cellsA G4.out _)
      have q5 : w1.cell? ⟨b, off + 3 + 2, none⟩ = some (.slice ay y.arity cy) := (hb1.cell (by simp; omega)).trans (cellsA G5.out _)
      have hb0 : Below w.heap.size w w1 := ((Below.refl _ _).alloc (Nat.le_refl _) _).trans (hb1.mono (by simp))
      have HB := Lib.hid hb0
      clear hb1 hb0
      go_wp2_with fail
      refine (IHY.out _ _ _ _ ss _ (by exact HY.out.below HB.out) (by exact HV.out.below HB.out)).mono ?_
      rintro e2 w2 ⟨rfl, hb2⟩
      have HB2 := Lib.hid hb2
      clear hb2
      go_wp2_with fail
      go_ret
      exact ⟨ret_bool (by rw [Ex.eval, HE.out]; rfl), HB.out.trans (HB2.out.mono HB.out.size)⟩
  | or x y ihx ihy =>
    intro c0 c1 c2 v ss w h hv
    obtain ⟨rfl, ⟨s, rfl, hs⟩, b, off, cap, x0, x1, x2, y0, y1, y2, rfl, -, g0, g1, g2, g3, g4, g5, hx, hy⟩ := h
    obtain ⟨av, cv, rfl, hlen, hc⟩ := hv
    have HV : Hid (SS w (.slice av ss.length cv) ss) := Lib.hid ⟨av, cv, rfl, hlen, hc⟩
    have HX := Lib.hid hx
    have HY := Lib.hid hy
    have IHX := Lib.hid ihx
    have IHY := Lib.hid ihy
    have G3 := Lib.hid g3
    have G4 := Lib.hid g4
    have G5 := Lib.hid g5
    have lb := lt_of_cell g0
    clear hc hx hy ihx ihy g3 g4 g5
    have k0 := cellsA g0
    have k1 := cellsA g1
    have k2 := cellsA g2
    obtain ⟨sx, ax, cx, rfl, rfl, rfl, -⟩ := HX.out.form
    obtain ⟨sy, ay, cy, rfl, rfl, rfl, -⟩ := HY.out.form
    cases hex : x.eval (hasB ss) with
    | true =>
      have HE := Lib.hid hex
      clear hex
      go_enter Tryd.func32, Tryd.ntmps32
      go_wp2_with fail
      refine (IHX.out _ _ _ _ ss _ (by exact HX.out.below ((Below.refl _ _).alloc (Nat.le_refl _) _)) (by exact HV.out.below ((Below.refl _ _).alloc (Nat.le_refl _) _))).mono ?_
      rw [HE.out]
      rintro e1 w1 ⟨rfl, hb1⟩
      have HB1 := Lib.hid hb1
      clear hb1
      go_wp2_with fail
      go_ret
      exact ⟨ret_bool (by rw [Ex.eval, HE.out]; rfl), ((Below.refl _ _).alloc (Nat.le_refl _) _).trans (HB1.out.mono (by simp))⟩
    | false =>
      have HE := Lib.hid hex
      clear hex
      go_enter Tryd.func32, Tryd.ntmps32
      go_wp2_with fail
      refine (IHX.out _ _ _ _ ss _ (by exact HX.out.below ((Below.refl _ _).alloc (Nat.le_refl _) _)) (by exact HV.out.below ((Below.refl _ _).alloc (Nat.le_refl _) _))).mono ?_
      rw [HE.out]
      rintro e1 w1 ⟨rfl, hb1⟩
      have q2 : w1.cell? ⟨w.heap.size, 2, none⟩ = some (.slice (some ⟨b, off, none⟩) 2 cap) := (hb1.cell (by simp)).trans (by simp [go_sem])
      have q3 : w1.cell? ⟨b, off + 3, none⟩ = some (.int .i64 y.kind) := (hb1.cell (by simp; omega)).trans (cellsA G3.out _)
      have q4 : w1.cell? ⟨b, off + 3 + 1, none⟩ = some (.string sy) := (hb1.cell (by simp; omega)).trans (cellsA G4.out _)
      have q5 : w1.cell? ⟨b, off + 3 + 2, none⟩ = some (.slice ay y.arity cy) := (hb1.cell (by simp; omega)).trans (cellsA G5.out _)
      have hb0 : Below w.heap.size w w1 := ((Below.refl _ _).alloc (Nat.le_refl _) _).trans (hb1.mono (by simp))
      have HB := Lib.hid hb0
      clear hb1 hb0
      go_wp2_with fail
      refine (IHY.out _ _ _ _ ss _ (by exact HY.out.below HB.out) (by exact HV.out.below HB.out)).mono ?_
      rintro e2 w2 ⟨rfl, hb2⟩
      have HB2 := Lib.hid hb2
      clear hb2
      go_wp2_with fail
      go_ret
      exact ⟨ret_bool (by rw [Ex.eval, HE.out]; rfl), HB.out.trans (HB2.out.mono HB.out.size)⟩
end Go.Proofs.YteemenhinhkonaaDoor
