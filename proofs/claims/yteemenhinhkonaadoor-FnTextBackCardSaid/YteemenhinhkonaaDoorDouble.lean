/- laws.double: whether a negation stands right within another one. -/
import Derived.Test.YteemenhinhkonaaDoorProg
import Derived.Test.YteemenhinhkonaaDoorLoop
import Derived.Test.YteemenhinhkonaaDoorText
namespace Go.Proofs.YteemenhinhkonaaDoor
open Go.RowKit

theorem dbl_subs (x : Ex) (h : x.kind ≠ 2) : x.dbl = x.subs.any Ex.dbl := by
  cases x with
  | tag t => rfl
  | not x => exact absurd rfl h
  | and x y => simp [Ex.dbl, Ex.subs]
  | or x y => simp [Ex.dbl, Ex.subs]
def DblRel (x : Ex) (w : World) (i : Value) (wr : World) : Prop := ∃ k : Nat, k ≤ x.subs.length ∧ i = .int .i64 k ∧ (x.subs.take k).any Ex.dbl = false ∧ Below w.heap.size w wr
theorem any_snoc {l : List Ex} {k : Nat} {y : Ex} (hy : l[k]? = some y) : (l.take (k + 1)).any Ex.dbl = ((l.take k).any Ex.dbl || y.dbl) := by
  rw [List.take_add_one, hy, List.any_append]
  simp

set_option maxHeartbeats 2000000 in
theorem double_any (x : Ex) : ∀ (c0 c1 c2 : Value) (w : World), XIs (fun _ => True) w x c0 c1 c2 → Calls Tryd.prog 16 #[.agg #[c0, c1, c2]] w (CallPost x.dbl w) := by
  induction x using Ex.ind with
  | h x ih =>
  intro c0 c1 c2 w h
  by_cases hk : x.kind = 1
  · obtain ⟨t, rfl⟩ := kind_tag hk
    obtain ⟨rfl, rfl, ht, a, cap, rfl⟩ := h
    clear ih hk
    go_enter Tryd.func16, Tryd.ntmps16
    go_wp2_with fail
    go_loopw [19] (fun i wr => i = .int .i64 0 ∧ Below w.heap.size w wr) (fun i _ => 0)
    case atStart => exact ⟨rfl, (Below.refl _ _).alloc (Nat.le_refl _) _⟩
    case round =>
      obtain ⟨rfl, hb⟩ := hrel
      have HB := Lib.hid hb
      clear hb
      go_wp2_with fail
      go_ret
      exact ⟨rfl, HB.out⟩
  · obtain ⟨s, b, off, cap, rfl, rfl, hs, rfl, -, hb0, hsub⟩ := h.parts hk
    have HS := Lib.hid hsub
    have IH := Lib.hid ih
    have hkr := kind_range x
    have hsl := subs_le x
    by_cases hk2 : x.kind = 2
    · obtain ⟨y, rfl⟩ : ∃ y, x = .not y := by
        cases x with
        | not y => exact ⟨y, rfl⟩
        | tag t => exact absurd hk2 (by simp [Ex.kind])
        | and a b => exact absurd hk2 (by simp [Ex.kind])
        | or a b => exact absurd hk2 (by simp [Ex.kind])
      obtain ⟨y0, y1, y2, g0, g1, g2, hx⟩ := HS.out 0 y rfl
      obtain ⟨sy, ay, cy, rfl, rfl, rfl, -⟩ := hx.form
      simp only [Nat.zero_mul, Nat.add_zero] at g0 g1 g2
      have g0a := cellsA g0
      have hn1 : (Ex.not y).subs.length = 1 := rfl
      have hn2 : (Ex.not y).kind = 2 := rfl
      have HX := Lib.hid hx
      clear hk hk2 hsub ih h hx
      by_cases hy2 : y.kind = 2
      · have hyb : (y.kind == 2) = true := by simp [hy2]
        have HD : Hid ((Ex.not y).dbl = true) := Lib.hid (by simp [Ex.dbl, hy2])
        clear hy2
        rw [hn1, hn2]
        go_enter Tryd.func16, Tryd.ntmps16
        go_wp2_with fail
        go_ret
        exact ⟨ret_bool HD.out.symm, (Below.refl _ _).alloc (Nat.le_refl _) _⟩
      · have hyb : (y.kind == 2) = false := by simp [hy2]
        have HD : Hid ((Ex.not y).dbl = (Ex.not y).subs.any Ex.dbl) := Lib.hid (by simp [Ex.dbl, hy2, Ex.subs])
        clear hy2
        rw [hn1, hn2]
        go_enter Tryd.func16, Tryd.ntmps16
        go_wp2_with fail
        go_loopw [19] (fun i wr => DblRel (.not y) w i wr) (fun i _ => 1 - (intOf i).toNat)
        case atStart => exact ⟨0, Nat.zero_le _, rfl, rfl, (Below.refl _ _).alloc (Nat.le_refl _) _⟩
        case round =>
          obtain ⟨k, hk, rfl, hno, hb⟩ := hrel
          have HB := Lib.hid hb
          have HNO := Lib.hid hno
          clear hb hno
          by_cases hlt : k < 1
          · obtain rfl : k = 0 := by omega
            have e0 := (HB.out.cell (p := ⟨b, off, none⟩) hb0).trans g0
            have e1 := (HB.out.cell (p := ⟨b, off + 1, none⟩) hb0).trans g1
            have e2 := (HB.out.cell (p := ⟨b, off + 2, none⟩) hb0).trans g2
            clear g0 g1 g2 g0a
            go_wp2_with fail
            refine (IH.out y (List.mem_of_getElem? (l := (Ex.not y).subs) (i := 0) rfl) _ _ _ _ (by exact HX.out.below (HB.out.alloc HB.out.size _))).mono ?_
            cases hd : y.dbl
            · rintro e1 w1 ⟨rfl, hb1⟩
              have HD1 := Lib.hid hd
              have HB1 := Lib.hid hb1
              clear hd hb1
              go_wp2_with fail
              exact ⟨⟨1, by simp [Ex.subs], by go_num, by simp [Ex.subs, HD1.out], (HB.out.alloc HB.out.size _).trans (HB1.out.mono (HB.out.alloc HB.out.size _).size)⟩, by simp [intOf]⟩
            · rintro e1 w1 ⟨rfl, hb1⟩
              have HD1 := Lib.hid hd
              have HB1 := Lib.hid hb1
              clear hd hb1
              go_wp2_with fail
              go_ret
              exact ⟨ret_bool (by rw [HD.out]; simp [Ex.subs, HD1.out]), (HB.out.alloc HB.out.size _).trans (HB1.out.mono (HB.out.alloc HB.out.size _).size)⟩
          · go_wp2_with fail
            go_ret
            exact ⟨ret_bool (by rw [HD.out, ← HNO.out, List.take_of_length_le (by omega)]), HB.out⟩
    · have hk2b : (x.kind == 2) = false := by simp [hk2]
      have HD := Lib.hid (dbl_subs x hk2)
      clear hk hk2 hsub ih h
      go_enter Tryd.func16, Tryd.ntmps16
      go_wp2_with fail
      go_loopw [19] (fun i wr => DblRel x w i wr) (fun i _ => x.subs.length - (intOf i).toNat)
      case atStart => exact ⟨0, Nat.zero_le _, rfl, rfl, (Below.refl _ _).alloc (Nat.le_refl _) _⟩
      case round =>
        obtain ⟨k, hk, rfl, hno, hb⟩ := hrel
        have HB := Lib.hid hb
        have HNO := Lib.hid hno
        clear hb hno
        by_cases hlt : k < x.subs.length
        · obtain ⟨y, hy⟩ : ∃ y, x.subs[k]? = some y := ⟨_, List.getElem?_eq_getElem hlt⟩
          obtain ⟨y0, y1, y2, g0, g1, g2, hx⟩ := HS.out k y hy
          rw [← HB.out.cell (p := ⟨_, _, none⟩) hb0] at g0 g1 g2
          obtain ⟨sy, ay, cy, rfl, rfl, rfl, -⟩ := hx.form
          have HY := Lib.hid hy
          have HX := Lib.hid hx
          clear hy hx
          go_wp2_with fail
          refine (IH.out y (List.mem_of_getElem? HY.out) _ _ _ _ (by exact HX.out.below (HB.out.alloc HB.out.size _))).mono ?_
          cases hd : y.dbl
          · rintro e1 w1 ⟨rfl, hb1⟩
            have HD1 := Lib.hid hd
            have HB1 := Lib.hid hb1
            clear hd hb1
            go_wp2_with fail
            exact ⟨⟨k + 1, hlt, by go_num, by rw [any_snoc HY.out, HNO.out, HD1.out]; rfl, (HB.out.alloc HB.out.size _).trans (HB1.out.mono (HB.out.alloc HB.out.size _).size)⟩, by simp [intOf]; omega⟩
          · rintro e1 w1 ⟨rfl, hb1⟩
            have HD1 := Lib.hid hd
            have HB1 := Lib.hid hb1
            clear hd hb1
            go_wp2_with fail
            go_ret
            exact ⟨ret_bool (by rw [HD.out]; exact (List.any_eq_true.2 ⟨y, List.mem_of_getElem? HY.out, HD1.out⟩).symm), (HB.out.alloc HB.out.size _).trans (HB1.out.mono (HB.out.alloc HB.out.size _).size)⟩
        · go_wp2_with fail
          go_ret
          exact ⟨ret_bool (by rw [HD.out, ← HNO.out, List.take_of_length_le (by omega)]), HB.out⟩
end Go.Proofs.YteemenhinhkonaaDoor
