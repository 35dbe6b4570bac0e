/- The reference's Alike: two expressions of one value under every choice are alike. -/
import Derived.Test.YteemenhinhkonaaDoorProg
import Derived.Test.YteemenhinhkonaaDoorLoop
namespace Go.Proofs.YteemenhinhkonaaDoor
open Go.RowKit

theorem choices_small (ts : List ByteArray) (h8 : ts.length ≤ 8) : (choices ts).length ≤ 256 ∧ ∀ c ∈ choices ts, c.length ≤ 8 := by
  constructor
  · have h1 := choices_length ts ts.length (Nat.le_refl _)
    rw [List.take_of_length_le (Nat.le_refl _)] at h1
    rw [h1]
    exact Nat.le_trans (Nat.pow_le_pow_right (by omega) h8) (by decide)
  · intro c hc
    have := choices_mem ts ts.length (Nat.le_refl _) c (by rw [List.take_of_length_le (Nat.le_refl _)]; exact hc)
    omega
theorem choices_few (ts : List ByteArray) : (if ts.length ≤ 8 then choices ts else []).length ≤ 256 ∧ ∀ c ∈ (if ts.length ≤ 8 then choices ts else []), c.length ≤ 8 := by
  split
  · rename_i h
    exact choices_small ts h
  · exact ⟨by simp, fun c hc => by cases hc⟩

set_option maxHeartbeats 2000000 in
set_option maxRecDepth 100000 in
theorem alike_any (x y : Ex) (x0 x1 x2 y0 y1 y2 : Value) (w : World) (hx : XIs (fun _ => True) w x x0 x1 x2) (hy : XIs (fun _ => True) w y y0 y1 y2) (hl : x.leaves + y.leaves ≤ 1000000000) (he : ∀ f, x.eval f = y.eval f) :
    Calls Tryd.prog 19 #[.agg #[x0, x1, x2], .agg #[y0, y1, y2]] w (CallPost true w) := by
  obtain ⟨sx, ax, cx, rfl, rfl, rfl, -⟩ := hx.form
  obtain ⟨sy, ay, cy, rfl, rfl, rfl, -⟩ := hy.form
  have HX := Lib.hid hx
  have HY := Lib.hid hy
  have HE := Lib.hid he
  clear hx hy he
  go_enter Tryd.func19, Tryd.ntmps19
  go_wp2_with fail
  obtain ⟨wa, hwa⟩ : ∃ wa, wa = ((w.alloc (.cells #[.int .i64 x.kind, .string sx, .slice ax x.arity cx] 24)).alloc (.cells #[.int .i64 y.kind, .string sy, .slice ay y.arity cy] 24)).alloc (.cells #[.int .i64 x.kind, .string sx, .slice ax x.arity cx, .int .i64 y.kind, .string sy, .slice ay y.arity cy] 24) := ⟨_, rfl⟩
  rw [← hwa]
  have bwa : Below w.heap.size w wa := by rw [hwa]; exact (((Below.refl _ _).alloc (Nat.le_refl _) _).alloc (by simp) _).alloc (by simp; omega) _
  have swa : wa.heap.size = w.heap.size + 3 := by rw [hwa]; simp
  have hb0 : wa.heap[w.heap.size]? = some (.cells #[.int .i64 x.kind, .string sx, .slice ax x.arity cx] 24 (0, 0)) := by
    rw [hwa, Below.heap_alloc _ _ _ (by simp; omega), Below.heap_alloc _ _ _ (by simp)]; exact heap_new _ _ rfl
  have hb1 : wa.heap[w.heap.size + 1]? = some (.cells #[.int .i64 y.kind, .string sy, .slice ay y.arity cy] 24 (0, 0)) := by
    rw [hwa, Below.heap_alloc _ _ _ (by simp)]; exact heap_new _ _ (by simp)
  have hb2 : wa.heap[w.heap.size + 2]? = some (.cells #[.int .i64 x.kind, .string sx, .slice ax x.arity cx, .int .i64 y.kind, .string sy, .slice ay y.arity cy] 24 (0, 0)) := by
    rw [hwa]; exact heap_new _ _ (by simp)
  have HB := Lib.hid bwa
  have HXA := Lib.hid (HX.out.below bwa)
  have HYA := Lib.hid (HY.out.below bwa)
  have HAND : Hid (XIs (fun _ => True) wa (.and x y) (.int .i64 3) (.string { data := #[] }) (.slice (some ⟨w.heap.size + 2, 0, none⟩) 2 2)) := Lib.hid
    ⟨rfl, ⟨_, rfl, Nat.zero_le _⟩, w.heap.size + 2, 0, 2, _, _, _, _, _, _, rfl, trivial, cell_at hb2 _ rfl, cell_at hb2 _ rfl, cell_at hb2 _ rfl, cell_at hb2 _ rfl, cell_at hb2 _ rfl, cell_at hb2 _ rfl, HXA.out, HYA.out⟩
  have kc : ∀ w', Below wa.heap.size wa w' → (w'.cell? ⟨w.heap.size, 0, none⟩ = some (.int .i64 x.kind) ∧ w'.cell? ⟨w.heap.size, 1, none⟩ = some (.string sx) ∧ w'.cell? ⟨w.heap.size, 2, none⟩ = some (.slice ax x.arity cx)) ∧
      (w'.cell? ⟨w.heap.size + 1, 0, none⟩ = some (.int .i64 y.kind) ∧ w'.cell? ⟨w.heap.size + 1, 1, none⟩ = some (.string sy) ∧ w'.cell? ⟨w.heap.size + 1, 2, none⟩ = some (.slice ay y.arity cy)) := fun w' hb =>
    ⟨⟨(hb.cell (by simp; omega)).trans (cell_at hb0 _ rfl), (hb.cell (by simp; omega)).trans (cell_at hb0 _ rfl), (hb.cell (by simp; omega)).trans (cell_at hb0 _ rfl)⟩, (hb.cell (by simp; omega)).trans (cell_at hb1 _ rfl), (hb.cell (by simp; omega)).trans (cell_at hb1 _ rfl), (hb.cell (by simp; omega)).trans (cell_at hb1 _ rfl)⟩
  have KC := Lib.hid kc
  clear kc hb0 hb1 hb2 hwa swa bwa HX HY
  refine (tags_any (.and x y) _ _ _ _ HAND.out (by simpa [Ex.leaves] using hl)).mono ?_
  rintro e3 w3 ⟨vt, rfl, hss, -, hb3⟩
  have HB3 := Lib.hid hb3
  have HSS := Lib.hid hss
  obtain ⟨at_, ct, rfl, -⟩ : ∃ a cap, vt = .slice a (Ex.and x y).tags.length cap ∧ True := by obtain ⟨a, cap, h1, _⟩ := hss; exact ⟨a, cap, h1, trivial⟩
  clear hss hb3
  go_wp2_with fail
  refine (choices_any _ (Ex.and x y).tags _ HSS.out).mono ?_
  rintro e4 w4 ⟨vc, rfl, hll, hb4⟩
  obtain ⟨hcl, hcm⟩ := choices_few (Ex.and x y).tags
  obtain ⟨cs, hcs⟩ : ∃ cs, cs = (if (Ex.and x y).tags.length ≤ 8 then choices (Ex.and x y).tags else []) := ⟨_, rfl⟩
  rw [← hcs] at hll hcl hcm
  have HB4 := Lib.hid (HB3.out.trans (hb4.mono HB3.out.size))
  obtain ⟨ac, cc, rfl, hcell⟩ := hll.cellsAt
  have HCE := Lib.hid hcell
  have HCM := Lib.hid hcm
  clear hcs hll hb4 hcell hcm HSS HAND HB3
  go_wp2_with fail
  go_loopw [14] (fun i wr => LoopB cs.length w4 i wr) (fun i _ => cs.length - (intOf i).toNat)
  case atStart => exact ⟨0, Nat.zero_le _, rfl, Below.refl _ _⟩
  case round =>
    obtain ⟨k, hk, rfl, hbr⟩ := hrel
    have HBR := Lib.hid hbr
    have HBA := Lib.hid (HB4.out.trans (hbr.mono HB4.out.size))
    clear hbr
    by_cases hlt : k < cs.length
    · obtain ⟨c, hc⟩ : ∃ c, cs[k]? = some c := ⟨_, List.getElem?_eq_getElem hlt⟩
      obtain ⟨b, u, rfl, hcu, ⟨gu, cu, rfl⟩, hssu⟩ := HCE.out k c hc
      have hc8 : c.length ≤ 8 := HCM.out c (List.mem_of_getElem? hc)
      have HSU := Lib.hid ((hssu (by omega)).below HBR.out)
      have hcu' := (HBR.out.cell (p := ⟨b, k, none⟩) (lt_of_cell hcu)).trans hcu
      obtain ⟨⟨q0, q1, q2⟩, p0, p1, p2⟩ := KC.out wr HBA.out
      have HXR := Lib.hid (HXA.out.below HBA.out)
      have HYR := Lib.hid (HYA.out.below HBA.out)
      clear hc hcu hssu
      go_wp2_with fail
      have hd : Below wr.heap.size wr wr.drew := (Below.refl _ _).drew
      have HD := Lib.hid hd
      clear hd
      have HEQ := Lib.hid (HE.out (hasB c))
      cases hg : x.eval (hasB c)
      all_goals
        have HG := Lib.hid hg
        have HG2 := Lib.hid (HEQ.out.symm.trans hg)
        clear hg
        go_region_law (first | (go_simp; go_at_call 32; (with_reducible refine (specEval_any x (.int .i64 x.kind) (.string sx) (.slice ax x.arity cx) _ c _ (by exact HXR.out.below HD.out) (by exact HSU.out.below HD.out)).mono ?_); rw [HG.out]; rintro e5 w5 ⟨rfl, hb5⟩; have HB5 := Lib.hid (HD.out.trans (hb5.mono HD.out.size)); obtain ⟨-, r0, r1, r2⟩ := KC.out w5 (HBA.out.trans (HB5.out.mono HBA.out.size)); clear hb5) | (go_simp; go_at_call 32; (with_reducible refine (specEval_any y (.int .i64 y.kind) (.string sy) (.slice ay y.arity cy) _ c _ (by exact HYR.out.below HB5.out) (by exact HSU.out.below HB5.out)).mono ?_); rw [HG2.out]; rintro e6 w6 ⟨rfl, hb6⟩; have HB6 := Lib.hid (HB5.out.trans (hb6.mono HB5.out.size)); clear hb6))
        all_goals go_wp2_with fail
        all_goals exact ⟨⟨k + 1, hlt, by go_num, HBR.out.trans (HB6.out.mono HBR.out.size)⟩, by simp [intOf]; omega⟩
    · go_wp2_with fail
      go_ret
      exact ⟨rfl, HB.out.trans (HBA.out.mono HB.out.size)⟩
end Go.Proofs.YteemenhinhkonaaDoor
