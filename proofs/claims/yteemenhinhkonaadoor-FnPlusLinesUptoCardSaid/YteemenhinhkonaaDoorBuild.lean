/- The contract of impl.build: the package's expression, in new memory, for data that is made as one. -/
import Derived.Test.YteemenhinhkonaaDoorProg
import Derived.Test.YteemenhinhkonaaDoorSpecEval
namespace Go.Proofs.YteemenhinhkonaaDoor
open Go.RowKit

/- an expression of the package: an interface value that holds a pointer to a node -/
def CIs (w : World) : Ex → Value → Prop
  | .tag t, v => ∃ b, v = .iface 94 (.pointer (some ⟨b, 0, none⟩)) ∧ w.heap[b]? = some (.cells #[.string t] 96 (0, 0)) ∧ t.size ≤ 1152921504606846976
  | .not x, v => ∃ b vx, v = .iface 86 (.pointer (some ⟨b, 0, none⟩)) ∧ w.heap[b]? = some (.cells #[vx] 88 (0, 0)) ∧ CIs w x vx
  | .and x y, v => ∃ b vx vy, v = .iface 89 (.pointer (some ⟨b, 0, none⟩)) ∧ w.heap[b]? = some (.cells #[vx, vy] 91 (0, 0)) ∧ CIs w x vx ∧ CIs w y vy
  | .or x y, v => ∃ b vx vy, v = .iface 92 (.pointer (some ⟨b, 0, none⟩)) ∧ w.heap[b]? = some (.cells #[vx, vy] 93 (0, 0)) ∧ CIs w x vx ∧ CIs w y vy
def Ex.ptr : Ex → TypeId
  | .tag _ => 94
  | .not _ => 86
  | .and _ _ => 89
  | .or _ _ => 92
theorem CIs.form {w : World} {x : Ex} {v : Value} (h : CIs w x v) : ∃ b, v = .iface x.ptr (.pointer (some ⟨b, 0, none⟩)) := by
  cases x with
  | tag t => obtain ⟨b, h, _⟩ := h; exact ⟨b, h⟩
  | not x => obtain ⟨b, _, h, _⟩ := h; exact ⟨b, h⟩
  | and x y => obtain ⟨b, _, _, h, _⟩ := h; exact ⟨b, h⟩
  | or x y => obtain ⟨b, _, _, h, _⟩ := h; exact ⟨b, h⟩
/- blocks of nodes: whatever keeps these keeps the expression -/
def nodeT (t : TypeId) : Bool := t == 96 || t == 88 || t == 91 || t == 93
theorem CIs.keep {w w' : World} (hk : ∀ (b : Nat) (cs : Array Value) (t : TypeId) (f : Nat × Nat), w.heap[b]? = some (.cells cs t f) → nodeT t = true → w'.heap[b]? = w.heap[b]?) : ∀ {x : Ex} {v : Value}, CIs w x v → CIs w' x v := by
  intro x
  induction x with
  | tag t => rintro v ⟨b, h1, h2, h3⟩; exact ⟨b, h1, (hk b _ _ _ h2 rfl).trans h2, h3⟩
  | not x ih => rintro v ⟨b, vx, h1, h2, h3⟩; exact ⟨b, vx, h1, (hk b _ _ _ h2 rfl).trans h2, ih h3⟩
  | and x y ihx ihy | or x y ihx ihy => rintro v ⟨b, vx, vy, h1, h2, h3, h4⟩; exact ⟨b, vx, vy, h1, (hk b _ _ _ h2 rfl).trans h2, ihx h3, ihy h4⟩
theorem CIs.below {w w' : World} {x : Ex} {v : Value} (h : CIs w x v) (hb : Below w.heap.size w w') : CIs w' x v := CIs.keep (fun b _ _ _ hc _ => hb.block b (lt_of_heap hc)) h

def BuildPost (x : Ex) (w : World) (en : Ending) (w' : World) : Prop := ∃ v, en = .returned v ∧ CIs w' x v ∧ Below w.heap.size w w'

theorem build_end {x y : Ex} {w wa w1 w2 : World} {v1 v2 : Value} {v : Value} (ba : Below w.heap.size w wa) (hb1 : Below wa.drew.heap.size wa.drew w1) (hb2 : Below w1.heap.size w1 w2) (hc1 : CIs w1 x v1) (hc2 : CIs w2 y v2)
    (hv : v = .iface 89 (.pointer (some ⟨w2.heap.size, 0, none⟩))) : BuildPost (.and x y) w (.returned v) (w2.alloc (.cells #[v1, v2] 91)) := by
  have s1 : wa.heap.size ≤ w1.heap.size := hb1.size
  have hn : Below w2.heap.size w2 (w2.alloc (.cells #[v1, v2] 91)) := (Below.refl _ _).alloc (Nat.le_refl _) _
  refine ⟨v, rfl, ⟨_, v1, v2, hv, heap_new _ _ rfl, (hc1.below hb2).below hn, hc2.below hn⟩, ?_⟩
  exact (((ba.drew).trans (hb1.mono ba.size)).trans (hb2.mono (Nat.le_trans ba.size s1))).alloc (Nat.le_trans ba.size (Nat.le_trans s1 hb2.size)) _
theorem build_end2 {x y : Ex} {w wa w1 w2 : World} {v1 v2 : Value} {v : Value} (ba : Below w.heap.size w wa) (hb1 : Below wa.drew.heap.size wa.drew w1) (hb2 : Below w1.heap.size w1 w2) (hc1 : CIs w1 x v1) (hc2 : CIs w2 y v2)
    (hv : v = .iface 92 (.pointer (some ⟨w2.heap.size, 0, none⟩))) : BuildPost (.or x y) w (.returned v) (w2.alloc (.cells #[v1, v2] 93)) := by
  have s1 : wa.heap.size ≤ w1.heap.size := hb1.size
  have hn : Below w2.heap.size w2 (w2.alloc (.cells #[v1, v2] 93)) := (Below.refl _ _).alloc (Nat.le_refl _) _
  refine ⟨v, rfl, ⟨_, v1, v2, hv, heap_new _ _ rfl, (hc1.below hb2).below hn, hc2.below hn⟩, ?_⟩
  exact (((ba.drew).trans (hb1.mono ba.size)).trans (hb2.mono (Nat.le_trans ba.size s1))).alloc (Nat.le_trans ba.size (Nat.le_trans s1 hb2.size)) _

set_option maxHeartbeats 4000000 in
theorem build_any (x : Ex) : ∀ (c0 c1 c2 : Value) (w : World), XIs (fun _ => True) w x c0 c1 c2 → Calls Tryd.prog 46 #[.agg #[c0, c1, c2]] w (BuildPost x w) := by
  induction x with
  | tag t =>
    intro c0 c1 c2 w h
    obtain ⟨rfl, rfl, ht, a, cap, rfl⟩ := h
    go_enter Tryd.func46, Tryd.ntmps46
    go_wp2_with fail
    go_ret
    exact ⟨_, rfl, ⟨_, rfl, heap_new _ _ (by simp), ht⟩, ((Below.refl _ _).alloc (Nat.le_refl _) _).alloc (by simp) _⟩
  | not x ih =>
    intro c0 c1 c2 w h
    obtain ⟨rfl, ⟨s, rfl, hs⟩, b, off, cap, x0, x1, x2, rfl, -, g0, g1, g2, hx⟩ := h
    have HX := Lib.hid hx
    have IH := Lib.hid ih
    clear hx ih
    have k0 := cellsA g0
    have k1 := cellsA g1
    have k2 := cellsA g2
    obtain ⟨sx, ax, cx, rfl, rfl, rfl, -⟩ := HX.out.form
    go_enter Tryd.func46, Tryd.ntmps46
    go_wp2_with fail
    refine (IH.out _ _ _ _ (by exact HX.out.below ((Below.refl _ _).alloc (Nat.le_refl _) _))).mono ?_
    rintro e1 w1 ⟨v1, rfl, hc1, hb1⟩
    obtain ⟨b1, rfl⟩ := hc1.form
    have HC1 := Lib.hid hc1
    have HB1 := Lib.hid hb1
    clear hc1 hb1
    go_wp2_with fail
    go_ret
    have hs1 := HB1.out.size
    simp at hs1
    exact ⟨_, rfl, ⟨_, _, rfl, heap_new _ _ rfl, HC1.out.below ((Below.refl _ _).alloc (Nat.le_refl _) _)⟩, (((Below.refl _ _).alloc (Nat.le_refl _) _).trans (HB1.out.mono (by simp))).alloc (by omega) _⟩
  | and x y ihx ihy =>
    intro c0 c1 c2 w h
    obtain ⟨rfl, ⟨s, rfl, hs⟩, b, off, cap, x0, x1, x2, y0, y1, y2, rfl, -, g0, g1, g2, g3, g4, g5, hx, hy⟩ := h
    have HX := Lib.hid hx
    have HY := Lib.hid hy
    have IHX := Lib.hid ihx
    have IHY := Lib.hid ihy
    have lb := lt_of_cell g0
    clear hx hy ihx ihy
    obtain ⟨sx, ax, cx, rfl, rfl, rfl, -⟩ := HX.out.form
    obtain ⟨sy, ay, cy, rfl, rfl, rfl, -⟩ := HY.out.form
    obtain ⟨wa, hwa⟩ : ∃ wa, wa = w.alloc (.cells #[.int .i64 3, .string s, .slice (some ⟨b, off, none⟩) 2 cap] 29) := ⟨_, rfl⟩
    go_enter Tryd.func46, Tryd.ntmps46
    go_wp2_with fail
    rw [← hwa]
    have bwa : Below w.heap.size w wa := by rw [hwa]; exact (Below.refl _ _).alloc (Nat.le_refl _) _
    have swa : wa.heap.size = w.heap.size + 1 := by rw [hwa]; simp
    have d2 : wa.cell? ⟨w.heap.size, 2, none⟩ = some (.slice (some ⟨b, off, none⟩) 2 cap) := by rw [hwa]; simp [go_sem]
    have k0 := (bwa.cell (p := ⟨b, off, none⟩) lb).trans g0
    have k1 := (bwa.cell (p := ⟨b, off + 1, none⟩) lb).trans g1
    have k2 := (bwa.cell (p := ⟨b, off + 2, none⟩) lb).trans g2
    have k3 := (bwa.cell (p := ⟨b, off + 3, none⟩) lb).trans g3
    have k4 := (bwa.cell (p := ⟨b, off + 3 + 1, none⟩) lb).trans g4
    have k5 := (bwa.cell (p := ⟨b, off + 3 + 2, none⟩) lb).trans g5
    have BWA := Lib.hid bwa
    have SWA := Lib.hid swa
    clear bwa hwa swa g0 g1 g2 g3 g4 g5
    go_region_law (first | (go_simp; go_at_call 46; (with_reducible refine (IHX.out (.int .i64 x.kind) (.string sx) (.slice ax x.arity cx) _ (by exact HX.out.below BWA.out.drew)).mono ?_); rintro e1 w1 ⟨v1, rfl, hc1, hb1⟩; obtain ⟨b1, rfl⟩ := hc1.form; have q2 : w1.cell? ⟨w.heap.size, 2, none⟩ = some (.slice (some ⟨b, off, none⟩) 2 cap) := (hb1.cell (by have := SWA.out; simp; omega)).trans d2; have q3 : w1.cell? ⟨b, off + 3, none⟩ = some (.int .i64 y.kind) := (hb1.cell (by have := SWA.out; simp; omega)).trans k3; have q4 : w1.cell? ⟨b, off + 3 + 1, none⟩ = some (.string sy) := (hb1.cell (by have := SWA.out; simp; omega)).trans k4; have q5 : w1.cell? ⟨b, off + 3 + 2, none⟩ = some (.slice ay y.arity cy) := (hb1.cell (by have := SWA.out; simp; omega)).trans k5; have HC1 := Lib.hid hc1; have HB1 := Lib.hid hb1; clear hc1 hb1) | (go_simp; go_at_call 46; (with_reducible refine (IHY.out (.int .i64 y.kind) (.string sy) (.slice ay y.arity cy) _ (by exact (HY.out.below BWA.out.drew).below HB1.out)).mono ?_); rintro e2 w2 ⟨v2, rfl, hc2, hb2⟩; obtain ⟨b2, rfl⟩ := hc2.form; have HC2 := Lib.hid hc2; have HB2 := Lib.hid hb2; clear hc2 hb2))
    all_goals go_wp2
    all_goals go_ret
    all_goals exact build_end BWA.out HB1.out HB2.out HC1.out HC2.out rfl
  | or x y ihx ihy =>
    intro c0 c1 c2 w h
    obtain ⟨rfl, ⟨s, rfl, hs⟩, b, off, cap, x0, x1, x2, y0, y1, y2, rfl, -, g0, g1, g2, g3, g4, g5, hx, hy⟩ := h
    have HX := Lib.hid hx
    have HY := Lib.hid hy
    have IHX := Lib.hid ihx
    have IHY := Lib.hid ihy
    have lb := lt_of_cell g0
    clear hx hy ihx ihy
    obtain ⟨sx, ax, cx, rfl, rfl, rfl, -⟩ := HX.out.form
    obtain ⟨sy, ay, cy, rfl, rfl, rfl, -⟩ := HY.out.form
    obtain ⟨wa, hwa⟩ : ∃ wa, wa = w.alloc (.cells #[.int .i64 4, .string s, .slice (some ⟨b, off, none⟩) 2 cap] 29) := ⟨_, rfl⟩
    go_enter Tryd.func46, Tryd.ntmps46
    go_wp2_with fail
    rw [← hwa]
    have bwa : Below w.heap.size w wa := by rw [hwa]; exact (Below.refl _ _).alloc (Nat.le_refl _) _
    have swa : wa.heap.size = w.heap.size + 1 := by rw [hwa]; simp
    have d2 : wa.cell? ⟨w.heap.size, 2, none⟩ = some (.slice (some ⟨b, off, none⟩) 2 cap) := by rw [hwa]; simp [go_sem]
    have k0 := (bwa.cell (p := ⟨b, off, none⟩) lb).trans g0
    have k1 := (bwa.cell (p := ⟨b, off + 1, none⟩) lb).trans g1
    have k2 := (bwa.cell (p := ⟨b, off + 2, none⟩) lb).trans g2
    have k3 := (bwa.cell (p := ⟨b, off + 3, none⟩) lb).trans g3
    have k4 := (bwa.cell (p := ⟨b, off + 3 + 1, none⟩) lb).trans g4
    have k5 := (bwa.cell (p := ⟨b, off + 3 + 2, none⟩) lb).trans g5
    have BWA := Lib.hid bwa
    have SWA := Lib.hid swa
    clear bwa hwa swa g0 g1 g2 g3 g4 g5
    go_region_law (first | (go_simp; go_at_call 46; (with_reducible refine (IHX.out (.int .i64 x.kind) (.string sx) (.slice ax x.arity cx) _ (by exact HX.out.below BWA.out.drew)).mono ?_); rintro e1 w1 ⟨v1, rfl, hc1, hb1⟩; obtain ⟨b1, rfl⟩ := hc1.form; have q2 : w1.cell? ⟨w.heap.size, 2, none⟩ = some (.slice (some ⟨b, off, none⟩) 2 cap) := (hb1.cell (by have := SWA.out; simp; omega)).trans d2; have q3 : w1.cell? ⟨b, off + 3, none⟩ = some (.int .i64 y.kind) := (hb1.cell (by have := SWA.out; simp; omega)).trans k3; have q4 : w1.cell? ⟨b, off + 3 + 1, none⟩ = some (.string sy) := (hb1.cell (by have := SWA.out; simp; omega)).trans k4; have q5 : w1.cell? ⟨b, off + 3 + 2, none⟩ = some (.slice ay y.arity cy) := (hb1.cell (by have := SWA.out; simp; omega)).trans k5; have HC1 := Lib.hid hc1; have HB1 := Lib.hid hb1; clear hc1 hb1) | (go_simp; go_at_call 46; (with_reducible refine (IHY.out (.int .i64 y.kind) (.string sy) (.slice ay y.arity cy) _ (by exact (HY.out.below BWA.out.drew).below HB1.out)).mono ?_); rintro e2 w2 ⟨v2, rfl, hc2, hb2⟩; obtain ⟨b2, rfl⟩ := hc2.form; have HC2 := Lib.hid hc2; have HB2 := Lib.hid hb2; clear hc2 hb2))
    all_goals go_wp2
    all_goals go_ret
    all_goals exact build_end2 BWA.out HB1.out HB2.out HC1.out HC2.out rfl
end Go.Proofs.YteemenhinhkonaaDoor
