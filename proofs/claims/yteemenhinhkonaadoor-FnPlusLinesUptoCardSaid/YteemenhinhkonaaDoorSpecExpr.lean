/- The contract of laws.specExpr: whatever expression the argument reads as, the call returns a copy in new memory that reads as the same one, and all memory that was there stays. -/
import Derived.Test.YteemenhinhkonaaDoorProg
import Derived.Test.YteemenhinhkonaaDoorBase
namespace Go.Proofs.YteemenhinhkonaaDoor
open Go.RowKit

theorem info_spec : (Tryd.prog.info? 24).map (fun i => (i.zero, i.size, i.bytes)) = some (some (.agg #[.int .i64 0, .string ByteArray.empty, .slice none 0 0]), 3, 48) := by kernel_rfl

def SpecRel (n : Nat) (e : E) (w : World) (i : Value) (wr : World) : Prop :=
  ∃ (k : Nat) (p : Option Addr) (cp : Nat) (xs : List Value), k ≤ e.subs.length ∧ i = .int .i64 k ∧ Below w.heap.size w wr ∧ w.heap.size + 3 ≤ wr.heap.size ∧
    wr.heap[w.heap.size + 1]? = some (.cells #[.int .i64 0, .string { data := #[] }, .slice none 0 0] 24 (0, 0)) ∧
    wr.heap[w.heap.size + 1 + 1]? = some (.cells #[.int .i64 e.kind, .string e.tag, .slice p k cp] 24 (0, 0)) ∧
    wr.ownsRow (w.heap.size + 3) 24 3 (.slice p k cp) k xs ∧
    ElemsOk (fun b => w.heap.size + 3 ≤ b ∧ (Value.slice p k cp).ownBlock ≠ some b) wr n e.subs k xs

theorem SpecRel_start (n : Nat) (e : E) (w : World) (o : Array Value) (t : TypeId) :
    SpecRel n e w (.int .i64 0) (((w.alloc (.cells o t)).alloc (.cells #[.int .i64 0, .string { data := #[] }, .slice none 0 0] 24)).alloc (.cells #[.int .i64 e.kind, .string e.tag, .slice none 0 0] 24)) := by
  have b1 : Below w.heap.size w (w.alloc (.cells o t)) := (Below.refl _ _).alloc (Nat.le_refl _) _
  refine ⟨0, none, 0, [], Nat.zero_le _, rfl, (b1.alloc (by simp) _).alloc (by simp; omega) _, by simp, ?_, ?_, World.ownsRow_nil _ _ _ _, ?_⟩
  · rw [Below.heap_alloc _ _ _ (by simp)]
    exact heap_new (w.alloc (.cells o t)) _ (by simp)
  · exact heap_new ((w.alloc (.cells o t)).alloc _) _ (by simp)
  · intro j x hj
    omega

theorem SpecRel_step {n : Nat} {e : E} {w wr wa w1 w2 : World} {k : Nat} {p : Option Addr} {cp : Nat} {xs : List Value} {x : E} {a2 : Option Addr} {cap2 : Nat} {p2 : Option Addr} {cp2 : Nat} {t : TypeId}
    (hk : k < e.subs.length) (hx : e.subs[k]? = some x) (hB : Below w.heap.size w wr) (hsz : w.heap.size + 3 ≤ wr.heap.size)
    (hh1 : wr.heap[w.heap.size + 1]? = some (.cells #[.int .i64 0, .string { data := #[] }, .slice none 0 0] 24 (0, 0)))
    (hh2 : wr.heap[w.heap.size + 1 + 1]? = some (.cells #[.int .i64 e.kind, .string e.tag, .slice p k cp] 24 (0, 0)))
    (hown : wr.ownsRow (w.heap.size + 3) 24 3 (.slice p k cp) k xs)
    (hels : ElemsOk (fun b => w.heap.size + 3 ≤ b ∧ (Value.slice p k cp).ownBlock ≠ some b) wr n e.subs k xs)
    (bwa : Below wr.heap.size wr wa) (hb1 : Below wa.drew.heap.size wa.drew w1)
    (hx1 : EIs (fun b => wa.drew.heap.size ≤ b) w1 n x (.int .i64 x.kind) (.string x.tag) (.slice a2 x.subs.length cap2))
    (hown2 : w2.ownsRow (w.heap.size + 3) 24 3 (.slice p2 (k + 1) cp2) (k + 1) (xs ++ [.int .i64 x.kind, .string x.tag, .slice a2 x.subs.length cap2]))
    (hg2 : (w1.alloc (.cells #[.int .i64 x.kind, .string x.tag, .slice a2 x.subs.length cap2] t)).grownBy w2 (Value.slice p k cp).ownBlock)
    (hat : (Value.slice p2 (k + 1) cp2).ownBlock = (Value.slice p k cp).ownBlock ∨ (Value.slice p2 (k + 1) cp2).ownBlock = some (w1.alloc (.cells #[.int .i64 x.kind, .string x.tag, .slice a2 x.subs.length cap2] t)).heap.size) :
    SpecRel n e w (.int .i64 ((k : Int) + 1)) (w2.setCell ⟨w.heap.size + 1 + 1, 2, none⟩ (.slice p2 (k + 1) cp2)) := by
  have hs1 : wr.heap.size ≤ w1.heap.size := Nat.le_trans bwa.size hb1.size
  have hs2 : w1.heap.size + 1 ≤ w2.heap.size := by have := hg2.size; simpa using this
  have hxl : xs.length = k * 3 := hown.1
  have hlow : ∀ b, (Value.slice p k cp).ownBlock = some b → w.heap.size + 3 ≤ b ∧ b < wr.heap.size := fun b hb => hown.lt b hb
  have keep1 : ∀ b, b < wr.heap.size → w1.heap[b]? = wr.heap[b]? := fun b hb =>
    (hb1.block b (Nat.lt_of_lt_of_le hb bwa.size)).trans (bwa.block b hb)
  have keep2 : ∀ b, b < w1.heap.size → (Value.slice p k cp).ownBlock ≠ some b → w2.heap[b]? = w1.heap[b]? := fun b hb hne =>
    (hg2.block b (by simp; omega) (fun h => hne h.symm)).trans (Below.heap_alloc w1 _ b hb)
  have keepS : ∀ b, b ≠ w.heap.size + 1 + 1 → (w2.setCell ⟨w.heap.size + 1 + 1, 2, none⟩ (.slice p2 (k + 1) cp2)).heap[b]? = w2.heap[b]? := fun b hb => Below.heap_setCell w2 _ _ b hb
  have nlow : ∀ b, b < w.heap.size + 3 → (Value.slice p k cp).ownBlock ≠ some b := fun b hb h => by have := hlow b h; omega
  have nnew : ∀ b, b < w1.heap.size → (Value.slice p k cp).ownBlock ≠ some b → (Value.slice p2 (k + 1) cp2).ownBlock ≠ some b := by
    intro b hb hne h
    rcases hat with hat | hat
    · exact hne (hat ▸ h)
    · rw [hat] at h
      injection h with h
      simp at h
      omega
  refine ⟨k + 1, p2, cp2, xs ++ [.int .i64 x.kind, .string x.tag, .slice a2 x.subs.length cap2], hk, by simp, ?_, ?_, ?_, ?_, ?_, ?_⟩
  · refine ⟨?_, ?_, ?_, ?_, fun b hb => ?_⟩
    · exact hg2.os.trans (hb1.os.trans (bwa.os.trans hB.os))
    · exact hg2.tape.trans (hb1.tape.trans (bwa.tape.trans hB.tape))
    · exact hg2.output.trans (hb1.output.trans (bwa.output.trans hB.output))
    · simp only [World.size_setCell]
      omega
    · rw [keepS b (by omega), keep2 b (by omega) (nlow b (by omega)), keep1 b (by omega)]
      exact hB.block b hb
  · simp only [World.size_setCell]
    omega
  · rw [keepS _ (by omega), keep2 _ (by omega) (nlow _ (by omega)), keep1 _ (by omega)]
    exact hh1
  · rw [heap_set w2 (by rw [keep2 _ (by omega) (nlow _ (by omega)), keep1 _ (by omega)]; exact hh2)]
    rfl
  · exact ownsRow_setCell_below hown2 (by simp) _
  · intro j y hj hy
    by_cases hjk : j < k
    · obtain ⟨x0, x1, x2, e0, e1, e2, hE⟩ := hels j y hjk hy
      refine ⟨x0, x1, x2, ?_, ?_, ?_, ?_⟩
      · rw [List.getElem?_append_left (by omega)]; exact e0
      · rw [List.getElem?_append_left (by omega)]; exact e1
      · rw [List.getElem?_append_left (by omega)]; exact e2
      · refine hE.move fun b hb hlt => ⟨⟨hb.1, nnew b (by omega) hb.2⟩, ?_⟩
        rw [keepS b (by omega), keep2 b (by omega) hb.2, keep1 b hlt]
    · obtain rfl : j = k := by omega
      obtain rfl : y = x := by rw [hx] at hy; injection hy with hy; exact hy.symm
      refine ⟨.int .i64 y.kind, .string y.tag, .slice a2 y.subs.length cap2, ?_, ?_, ?_, ?_⟩
      · rw [List.getElem?_append_right (by omega)]; simp [hxl]
      · rw [List.getElem?_append_right (by omega)]; simp [hxl]
      · rw [List.getElem?_append_right (by omega)]; simp [hxl]
      · have hda : wa.drew.heap.size = wa.heap.size := rfl
        have hwa := bwa.size
        have hwa1 := hb1.size
        have hne : ∀ b, wa.drew.heap.size ≤ b → (Value.slice p j cp).ownBlock ≠ some b := fun b hb h => by have := hlow b h; omega
        refine hx1.move fun b hb hlt => ⟨⟨by omega, nnew b hlt (hne b hb)⟩, ?_⟩
        rw [keepS b (by omega), keep2 b hlt (hne b hb)]

theorem EIs_of_row {S : Nat → Prop} {w : World} {n : Nat} {e : E} {base : Nat} {t : TypeId} {p : Option Addr} {cp : Nat} {xs : List Value} {k : Nat} (hk : k = e.subs.length)
    (k0 : -9223372036854775808 ≤ e.kind) (k1 : e.kind ≤ 9223372036854775807) (ht : e.tag.size ≤ 1152921504606846976) (hlen : e.subs.length * 48 ≤ 140737488355328)
    (hS : ∀ b, base ≤ b → S b) (hown : w.ownsRow base t 3 (.slice p k cp) k xs) (hels : ElemsOk S w n e.subs k xs) : EIs S w (n + 1) e (.int .i64 e.kind) (.string e.tag) (.slice p k cp) := by
  subst hk
  refine ⟨rfl, k0, k1, rfl, ht, p, cp, rfl, hlen, fun i x hx => ?_⟩
  have hi : i < e.subs.length := (List.getElem?_eq_some_iff.1 hx).1
  obtain ⟨g, rfl, hb, hg, hc⟩ := ownsRow_at hown (by omega)
  obtain ⟨x0, x1, x2, e0, e1, e2, hE⟩ := hels i x hi hx
  refine ⟨g, 0, x0, x1, x2, rfl, hS g hb, ?_, ?_, ?_, hE⟩
  · rw [Nat.zero_add]; exact hc _ _ e0
  · rw [Nat.zero_add]; exact hc _ _ e1
  · rw [Nat.zero_add]; exact hc _ _ e2

/- what the call leaves -/
def SpecPost (n : Nat) (e : E) (w : World) (en : Ending) (w' : World) : Prop :=
  ∃ c2', en = .returned (.agg #[.int .i64 e.kind, .string e.tag, c2']) ∧ EIs (fun b => w.heap.size ≤ b) w' n e (.int .i64 e.kind) (.string e.tag) c2' ∧ Below w.heap.size w w'

set_option maxHeartbeats 1000000 in
theorem specExpr_any (n : Nat) : ∀ (e : E) (c0 c1 c2 : Value) (w : World), EIs (fun _ => True) w n e c0 c1 c2 → Calls Tryd.prog 17 #[.agg #[c0, c1, c2]] w (SpecPost n e w) := by
  induction n with
  | zero => intro e c0 c1 c2 w h; exact h.elim
  | succ n ih =>
    intro e c0 c1 c2 w h
    obtain ⟨rfl, hk0, hk1, rfl, ht, a, cap, rfl, hlen, hsub⟩ := h
    obtain ⟨i0, hi, hz0, hz1, hz2⟩ := info_parts info_spec
    have IH := Lib.hid ih
    clear ih
    have HS := Lib.hid hsub
    clear hsub
    go_enter Tryd.func17, Tryd.ntmps17
    go_wp2_with fail
    go_loopw [14] (fun i wr => SpecRel n e w i wr) (fun i _ => e.subs.length - (intOf i).toNat)
    case atStart => exact SpecRel_start n e w _ _
    case round =>
      obtain ⟨k, p, cp, xs, hk, rfl, hb, hsz, hh1, hh2, hown, hels⟩ := hrel
      have HH1 := Lib.hid hh1
      have HH2 := Lib.hid hh2
      have HO := Lib.hid hown
      have HE := Lib.hid hels
      have c20 := cell_at (o := 0) hh2 (.int .i64 e.kind) rfl
      have c21 := cell_at (o := 1) hh2 (.string e.tag) rfl
      have c22 := cell_at (o := 2) hh2 (.slice p k cp) rfl
      have f22 := free_at hh2 2
      have HB := Lib.hid hb
      clear hh1 hh2 hown hels hb
      by_cases hlt : k < e.subs.length
      · have hxk := List.getElem?_eq_getElem hlt
        obtain ⟨x, hx0⟩ : ∃ x, e.subs[k]? = some x := ⟨_, hxk⟩
        clear hxk
        obtain ⟨b, off, x0, x1, x2, rfl, -, g0, g1, g2, hx⟩ := HS.out k _ hx0
        have l0 := lt_of_cell g0
        rw [← HB.out.cell (p := ⟨_, _, none⟩) l0] at g0 g1 g2
        obtain ⟨a', cap', rfl, rfl, rfl⟩ := hx.form
        have HX0 := Lib.hid hx0
        clear hx0
        go_wp2_with fail
        obtain ⟨wa, hwa⟩ : ∃ wa, wa = wr.alloc (.cells #[.int .i64 x.kind, .string x.tag, .slice a' x.subs.length cap'] 29) := ⟨_, rfl⟩
        rw [← hwa]
        have bwa : Below wr.heap.size wr wa := by rw [hwa]; exact (Below.refl _ _).alloc (Nat.le_refl _) _
        have szwa : wr.heap.size < wa.heap.size := by rw [hwa]; simp
        have d0 : wa.cell? ⟨wr.heap.size, 0, none⟩ = some (.int .i64 x.kind) := by rw [hwa]; simp [go_sem]
        have d1 : wa.cell? ⟨wr.heap.size, 1, none⟩ = some (.string x.tag) := by rw [hwa]; simp [go_sem]
        have d2 : wa.cell? ⟨wr.heap.size, 2, none⟩ = some (.slice a' x.subs.length cap') := by rw [hwa]; simp [go_sem]
        have HO1 : Hid (wa.ownsRow (w.heap.size + 3) 24 3 (.slice p k cp) k xs) := by rw [hwa]; exact HO.out.alloc _
        have c22' : wa.cell? ⟨w.heap.size + 1 + 1, 2, none⟩ = some (.slice p k cp) := by rw [bwa.cell (by simp; omega)]; exact c22
        have f22' : wa.frozen? ⟨w.heap.size + 1 + 1, 2, none⟩ = false := by rw [bwa.frozen (by simp; omega)]; exact f22
        have HX : Hid (EIs (fun _ => True) wa.drew n x (.int .i64 x.kind) (.string x.tag) (.slice a' x.subs.length cap')) :=
          Lib.hid (hx.frame fun b _ hb => by rw [show wa.drew.heap = wa.heap from rfl, bwa.block b (by have := HB.out.size; omega)]; exact HB.out.block b hb)
        have BWA := Lib.hid bwa
        clear bwa hwa c20 c21 c22 f22 g0 g1 g2 hx
        go_region_law (first | (go_simp; go_at_call 17; refine (IH.out x _ _ _ _ (by exact HX.out)).mono ?_; rintro e1 w1 ⟨c2', rfl, hx1, hb1⟩; obtain ⟨a2, cap2, -, -, rfl⟩ := hx1.form; have HX1 := Lib.hid hx1; have HB1 := Lib.hid hb1; clear hx1 hb1; have hsz1 : wa.heap.size ≤ w1.heap.size := HB1.out.size; have q1 : w1.cell? ⟨w.heap.size + 1 + 1, 2, none⟩ = some (.slice p k cp) := (HB1.out.cell (by simp; omega)).trans c22'; have fq1 : w1.frozen? ⟨w.heap.size + 1 + 1, 2, none⟩ = false := (HB1.out.frozen (by simp; omega)).trans f22'; have q1a : ∀ o, (w1.alloc o).cell? ⟨w.heap.size + 1 + 1, 2, none⟩ = some (.slice p k cp) := fun o => (cell_old_alloc _ _ (by simp; omega)).trans q1; have HO2 : Hid (w1.ownsRow (w.heap.size + 3) 24 3 (.slice p k cp) k xs) := Lib.hid (ownsRow_below HO1.out.drew HB1.out)) | (refine step_append_own_at rfl _ _ 22 rfl (w.heap.size + 3) 24 i0 _ 3 48 Tryd.underlying22 hi hz0 hz1 hz2 rfl (by decide) _ _ _ rfl (HO2.out.alloc _) ⟨_, 0, none⟩ 1 1 [.int .i64 x.kind, .string x.tag, .slice a2 x.subs.length cap2] rfl rfl (cells_new3 _ _ _ _ _) (by simp [Value.oneCell']) (by unfold maxLen; omega) (by omega) (by simp; omega) ?_; intro v' w2 hown2 hg2 hat; obtain ⟨p2, cp2, rfl⟩ := ownsRow_slice hown2; have HO3 := Lib.hid hown2; have HG2 := Lib.hid hg2; have HAT := Lib.hid hat; clear hown2 hg2 hat; have q2 : w2.cell? ⟨w.heap.size + 1 + 1, 2, none⟩ = some (.slice p k cp) := (grown_cell HG2.out HO2.out (p := ⟨w.heap.size + 1 + 1, 2, none⟩) (by simp) (by simp; omega)).trans ((cell_old_alloc _ _ (by simp; omega)).trans q1); have fq2 : w2.frozen? ⟨w.heap.size + 1 + 1, 2, none⟩ = false := (grown_frozen HG2.out HO2.out (p := ⟨w.heap.size + 1 + 1, 2, none⟩) (by simp) (by simp; omega)).trans ((frozen_old_alloc _ _ (by simp; omega)).trans fq1)))
        all_goals go_wp2
        all_goals exact ⟨SpecRel_step hlt HX0.out HB.out hsz HH1.out HH2.out HO.out HE.out BWA.out HB1.out HX1.out HO3.out HG2.out HAT.out, by simp [intOf]; omega⟩
      · have c10 := cell_at (o := 0) HH1.out (.int .i64 0) rfl
        have c11 := cell_at (o := 1) HH1.out (.string { data := #[] }) rfl
        have c12 := cell_at (o := 2) HH1.out (.slice none 0 0) rfl
        have f10 := free_at HH1.out 0
        have f11 := free_at HH1.out 1
        have f12 := free_at HH1.out 2
        have hke : k = e.subs.length := by omega
        have HKE := Lib.hid hke
        clear hke
        go_wp2_with fail
        obtain ⟨W, hW⟩ : ∃ W, W = ((wr.setCell ⟨w.heap.size + 1, 0, none⟩ (.int .i64 e.kind)).setCell ⟨w.heap.size + 1, 1, none⟩ (.string e.tag)).setCell ⟨w.heap.size + 1, 2, none⟩ (.slice p k cp) := ⟨_, rfl⟩
        rw [← hW]
        have hh : W.heap[w.heap.size + 1]? = some (.cells #[.int .i64 e.kind, .string e.tag, .slice p k cp] 24 (0, 0)) := by
          rw [hW, heap_set _ (heap_set _ (heap_set _ HH1.out _) _) _]
          rfl
        have r0 := cell_at (o := 0) hh (.int .i64 e.kind) rfl
        have r1 := cell_at (o := 1) hh (.string e.tag) rfl
        have r2 := cell_at (o := 2) hh (.slice p k cp) rfl
        refine bodyPost_ret (v := .agg #[.int .i64 e.kind, .string e.tag, .slice p k cp]) (by simp [results, Tryd.results17, go_sem, r0, r1, r2]) rfl ⟨_, rfl, ?_, ?_⟩
        · have keep : ∀ b, b ≠ w.heap.size + 1 → W.heap[b]? = wr.heap[b]? := fun b hb => by
            rw [hW, Below.heap_setCell _ _ _ b hb, Below.heap_setCell _ _ _ b hb, Below.heap_setCell _ _ _ b hb]
          have hE := EIs_of_row (S := fun b => w.heap.size + 3 ≤ b) (n := n) HKE.out hk0 hk1 ht hlen (fun b hb => hb) HO.out (fun j x hj hx => by
            obtain ⟨x0, x1, x2, e0, e1, e2, hE⟩ := HE.out j x hj hx
            exact ⟨x0, x1, x2, e0, e1, e2, hE.widen fun b hb _ => hb.1⟩)
          exact hE.move fun b hb hlt => ⟨by omega, keep b (by omega)⟩
        · rw [hW]
          exact ((HB.out.setCell (by simp) _).setCell (by simp) _).setCell (by simp) _
end Go.Proofs.YteemenhinhkonaaDoor
