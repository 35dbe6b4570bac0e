/- The reference's reader: the contract of not, and with it of and, or. -/
import Derived.Test.YteemenhinhkonaaDoorProg
import Derived.Test.YteemenhinhkonaaDoorReadB
import Derived.Defers
namespace Go.Proofs.YteemenhinhkonaaDoor
open Go.RowKit

set_option maxHeartbeats 400000 in
theorem down_any (B0 br : Nat) (s : ByteArray) (i d st : Int) (u : FrameMode) (w : World) (hb : w.heap[B0]? = some (.cells #[.pointer (some ⟨br, 0, none⟩)] 57 (0, 0))) (h : RIs w br s i d st) (hd : -1000000 ≤ d ∧ d ≤ 1000000) :
    CallsD Tryd.prog 88 #[.pointer (some ⟨B0, 0, none⟩)] u w fun e u' w' => u' = u ∧ (e = .returned (.tuple #[]) ∧ w' = w.setCell ⟨br, 2, none⟩ (.int .i64 (d - 1))) := by
  have q := cell_at (o := 0) hb (.pointer (some ⟨br, 0, none⟩)) rfl
  have q2 := h.c2
  have f2 := h.f 2
  obtain ⟨hd1, hd2⟩ := hd
  clear hb h
  go_enter_d Tryd.func88, Tryd.ntmps88
  go_wp2
  go_end0
  exact ⟨rfl, rfl⟩

/- the state within a call of not -/
def NS (w : World) (br : Nat) (s : ByteArray) (wq : World) (k : Nat) (d st : Int) : Prop :=
  wq.heap[w.heap.size]? = some (.cells #[.pointer (some ⟨br, 0, none⟩)] 57 (0, 0)) ∧ wq.heap[w.heap.size + 1]? = some (.cells #[.int .i64 0, .string { data := #[] }, .slice none 0 0] 24 (0, 0)) ∧ RIs wq br s k d st ∧ w.grownBy wq (some br) ∧ br < w.heap.size
theorem NS.next {w : World} {br : Nat} {s : ByteArray} {wq w' : World} {k k' : Nat} {d d' st st' : Int} (h : NS w br s wq k d st) (hg : wq.grownBy w' (some br)) (hr : RIs w' br s k' d' st') : NS w br s w' k' d' st' := by
  obtain ⟨h0, h1, h2, h3, h4⟩ := h
  have l1 := lt_of_heap h1
  exact ⟨(hg.block _ (by omega) (fun e => by injection e with e; omega)).trans h0, (hg.block _ l1 (fun e => by injection e with e; omega)).trans h1, hr, h3.trans hg, h4⟩
theorem NS.grow {w : World} {br : Nat} {s : ByteArray} {wq : World} {k : Nat} {d st : Int} (h : NS w br s wq k d st) (o : Obj) : NS w br s (wq.alloc o) k d st :=
  h.next (World.grownBy_alloc wq o _) ((Below.heap_alloc wq o br (lt_of_heap h.2.2.1)).trans h.2.2.1)
theorem NS.box {w : World} {br : Nat} {s : ByteArray} {wq : World} {k : Nat} {d st : Int} (h : NS w br s wq k d st) : wq.cell? ⟨w.heap.size, 0, none⟩ = some (.pointer (some ⟨br, 0, none⟩)) := cell_at h.1 _ rfl
theorem NS_start {w : World} {br : Nat} {s : ByteArray} {k : Nat} {d st : Int} (h : RIs w br s k d st) :
    NS w br s (((w.setCell ⟨br, 2, none⟩ (.int .i64 (d + 1))).alloc (.cells #[.pointer (some ⟨br, 0, none⟩)] 57)).alloc (.cells #[.int .i64 0, .string { data := #[] }, .slice none 0 0] 24)) k (d + 1) st := by
  have hb := lt_of_heap h
  have hsz : (w.setCell ⟨br, 2, none⟩ (.int .i64 (d + 1))).heap.size = w.heap.size := by simp
  refine ⟨?_, ?_, ?_, ?_, hb⟩
  · rw [Below.heap_alloc _ _ _ (by simp)]
    exact heap_new _ _ hsz.symm
  · exact heap_new _ _ (by simp)
  · exact ((Below.heap_alloc _ _ _ (by simp; omega)).trans (Below.heap_alloc _ _ _ (by simp; omega))).trans (h.set2 _)
  · exact ((grown_set (World.grownBy.refl _ _) _ _).trans (World.grownBy_alloc _ _ _)).trans (World.grownBy_alloc _ _ _)

def bangL (l : List UInt8) : Bool := (skipL l).head? == some 33
def NPost (br : Nat) (s : ByteArray) (i : Nat) (d st : Int) (w : World) (en : Ending) (w' : World) : Prop := ∃ x c0 c1 c2 j st', en = .returned (.agg #[c0, c1, c2]) ∧ XIs (fun b => w.heap.size ≤ b) w' x c0 c1 c2 ∧ i ≤ j ∧ j ≤ s.size ∧ x.leaves ≤ j - i + 1 ∧ RIs w' br s (j : Nat) d st' ∧ w.grownBy w' (some br) ∧
    RSpec (fun n => notP (pOr n)) (dropB s i) (if bangL (dropB s i) then d else d - 1) st x (dropB s j) st'
def NotS (N : Nat) (s : ByteArray) : Prop := ∀ (br i : Nat) (d st : Int) (w : World), RIs w br s i d st → i ≤ s.size → s.size - i ≤ N → 0 ≤ d → d ≤ 1000 →
  Calls Tryd.prog 69 #[.pointer (some ⟨br, 0, none⟩)] w (NPost br s i d st w)
/- the state behind the look at the depth -/
def St1 (d st st1 : Int) : Prop := (st ≠ 1 → st1 = st) ∧ (st = 1 → (d + 1 ≤ 100 ∧ st1 = 1) ∨ (100 < d + 1 ∧ st1 = 0))

theorem head1 {s : ByteArray} {i m : Nat} {c : UInt8} (h : skipL (dropB s i) = dropB s m) (hm : m + 1 ≤ s.size) (hp : (dropB s m).take (ByteArray.mk #[c]).size = (ByteArray.mk #[c]).data.toList) : skipL (dropB s i) = c :: dropB s (m + 1) := by
  rw [h]
  have h1 : (dropB s m).take 1 = [c] := hp
  rw [dropB_cons s m (by omega)] at h1 ⊢
  simp at h1
  rw [h1]
/- '!' twice: open, and no reading by the grammar -/
theorem spec_bang2 {s : ByteArray} {i m m4 j : Nat} {d st st' : Int} {x : Ex} (hst : st = 1) (h1 : skipL (dropB s i) = 33 :: dropB s (m + 1)) (h4 : dropB s m4 = skipL (dropB s (m + 1))) (hp : (dropB s m4).take (ByteArray.mk #[33]).size = (ByteArray.mk #[33]).data.toList)
    (hsp : RSpec (fun n => notP (pOr n)) (dropB s (m4 + 1)) (if bangL (dropB s (m4 + 1)) then d + 1 else d + 1 - 1) 0 x (dropB s j) st') : RSpec (fun n => notP (pOr n)) (dropB s i) (if bangL (dropB s i) then d else d - 1) st (.not x) (dropB s j) st' := by
  have hst' : st' = 0 := hsp.1 (by decide)
  refine ⟨fun h => absurd hst h, fun _ => .inr (.inr ⟨hst', fun n hn => absurd ?_ hn⟩)⟩
  have hh : (skipL (dropB s (m + 1))).head? = some 33 := by
    rw [← h4]
    have h5 : (dropB s m4).take 1 = [33] := hp
    cases hd : dropB s m4 with
    | nil => rw [hd] at h5; cases h5
    | cons a l => rw [hd] at h5; simp at h5; rw [h5]; rfl
  show notP (pOr n) (dropB s i) = none
  unfold notP
  rw [h1]
  simp [hh]
theorem atomP_skip (o : Pr) (l : List UInt8) : atomP o (skipL l) = atomP o l := by
  unfold atomP
  rw [skipL_skipL]
theorem notP_atom (o : Pr) {l : List UInt8} (h : (skipL l).head? ≠ some 33) : notP o l = atomP o l := by
  unfold notP
  cases hl : skipL l with
  | nil => unfold atomP; rw [hl]
  | cons a r =>
    have ha : a ≠ 33 := by rw [hl] at h; simpa using h
    simp only [if_neg ha]
    rw [← hl, atomP_skip]
theorem notP_bang (o : Pr) {l r : List UInt8} (h : skipL l = 33 :: r) (h2 : (skipL r).head? ≠ some 33) : notP o l = match atomP o r with | none => none | some (x, q) => some (.not x, q) := by
  unfold notP
  rw [h]
  simp [h2]
  rfl
theorem spec_bang {s : ByteArray} {i m m4 j : Nat} {d st st' : Int} {x : Ex} (hst : st = 1) (h1 : skipL (dropB s i) = 33 :: dropB s (m + 1)) (h4 : dropB s m4 = skipL (dropB s (m + 1))) (hno : st ≠ 1 ∨ (dropB s m4).take (ByteArray.mk #[33]).size ≠ (ByteArray.mk #[33]).data.toList)
    (hsp : RSpec (fun n => notP (pOr n)) (dropB s m4) (if bangL (dropB s m4) then d + 1 else d + 1 - 1) st x (dropB s j) st') : RSpec (fun n => notP (pOr n)) (dropB s i) (if bangL (dropB s i) then d else d - 1) st (.not x) (dropB s j) st' := by
  have hb : bangL (dropB s i) = true := by unfold bangL; rw [h1]; rfl
  have hsk4 : skipL (dropB s m4) = dropB s m4 := by rw [h4, skipL_skipL]
  have hne : (dropB s m4).head? ≠ some 33 := by
    rcases hno with hno | hno
    · exact absurd hst hno
    · intro he
      apply hno
      cases hd : dropB s m4 with
      | nil => rw [hd] at he; cases he
      | cons a l => rw [hd] at he; simp at he; rw [he]; rfl
  have hb4 : bangL (dropB s m4) = false := by
    unfold bangL
    rw [hsk4]
    simpa using hne
  have key : ∀ n, notP (pOr n) (dropB s i) = match notP (pOr n) (dropB s m4) with | none => none | some (x, q) => some (.not x, q) := by
    intro n
    rw [notP_bang (pOr n) h1 (by rw [← h4]; exact hne), notP_atom (pOr n) (by rw [hsk4]; exact hne), h4, atomP_skip]
  rw [hb]
  rw [hb4] at hsp
  refine ⟨hsp.1, fun _ => ?_⟩
  rcases hsp.2 hst with ⟨e1, n, hn⟩ | ⟨e1, hn⟩ | ⟨e1, hn⟩
  · exact .inl ⟨e1, n, by show notP (pOr n) (dropB s i) = _; rw [key n]; simp only at hn; rw [hn]⟩
  · exact .inr (.inl ⟨e1, fun n => by show notP (pOr n) (dropB s i) = _; rw [key n]; have := hn n; simp only at this; rw [this]⟩)
  · refine .inr (.inr ⟨e1, fun n hk => ?_⟩)
    have := hn n (fun e => hk (by show notP (pOr n) (dropB s i) = _; rw [key n]; simp only at e; rw [e]))
    simp at this ⊢
    omega
theorem St1.fine {d st st1 : Int} (h : St1 d st st1) (h1 : st1 = 1) : st = 1 ∧ d + 1 ≤ 100 := by
  by_cases hs : st = 1
  · rcases h.2 hs with ⟨h2, _⟩ | ⟨_, h2⟩
    · exact ⟨hs, h2⟩
    · omega
  · have := h.1 hs
    omega
/- the state at the door: the result lies in its cells -/
def DS (w : World) (br : Nat) (s : ByteArray) (W : World) (k : Nat) (d st : Int) (r0 r1 r2 : Value) : Prop :=
  W.heap[w.heap.size]? = some (.cells #[.pointer (some ⟨br, 0, none⟩)] 57 (0, 0)) ∧ W.heap[w.heap.size + 1]? = some (.cells #[r0, r1, r2] 24 (0, 0)) ∧ RIs W br s k d st ∧ w.grownBy W (some br) ∧ br < w.heap.size
theorem DS_of {w : World} {br : Nat} {s : ByteArray} {wq W : World} {k : Nat} {d st : Int} {o : Obj} {r0 r1 r2 : Value} (h : NS w br s wq k d st) (hW : W = ((((wq.alloc o).setCell ⟨w.heap.size + 1, 0, none⟩ r0).setCell ⟨w.heap.size + 1, 1, none⟩ r1).setCell ⟨w.heap.size + 1, 2, none⟩ r2)) :
    DS w br s W k d st r0 r1 r2 ∧ (∀ b, b ≠ w.heap.size + 1 → W.heap[b]? = (wq.alloc o).heap[b]?) := by
  obtain ⟨h0, h1, h2, h3, h4⟩ := h
  have l1 := lt_of_heap h1
  have keep : ∀ b, b ≠ w.heap.size + 1 → W.heap[b]? = (wq.alloc o).heap[b]? := fun b hb => by
    rw [hW, Below.heap_setCell _ _ _ b hb, Below.heap_setCell _ _ _ b hb, Below.heap_setCell _ _ _ b hb]
  have keep' : ∀ b, b ≠ w.heap.size + 1 → b < wq.heap.size → W.heap[b]? = wq.heap[b]? := fun b hb hl => (keep b hb).trans (Below.heap_alloc _ _ _ hl)
  refine ⟨⟨(keep' _ (by omega) (by omega)).trans h0, ?_, (keep' _ (by omega) (by omega)).trans h2, ?_, h4⟩, keep⟩
  · rw [hW, heap_set _ (heap_set _ (heap_set _ ((Below.heap_alloc wq o _ l1).trans h1) _) _) _]
    rfl
  · refine ⟨by rw [hW]; exact h3.os, by rw [hW]; exact h3.tape, by rw [hW]; exact h3.output, ?_, fun b hb hne => (keep' b (by omega) (by omega)).trans (h3.block b hb hne)⟩
    have := h3.size
    rw [hW]
    simp
    omega
theorem not_made {w : World} {br : Nat} {s : ByteArray} {w4 w5 W : World} {k : Nat} {d st : Int} {x : Ex} {c0 c1 c2 : Value} (h : NS w br s w5 k d st) (hx : XIs (fun b => w4.heap.size ≤ b) w5 x c0 c1 c2) (h4 : w.heap.size + 2 ≤ w4.heap.size)
    (hW : W = ((((w5.alloc (.cells #[c0, c1, c2] 24)).setCell ⟨w.heap.size + 1, 0, none⟩ (.int .i64 2)).setCell ⟨w.heap.size + 1, 1, none⟩ (.string { data := #[] })).setCell ⟨w.heap.size + 1, 2, none⟩ (.slice (some ⟨w5.heap.size, 0, none⟩) 1 1))) :
    DS w br s W k d st (.int .i64 2) (.string { data := #[] }) (.slice (some ⟨w5.heap.size, 0, none⟩) 1 1) ∧ XIs (fun b => w.heap.size + 2 ≤ b) W (.not x) (.int .i64 2) (.string { data := #[] }) (.slice (some ⟨w5.heap.size, 0, none⟩) 1 1) := by
  obtain ⟨hD, keep⟩ := DS_of h hW
  have l1 := lt_of_heap h.2.1
  have hnew : W.heap[w5.heap.size]? = some (.cells #[c0, c1, c2] 24 (0, 0)) := (keep _ (by omega)).trans (heap_new _ _ rfl)
  refine ⟨hD, rfl, ⟨_, rfl, Nat.zero_le _⟩, w5.heap.size, 0, 1, c0, c1, c2, rfl, by omega, cell_at hnew _ rfl, cell_at hnew _ rfl, cell_at hnew _ rfl, ?_⟩
  exact XIs.move (fun b hb hlt => ⟨by omega, (keep b (by omega)).trans (Below.heap_alloc _ _ _ hlt)⟩) hx
theorem par_made {w : World} {br : Nat} {s : ByteArray} {wq W : World} {k bx : Nat} {d st : Int} {x : Ex} {c0 c1 c2 : Value} (h : NS w br s wq k d st) (hx : XIs (fun b => w.heap.size + 2 ≤ b ∧ b ≠ bx) wq x c0 c1 c2)
    (hW : W = (((wq.setCell ⟨w.heap.size + 1, 0, none⟩ c0).setCell ⟨w.heap.size + 1, 1, none⟩ c1).setCell ⟨w.heap.size + 1, 2, none⟩ c2)) :
    DS w br s W k d st c0 c1 c2 ∧ XIs (fun b => w.heap.size + 2 ≤ b) W x c0 c1 c2 := by
  obtain ⟨h0, h1, h2, h3, h4⟩ := h
  have l1 := lt_of_heap h1
  have keep : ∀ b, b ≠ w.heap.size + 1 → W.heap[b]? = wq.heap[b]? := fun b hb => by
    rw [hW, Below.heap_setCell _ _ _ b hb, Below.heap_setCell _ _ _ b hb, Below.heap_setCell _ _ _ b hb]
  refine ⟨⟨(keep _ (by omega)).trans h0, ?_, (keep _ (by omega)).trans h2, ?_, h4⟩, XIs.move (fun b hb hlt => ⟨hb.1, keep b (by omega)⟩) hx⟩
  · rw [hW, heap_set _ (heap_set _ (heap_set _ h1 _) _) _]
    rfl
  · refine ⟨by rw [hW]; exact h3.os, by rw [hW]; exact h3.tape, by rw [hW]; exact h3.output, ?_, fun b hb hne => (keep b (by omega)).trans (h3.block b hb hne)⟩
    rw [hW]
    simpa using h3.size
theorem notP_par (n : Nat) {l r : List UInt8} (h : skipL l = 40 :: r) : notP (pOr n) l = match pOr n r with | none => none | some (x, q) => if (skipL q).head? = some 41 then some (x, (skipL q).tail) else none := by
  rw [notP_atom _ (by rw [h]; simp)]
  unfold atomP
  rw [h]
  simp
  rfl
theorem bang_par {l r : List UInt8} (h : skipL l = 40 :: r) : bangL l = false := by unfold bangL; rw [h]; rfl
theorem pOr_cases {n : Nat} {r : List UInt8} {k : Nat} {x : Ex} {q : List UInt8} (hk : orP (pOr k) r = some (x, q)) : pOr n r = none ∨ pOr n r = some (x, q) := by
  cases h : pOr n r with
  | none => exact .inl rfl
  | some a =>
    right
    have h1 := pOr_le (show n ≤ max n (k + 1) by omega) r a h
    have h2 := pOr_le (show k + 1 ≤ max n (k + 1) by omega) r _ hk
    rw [h1] at h2
    exact h2
theorem spec_par {s : ByteArray} {i m3 m5 j : Nat} {d st st4 : Int} {x : Ex} (hst : st = 1) (h1 : skipL (dropB s i) = 40 :: dropB s (m3 + 1)) (hst4 : st4 = 1) (h5 : skipL (dropB s j) = 41 :: dropB s (m5 + 1))
    (hsp : RSpec (fun n => orP (pOr n)) (dropB s (m3 + 1)) (d + 1) st x (dropB s j) st4) : RSpec (fun n => notP (pOr n)) (dropB s i) (if bangL (dropB s i) then d else d - 1) st x (dropB s (m5 + 1)) st4 := by
  refine ⟨fun h => absurd hst h, fun _ => ?_⟩
  rcases hsp.2 hst with ⟨e1, n, hn⟩ | ⟨e1, _⟩ | ⟨e1, _⟩
  · refine .inl ⟨e1, n + 1, ?_⟩
    show notP (pOr (n + 1)) (dropB s i) = _
    rw [notP_par (n + 1) h1, show pOr (n + 1) (dropB s (m3 + 1)) = some (x, dropB s j) from hn]
    simp [h5]
  · omega
  · omega
theorem spec_par_no {s : ByteArray} {i m3 m5 j : Nat} {d st st4 : Int} {x : Ex} (hst : st = 1) (h1 : skipL (dropB s i) = 40 :: dropB s (m3 + 1)) (h5 : skipL (dropB s j) = dropB s m5) (hno : st4 ≠ 1 ∨ (dropB s m5).take (ByteArray.mk #[41]).size ≠ (ByteArray.mk #[41]).data.toList)
    (hsp : RSpec (fun n => orP (pOr n)) (dropB s (m3 + 1)) (d + 1) st x (dropB s j) st4) : RSpec (fun n => notP (pOr n)) (dropB s i) (if bangL (dropB s i) then d else d - 1) st x (dropB s m5) (if st4 = 1 then 2 else st4) := by
  refine ⟨fun h => absurd hst h, fun _ => ?_⟩
  rcases hsp.2 hst with ⟨e1, n, hn⟩ | ⟨e1, hn⟩ | ⟨e1, hn⟩
  · refine .inr (.inl ⟨by rw [if_pos e1], fun k => ?_⟩)
    show notP (pOr k) (dropB s i) = none
    rw [notP_par k h1]
    rcases pOr_cases (n := k) hn with h | h
    · rw [h]
    · rw [h]
      have hne : (skipL (dropB s j)).head? ≠ some 41 := by
        rw [h5]
        rcases hno with hno | hno
        · exact absurd e1 hno
        · intro he
          apply hno
          cases hd : dropB s m5 with
          | nil => rw [hd] at he; cases he
          | cons a l => rw [hd] at he; simp at he; rw [he]; rfl
      simp [hne]
  · refine .inr (.inl ⟨by rw [if_neg (by omega)]; exact e1, fun k => ?_⟩)
    show notP (pOr k) (dropB s i) = none
    rw [notP_par k h1]
    cases k with
    | zero => rfl
    | succ k => rw [show pOr (k + 1) (dropB s (m3 + 1)) = none from hn k]
  · refine .inr (.inr ⟨by rw [if_neg (by omega)]; exact e1, fun k hk => ?_⟩)
    rw [bang_par h1]
    cases k with
    | zero => exact absurd (by show notP (pOr 0) (dropB s i) = none; rw [notP_par 0 h1]; rfl) hk
    | succ k =>
      have := hn k (fun e => hk (by show notP (pOr (k + 1)) (dropB s i) = none; rw [notP_par (k + 1) h1, show pOr (k + 1) (dropB s (m3 + 1)) = none from e]))
      simp
      omega
theorem not_close {w : World} {br : Nat} {s : ByteArray} {W : World} {i k : Nat} {d st st' : Int} {x : Ex} {r0 r1 r2 : Value} (h : DS w br s W k (d + 1) st' r0 r1 r2) (hx : XIs (fun b => w.heap.size + 2 ≤ b) W x r0 r1 r2) (hik : i ≤ k) (hk : k ≤ s.size) (hlv : x.leaves ≤ k - i + 1)
    (hsp : RSpec (fun n => notP (pOr n)) (dropB s i) (if bangL (dropB s i) then d else d - 1) st x (dropB s k) st') : NPost br s i d st w (.returned (.agg #[r0, r1, r2])) (W.setCell ⟨br, 2, none⟩ (.int .i64 (d + 1 - 1))) := by
  obtain ⟨h0, h1, h2, h3, h4⟩ := h
  refine ⟨x, r0, r1, r2, k, st', rfl, XIs.move (fun b hb hlt => ⟨by omega, Below.heap_setCell _ _ _ b (by simp; omega)⟩) hx, hik, hk, hlv, ?_, grown_set h3 _ _, hsp⟩
  have := h2.set2 (d + 1 - 1)
  rwa [show d + 1 - 1 = d from by omega] at this ⊢

/- the tag way -/
def TagTo (s : ByteArray) (m j : Nat) : Prop := m ≤ j ∧ j ≤ s.size ∧ ∀ k, m ≤ k → k < j → ∀ hk : k < s.size, tagB s[k] = true
theorem TagTo.step {s : ByteArray} {m k : Nat} (h : TagTo s m k) (hk : k < s.size) (ht : tagB s[k] = true) : TagTo s m (k + 1) :=
  ⟨by have := h.1; omega, hk, fun q h1 h2 hq => by
    by_cases he : q = k
    · subst he; exact ht
    · exact h.2.2 q h1 (by omega) hq⟩
theorem tag_span {s : ByteArray} {j : Nat} (hend : ∀ h : j < s.size, tagB s[j] = false) : ∀ n m, j - m = n → TagTo s m j → (dropB s m).takeWhile tagB = (dropB s m).take (j - m) ∧ (dropB s m).dropWhile tagB = dropB s j := by
  intro n
  induction n with
  | zero =>
    intro m hn h
    obtain rfl : m = j := by have := h.1; omega
    by_cases hm : m < s.size
    · rw [dropB_cons s m hm]
      simp [hend hm]
    · rw [dropB_nil s m (by omega)]
      simp
  | succ n ih =>
    intro m hn h
    have hm : m < s.size := by have := h.2.1; omega
    have ht : tagB s[m] = true := h.2.2 m (Nat.le_refl _) (by omega) hm
    obtain ⟨i1, i2⟩ := ih (m + 1) (by omega) ⟨by omega, h.2.1, fun k h1 h2 hk => h.2.2 k (by omega) h2 hk⟩
    rw [dropB_cons s m hm, show j - m = (j - (m + 1)) + 1 from by omega]
    simp [ht, i1, i2]
theorem tag_not33 {c : UInt8} (h : tagB c = true) : c ≠ 33 ∧ c ≠ 40 := by
  have := tagB_true h
  constructor <;> (intro e; subst e; revert this; decide)
theorem notP_tag (o : Pr) {s : ByteArray} {i m j : Nat} (h : skipL (dropB s i) = dropB s m) (hT : TagTo s m j) (hend : ∀ h : j < s.size, tagB s[j] = false) (hmj : m < j) : notP o (dropB s i) = some (.tag (s.extract m j), dropB s j) := by
  have hm : m < s.size := by have := hT.2.1; omega
  have ht : tagB s[m] = true := hT.2.2 m (Nat.le_refl _) hmj hm
  have hn := tag_not33 ht
  obtain ⟨t1, t2⟩ := tag_span hend _ m rfl hT
  have hc := dropB_cons s m hm
  rw [notP_atom o (by rw [h, hc]; simpa using hn.1)]
  unfold atomP
  rw [h, hc]
  simp only [if_neg hn.2, if_pos ht]
  rw [← hc, t1, t2]
  have e : (s.extract m j) = ⟨((dropB s m).take (j - m)).toArray⟩ := by
    have h1 := extract_take s m (j - m)
    rw [ByteArray.toList_eq, show m + (j - m) = j from by omega] at h1
    cases hx : s.extract m j with
    | mk a => rw [hx] at h1; simp only at h1; rw [← h1]
  rw [e]
theorem spec_tag {s : ByteArray} {i m j : Nat} {d st st1 : Int} (h1 : St1 d st st1) (h : skipL (dropB s i) = dropB s m) (hT : TagTo s m j) (hend : ∀ h : j < s.size, tagB s[j] = false) (hmj : m < j) :
    RSpec (fun n => notP (pOr n)) (dropB s i) (if bangL (dropB s i) then d else d - 1) st (.tag (s.extract m j)) (dropB s j) st1 := by
  refine ⟨h1.1, fun hst => ?_⟩
  rcases h1.2 hst with ⟨_, e⟩ | ⟨hd, e⟩
  · exact .inl ⟨e, 0, notP_tag _ h hT hend hmj⟩
  · exact .inr (.inr ⟨e, fun n _ => by split <;> omega⟩)
theorem head_no {c : UInt8} {l : List UInt8} (h : l.take (ByteArray.mk #[c]).size ≠ (ByteArray.mk #[c]).data.toList) : l.head? ≠ some c := by
  intro he
  apply h
  cases l with
  | nil => cases he
  | cons a l => simp at he; rw [he]; rfl
theorem notP_none (o : Pr) {s : ByteArray} {i m : Nat} (h : skipL (dropB s i) = dropB s m) (h33 : (dropB s m).head? ≠ some 33) (h40 : (dropB s m).head? ≠ some 40) (hend : ∀ h : m < s.size, tagB s[m] = false) : notP o (dropB s i) = none := by
  rw [notP_atom o (by rw [h]; exact h33)]
  unfold atomP
  rw [h]
  by_cases hm : m < s.size
  · rw [dropB_cons s m hm] at h40 ⊢
    have : s[m] ≠ 40 := by simpa using h40
    simp [this, hend hm]
  · rw [dropB_nil s m (by omega)]
theorem spec_none {s : ByteArray} {i m : Nat} {d st st1 : Int} (x : Ex) (h1 : St1 d st st1) (h : skipL (dropB s i) = dropB s m) (hno : st1 ≠ 1 ∨ (dropB s m).take (ByteArray.mk #[33]).size ≠ (ByteArray.mk #[33]).data.toList) (hno2 : st1 ≠ 1 ∨ (dropB s m).take (ByteArray.mk #[40]).size ≠ (ByteArray.mk #[40]).data.toList) (hend : ∀ h : m < s.size, tagB s[m] = false) :
    RSpec (fun n => notP (pOr n)) (dropB s i) (if bangL (dropB s i) then d else d - 1) st x (dropB s m) (if st1 = 1 then 2 else st1) := by
  refine ⟨fun hs => by have := h1.1 hs; rw [if_neg (by omega)]; exact this, fun hst => ?_⟩
  rcases h1.2 hst with ⟨_, e⟩ | ⟨hd, e⟩
  · refine .inr (.inl ⟨by rw [if_pos e], fun n => notP_none _ h (head_no ?_) (head_no ?_) hend⟩)
    · rcases hno with hno | hno
      · exact absurd e hno
      · exact hno
    · rcases hno2 with hno | hno
      · exact absurd e hno
      · exact hno
  · exact .inr (.inr ⟨by rw [if_neg (by omega)]; exact e, fun n _ => by split <;> omega⟩)
def TagRel (w : World) (br : Nat) (s : ByteArray) (m : Nat) (d st : Int) (g : Nat) (wr : World) : Prop :=
  ∃ k : Nat, TagTo s m k ∧ g = s.size - k ∧ NS w br s wr k d st
theorem TagRel_step {w : World} {br : Nat} {s : ByteArray} {m k : Nat} {d st : Int} {wr : World} (hT : TagTo s m k) (hns : NS w br s wr k d st) (hk : k < s.size) (ht : tagB s[k] = true) (nq : Nat) :
    TagRel w br s m d st (s.size - (k + 1)) ((wr.drewN nq).setCell ⟨br, 1, none⟩ (.int .i64 ((k : Int) + 1))) :=
  ⟨k + 1, hT.step hk ht, rfl, hns.next (grown_set (grown_drewN (World.grownBy.refl _ _) nq) _ _) (by have := RIs.set1 (w := wr.drewN nq) hns.2.2.1 ((k : Int) + 1); simpa using this)⟩
theorem tag_one {s : ByteArray} {k : Nat} (hk : k < s.size) : tagOkB (s.extract k (k + 1)) = tagB s[k] := by
  have h1 := extract_take s k 1
  rw [ByteArray.toList_eq, dropB_cons s k hk] at h1
  have hsz : (s.extract k (k + 1)).size = 1 := by simp; omega
  unfold tagOkB
  rw [h1, hsz]
  simp
theorem NS.drewN {w : World} {br : Nat} {s : ByteArray} {wq : World} {k : Nat} {d st : Int} (h : NS w br s wq k d st) (n : Nat) : NS w br s (wq.drewN n) k d st :=
  h.next (grown_drewN (World.grownBy.refl _ _) n) h.2.2.1
theorem DS.drew {w : World} {br : Nat} {s : ByteArray} {W : World} {k : Nat} {d st : Int} {r0 r1 r2 : Value} (h : DS w br s W k d st r0 r1 r2) : DS w br s W.drew k d st r0 r1 r2 :=
  ⟨h.1, h.2.1, h.2.2.1, grown_drewN h.2.2.2.1 1, h.2.2.2.2⟩
theorem grown_new {w w' : World} {row : Option Nat} {b o : Nat} {v : Value} (h : w.grownBy w' row) (hb : w.heap.size ≤ b) : w.grownBy (w'.setCell ⟨b, o, none⟩ v) row :=
  ⟨h.os, h.tape, h.output, by simpa using h.size, fun k hk hne => (Below.heap_setCell w' ⟨b, o, none⟩ v k (by simp; omega)).trans (h.block k hk hne)⟩
theorem tag_made {w : World} {br : Nat} {s : ByteArray} {wq W : World} {k : Nat} {d st : Int} (t : ByteArray) (ht : t.size ≤ 1152921504606846976) (h : NS w br s wq k d st) (hW : W = (((((wq.setCell ⟨w.heap.size + 1, 0, none⟩ (.int .i64 0)).setCell ⟨w.heap.size + 1, 1, none⟩ (.string { data := #[] })).setCell ⟨w.heap.size + 1, 2, none⟩ (.slice none 0 0)).setCell ⟨w.heap.size + 1, 0, none⟩ (.int .i64 1)).setCell ⟨w.heap.size + 1, 1, none⟩ (.string t))) :
    DS w br s W k d st (.int .i64 1) (.string t) (.slice none 0 0) ∧ XIs (fun b => w.heap.size + 2 ≤ b) W (.tag t) (.int .i64 1) (.string t) (.slice none 0 0) := by
  obtain ⟨h0, h1, h2, h3, h4⟩ := h
  have l1 := lt_of_heap h1
  have keep : ∀ b, b ≠ w.heap.size + 1 → W.heap[b]? = wq.heap[b]? := fun b hb => by
    rw [hW, Below.heap_setCell _ _ _ b hb, Below.heap_setCell _ _ _ b hb, Below.heap_setCell _ _ _ b hb, Below.heap_setCell _ _ _ b hb, Below.heap_setCell _ _ _ b hb]
  refine ⟨⟨(keep _ (by omega)).trans h0, ?_, (keep _ (by omega)).trans h2, ?_, h4⟩, rfl, rfl, ht, none, 0, rfl⟩
  · rw [hW, heap_set _ (heap_set _ (heap_set _ (heap_set _ (heap_set _ h1 _) _) _) _) _]
    rfl
  · rw [hW]
    exact grown_new (grown_new (grown_new (grown_new (grown_new h3 (by omega)) (by omega)) (by omega)) (by omega)) (by omega)
end Go.Proofs.YteemenhinhkonaaDoor
