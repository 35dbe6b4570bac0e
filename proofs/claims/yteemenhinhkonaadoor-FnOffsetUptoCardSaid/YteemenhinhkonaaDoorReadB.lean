/- The reference's reader: what a call of not, and, or leaves, and the loops of and and or. -/
import Derived.Test.YteemenhinhkonaaDoorProg
import Derived.Test.YteemenhinhkonaaDoorReadA
namespace Go.Proofs.YteemenhinhkonaaDoor
open Go.RowKit

/- plain: what a reading says of the grammar -/
def RSpec (pf : Nat → Pr) (l : List UInt8) (d st : Int) (x : Ex) (r : List UInt8) (st' : Int) : Prop :=
  (st ≠ 1 → st' = st) ∧ (st = 1 → (st' = 1 ∧ ∃ n, pf n l = some (x, r)) ∨ (st' = 2 ∧ ∀ n, pf n l = none) ∨ (st' = 0 ∧ ∀ n : Nat, pf n l ≠ none → 100 < d + 2 * (n : Int) + 2))
def LSpec (c : UInt8) (mk : Ex → Ex → Ex) (sub : Nat → Pr) (l : List UInt8) (d st : Int) (x : Ex) (r : List UInt8) (st' : Int) : Prop :=
  (st ≠ 1 → st' = st) ∧ (st = 1 → (st' = 1 ∧ (∀ n, seqP c mk (sub n) l = none ∨ seqP c mk (sub n) l = loopL c mk (sub n) x r) ∧ ∃ n0, ∀ n, n0 ≤ n → seqP c mk (sub n) l = loopL c mk (sub n) x r) ∨
    (st' = 2 ∧ ∀ n, seqP c mk (sub n) l = none) ∨ (st' = 0 ∧ ∀ n : Nat, seqP c mk (sub n) l ≠ none → 100 < d + 2 * (n : Int) + 2))
def MonP (sub : Nat → Pr) : Prop := ∀ n m, n ≤ m → LeP (sub n) (sub m)
theorem same_of {sub : Nat → Pr} (hm : MonP sub) {n m : Nat} {l : List UInt8} {a b : Ex × List UInt8} (ha : sub n l = some a) (hb : sub m l = some b) : a = b := by
  have h1 := hm n (max n m) (by omega) l a ha
  have h2 := hm m (max n m) (by omega) l b hb
  rw [h1] at h2
  injection h2
theorem LSpec_start {c : UInt8} {mk : Ex → Ex → Ex} {sub : Nat → Pr} (hm : MonP sub) {l : List UInt8} {d st : Int} {x : Ex} {r : List UInt8} {st' : Int} (h : RSpec sub l d st x r st') : LSpec c mk sub l d st x r st' := by
  refine ⟨h.1, fun hst => ?_⟩
  rcases h.2 hst with ⟨h1, n, hn⟩ | ⟨h1, hn⟩ | ⟨h1, hn⟩
  · refine .inl ⟨h1, fun k => ?_, n, fun k hk => ?_⟩
    · rw [seqP_eq]
      cases hk : sub k l with
      | none => exact .inl rfl
      | some a =>
        obtain rfl := same_of hm hn hk
        exact .inr rfl
    · rw [seqP_eq, hm n k hk l _ hn]
  · exact .inr (.inl ⟨h1, fun k => by rw [seqP_eq, hn k]⟩)
  · refine .inr (.inr ⟨h1, fun k hk => hn k fun e => hk ?_⟩)
    rw [seqP_eq, e]
theorem LSpec_step {c : UInt8} {mk : Ex → Ex → Ex} {sub : Nat → Pr} (hm : MonP sub) (hsh : ∀ n, Shr (sub n)) {l : List UInt8} {d st : Int} {x y : Ex} {r q : List UInt8} {st' : Int}
    (h : LSpec c mk sub l d st x r 1) (h2 : (skipL r).take 2 = [c, c]) (hy : RSpec sub ((skipL r).drop 2) d 1 y q st') : LSpec c mk sub l d st (mk x y) q st' := by
  have hst : st = 1 := by
    apply Decidable.byContradiction
    intro hne
    exact hne (h.1 hne).symm
  refine ⟨fun hne => absurd hst hne, fun _ => ?_⟩
  rcases h.2 hst with ⟨_, h1, n0, h0⟩ | ⟨h1, _⟩ | ⟨h1, _⟩
  · rcases hy.2 rfl with ⟨e1, n, hn⟩ | ⟨e1, hn⟩ | ⟨e1, hn⟩
    · refine .inl ⟨e1, fun k => ?_, max n0 n, fun k hk => ?_⟩
      · rcases h1 k with hk | hk
        · exact .inl hk
        · rw [hk, loopL_go (hsh k) h2]
          cases hs : sub k ((skipL r).drop 2) with
          | none => exact .inl rfl
          | some a =>
            obtain rfl := same_of hm hn hs
            exact .inr rfl
      · rw [h0 k (by omega), loopL_go (hsh k) h2, hm n k (by omega) _ _ hn]
    · refine .inr (.inl ⟨e1, fun k => ?_⟩)
      rcases h1 k with hk | hk
      · exact hk
      · rw [hk, loopL_go (hsh k) h2, hn k]
    · refine .inr (.inr ⟨e1, fun k hk => hn k fun e => hk ?_⟩)
      rcases h1 k with hk' | hk'
      · exact hk'
      · rw [hk', loopL_go (hsh k) h2, e]
  · exact absurd h1 (by decide)
  · exact absurd h1 (by decide)
theorem LSpec_end {c : UInt8} {mk : Ex → Ex → Ex} {sub : Nat → Pr} {l : List UInt8} {d st : Int} {x : Ex} {r : List UInt8} {st' : Int} (h : LSpec c mk sub l d st x r st') (h2 : st' ≠ 1 ∨ (skipL r).take 2 ≠ [c, c]) :
    RSpec (fun n => seqP c mk (sub n)) l d st x (skipL r) st' := by
  refine ⟨h.1, fun hst => ?_⟩
  rcases h.2 hst with ⟨h1, _, n0, h0⟩ | h1 | h1
  · refine .inl ⟨h1, n0, ?_⟩
    show seqP c mk (sub n0) l = _
    rw [h0 n0 (Nat.le_refl _)]
    rcases h2 with h2 | h2
    · exact absurd h1 h2
    · exact loopL_end h2
  · exact .inr (.inl h1)
  · exact .inr (.inr h1)
theorem mon_not : MonP (fun n => notP (pOr n)) := fun _ _ h => notP_le (pOr_le h)
theorem mon_and : MonP (fun n => andP (pOr n)) := fun _ _ h => andP_le (pOr_le h)
theorem mon_or : MonP (fun n => orP (pOr n)) := fun _ _ h => orP_le (pOr_le h)

/- what a call leaves -/
def RPost (pf : Nat → Pr) (br : Nat) (s : ByteArray) (i : Nat) (d st : Int) (w : World) (en : Ending) (w' : World) : Prop :=
  ∃ x c0 c1 c2 j st', en = .returned (.agg #[c0, c1, c2]) ∧ XIs (fun b => w.heap.size ≤ b) w' x c0 c1 c2 ∧ i ≤ j ∧ j ≤ s.size ∧ x.leaves ≤ j - i + 1 ∧ RIs w' br s (j : Nat) d st' ∧ w.grownBy w' (some br) ∧ RSpec pf (dropB s i) d st x (dropB s j) st'
def NotC (N : Nat) (s : ByteArray) : Prop := ∀ (br i : Nat) (d st : Int) (w : World), RIs w br s i d st → i ≤ s.size → s.size - i ≤ N → 0 ≤ d → d ≤ 1000 →
  Calls Tryd.prog 69 #[.pointer (some ⟨br, 0, none⟩)] w (RPost (fun n => notP (pOr n)) br s i d st w)
def AndC (N : Nat) (s : ByteArray) : Prop := ∀ (br i : Nat) (d st : Int) (w : World), RIs w br s i d st → i ≤ s.size → s.size - i ≤ N → 0 ≤ d → d ≤ 1000 →
  Calls Tryd.prog 56 #[.pointer (some ⟨br, 0, none⟩)] w (RPost (fun n => andP (pOr n)) br s i d st w)
def OrC (N : Nat) (s : ByteArray) : Prop := ∀ (br i : Nat) (d st : Int) (w : World), RIs w br s i d st → i ≤ s.size → s.size - i ≤ N → 0 ≤ d → d ≤ 1000 →
  Calls Tryd.prog 41 #[.pointer (some ⟨br, 0, none⟩)] w (RPost (fun n => orP (pOr n)) br s i d st w)

/- the loop -/
def SeqRel (c : UInt8) (mk : Ex → Ex → Ex) (sub : Nat → Pr) (br : Nat) (s : ByteArray) (i : Nat) (d st : Int) (w : World) (bx g : Nat) (wr : World) : Prop :=
  ∃ x c0 c1 c2 k st', w.heap.size < bx ∧ bx < wr.heap.size ∧ br < w.heap.size ∧ wr.heap[w.heap.size]? = some (.cells #[.int .i64 0, .string { data := #[] }, .slice none 0 0] 24 (0, 0)) ∧ wr.heap[bx]? = some (.cells #[c0, c1, c2] 24 (0, 0)) ∧
    XIs (fun b => w.heap.size + 1 ≤ b ∧ b ≠ bx) wr x c0 c1 c2 ∧ i ≤ k ∧ k ≤ s.size ∧ x.leaves ≤ k - i + 1 ∧ RIs wr br s (k : Nat) d st' ∧ w.grownBy wr (some br) ∧ LSpec c mk sub (dropB s i) d st x (dropB s k) st' ∧ g = s.size - k

theorem SeqRel_start {c : UInt8} {mk : Ex → Ex → Ex} {sub : Nat → Pr} (hm : MonP sub) {br : Nat} {s : ByteArray} {i j : Nat} {d st st' : Int} {w w1 : World} {x : Ex} {c0 c1 c2 : Value} (hbr : br < w.heap.size)
    (hx : XIs (fun b => (w.alloc (.cells #[.int .i64 0, .string { data := #[] }, .slice none 0 0] 24)).heap.size ≤ b) w1 x c0 c1 c2) (hij : i ≤ j) (hj : j ≤ s.size) (hlv : x.leaves ≤ j - i + 1) (hr : RIs w1 br s (j : Nat) d st')
    (hg : (w.alloc (.cells #[.int .i64 0, .string { data := #[] }, .slice none 0 0] 24)).grownBy w1 (some br)) (hsp : RSpec sub (dropB s i) d st x (dropB s j) st') :
    SeqRel c mk sub br s i d st w w1.heap.size (s.size - j) (w1.alloc (.cells #[c0, c1, c2] 24)) := by
  have hs1 : w.heap.size + 1 ≤ w1.heap.size := by have := hg.size; simpa using this
  have hb1 : br < w1.heap.size := by omega
  refine ⟨x, c0, c1, c2, j, st', by omega, by simp, hbr, ?_, heap_new _ _ rfl, ?_, hij, hj, hlv, ?_, ?_, LSpec_start hm hsp, rfl⟩
  · rw [Below.heap_alloc _ _ _ (by omega), hg.block _ (by simp) (fun e => by injection e with e; omega)]
    exact heap_new _ _ rfl
  · refine XIs.move (fun b hb hlt => ⟨⟨by simpa using hb, by omega⟩, Below.heap_alloc _ _ _ hlt⟩) hx
  · exact (Below.heap_alloc _ _ _ hb1).trans hr
  · have h0 : w.grownBy (w.alloc (.cells #[.int .i64 0, .string { data := #[] }, .slice none 0 0] 24)) (some br) := World.grownBy_alloc w _ _
    exact (h0.trans hg).trans (World.grownBy_alloc w1 _ _)

theorem SeqRel_step {c : UInt8} (mk : Ex → Ex → Ex) (kd : Int) (hmk : ∀ x y : Ex, (mk x y = .and x y ∧ kd = 3) ∨ (mk x y = .or x y ∧ kd = 4)) {sub : Nat → Pr} (hm : MonP sub) (hsh : ∀ n, Shr (sub n)) {br : Nat} {s : ByteArray} {i k m j : Nat} {d st st' st3 : Int} {w w2 w3 : World} {bx : Nat} {x y : Ex} {x0 x1 x2 y0 y1 y2 : Value} (hbr : br < w.heap.size) (hbx : w.heap.size < bx) (hbx2 : bx < w2.heap.size)
    (h0 : w2.heap[w.heap.size]? = some (.cells #[.int .i64 0, .string { data := #[] }, .slice none 0 0] 24 (0, 0))) (hbxc : w2.heap[bx]? = some (.cells #[x0, x1, x2] 24 (0, 0)))
    (hx : XIs (fun b => w.heap.size + 1 ≤ b ∧ b ≠ bx) w2 x x0 x1 x2) (hg : w.grownBy w2 (some br)) (hsp : LSpec c mk sub (dropB s i) d st x (dropB s k) st') (hst : st' = 1) (hpre : (skipL (dropB s k)).take 2 = [c, c]) (hdr : (skipL (dropB s k)).drop 2 = dropB s (m + 2)) (hkm : k ≤ m) (hik : i ≤ k) (hlv : x.leaves ≤ k - i + 1)
    (hy : XIs (fun b => w2.drew.heap.size ≤ b) w3 y y0 y1 y2) (hmj : m + 2 ≤ j) (hj : j ≤ s.size) (hlv3 : y.leaves ≤ j - (m + 2) + 1) (hr3 : RIs w3 br s (j : Nat) d st3) (hg3 : w2.drew.grownBy w3 (some br)) (hsp3 : RSpec sub (dropB s (m + 2)) d st' y (dropB s j) st3) :
    SeqRel c mk sub br s i d st w bx (s.size - j) ((((w3.alloc (.cells #[x0, x1, x2, y0, y1, y2] 24)).setCell ⟨bx, 0, none⟩ (.int .i64 kd)).setCell ⟨bx, 1, none⟩ (.string { data := #[] })).setCell ⟨bx, 2, none⟩ (.slice (some ⟨w3.heap.size, 0, none⟩) 2 2)) := by
  have hd2 : w2.drew.heap.size = w2.heap.size := rfl
  have hs3 : w2.heap.size ≤ w3.heap.size := hg3.size
  obtain ⟨W, hW⟩ : ∃ W, W = ((((w3.alloc (.cells #[x0, x1, x2, y0, y1, y2] 24)).setCell ⟨bx, 0, none⟩ (.int .i64 kd)).setCell ⟨bx, 1, none⟩ (.string { data := #[] })).setCell ⟨bx, 2, none⟩ (.slice (some ⟨w3.heap.size, 0, none⟩) 2 2)) := ⟨_, rfl⟩
  rw [← hW]
  have keep : ∀ b, b ≠ bx → W.heap[b]? = (w3.alloc (.cells #[x0, x1, x2, y0, y1, y2] 24)).heap[b]? := fun b hb => by
    rw [hW, Below.heap_setCell _ _ _ b hb, Below.heap_setCell _ _ _ b hb, Below.heap_setCell _ _ _ b hb]
  have keep3 : ∀ b, b ≠ bx → b < w3.heap.size → W.heap[b]? = w3.heap[b]? := fun b hb hl => (keep b hb).trans (Below.heap_alloc _ _ _ hl)
  have keep2 : ∀ b, b ≠ bx → b ≠ br → b < w2.heap.size → W.heap[b]? = w2.heap[b]? := fun b hb hb2 hl => (keep3 b hb (by omega)).trans (hg3.block b hl (fun e => hb2 (by injection e)))
  have hnew : W.heap[w3.heap.size]? = some (.cells #[x0, x1, x2, y0, y1, y2] 24 (0, 0)) := (keep _ (by omega)).trans (heap_new _ _ rfl)
  have hWs : W.heap.size = w3.heap.size + 1 := by rw [hW]; simp
  have hX : XIs (fun b => w.heap.size + 1 ≤ b ∧ b ≠ bx) W x x0 x1 x2 := XIs.move (fun b hb hlt => ⟨hb, keep2 b hb.2 (by omega) hlt⟩) hx
  have hY : XIs (fun b => w.heap.size + 1 ≤ b ∧ b ≠ bx) W y y0 y1 y2 := XIs.move (fun b hb hlt => ⟨⟨by omega, by omega⟩, keep3 b (by omega) hlt⟩) hy
  refine ⟨mk x y, .int .i64 kd, .string { data := #[] }, .slice (some ⟨w3.heap.size, 0, none⟩) 2 2, j, st3, hbx, by omega, hbr, ?_, ?_, ?_, by omega, hj, ?_, ?_, ?_, ?_, rfl⟩
  · exact (keep2 _ (by omega) (by omega) (by omega)).trans h0
  · have h3 := ((Below.heap_alloc w3 (.cells #[x0, x1, x2, y0, y1, y2] 24) bx (by omega)).trans (hg3.block bx hbx2 (fun e => by injection e with e; omega))).trans hbxc
    rw [hW, heap_set _ (heap_set _ (heap_set _ h3 _) _) _]
    rfl
  · rcases hmk x y with ⟨e1, e2⟩ | ⟨e1, e2⟩
    · rw [e1, e2]
      exact ⟨rfl, ⟨_, rfl, Nat.zero_le _⟩, w3.heap.size, 0, 2, x0, x1, x2, y0, y1, y2, rfl, ⟨by omega, by omega⟩, cell_at hnew _ rfl, cell_at hnew _ rfl, cell_at hnew _ rfl, cell_at hnew _ rfl, cell_at hnew _ rfl, cell_at hnew _ rfl, hX, hY⟩
    · rw [e1, e2]
      exact ⟨rfl, ⟨_, rfl, Nat.zero_le _⟩, w3.heap.size, 0, 2, x0, x1, x2, y0, y1, y2, rfl, ⟨by omega, by omega⟩, cell_at hnew _ rfl, cell_at hnew _ rfl, cell_at hnew _ rfl, cell_at hnew _ rfl, cell_at hnew _ rfl, cell_at hnew _ rfl, hX, hY⟩
  · have hl : (mk x y).leaves = x.leaves + y.leaves := by
      rcases hmk x y with ⟨e1, _⟩ | ⟨e1, _⟩ <;> rw [e1] <;> rfl
    omega
  · exact (keep3 br (by omega) (by omega)).trans hr3
  · refine ⟨?_, ?_, ?_, by have := hg.size; omega, fun b hb hne => ?_⟩
    · rw [hW]; exact hg3.os.trans hg.os
    · rw [hW]; exact hg3.tape.trans hg.tape
    · rw [hW]; exact hg3.output.trans hg.output
    · exact (keep2 b (by omega) (fun e => hne (by rw [e])) (by have := hg.size; omega)).trans (hg.block b hb hne)
  · subst hst
    rw [← hdr] at hsp3
    exact LSpec_step hm hsh hsp hpre hsp3
theorem Seq_end {pf : Nat → Pr} {br : Nat} {s : ByteArray} {i k m : Nat} {d st st' : Int} {w w2 W : World} {bx : Nat} {x : Ex} {x0 x1 x2 : Value} (hbr : br < w.heap.size) (hW : W = ((w2.setCell ⟨w.heap.size, 0, none⟩ x0).setCell ⟨w.heap.size, 1, none⟩ x1).setCell ⟨w.heap.size, 2, none⟩ x2)
    (hx : XIs (fun b => w.heap.size + 1 ≤ b ∧ b ≠ bx) w2 x x0 x1 x2) (hg : w.grownBy w2 (some br)) (hsp : RSpec pf (dropB s i) d st x (skipL (dropB s k)) st') (hsk : skipL (dropB s k) = dropB s m) (hkm : k ≤ m) (hik : i ≤ k) (hm : m ≤ s.size) (hlv : x.leaves ≤ k - i + 1) (hr : RIs w2 br s (m : Nat) d st') :
    RPost pf br s i d st w (.returned (.agg #[x0, x1, x2])) W := by
  have keep : ∀ b, b ≠ w.heap.size → W.heap[b]? = w2.heap[b]? := fun b hb => by
    rw [hW, Below.heap_setCell _ _ _ b hb, Below.heap_setCell _ _ _ b hb, Below.heap_setCell _ _ _ b hb]
  refine ⟨x, x0, x1, x2, m, st', rfl, XIs.move (fun b hb hlt => ⟨by omega, keep b (by omega)⟩) hx, by omega, hm, by omega, (keep br (by omega)).trans hr, ?_, by rw [← hsk]; exact hsp⟩
  refine ⟨by rw [hW]; exact hg.os, by rw [hW]; exact hg.tape, by rw [hW]; exact hg.output, by rw [hW]; simpa using hg.size, fun b hb hne => (keep b (by omega)).trans (hg.block b hb hne)⟩

set_option maxHeartbeats 2000000 in
theorem and_of (N : Nat) (s : ByteArray) (hs : s.size ≤ 1152921504606846976) (hn : NotC N s) : AndC N s := by
  intro br i d st w h hi hN hd0 hd1
  have H := Lib.hid h
  have HN := Lib.hid hn
  have hbr : br < w.heap.size := lt_of_heap h
  clear h hn
  go_enter Tryd.func56, Tryd.ntmps56
  go_wp2_with fail
  refine (HN.out br i d st _ ((Below.heap_alloc _ _ _ hbr).trans H.out) hi hN hd0 hd1).mono ?_
  rintro e1 w1 ⟨x, c0, c1, c2, j, st', rfl, hx, hij, hj, hlv, hr, hg, hsp⟩
  obtain ⟨sx, ax, cx, rfl, rfl, rfl, -⟩ := hx.form
  have hrel0 := SeqRel_start (c := 38) (mk := .and) mon_not hbr hx hij hj hlv hr hg hsp
  have HREL := Lib.hid hrel0
  clear hx hlv hr hg hsp hrel0
  go_wp2_with fail
  go_loopg [] (s.size - j) (fun g wr => SeqRel 38 .and (fun n => notP (pOr n)) br s i d st w w1.heap.size g wr)
  case atStart => exact HREL.out
  case round =>
    obtain ⟨x, c0, c1, c2, k, st', hbx, hbxs, hbr', hh0, hhx, hx, hik, hk, hlv, hr, hg, hsp, rfl⟩ := hrel
    obtain ⟨sx, ax, cx, rfl, rfl, rfl, -⟩ := hx.form
    have HH0 := Lib.hid hh0
    have HHX := Lib.hid hhx
    have HX := Lib.hid hx
    have HR := Lib.hid hr
    have HG := Lib.hid hg
    have HSP := Lib.hid hsp
    clear hh0 hhx hx hr hg hsp HREL
    go_wp2_with fail
    refine (take_any br s { data := #[38, 38] } k d st' _ HR.out hk hs (by decide)).mono ?_
    rintro e2 w2 ⟨m, hkm, hskm, hg2, hcase⟩
    have hs2 := hg2.size
    have hx2 := (hg2.block w1.heap.size hbxs (fun e => by injection e with e; omega)).trans HHX.out
    have h02 := (hg2.block w.heap.size (by omega) (fun e => by injection e with e; omega)).trans HH0.out
    have HX2 := Lib.hid (XIs.move (S' := fun b => w.heap.size + 1 ≤ b ∧ b ≠ w1.heap.size) (fun b hb hlt => ⟨hb, hg2.block b hlt (fun e => by injection e with e; omega)⟩) HX.out)
    have HG2 := Lib.hid (HG.out.trans hg2)
    have p0 := cell_at (o := 0) hx2 (.int .i64 x.kind) rfl
    have p1 := cell_at (o := 1) hx2 (.string sx) rfl
    have p2 := cell_at (o := 2) hx2 (.slice ax x.arity cx) rfl
    have HX2B := Lib.hid hx2
    have H02 := Lib.hid h02
    clear hx2 h02 hg2
    rcases hcase with ⟨rfl, hst, hml, hpre, hr2⟩ | ⟨rfl, hml, hno, hr2⟩
    · have HR2 := Lib.hid hr2
      have HST := Lib.hid hst
      have HPRE : Hid ((skipL (dropB s k)).take 2 = [38, 38]) := Lib.hid (by rw [hskm]; exact hpre)
      have HDR : Hid ((skipL (dropB s k)).drop 2 = dropB s (m + 2)) := Lib.hid (by rw [hskm, dropB_drop])
      have hml2 : m + 2 ≤ s.size := hml
      clear hr2 hst hpre hskm hml
      go_wp2_with fail
      go_region_law ((go_simp; go_at_call 69; refine (HN.out br (m + 2) d st' _ (by exact HR2.out) hml2 (by omega) hd0 hd1).mono ?_; rintro e3 w3 ⟨y, y0, y1, y2, j3, st3, rfl, hy, hij3, hj3, hlv3, hr3, hg3, hsp3⟩; obtain ⟨sy, ay, cy, rfl, rfl, rfl, -⟩ := hy.form; have hs3 : w2.heap.size ≤ w3.heap.size := hg3.size; have hx3 := (hg3.block w1.heap.size (by show _ < w2.heap.size; omega) (fun e => by injection e with e; omega)).trans HX2B.out; have r0 := cell_at (o := 0) hx3 (.int .i64 x.kind) rfl; have r1 := cell_at (o := 1) hx3 (.string sx) rfl; have r2 := cell_at (o := 2) hx3 (.slice ax x.arity cx) rfl; have ra0 := cellsA r0; have ra1 := cellsA r1; have ra2 := cellsA r2; have fra : ∀ (o : Obj) (q : Nat), (w3.alloc o).frozen? ⟨w1.heap.size, q, none⟩ = false := fun o q => (frozen_old_alloc w3 o (lt_of_heap hx3)).trans (free_at hx3 q); have HX3B := Lib.hid hx3; have HY := Lib.hid hy; have HR3 := Lib.hid hr3; have HG3 := Lib.hid hg3; have HSP3 := Lib.hid hsp3; clear hx3 hy hr3 hg3 hsp3))
      all_goals go_wp2
      all_goals (go_roundg (s.size - j3))
      all_goals first
        | omega
        | exact SeqRel_step .and 3 (fun _ _ => .inl ⟨rfl, rfl⟩) mon_not notN_shr hbr' hbx (by omega) H02.out HX2B.out HX2.out HG2.out HSP.out HST.out HPRE.out HDR.out hkm hik hlv HY.out hij3 hj3 hlv3 HR3.out HG3.out HSP3.out
    · have HR2 := Lib.hid hr2
      have HNO : Hid (st' ≠ 1 ∨ (skipL (dropB s k)).take 2 ≠ [38, 38]) := Lib.hid (by rw [hskm]; exact hno)
      have HSK := Lib.hid hskm
      have g0 := cell_at (o := 0) H02.out (.int .i64 0) rfl
      have g1 := cell_at (o := 1) H02.out (.string { data := #[] }) rfl
      have g2 := cell_at (o := 2) H02.out (.slice none 0 0) rfl
      have fg := free_at H02.out
      clear hr2 hno hskm
      go_wp2_with fail
      obtain ⟨W, hW⟩ : ∃ W, W = ((w2.setCell ⟨w.heap.size, 0, none⟩ (.int .i64 x.kind)).setCell ⟨w.heap.size, 1, none⟩ (.string sx)).setCell ⟨w.heap.size, 2, none⟩ (.slice ax x.arity cx) := ⟨_, rfl⟩
      rw [← hW]
      have hh : W.heap[w.heap.size]? = some (.cells #[.int .i64 x.kind, .string sx, .slice ax x.arity cx] 24 (0, 0)) := by
        rw [hW, heap_set _ (heap_set _ (heap_set _ H02.out _) _) _]
        rfl
      have r0 := cell_at (o := 0) hh (.int .i64 x.kind) rfl
      have r1 := cell_at (o := 1) hh (.string sx) rfl
      have r2 := cell_at (o := 2) hh (.slice ax x.arity cx) rfl
      refine bodyPost_ret (v := .agg #[.int .i64 x.kind, .string sx, .slice ax x.arity cx]) (by simp [results, Tryd.results56, go_sem, r0, r1, r2]) rfl ?_
      exact Seq_end hbr' hW HX2.out HG2.out (LSpec_end HSP.out HNO.out) HSK.out hkm hik hml hlv HR2.out

set_option maxHeartbeats 2000000 in
theorem or_of (N : Nat) (s : ByteArray) (hs : s.size ≤ 1152921504606846976) (hn : AndC N s) : OrC N s := by
  intro br i d st w h hi hN hd0 hd1
  have H := Lib.hid h
  have HN := Lib.hid hn
  have hbr : br < w.heap.size := lt_of_heap h
  clear h hn
  go_enter Tryd.func41, Tryd.ntmps41
  go_wp2_with fail
  refine (HN.out br i d st _ ((Below.heap_alloc _ _ _ hbr).trans H.out) hi hN hd0 hd1).mono ?_
  rintro e1 w1 ⟨x, c0, c1, c2, j, st', rfl, hx, hij, hj, hlv, hr, hg, hsp⟩
  obtain ⟨sx, ax, cx, rfl, rfl, rfl, -⟩ := hx.form
  have hrel0 := SeqRel_start (c := 124) (mk := .or) mon_and hbr hx hij hj hlv hr hg hsp
  have HREL := Lib.hid hrel0
  clear hx hlv hr hg hsp hrel0
  go_wp2_with fail
  go_loopg [] (s.size - j) (fun g wr => SeqRel 124 .or (fun n => andP (pOr n)) br s i d st w w1.heap.size g wr)
  case atStart => exact HREL.out
  case round =>
    obtain ⟨x, c0, c1, c2, k, st', hbx, hbxs, hbr', hh0, hhx, hx, hik, hk, hlv, hr, hg, hsp, rfl⟩ := hrel
    obtain ⟨sx, ax, cx, rfl, rfl, rfl, -⟩ := hx.form
    have HH0 := Lib.hid hh0
    have HHX := Lib.hid hhx
    have HX := Lib.hid hx
    have HR := Lib.hid hr
    have HG := Lib.hid hg
    have HSP := Lib.hid hsp
    clear hh0 hhx hx hr hg hsp HREL
    go_wp2_with fail
    refine (take_any br s { data := #[124, 124] } k d st' _ HR.out hk hs (by decide)).mono ?_
    rintro e2 w2 ⟨m, hkm, hskm, hg2, hcase⟩
    have hs2 := hg2.size
    have hx2 := (hg2.block w1.heap.size hbxs (fun e => by injection e with e; omega)).trans HHX.out
    have h02 := (hg2.block w.heap.size (by omega) (fun e => by injection e with e; omega)).trans HH0.out
    have HX2 := Lib.hid (XIs.move (S' := fun b => w.heap.size + 1 ≤ b ∧ b ≠ w1.heap.size) (fun b hb hlt => ⟨hb, hg2.block b hlt (fun e => by injection e with e; omega)⟩) HX.out)
    have HG2 := Lib.hid (HG.out.trans hg2)
    have p0 := cell_at (o := 0) hx2 (.int .i64 x.kind) rfl
    have p1 := cell_at (o := 1) hx2 (.string sx) rfl
    have p2 := cell_at (o := 2) hx2 (.slice ax x.arity cx) rfl
    have HX2B := Lib.hid hx2
    have H02 := Lib.hid h02
    clear hx2 h02 hg2
    rcases hcase with ⟨rfl, hst, hml, hpre, hr2⟩ | ⟨rfl, hml, hno, hr2⟩
    · have HR2 := Lib.hid hr2
      have HST := Lib.hid hst
      have HPRE : Hid ((skipL (dropB s k)).take 2 = [124, 124]) := Lib.hid (by rw [hskm]; exact hpre)
      have HDR : Hid ((skipL (dropB s k)).drop 2 = dropB s (m + 2)) := Lib.hid (by rw [hskm, dropB_drop])
      have hml2 : m + 2 ≤ s.size := hml
      clear hr2 hst hpre hskm hml
      go_wp2_with fail
      go_region_law ((go_simp; go_at_call 56; refine (HN.out br (m + 2) d st' _ (by exact HR2.out) hml2 (by omega) hd0 hd1).mono ?_; rintro e3 w3 ⟨y, y0, y1, y2, j3, st3, rfl, hy, hij3, hj3, hlv3, hr3, hg3, hsp3⟩; obtain ⟨sy, ay, cy, rfl, rfl, rfl, -⟩ := hy.form; have hs3 : w2.heap.size ≤ w3.heap.size := hg3.size; have hx3 := (hg3.block w1.heap.size (by show _ < w2.heap.size; omega) (fun e => by injection e with e; omega)).trans HX2B.out; have r0 := cell_at (o := 0) hx3 (.int .i64 x.kind) rfl; have r1 := cell_at (o := 1) hx3 (.string sx) rfl; have r2 := cell_at (o := 2) hx3 (.slice ax x.arity cx) rfl; have ra0 := cellsA r0; have ra1 := cellsA r1; have ra2 := cellsA r2; have fra : ∀ (o : Obj) (q : Nat), (w3.alloc o).frozen? ⟨w1.heap.size, q, none⟩ = false := fun o q => (frozen_old_alloc w3 o (lt_of_heap hx3)).trans (free_at hx3 q); have HX3B := Lib.hid hx3; have HY := Lib.hid hy; have HR3 := Lib.hid hr3; have HG3 := Lib.hid hg3; have HSP3 := Lib.hid hsp3; clear hx3 hy hr3 hg3 hsp3))
      all_goals go_wp2
      all_goals (go_roundg (s.size - j3))
      all_goals first
        | omega
        | exact SeqRel_step .or 4 (fun _ _ => .inr ⟨rfl, rfl⟩) mon_and andN_shr hbr' hbx (by omega) H02.out HX2B.out HX2.out HG2.out HSP.out HST.out HPRE.out HDR.out hkm hik hlv HY.out hij3 hj3 hlv3 HR3.out HG3.out HSP3.out
    · have HR2 := Lib.hid hr2
      have HNO : Hid (st' ≠ 1 ∨ (skipL (dropB s k)).take 2 ≠ [124, 124]) := Lib.hid (by rw [hskm]; exact hno)
      have HSK := Lib.hid hskm
      have g0 := cell_at (o := 0) H02.out (.int .i64 0) rfl
      have g1 := cell_at (o := 1) H02.out (.string { data := #[] }) rfl
      have g2 := cell_at (o := 2) H02.out (.slice none 0 0) rfl
      have fg := free_at H02.out
      clear hr2 hno hskm
      go_wp2_with fail
      obtain ⟨W, hW⟩ : ∃ W, W = ((w2.setCell ⟨w.heap.size, 0, none⟩ (.int .i64 x.kind)).setCell ⟨w.heap.size, 1, none⟩ (.string sx)).setCell ⟨w.heap.size, 2, none⟩ (.slice ax x.arity cx) := ⟨_, rfl⟩
      rw [← hW]
      have hh : W.heap[w.heap.size]? = some (.cells #[.int .i64 x.kind, .string sx, .slice ax x.arity cx] 24 (0, 0)) := by
        rw [hW, heap_set _ (heap_set _ (heap_set _ H02.out _) _) _]
        rfl
      have r0 := cell_at (o := 0) hh (.int .i64 x.kind) rfl
      have r1 := cell_at (o := 1) hh (.string sx) rfl
      have r2 := cell_at (o := 2) hh (.slice ax x.arity cx) rfl
      refine bodyPost_ret (v := .agg #[.int .i64 x.kind, .string sx, .slice ax x.arity cx]) (by simp [results, Tryd.results41, go_sem, r0, r1, r2]) rfl ?_
      exact Seq_end hbr' hW HX2.out HG2.out (LSpec_end HSP.out HNO.out) HSK.out hkm hik hml hlv HR2.out
end Go.Proofs.YteemenhinhkonaaDoor
