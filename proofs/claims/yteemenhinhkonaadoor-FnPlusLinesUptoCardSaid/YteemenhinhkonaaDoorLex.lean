/- The package's lexer. -/
import Derived.Test.YteemenhinhkonaaDoorProg
import Derived.Test.YteemenhinhkonaaDoorPar
import Derived.Deep.QuietTactic
import Derived.BigQuiet
import Derived.Deep.LoopGhost
import Derived.Deep.RegionHeld3

import Derived.Lib.OthersKept
namespace Go.Proofs.YteemenhinhkonaaDoor
open Go.RowKit

theorem encode_size (r : Int) : (Utf8.encode r).size ≤ 4 := by
  unfold Utf8.encode
  dsimp only
  repeat' split
  all_goals simp [ByteArray.size]
def invS : ByteArray := { data := #[105, 110, 118, 97, 108, 105, 100, 32, 115, 121, 110, 116, 97, 120, 32, 97, 116, 32] }
def LexRel (bp : Nat) (s tok : ByteArray) (i pos z : Nat) (w : World) (g : Nat) (wr : World) : Prop :=
  ∃ k : Nat, i ≤ k ∧ k ≤ s.size ∧ g = s.size - k ∧ PIs wr bp s tok k false pos z ∧ skipL (dropB s i) = skipL (dropB s k) ∧ w.grownBy wr (some bp)
theorem LexRel_step {bp : Nat} {s tok : ByteArray} {i k pos z : Nat} {w wr : World} (hlt : k < s.size) (hik : i ≤ k) (hr : PIs wr bp s tok k false pos z) (hsk : skipL (dropB s i) = skipL (dropB s k)) (hg : w.grownBy wr (some bp)) (hb : blankB s[k] = true) (nq : Nat) :
    LexRel bp s tok i pos z w (s.size - (k + 1)) ((wr.drewN nq).setCell ⟨bp, 1, none⟩ (.int .i64 ((k : Int) + 1))) :=
  ⟨k + 1, by omega, hlt, rfl, by have := PIs.set1 (w := wr.drewN nq) hr ((k : Int) + 1); simpa using this, hsk.trans (skipL_blank s k hlt hb), grown_set (grown_drewN hg nq) _ _⟩
theorem lex_end {bp : Nat} {s tok : ByteArray} {i k pos z : Nat} {w wr W : World} (hk : s.size ≤ k) (hks : k ≤ s.size) (hr : PIs wr bp s tok k false pos z) (hsk : skipL (dropB s i) = skipL (dropB s k)) (hg : w.grownBy wr (some bp)) (n : Nat)
    (hW : W = ((wr.drewN n).setCell ⟨bp, 2, none⟩ (.string { data := #[] })).setCell ⟨bp, 4, none⟩ (.int .i64 (k : Int))) : LexPost bp s (toks tlG (dropB s i)) z w (.returned (.tuple #[])) W := by
  have e : toks tlG (dropB s i) = [] := toks_nil (by rw [hsk, dropB_nil s k hk]; rfl)
  subst hW
  refine ⟨grown_set (grown_set (grown_drewN hg n) _ _) _ _, .inl ⟨by rw [e]; rfl, rfl, k, k, ?_, hks, hks, by rw [e, dropB_nil s k hk]; rfl, by rw [e]; rfl⟩⟩
  rw [e]
  exact ((hr.drewN n).set2 _).set4 _
/- a token that is one sign, or an operator, from k on -/
theorem lex_tok {bp : Nat} {s tok : ByteArray} {i k z n : Nat} {w wy : World} {ts : List Tok} (hks : k + n ≤ s.size) (hr : PIs wy bp s tok ((k : Int) + (n : Int)) false k z) (hts : toks tlG (dropB s i) = ts) (he : errB ts = false) (htx : (dropB s k).take n = headText ts) (htg : headTag ts = false) (htl : toks tlG (dropB s (k + n)) = ts.tail) (hg : w.grownBy wy (some bp)) :
    LexPost bp s (toks tlG (dropB s i)) z w (.returned (.tuple #[])) (wy.setCell ⟨bp, 2, none⟩ (.string (s.extract k (k + n)))).drew := by
  refine ⟨grown_drewN (grown_set hg _ _) 1, .inl ⟨by rw [hts]; exact he, rfl, k + n, k, ?_, hks, by omega, by rw [hts]; exact htl, by rw [hts]; exact he⟩⟩
  have := hr.set2 (mkB (headText ts))
  rw [hts, htg, extract_any, htx, show ((k + n : Nat) : Int) = (k : Int) + (n : Int) from by omega]
  exact this

theorem lex_bad {bp : Nat} {s : ByteArray} {i k z : Nat} {w wy : World} (hk : k ≤ s.size) (he : toks tlG (dropB s i) = [.err]) (hg : w.grownBy wy (some bp)) (msg : ByteArray) (hm : msg.size ≤ 2305843009213693952) :
    LexPost bp s (toks tlG (dropB s i)) z w (.panicked [{ v := .iface 69 (.pointer (some ⟨wy.heap.size, 0, none⟩)), recovered := false }]) (wy.alloc (.cells #[.int .i64 (k : Int), .string msg] 72)).drew :=
  ⟨grown_drewN (hg.trans (World.grownBy_alloc _ _ _)) 1, .inr ⟨by rw [he]; rfl, wy.heap.size, k, msg, [], rfl, by simp, heap_new _ _ rfl, hg.size, by omega, by omega, hm⟩⟩
theorem lex_bad0 {bp : Nat} {s : ByteArray} {i k z : Nat} {w wy : World} (hk : k ≤ s.size) (he : toks tlG (dropB s i) = [.err]) (hg : w.grownBy wy (some bp)) (msg : ByteArray) (hm : msg.size ≤ 2305843009213693952) :
    LexPost bp s (toks tlG (dropB s i)) z w (.panicked [{ v := .iface 69 (.pointer (some ⟨wy.heap.size, 0, none⟩)), recovered := false }]) (wy.alloc (.cells #[.int .i64 (k : Int), .string msg] 72)) :=
  ⟨hg.trans (World.grownBy_alloc _ _ _), .inr ⟨by rw [he]; rfl, wy.heap.size, k, msg, [], rfl, by simp, heap_new _ _ rfl, hg.size, by omega, by omega, hm⟩⟩
theorem below_undrew {w w' : World} (h : Below w.drew.heap.size w.drew w') : Below w.heap.size w w' := ⟨h.os, h.tape, h.output, h.size, h.block⟩
theorem inv_size (r : Int) : (invS ++ Utf8.encode r).size ≤ 2305843009213693952 := by
  rw [ByteArray.size_append]
  have := encode_size r
  have e : invS.size = 18 := rfl
  omega

theorem empty_no {s : ByteArray} (h : 0 < s.size) : s.toList.isEmpty = false := by
  rw [ByteArray.toList_eq]
  have h1 : s.data.toList.length = s.size := by simp
  cases hl : s.data.toList with
  | nil => rw [hl] at h1; simp at h1; omega
  | cons a l => rfl
theorem empty_yes {s : ByteArray} (h : s.size = 0) : s.toList.isEmpty = true := by
  rw [ByteArray.toList_eq]
  have h1 : s.data.toList.length = s.size := by simp
  cases hl : s.data.toList with
  | nil => rfl
  | cons a l => rw [hl] at h1; simp at h1; omega
/- the look for a tag's end -/
theorem grown_iterAt {w wr : World} {row : Option Nat} (h : w.grownBy wr row) {bi : Nat} (hb : w.heap.size ≤ bi) (T : ByteArray) (p : Nat) : w.grownBy (wr.iterAt bi T p) row :=
  ⟨h.os, h.tape, h.output, by rw [Lib.iterAt_size]; exact h.size, fun k hk hne => (Lib.iterAt_other wr bi k T p (by omega)).trans (h.block k hk hne)⟩
theorem grown_below {w wr w' : World} {row : Option Nat} (h : w.grownBy wr row) (hb : Below wr.heap.size wr w') : w.grownBy w' row :=
  ⟨hb.os.trans h.os, hb.tape.trans h.tape, hb.output.trans h.output, Nat.le_trans h.size hb.size, fun k hk hne => (hb.block k (Nat.lt_of_lt_of_le hk h.size)).trans (h.block k hk hne)⟩
theorem PIs.below {w w' : World} {bp : Nat} {s tok : ByteArray} {i : Int} {tg : Bool} {pos z : Int} (h : PIs w bp s tok i tg pos z) (hb : Below w.heap.size w w') : PIs w' bp s tok i tg pos z := (hb.block bp (lt_of_heap h)).trans h
theorem PIs.iterAt {w : World} {bp bi : Nat} {s tok : ByteArray} {i : Int} {tg : Bool} {pos z : Int} (h : PIs w bp s tok i tg pos z) (hne : bp ≠ bi) (T : ByteArray) (p : Nat) : PIs (w.iterAt bi T p) bp s tok i tg pos z := (Lib.iterAt_other w bi bp T p hne).trans h
theorem tabs_of {n bp : Nat} {w wr : World} (hT : TabsN n w) (hn : n ≤ bp) (hl : bp < w.heap.size) (hg : w.grownBy wr (some bp)) : Tabs wr := (hT.next fun b hb => hg.block b (by omega) (by intro e; injection e with e; omega)).here
theorem width_pos (s : ByteArray) (p : Nat) (h : p < s.size) : 1 ≤ (Utf8.decode s p).2 := by
  by_cases ha : s[p].toNat < 128
  · rw [decode_ascii s p h ha]
    exact Nat.le_refl _
  · exact (decode_high s p h (by omega)).2
def TgRel (bp bi : Nat) (s tok T : ByteArray) (k pos z : Nat) (w : World) (v2 : Value) (g : Nat) (wr : World) : Prop :=
  ∃ p f : Nat, v2 = .string T ∧ g = T.size - p ∧ wr.heap[bi]? = some (.stringIter T p) ∧ PIs wr bp s tok k false pos z ∧ w.grownBy wr (some bp) ∧ T.size < f + p ∧ tagEnd T f p = tagEnd T (T.size + 1) 0
theorem TgRel_step {bp bi : Nat} {s tok T : ByteArray} {k pos z p f : Nat} {w wr w' : World} (hp : p < T.size) (hit : wr.heap[bi]? = some (.stringIter T p)) (hne : bp ≠ bi) (hbi : w.heap.size ≤ bi) (hr : PIs wr bp s tok k false pos z) (hg : w.grownBy wr (some bp)) (hf : T.size < f + p) (he : tagEnd T f p = tagEnd T (T.size + 1) 0)
    (hok : runeOk (Utf8.decode T p).1 = true) (hb : Below (wr.iterAt bi T (p + (Utf8.decode T p).2)).heap.size (wr.iterAt bi T (p + (Utf8.decode T p).2)) w') : TgRel bp bi s tok T k pos z w (.string T) (T.size - (p + (Utf8.decode T p).2)) w' := by
  have hit2 := Lib.iterAt_heap wr bi T p (p + (Utf8.decode T p).2) hit
  obtain ⟨f, rfl⟩ : ∃ f', f = f' + 1 := ⟨f - 1, by omega⟩
  have hw := width_pos T p hp
  exact ⟨p + (Utf8.decode T p).2, f, rfl, rfl, (hb.block bi (lt_of_heap hit2)).trans hit2, (hr.iterAt hne _ _).below hb, grown_below (grown_iterAt hg hbi _ _) hb, by omega, by rw [← he, tagEnd_go hp hok]⟩
theorem tag_none {s T : ByteArray} {i k f : Nat} (hT : T = mkB (dropB s k)) (hsk : skipL (dropB s i) = dropB s k) (hlt : k < s.size) (h1 : symB s[k] = false) (h2 : opB s[k] = false) (hf : T.size < f) (he : tagEnd T f 0 = tagEnd T (T.size + 1) 0) (hb : runeOk (Utf8.decode T 0).1 = false) (h0 : 0 < T.size) : toks tlG (dropB s i) = [.err] := by
  refine toks_none (hsk.trans (dropB_cons s k hlt)) h1 h2 ?_
  rw [← dropB_cons s k hlt]
  unfold tlG
  rw [← hT, show (dropB s k).length + 1 = T.size + 1 from by rw [hT, mkB_size], ← he]
  exact tagEnd_stop h0 (by omega) hb
theorem tag_some {s T : ByteArray} {i k m : Nat} (hT : T = mkB (dropB s k)) (hsk : skipL (dropB s i) = dropB s k) (hlt : k < s.size) (h1 : symB s[k] = false) (h2 : opB s[k] = false) (he : tagEnd T (T.size + 1) 0 = m) (h0 : 0 < m) : toks tlG (dropB s i) = .tag ((dropB s k).take m) :: toks tlG (dropB s (k + m)) := by
  have e : tlG (dropB s k) = m := by
    unfold tlG
    rw [← hT, show (dropB s k).length + 1 = T.size + 1 from by rw [hT, mkB_size]]
    exact he
  have := toks_tag (tl := tlG) (hsk.trans (dropB_cons s k hlt)) h1 h2 (by rw [← dropB_cons s k hlt, e]; omega)
  rw [← dropB_cons s k hlt, e, dropB_drop] at this
  exact this
theorem lex_tag {bp : Nat} {s tok : ByteArray} {i k z m : Nat} {w wy : World} (hks : k + m ≤ s.size) (hr : PIs wy bp s tok ((k : Int) + (m : Int)) false k z) (hts : toks tlG (dropB s i) = .tag ((dropB s k).take m) :: toks tlG (dropB s (k + m))) (hg : w.grownBy wy (some bp)) :
    LexPost bp s (toks tlG (dropB s i)) z w (.returned (.tuple #[])) ((wy.setCell ⟨bp, 2, none⟩ (.string (s.extract k (k + m)))).setCell ⟨bp, 3, none⟩ (.bool true)).drew := by
  refine ⟨grown_drewN (grown_set (grown_set hg _ _) _ _) 1, .inl ⟨by rw [hts]; rfl, rfl, k + m, k, ?_, hks, by omega, by rw [hts]; rfl, by rw [hts]; rfl⟩⟩
  have := (hr.set2 (mkB ((dropB s k).take m))).set3 true
  rw [hts, extract_any, show ((k + m : Nat) : Int) = (k : Int) + (m : Int) from by omega]
  exact this

set_option maxHeartbeats 4000000 in
set_option maxRecDepth 10000000 in
theorem lex_any (n bp : Nat) (s tok : ByteArray) (i : Nat) (tg : Bool) (pos z : Nat) (w : World) (h : PIs w bp s tok i tg pos z) (hi : i ≤ s.size) (hs : s.size ≤ 1152921504606846976) (hT : TabsN n w) (hn : n ≤ bp) :
    Calls Tryd.prog 120 #[.pointer (some ⟨bp, 0, none⟩)] w (LexPost bp s (toks tlG (dropB s i)) z w) := by
  have f3 := h.f 3
  have c3 := h.c3
  have H := Lib.hid (h.set3 false)
  have HG := Lib.hid (grown_set (World.grownBy.refl w (some bp)) 3 (.bool false))
  have HT := Lib.hid hT
  have hlb0 := lt_of_heap h
  clear h hT
  go_enter Tryd.func120, Tryd.ntmps120
  go_wp2_with fail
  clear f3 c3
  go_loopg [] (s.size - i) (fun g wr => LexRel bp s tok i pos z w g wr)
  case atStart => exact ⟨i, Nat.le_refl _, hi, rfl, H.out, rfl, HG.out⟩
  case round =>
    clear H HG
    obtain ⟨k, hik, hk, rfl, hr, hsk, hg⟩ := hrel
    have q0 := hr.c0
    have q1 := hr.c1
    have q2 := hr.c2
    have q3 := hr.c3
    have q4 := hr.c4
    have f1 := hr.f 1
    have f2 := hr.f 2
    have f3 := hr.f 3
    have f4 := hr.f 4
    have HR := Lib.hid hr
    have HSK := Lib.hid hsk
    have HG := Lib.hid hg
    clear hr hsk hg
    have hk0 : (0 : Int) ≤ (k : Int) := by omega
    by_cases hlt : k < s.size
    · have hlt2 : ((k : Int) < (s.size : Int)) := by omega
      have hlt3 : decide (k < s.size) = true := by simp; omega
      obtain ⟨c, hc⟩ : ∃ c : Nat, s[k].toNat = c := ⟨_, rfl⟩
      have hbl : blankB s[k] = (c == 32 || c == 9) := by rw [blankB, byte_beq, byte_beq, hc]; rfl
      have HBL := Lib.hid hbl
      clear hbl
      by_cases h32 : c = 32
      · have b32 : ((s[k].toNat : Int) == 32) = true := by rw [hc, h32]; rfl
        have HK : Hid (blankB s[k] = true) := by rw [HBL.out, h32]; rfl
        clear hc h32 HBL
        go_wp2_with fail
        go_quiet (fail)
        go_wp2_with fail
        go_roundg (s.size - (k + 1))
        case measure => omega
        case rel => exact LexRel_step hlt hik HR.out HSK.out HG.out HK.out nq
      · have b32 : ((s[k].toNat : Int) == 32) = false := by rw [hc]; simp; omega
        by_cases h9 : c = 9
        · have b9 : ((s[k].toNat : Int) == 9) = true := by rw [hc, h9]; rfl
          have HK : Hid (blankB s[k] = true) := by rw [HBL.out, h9]; rfl
          clear hc h32 HBL h9
          go_wp2_with fail
          go_quiet (fail)
          go_wp2_with fail
          go_roundg (s.size - (k + 1))
          case measure => omega
          case rel => exact LexRel_step hlt hik HR.out HSK.out HG.out HK.out nq
        · have b9 : ((s[k].toNat : Int) == 9) = false := by rw [hc]; simp; omega
          have HK : Hid (blankB s[k] = false) := Lib.hid (by rw [HBL.out]; simp [h32, h9])
          have hge3 : decide (s.size ≤ k) = false := by simp; omega
          have hge4 : decide ((s.size : Int) ≤ (k : Int)) = false := by simp; omega
          have HCC := Lib.hid hc
          clear h32 h9 HBL hc
          go_wp2_with fail
          go_quiet (fail)
          revert nq
          intro nqa
          go_wp2_with fail
          go_quiet (fail)
          revert nq
          intro nqb
          go_wp2_with fail
          go_quiet (fail)
          obtain ⟨wz, hwz⟩ : ∃ wz, wz = ((wr.drewN nqa).drewN nqb).drewN nq := ⟨_, rfl⟩
          rw [← hwz]
          have HZ : Hid (PIs wz bp s tok k false pos z) := Lib.hid (by rw [hwz]; exact ((HR.out.drewN _).drewN _).drewN _)
          have HGZ : Hid (w.grownBy wz (some bp)) := Lib.hid (by rw [hwz]; exact grown_drewN (grown_drewN (grown_drewN HG.out _) _) _)
          have HSK2 : Hid (skipL (dropB s i) = dropB s k) := Lib.hid (HSK.out.trans (skipL_stop s k hlt HK.out))
          clear hwz q0 q1 q2 q3 q4 f1 f2 f3 f4 HR HG HSK HK b32 b9
          have q0 := HZ.out.c0
          have q1 := HZ.out.c1
          have q2 := HZ.out.c2
          have q3 := HZ.out.c3
          have q4 := HZ.out.c4
          have f1 := HZ.out.f 1
          have f2 := HZ.out.f 2
          have f3 := HZ.out.f 3
          have f4 := HZ.out.f 4
          have hk1 : (k : Int) + 1 ≤ (s.size : Int) := by omega
          have hn0 : (0 : Int) ≤ (k : Int) + 1 := by omega
          have hsl1 : ∀ wx, (Instr.slice 9 (.string s) (some (.int .i64 (k : Int))) (some (.int .i64 ((k : Int) + 1))) none).run Tryd.prog wx = .ok (.string (s.extract k (k + 1))) wx := fun wx => by
            have := run_slice_string (P := Tryd.prog) wx 9 s .i64 .i64 (k : Int) ((k : Int) + 1) Tryd.underlying9 (by omega) (by omega) (by omega)
            rwa [show ((k : Int) + 1).toNat = k + 1 from by omega, show ((k : Int)).toNat = k from by omega] at this
          by_cases h40 : c = 40
          · have b40 : ((s[k].toNat : Int) == 40) = true := by rw [HCC.out, h40]; rfl
            have HC : Hid (symB s[k] = true) := Lib.hid (by unfold symB; rw [byte_beq, byte_beq, byte_beq, HCC.out, h40]; rfl)
            clear h40 
            go_wp2_with fail
            obtain ⟨wy, hwy⟩ : ∃ wy, wy = (wz.setCell ⟨bp, 4, none⟩ (.int .i64 (k : Int))).setCell ⟨bp, 1, none⟩ (.int .i64 ((k : Int) + 1)) := ⟨_, rfl⟩
            rw [← hwy]
            have HY : Hid (PIs wy bp s tok ((k : Int) + 1) false k z) := Lib.hid (by rw [hwy]; exact (HZ.out.set4 _).set1 _)
            have HGY : Hid (w.grownBy wy (some bp)) := Lib.hid (by rw [hwy]; exact grown_set (grown_set HGZ.out _ _) _ _)
            clear hwy q0 q1 q2 q3 q4 f1 f2 f3 f4 HZ HGZ
            have q0 := HY.out.c0
            have q1 := HY.out.c1
            have q2 := HY.out.c2
            have q4 := HY.out.c4
            have f2 := HY.out.f 2
            go_region_held3 (fun w' => w'.cell? ⟨bp, 0, none⟩ = some (.string s) ∧ w'.cell? ⟨bp, 4, none⟩ = some (.int .i64 (k : Int)) ∧ w'.cell? ⟨bp, 1, none⟩ = some (.int .i64 ((k : Int) + 1))) (first | exact ⟨q0, q4, q1⟩ | exact ⟨(HY.out.set2 _).c0, (HY.out.set2 _).c4, (HY.out.set2 _).c1⟩) ((fail))
            all_goals
              go_wp2_with fail
              go_end0
              exact lex_tok (n := 1) (by omega) HY.out (toks_sym (HSK2.out.trans (dropB_cons s k hlt)) HC.out) rfl (by rw [dropB_cons s k hlt]; rfl) rfl rfl HGY.out
          by_cases h41 : c = 41
          · have b40 : ((s[k].toNat : Int) == 40) = false := by rw [HCC.out]; simp; omega
            have b41 : ((s[k].toNat : Int) == 41) = true := by rw [HCC.out, h41]; rfl
            have HC : Hid (symB s[k] = true) := Lib.hid (by unfold symB; rw [byte_beq, byte_beq, byte_beq, HCC.out, h41]; rfl)
            clear h41 h40
            go_wp2_with fail
            obtain ⟨wy, hwy⟩ : ∃ wy, wy = (wz.setCell ⟨bp, 4, none⟩ (.int .i64 (k : Int))).setCell ⟨bp, 1, none⟩ (.int .i64 ((k : Int) + 1)) := ⟨_, rfl⟩
            rw [← hwy]
            have HY : Hid (PIs wy bp s tok ((k : Int) + 1) false k z) := Lib.hid (by rw [hwy]; exact (HZ.out.set4 _).set1 _)
            have HGY : Hid (w.grownBy wy (some bp)) := Lib.hid (by rw [hwy]; exact grown_set (grown_set HGZ.out _ _) _ _)
            clear hwy q0 q1 q2 q3 q4 f1 f2 f3 f4 HZ HGZ
            have q0 := HY.out.c0
            have q1 := HY.out.c1
            have q2 := HY.out.c2
            have q4 := HY.out.c4
            have f2 := HY.out.f 2
            go_region_held3 (fun w' => w'.cell? ⟨bp, 0, none⟩ = some (.string s) ∧ w'.cell? ⟨bp, 4, none⟩ = some (.int .i64 (k : Int)) ∧ w'.cell? ⟨bp, 1, none⟩ = some (.int .i64 ((k : Int) + 1))) (first | exact ⟨q0, q4, q1⟩ | exact ⟨(HY.out.set2 _).c0, (HY.out.set2 _).c4, (HY.out.set2 _).c1⟩) ((fail))
            all_goals
              go_wp2_with fail
              go_end0
              exact lex_tok (n := 1) (by omega) HY.out (toks_sym (HSK2.out.trans (dropB_cons s k hlt)) HC.out) rfl (by rw [dropB_cons s k hlt]; rfl) rfl rfl HGY.out
          by_cases h33 : c = 33
          · have b40 : ((s[k].toNat : Int) == 40) = false := by rw [HCC.out]; simp; omega
            have b41 : ((s[k].toNat : Int) == 41) = false := by rw [HCC.out]; simp; omega
            have b33 : ((s[k].toNat : Int) == 33) = true := by rw [HCC.out, h33]; rfl
            have HC : Hid (symB s[k] = true) := Lib.hid (by unfold symB; rw [byte_beq, byte_beq, byte_beq, HCC.out, h33]; rfl)
            clear h33 h40 h41
            go_wp2_with fail
            obtain ⟨wy, hwy⟩ : ∃ wy, wy = (wz.setCell ⟨bp, 4, none⟩ (.int .i64 (k : Int))).setCell ⟨bp, 1, none⟩ (.int .i64 ((k : Int) + 1)) := ⟨_, rfl⟩
            rw [← hwy]
            have HY : Hid (PIs wy bp s tok ((k : Int) + 1) false k z) := Lib.hid (by rw [hwy]; exact (HZ.out.set4 _).set1 _)
            have HGY : Hid (w.grownBy wy (some bp)) := Lib.hid (by rw [hwy]; exact grown_set (grown_set HGZ.out _ _) _ _)
            clear hwy q0 q1 q2 q3 q4 f1 f2 f3 f4 HZ HGZ
            have q0 := HY.out.c0
            have q1 := HY.out.c1
            have q2 := HY.out.c2
            have q4 := HY.out.c4
            have f2 := HY.out.f 2
            go_region_held3 (fun w' => w'.cell? ⟨bp, 0, none⟩ = some (.string s) ∧ w'.cell? ⟨bp, 4, none⟩ = some (.int .i64 (k : Int)) ∧ w'.cell? ⟨bp, 1, none⟩ = some (.int .i64 ((k : Int) + 1))) (first | exact ⟨q0, q4, q1⟩ | exact ⟨(HY.out.set2 _).c0, (HY.out.set2 _).c4, (HY.out.set2 _).c1⟩) ((fail))
            all_goals
              go_wp2_with fail
              go_end0
              exact lex_tok (n := 1) (by omega) HY.out (toks_sym (HSK2.out.trans (dropB_cons s k hlt)) HC.out) rfl (by rw [dropB_cons s k hlt]; rfl) rfl rfl HGY.out
          by_cases h38 : c = 38
          · have b40 : ((s[k].toNat : Int) == 40) = false := by rw [HCC.out]; simp; omega
            have b41 : ((s[k].toNat : Int) == 41) = false := by rw [HCC.out]; simp; omega
            have b33 : ((s[k].toNat : Int) == 33) = false := by rw [HCC.out]; simp; omega
            have b38 : ((s[k].toNat : Int) == 38) = true := by rw [HCC.out, h38]; rfl
            have HC : Hid (opB s[k] = true) := Lib.hid (by unfold opB; rw [byte_beq, byte_beq, HCC.out, h38]; rfl)
            have e38 : s[k].toNat = 38 := by rw [HCC.out, h38]
            clear h38 h40 h41 h33 hsl1
            have hn1 : ((k : Int) + 1).toNat = k + 1 := by omega
            have hwr : IntKind.i64.wrap ((k : Int) + 1) = (k : Int) + 1 := IntWalk.i64_in _ (by omega)
            by_cases hk2 : k + 1 < s.size
            · have g1 : decide ((s.size : Int) ≤ (k : Int) + 1) = false := by simp; omega
              have g2 : (k : Int) + 1 < (s.size : Int) := by omega
              by_cases heq : s[k + 1].toNat = s[k].toNat
              · have hne : ((s[k + 1].toNat : Int) != (s[k].toNat : Int)) = false := by simp; omega
                have HTK : Hid (toks tlG (dropB s i) = .op s[k] :: toks tlG (dropB s (k + 2))) := Lib.hid (toks_op (HSK2.out.trans (by rw [dropB_cons s k hlt, dropB_cons s (k + 1) hk2, UInt8.toNat_inj.1 heq])) HC.out)
                have HTX : Hid ((dropB s k).take 2 = [s[k], s[k]]) := Lib.hid (by rw [dropB_cons s k hlt, dropB_cons s (k + 1) hk2, UInt8.toNat_inj.1 heq]; rfl)
                clear heq e38
                go_wp2_with fail
                go_quiet (fail)
                clear hwr
                go_wp2_with fail
                obtain ⟨wy, hwy⟩ : ∃ wy, wy = ((wz.drewN nq).setCell ⟨bp, 4, none⟩ (.int .i64 (k : Int))).setCell ⟨bp, 1, none⟩ (.int .i64 ((k : Int) + 2)) := ⟨_, rfl⟩
                have hwy2 : wy = ((wz.setCell ⟨bp, 4, none⟩ (.int .i64 (k : Int))).setCell ⟨bp, 1, none⟩ (.int .i64 ((k : Int) + 2))).drewN nq := hwy
                first | rw [← hwy] | rw [← hwy2]
                have HY : Hid (PIs wy bp s tok ((k : Int) + 2) false k z) := Lib.hid (by rw [hwy]; exact ((HZ.out.drewN _).set4 _).set1 _)
                have HGY : Hid (w.grownBy wy (some bp)) := Lib.hid (by rw [hwy]; exact grown_set (grown_set (grown_drewN HGZ.out _) _ _) _ _)
                clear hwy hwy2 q0 q1 q2 q3 q4 f1 f2 f3 f4 HZ HGZ
                have q0 := HY.out.c0
                have q1 := HY.out.c1
                have q2 := HY.out.c2
                have q4 := HY.out.c4
                have f2 := HY.out.f 2
                have hn2 : (0 : Int) ≤ (k : Int) + 2 := by omega
                have hk2i : (k : Int) + 2 ≤ (s.size : Int) := by omega
                have hsl2 : ∀ wx, (Instr.slice 9 (.string s) (some (.int .i64 (k : Int))) (some (.int .i64 ((k : Int) + 2))) none).run Tryd.prog wx = .ok (.string (s.extract k (k + 2))) wx := fun wx => by
                  have := run_slice_string (P := Tryd.prog) wx 9 s .i64 .i64 (k : Int) ((k : Int) + 2) Tryd.underlying9 (by omega) (by omega) (by omega)
                  rwa [show ((k : Int) + 2).toNat = k + 2 from by omega, show ((k : Int)).toNat = k from by omega] at this
                go_region_held3 (fun w' => w'.cell? ⟨bp, 0, none⟩ = some (.string s) ∧ w'.cell? ⟨bp, 4, none⟩ = some (.int .i64 (k : Int)) ∧ w'.cell? ⟨bp, 1, none⟩ = some (.int .i64 ((k : Int) + 2))) (first | exact ⟨q0, q4, q1⟩ | exact ⟨(HY.out.set2 _).c0, (HY.out.set2 _).c4, (HY.out.set2 _).c1⟩) ((fail))
                all_goals
                  go_wp2_with fail
                  go_end0
                  exact lex_tok (n := 2) (by omega) HY.out HTK.out rfl HTX.out rfl rfl HGY.out
              · have hne : ((s[k + 1].toNat : Int) != (s[k].toNat : Int)) = true := by simp; omega
                have HER : Hid (toks tlG (dropB s i) = [.err]) := Lib.hid (toks_opbad (HSK2.out.trans (dropB_cons s k hlt)) HC.out (by rw [dropB_cons s (k + 1) hk2]; intro e; apply heq; simp at e; rw [e]))
                clear heq e38
                go_wp2_with fail
                go_quiet (fail)
                go_wp2_with fail
                clear hwr
                have h32w : IntKind.i32.wrap (s[k].toNat : Int) = (s[k].toNat : Int) := IntWalk.i32_in _ (by have := s[k].toNat_lt; omega)
                have rs := fun w => run_string_add_sum (P := Tryd.prog) w invS (Utf8.encode (s[k].toNat : Int)) (by have := encode_size (s[k].toNat : Int); have e : invS.size = 18 := rfl; omega)
                unfold invS at rs
                obtain ⟨wy, hwy⟩ : ∃ wy, wy = wz.drewN nq := ⟨_, rfl⟩
                rw [← hwy]
                have HY : Hid (PIs wy bp s tok k false pos z) := Lib.hid (by rw [hwy]; exact HZ.out.drewN _)
                have HGY : Hid (w.grownBy wy (some bp)) := Lib.hid (by rw [hwy]; exact grown_drewN HGZ.out _)
                clear hwy q0 q1 q2 q3 q4 f1 f2 f3 f4 HZ HGZ
                have q0 := HY.out.c0
                have q1 := HY.out.c1
                have hlb := lt_of_heap HY.out
                refine region_tail 17 (by kernel_rfl) (by kernel_rfl) ?_
                simp only [List.take_succ_cons, List.take_zero, List.drop_succ_cons, List.drop_zero]
                repeat (go_big_quiet_step (fail))
                refine wpQuiet_nil ?_
                clear h32w rs
                go_wp2_with fail
                exact ⟨rfl, lex_bad hk HER.out HGY.out _ (inv_size _)⟩
            · have g1 : decide ((s.size : Int) ≤ (k : Int) + 1) = true := by simp; omega
              have HER : Hid (toks tlG (dropB s i) = [.err]) := Lib.hid (toks_opbad (HSK2.out.trans (dropB_cons s k hlt)) HC.out (by rw [dropB_nil s (k + 1) (by omega)]; simp))
              clear e38
              go_wp2_with fail
              go_quiet (fail)
              go_wp2_with fail
              clear hwr
              have h32w : IntKind.i32.wrap (s[k].toNat : Int) = (s[k].toNat : Int) := IntWalk.i32_in _ (by have := s[k].toNat_lt; omega)
              have rs := fun w => run_string_add_sum (P := Tryd.prog) w invS (Utf8.encode (s[k].toNat : Int)) (by have := encode_size (s[k].toNat : Int); have e : invS.size = 18 := rfl; omega)
              unfold invS at rs
              obtain ⟨wy, hwy⟩ : ∃ wy, wy = wz.drewN nq := ⟨_, rfl⟩
              rw [← hwy]
              have HY : Hid (PIs wy bp s tok k false pos z) := Lib.hid (by rw [hwy]; exact HZ.out.drewN _)
              have HGY : Hid (w.grownBy wy (some bp)) := Lib.hid (by rw [hwy]; exact grown_drewN HGZ.out _)
              clear hwy q0 q1 q2 q3 q4 f1 f2 f3 f4 HZ HGZ
              have q0 := HY.out.c0
              have q1 := HY.out.c1
              have hlb := lt_of_heap HY.out
              refine region_tail 17 (by kernel_rfl) (by kernel_rfl) ?_
              simp only [List.take_succ_cons, List.take_zero, List.drop_succ_cons, List.drop_zero]
              repeat (go_big_quiet_step (fail))
              refine wpQuiet_nil ?_
              clear h32w rs
              go_wp2_with fail
              exact ⟨rfl, lex_bad hk HER.out HGY.out _ (inv_size _)⟩
          by_cases h124 : c = 124
          · have b40 : ((s[k].toNat : Int) == 40) = false := by rw [HCC.out]; simp; omega
            have b41 : ((s[k].toNat : Int) == 41) = false := by rw [HCC.out]; simp; omega
            have b33 : ((s[k].toNat : Int) == 33) = false := by rw [HCC.out]; simp; omega
            have b38 : ((s[k].toNat : Int) == 38) = false := by rw [HCC.out]; simp; omega
            have b124 : ((s[k].toNat : Int) == 124) = true := by rw [HCC.out, h124]; rfl
            have HC : Hid (opB s[k] = true) := Lib.hid (by unfold opB; rw [byte_beq, byte_beq, HCC.out, h124]; rfl)
            have e124 : s[k].toNat = 124 := by rw [HCC.out, h124]
            clear h124 h40 h41 h33 h38 hsl1
            have hn1 : ((k : Int) + 1).toNat = k + 1 := by omega
            have hwr : IntKind.i64.wrap ((k : Int) + 1) = (k : Int) + 1 := IntWalk.i64_in _ (by omega)
            by_cases hk2 : k + 1 < s.size
            · have g1 : decide ((s.size : Int) ≤ (k : Int) + 1) = false := by simp; omega
              have g2 : (k : Int) + 1 < (s.size : Int) := by omega
              by_cases heq : s[k + 1].toNat = s[k].toNat
              · have hne : ((s[k + 1].toNat : Int) != (s[k].toNat : Int)) = false := by simp; omega
                have HTK : Hid (toks tlG (dropB s i) = .op s[k] :: toks tlG (dropB s (k + 2))) := Lib.hid (toks_op (HSK2.out.trans (by rw [dropB_cons s k hlt, dropB_cons s (k + 1) hk2, UInt8.toNat_inj.1 heq])) HC.out)
                have HTX : Hid ((dropB s k).take 2 = [s[k], s[k]]) := Lib.hid (by rw [dropB_cons s k hlt, dropB_cons s (k + 1) hk2, UInt8.toNat_inj.1 heq]; rfl)
                clear heq e124
                go_wp2_with fail
                go_quiet (fail)
                clear hwr
                go_wp2_with fail
                obtain ⟨wy, hwy⟩ : ∃ wy, wy = ((wz.drewN nq).setCell ⟨bp, 4, none⟩ (.int .i64 (k : Int))).setCell ⟨bp, 1, none⟩ (.int .i64 ((k : Int) + 2)) := ⟨_, rfl⟩
                have hwy2 : wy = ((wz.setCell ⟨bp, 4, none⟩ (.int .i64 (k : Int))).setCell ⟨bp, 1, none⟩ (.int .i64 ((k : Int) + 2))).drewN nq := hwy
                first | rw [← hwy] | rw [← hwy2]
                have HY : Hid (PIs wy bp s tok ((k : Int) + 2) false k z) := Lib.hid (by rw [hwy]; exact ((HZ.out.drewN _).set4 _).set1 _)
                have HGY : Hid (w.grownBy wy (some bp)) := Lib.hid (by rw [hwy]; exact grown_set (grown_set (grown_drewN HGZ.out _) _ _) _ _)
                clear hwy hwy2 q0 q1 q2 q3 q4 f1 f2 f3 f4 HZ HGZ
                have q0 := HY.out.c0
                have q1 := HY.out.c1
                have q2 := HY.out.c2
                have q4 := HY.out.c4
                have f2 := HY.out.f 2
                have hn2 : (0 : Int) ≤ (k : Int) + 2 := by omega
                have hk2i : (k : Int) + 2 ≤ (s.size : Int) := by omega
                have hsl2 : ∀ wx, (Instr.slice 9 (.string s) (some (.int .i64 (k : Int))) (some (.int .i64 ((k : Int) + 2))) none).run Tryd.prog wx = .ok (.string (s.extract k (k + 2))) wx := fun wx => by
                  have := run_slice_string (P := Tryd.prog) wx 9 s .i64 .i64 (k : Int) ((k : Int) + 2) Tryd.underlying9 (by omega) (by omega) (by omega)
                  rwa [show ((k : Int) + 2).toNat = k + 2 from by omega, show ((k : Int)).toNat = k from by omega] at this
                go_region_held3 (fun w' => w'.cell? ⟨bp, 0, none⟩ = some (.string s) ∧ w'.cell? ⟨bp, 4, none⟩ = some (.int .i64 (k : Int)) ∧ w'.cell? ⟨bp, 1, none⟩ = some (.int .i64 ((k : Int) + 2))) (first | exact ⟨q0, q4, q1⟩ | exact ⟨(HY.out.set2 _).c0, (HY.out.set2 _).c4, (HY.out.set2 _).c1⟩) ((fail))
                all_goals
                  go_wp2_with fail
                  go_end0
                  exact lex_tok (n := 2) (by omega) HY.out HTK.out rfl HTX.out rfl rfl HGY.out
              · have hne : ((s[k + 1].toNat : Int) != (s[k].toNat : Int)) = true := by simp; omega
                have HER : Hid (toks tlG (dropB s i) = [.err]) := Lib.hid (toks_opbad (HSK2.out.trans (dropB_cons s k hlt)) HC.out (by rw [dropB_cons s (k + 1) hk2]; intro e; apply heq; simp at e; rw [e]))
                clear heq e124
                go_wp2_with fail
                go_quiet (fail)
                go_wp2_with fail
                clear hwr
                have h32w : IntKind.i32.wrap (s[k].toNat : Int) = (s[k].toNat : Int) := IntWalk.i32_in _ (by have := s[k].toNat_lt; omega)
                have rs := fun w => run_string_add_sum (P := Tryd.prog) w invS (Utf8.encode (s[k].toNat : Int)) (by have := encode_size (s[k].toNat : Int); have e : invS.size = 18 := rfl; omega)
                unfold invS at rs
                obtain ⟨wy, hwy⟩ : ∃ wy, wy = wz.drewN nq := ⟨_, rfl⟩
                rw [← hwy]
                have HY : Hid (PIs wy bp s tok k false pos z) := Lib.hid (by rw [hwy]; exact HZ.out.drewN _)
                have HGY : Hid (w.grownBy wy (some bp)) := Lib.hid (by rw [hwy]; exact grown_drewN HGZ.out _)
                clear hwy q0 q1 q2 q3 q4 f1 f2 f3 f4 HZ HGZ
                have q0 := HY.out.c0
                have q1 := HY.out.c1
                have hlb := lt_of_heap HY.out
                refine region_tail 17 (by kernel_rfl) (by kernel_rfl) ?_
                simp only [List.take_succ_cons, List.take_zero, List.drop_succ_cons, List.drop_zero]
                repeat (go_big_quiet_step (fail))
                refine wpQuiet_nil ?_
                clear h32w rs
                go_wp2_with fail
                exact ⟨rfl, lex_bad hk HER.out HGY.out _ (inv_size _)⟩
            · have g1 : decide ((s.size : Int) ≤ (k : Int) + 1) = true := by simp; omega
              have HER : Hid (toks tlG (dropB s i) = [.err]) := Lib.hid (toks_opbad (HSK2.out.trans (dropB_cons s k hlt)) HC.out (by rw [dropB_nil s (k + 1) (by omega)]; simp))
              clear e124
              go_wp2_with fail
              go_quiet (fail)
              go_wp2_with fail
              clear hwr
              have h32w : IntKind.i32.wrap (s[k].toNat : Int) = (s[k].toNat : Int) := IntWalk.i32_in _ (by have := s[k].toNat_lt; omega)
              have rs := fun w => run_string_add_sum (P := Tryd.prog) w invS (Utf8.encode (s[k].toNat : Int)) (by have := encode_size (s[k].toNat : Int); have e : invS.size = 18 := rfl; omega)
              unfold invS at rs
              obtain ⟨wy, hwy⟩ : ∃ wy, wy = wz.drewN nq := ⟨_, rfl⟩
              rw [← hwy]
              have HY : Hid (PIs wy bp s tok k false pos z) := Lib.hid (by rw [hwy]; exact HZ.out.drewN _)
              have HGY : Hid (w.grownBy wy (some bp)) := Lib.hid (by rw [hwy]; exact grown_drewN HGZ.out _)
              clear hwy q0 q1 q2 q3 q4 f1 f2 f3 f4 HZ HGZ
              have q0 := HY.out.c0
              have q1 := HY.out.c1
              have hlb := lt_of_heap HY.out
              refine region_tail 17 (by kernel_rfl) (by kernel_rfl) ?_
              simp only [List.take_succ_cons, List.take_zero, List.drop_succ_cons, List.drop_zero]
              repeat (go_big_quiet_step (fail))
              refine wpQuiet_nil ?_
              clear h32w rs
              go_wp2_with fail
              exact ⟨rfl, lex_bad hk HER.out HGY.out _ (inv_size _)⟩
          have b40 : ((s[k].toNat : Int) == 40) = false := by rw [HCC.out]; simp; omega
          have b41 : ((s[k].toNat : Int) == 41) = false := by rw [HCC.out]; simp; omega
          have b33 : ((s[k].toNat : Int) == 33) = false := by rw [HCC.out]; simp; omega
          have b38 : ((s[k].toNat : Int) == 38) = false := by rw [HCC.out]; simp; omega
          have b124 : ((s[k].toNat : Int) == 124) = false := by rw [HCC.out]; simp; omega
          have HS1 : Hid (symB s[k] = false) := Lib.hid (by unfold symB; rw [byte_beq, byte_beq, byte_beq, HCC.out]; simp [h40, h41, h33])
          have HS2 : Hid (opB s[k] = false) := Lib.hid (by unfold opB; rw [byte_beq, byte_beq, HCC.out]; simp [h38, h124])
          clear h40 h41 h33 h38 h124 hsl1
          have hkk : (k : Int) ≤ (s.size : Int) := by omega
          go_wp2_with fail
          go_quiet (fail)
          go_wp2_with fail
          obtain ⟨T, hTd⟩ : ∃ T, T = s.extract k s.size := ⟨_, rfl⟩
          rw [← hTd]
          have hTs : T.size = s.size - k := by rw [hTd, ByteArray.size_extract]; omega
          have HTD : Hid (T = mkB (dropB s k)) := Lib.hid (by rw [hTd, extract_end])
          have HTS := Lib.hid hTs
          have HLB : Hid (bp < w.heap.size) := Lib.hid hlb0
          have HNE : Hid (bp ≠ wz.heap.size) := Lib.hid (by have := lt_of_heap HZ.out; omega)
          have HSZ : Hid (w.heap.size ≤ wz.heap.size) := Lib.hid HGZ.out.size
          clear hTd hTs q0 q1 q2 q3 q4 f1 f2 f3 f4 b40 b41 b33 b38 b124
          go_loopg [2] T.size (fun g v2 wr => TgRel bp wz.heap.size s tok T k pos z w v2 g wr)
          case atStart => exact ⟨0, T.size + 1, rfl, rfl, World.iter_heap (wz.drewN nq) T 0, (HZ.out.drewN nq).grown (World.grownBy_alloc _ _ none) (by simp), (grown_drewN HGZ.out nq).trans (World.grownBy_alloc _ _ _), by omega, rfl⟩
          case round =>
            clear HZ HGZ
            obtain ⟨p, f, rfl, rfl, hit, hr, hg, hf, he⟩ := hrel
            have HIT := Lib.hid hit
            have HR := Lib.hid hr
            have HG := Lib.hid hg
            have HE := Lib.hid he
            clear hr hg he
            by_cases hp : p < T.size
            · have hnx : ∀ ty, (Instr.next (.pointer (some ⟨wz.heap.size, 0, none⟩)) true ty).run Tryd.prog wr = _ := fun ty => Lib.run_next_any_at wr wz.heap.size T p ty hit hp
              have hd1 := decode_le T p
              obtain ⟨wi, hwi⟩ : ∃ wi, wi = wr.iterAt wz.heap.size T (p + (Utf8.decode T p).2) := ⟨_, rfl⟩
              rw [← hwi] at hnx
              have HWI := Lib.hid hwi
              have HTB : Hid (Tabs wi) := Lib.hid (tabs_of HT.out hn HLB.out (by rw [hwi]; exact grown_iterAt HG.out HSZ.out _ _))
              clear hit hwi
              cases hL : letR ((Utf8.decode T p).1 : Int)
              · have HL := Lib.hid hL
                clear hL
                go_wp2_with fail
                refine (isLetter_any _ _ (by omega) (by omega) HTB.out).mono ?_
                rw [HL.out]
                rintro e1 w1 ⟨rfl, hb1⟩
                have HB1 := Lib.hid hb1
                have HTB1 : Hid (Tabs w1) := Lib.hid (HTB.out.below hb1)
                clear hb1
                cases hD : digR ((Utf8.decode T p).1 : Int)
                · have HD := Lib.hid hD
                  clear hD
                  go_wp2_with fail
                  refine (isDigit_any _ _ (by omega) (by omega) HTB1.out).mono ?_
                  rw [HD.out]
                  rintro e2 w2 ⟨rfl, hb2⟩
                  have HB2 := Lib.hid (HB1.out.trans (hb2.mono HB1.out.size))
                  clear hb2
                  by_cases h95 : ((Utf8.decode T p).1 : Int) = 95
                  · have n95 : (((Utf8.decode T p).1 : Int) != 95) = false := by simp [h95]
                    have HOK : Hid (runeOk ((Utf8.decode T p).1 : Int) = true) := Lib.hid (by rw [h95]; rfl)
                    clear h95
                    go_wp2_with fail
                    go_roundg (T.size - (p + (Utf8.decode T p).2))
                    case measure => have := width_pos T p hp; omega
                    case rel => exact TgRel_step hp HIT.out HNE.out HSZ.out HR.out HG.out hf HE.out HOK.out (HWI.out ▸ HB2.out)
                  · have n95 : (((Utf8.decode T p).1 : Int) != 95) = true := by simpa using h95
                    by_cases h46 : ((Utf8.decode T p).1 : Int) = 46
                    · have n46 : (((Utf8.decode T p).1 : Int) != 46) = false := by simp [h46]
                      have HOK : Hid (runeOk ((Utf8.decode T p).1 : Int) = true) := Lib.hid (by rw [h46]; rfl)
                      clear h95 h46
                      go_wp2_with fail
                      go_roundg (T.size - (p + (Utf8.decode T p).2))
                      case measure => have := width_pos T p hp; omega
                      case rel => exact TgRel_step hp HIT.out HNE.out HSZ.out HR.out HG.out hf HE.out HOK.out (HWI.out ▸ HB2.out)
                    · have n46 : (((Utf8.decode T p).1 : Int) != 46) = true := by simpa using h46
                      have HBAD : Hid (runeOk ((Utf8.decode T p).1 : Int) = false) := Lib.hid (by unfold runeOk; rw [HL.out, HD.out]; simp [h95, h46])
                      clear h95 h46
                      have HP2 : Hid (PIs w2 bp s tok k false pos z) := Lib.hid ((HR.out.iterAt HNE.out T (p + (Utf8.decode T p).2)).below (HWI.out ▸ HB2.out))
                      have HG2 : Hid (w.grownBy w2 (some bp)) := Lib.hid (grown_below (grown_iterAt HG.out HSZ.out T (p + (Utf8.decode T p).2)) (HWI.out ▸ HB2.out))
                      have q0 := HP2.out.c0
                      have q1 := HP2.out.c1
                      have q4 := HP2.out.c4
                      have f1 := HP2.out.f 1
                      have f2 := HP2.out.f 2
                      have f3 := HP2.out.f 3
                      have f4 := HP2.out.f 4
                      obtain ⟨TG, hTG⟩ : ∃ TG, TG = T.extract 0 p := ⟨_, rfl⟩
                      have hsl0 : ∀ wx, (Instr.slice 9 (.string T) none (some (.int .i64 (p : Int))) none).run Tryd.prog wx = .ok (.string TG) wx := fun wx => by
                        have := run_slice_string_to_if (P := Tryd.prog) wx 9 T .i64 (p : Int) Tryd.underlying9
                        rw [this, if_pos (by omega), hTG]
                        simp
                      have HSG : Hid (TG.size = p) := Lib.hid (by rw [hTG, ByteArray.size_extract]; omega)
                      have hTGs : TG.size ≤ 1152921504606846976 := by have := HSG.out; have := HTS.out; omega
                      clear hTG
                      by_cases hp0 : p = 0
                      · have hem : TG.toList.isEmpty = true := empty_yes (by rw [HSG.out, hp0])
                        have HER : Hid (toks tlG (dropB s i) = [.err]) := Lib.hid (by subst hp0; exact tag_none HTD.out HSK2.out hlt HS1.out HS2.out (by omega) HE.out HBAD.out hp)
                        have HTB2 : Hid (Tabs w2.drew) := Lib.hid ((tabs_of HT.out hn HLB.out HG2.out).heap rfl)
                        have rs := fun (r : Int) (w : World) => run_string_add_sum (P := Tryd.prog) w invS (Utf8.encode r) (by have := encode_size r; have e : invS.size = 18 := rfl; omega)
                        unfold invS at rs
                        have hlb2 := lt_of_heap HP2.out
                        clear hp0
                        go_wp2_with fail
                        go_region_held3 (fun w' => w'.cell? ⟨bp, 0, none⟩ = some (.string s) ∧ w'.cell? ⟨bp, 1, none⟩ = some (.int .i64 (k : Int))) (first | exact ⟨q0, q1⟩ | exact ⟨(HB3.out.cell hlb2).trans q0, (HB3.out.cell hlb2).trans q1⟩) (first | (go_at_call 95; refine (decode_any _ _ (by exact HTB2.out)).mono ?_; rintro e3 w3 ⟨rfl, hb3⟩; have HB3 := Lib.hid (below_undrew hb3); clear hb3))
                        all_goals
                          have z1 := (HB3.out.cell (p := ⟨bp, 1, none⟩) hlb2).trans q1
                          have HG3 : Hid (w.grownBy w3 (some bp)) := Lib.hid (grown_below HG2.out HB3.out)
                          clear q0 q1 q4 f1 f2 f3 f4
                          go_wp2_with fail
                          exact ⟨rfl, lex_bad0 hk HER.out HG3.out _ (inv_size _)⟩
                      · have hem : TG.toList.isEmpty = false := empty_no (by rw [HSG.out]; omega)
                        have HKM : Hid (k + TG.size ≤ s.size) := Lib.hid (by have := HSG.out; have := HTS.out; omega)
                        have HTS2 : Hid (toks tlG (dropB s i) = .tag ((dropB s k).take TG.size) :: toks tlG (dropB s (k + TG.size))) := Lib.hid (tag_some HTD.out HSK2.out hlt HS1.out HS2.out (by rw [← HE.out, tagEnd_stop hp hf HBAD.out, HSG.out]) (by rw [HSG.out]; omega))
                        clear hp0
                        go_wp2_with fail
                        obtain ⟨wy, hwy⟩ : ∃ wy, wy = (w2.setCell ⟨bp, 4, none⟩ (.int .i64 (k : Int))).setCell ⟨bp, 1, none⟩ (.int .i64 ((k : Int) + (TG.size : Int))) := ⟨_, rfl⟩
                        rw [← hwy]
                        have HY : Hid (PIs wy bp s tok ((k : Int) + (TG.size : Int)) false k z) := Lib.hid (by rw [hwy]; exact (HP2.out.set4 _).set1 _)
                        have HGY : Hid (w.grownBy wy (some bp)) := Lib.hid (by rw [hwy]; exact grown_set (grown_set HG2.out _ _) _ _)
                        clear hwy q0 q1 q4 f1 f2 f3 f4
                        have q0 := HY.out.c0
                        have q1 := HY.out.c1
                        have q2 := HY.out.c2
                        have q3 := HY.out.c3
                        have q4 := HY.out.c4
                        have f2 := HY.out.f 2
                        have f3 := HY.out.f 3
                        have hn2 : (0 : Int) ≤ (k : Int) + (TG.size : Int) := by omega
                        have hk2i : (k : Int) + (TG.size : Int) ≤ (s.size : Int) := by have := HKM.out; omega
                        have hsl2 : ∀ wx, (Instr.slice 9 (.string s) (some (.int .i64 (k : Int))) (some (.int .i64 ((k : Int) + (TG.size : Int)))) none).run Tryd.prog wx = .ok (.string (s.extract k (k + TG.size))) wx := fun wx => by
                          have := run_slice_string (P := Tryd.prog) wx 9 s .i64 .i64 (k : Int) ((k : Int) + (TG.size : Int)) Tryd.underlying9 (by omega) (by omega) (by omega)
                          rwa [show ((k : Int) + (TG.size : Int)).toNat = k + TG.size from by omega, show ((k : Int)).toNat = k from by omega] at this
                        go_region_held3 (fun w' => w'.cell? ⟨bp, 0, none⟩ = some (.string s) ∧ w'.cell? ⟨bp, 4, none⟩ = some (.int .i64 (k : Int)) ∧ w'.cell? ⟨bp, 1, none⟩ = some (.int .i64 ((k : Int) + (TG.size : Int)))) (first | exact ⟨q0, q4, q1⟩ | exact ⟨(HY.out.set2 _).c0, (HY.out.set2 _).c4, (HY.out.set2 _).c1⟩) ((fail))
                        all_goals
                          go_wp2_with fail
                          go_end0
                          exact lex_tag HKM.out HY.out HTS2.out HGY.out
                · have HD := Lib.hid hD
                  clear hD
                  have HOK : Hid (runeOk ((Utf8.decode T p).1 : Int) = true) := Lib.hid (by unfold runeOk; rw [HD.out]; simp)
                  go_wp2_with fail
                  refine (isDigit_any _ _ (by omega) (by omega) HTB1.out).mono ?_
                  rw [HD.out]
                  rintro e2 w2 ⟨rfl, hb2⟩
                  have HB2 := Lib.hid (HB1.out.trans (hb2.mono HB1.out.size))
                  clear hb2
                  go_wp2_with fail
                  go_roundg (T.size - (p + (Utf8.decode T p).2))
                  case measure => have := width_pos T p hp; omega
                  case rel => exact TgRel_step hp HIT.out HNE.out HSZ.out HR.out HG.out hf HE.out HOK.out (HWI.out ▸ HB2.out)
              · have HL := Lib.hid hL
                clear hL
                have HOK : Hid (runeOk ((Utf8.decode T p).1 : Int) = true) := Lib.hid (by unfold runeOk; rw [HL.out]; rfl)
                go_wp2_with fail
                refine (isLetter_any _ _ (by omega) (by omega) HTB.out).mono ?_
                rw [HL.out]
                rintro e1 w1 ⟨rfl, hb1⟩
                have HB1 := Lib.hid hb1
                clear hb1
                go_wp2_with fail
                go_roundg (T.size - (p + (Utf8.decode T p).2))
                case measure => have := width_pos T p hp; omega
                case rel => exact TgRel_step hp HIT.out HNE.out HSZ.out HR.out HG.out hf HE.out HOK.out (HWI.out ▸ HB1.out)
            · have hnx : ∀ ty, (Instr.next (.pointer (some ⟨wz.heap.size, 0, none⟩)) true ty).run Tryd.prog wr = _ := fun ty => Lib.run_next_end_at wr wz.heap.size T p ty hit hp
              have q0 := HR.out.c0
              have q1 := HR.out.c1
              have q4 := HR.out.c4
              have f1 := HR.out.f 1
              have f2 := HR.out.f 2
              have f3 := HR.out.f 3
              have f4 := HR.out.f 4
              have hTGs : T.size ≤ 1152921504606846976 := by have := HTS.out; omega
              have hem : T.toList.isEmpty = false := empty_no (by have := HTS.out; omega)
              have HKM : Hid (k + T.size ≤ s.size) := Lib.hid (by have := HTS.out; omega)
              have HTS2 : Hid (toks tlG (dropB s i) = .tag ((dropB s k).take T.size) :: toks tlG (dropB s (k + T.size))) := Lib.hid (tag_some HTD.out HSK2.out hlt HS1.out HS2.out (by rw [← HE.out, tagEnd_end (by omega)]) (by have := HTS.out; omega))
              clear hit
              go_wp2_with fail
              obtain ⟨wy, hwy⟩ : ∃ wy, wy = (wr.setCell ⟨bp, 4, none⟩ (.int .i64 (k : Int))).setCell ⟨bp, 1, none⟩ (.int .i64 ((k : Int) + (T.size : Int))) := ⟨_, rfl⟩
              rw [← hwy]
              have HY : Hid (PIs wy bp s tok ((k : Int) + (T.size : Int)) false k z) := Lib.hid (by rw [hwy]; exact (HR.out.set4 _).set1 _)
              have HGY : Hid (w.grownBy wy (some bp)) := Lib.hid (by rw [hwy]; exact grown_set (grown_set HG.out _ _) _ _)
              clear hwy q0 q1 q4 f1 f2 f3 f4
              have q0 := HY.out.c0
              have q1 := HY.out.c1
              have q2 := HY.out.c2
              have q3 := HY.out.c3
              have q4 := HY.out.c4
              have f2 := HY.out.f 2
              have f3 := HY.out.f 3
              have hn2 : (0 : Int) ≤ (k : Int) + (T.size : Int) := by omega
              have hk2i : (k : Int) + (T.size : Int) ≤ (s.size : Int) := by have := HKM.out; omega
              have hsl2 : ∀ wx, (Instr.slice 9 (.string s) (some (.int .i64 (k : Int))) (some (.int .i64 ((k : Int) + (T.size : Int)))) none).run Tryd.prog wx = .ok (.string (s.extract k (k + T.size))) wx := fun wx => by
                have := run_slice_string (P := Tryd.prog) wx 9 s .i64 .i64 (k : Int) ((k : Int) + (T.size : Int)) Tryd.underlying9 (by omega) (by omega) (by omega)
                rwa [show ((k : Int) + (T.size : Int)).toNat = k + T.size from by omega, show ((k : Int)).toNat = k from by omega] at this
              go_region_held3 (fun w' => w'.cell? ⟨bp, 0, none⟩ = some (.string s) ∧ w'.cell? ⟨bp, 4, none⟩ = some (.int .i64 (k : Int)) ∧ w'.cell? ⟨bp, 1, none⟩ = some (.int .i64 ((k : Int) + (T.size : Int)))) (first | exact ⟨q0, q4, q1⟩ | exact ⟨(HY.out.set2 _).c0, (HY.out.set2 _).c4, (HY.out.set2 _).c1⟩) ((fail))
              all_goals
                go_wp2_with fail
                go_end0
                exact lex_tag HKM.out HY.out HTS2.out HGY.out
    · have hlt2 : ¬ ((k : Int) < (s.size : Int)) := by omega
      have hlt3 : decide (k < s.size) = false := by simp; omega
      have hlt4 : decide ((k : Int) < (s.size : Int)) = false := by simp; omega
      have hlt5 : decide (s.size ≤ k) = true := by simp; omega
      have hlt6 : decide ((s.size : Int) ≤ (k : Int)) = true := by simp; omega
      go_wp2_with fail
      go_quiet (fail)
      revert nq
      intro nqa
      go_wp2_with fail
      go_quiet (fail)
      go_wp2_with fail
      go_end0
      exact lex_end (by omega) hk HR.out HSK.out HG.out _ rfl
end Go.Proofs.YteemenhinhkonaaDoor
