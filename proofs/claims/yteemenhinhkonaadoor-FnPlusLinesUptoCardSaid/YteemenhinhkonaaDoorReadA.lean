/- The reference's reader: its state in memory, and the contracts of stop, skip and take. -/
import Derived.Test.YteemenhinhkonaaDoorProg
import Derived.Test.YteemenhinhkonaaDoorSpecEval
import Derived.Test.YteemenhinhkonaaDoorGram
import Derived.Deep.QuietTactic
import Derived.BigQuiet
import Derived.Deep.LoopGhost
namespace Go.Proofs.YteemenhinhkonaaDoor
open Go.RowKit

/- the reader's four cells -/
def RIs (w : World) (br : Nat) (s : ByteArray) (i d st : Int) : Prop := w.heap[br]? = some (.cells #[.string s, .int .i64 i, .int .i64 d, .int .i64 st] 59 (0, 0))
theorem RIs.c0 {w : World} {br : Nat} {s : ByteArray} {i d st : Int} (h : RIs w br s i d st) : w.cell? ⟨br, 0, none⟩ = some (.string s) := cell_at h _ rfl
theorem RIs.c1 {w : World} {br : Nat} {s : ByteArray} {i d st : Int} (h : RIs w br s i d st) : w.cell? ⟨br, 1, none⟩ = some (.int .i64 i) := cell_at h _ rfl
theorem RIs.c2 {w : World} {br : Nat} {s : ByteArray} {i d st : Int} (h : RIs w br s i d st) : w.cell? ⟨br, 2, none⟩ = some (.int .i64 d) := cell_at h _ rfl
theorem RIs.c3 {w : World} {br : Nat} {s : ByteArray} {i d st : Int} (h : RIs w br s i d st) : w.cell? ⟨br, 3, none⟩ = some (.int .i64 st) := cell_at h _ rfl
theorem RIs.f {w : World} {br : Nat} {s : ByteArray} {i d st : Int} (h : RIs w br s i d st) (o : Nat) : w.frozen? ⟨br, o, none⟩ = false := free_at h o
theorem RIs.set1 {w : World} {br : Nat} {s : ByteArray} {i d st : Int} (h : RIs w br s i d st) (j : Int) : RIs (w.setCell ⟨br, 1, none⟩ (.int .i64 j)) br s j d st := heap_set w h _
theorem RIs.set2 {w : World} {br : Nat} {s : ByteArray} {i d st : Int} (h : RIs w br s i d st) (j : Int) : RIs (w.setCell ⟨br, 2, none⟩ (.int .i64 j)) br s i j st := heap_set w h _
theorem RIs.set3 {w : World} {br : Nat} {s : ByteArray} {i d st : Int} (h : RIs w br s i d st) (j : Int) : RIs (w.setCell ⟨br, 3, none⟩ (.int .i64 j)) br s i d j := heap_set w h _
theorem grown_set {w w' : World} {br : Nat} (h : w.grownBy w' (some br)) (o : Nat) (v : Value) : w.grownBy (w'.setCell ⟨br, o, none⟩ v) (some br) :=
  ⟨h.os, h.tape, h.output, by simpa using h.size, fun k hk hne => (Below.heap_setCell w' ⟨br, o, none⟩ v k (fun e => hne (by rw [e]))).trans (h.block k hk hne)⟩
theorem grown_drewN {w w' : World} {row : Option Nat} (h : w.grownBy w' row) (n : Nat) : w.grownBy (w'.drewN n) row := ⟨h.os, h.tape, h.output, h.size, h.block⟩

theorem byte_beq (a b : UInt8) : (a == b) = (a.toNat == b.toNat) := by
  rw [Bool.eq_iff_iff]
  simp [UInt8.toNat_inj]
def SkipPost (br : Nat) (s : ByteArray) (i : Nat) (d st : Int) (w : World) (en : Ending) (w' : World) : Prop :=
  ∃ j : Nat, en = .returned (.tuple #[]) ∧ i ≤ j ∧ j ≤ s.size ∧ RIs w' br s j d st ∧ skipL (dropB s i) = dropB s j ∧ w.grownBy w' (some br)

def SkipRel (br : Nat) (s : ByteArray) (i : Nat) (d st : Int) (w : World) (g : Nat) (wr : World) : Prop :=
  ∃ k : Nat, i ≤ k ∧ k ≤ s.size ∧ g = s.size - k ∧ RIs wr br s k d st ∧ skipL (dropB s i) = skipL (dropB s k) ∧ w.grownBy wr (some br)

theorem SkipRel_step {br : Nat} {s : ByteArray} {i k : Nat} {d st : Int} {w wr : World} (hlt : k < s.size) (hik : i ≤ k) (hr : RIs wr br s k d st) (hsk : skipL (dropB s i) = skipL (dropB s k)) (hg : w.grownBy wr (some br)) (hb : blankB s[k] = true) (nq : Nat) :
    SkipRel br s i d st w (s.size - (k + 1)) ((wr.drewN nq).setCell ⟨br, 1, none⟩ (.int .i64 ((k : Int) + 1))) :=
  ⟨k + 1, by omega, hlt, rfl, by have := RIs.set1 (w := wr.drewN nq) hr ((k : Int) + 1); simpa using this, hsk.trans (skipL_blank s k hlt hb), grown_set (grown_drewN hg nq) _ _⟩

set_option maxHeartbeats 1000000 in
theorem skip_any (br : Nat) (s : ByteArray) (i : Nat) (d st : Int) (w : World) (h : RIs w br s i d st) (hi : i ≤ s.size) (hs : s.size ≤ 1152921504606846976) :
    Calls Tryd.prog 42 #[.pointer (some ⟨br, 0, none⟩)] w (SkipPost br s i d st w) := by
  have H := Lib.hid h
  clear h
  go_enter Tryd.func42, Tryd.ntmps42
  go_wp2_with fail
  go_loopg [] (s.size - i) (fun g wr => SkipRel br s i d st w g wr)
  case atStart => exact ⟨i, Nat.le_refl _, hi, rfl, H.out, rfl, World.grownBy.refl _ _⟩
  case round =>
    obtain ⟨k, hik, hk, rfl, hr, hsk, hg⟩ := hrel
    have q0 := hr.c0
    have q1 := hr.c1
    have f1 := hr.f 1
    have HR := Lib.hid hr
    have HSK := Lib.hid hsk
    have HG := Lib.hid hg
    clear hr hsk hg
    have hk0 : (0 : Int) ≤ (k : Int) := by omega
    by_cases hlt : k < s.size
    · have hlt2 : ((k : Int) < (s.size : Int)) := by omega
      have hlt3 : decide (k < s.size) = true := by simp; omega
      obtain ⟨c, hc⟩ : ∃ c : Nat, s[k].toNat = c := ⟨_, rfl⟩
      have hbl : blankB s[k] = (c == 32 || c == 9) := by rw [blankB, byte_beq, byte_beq, hc]; rfl
      have HBL := Lib.hid hbl
      clear hbl
      by_cases h32 : c = 32
      · have b32 : ((s[k].toNat : Int) == 32) = true := by rw [hc, h32]; rfl
        have HK : Hid (blankB s[k] = true) := by rw [HBL.out, h32]; rfl
        clear hc h32 HBL
        go_wp2_with fail
        go_quiet (fail)
        go_wp2_with fail
        go_roundg (s.size - (k + 1))
        case measure => omega
        case rel => exact SkipRel_step hlt hik HR.out HSK.out HG.out HK.out nq
      · have b32 : ((s[k].toNat : Int) == 32) = false := by rw [hc]; simp; omega
        by_cases h9 : c = 9
        · have b9 : ((s[k].toNat : Int) == 9) = true := by rw [hc, h9]; rfl
          have HK : Hid (blankB s[k] = true) := by rw [HBL.out, h9]; rfl
          clear hc h32 HBL h9
          go_wp2_with fail
          go_quiet (fail)
          go_wp2_with fail
          go_roundg (s.size - (k + 1))
          case measure => omega
          case rel => exact SkipRel_step hlt hik HR.out HSK.out HG.out HK.out nq
        · have b9 : ((s[k].toNat : Int) == 9) = false := by rw [hc]; simp; omega
          have HK : Hid (blankB s[k] = false) := Lib.hid (by rw [HBL.out]; simp [h32, h9])
          clear hc h32 HBL h9
          go_wp2_with fail
          go_quiet (fail)
          go_wp2_with fail
          go_end0
          exact ⟨k, rfl, hik, hk, HR.out, HSK.out.trans (skipL_stop s k hlt HK.out), grown_drewN HG.out nq⟩
    · have hlt2 : ¬ ((k : Int) < (s.size : Int)) := by omega
      have hlt3 : decide (k < s.size) = false := by simp; omega
      have hlt4 : decide ((k : Int) < (s.size : Int)) = false := by simp; omega
      go_wp2_with fail
      go_quiet (fail)
      go_wp2_with fail
      go_end0
      exact ⟨k, rfl, hik, hk, HR.out, HSK.out.trans (by rw [dropB_nil s k (by omega)]; rfl), grown_drewN HG.out nq⟩

def StopPost (br : Nat) (s : ByteArray) (i d st v : Int) (w : World) (en : Ending) (w' : World) : Prop :=
  en = .returned (.tuple #[]) ∧ RIs w' br s i d (if st = 1 then v else st) ∧ w.grownBy w' (some br)

set_option maxHeartbeats 400000 in
theorem stop_any (br : Nat) (s : ByteArray) (i d st v : Int) (w : World) (h : RIs w br s i d st) :
    Calls Tryd.prog 43 #[.pointer (some ⟨br, 0, none⟩), .int .i64 v] w (StopPost br s i d st v w) := by
  have q3 := h.c3
  have f3 := h.f 3
  have H := Lib.hid h
  clear h
  by_cases h1 : st = 1
  · have hb : (st == 1) = true := by simp [h1]
    have HP : Hid (StopPost br s i d st v w (.returned (.tuple #[])) (w.setCell ⟨br, 3, none⟩ (.int .i64 v))) := Lib.hid ⟨rfl, by rw [if_pos h1]; exact H.out.set3 v, grown_set (World.grownBy.refl _ _) _ _⟩
    clear h1
    go_enter Tryd.func43, Tryd.ntmps43
    go_wp2_with fail
    go_end0
    exact HP.out
  · have hb : (st == 1) = false := by simp [h1]
    have HP : Hid (StopPost br s i d st v w (.returned (.tuple #[])) w) := Lib.hid ⟨rfl, by rw [if_neg h1]; exact H.out, World.grownBy.refl _ _⟩
    clear h1
    go_enter Tryd.func43, Tryd.ntmps43
    go_wp2_with fail
    go_end0
    exact HP.out

/- take -/
def TakePost (br : Nat) (s t : ByteArray) (i : Nat) (d st : Int) (w : World) (en : Ending) (w' : World) : Prop :=
  ∃ j : Nat, i ≤ j ∧ skipL (dropB s i) = dropB s j ∧ w.grownBy w' (some br) ∧
    ((en = .returned (.bool true) ∧ st = 1 ∧ j + t.size ≤ s.size ∧ (dropB s j).take t.size = t.data.toList ∧ RIs w' br s ((j + t.size : Nat) : Int) d st) ∨
     (en = .returned (.bool false) ∧ j ≤ s.size ∧ (st ≠ 1 ∨ (dropB s j).take t.size ≠ t.data.toList) ∧ RIs w' br s j d st))
theorem extract_take (s : ByteArray) (j n : Nat) : (s.extract j (j + n)).toList = (dropB s j).take n := by
  rw [ByteArray.toList_eq]
  unfold dropB
  simp [ByteArray.data_extract, List.take_drop]
theorem grown_trans {a b c : World} {row : Option Nat} (h : a.grownBy b row) (k : b.grownBy c row) : a.grownBy c row := h.trans k

set_option maxHeartbeats 1000000 in
theorem take_any (br : Nat) (s t : ByteArray) (i : Nat) (d st : Int) (w : World) (h : RIs w br s i d st) (hi : i ≤ s.size) (hs : s.size ≤ 1152921504606846976) (ht : t.size ≤ 2) :
    Calls Tryd.prog 57 #[.pointer (some ⟨br, 0, none⟩), .string t] w (TakePost br s t i d st w) := by
  have H := Lib.hid h
  clear h
  go_enter Tryd.func57, Tryd.ntmps57
  go_wp2_with fail
  refine (skip_any br s i d st _ H.out hi hs).mono ?_
  rintro e1 w1 ⟨j, rfl, hij, hj, hr, hsk, hg⟩
  have q0 := hr.c0
  have q1 := hr.c1
  have q3 := hr.c3
  have f1 := hr.f 1
  have HR := Lib.hid hr
  have HSK := Lib.hid hsk
  have HG := Lib.hid hg
  clear hr hsk hg H
  by_cases hlen : j + t.size ≤ s.size
  · have hl : decide (((s.size : Int) - (j : Int)) < (t.size : Int)) = false := by simp; omega
    by_cases hpre : ((s.extract j (j + t.size)).toList == t.toList) = true
    · have hp2 : ((s.extract j (j + t.size)).toList != t.toList) = false := by simpa using hpre
      have HP : Hid ((dropB s j).take t.size = t.data.toList) := Lib.hid (by rw [← extract_take, ← ByteArray.toList_eq]; simpa using hpre)
      by_cases hst : st = 1
      · have hb : (st != 1) = false := by simp [hst]
        have HST := Lib.hid hst
        clear hst
        go_wp2_with fail
        go_quiet (fail)
        go_wp2_with fail
        go_ret
        exact ⟨j, hij, HSK.out, grown_set (grown_drewN HG.out nq) _ _, .inl ⟨rfl, HST.out, hlen, HP.out, by have := RIs.set1 (w := w1.drewN nq) HR.out ((j : Int) + (t.size : Int)); simpa using this⟩⟩
      · have hb : (st != 1) = true := by simp [hst]
        go_wp2_with fail
        go_quiet (fail)
        go_wp2_with fail
        go_ret
        exact ⟨j, hij, HSK.out, grown_drewN HG.out nq, .inr ⟨rfl, hj, .inl hst, HR.out⟩⟩
    · have hp2 : ((s.extract j (j + t.size)).toList != t.toList) = true := by simpa using hpre
      have hp3 : ((s.extract j (j + t.size)).toList == t.toList) = false := by simpa using hpre
      have HP : Hid ((dropB s j).take t.size ≠ t.data.toList) := Lib.hid (by rw [← extract_take, ← ByteArray.toList_eq]; simpa using hpre)
      clear hpre
      go_wp2_with fail
      go_quiet (fail)
      go_wp2_with fail
      go_ret
      exact ⟨j, hij, HSK.out, grown_drewN HG.out nq, .inr ⟨rfl, hj, .inr HP.out, HR.out⟩⟩
  · have hl : decide (((s.size : Int) - (j : Int)) < (t.size : Int)) = true := by simp; omega
    have HP : Hid ((dropB s j).take t.size ≠ t.data.toList) := Lib.hid (fun e => by
      have h1 := congrArg List.length e
      unfold dropB at h1
      simp at h1
      omega)
    go_wp2_with fail
    go_quiet (fail)
    go_wp2_with fail
    go_ret
    exact ⟨j, hij, HSK.out, grown_drewN HG.out nq, .inr ⟨rfl, hj, .inr HP.out, HR.out⟩⟩
end Go.Proofs.YteemenhinhkonaaDoor
