/- The package's splitGoBuild and Parse, at lines that begin with the word and a blank. -/
import Derived.Test.YteemenhinhkonaaDoorProg
import Derived.Test.YteemenhinhkonaaDoorParseE
import Derived.Test.YteemenhinhkonaaDoorTrim
import Derived.Outline
namespace Go.Proofs.YteemenhinhkonaaDoor
open Go.RowKit

def hasByte (s : ByteArray) (c : UInt8) : Bool := s.data.toList.any (· == c)
theorem any_take_byte (s : ByteArray) (c : UInt8) (k : Nat) (h : k < s.size) : (s.data.toList.take (k + 1)).any (· == c) = ((s.data.toList.take k).any (· == c) || s[k] == c) := by
  rw [List.take_succ_eq_append_getElem (by simpa using h), List.any_append]
  simp
  rfl
set_option maxHeartbeats 400000 in
theorem contains_any (s : ByteArray) (c : UInt8) (w : World) (hs : s.size ≤ 2305843009213693952) : Calls Tryd.prog 70 #[.string s, .int .u8 c.toNat] w fun e w' => e = .returned (.bool (hasByte s c)) ∧ w = w' := by
  go_enter Tryd.func70, Tryd.ntmps70
  go_wp2
  go_loop [5] (fun i => ∃ k : Nat, k ≤ s.size ∧ i = .int .i64 k ∧ (s.data.toList.take k).any (· == c) = false) (fun i => s.size - (intOf i).toNat)
  case atStart => exact ⟨0, Nat.zero_le _, rfl, rfl⟩
  case round =>
    obtain ⟨k, hk, rfl, hno⟩ := hrel
    have HN := Lib.hid hno
    clear hno
    by_cases hlt : k < s.size
    · have hbe := byte_beq s[k] c
      cases he : s[k] == c
      · have h1 : ((s[k].toNat : Int) == (c.toNat : Int)) = false := by rw [he] at hbe; have h := hbe.symm; simp at h ⊢; omega
        have HE := Lib.hid he
        clear he hbe
        go_wp2
        exact ⟨⟨k + 1, hlt, by go_num, by rw [any_take_byte s c k hlt, HN.out, HE.out]; rfl⟩, by simp [intOf]; omega⟩
      · have h1 : ((s[k].toNat : Int) == (c.toNat : Int)) = true := by rw [he] at hbe; have h := hbe.symm; simp at h ⊢; omega
        have HE := Lib.hid he
        clear he hbe
        go_wp2
        go_ret
        refine ⟨ret_bool ?_, rfl⟩
        unfold hasByte
        symm
        rw [List.any_eq_true]
        exact ⟨s[k], by simp [ByteArray.getElem_eq_getElem_data], HE.out⟩
    · go_wp2
      go_ret
      refine ⟨ret_bool ?_, rfl⟩
      unfold hasByte
      rw [← HN.out, List.take_of_length_le (by simp; omega)]

def SplitPost (t : List UInt8) (w : World) (en : Ending) (w' : World) : Prop := en = .returned (.tuple #[.string (mkB t), .bool true]) ∧ Below w.heap.size w w'
set_option maxHeartbeats 1000000 in
theorem splitGo_any (L : ByteArray) (l r' b : List UInt8) (w : World) (hL : L.data.toList = goWord ++ 32 :: l) (hn : hasByte L 10 = false) (hs : L.size ≤ 2305843009213693952) (h1 : Lib.trimSpaceD (goWord ++ 32 :: l) = goWord ++ r') (h2 : 32 :: l = r' ++ b) (hT : Tabs w) :
    Calls Tryd.prog 58 #[.string L] w (SplitPost (Lib.trimSpaceD r') w) := by
  have hsz : L.size = 11 + l.length := by
    have : L.data.toList.length = L.size := by simp
    rw [← this, hL]
    simp [goWord]
    omega
  have HL := Lib.hid hL
  have HN := Lib.hid hn
  have HS := Lib.hid hsz
  have HT := Lib.hid hT
  have H1 := Lib.hid h1
  have H2 := Lib.hid h2
  have hpos : 11 ≤ L.size := by omega
  have hlast : L.size - 1 < L.size := by omega
  have h10 : ((L[L.size - 1].toNat : Int) == 10) = false := by
    have hm : (L[L.size - 1] == (10 : UInt8)) = false := by
      unfold hasByte at hn
      rw [List.any_eq_false] at hn
      have := hn L[L.size - 1] (by simp [ByteArray.getElem_eq_getElem_data])
      simpa using this
    rw [byte_beq] at hm
    have e : ((10 : UInt8)).toNat = 10 := rfl
    rw [e] at hm
    simp at hm ⊢
    omega
  clear hL hn hsz hT h1 h2
  go_enter Tryd.func58, Tryd.ntmps58
  go_wp2_with fail
  refine (contains_any L 10 _ hs).mono ?_
  rw [HN.out]
  rintro e1 w1 ⟨rfl, rfl⟩
  go_wp2_with fail
  refine (Tryd.strings_HasPrefix _ _ _).mono ?_
  rw [show Lib.hasPrefix L.data.toList (ByteArray.mk #[47, 47, 103, 111, 58, 98, 117, 105, 108, 100]).data.toList = true from by rw [HL.out]; rfl]
  rintro e2 w2 ⟨rfl, hw2⟩
  subst hw2
  go_wp2_with fail
  refine (trim_any _ _ (by omega) HT.out).mono ?_
  rintro e3 w3 ⟨rfl, hb3⟩
  have HB3 := Lib.hid hb3
  have HT3 := Lib.hid (HT.out.below hb3)
  have HG : Hid ((⟨(Lib.trimSpaceD L.data.toList).toArray⟩ : ByteArray) = mkB (goWord ++ r')) := Lib.hid (by rw [HL.out, H1.out]; rfl)
  rw [HG.out]
  have hgs : (mkB (goWord ++ r')).size = 10 + r'.length := by rw [mkB_size]; simp [goWord]; omega
  have hrl : r'.length ≤ l.length + 1 := by
    have := congrArg List.length H2.out
    rw [List.length_append, List.length_cons] at this
    omega
  have hg10 : 10 ≤ (mkB (goWord ++ r')).size := by omega
  have hsl : ∀ wx, (Instr.slice 9 (.string (mkB (goWord ++ r'))) (some (.int .i64 10)) none none).run Tryd.prog wx = .ok (.string (mkB r')) wx := fun wx => by
    have := run_slice_string_from_if (P := Tryd.prog) wx 9 (mkB (goWord ++ r')) .i64 10 Tryd.underlying9
    rw [this, if_pos (by omega)]
    have e : (mkB (goWord ++ r')).extract (10 : Int).toNat (mkB (goWord ++ r')).size = mkB r' := by
      rw [show (10 : Int).toNat = 10 from rfl, extract_end]
      unfold dropB
      rw [mkB_toList]
      rfl
    rw [e]
  have hrs : (mkB r').size ≤ 2305843009213693952 := by rw [mkB_size]; have := HS.out; omega
  clear hgs hg10 hb3
  go_wp2_with fail
  refine (trim_any _ _ (by omega) HT3.out).mono ?_
  rw [mkB_toList, show (⟨(Lib.trimSpaceD r').toArray⟩ : ByteArray) = mkB (Lib.trimSpaceD r') from rfl]
  rintro e4 w4 ⟨rfl, hb4⟩
  have HB4 := Lib.hid (HB3.out.trans (hb4.mono HB3.out.size))
  have hts : (mkB (Lib.trimSpaceD r')).size ≤ 2305843009213693952 := by rw [mkB_size]; have := trim_length r'; rw [mkB_size] at hrs; omega
  clear hb4 hsl
  rcases go_text l r' b H2.out with hr | hr
  · subst hr
    have heq : (((mkB []).size : Int) == ((mkB (Lib.trimSpaceD [])).size : Int)) = true := by rfl
    have hem : (mkB []).toList.isEmpty = true := empty_yes rfl
    have hem2 : (!(mkB []).toList.isEmpty) = false := by rw [hem]; rfl
    clear hrl
    go_wp2_with fail
    go_ret2
    exact ⟨rfl, HB4.out⟩
  · have heq : (((mkB r').size : Int) == ((mkB (Lib.trimSpaceD r')).size : Int)) = false := by rw [mkB_size, mkB_size]; simp; omega
    clear hr hrl
    go_wp2_with fail
    go_ret2
    exact ⟨rfl, HB4.out⟩
end Go.Proofs.YteemenhinhkonaaDoor
