/- The package's splitPlusBuild at every line without a newline, and IsGoBuild, IsPlusBuild. -/
import Derived.Test.YteemenhinhkonaaDoorPlusB
namespace Go.Proofs.YteemenhinhkonaaDoor
open Go.RowKit

theorem plText_no1 {l : List UInt8} (h : Lib.hasPrefix l [47, 47] = false) : plText l = none := by
  unfold plText
  rw [if_neg (by rw [h]; simp)]
theorem plText_no2 {l : List UInt8} (h : Lib.hasPrefix (Lib.trimSpaceD (l.drop 2)) plWord = false) : plText l = none := by
  unfold plText
  split
  · rw [if_neg (by rw [h]; simp)]
  · rfl
theorem plText_yes {l r' : List UInt8} (h1 : Lib.hasPrefix l [47, 47] = true) (h : Lib.trimSpaceD (l.drop 2) = plWord ++ r') : plText l = cutT r' := by
  unfold plText
  rw [if_pos h1, h, if_pos (show Lib.hasPrefix (plWord ++ r') plWord = true from List.isPrefixOf_iff_prefix.2 ⟨_, rfl⟩)]
  rfl
set_option maxHeartbeats 1000000 in
theorem splitPl_all (L : ByteArray) (w : World) (hn : hasByte L 10 = false) (hs : L.size ≤ 2305843009213693952) (hT : Tabs w) :
    Calls Tryd.prog 60 #[.string L] w (SpPost (plText L.data.toList) w) := by
  have hsz : L.data.toList.length = L.size := by simp
  have HN := Lib.hid hn
  have HS := Lib.hid hsz
  have HT := Lib.hid hT
  have h10 : ∀ h : L.size - 1 < L.size, ((L[L.size - 1].toNat : Int) == 10) = false := fun h => last_not10 hn h
  have H10 := Lib.hid h10
  clear hsz hT h10
  by_cases hp : Lib.hasPrefix L.data.toList [47, 47] = true
  · have HP := Lib.hid hp
    obtain ⟨q, hq⟩ := List.isPrefixOf_iff_prefix.1 hp
    have hlen := congrArg List.length hq
    rw [HS.out, List.length_append] at hlen
    have hpos2 : 2 ≤ L.size := by simp at hlen; omega
    have hpos : 0 < L.size := by omega
    have hlast : L.size - 1 < L.size := by omega
    have h10 := H10.out hlast
    obtain ⟨dl, hdl⟩ : ∃ dl, dl = L.data.toList.drop 2 := ⟨_, rfl⟩
    have hdll : dl.length + 2 = L.size := by rw [hdl, List.length_drop, HS.out]; omega
    have HDL := Lib.hid hdl
    have hsl2 : ∀ wx, (Instr.slice 9 (.string L) (some (.int .i64 2)) none none).run Tryd.prog wx = .ok (.string (mkB dl)) wx := fun wx => by
      have := run_slice_string_from_if (P := Tryd.prog) wx 9 L .i64 2 Tryd.underlying9
      rw [this, if_pos (by omega)]
      have e : L.extract (2 : Int).toNat L.size = mkB dl := by
        rw [show (2 : Int).toNat = 2 from rfl, extract_end, HDL.out]
        rfl
      rw [e]
    have hds : (mkB dl).size ≤ 2305843009213693952 := by rw [mkB_size]; omega
    have htl := trim_length dl
    clear hp hq hlen hn H10 hdl
    by_cases hp2 : Lib.hasPrefix (Lib.trimSpaceD dl) plWord = true
    · have HP2 := Lib.hid hp2
      obtain ⟨r', hr0⟩ := List.isPrefixOf_iff_prefix.1 hp2
      have hr := hr0.symm
      clear hr0
      have HR := Lib.hid hr
      have HO := Lib.hid (plText_yes HP.out (by rw [← HDL.out]; exact hr))
      have hrl : r'.length + 6 ≤ dl.length := by rw [hr, List.length_append] at htl; simp [plWord] at htl; omega
      rw [HO.out]
      clear hp2 hr htl
      go_enter Tryd.func60, Tryd.ntmps60
      go_wp2_with fail
      refine (contains_any L 10 _ hs).mono ?_
      rw [HN.out]
      rintro e1 w1 ⟨rfl, rfl⟩
      go_wp2_with fail
      refine (Tryd.strings_HasPrefix _ _ _).mono ?_
      rw [show Lib.hasPrefix L.data.toList (ByteArray.mk #[47, 47]).data.toList = true from HP.out]
      rintro e2 w2 ⟨rfl, hw2⟩
      subst hw2
      go_wp2_with fail
      refine (trim_any _ _ (by omega) HT.out).mono ?_
      rintro e3 w3 ⟨rfl, hb3⟩
      have HB3 := Lib.hid hb3
      have HT3 := Lib.hid (HT.out.below hb3)
      have HG : Hid ((⟨(Lib.trimSpaceD (mkB dl).data.toList).toArray⟩ : ByteArray) = mkB (plWord ++ r')) := Lib.hid (by rw [mkB_toList, HR.out]; rfl)
      rw [HG.out]
      have hgs : (mkB (plWord ++ r')).size = 6 + r'.length := by rw [mkB_size]; simp [plWord]; omega
      have hg6 : 6 ≤ (mkB (plWord ++ r')).size := by omega
      have hsl : ∀ wx, (Instr.slice 9 (.string (mkB (plWord ++ r'))) (some (.int .i64 6)) none none).run Tryd.prog wx = .ok (.string (mkB r')) wx := fun wx => by
        have := run_slice_string_from_if (P := Tryd.prog) wx 9 (mkB (plWord ++ r')) .i64 6 Tryd.underlying9
        rw [this, if_pos (by omega)]
        have e : (mkB (plWord ++ r')).extract (6 : Int).toNat (mkB (plWord ++ r')).size = mkB r' := by
          rw [show (6 : Int).toNat = 6 from rfl, extract_end]
          unfold dropB
          rw [mkB_toList]
          rfl
        rw [e]
      have hrs : (mkB r').size ≤ 2305843009213693952 := by rw [mkB_size]; omega
      clear hgs hg6 hb3
      go_wp2_with fail
      refine (Tryd.strings_HasPrefix _ _ _).mono ?_
      rw [show Lib.hasPrefix (mkB (plWord ++ r')).data.toList (ByteArray.mk #[43, 98, 117, 105, 108, 100]).data.toList = true from by rw [mkB_toList]; exact List.isPrefixOf_iff_prefix.2 ⟨_, rfl⟩]
      rintro e5 w5 ⟨rfl, hw5⟩
      subst hw5
      go_wp2_with fail
      refine (trim_any _ _ (by omega) HT3.out).mono ?_
      rw [mkB_toList, show (⟨(Lib.trimSpaceD r').toArray⟩ : ByteArray) = mkB (Lib.trimSpaceD r') from rfl]
      rintro e4 w4 ⟨rfl, hb4⟩
      have HB4 := Lib.hid (HB3.out.trans (hb4.mono HB3.out.size))
      have hts : (mkB (Lib.trimSpaceD r')).size ≤ 2305843009213693952 := by rw [mkB_size]; have := trim_length r'; rw [mkB_size] at hrs; omega
      clear hb4 hsl hsl2 HR HO HG
      by_cases hne : r' = []
      · subst hne
        have heq : (((mkB []).size : Int) == ((mkB (Lib.trimSpaceD [])).size : Int)) = true := by rfl
        have hem : (mkB []).toList.isEmpty = true := empty_yes rfl
        have hem2 : (!(mkB []).toList.isEmpty) = false := by rw [hem]; rfl
        go_wp2_with fail
        go_ret2
        exact ⟨rfl, HB4.out⟩
      · have hem : (mkB r').toList.isEmpty = false := empty_no (by rw [mkB_size]; exact List.length_pos_iff.2 hne)
        have hem2 : (!(mkB r').toList.isEmpty) = true := by rw [hem]; rfl
        by_cases hlen : r'.length = (Lib.trimSpaceD r').length
        · have heq : (((mkB r').size : Int) == ((mkB (Lib.trimSpaceD r')).size : Int)) = true := by rw [mkB_size, mkB_size, ← hlen]; simp
          have HO2 := Lib.hid (cutT_same hne hlen)
          clear hne hlen
          go_wp2_with fail
          go_ret2
          exact ⟨by rw [HO2.out]; rfl, HB4.out⟩
        · have heq : (((mkB r').size : Int) == ((mkB (Lib.trimSpaceD r')).size : Int)) = false := by rw [mkB_size, mkB_size]; simp; omega
          have HO2 := Lib.hid (cutT_other hlen)
          clear hne hlen
          go_wp2_with fail
          go_ret2
          exact ⟨by rw [HO2.out]; rfl, HB4.out⟩
    · have hp2 : Lib.hasPrefix (Lib.trimSpaceD dl) plWord = false := by simpa using hp2
      have HP2 := Lib.hid hp2
      rw [plText_no2 (by rw [← HDL.out]; exact hp2)]
      clear hp2
      go_enter Tryd.func60, Tryd.ntmps60
      go_wp2_with fail
      refine (contains_any L 10 _ hs).mono ?_
      rw [HN.out]
      rintro e1 w1 ⟨rfl, rfl⟩
      go_wp2_with fail
      refine (Tryd.strings_HasPrefix _ _ _).mono ?_
      rw [show Lib.hasPrefix L.data.toList (ByteArray.mk #[47, 47]).data.toList = true from HP.out]
      rintro e2 w2 ⟨rfl, hw2⟩
      subst hw2
      go_wp2_with fail
      refine (trim_any _ _ (by omega) HT.out).mono ?_
      rw [mkB_toList, show (⟨(Lib.trimSpaceD dl).toArray⟩ : ByteArray) = mkB (Lib.trimSpaceD dl) from rfl]
      rintro e3 w3 ⟨rfl, hb3⟩
      have HB3 := Lib.hid hb3
      have hts : (mkB (Lib.trimSpaceD dl)).size ≤ 2305843009213693952 := by rw [mkB_size]; omega
      clear hb3 hsl2
      go_wp2_with fail
      refine (Tryd.strings_HasPrefix _ _ _).mono ?_
      rw [show Lib.hasPrefix (mkB (Lib.trimSpaceD dl)).data.toList (ByteArray.mk #[43, 98, 117, 105, 108, 100]).data.toList = false from by rw [mkB_toList]; exact HP2.out]
      rintro e5 w5 ⟨rfl, hw5⟩
      subst hw5
      go_wp2_with fail
      go_ret2
      exact ⟨rfl, HB3.out⟩
  · have hp : Lib.hasPrefix L.data.toList [47, 47] = false := by simpa using hp
    have HP := Lib.hid hp
    rw [plText_no1 hp]
    clear hp hn
    by_cases hpos : 0 < L.size
    · have hlast : L.size - 1 < L.size := by omega
      have h10 := H10.out hlast
      clear H10
      go_enter Tryd.func60, Tryd.ntmps60
      go_wp2_with fail
      refine (contains_any L 10 _ hs).mono ?_
      rw [HN.out]
      rintro e1 w1 ⟨rfl, rfl⟩
      go_wp2_with fail
      refine (Tryd.strings_HasPrefix _ _ _).mono ?_
      rw [show Lib.hasPrefix L.data.toList (ByteArray.mk #[47, 47]).data.toList = false from HP.out]
      rintro e2 w2 ⟨rfl, hw2⟩
      subst hw2
      go_wp2_with fail
      go_ret2
      exact ⟨rfl, Below.refl _ _⟩
    · have hz : L.size = 0 := by omega
      have hpos2 : ¬ (0 : Int) < (L.size : Int) := by omega
      clear H10 hz
      go_enter Tryd.func60, Tryd.ntmps60
      go_wp2_with fail
      refine (contains_any L 10 _ hs).mono ?_
      rw [HN.out]
      rintro e1 w1 ⟨rfl, rfl⟩
      go_wp2_with fail
      refine (Tryd.strings_HasPrefix _ _ _).mono ?_
      rw [show Lib.hasPrefix L.data.toList (ByteArray.mk #[47, 47]).data.toList = false from HP.out]
      rintro e2 w2 ⟨rfl, hw2⟩
      subst hw2
      go_wp2_with fail
      go_ret2
      exact ⟨rfl, Below.refl _ _⟩

set_option maxHeartbeats 1000000 in
theorem cIsGo_any (L : ByteArray) (w : World) (hn : hasByte L 10 = false) (hs : L.size ≤ 2305843009213693952) (hT : Tabs w) : Calls Tryd.prog 49 #[.string L] w (CallPost (goText L.data.toList).isSome w) := by
  have HC := Lib.hid (splitGo_all L w hn hs hT)
  obtain ⟨o, ho⟩ : ∃ o, o = goText L.data.toList := ⟨_, rfl⟩
  rw [← ho] at HC ⊢
  clear ho hn hs hT
  go_enter Tryd.func49, Tryd.ntmps49
  go_wp2_with fail
  refine HC.out.mono ?_
  rintro e1 w1 ⟨rfl, hb1⟩
  have HB := Lib.hid hb1
  clear hb1
  go_wp2_with fail
  go_ret
  exact ⟨rfl, HB.out⟩
set_option maxHeartbeats 1000000 in
theorem cIsPl_any (L : ByteArray) (w : World) (hn : hasByte L 10 = false) (hs : L.size ≤ 2305843009213693952) (hT : Tabs w) : Calls Tryd.prog 48 #[.string L] w (CallPost (plText L.data.toList).isSome w) := by
  have HC := Lib.hid (splitPl_all L w hn hs hT)
  obtain ⟨o, ho⟩ : ∃ o, o = plText L.data.toList := ⟨_, rfl⟩
  rw [← ho] at HC ⊢
  clear ho hn hs hT
  go_enter Tryd.func48, Tryd.ntmps48
  go_wp2_with fail
  refine HC.out.mono ?_
  rintro e1 w1 ⟨rfl, hb1⟩
  have HB := Lib.hid hb1
  clear hb1
  go_wp2_with fail
  go_ret
  exact ⟨rfl, HB.out⟩
set_option maxHeartbeats 1000000 in
theorem isGo_any (L : ByteArray) (w : World) (hn : hasByte L 10 = false) (hs : L.size ≤ 2305843009213693952) (hT : Tabs w) : Calls Tryd.prog 26 #[.string L] w (CallPost (goText L.data.toList).isSome w) := by
  have HC := Lib.hid (cIsGo_any L w hn hs hT)
  obtain ⟨o, ho⟩ : ∃ o, o = goText L.data.toList := ⟨_, rfl⟩
  rw [← ho] at HC ⊢
  clear ho hn hs hT
  go_enter Tryd.func26, Tryd.ntmps26
  go_wp2_with fail
  refine HC.out.mono ?_
  rintro e1 w1 ⟨rfl, hb1⟩
  have HB := Lib.hid hb1
  clear hb1
  go_wp2_with fail
  go_ret
  exact ⟨rfl, HB.out⟩
set_option maxHeartbeats 1000000 in
theorem isPl_any (L : ByteArray) (w : World) (hn : hasByte L 10 = false) (hs : L.size ≤ 2305843009213693952) (hT : Tabs w) : Calls Tryd.prog 25 #[.string L] w (CallPost (plText L.data.toList).isSome w) := by
  have HC := Lib.hid (cIsPl_any L w hn hs hT)
  obtain ⟨o, ho⟩ : ∃ o, o = plText L.data.toList := ⟨_, rfl⟩
  rw [← ho] at HC ⊢
  clear ho hn hs hT
  go_enter Tryd.func25, Tryd.ntmps25
  go_wp2_with fail
  refine HC.out.mono ?_
  rintro e1 w1 ⟨rfl, hb1⟩
  have HB := Lib.hid hb1
  clear hb1
  go_wp2_with fail
  go_ret
  exact ⟨rfl, HB.out⟩
end Go.Proofs.YteemenhinhkonaaDoor
