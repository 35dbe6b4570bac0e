/- The package's splitGoBuild, splitPlusBuild, IsGoBuild and IsPlusBuild, at every line without a newline. -/
import Derived.Test.YteemenhinhkonaaDoorProg
import Derived.Test.YteemenhinhkonaaDoorSplit
import Derived.Test.YteemenhinhkonaaDoorPlusG
namespace Go.Proofs.YteemenhinhkonaaDoor
open Go.RowKit

theorem last_not10 {L : ByteArray} (hn : hasByte L 10 = false) (hl : L.size - 1 < L.size) : ((L[L.size - 1].toNat : Int) == 10) = false := by
  have hm : (L[L.size - 1] == (10 : UInt8)) = false := by
    unfold hasByte at hn
    rw [List.any_eq_false] at hn
    have := hn L[L.size - 1] (by simp [ByteArray.getElem_eq_getElem_data])
    simpa using this
  rw [byte_beq] at hm
  have e : ((10 : UInt8)).toNat = 10 := rfl
  rw [e] at hm
  simp at hm ⊢
  omega
def SpPost (o : Option (List UInt8)) (w : World) (en : Ending) (w' : World) : Prop := en = .returned (.tuple #[.string (mkB (o.getD [])), .bool o.isSome]) ∧ Below w.heap.size w w'
theorem trim_goWord {l : List UInt8} (h : Lib.hasPrefix l goWord = true) : ∃ r', Lib.trimSpaceD l = goWord ++ r' := by
  obtain ⟨r, rfl⟩ := List.isPrefixOf_iff_prefix.1 h
  have hl : Lib.trimLeftD (goWord ++ r).length (goWord ++ r) = goWord ++ r := by
    rw [show (goWord ++ r).length = ((goWord ++ r).length - 1) + 1 from by simp [goWord]]
    exact Lib.left_stop _ 47 _ rfl (by decide)
  obtain ⟨r', b, h1, h2⟩ := trimRight_keeps goW0 100 (by decide) (goWord ++ r).length r
  refine ⟨r', ?_⟩
  unfold Lib.trimSpaceD
  rw [hl]
  exact h1
theorem goText_no {l : List UInt8} (h : Lib.hasPrefix l goWord = false) : goText l = none := by
  unfold goText
  rw [if_neg (by rw [h]; simp)]
theorem goText_yes {l r' : List UInt8} (h : Lib.hasPrefix l goWord = true) (hr : Lib.trimSpaceD l = goWord ++ r') : goText l = cutT r' := by
  unfold goText
  rw [if_pos h, hr]
  rfl
theorem cutT_same {r : List UInt8} (h : r ≠ []) (e : r.length = (Lib.trimSpaceD r).length) : cutT r = none := by
  unfold cutT
  rw [if_pos]
  cases r with
  | nil => exact absurd rfl h
  | cons c r => simp only [Bool.and_eq_true, beq_iff_eq]; exact ⟨e, rfl⟩
theorem cutT_other {r : List UInt8} (e : r.length ≠ (Lib.trimSpaceD r).length) : cutT r = some (Lib.trimSpaceD r) := by
  unfold cutT
  rw [if_neg]
  simp only [Bool.and_eq_true, beq_iff_eq]
  exact fun h => e h.1
theorem cutT_nil : cutT [] = some [] := rfl
set_option maxHeartbeats 1000000 in
theorem splitGo_all (L : ByteArray) (w : World) (hn : hasByte L 10 = false) (hs : L.size ≤ 2305843009213693952) (hT : Tabs w) :
    Calls Tryd.prog 58 #[.string L] w (SpPost (goText L.data.toList) w) := by
  have hsz : L.data.toList.length = L.size := by simp
  have HN := Lib.hid hn
  have HS := Lib.hid hsz
  have HT := Lib.hid hT
  have h10 : ∀ h : L.size - 1 < L.size, ((L[L.size - 1].toNat : Int) == 10) = false := fun h => last_not10 hn h
  have H10 := Lib.hid h10
  clear hsz hT h10
  by_cases hp : Lib.hasPrefix L.data.toList goWord = true
  · obtain ⟨r', hr⟩ := trim_goWord hp
    have HP := Lib.hid hp
    have HR := Lib.hid hr
    have HO := Lib.hid (goText_yes hp hr)
    have hlen := trim_length L.data.toList
    rw [hr, HS.out, List.length_append] at hlen
    have hpos : 0 < L.size := by simp [goWord] at hlen; omega
    have hlast : L.size - 1 < L.size := by omega
    have h10 := H10.out hlast
    have hrl : r'.length + 10 ≤ L.size := by simp [goWord] at hlen; omega
    rw [HO.out]
    clear hp hr hlen hn H10
    go_enter Tryd.func58, Tryd.ntmps58
    go_wp2_with fail
    refine (contains_any L 10 _ hs).mono ?_
    rw [HN.out]
    rintro e1 w1 ⟨rfl, rfl⟩
    go_wp2_with fail
    refine (Tryd.strings_HasPrefix _ _ _).mono ?_
    rw [show Lib.hasPrefix L.data.toList (ByteArray.mk #[47, 47, 103, 111, 58, 98, 117, 105, 108, 100]).data.toList = true from HP.out]
    rintro e2 w2 ⟨rfl, hw2⟩
    subst hw2
    go_wp2_with fail
    refine (trim_any _ _ (by omega) HT.out).mono ?_
    rintro e3 w3 ⟨rfl, hb3⟩
    have HB3 := Lib.hid hb3
    have HT3 := Lib.hid (HT.out.below hb3)
    have HG : Hid ((⟨(Lib.trimSpaceD L.data.toList).toArray⟩ : ByteArray) = mkB (goWord ++ r')) := Lib.hid (by rw [HR.out]; rfl)
    rw [HG.out]
    have hgs : (mkB (goWord ++ r')).size = 10 + r'.length := by rw [mkB_size]; simp [goWord]; omega
    have hg10 : 10 ≤ (mkB (goWord ++ r')).size := by omega
    have hsl : ∀ wx, (Instr.slice 9 (.string (mkB (goWord ++ r'))) (some (.int .i64 10)) none none).run Tryd.prog wx = .ok (.string (mkB r')) wx := fun wx => by
      have := run_slice_string_from_if (P := Tryd.prog) wx 9 (mkB (goWord ++ r')) .i64 10 Tryd.underlying9
      rw [this, if_pos (by omega)]
      have e : (mkB (goWord ++ r')).extract (10 : Int).toNat (mkB (goWord ++ r')).size = mkB r' := by
        rw [show (10 : Int).toNat = 10 from rfl, extract_end]
        unfold dropB
        rw [mkB_toList]
        rfl
      rw [e]
    have hrs : (mkB r').size ≤ 2305843009213693952 := by rw [mkB_size]; omega
    clear hgs hg10 hb3
    go_wp2_with fail
    refine (trim_any _ _ (by omega) HT3.out).mono ?_
    rw [mkB_toList, show (⟨(Lib.trimSpaceD r').toArray⟩ : ByteArray) = mkB (Lib.trimSpaceD r') from rfl]
    rintro e4 w4 ⟨rfl, hb4⟩
    have HB4 := Lib.hid (HB3.out.trans (hb4.mono HB3.out.size))
    have hts : (mkB (Lib.trimSpaceD r')).size ≤ 2305843009213693952 := by rw [mkB_size]; have := trim_length r'; rw [mkB_size] at hrs; omega
    clear hb4 hsl HR HO HG
    by_cases hne : r' = []
    · subst hne
      have heq : (((mkB []).size : Int) == ((mkB (Lib.trimSpaceD [])).size : Int)) = true := by rfl
      have hem : (mkB []).toList.isEmpty = true := empty_yes rfl
      have hem2 : (!(mkB []).toList.isEmpty) = false := by rw [hem]; rfl
      go_wp2_with fail
      go_ret2
      exact ⟨rfl, HB4.out⟩
    · have hem : (mkB r').toList.isEmpty = false := empty_no (by rw [mkB_size]; exact List.length_pos_iff.2 hne)
      have hem2 : (!(mkB r').toList.isEmpty) = true := by rw [hem]; rfl
      by_cases hlen : r'.length = (Lib.trimSpaceD r').length
      · have heq : (((mkB r').size : Int) == ((mkB (Lib.trimSpaceD r')).size : Int)) = true := by rw [mkB_size, mkB_size, ← hlen]; simp
        have HO2 := Lib.hid (cutT_same hne hlen)
        clear hne hlen
        go_wp2_with fail
        go_ret2
        exact ⟨by rw [HO2.out]; rfl, HB4.out⟩
      · have heq : (((mkB r').size : Int) == ((mkB (Lib.trimSpaceD r')).size : Int)) = false := by rw [mkB_size, mkB_size]; simp; omega
        have HO2 := Lib.hid (cutT_other hlen)
        clear hne hlen
        go_wp2_with fail
        go_ret2
        exact ⟨by rw [HO2.out]; rfl, HB4.out⟩
  · have hp : Lib.hasPrefix L.data.toList goWord = false := by simpa using hp
    have HP := Lib.hid hp
    rw [goText_no hp]
    clear hp hn
    by_cases hpos : 0 < L.size
    · have hlast : L.size - 1 < L.size := by omega
      have h10 := H10.out hlast
      clear H10
      go_enter Tryd.func58, Tryd.ntmps58
      go_wp2_with fail
      refine (contains_any L 10 _ hs).mono ?_
      rw [HN.out]
      rintro e1 w1 ⟨rfl, rfl⟩
      go_wp2_with fail
      refine (Tryd.strings_HasPrefix _ _ _).mono ?_
      rw [show Lib.hasPrefix L.data.toList (ByteArray.mk #[47, 47, 103, 111, 58, 98, 117, 105, 108, 100]).data.toList = false from HP.out]
      rintro e2 w2 ⟨rfl, hw2⟩
      subst hw2
      go_wp2_with fail
      go_ret2
      exact ⟨rfl, Below.refl _ _⟩
    · have hz : L.size = 0 := by omega
      have hpos2 : ¬ (0 : Int) < (L.size : Int) := by omega
      clear H10 hz
      go_enter Tryd.func58, Tryd.ntmps58
      go_wp2_with fail
      refine (contains_any L 10 _ hs).mono ?_
      rw [HN.out]
      rintro e1 w1 ⟨rfl, rfl⟩
      go_wp2_with fail
      refine (Tryd.strings_HasPrefix _ _ _).mono ?_
      rw [show Lib.hasPrefix L.data.toList (ByteArray.mk #[47, 47, 103, 111, 58, 98, 117, 105, 108, 100]).data.toList = false from HP.out]
      rintro e2 w2 ⟨rfl, hw2⟩
      subst hw2
      go_wp2_with fail
      go_ret2
      exact ⟨rfl, Below.refl _ _⟩
end Go.Proofs.YteemenhinhkonaaDoor
