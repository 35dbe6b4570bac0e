/- The walk of laws.FnIsBuild. -/
import Derived.Test.YteemenhinhkonaaDoorProg
import Derived.Test.YteemenhinhkonaaDoorPlusE
import Derived.Test.YteemenhinhkonaaDoorBegins
import Derived.Test.YteemenhinhkonaaDoorSpecTags
namespace Go.Proofs.YteemenhinhkonaaDoor
open Go.RowKit

theorem no10_of {s : ByteArray} (h : (10 : UInt8) ∉ s.data.toList) : hasByte s 10 = false := by
  unfold hasByte
  rw [List.any_eq_false]
  intro c hc e
  have e : c = 10 := by simpa using e
  exact h (e ▸ hc)
set_option maxRecDepth 100000 in
set_option maxHeartbeats 4000000 in
theorem fnIsBuild_any (s r : ByteArray) (w : World) (hs : s.size ≤ 1048576) (hr : r.size ≤ 1048576) (hT : Tabs w) (hE : Errs w) : Calls Tryd.prog 12 #[.string s, .string r] w (CallPost true w) := by
  have s1 := fun w => run_string_add_sum (P := Tryd.prog) w s r (by omega)
  have HT := Lib.hid hT
  have HE := Lib.hid hE
  have hl1 : s.data.toList.length = s.size := by simp
  have hl2 : r.data.toList.length = r.size := by simp
  have HL1 := Lib.hid hl1
  have HL2 := Lib.hid hl2
  have hsr : (s ++ r).size ≤ 2097152 := by rw [ByteArray.size_append]; omega
  have hd : (s ++ r).data.toList = s.data.toList ++ r.data.toList := by simp [ByteArray.data_append]
  have HD := Lib.hid hd
  have HSR := Lib.hid hsr
  clear hT hE hl1 hl2 hd hsr
  go_enter Tryd.func12, Tryd.ntmps12
  go_wp2_with fail
  refine (lined_any (s ++ r) w (by have := HSR.out; omega)).mono ?_
  rintro e0 w0 ⟨b, rfl, hb0, h10⟩
  have HB0 := Lib.hid hb0
  have H10 := Lib.hid h10
  clear hb0 h10 s1
  cases b with
  | false =>
    go_wp2_with fail
    go_ret
    exact ⟨rfl, HB0.out⟩
  | true =>
  have hno : (10 : UInt8) ∉ s.data.toList ∧ (10 : UInt8) ∉ r.data.toList := by
    have := H10.out.1 rfl
    rw [HD.out] at this
    simp only [List.mem_append, not_or] at this
    exact this
  have HNS := Lib.hid (no10_of hno.1)
  have HNR := Lib.hid hno.2
  clear hno
  by_cases hr0 : r.size = 0
  · have hem : r.toList.isEmpty = true := empty_yes hr0
    have he : r.toList = [] := by simpa using hem
    clear hr0
    go_wp2_with fail
    go_ret
    exact ⟨rfl, HB0.out⟩
  · have hem : r.toList.isEmpty = false := empty_no (by omega)
    have hem2 : (!r.toList.isEmpty) = true := by rw [hem]; rfl
    have hr1 : 1 ≤ r.size := by omega
    have sl : ∀ wx, (Instr.slice 9 (.string r) none (some (.int .i64 1)) none).run Tryd.prog wx = .ok (.string (r.extract 0 1)) wx := fun wx => by
      have := run_slice_string_to_if (P := Tryd.prog) wx 9 r .i64 1 Tryd.underlying9
      rw [this, if_pos (by omega)]
      simp
    have HX1 : Hid ((r.extract 0 1).size ≤ 1152921504606846976) := Lib.hid (by rw [ByteArray.size_extract]; omega)
    clear hr0
    go_wp2_with fail
    refine (tagOk_any (r.extract 0 1) _ HX1.out).mono ?_
    rintro e1 w1 ⟨rfl, rfl⟩
    clear sl hem hem2
    cases htg : tagOkB (r.extract 0 1) with
    | false =>
      go_wp2_with fail
      go_ret
      exact ⟨rfl, HB0.out⟩
    | true =>
    clear htg
    have HT0 := Lib.hid (HT.out.below HB0.out)
    go_wp2_with fail
    refine (isGo_any s w0 HNS.out (by omega) HT0.out).mono ?_
    rintro e1 w1 ⟨rfl, hb1⟩
    have HB1 := Lib.hid (HB0.out.trans (hb1.mono HB0.out.size))
    have HT1 := Lib.hid (HT0.out.below hb1)
    obtain ⟨one, hone⟩ : ∃ o, o = (goText s.data.toList).isSome := ⟨_, rfl⟩
    rw [← hone]
    have HONE := Lib.hid hone
    clear hb1 hone
    go_wp2_with fail
    refine (isPl_any s w1 HNS.out (by omega) HT1.out).mono ?_
    rintro e2 w2 ⟨rfl, hb2⟩
    have HB2 := Lib.hid (HB1.out.trans (hb2.mono HB1.out.size))
    have HT2 := Lib.hid (HT1.out.below hb2)
    obtain ⟨two, htwo⟩ : ∃ o, o = (plText s.data.toList).isSome := ⟨_, rfl⟩
    rw [← htwo]
    have HTWO := Lib.hid htwo
    clear hb2 htwo
    have HE2 := Lib.hid (HE.out.below HB2.out)
    have e1 : (ByteArray.mk #[47, 47, 103, 111, 58, 98, 117, 105, 108, 100, 32]).size = 11 := rfl
    have e2 : (ByteArray.mk #[47, 47, 32, 43, 98, 117, 105, 108, 100, 32]).size = 10 := rfl
    have s1 := fun w => run_string_add_sum (P := Tryd.prog) w { data := #[47, 47, 103, 111, 58, 98, 117, 105, 108, 100, 32] } r (by rw [e1]; omega)
    have s2 := fun w => run_string_add_sum (P := Tryd.prog) w { data := #[47, 47, 32, 43, 98, 117, 105, 108, 100, 32] } r (by rw [e2]; omega)
    have d1 : (ByteArray.mk #[47, 47, 103, 111, 58, 98, 117, 105, 108, 100, 32] ++ r).data.toList = goWord ++ 32 :: r.data.toList := by simp [ByteArray.data_append, goWord]
    have d2 : (ByteArray.mk #[47, 47, 32, 43, 98, 117, 105, 108, 100, 32] ++ r).data.toList = 47 :: 47 :: 32 :: (plWord ++ 32 :: r.data.toList) := by simp [ByteArray.data_append, plWord]
    have HG : Hid (∀ w', Tabs w' → Calls Tryd.prog 26 #[.string (ByteArray.mk #[47, 47, 103, 111, 58, 98, 117, 105, 108, 100, 32] ++ r)] w' (CallPost true w')) := Lib.hid fun w' hT' => by
      have := isGo_any (ByteArray.mk #[47, 47, 103, 111, 58, 98, 117, 105, 108, 100, 32] ++ r) w' (no10_of (by rw [d1]; simp [goWord, HNR.out])) (by rw [ByteArray.size_append, e1]; omega) hT'
      rw [d1, goText_word] at this
      exact this
    have HP : Hid (∀ w', Tabs w' → Calls Tryd.prog 25 #[.string (ByteArray.mk #[47, 47, 32, 43, 98, 117, 105, 108, 100, 32] ++ r)] w' (CallPost true w')) := Lib.hid fun w' hT' => by
      have := isPl_any (ByteArray.mk #[47, 47, 32, 43, 98, 117, 105, 108, 100, 32] ++ r) w' (no10_of (by rw [d2]; simp [plWord, HNR.out])) (by rw [ByteArray.size_append, e2]; omega) hT'
      rw [d2, plText_word] at this
      exact this
    clear e1 e2 d1 d2
    cases one with
    | true =>
      have hb := HONE.out
      have hpn := not_both s.data.toList hb.symm
      have h2 : two = false := by rw [HTWO.out, hpn]; rfl
      subst h2
      have HGP : Hid (Lib.hasPrefix s.data.toList (ByteArray.mk #[47, 47, 103, 111, 58, 98, 117, 105, 108, 100]).data.toList = true) := Lib.hid (by
        unfold goText at hb
        split at hb
        · assumption
        · cases hb)
      clear hb hpn
      go_wp2_with fail
      refine (begins_any s { data := #[47, 47, 103, 111, 58, 98, 117, 105, 108, 100] } w2 (by show (10 : Nat) ≤ _; omega)).mono ?_
      rw [HGP.out]
      rintro e3 w3 ⟨rfl, rfl⟩
      go_wp2_with fail
      refine (implParse_all s w2 HNS.out (by omega) HT2.out HE2.out).mono ?_
      rintro e4 w4 ⟨hb4, hcase⟩
      have HB4 := Lib.hid (HB2.out.trans (hb4.mono HB2.out.size))
      have HT4 := Lib.hid (HT2.out.below hb4)
      have hform : ∃ c0 c1 c2 off ok, e4 = .returned (.tuple #[.agg #[.int .i64 c0, .string c1, c2], .int .i64 off, .bool ok]) ∧ ∃ p q r, c2 = .slice p q r := by
        rcases hcase with ⟨x, c0, c1, c2, _, he, hx⟩ | ⟨_, off, he⟩
        · obtain ⟨sx, ax, cx, rfl, rfl, rfl, -⟩ := hx.form
          exact ⟨_, _, _, _, _, he, _, _, _, rfl⟩
        · exact ⟨_, _, _, _, _, he, _, _, _, rfl⟩
      obtain ⟨c0, c1, c2, off, ok, rfl, p, q, t, rfl⟩ := hform
      clear hb4 hcase s1 s2
      cases ok with
      | true =>
        have s1 := fun w => run_string_add_sum (P := Tryd.prog) w { data := #[47, 47, 103, 111, 58, 98, 117, 105, 108, 100, 32] } r (by show 11 + r.size ≤ _; omega)
        have s2 := fun w => run_string_add_sum (P := Tryd.prog) w { data := #[47, 47, 32, 43, 98, 117, 105, 108, 100, 32] } r (by show 10 + r.size ≤ _; omega)
        go_wp2_with fail
        refine (HG.out _ (HT4.out.heap rfl |>.below ((Below.refl _ _).alloc (Nat.le_refl _) _))).mono ?_
        rintro e6 w6 ⟨rfl, hb6⟩
        have HB6 : Hid (Below w.heap.size w w6) := Lib.hid ((HB4.out.alloc HB4.out.size _).trans (hb6.mono (Nat.le_trans HB4.out.size (by simp))))
        have HT6 := Lib.hid (HT.out.below HB6.out)
        clear hb6 s1
        go_wp2_with fail
        refine (HP.out _ HT6.out).mono ?_
        rintro e7 w7 ⟨rfl, hb7⟩
        have HB7 := Lib.hid (HB6.out.trans (hb7.mono HB6.out.size))
        clear hb7 s2
        go_wp2_with fail
        go_ret
        exact ⟨rfl, HB7.out⟩
      | false =>
        have s1 := fun w => run_string_add_sum (P := Tryd.prog) w { data := #[47, 47, 103, 111, 58, 98, 117, 105, 108, 100, 32] } r (by show 11 + r.size ≤ _; omega)
        have s2 := fun w => run_string_add_sum (P := Tryd.prog) w { data := #[47, 47, 32, 43, 98, 117, 105, 108, 100, 32] } r (by show 10 + r.size ≤ _; omega)
        go_wp2_with fail
        refine (HG.out _ (HT4.out.heap rfl |>.below ((Below.refl _ _).alloc (Nat.le_refl _) _))).mono ?_
        rintro e6 w6 ⟨rfl, hb6⟩
        have HB6 : Hid (Below w.heap.size w w6) := Lib.hid ((HB4.out.alloc HB4.out.size _).trans (hb6.mono (Nat.le_trans HB4.out.size (by simp))))
        have HT6 := Lib.hid (HT.out.below HB6.out)
        clear hb6 s1
        go_wp2_with fail
        refine (HP.out _ HT6.out).mono ?_
        rintro e7 w7 ⟨rfl, hb7⟩
        have HB7 := Lib.hid (HB6.out.trans (hb7.mono HB6.out.size))
        clear hb7 s2
        go_wp2_with fail
        go_ret
        exact ⟨rfl, HB7.out⟩
    | false =>
      cases two with
      | true =>
        obtain ⟨hp1, hp2⟩ := plText_holds s.data.toList HTWO.out.symm
        have HP1 : Hid (Lib.hasPrefix s.data.toList (ByteArray.mk #[47, 47]).data.toList = true) := Lib.hid hp1
        have HP2 : Hid (∃ i, i < s.data.toList.length ∧ Lib.hasPrefix (s.data.toList.drop i) (ByteArray.mk #[43, 98, 117, 105, 108, 100]).data.toList = true) := Lib.hid hp2
        clear hp1 hp2
        go_wp2_with fail
        refine (begins_any s { data := #[47, 47] } w2 (by show (2 : Nat) ≤ _; omega)).mono ?_
        rw [HP1.out]
        rintro e3 w3 ⟨rfl, rfl⟩
        go_wp2_with fail
        refine (holds_any s { data := #[43, 98, 117, 105, 108, 100] } w2 (by omega) (by show (6 : Nat) ≤ _; omega)).mono ?_
        rintro e5 w5 ⟨⟨bh, rfl, hbh⟩, rfl⟩
        have hbt : bh = true := hbh.2 HP2.out
        subst hbt
        clear hbh
        go_wp2_with fail
        refine (implParse_all s w2 HNS.out (by omega) HT2.out HE2.out).mono ?_
        rintro e4 w4 ⟨hb4, hcase⟩
        have HB4 := Lib.hid (HB2.out.trans (hb4.mono HB2.out.size))
        have HT4 := Lib.hid (HT2.out.below hb4)
        have hform : ∃ c0 c1 c2 off ok, e4 = .returned (.tuple #[.agg #[.int .i64 c0, .string c1, c2], .int .i64 off, .bool ok]) ∧ ∃ p q r, c2 = .slice p q r := by
          rcases hcase with ⟨x, c0, c1, c2, _, he, hx⟩ | ⟨_, off, he⟩
          · obtain ⟨sx, ax, cx, rfl, rfl, rfl, -⟩ := hx.form
            exact ⟨_, _, _, _, _, he, _, _, _, rfl⟩
          · exact ⟨_, _, _, _, _, he, _, _, _, rfl⟩
        obtain ⟨c0, c1, c2, off, ok, rfl, p, q, t, rfl⟩ := hform
        clear hb4 hcase s1 s2
        cases ok with
        | true =>
          have s1 := fun w => run_string_add_sum (P := Tryd.prog) w { data := #[47, 47, 103, 111, 58, 98, 117, 105, 108, 100, 32] } r (by show 11 + r.size ≤ _; omega)
          have s2 := fun w => run_string_add_sum (P := Tryd.prog) w { data := #[47, 47, 32, 43, 98, 117, 105, 108, 100, 32] } r (by show 10 + r.size ≤ _; omega)
          go_wp2_with fail
          refine (HG.out _ (HT4.out.heap rfl |>.below ((Below.refl _ _).alloc (Nat.le_refl _) _))).mono ?_
          rintro e6 w6 ⟨rfl, hb6⟩
          have HB6 : Hid (Below w.heap.size w w6) := Lib.hid ((HB4.out.alloc HB4.out.size _).trans (hb6.mono (Nat.le_trans HB4.out.size (by simp))))
          have HT6 := Lib.hid (HT.out.below HB6.out)
          clear hb6 s1
          go_wp2_with fail
          refine (HP.out _ HT6.out).mono ?_
          rintro e7 w7 ⟨rfl, hb7⟩
          have HB7 := Lib.hid (HB6.out.trans (hb7.mono HB6.out.size))
          clear hb7 s2
          go_wp2_with fail
          go_ret
          exact ⟨rfl, HB7.out⟩
        | false =>
          have s1 := fun w => run_string_add_sum (P := Tryd.prog) w { data := #[47, 47, 103, 111, 58, 98, 117, 105, 108, 100, 32] } r (by show 11 + r.size ≤ _; omega)
          have s2 := fun w => run_string_add_sum (P := Tryd.prog) w { data := #[47, 47, 32, 43, 98, 117, 105, 108, 100, 32] } r (by show 10 + r.size ≤ _; omega)
          go_wp2_with fail
          refine (HG.out _ (HT4.out.heap rfl |>.below ((Below.refl _ _).alloc (Nat.le_refl _) _))).mono ?_
          rintro e6 w6 ⟨rfl, hb6⟩
          have HB6 : Hid (Below w.heap.size w w6) := Lib.hid ((HB4.out.alloc HB4.out.size _).trans (hb6.mono (Nat.le_trans HB4.out.size (by simp))))
          have HT6 := Lib.hid (HT.out.below HB6.out)
          clear hb6 s1
          go_wp2_with fail
          refine (HP.out _ HT6.out).mono ?_
          rintro e7 w7 ⟨rfl, hb7⟩
          have HB7 := Lib.hid (HB6.out.trans (hb7.mono HB6.out.size))
          clear hb7 s2
          go_wp2_with fail
          go_ret
          exact ⟨rfl, HB7.out⟩
      | false =>
        go_wp2_with fail
        refine (implParse_all s w2 HNS.out (by omega) HT2.out HE2.out).mono ?_
        rintro e4 w4 ⟨hb4, hcase⟩
        have HB4 := Lib.hid (HB2.out.trans (hb4.mono HB2.out.size))
        have HT4 := Lib.hid (HT2.out.below hb4)
        have hoff : ∃ off : Int, e4 = .returned (.tuple #[.agg #[.int .i64 0, .string { data := #[] }, .slice none 0 0], .int .i64 off, .bool false]) := by
          rcases hcase with ⟨x, c0, c1, c2, hp, _⟩ | ⟨_, off, he⟩
          · rcases hp.1 with h | h
            · rw [← HONE.out] at h; cases h
            · rw [← HTWO.out] at h; cases h
          · exact ⟨off, he⟩
        obtain ⟨off, rfl⟩ := hoff
        clear hb4 hcase
        have s1 := fun w => run_string_add_sum (P := Tryd.prog) w { data := #[47, 47, 103, 111, 58, 98, 117, 105, 108, 100, 32] } r (by show 11 + r.size ≤ _; omega)
        have s2 := fun w => run_string_add_sum (P := Tryd.prog) w { data := #[47, 47, 32, 43, 98, 117, 105, 108, 100, 32] } r (by show 10 + r.size ≤ _; omega)
        go_wp2_with fail
        refine (HG.out _ (HT4.out.heap rfl |>.below ((Below.refl _ _).alloc (Nat.le_refl _) _))).mono ?_
        rintro e6 w6 ⟨rfl, hb6⟩
        have HB6 : Hid (Below w.heap.size w w6) := Lib.hid ((HB4.out.alloc HB4.out.size _).trans (hb6.mono (Nat.le_trans HB4.out.size (by simp))))
        have HT6 := Lib.hid (HT.out.below HB6.out)
        clear hb6 s1
        go_wp2_with fail
        refine (HP.out _ HT6.out).mono ?_
        rintro e7 w7 ⟨rfl, hb7⟩
        have HB7 := Lib.hid (HB6.out.trans (hb7.mono HB6.out.size))
        clear hb7 s2
        go_wp2_with fail
        go_ret
        exact ⟨rfl, HB7.out⟩
end Go.Proofs.YteemenhinhkonaaDoor
