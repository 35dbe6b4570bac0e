/- FnNames: a diff tells both names. -/
import Derived.Test.YtncjclmhdhimdaaDoorDReadLaw
import Derived.Test.YtncjclmhdhimdaaDoorDShort
import Derived.Test.YtncjclmhdhimdaaDoorDLined
namespace Go.Proofs.YtncjclmhdhimdaaDoor
open Go.RowKit

theorem str_ne {a b : List UInt8} (h : a ≠ b) : ((mkB a).toList == (mkB b).toList) = false := by
  rw [ByteArray.toList_eq, ByteArray.toList_eq, mkB_toList, mkB_toList]
  exact beq_eq_false_iff_ne.2 h
set_option maxRecDepth 100000 in
set_option maxHeartbeats 4000000 in
theorem fnNames_any (s r p q : ByteArray) (W : World) (h0 : s.size ≤ 1048576) (h1 : r.size ≤ 1048576) (h2 : p.size ≤ 1048576) (h3 : q.size ≤ 1048576) (htab : Lib.TabIs Tryd.prog W "internal/strconv.uint64pow10" .u64 Lib.pow10Tab) :
    Calls Tryd.prog 8 #[.string s, .string r, .string p, .string q] W fun e w' => e = .returned (.bool true) ∧ Below W.heap.size W w' := by
  obtain ⟨on, rfl⟩ : ∃ a, s = mkB a := ⟨s.data.toList, rfl⟩
  obtain ⟨a, rfl⟩ : ∃ a, r = mkB a := ⟨r.data.toList, rfl⟩
  obtain ⟨nn, rfl⟩ : ∃ a, p = mkB a := ⟨p.data.toList, rfl⟩
  obtain ⟨b, rfl⟩ : ∃ a, q = mkB a := ⟨q.data.toList, rfl⟩
  rw [mkB_size] at h0 h1 h2 h3
  have HT := Lib.hid htab
  clear htab
  go_enter Tryd.func8, Tryd.ntmps8
  by_cases hab : a = b
  · subst hab
    go_wp2_with fail
    go_ret
    exact ⟨rfl, Below.refl _ _⟩
  · have n1 := str_ne hab
    have HAB := Lib.hid hab
    clear hab
    go_wp2_with fail
    refine (short_any a b W (by omega) (by omega)).mono ?_
    rintro e1 w1 ⟨sh, rfl, hb1, hsh⟩
    have HB1 := Lib.hid hb1
    have HSH := Lib.hid hsh
    clear hb1 hsh
    cases sh with
    | false =>
      go_wp2_with fail
      go_ret
      exact ⟨rfl, HB1.out⟩
    | true =>
      have hs := HSH.out.1 rfl
      obtain ⟨hla, hlb, -⟩ := hs
      go_wp2_with fail
      refine (lined_any (mkB on) w1 (by rw [mkB_size]; omega)).mono ?_
      rw [mkB_toList]
      rintro e2 w2 ⟨l1, rfl, hb2, hl1⟩
      have HB2 : Hid (Below W.heap.size W w2) := Lib.hid (HB1.out.trans (hb2.mono HB1.out.size))
      have HL1 := Lib.hid hl1
      clear hb2 hl1
      cases l1 with
      | false =>
        go_wp2_with fail
        go_ret
        exact ⟨rfl, HB2.out⟩
      | true =>
        go_wp2_with fail
        refine (lined_any (mkB nn) w2 (by rw [mkB_size]; omega)).mono ?_
        rw [mkB_toList]
        rintro e3 w3 ⟨l2, rfl, hb3, hl2⟩
        have HB3 : Hid (Below W.heap.size W w3) := Lib.hid (HB2.out.trans (hb3.mono HB2.out.size))
        have HL2 := Lib.hid hl2
        clear hb3 hl2
        cases l2 with
        | false =>
          go_wp2_with fail
          go_ret
          exact ⟨rfl, HB3.out⟩
        | true =>
          obtain ⟨v1, w4, c1, ba1, hb4⟩ := conv_ba w3 a
          obtain ⟨v2, w5, c2, ba2, hb5⟩ := conv_ba w4 b
          have HB5 : Hid (Below W.heap.size W w5) := Lib.hid (HB3.out.trans ((hb4.trans (hb5.mono hb4.size)).mono HB3.out.size))
          have BA1 := Lib.hid (ba1.below hb5)
          have BA2 := Lib.hid ba2
          clear ba1 ba2 hb4 hb5
          have HEND : Hid (Calls Tryd.prog 21 #[.string (mkB on), v1, .string (mkB nn), v2] w5 (DiffPost on nn a b w5)) := Lib.hid (implD_any on nn v1 v2 a b w5 BA1.out BA2.out h0 h2 h1 h3 (by rw [dl_len]; omega) (by rw [dl_len]; omega) (Lib.tabBelow_of_tabIs HT.out w5 HB5.out))
          have hsz := mkB_size on
          by_cases h4 : 3 < on.length
          · obtain ⟨t, ht⟩ : ∃ t, t = on.take 4 := ⟨_, rfl⟩
            have hsl : ∀ wx, (Instr.slice 9 (.string (mkB on)) none (some (.int .i64 4)) none).run Tryd.prog wx = .ok (.string (mkB t)) wx := fun wx => by
              have := run_slice_string_to_if (P := Tryd.prog) wx 9 (mkB on) .i64 4 Tryd.underlying9
              rw [this, if_pos (by omega), extract_mkB, mkB_toList, show ((4 : Int)).toNat = 4 by rfl, ht]
              simp
            by_cases h5 : t = [45, 45, 45, 32]
            · have n5 : ((mkB t).toList == [45, 45, 45, 32]) = true := by rw [h5]; kernel_rfl
              clear h5 ht
              go_wp2_with fail
              go_ret
              exact ⟨rfl, HB3.out⟩
            · have n5 : ((mkB t).toList == [45, 45, 45, 32]) = false := by rw [ByteArray.toList_eq, mkB_toList]; exact beq_eq_false_iff_ne.2 h5
              clear h5 ht
              go_wp2_with fail
              refine HEND.out.mono ?_
              rintro e4 w6 ⟨v, rfl, hb6, hp⟩
              have HB6 : Hid (Below W.heap.size W w6) := Lib.hid (HB5.out.trans (hb6.mono HB5.out.size))
              obtain ⟨cs0, F0, M, hbs, hF, hM, hO⟩ : ∃ cs F M, BS w6 v (hdr on nn ++ (cs.map ckText).flatten) ∧ DFin (dl a) (dl b) M cs F ∧ Matches (dl a) (dl b) M ∧ Opt (dl a) (dl b) (M.length - 2) := by
                rcases hp with ⟨h, _⟩ | ⟨_, h⟩
                · exact absurd h HAB.out
                · exact h
              obtain ⟨ds, G, hG, hlns⟩ := df_read (HL1.out.1 (by trivial)) (HL2.out.1 (by trivial)) hF
              have hall := dall_of hG hM hO
              have hlen := diff_text_len hF (by rw [dl_len]; omega) (by rw [dl_len]; omega) h1 h3 h0 h2
              obtain ⟨T, hT⟩ : ∃ T, T = hdr on nn ++ (cs0.map ckText).flatten := ⟨_, rfl⟩
              rw [← hT] at hbs hlns hlen
              have c3 := conv_bytes hbs
              have HLNS := Lib.hid hlns
              have HALL := Lib.hid hall
              clear hb6 hp hF hM hO hG hall hT hbs c1 c2 hlns
              obtain ⟨ok1, ok2⟩ := ck_ok HALL.out (by omega) (by omega) h1 h3
              have OK1 := Lib.hid ok1
              have hpos : Hid (0 < ds.length) := Lib.hid (List.length_pos_iff.2 (HALL.out.some HAB.out))
              clear ok1
              go_wp2_with fail
              refine (readDiff_any on nn ds T w6 HLNS.out (by omega) h0 h2 OK1.out (by omega)).mono ?_
              rintro e5 w7 ⟨v4, us, B, rfl, hR, hb7⟩
              have HB7 : Hid (Below W.heap.size W w7) := Lib.hid (HB6.out.trans (hb7.mono HB6.out.size))
              rw [decide_eq_true hpos.out]
              clear hR hb7 c3
              go_wp2_with fail
              go_ret
              exact ⟨rfl, HB7.out⟩
          · go_wp2_with fail
            refine HEND.out.mono ?_
            rintro e4 w6 ⟨v, rfl, hb6, hp⟩
            have HB6 : Hid (Below W.heap.size W w6) := Lib.hid (HB5.out.trans (hb6.mono HB5.out.size))
            obtain ⟨cs0, F0, M, hbs, hF, hM, hO⟩ : ∃ cs F M, BS w6 v (hdr on nn ++ (cs.map ckText).flatten) ∧ DFin (dl a) (dl b) M cs F ∧ Matches (dl a) (dl b) M ∧ Opt (dl a) (dl b) (M.length - 2) := by
              rcases hp with ⟨h, _⟩ | ⟨_, h⟩
              · exact absurd h HAB.out
              · exact h
            obtain ⟨ds, G, hG, hlns⟩ := df_read (HL1.out.1 (by trivial)) (HL2.out.1 (by trivial)) hF
            have hall := dall_of hG hM hO
            have hlen := diff_text_len hF (by rw [dl_len]; omega) (by rw [dl_len]; omega) h1 h3 h0 h2
            obtain ⟨T, hT⟩ : ∃ T, T = hdr on nn ++ (cs0.map ckText).flatten := ⟨_, rfl⟩
            rw [← hT] at hbs hlns hlen
            have c3 := conv_bytes hbs
            have HLNS := Lib.hid hlns
            have HALL := Lib.hid hall
            clear hb6 hp hF hM hO hG hall hT hbs c1 c2 hlns
            obtain ⟨ok1, ok2⟩ := ck_ok HALL.out (by omega) (by omega) h1 h3
            have OK1 := Lib.hid ok1
            have hpos : Hid (0 < ds.length) := Lib.hid (List.length_pos_iff.2 (HALL.out.some HAB.out))
            clear ok1
            go_wp2_with fail
            refine (readDiff_any on nn ds T w6 HLNS.out (by omega) h0 h2 OK1.out (by omega)).mono ?_
            rintro e5 w7 ⟨v4, us, B, rfl, hR, hb7⟩
            have HB7 : Hid (Below W.heap.size W w7) := Lib.hid (HB6.out.trans (hb7.mono HB6.out.size))
            rw [decide_eq_true hpos.out]
            clear hR hb7 c3
            go_wp2_with fail
            go_ret
            exact ⟨rfl, HB7.out⟩
end Go.Proofs.YtncjclmhdhimdaaDoor
