/- FnNothing: there is no diff just of texts that are the same. -/
import Derived.Test.YtncjclmhdhimdaaDoorDImpl
import Derived.Test.YtncjclmhdhimdaaDoorDShort
namespace Go.Proofs.YtncjclmhdhimdaaDoor
open Go.RowKit

theorem dl_len_short {a b : List UInt8} (h : Short a b) : (dl a).length ≤ 400 ∧ (dl b).length ≤ 400 := by
  rw [dl_len, dl_len]
  exact ⟨h.1, h.2.1⟩
theorem lns_snoc_le (a : List UInt8) (c : UInt8) : (lns (a ++ [c])).length ≤ (lns a).length + 1 := by
  unfold lns
  rw [spl_snoc]
  unfold stp
  split
  · rename_i h
    by_cases h2 : (spl a).2 = []
    · simp [h2]
    · simp [h2]
  · by_cases h2 : (spl a).2 = []
    · simp [h2]
    · simp [h2]
theorem hdr_pos (o n t : List UInt8) : 0 < (hdr o n ++ t).length := by
  unfold hdr hdr1
  simp

set_option maxRecDepth 100000 in
set_option maxHeartbeats 2000000 in
theorem fnNothing_any (s r p q : ByteArray) (W : World) (h0 : s.size ≤ 1048576) (h1 : r.size ≤ 1048576) (h2 : p.size ≤ 1048576) (h3 : q.size ≤ 1048576) (htab : Lib.TabIs Tryd.prog W "internal/strconv.uint64pow10" .u64 Lib.pow10Tab) :
    Calls Tryd.prog 10 #[.string s, .string r, .string p, .string q] W fun e w' => e = .returned (.bool true) ∧ Below W.heap.size W w' := by
  obtain ⟨on, rfl⟩ : ∃ a, s = mkB a := ⟨s.data.toList, rfl⟩
  obtain ⟨a, rfl⟩ : ∃ a, r = mkB a := ⟨r.data.toList, rfl⟩
  obtain ⟨nn, rfl⟩ : ∃ a, p = mkB a := ⟨p.data.toList, rfl⟩
  obtain ⟨b, rfl⟩ : ∃ a, q = mkB a := ⟨q.data.toList, rfl⟩
  rw [mkB_size] at h0 h1 h2 h3
  have HT := Lib.hid htab
  clear htab
  have hnil : ∀ w : World, (binOp .eql 37 (.slice none 0 0) (.slice none 0 0)).run Tryd.prog w = .ok (.bool true) w := fun _ => by kernel_rfl
  go_enter Tryd.func10, Tryd.ntmps10
  go_wp2_with fail
  refine (short_any a b W (by omega) (by omega)).mono ?_
  rintro e1 w1 ⟨sh, rfl, hb1, hsh⟩
  have HB1 := Lib.hid hb1
  have HSH := Lib.hid hsh
  clear hb1 hsh
  cases sh with
  | false =>
    go_wp2_with fail
    go_ret
    exact ⟨rfl, HB1.out⟩
  | true =>
    have hs := HSH.out.1 rfl
    obtain ⟨hla, hlb⟩ := dl_len_short hs
    have hsz := hs.2.2
    have hlax : (dl (a ++ [120])).length ≤ 401 := by
      have := lns_snoc_le a 120
      rw [dl_len]
      have := hs.1
      omega
    clear hs HSH
    obtain ⟨v1, w2, c1, ba1, hb2⟩ := conv_ba w1 a
    obtain ⟨v2, w3, c2, ba2, hb3⟩ := conv_ba w2 a
    have HB3 : Hid (Below W.heap.size W w3) := Lib.hid (HB1.out.trans ((hb2.trans (hb3.mono hb2.size)).mono HB1.out.size))
    have BA1 := Lib.hid (ba1.below hb3)
    have BA2 := Lib.hid ba2
    clear ba1 ba2 hb2 hb3
    go_wp2_with fail
    refine (implD_any on nn v1 v2 a a w3 BA1.out BA2.out h0 h2 h1 h1 (by omega) (by omega) (Lib.tabBelow_of_tabIs HT.out w3 HB3.out)).mono ?_
    rintro e2 w4 ⟨v, rfl, hb4, hp⟩
    obtain rfl : v = .slice none 0 0 := by
      rcases hp with ⟨_, h⟩ | ⟨h, _⟩
      · exact h
      · exact absurd rfl h
    have HB4 : Hid (Below W.heap.size W w4) := Lib.hid (HB3.out.trans (hb4.mono HB3.out.size))
    obtain ⟨u1, w5, c3, ba3, hb5⟩ := conv_ba w4 a
    obtain ⟨u2, w6, c4, ba4, hb6⟩ := conv_ba w5 b
    have HB6 : Hid (Below W.heap.size W w6) := Lib.hid (HB4.out.trans ((hb5.trans (hb6.mono hb5.size)).mono HB4.out.size))
    have BA3 := Lib.hid (ba3.below hb6)
    have BA4 := Lib.hid ba4
    clear ba3 ba4 hb4 hb5 hb6 hp c1 c2
    go_wp2_with fail
    refine (implD_any on nn u1 u2 a b w6 BA3.out BA4.out h0 h2 h1 h3 (by omega) (by omega) (Lib.tabBelow_of_tabIs HT.out w6 HB6.out)).mono ?_
    rintro e3 w7 ⟨v2, rfl, hb7, hp⟩
    have HB7 : Hid (Below W.heap.size W w7) := Lib.hid (HB6.out.trans (hb7.mono HB6.out.size))
    obtain ⟨ax, hax⟩ : ∃ ax, ax = a ++ [120] := ⟨_, rfl⟩
    have s1 : ∀ w, (Op.stringOp .add (mkB a) { data := #[120] }).run Tryd.prog w = .ok (.string (mkB ax)) w := sum_l a [120] ax hax (by simp; omega)
    rw [← hax] at hlax
    have hxl : ax.length ≤ 1048576 := by rw [hax]; simp; omega
    have HNX : Hid (¬ a = ax) := Lib.hid fun h => by
      have := congrArg List.length h
      rw [hax] at this
      simp at this
    clear c3 c4 hb7 hax
    by_cases hab : a = b
    · subst hab
      obtain rfl : v2 = .slice none 0 0 := by
        rcases hp with ⟨_, h⟩ | ⟨h, _⟩
        · exact h
        · exact absurd rfl h
      clear hp
      have ⟨u5, w8, c5, ba5, hb8⟩ := conv_ba w7 a
      have ⟨u6, w9, c6, ba6, hb9⟩ := conv_ba w8 ax
      have HB9 : Hid (Below W.heap.size W w9) := Lib.hid (HB7.out.trans ((hb8.trans (hb9.mono hb8.size)).mono HB7.out.size))
      have BA5 := Lib.hid (ba5.below hb9)
      have BA6 := Lib.hid ba6
      clear ba5 ba6 hb8 hb9
      go_wp2_with fail
      refine (implD_any on nn u5 u6 a ax w9 BA5.out BA6.out h0 h2 h1 hxl (by omega) (by omega) (Lib.tabBelow_of_tabIs HT.out w9 HB9.out)).mono ?_
      rintro e4 w10 ⟨v3, rfl, hb10, hp⟩
      have HB10 : Hid (Below W.heap.size W w10) := Lib.hid (HB9.out.trans (hb10.mono HB9.out.size))
      obtain ⟨L2, h2p, hv3⟩ : ∃ L : List UInt8, 0 < L.length ∧ ∃ x c, v3 = .slice x L.length c := by
        rcases hp with ⟨h, _⟩ | ⟨_, cs, F, M, hbs, _⟩
        · exact absurd h HNX.out
        · obtain ⟨x, c, hv, _⟩ := hbs
          exact ⟨_, hdr_pos _ _ _, x, c, hv⟩
      obtain ⟨x2, k2, rfl⟩ := hv3
      obtain ⟨m2, hm2⟩ : ∃ m, m = L2.length := ⟨_, rfl⟩
      rw [← hm2] at h2p ⊢
      clear hb10 hp hm2
      go_wp2_with fail
      go_ret
      exact ⟨rfl, HB10.out⟩
    · have n2 : ((mkB a).toList == (mkB b).toList) = false := by rw [ByteArray.toList_eq, ByteArray.toList_eq, mkB_toList, mkB_toList]; exact beq_eq_false_iff_ne.2 hab
      obtain ⟨L1, h1p, hv2⟩ : ∃ L : List UInt8, 0 < L.length ∧ ∃ x c, v2 = .slice x L.length c := by
        rcases hp with ⟨h, _⟩ | ⟨_, cs, F, M, hbs, _⟩
        · exact absurd h hab
        · obtain ⟨x, c, hv, _⟩ := hbs
          exact ⟨_, hdr_pos _ _ _, x, c, hv⟩
      obtain ⟨x1, k1, rfl⟩ := hv2
      obtain ⟨m1, hm1⟩ : ∃ m, m = L1.length := ⟨_, rfl⟩
      rw [← hm1] at h1p ⊢
      have n3 : ((m1 : Int) == 0) = false := beq_eq_false_iff_ne.2 (by omega)
      clear hp hm1 hab
      have ⟨u5, w8, c5, ba5, hb8⟩ := conv_ba w7 a
      have ⟨u6, w9, c6, ba6, hb9⟩ := conv_ba w8 ax
      have HB9 : Hid (Below W.heap.size W w9) := Lib.hid (HB7.out.trans ((hb8.trans (hb9.mono hb8.size)).mono HB7.out.size))
      have BA5 := Lib.hid (ba5.below hb9)
      have BA6 := Lib.hid ba6
      clear ba5 ba6 hb8 hb9
      go_wp2_with fail
      refine (implD_any on nn u5 u6 a ax w9 BA5.out BA6.out h0 h2 h1 hxl (by omega) (by omega) (Lib.tabBelow_of_tabIs HT.out w9 HB9.out)).mono ?_
      rintro e4 w10 ⟨v3, rfl, hb10, hp⟩
      have HB10 : Hid (Below W.heap.size W w10) := Lib.hid (HB9.out.trans (hb10.mono HB9.out.size))
      obtain ⟨L2, h2p, hv3⟩ : ∃ L : List UInt8, 0 < L.length ∧ ∃ x c, v3 = .slice x L.length c := by
        rcases hp with ⟨h, _⟩ | ⟨_, cs, F, M, hbs, _⟩
        · exact absurd h HNX.out
        · obtain ⟨x, c, hv, _⟩ := hbs
          exact ⟨_, hdr_pos _ _ _, x, c, hv⟩
      obtain ⟨x2, k2, rfl⟩ := hv3
      obtain ⟨m2, hm2⟩ : ∃ m, m = L2.length := ⟨_, rfl⟩
      rw [← hm2] at h2p ⊢
      clear hb10 hp hm2
      go_wp2_with fail
      go_ret
      exact ⟨rfl, HB10.out⟩
end Go.Proofs.YtncjclmhdhimdaaDoor
