/- The package's parser: not, over what atom does. -/
import Derived.Test.YteemenhinhkonaaDoorProg
import Derived.Test.YteemenhinhkonaaDoorCons
import Derived.Test.YteemenhinhkonaaDoorLex
namespace Go.Proofs.YteemenhinhkonaaDoor
open Go.RowKit

def AtomK (n : Nat) (s : ByteArray) (N : Nat) : Prop := ∀ (bp : Nat) (ts : List Tok) (z : Nat) (w : World), Cur w bp s ts z → OkT s ts → z ≤ 1000 → ts.length ≤ N → TabsN n w → n ≤ bp →
  Calls Tryd.prog 121 #[.pointer (some ⟨bp, 0, none⟩)] w (RetP bp s (gAtom (gO N) z ts) w)
def NotK (n : Nat) (s : ByteArray) (N : Nat) : Prop := ∀ (bp : Nat) (ts : List Tok) (z : Nat) (w : World), Unl w bp s ts z → z ≤ 1000 → ts.length ≤ N → TabsN n w → n ≤ bp →
  Calls Tryd.prog 105 #[.pointer (some ⟨bp, 0, none⟩)] w (RetP bp s (gNot (gO N) z ts) w)
def AndK (n : Nat) (s : ByteArray) (N : Nat) : Prop := ∀ (bp : Nat) (ts : List Tok) (z : Nat) (w : World), Unl w bp s ts z → z ≤ 1000 → ts.length ≤ N → TabsN n w → n ≤ bp →
  Calls Tryd.prog 93 #[.pointer (some ⟨bp, 0, none⟩)] w (RetP bp s (gAnd (gO N) z ts) w)
def OrK (n : Nat) (s : ByteArray) (N : Nat) : Prop := ∀ (bp : Nat) (ts : List Tok) (z : Nat) (w : World), Unl w bp s ts z → z ≤ 1000 → ts.length ≤ N → TabsN n w → n ≤ bp →
  Calls Tryd.prog 74 #[.pointer (some ⟨bp, 0, none⟩)] w (RetP bp s (gOr (gO N) z ts) w)
theorem lexU {n bp : Nat} {s : ByteArray} {ts : List Tok} {z : Nat} {w : World} (h : Unl w bp s ts z) (hs : s.size ≤ 1152921504606846976) (hT : TabsN n w) (hn : n ≤ bp) : Calls Tryd.prog 120 #[.pointer (some ⟨bp, 0, none⟩)] w (LexPost bp s ts z w) := by
  obtain ⟨tok, k, tg, pos, h1, h2, h3, rfl⟩ := h
  exact lex_any n bp s tok k tg pos z w h1 h2 hs hT hn
theorem TabsN.grown {n bp : Nat} {w w' : World} (h : TabsN n w) (hn : n ≤ bp) (hb : bp < w.heap.size) (hg : w.grownBy w' (some bp)) : TabsN n w' := h.next fun b hlt => grown_block_of hg (by omega) (by omega)

set_option maxHeartbeats 1000000 in
theorem not_ofA (n : Nat) (s : ByteArray) (N : Nat) (hs : s.size ≤ 1152921504606846976) (ha : AtomK n s N) : NotK n s N := by
  intro bp ts z w h hz hN hT hn
  obtain ⟨tok, k, tg, pos, hp, hk, hpos, hts⟩ := h
  have q5 := hp.c5
  have q4 := hp.c4
  have f5 := hp.f 5
  have hlb := lt_of_heap hp
  have HP := Lib.hid (hp.set5 ((z : Int) + 1))
  have HTS := Lib.hid hts
  have HT := Lib.hid hT
  have HA := Lib.hid ha
  clear hp hts hT ha
  by_cases hz1 : 1000 < z + 1
  · have HR : Hid (gNot (gO N) z ts = none) := Lib.hid (by unfold gNot; rw [if_pos hz1])
    have d1 : (1000 : Int) < (z : Int) + 1 := by omega
    go_enter Tryd.func105, Tryd.ntmps105
    go_wp2_with fail
    refine ⟨rfl, ?_, .inr ⟨HR.out, ?_⟩⟩
    · exact (grown_set (World.grownBy.refl _ _) _ _).trans (World.grownBy_alloc _ _ _)
    · exact panic_new (by simp) (by simp) _ (by omega) (by omega) _ (by decide)
  · have d1 : ¬ (1000 : Int) < (z : Int) + 1 := by omega
    obtain ⟨wa, hwa⟩ : ∃ wa, wa = w.setCell ⟨bp, 5, none⟩ (.int .i64 ((z : Int) + 1)) := ⟨_, rfl⟩
    have HGA : Hid (w.grownBy wa (some bp)) := Lib.hid (by rw [hwa]; exact grown_set (World.grownBy.refl _ _) _ _)
    have HUA : Hid (Unl wa bp s ts (z + 1)) := Lib.hid ⟨tok, k, tg, pos, by rw [hwa]; exact HP.out, hk, hpos, HTS.out⟩
    have HTA := Lib.hid (HT.out.grown hn hlb HGA.out)
    have HOK := Lib.hid HUA.out.okT
    go_enter Tryd.func105, Tryd.ntmps105
    go_wp2_with fail
    rw [← hwa]
    clear hwa q5 q4 f5
    refine (lexU HUA.out hs HTA.out hn).mono ?_
    rintro e1 w1 ⟨hg1, hc1⟩
    have HG1 := Lib.hid (HGA.out.trans hg1)
    have hlb1 : bp < w1.heap.size := by have := HG1.out.size; omega
    have hsz1 : w.heap.size ≤ w1.heap.size := HG1.out.size
    have hsa : w.heap.size ≤ wa.heap.size := HGA.out.size
    clear hg1
    rcases hc1 with ⟨he, rfl, hcur⟩ | ⟨he, hpan⟩
    · have HTB := Lib.hid (HT.out.grown hn hlb HG1.out)
      obtain ⟨k1, pos1, hpp, hpos1⟩ := hcur.pis
      have q2 := hpp.c2
      have q4 := hpp.c4
      have HC1 := Lib.hid hcur
      have HE1 := Lib.hid he
      clear hpp hcur he
      have hb33 := txt_eq (headText ts) [33]
      by_cases hbang : bangB ts = true
      · have HBG := Lib.hid hbang
        have t33 : ((mkB (headText ts)).toList == [33]) = true := by rw [hb33, decide_eq_true]; exact (HOK.out.isSym 33 rfl).2 (by rw [← bang_isSym]; exact hbang)
        clear hb33 hbang
        go_wp2_with fail
        refine (lexU HC1.out.unl hs HTB.out hn).mono ?_
        rintro e2 w2 ⟨hg2, hc2⟩
        have HG2 := Lib.hid (HG1.out.trans hg2)
        have hsz2 : w.heap.size ≤ w2.heap.size := HG2.out.size
        clear hg2 q2 q4
        rcases hc2 with ⟨he2, rfl, hcur2⟩ | ⟨he2, hpan⟩
        · have HTC := Lib.hid (HT.out.grown hn hlb HG2.out)
          obtain ⟨k2, pos2, hpp2, hpos2⟩ := hcur2.pis
          have q2 := hpp2.c2
          have q4 := hpp2.c4
          have HC2 := Lib.hid hcur2
          have HOK2 := Lib.hid HC1.out.unl.okT
          clear hpp2 hcur2
          have hb33 := txt_eq (headText ts.tail) [33]
          by_cases hbang2 : bangB ts.tail = true
          · have HR : Hid (gNot (gO N) z ts = none) := Lib.hid (by unfold gNot; rw [if_neg hz1, if_pos HBG.out, if_pos hbang2])
            have s33 : ((mkB (headText ts.tail)).toList == [33]) = true := by rw [hb33, decide_eq_true]; exact (HOK2.out.isSym 33 rfl).2 (by rw [← bang_isSym]; exact hbang2)
            clear hb33 hbang2 he2
            go_wp2_with fail
            refine ⟨rfl, HG2.out.trans (World.grownBy_alloc _ _ _), .inr ⟨HR.out, ?_⟩⟩
            exact panic_new hsz2 rfl _ (by omega) (by omega) _ (by decide)
          · have hR : gNot (gO N) z ts = match gAtom (gO N) (z + 1) ts.tail with | some (x, q, z') => some (.not x, q, z') | none => none := by unfold gNot; rw [if_neg hz1, if_pos HBG.out, if_neg hbang2]; cases gAtom (gO N) (z + 1) ts.tail <;> rfl
            have HR := Lib.hid hR
            have s33 : ((mkB (headText ts.tail)).toList == [33]) = false := by
              rw [hb33, decide_eq_false]
              intro e
              exact hbang2 (by rw [bang_isSym]; exact (HOK2.out.isSym 33 rfl).1 e)
            clear hb33 hbang2 he2 hR
            go_wp2_with fail
            refine (HA.out bp ts.tail (z + 1) _ HC2.out HOK2.out (by omega) (by rw [List.length_tail]; omega) HTC.out hn).mono ?_
            rintro e3 w3 ⟨hg3, hc3⟩
            have HG3 := Lib.hid (HG2.out.trans hg3)
            clear hg3 q2 q4
            rcases hc3 with ⟨x, ts3, z3, v3, hr3, rfl, hx3, hcur3, hok3⟩ | ⟨hr3, hpan⟩
            · obtain ⟨b3, rfl⟩ := hx3.form
              have HR3 : Hid (gNot (gO N) z ts = some (.not x, ts3, z3)) := Lib.hid (by rw [HR.out, hr3])
              have HX3 := Lib.hid hx3
              have HC3 := Lib.hid hcur3
              clear hr3 hx3 hcur3
              go_wp2_with fail
              refine (mkNot_any _ b3 _).mono ?_
              rintro e4 w4 ⟨rfl, rfl⟩
              go_wp2_with fail
              go_ret
              have hbn : Below w3.heap.size w3 (w3.alloc (.cells #[.iface x.ptr (.pointer (some ⟨b3, 0, none⟩))] 88)) := (Below.refl _ _).alloc (Nat.le_refl _) _
              exact ⟨grown_below HG3.out hbn, .inl ⟨.not x, ts3, z3, _, HR3.out, rfl, ⟨_, _, rfl, heap_new _ _ rfl, HX3.out.below hbn⟩, HC3.out.below hbn, hok3⟩⟩
            · have HRN : Hid (gNot (gO N) z ts = none) := Lib.hid (by rw [HR.out, hr3])
              obtain ⟨ps, rfl⟩ := hpan.form
              have HPN := Lib.hid (panic_up hpan hsz2)
              clear hpan hr3
              go_wp2_with fail
              exact ⟨rfl, HG3.out, .inr ⟨HRN.out, HPN.out⟩⟩
        · have HR : Hid (gNot (gO N) z ts = none) := Lib.hid (by unfold gNot; rw [if_neg hz1, if_pos HBG.out, if_neg (by rw [bang_err he2]; simp), atom_err _ _ _ he2])
          obtain ⟨ps, rfl⟩ := hpan.form
          have HPN := Lib.hid (panic_up hpan hsz1)
          clear hpan he2
          go_wp2_with fail
          exact ⟨rfl, HG2.out, .inr ⟨HR.out, HPN.out⟩⟩
      · have hR : gNot (gO N) z ts = gAtom (gO N) (z + 1) ts := by unfold gNot; rw [if_neg hz1, if_neg hbang]
        have HR := Lib.hid hR
        have t33 : ((mkB (headText ts)).toList == [33]) = false := by
          rw [hb33, decide_eq_false]
          intro e
          exact hbang (by rw [bang_isSym]; exact (HOK.out.isSym 33 rfl).1 e)
        clear hb33 hbang hR
        go_wp2_with fail
        refine (HA.out bp ts (z + 1) _ HC1.out HOK.out (by omega) hN HTB.out hn).mono ?_
        rintro e3 w3 ⟨hg3, hc3⟩
        have HG3 := Lib.hid (HG1.out.trans hg3)
        clear hg3 q2 q4
        rcases hc3 with ⟨x, ts3, z3, v3, hr3, rfl, hx3, hcur3, hok3⟩ | ⟨hr3, hpan⟩
        · obtain ⟨b3, rfl⟩ := hx3.form
          have HR3 := Lib.hid (HR.out.trans hr3)
          have HX3 := Lib.hid hx3
          have HC3 := Lib.hid hcur3
          clear hr3 hx3 hcur3
          go_wp2_with fail
          go_ret
          exact ⟨HG3.out, .inl ⟨x, ts3, z3, _, HR3.out, rfl, HX3.out, HC3.out, hok3⟩⟩
        · have HRN := Lib.hid (HR.out.trans hr3)
          obtain ⟨ps, rfl⟩ := hpan.form
          have HPN := Lib.hid (panic_up hpan hsz1)
          clear hpan hr3
          go_wp2_with fail
          exact ⟨rfl, HG3.out, .inr ⟨HRN.out, HPN.out⟩⟩
    · have HR : Hid (gNot (gO N) z ts = none) := Lib.hid (by unfold gNot; rw [if_neg hz1, if_neg (by rw [bang_err he]; simp), atom_err _ _ _ he])
      obtain ⟨ps, rfl⟩ := hpan.form
      have HPN := Lib.hid (panic_up hpan hsa)
      clear hpan he
      go_wp2_with fail
      exact ⟨rfl, HG1.out, .inr ⟨HR.out, HPN.out⟩⟩
end Go.Proofs.YteemenhinhkonaaDoor
