/- The package's parser: and, or, over what not does. -/
import Derived.Test.YteemenhinhkonaaDoorProg
import Derived.Test.YteemenhinhkonaaDoorNot
import Derived.Deep.LoopGhost
namespace Go.Proofs.YteemenhinhkonaaDoor
open Go.RowKit

def SeqK (c : UInt8) (mk : Ex → Ex → Ex) (p : GP) (bp : Nat) (s : ByteArray) (N : Nat) (r : Option (Ex × List Tok × Nat)) (w : World) (g : Nat) (v : Value) (wr : World) : Prop :=
  ∃ x ts z, CIs wr x v ∧ Cur wr bp s ts z ∧ OkT s ts ∧ w.grownBy wr (some bp) ∧ z ≤ 1000 ∧ ts.length ≤ N ∧ r = gLoopL c mk p x z ts ∧ g = 1000 - z
theorem seq_start {c : UInt8} {mk : Ex → Ex → Ex} {p : GP} {z z' : Nat} {ts q : List Tok} {x : Ex} (h : p z ts = some (x, q, z')) : gSeq c mk p z ts = gLoopL c mk p x z' q := by
  unfold gSeq
  rw [h]
theorem seq_none {c : UInt8} {mk : Ex → Ex → Ex} {p : GP} {z : Nat} {ts : List Tok} (h : p z ts = none) : gSeq c mk p z ts = none := by
  unfold gSeq
  rw [h]
theorem loop_some {c : UInt8} {mk : Ex → Ex → Ex} {p : GP} (hr : Rise p) {x y : Ex} {z z' : Nat} {ts q : List Tok} (hz : z ≤ 1000) (hh : headOp c ts = true) (h : p z ts.tail = some (y, q, z')) : gLoopL c mk p x z ts = gLoopL c mk p (mk x y) z' q := by
  rw [gLoopL_go hr hz hh, h]
theorem loop_none {c : UInt8} {mk : Ex → Ex → Ex} {p : GP} (hr : Rise p) {x : Ex} {z : Nat} {ts : List Tok} (hz : z ≤ 1000) (hh : headOp c ts = true) (h : p z ts.tail = none) : gLoopL c mk p x z ts = none := by
  rw [gLoopL_go hr hz hh, h]
theorem Cur.grownN {w : World} {bp : Nat} {s : ByteArray} {ts : List Tok} {z : Nat} (h : Cur w bp s ts z) {x : Ex} {v : Value} {w' : World} (hx : CIs w x v) (hg : w.grownBy w' (some bp)) : CIs w' x v := by
  obtain ⟨k, pos, h1, _⟩ := h
  exact hx.grownP h1 hg

set_option maxHeartbeats 1000000 in
theorem and_ofN (n : Nat) (s : ByteArray) (N : Nat) (ha : NotK n s N) : AndK n s N := by
  intro bp ts z w h hz hN hT hn
  have hlb : bp < w.heap.size := by obtain ⟨_, _, _, _, h1, _⟩ := h; exact lt_of_heap h1
  have H := Lib.hid h
  have HT := Lib.hid hT
  have HA := Lib.hid ha
  clear h hT ha
  go_enter Tryd.func93, Tryd.ntmps93
  go_wp2_with fail
  refine (HA.out bp ts z _ H.out hz hN HT.out hn).mono ?_
  rintro e1 w1 ⟨hg1, hc1⟩
  have HG1 := Lib.hid hg1
  clear hg1
  rcases hc1 with ⟨x, ts1, z1, v1, hr1, rfl, hx1, hcur1, hok1⟩ | ⟨hr1, hpan⟩
  · obtain ⟨b1, rfl⟩ := hx1.form
    have HREL : Hid (SeqK 38 .and (gNot (gO N)) bp s N (gAnd (gO N) z ts) w (1000 - z1) (.iface x.ptr (.pointer (some ⟨b1, 0, none⟩))) w1) := Lib.hid ⟨x, ts1, z1, hx1, hcur1, hok1, HG1.out, (notG_rise N _ _ _ _ _ hr1).2, Nat.le_trans (notG_less N _ _ _ _ _ hr1) hN, seq_start hr1, rfl⟩
    clear hr1 hx1 hcur1 hok1
    go_wp2_with fail
    go_loopg [3] (1000 - z1) (fun g v wr => SeqK 38 .and (gNot (gO N)) bp s N (gAnd (gO N) z ts) w g v wr)
    case atStart => exact HREL.out
    case round =>
      clear HREL
      obtain ⟨x, ts2, z2, hx, hcur, hok, hg, hz2, hl2, hr, rfl⟩ := hrel
      obtain ⟨b2, rfl⟩ := hx.form
      obtain ⟨k2, pos2, hpp, -⟩ := hcur.pis
      have q2 := hpp.c2
      have HX := Lib.hid hx
      have HC := Lib.hid hcur
      have HG := Lib.hid hg
      have HR := Lib.hid hr
      have hsz2 : w.heap.size ≤ wr.heap.size := hg.size
      clear hpp hx hcur hg hr
      have hbt := txt_eq (headText ts2) [38, 38]
      by_cases hop : headOp 38 ts2 = true
      · have tt : ((mkB (headText ts2)).toList == [38, 38]) = true := by rw [hbt, decide_eq_true]; exact (hok.isOp 38 rfl).2 hop
        have HOP := Lib.hid hop
        clear hbt hop
        go_wp2_with fail
        refine (HA.out bp ts2.tail z2 _ HC.out.unl hz2 (by rw [List.length_tail]; omega) (HT.out.grown hn hlb HG.out) hn).mono ?_
        rintro e3 w3 ⟨hg3, hc3⟩
        have HG3 := Lib.hid (HG.out.trans hg3)
        have HX3 := Lib.hid (HC.out.grownN HX.out hg3)
        clear hg3 q2
        rcases hc3 with ⟨y, ts3, z3, v3, hr3, rfl, hy3, hcur3, hok3⟩ | ⟨hr3, hpan⟩
        · obtain ⟨b3, rfl⟩ := hy3.form
          have HR3 := Lib.hid (HR.out.trans (loop_some (mk := .and) (notG_rise N) hz2 HOP.out hr3))
          have hri := notG_rise N _ _ _ _ _ hr3
          have hle := notG_less N _ _ _ _ _ hr3
          have HY3 := Lib.hid hy3
          have HC3 := Lib.hid hcur3
          clear hr3 hy3 hcur3
          go_wp2_with fail
          refine (mkAnd_any _ _ b2 b3 _).mono ?_
          rintro e4 w4 ⟨rfl, rfl⟩
          go_wp2_with fail
          go_roundg (1000 - z3)
          case measure => omega
          case rel =>
            have hbn : Below w3.heap.size w3 (w3.alloc (.cells #[.iface x.ptr (.pointer (some ⟨b2, 0, none⟩)), .iface y.ptr (.pointer (some ⟨b3, 0, none⟩))] 91)) := (Below.refl _ _).alloc (Nat.le_refl _) _
            exact ⟨.and x y, ts3, z3, ⟨_, _, _, rfl, heap_new _ _ rfl, HX3.out.below hbn, HY3.out.below hbn⟩, HC3.out.below hbn, hok3, grown_below HG3.out hbn, hri.2, by rw [List.length_tail] at hle; omega, HR3.out, rfl⟩
        · have HRN := Lib.hid (HR.out.trans (loop_none (mk := .and) (notG_rise N) hz2 HOP.out hr3))
          obtain ⟨ps, rfl⟩ := hpan.form
          have HPN := Lib.hid (panic_up hpan hsz2)
          clear hpan hr3
          go_wp2_with fail
          exact ⟨rfl, HG3.out, .inr ⟨HRN.out, HPN.out⟩⟩
      · have tt : ((mkB (headText ts2)).toList == [38, 38]) = false := by
          rw [hbt, decide_eq_false]
          intro e
          exact hop ((hok.isOp 38 rfl).1 e)
        have HRE := Lib.hid (HR.out.trans (gLoopL_end (by simpa using hop)))
        clear hbt hop
        go_wp2_with fail
        go_ret
        exact ⟨HG.out, .inl ⟨x, ts2, z2, _, HRE.out, rfl, HX.out, HC.out, hok⟩⟩
  · have HRN : Hid (gAnd (gO N) z ts = none) := Lib.hid (seq_none hr1)
    obtain ⟨ps, rfl⟩ := hpan.form
    have HPN := Lib.hid hpan
    clear hpan hr1
    go_wp2_with fail
    exact ⟨rfl, HG1.out, .inr ⟨HRN.out, HPN.out⟩⟩
set_option maxHeartbeats 1000000 in
theorem or_ofA (n : Nat) (s : ByteArray) (N : Nat) (ha : AndK n s N) : OrK n s N := by
  intro bp ts z w h hz hN hT hn
  have hlb : bp < w.heap.size := by obtain ⟨_, _, _, _, h1, _⟩ := h; exact lt_of_heap h1
  have H := Lib.hid h
  have HT := Lib.hid hT
  have HA := Lib.hid ha
  clear h hT ha
  go_enter Tryd.func74, Tryd.ntmps74
  go_wp2_with fail
  refine (HA.out bp ts z _ H.out hz hN HT.out hn).mono ?_
  rintro e1 w1 ⟨hg1, hc1⟩
  have HG1 := Lib.hid hg1
  clear hg1
  rcases hc1 with ⟨x, ts1, z1, v1, hr1, rfl, hx1, hcur1, hok1⟩ | ⟨hr1, hpan⟩
  · obtain ⟨b1, rfl⟩ := hx1.form
    have HREL : Hid (SeqK 124 .or (gAnd (gO N)) bp s N (gOr (gO N) z ts) w (1000 - z1) (.iface x.ptr (.pointer (some ⟨b1, 0, none⟩))) w1) := Lib.hid ⟨x, ts1, z1, hx1, hcur1, hok1, HG1.out, (andG_rise N _ _ _ _ _ hr1).2, Nat.le_trans (andG_less N _ _ _ _ _ hr1) hN, seq_start hr1, rfl⟩
    clear hr1 hx1 hcur1 hok1
    go_wp2_with fail
    go_loopg [3] (1000 - z1) (fun g v wr => SeqK 124 .or (gAnd (gO N)) bp s N (gOr (gO N) z ts) w g v wr)
    case atStart => exact HREL.out
    case round =>
      clear HREL
      obtain ⟨x, ts2, z2, hx, hcur, hok, hg, hz2, hl2, hr, rfl⟩ := hrel
      obtain ⟨b2, rfl⟩ := hx.form
      obtain ⟨k2, pos2, hpp, -⟩ := hcur.pis
      have q2 := hpp.c2
      have HX := Lib.hid hx
      have HC := Lib.hid hcur
      have HG := Lib.hid hg
      have HR := Lib.hid hr
      have hsz2 : w.heap.size ≤ wr.heap.size := hg.size
      clear hpp hx hcur hg hr
      have hbt := txt_eq (headText ts2) [124, 124]
      by_cases hop : headOp 124 ts2 = true
      · have tt : ((mkB (headText ts2)).toList == [124, 124]) = true := by rw [hbt, decide_eq_true]; exact (hok.isOp 124 rfl).2 hop
        have HOP := Lib.hid hop
        clear hbt hop
        go_wp2_with fail
        refine (HA.out bp ts2.tail z2 _ HC.out.unl hz2 (by rw [List.length_tail]; omega) (HT.out.grown hn hlb HG.out) hn).mono ?_
        rintro e3 w3 ⟨hg3, hc3⟩
        have HG3 := Lib.hid (HG.out.trans hg3)
        have HX3 := Lib.hid (HC.out.grownN HX.out hg3)
        clear hg3 q2
        rcases hc3 with ⟨y, ts3, z3, v3, hr3, rfl, hy3, hcur3, hok3⟩ | ⟨hr3, hpan⟩
        · obtain ⟨b3, rfl⟩ := hy3.form
          have HR3 := Lib.hid (HR.out.trans (loop_some (mk := .or) (andG_rise N) hz2 HOP.out hr3))
          have hri := andG_rise N _ _ _ _ _ hr3
          have hle := andG_less N _ _ _ _ _ hr3
          have HY3 := Lib.hid hy3
          have HC3 := Lib.hid hcur3
          clear hr3 hy3 hcur3
          go_wp2_with fail
          refine (mkOr_any _ _ b2 b3 _).mono ?_
          rintro e4 w4 ⟨rfl, rfl⟩
          go_wp2_with fail
          go_roundg (1000 - z3)
          case measure => omega
          case rel =>
            have hbn : Below w3.heap.size w3 (w3.alloc (.cells #[.iface x.ptr (.pointer (some ⟨b2, 0, none⟩)), .iface y.ptr (.pointer (some ⟨b3, 0, none⟩))] 93)) := (Below.refl _ _).alloc (Nat.le_refl _) _
            exact ⟨.or x y, ts3, z3, ⟨_, _, _, rfl, heap_new _ _ rfl, HX3.out.below hbn, HY3.out.below hbn⟩, HC3.out.below hbn, hok3, grown_below HG3.out hbn, hri.2, by rw [List.length_tail] at hle; omega, HR3.out, rfl⟩
        · have HRN := Lib.hid (HR.out.trans (loop_none (mk := .or) (andG_rise N) hz2 HOP.out hr3))
          obtain ⟨ps, rfl⟩ := hpan.form
          have HPN := Lib.hid (panic_up hpan hsz2)
          clear hpan hr3
          go_wp2_with fail
          exact ⟨rfl, HG3.out, .inr ⟨HRN.out, HPN.out⟩⟩
      · have tt : ((mkB (headText ts2)).toList == [124, 124]) = false := by
          rw [hbt, decide_eq_false]
          intro e
          exact hop ((hok.isOp 124 rfl).1 e)
        have HRE := Lib.hid (HR.out.trans (gLoopL_end (by simpa using hop)))
        clear hbt hop
        go_wp2_with fail
        go_ret
        exact ⟨HG.out, .inl ⟨x, ts2, z2, _, HRE.out, rfl, HX.out, HC.out, hok⟩⟩
  · have HRN : Hid (gOr (gO N) z ts = none) := Lib.hid (seq_none hr1)
    obtain ⟨ps, rfl⟩ := hpan.form
    have HPN := Lib.hid hpan
    clear hpan hr1
    go_wp2_with fail
    exact ⟨rfl, HG1.out, .inr ⟨HRN.out, HPN.out⟩⟩
end Go.Proofs.YteemenhinhkonaaDoor
