/- The closure of strings.FieldsSeq as an iterator: the words of a text, for every body that keeps the tables and the text's box. -/
import Derived.RangeFuncNested
import Derived.RangeFuncBound
import Derived.RangeFuncCalls
import Derived.RangeFuncLeaves
import Derived.Shelf.Abstract
import Derived.Shelf.RegionOpen
import Derived.WalkKit
import Derived.OwnWalkIn
import Derived.TacticsInMore
import Derived.LoopNIn
import Derived.LoopIn
import Derived.Lib.MapLaws
import Derived.IntWalk
import Derived.Test.YteemenhinhkonaaDoorPlusD0
namespace Go.Proofs.YteemenhinhkonaaDoor
open Go.RowKit Go.Shelf
attribute [local go_sem] Oper.semAt_some

def KpF (n₀ B : Nat) (W W' : World) : Prop := Below n₀ W W' ∧ W'.heap[B]? = W.heap[B]?
theorem kpF_t {n₀ B : Nat} {A C D : World} (h : KpF n₀ B A C) (k : KpF n₀ B C D) : KpF n₀ B A D := ⟨h.1.trans k.1, k.2.trans h.2⟩
theorem kpF_b {n₀ B : Nat} {w : World} (hn : n₀ ≤ w.heap.size) (hB : B < w.heap.size) (W : World) (l : Nat) (o o' : Obj) (hl : w.heap.size ≤ l) (h : W.heap[l]? = some o) (h1 : o.isCells = false) (h2 : o.isWalk = false) : KpF n₀ B W (W.putObj l o') := ⟨belowK_b hn W l o o' hl h h1 h2, World.putObj_heap_other (by omega)⟩
theorem KpF.of_below {n₀ B : Nat} {W W' : World} (h : Below W.heap.size W W') (hn : n₀ ≤ W.heap.size) (hB : B < W.heap.size) : KpF n₀ B W W' := ⟨h.mono hn, h.block B hB⟩
abbrev Fld (N : Nat) := { x : List UInt8 // x.length ≤ N }
def CurAt (l : List UInt8) (k : Nat) (cur : List UInt8) (st : Value) : Prop := (cur = [] ∧ st = .int .i64 (-1)) ∨ (∃ j : Nat, j < k ∧ st = .int .i64 (j : Int) ∧ cur = (l.take k).drop j ∧ cur ≠ [])
def FRel (l : List UInt8) (N n₀ B : Nat) (W : World) (J : List (Fld N) → World → Prop) (st i : Value) (wr : World) : Prop :=
  ∃ (k : Nat) (cur : List UInt8) (f : Nat) (pre : List (Fld N)), k ≤ l.length ∧ i = .int .i64 (k : Int) ∧ CurAt l k cur st ∧ l.length - k < f ∧ pre.map (·.1) ++ Lib.fieldsGoD f cur (l.drop k) = Lib.fieldsD l ∧ J pre wr ∧ KpF n₀ B W wr
def SepAt (l : List UInt8) (k sz : Nat) (sp : Bool) : Prop := k < l.length ∧ 1 ≤ sz ∧ k + sz ≤ l.length ∧ Lib.isSpaceR (Lib.decodeL (l.drop k)).1 = sp ∧ (Lib.decodeL (l.drop k)).2 = sz
theorem go_space {l cur : List UInt8} {k sz f : Nat} (h : SepAt l k sz true) : Lib.fieldsGoD (f + 1) cur (l.drop k) = (if cur = [] then [] else [cur]) ++ Lib.fieldsGoD f [] (l.drop (k + sz)) := by
  obtain ⟨h1, h2, h3, h4, h5⟩ := h
  have hne : l.drop k ≠ [] := fun e => by have := congrArg List.length e; simp at this; omega
  rw [Lib.fieldsGoD, if_neg hne, if_pos h4, h5, List.drop_drop]
theorem go_word {l cur : List UInt8} {k sz f : Nat} (h : SepAt l k sz false) : Lib.fieldsGoD (f + 1) cur (l.drop k) = Lib.fieldsGoD f (cur ++ (l.drop k).take sz) (l.drop (k + sz)) := by
  obtain ⟨h1, h2, h3, h4, h5⟩ := h
  have hne : l.drop k ≠ [] := fun e => by have := congrArg List.length e; simp at this; omega
  rw [Lib.fieldsGoD, if_neg hne, if_neg (by rw [h4]; simp), h5, List.drop_drop]
theorem FRel.space {l cur : List UInt8} {N n₀ B k sz f : Nat} {W wr : World} {J : List (Fld N) → World → Prop} {pre : List (Fld N)} (h : SepAt l k sz true) (hc : cur = []) (hf : l.length - k < f) (he : pre.map (·.1) ++ Lib.fieldsGoD f cur (l.drop k) = Lib.fieldsD l) (hj : J pre wr) (hk : KpF n₀ B W wr) :
    FRel l N n₀ B W J (.int .i64 (-1)) (.int .i64 ((k : Int) + (sz : Int))) wr := by
  obtain ⟨g, rfl⟩ : ∃ g, f = g + 1 := ⟨f - 1, by omega⟩
  subst hc
  rw [go_space h] at he
  exact ⟨k + sz, [], g, pre, h.2.2.1, by simp, .inl ⟨rfl, rfl⟩, by have := h.1; have := h.2.1; omega, by simpa using he, hj, hk⟩
theorem FRel.gave {l cur : List UInt8} {N n₀ B k sz f : Nat} {W wr : World} {J : List (Fld N) → World → Prop} {pre : List (Fld N)} {x : Fld N} (h : SepAt l k sz true) (hc : cur ≠ []) (hx : x.1 = cur) (hf : l.length - k < f) (he : pre.map (·.1) ++ Lib.fieldsGoD f cur (l.drop k) = Lib.fieldsD l) (hj : J (pre ++ [x]) wr) (hk : KpF n₀ B W wr) :
    FRel l N n₀ B W J (.int .i64 (-1)) (.int .i64 ((k : Int) + (sz : Int))) wr := by
  obtain ⟨g, rfl⟩ : ∃ g, f = g + 1 := ⟨f - 1, by omega⟩
  rw [go_space h, if_neg hc] at he
  exact ⟨k + sz, [], g, pre ++ [x], h.2.2.1, by simp, .inl ⟨rfl, rfl⟩, by have := h.1; have := h.2.1; omega, by rw [List.map_append, List.map_singleton, hx]; simpa using he, hj, hk⟩
theorem FRel.word0 {l cur : List UInt8} {N n₀ B k sz f : Nat} {W wr : World} {J : List (Fld N) → World → Prop} {pre : List (Fld N)} (h : SepAt l k sz false) (hc : cur = []) (hf : l.length - k < f) (he : pre.map (·.1) ++ Lib.fieldsGoD f cur (l.drop k) = Lib.fieldsD l) (hj : J pre wr) (hk : KpF n₀ B W wr) :
    FRel l N n₀ B W J (.int .i64 (k : Int)) (.int .i64 ((k : Int) + (sz : Int))) wr := by
  obtain ⟨g, rfl⟩ : ∃ g, f = g + 1 := ⟨f - 1, by omega⟩
  subst hc
  rw [go_word h, List.nil_append] at he
  have h1 := h.1
  have h2 := h.2.1
  have h3 := h.2.2.1
  refine ⟨k + sz, (l.drop k).take sz, g, pre, h3, by simp, .inr ⟨k, by omega, rfl, ?_, fun e => ?_⟩, by omega, he, hj, hk⟩
  · rw [List.drop_take, show k + sz - k = sz by omega]
  · have := congrArg List.length e
    simp at this
    omega
theorem FRel.word {l cur : List UInt8} {N n₀ B k sz f j : Nat} {W wr : World} {J : List (Fld N) → World → Prop} {pre : List (Fld N)} (h : SepAt l k sz false) (hj0 : j < k) (hc : cur = (l.take k).drop j) (hne : cur ≠ []) (hf : l.length - k < f) (he : pre.map (·.1) ++ Lib.fieldsGoD f cur (l.drop k) = Lib.fieldsD l) (hj : J pre wr) (hk : KpF n₀ B W wr) :
    FRel l N n₀ B W J (.int .i64 (j : Int)) (.int .i64 ((k : Int) + (sz : Int))) wr := by
  obtain ⟨g, rfl⟩ : ∃ g, f = g + 1 := ⟨f - 1, by omega⟩
  rw [go_word h] at he
  have h1 := h.1
  have h2 := h.2.1
  have h3 := h.2.2.1
  refine ⟨k + sz, cur ++ (l.drop k).take sz, g, pre, h3, by simp, .inr ⟨j, by omega, rfl, ?_, by simp [hne]⟩, by omega, he, hj, hk⟩
  rw [List.take_add, List.drop_append_of_le_length (by simp; omega), hc]
theorem fields_len {l cur : List UInt8} {N f k : Nat} {pre : List (Fld N)} {r : List (List UInt8)} (he : pre.map (·.1) ++ Lib.fieldsGoD f cur (l.drop k) = Lib.fieldsD l) (hg : Lib.fieldsGoD f cur (l.drop k) = cur :: r) : pre.length < (Lib.fieldsD l).length := by
  rw [← he, hg]
  simp
theorem fields_pre {l cur : List UInt8} {N f k : Nat} {pre : List (Fld N)} {x : Fld N} {r : List (List UInt8)} (he : pre.map (·.1) ++ Lib.fieldsGoD f cur (l.drop k) = Lib.fieldsD l) (hg : Lib.fieldsGoD f cur (l.drop k) = cur :: r) (hx : x.1 = cur) : (pre ++ [x]).map (·.1) <+: Lib.fieldsD l := by
  rw [← he, hg]
  exact ⟨r, by simp [hx]⟩
theorem fields_end {f : Nat} {cur : List UInt8} : Lib.fieldsGoD f cur [] = if cur = [] then [] else [cur] := by
  cases f with
  | zero => rfl
  | succ f => rw [Lib.fieldsGoD, if_pos rfl]
theorem decodeGo_L {d : List UInt8} (h : d ≠ []) : Lib.decodeGo (mkB d) = Lib.decodeL d := by
  unfold Lib.decodeGo
  rw [if_neg (by rw [mkB_size]; exact fun e => h (List.length_eq_zero_iff.1 e))]
  rfl
theorem isSpace_any (r : Nat) (w : World) (hr : r ≤ 1114111) (h : Tabs w) : Calls Tryd.prog 91 #[.int .i32 (r : Int)] w fun e w' => e = .returned (.bool (Lib.isSpaceR r)) ∧ Below w.heap.size w w' := by
  have := Tryd.unicode_IsSpace_any (r : Int) w (by omega) (by omega) h.2.2.2.2.2
  rw [Lib.isSpaceZ_nat] at this
  exact this
theorem space_cell {w : World} (h : Tabs w) (c : UInt8) : w.cell? ⟨2, c.toNat, none⟩ = some (.int .u8 (if Lib.isSp c = true then 1 else 0)) := by
  have hc := c.toNat_lt
  have := h.2.1.cell (by kernel_rfl : Tryd.prog.globalNamed "strings.asciiSpace" = some 2) c.toNat (by rw [Lib.asciiSpaceTab_length]; exact hc)
  rw [Lib.asciiSpaceTab_at c.toNat hc] at this
  simpa using this
theorem drop_cons (s : ByteArray) {k : Nat} (h : k < s.size) : s.data.toList.drop k = s[k] :: s.data.toList.drop (k + 1) := dropB_cons s k h
theorem sep_ascii (s : ByteArray) {k : Nat} (h : k < s.size) (ha : s[k].toNat < 128) : SepAt s.data.toList k 1 (Lib.isSp s[k]) := by
  have hl : s.data.toList.length = s.size := by simp
  refine ⟨by omega, Nat.le_refl _, by omega, ?_, ?_⟩
  · rw [drop_cons s h, Lib.decodeL_ascii _ _ ha]
    cases hs : Lib.isSp s[k]
    · exact Lib.isSp_false hs ha
    · exact (Lib.isSp_true hs).2
  · rw [drop_cons s h, Lib.decodeL_ascii _ _ ha]
theorem sep_any (s : ByteArray) {k : Nat} (h : k < s.size) : SepAt s.data.toList k (Lib.decodeL (s.data.toList.drop k)).2 (Lib.isSpaceR (Lib.decodeL (s.data.toList.drop k)).1) := by
  have hl : s.data.toList.length = s.size := by simp
  have hne : s.data.toList.drop k ≠ [] := by rw [drop_cons s h]; simp
  have := Lib.decodeL_le _ hne
  rw [List.length_drop] at this
  exact ⟨by omega, Lib.decodeL_width _, by omega, rfl, rfl⟩

set_option maxRecDepth 100000 in
set_option maxHeartbeats 4000000 in
theorem fields_stops (m N : Nat) (hm : 1 ≤ m) (s : ByteArray) (n₀ B : Nat) (w : World) (hs : s.size ≤ N) (hN : N ≤ 1000000000) (hB : w.heap[B]? = some (.cells #[.string s] 9 (0, 0))) (hn₀ : n₀ ≤ w.heap.size) (hT : TabsN n₀ w) :
    SeqStopsK Fence.wide m Tryd.prog 94 #[.pointer (some ⟨B, 0, none⟩)] (fun x : Fld N => #[Value.string (mkB x.1)]) (KpF n₀ B) (fun xs => xs.map (·.1) = Lib.fieldsD s.data.toList) (fun pre => pre.map (·.1) <+: Lib.fieldsD s.data.toList) (Lib.fieldsD s.data.toList).length w := fun l J Jx W hW hJ _ hY h0 => by
  have hls : s.data.toList.length = s.size := by simp
  have hBW := (hW.block B (lt_of_heap hB)).trans hB
  have HLS := Lib.hid hls
  have HBW := Lib.hid hBW
  have HY := Lib.hid hY
  have HTW : Hid (TabsN n₀ W) := Lib.hid (hT.next fun b hb => hW.block b (by omega))
  have HJ := Lib.hid hJ
  have HSZ : Hid (w.heap.size ≤ W.heap.size) := Lib.hid hW.size
  have HLB : Hid (B < W.heap.size) := Lib.hid (lt_of_heap hBW)
  have H0 := Lib.hid h0
  clear hls hBW hB hT hW hJ hY h0
  refine callsIn_of_wp Tryd.func94 rfl trivial ?_ rfl
  simp only [Tryd.ntmps94, List.size_toArray, List.length_cons, List.length_nil, Nat.reduceAdd, Nat.reduceSub, Array.replicate_succ, Array.replicate_zero, List.push_toArray, List.append_toArray, List.nil_append, List.cons_append]
  gi_wp2
  gi_loopw [3, 4] (fun st i wr => FRel s.data.toList N n₀ B W J st i wr) (fun _ i _ => s.size - (intOf i).toNat)
  case atStart => exact ⟨0, [], s.data.toList.length + 1, [], Nat.zero_le _, rfl, .inl ⟨rfl, rfl⟩, by omega, by simp [Lib.fieldsD], H0.out, Below.refl _ _, rfl⟩
  case round =>
    obtain ⟨k, cur, f, pre, hk, rfl, hcur, hf, he, hj, hkp⟩ := hrel
    have hks : k ≤ s.size := by have := HLS.out; omega
    have hq := cell_at (o := 0) (hkp.2.trans HBW.out) (.string s) rfl
    have HKP := Lib.hid hkp
    have HE := Lib.hid he
    have HJP := Lib.hid hj
    have HF : Hid (s.data.toList.length - k < f) := Lib.hid hf
    have HTR : Hid (Tabs wr) := Lib.hid (HTW.out.next fun b hb => hkp.1.block b hb).here
    have HBR : Hid (B < wr.heap.size ∧ n₀ ≤ wr.heap.size ∧ W.heap.size ≤ wr.heap.size) := Lib.hid ⟨Nat.lt_of_lt_of_le HLB.out hkp.1.size, Nat.le_trans (Nat.le_trans hn₀ HSZ.out) hkp.1.size, hkp.1.size⟩
    clear hkp he hj hf
    by_cases hlt : k < s.size
    · have hb256 := s[k].toNat_lt
      have h32w : IntKind.i32.wrap (s[k].toNat : Int) = (s[k].toNat : Int) := IntWalk.i32_in _ (by omega)
      have tc := space_cell HTR.out s[k]
      by_cases ha : s[k].toNat < 128
      · have HSEP := Lib.hid (sep_ascii s hlt ha)
        cases hsp : Lib.isSp s[k]
        · have HSP := Lib.hid hsp
          rw [hsp] at HSEP tc
          clear hsp
          rcases hcur with ⟨hc0, rfl⟩ | ⟨j, hjk, rfl, hcj, hcn⟩
          · have HC0 := Lib.hid hc0
            clear hc0
            gi_wp2
            go_roundw
            case rel => exact FRel.word0 HSEP.out HC0.out HF.out HE.out HJP.out HKP.out
            case measure => have := HSEP.out.2.1; simp [intOf]; omega
          · have HCJ := Lib.hid hcj
            have HCN := Lib.hid hcn
            clear hcj hcn
            gi_wp2
            go_roundw
            case rel => exact FRel.word HSEP.out hjk HCJ.out HCN.out HF.out HE.out HJP.out HKP.out
            case measure => have := HSEP.out.2.1; simp [intOf]; omega
        · have HSP := Lib.hid hsp
          rw [hsp] at HSEP tc
          clear hsp
          rcases hcur with ⟨hc0, rfl⟩ | ⟨j, hjk, rfl, hcj, hcn⟩
          · have HC0 := Lib.hid hc0
            clear hc0
            gi_wp2
            go_roundw
            case rel => exact FRel.space HSEP.out HC0.out HF.out HE.out HJP.out HKP.out
            case measure => have := HSEP.out.2.1; simp [intOf]; omega
          · have hcl : cur.length ≤ N := by rw [hcj, List.length_drop, List.length_take]; omega
            have HG : Hid (∃ r, Lib.fieldsGoD f cur (s.data.toList.drop k) = cur :: r) := Lib.hid (by
              obtain ⟨g, rfl⟩ : ∃ g, f = g + 1 := ⟨f - 1, by have := HF.out; omega⟩
              exact ⟨_, by rw [go_space HSEP.out, if_neg hcn]; rfl⟩)
            obtain ⟨rest, hrest⟩ := HG.out
            have HREST := Lib.hid hrest
            clear hrest
            have HCJ := Lib.hid hcj
            have HCN := Lib.hid hcn
            have sl : ∀ wx, (Instr.slice 9 (.string s) (some (.int .i64 (j : Int))) (some (.int .i64 (k : Int))) none).run Tryd.prog wx = .ok (.string (mkB cur)) wx := fun wx => by
              have := run_slice_string (P := Tryd.prog) wx 9 s .i64 .i64 (j : Int) (k : Int) Tryd.underlying9 (by omega) (by omega) (by omega)
              rw [this, extract_mkB, show ((k : Int)).toNat = k by omega, show ((j : Int)).toNat = j by omega, HCJ.out]
            clear hcj hcn
            obtain ⟨fn, tmps, assign, body, hy, hR⟩ := HY.out pre ⟨cur, hcl⟩ _ HJP.out (fields_len HE.out HREST.out)
            dsimp only at hy
            gi_wp2
            refine hR.mono ?_
            rintro e W3 (⟨rfl, hJ3, hk3⟩ | ⟨rfl, hJx3⟩)
            · have HJ3 := Lib.hid hJ3
              have HK3 := Lib.hid (kpF_t HKP.out hk3)
              clear hJ3 hk3
              gi_wp2
              go_roundw
              case rel => exact FRel.gave HSEP.out HCN.out rfl HF.out HE.out HJ3.out HK3.out
              case measure => have := HSEP.out.2.1; simp [intOf]; omega
            · have HJX := Lib.hid hJx3
              clear hJx3
              gi_wp2
              refine bodyPost_ret (results_none rfl _ _ _) rfl ?_
              exact ⟨⟨_, rfl⟩, .inr ⟨pre ++ [⟨cur, hcl⟩], fields_pre HE.out HREST.out rfl, HJX.out⟩⟩
      · have HSEP := Lib.hid (sep_any s hlt)
        have hne : s.data.toList.drop k ≠ [] := by rw [drop_cons s hlt]; simp
        have hdg := decodeGo_L hne
        have hrn := Lib.decodeL_rune (s.data.toList.drop k)
        obtain ⟨D, hD⟩ : ∃ D, D = Lib.decodeL (s.data.toList.drop k) := ⟨_, rfl⟩
        rw [← hD] at HSEP hdg hrn
        have slk : ∀ wx, (Instr.slice 9 (.string s) (some (.int .i64 (k : Int))) none none).run Tryd.prog wx = .ok (.string (mkB (s.data.toList.drop k))) wx := fun wx => by
          have := run_slice_string_from_if (P := Tryd.prog) wx 9 s .i64 (k : Int) Tryd.underlying9
          rw [this, if_pos (by omega), show ((k : Int)).toNat = k from by omega, extract_end]
          rfl
        have hsz1 : (D.2 : Int) ≤ 2000000000 := by have := HSEP.out.2.2.1; have := HLS.out; omega
        obtain ⟨r, sz⟩ := D
        have HDG1 : Hid ((Lib.decodeGo (mkB (s.data.toList.drop k))).1 = r) := Lib.hid (by rw [hdg])
        have HDG2 : Hid ((Lib.decodeGo (mkB (s.data.toList.drop k))).2 = sz) := Lib.hid (by rw [hdg])
        clear hne hD hdg
        simp only at hrn hsz1 HSEP
        have hrn2 : (r : Int) ≤ 1114111 := by omega
        have ha2 : (128 : Int) ≤ (s[k].toNat : Int) := by omega
        cases hsp : Lib.isSpaceR r
        · have HSP := Lib.hid hsp
          rw [hsp] at HSEP
          clear hsp
          rcases hcur with ⟨hc0, rfl⟩ | ⟨j, hjk, rfl, hcj, hcn⟩
          · have HC0 := Lib.hid hc0
            clear hc0
            gi_wp2_with (first | (refine ⟨trivial, ?_⟩; gi_at_call 95; refine (callsIn_wide.2 (decode_any _ _ HTR.out)).mono ?_; rw [HDG1.out, HDG2.out]; rintro e1 w1 ⟨rfl, hb1⟩; have HB1 := Lib.hid hb1; have q1 := (hb1.cell (p := ⟨B, 0, none⟩) HBR.out.1).trans hq; clear hb1) | (refine ⟨trivial, ?_⟩; gi_at_call 91; refine (callsIn_wide.2 (isSpace_any r _ hrn (HTR.out.below HB1.out))).mono ?_; rw [HSP.out]; rintro e2 w2 ⟨rfl, hb2⟩; have HB2 := Lib.hid (HB1.out.trans (hb2.mono HB1.out.size)); have q2 := (hb2.cell (p := ⟨B, 0, none⟩) (Nat.lt_of_lt_of_le HBR.out.1 HB1.out.size)).trans q1; clear hb2))
            go_roundw
            case rel => exact FRel.word0 HSEP.out HC0.out HF.out HE.out (HJ.out _ _ _ none HJP.out (grown_of_below HB2.out none) (fun _ e => by cases e)) (kpF_t HKP.out (KpF.of_below HB2.out HBR.out.2.1 HBR.out.1))
            case measure => have := HSEP.out.2.1; simp [intOf]; omega
          · have HCJ := Lib.hid hcj
            have HCN := Lib.hid hcn
            clear hcj hcn
            gi_wp2_with (first | (refine ⟨trivial, ?_⟩; gi_at_call 95; refine (callsIn_wide.2 (decode_any _ _ HTR.out)).mono ?_; rw [HDG1.out, HDG2.out]; rintro e1 w1 ⟨rfl, hb1⟩; have HB1 := Lib.hid hb1; have q1 := (hb1.cell (p := ⟨B, 0, none⟩) HBR.out.1).trans hq; clear hb1) | (refine ⟨trivial, ?_⟩; gi_at_call 91; refine (callsIn_wide.2 (isSpace_any r _ hrn (HTR.out.below HB1.out))).mono ?_; rw [HSP.out]; rintro e2 w2 ⟨rfl, hb2⟩; have HB2 := Lib.hid (HB1.out.trans (hb2.mono HB1.out.size)); have q2 := (hb2.cell (p := ⟨B, 0, none⟩) (Nat.lt_of_lt_of_le HBR.out.1 HB1.out.size)).trans q1; clear hb2))
            go_roundw
            case rel => exact FRel.word HSEP.out hjk HCJ.out HCN.out HF.out HE.out (HJ.out _ _ _ none HJP.out (grown_of_below HB2.out none) (fun _ e => by cases e)) (kpF_t HKP.out (KpF.of_below HB2.out HBR.out.2.1 HBR.out.1))
            case measure => have := HSEP.out.2.1; simp [intOf]; omega
        · have HSP := Lib.hid hsp
          rw [hsp] at HSEP
          clear hsp
          rcases hcur with ⟨hc0, rfl⟩ | ⟨j, hjk, rfl, hcj, hcn⟩
          · have HC0 := Lib.hid hc0
            clear hc0
            gi_wp2_with (first | (refine ⟨trivial, ?_⟩; gi_at_call 95; refine (callsIn_wide.2 (decode_any _ _ HTR.out)).mono ?_; rw [HDG1.out, HDG2.out]; rintro e1 w1 ⟨rfl, hb1⟩; have HB1 := Lib.hid hb1; have q1 := (hb1.cell (p := ⟨B, 0, none⟩) HBR.out.1).trans hq; clear hb1) | (refine ⟨trivial, ?_⟩; gi_at_call 91; refine (callsIn_wide.2 (isSpace_any r _ hrn (HTR.out.below HB1.out))).mono ?_; rw [HSP.out]; rintro e2 w2 ⟨rfl, hb2⟩; have HB2 := Lib.hid (HB1.out.trans (hb2.mono HB1.out.size)); have q2 := (hb2.cell (p := ⟨B, 0, none⟩) (Nat.lt_of_lt_of_le HBR.out.1 HB1.out.size)).trans q1; clear hb2))
            go_roundw
            case rel => exact FRel.space HSEP.out HC0.out HF.out HE.out (HJ.out _ _ _ none HJP.out (grown_of_below HB2.out none) (fun _ e => by cases e)) (kpF_t HKP.out (KpF.of_below HB2.out HBR.out.2.1 HBR.out.1))
            case measure => have := HSEP.out.2.1; simp [intOf]; omega
          · have hcl : cur.length ≤ N := by rw [hcj, List.length_drop, List.length_take]; omega
            have HG : Hid (∃ r, Lib.fieldsGoD f cur (s.data.toList.drop k) = cur :: r) := Lib.hid (by
              obtain ⟨g, rfl⟩ : ∃ g, f = g + 1 := ⟨f - 1, by have := HF.out; omega⟩
              exact ⟨_, by rw [go_space HSEP.out, if_neg hcn]; rfl⟩)
            obtain ⟨rest, hrest⟩ := HG.out
            have HREST := Lib.hid hrest
            clear hrest
            have HCJ := Lib.hid hcj
            have HCN := Lib.hid hcn
            have sl : ∀ wx, (Instr.slice 9 (.string s) (some (.int .i64 (j : Int))) (some (.int .i64 (k : Int))) none).run Tryd.prog wx = .ok (.string (mkB cur)) wx := fun wx => by
              have := run_slice_string (P := Tryd.prog) wx 9 s .i64 .i64 (j : Int) (k : Int) Tryd.underlying9 (by omega) (by omega) (by omega)
              rw [this, extract_mkB, show ((k : Int)).toNat = k by omega, show ((j : Int)).toNat = j by omega, HCJ.out]
            clear hcj hcn
            gi_wp2_with (first | (refine ⟨trivial, ?_⟩; gi_at_call 95; refine (callsIn_wide.2 (decode_any _ _ HTR.out)).mono ?_; rw [HDG1.out, HDG2.out]; rintro e1 w1 ⟨rfl, hb1⟩; have HB1 := Lib.hid hb1; have q1 := (hb1.cell (p := ⟨B, 0, none⟩) HBR.out.1).trans hq; clear hb1) | (refine ⟨trivial, ?_⟩; gi_at_call 91; refine (callsIn_wide.2 (isSpace_any r _ hrn (HTR.out.below HB1.out))).mono ?_; rw [HSP.out]; rintro e2 w2 ⟨rfl, hb2⟩; have HB2 := Lib.hid (HB1.out.trans (hb2.mono HB1.out.size)); have q2 := (hb2.cell (p := ⟨B, 0, none⟩) (Nat.lt_of_lt_of_le HBR.out.1 HB1.out.size)).trans q1; clear hb2; obtain ⟨fn, tmps, assign, body, hy, hR⟩ := HY.out pre ⟨cur, hcl⟩ w2 (HJ.out _ _ _ none HJP.out (grown_of_below HB2.out none) (fun _ e => by cases e)) (fields_len HE.out HREST.out); dsimp only at hy))
            all_goals
              refine hR.mono ?_
              rintro e W3 (⟨rfl, hJ3, hk3⟩ | ⟨rfl, hJx3⟩)
              · have HJ3 := Lib.hid hJ3
                have HK3 := Lib.hid (kpF_t (kpF_t HKP.out (KpF.of_below HB2.out HBR.out.2.1 HBR.out.1)) hk3)
                clear hJ3 hk3
                gi_wp2
                go_roundw
                case rel => exact FRel.gave HSEP.out HCN.out rfl HF.out HE.out HJ3.out HK3.out
                case measure => have := HSEP.out.2.1; simp [intOf]; omega
              · have HJX := Lib.hid hJx3
                clear hJx3
                gi_wp2
                refine bodyPost_ret (results_none rfl _ _ _) rfl ?_
                exact ⟨⟨_, rfl⟩, .inr ⟨pre ++ [⟨cur, hcl⟩], fields_pre HE.out HREST.out rfl, HJX.out⟩⟩
    · obtain rfl : k = s.size := by omega
      have HDR : Hid (s.data.toList.drop s.size = []) := Lib.hid (List.drop_eq_nil_of_le (by have := HLS.out; omega))
      rcases hcur with ⟨rfl, rfl⟩ | ⟨j, hjk, rfl, hcj, hcn⟩
      · gi_wp2
        go_end0
        exact ⟨⟨_, rfl⟩, .inl ⟨pre, by have := HE.out; rw [HDR.out, fields_end, if_pos rfl, List.append_nil] at this; exact this, HJP.out⟩⟩
      · have hcl : cur.length ≤ N := by rw [hcj, List.length_drop, List.length_take]; have := HLS.out; omega
        have HG : Hid (Lib.fieldsGoD f cur (s.data.toList.drop s.size) = cur :: []) := Lib.hid (by rw [HDR.out, fields_end, if_neg hcn])
        obtain ⟨fn, tmps, assign, body, hy, hR⟩ := HY.out pre ⟨cur, hcl⟩ wr HJP.out (fields_len HE.out HG.out)
        dsimp only at hy
        have HCJ := Lib.hid hcj
        have sl : ∀ wx, (Instr.slice 9 (.string s) (some (.int .i64 (j : Int))) none none).run Tryd.prog wx = .ok (.string (mkB cur)) wx := fun wx => by
          have := run_slice_string_from_if (P := Tryd.prog) wx 9 s .i64 (j : Int) Tryd.underlying9
          rw [this, if_pos (by omega), show ((j : Int)).toNat = j from by omega, extract_mkB, HCJ.out]
        clear hcj hcn
        gi_wp2
        refine hR.mono ?_
        rintro e W3 (⟨rfl, hJ3, hk3⟩ | ⟨rfl, hJx3⟩)
        · gi_wp2
          go_end0
          exact ⟨⟨_, rfl⟩, .inl ⟨pre ++ [⟨cur, hcl⟩], by have := HE.out; rw [HG.out] at this; simpa using this, hJ3⟩⟩
        · gi_wp2
          go_end0
          exact ⟨⟨_, rfl⟩, .inr ⟨pre ++ [⟨cur, hcl⟩], fields_pre HE.out HG.out rfl, hJx3⟩⟩
end Go.Proofs.YteemenhinhkonaaDoor
