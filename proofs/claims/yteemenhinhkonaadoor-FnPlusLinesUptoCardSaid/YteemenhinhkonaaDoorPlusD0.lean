/- The package's isValidTag and split. -/
import Derived.Test.YteemenhinhkonaaDoorProg
import Derived.Test.YteemenhinhkonaaDoorPlusG
import Derived.Test.YteemenhinhkonaaDoorLex
import Derived.Test.YteemenhinhkonaaDoorDLines
import Derived.Deep.LoopGhost
namespace Go.Proofs.YteemenhinhkonaaDoor
open Go.RowKit

def VtRel (s : ByteArray) (bi : Nat) (w : World) (g : Nat) (wr : World) : Prop :=
  ∃ p f : Nat, g = s.size - p ∧ wr.heap[bi]? = some (.stringIter s p) ∧ Below w.heap.size w wr ∧ s.size < f + p ∧ tagEnd s f p = tagEnd s (s.size + 1) 0
theorem below_iterAt {w wr : World} (h : Below w.heap.size w wr) {bi : Nat} (hb : w.heap.size ≤ bi) (T : ByteArray) (p : Nat) : Below w.heap.size w (wr.iterAt bi T p) :=
  ⟨h.os, h.tape, h.output, by rw [Lib.iterAt_size]; exact h.size, fun k hk => (Lib.iterAt_other wr bi k T p (by omega)).trans (h.block k hk)⟩
theorem VtRel_step {s : ByteArray} {bi p f : Nat} {w wr w' : World} (hp : p < s.size) (hit : wr.heap[bi]? = some (.stringIter s p)) (hbi : w.heap.size ≤ bi) (hg : Below w.heap.size w wr) (hf : s.size < f + p) (he : tagEnd s f p = tagEnd s (s.size + 1) 0)
    (hok : runeOk (Utf8.decode s p).1 = true) (hb : Below (wr.iterAt bi s (p + (Utf8.decode s p).2)).heap.size (wr.iterAt bi s (p + (Utf8.decode s p).2)) w') : VtRel s bi w (s.size - (p + (Utf8.decode s p).2)) w' := by
  have hit2 := Lib.iterAt_heap wr bi s p (p + (Utf8.decode s p).2) hit
  obtain ⟨f, rfl⟩ : ∃ f', f = f' + 1 := ⟨f - 1, by omega⟩
  have hw := width_pos s p hp
  have h2 := below_iterAt hg hbi s (p + (Utf8.decode s p).2)
  exact ⟨p + (Utf8.decode s p).2, f, rfl, (hb.block bi (lt_of_heap hit2)).trans hit2, h2.trans (hb.mono h2.size), by omega, by rw [← he, tagEnd_go hp hok]⟩
set_option maxRecDepth 1000000 in
set_option maxHeartbeats 2000000 in
theorem isValid_any (s : ByteArray) (w : World) (hs : s.size ≤ 1152921504606846976) (hT : Tabs w) : Calls Tryd.prog 78 #[.string s] w (CallPost (validB s) w) := by
  by_cases h0 : s.size = 0
  · have hem : s.toList.isEmpty = true := empty_yes h0
    have he : s.toList = [] := by simpa using hem
    have hv : validB s = false := by unfold validB; simp [h0]
    rw [hv]
    clear hv
    go_enter Tryd.func78, Tryd.ntmps78
    go_wp2_with fail
    go_ret
    exact ⟨rfl, Below.refl _ _⟩
  · have hem : s.toList.isEmpty = false := empty_no (by omega)
    have hem2 : (!s.toList.isEmpty) = true := by rw [hem]; rfl
    have HT := Lib.hid hT.upTo
    have HP : Hid (0 < s.size) := Lib.hid (by omega)
    clear hT h0
    go_enter Tryd.func78, Tryd.ntmps78
    go_wp2_with fail
    go_loopg [4] s.size (fun g _ wr => VtRel s w.heap.size w g wr)
    case atStart => exact ⟨0, s.size + 1, rfl, World.iter_heap w s 0, (Below.refl _ _).alloc (Nat.le_refl _) _, by omega, rfl⟩
    case round =>
      obtain ⟨p, f, rfl, hit, hg, hf, he⟩ := hrel
      have HIT := Lib.hid hit
      have HG := Lib.hid hg
      have HE := Lib.hid he
      clear hg he
      by_cases hp : p < s.size
      · have hnx : ∀ ty, (Instr.next (.pointer (some ⟨w.heap.size, 0, none⟩)) true ty).run Tryd.prog wr = _ := fun ty => Lib.run_next_any_at wr w.heap.size s p ty hit hp
        have hd1 := decode_le s p
        obtain ⟨wi, hwi⟩ : ∃ wi, wi = wr.iterAt w.heap.size s (p + (Utf8.decode s p).2) := ⟨_, rfl⟩
        rw [← hwi] at hnx
        have HWI := Lib.hid hwi
        have hbi : Below w.heap.size w wi := by rw [hwi]; exact below_iterAt HG.out (Nat.le_refl _) _ _
        have HBI := Lib.hid hbi
        have HTB : Hid (Tabs wi) := Lib.hid ((HT.out.next fun b hb => hbi.block b hb).here)
        clear hit hwi hbi
        cases hL : letR ((Utf8.decode s p).1 : Int)
        · have HL := Lib.hid hL
          clear hL
          go_wp2_with fail
          refine (isLetter_any _ _ (by omega) (by omega) HTB.out).mono ?_
          rw [HL.out]
          rintro e1 w1 ⟨rfl, hb1⟩
          have HB1 := Lib.hid hb1
          have HTB1 : Hid (Tabs w1) := Lib.hid (HTB.out.below hb1)
          clear hb1
          cases hD : digR ((Utf8.decode s p).1 : Int)
          · have HD := Lib.hid hD
            clear hD
            go_wp2_with fail
            refine (isDigit_any _ _ (by omega) (by omega) HTB1.out).mono ?_
            rw [HD.out]
            rintro e2 w2 ⟨rfl, hb2⟩
            have HB2 := Lib.hid (HB1.out.trans (hb2.mono HB1.out.size))
            clear hb2
            by_cases h95 : ((Utf8.decode s p).1 : Int) = 95
            · have n95 : (((Utf8.decode s p).1 : Int) != 95) = false := by simp [h95]
              have HOK : Hid (runeOk ((Utf8.decode s p).1 : Int) = true) := Lib.hid (by rw [h95]; rfl)
              clear h95
              go_wp2_with fail
              go_roundg (s.size - (p + (Utf8.decode s p).2))
              case measure => have := width_pos s p hp; omega
              case rel => exact VtRel_step hp HIT.out (Nat.le_refl _) HG.out hf HE.out HOK.out (HWI.out ▸ HB2.out)
            · have n95 : (((Utf8.decode s p).1 : Int) != 95) = true := by simpa using h95
              by_cases h46 : ((Utf8.decode s p).1 : Int) = 46
              · have n46 : (((Utf8.decode s p).1 : Int) != 46) = false := by simp [h46]
                have HOK : Hid (runeOk ((Utf8.decode s p).1 : Int) = true) := Lib.hid (by rw [h46]; rfl)
                clear h95 h46
                go_wp2_with fail
                go_roundg (s.size - (p + (Utf8.decode s p).2))
                case measure => have := width_pos s p hp; omega
                case rel => exact VtRel_step hp HIT.out (Nat.le_refl _) HG.out hf HE.out HOK.out (HWI.out ▸ HB2.out)
              · have n46 : (((Utf8.decode s p).1 : Int) != 46) = true := by simpa using h46
                have HBAD : Hid (runeOk ((Utf8.decode s p).1 : Int) = false) := Lib.hid (by unfold runeOk; rw [HL.out, HD.out]; simp [h95, h46])
                clear h95 h46
                go_wp2_with fail
                go_ret
                refine ⟨ret_bool ?_, HBI.out.trans (HB2.out.mono HBI.out.size)⟩
                symm
                unfold validB
                rw [← HE.out, tagEnd_stop hp hf HBAD.out]
                simp
                omega
          · have HD := Lib.hid hD
            clear hD
            have HOK : Hid (runeOk ((Utf8.decode s p).1 : Int) = true) := Lib.hid (by unfold runeOk; rw [HD.out]; simp)
            go_wp2_with fail
            refine (isDigit_any _ _ (by omega) (by omega) HTB1.out).mono ?_
            rw [HD.out]
            rintro e2 w2 ⟨rfl, hb2⟩
            have HB2 := Lib.hid (HB1.out.trans (hb2.mono HB1.out.size))
            clear hb2
            go_wp2_with fail
            go_roundg (s.size - (p + (Utf8.decode s p).2))
            case measure => have := width_pos s p hp; omega
            case rel => exact VtRel_step hp HIT.out (Nat.le_refl _) HG.out hf HE.out HOK.out (HWI.out ▸ HB2.out)
        · have HL := Lib.hid hL
          clear hL
          have HOK : Hid (runeOk ((Utf8.decode s p).1 : Int) = true) := Lib.hid (by unfold runeOk; rw [HL.out]; rfl)
          go_wp2_with fail
          refine (isLetter_any _ _ (by omega) (by omega) HTB.out).mono ?_
          rw [HL.out]
          rintro e1 w1 ⟨rfl, hb1⟩
          have HB1 := Lib.hid hb1
          clear hb1
          go_wp2_with fail
          go_roundg (s.size - (p + (Utf8.decode s p).2))
          case measure => have := width_pos s p hp; omega
          case rel => exact VtRel_step hp HIT.out (Nat.le_refl _) HG.out hf HE.out HOK.out (HWI.out ▸ HB1.out)
      · have hnx : ∀ ty, (Instr.next (.pointer (some ⟨w.heap.size, 0, none⟩)) true ty).run Tryd.prog wr = _ := fun ty => Lib.run_next_end_at wr w.heap.size s p ty hit hp
        clear hit
        go_wp2_with fail
        go_ret
        refine ⟨ret_bool ?_, HG.out⟩
        symm
        unfold validB
        rw [← HE.out, tagEnd_end (by omega)]
        simp [HP.out]

/- cutting at commas -/
def stC (p : List (List UInt8) × List UInt8) (c : UInt8) : List (List UInt8) × List UInt8 := if c = 44 then (p.1 ++ [p.2], []) else (p.1, p.2 ++ [c])
def spC (l : List UInt8) : List (List UInt8) × List UInt8 := l.foldl stC ([], [])
theorem spC_snoc (l : List UInt8) (c : UInt8) : spC (l ++ [c]) = stC (spC l) c := by unfold spC; rw [List.foldl_append]; rfl
theorem spC_go (l : List UInt8) : ∀ d cur, (l.foldl stC (d, cur)).1 ++ [(l.foldl stC (d, cur)).2] = d ++ splitGo cur l := by
  induction l with
  | nil => intro d cur; rfl
  | cons c r ih =>
    intro d cur
    rw [List.foldl_cons, stC, splitGo]
    by_cases h : c = 44
    · rw [if_pos h, if_pos h, ih]
      simp
    · rw [if_neg h, if_neg h, ih]
theorem splitC_eq (l : List UInt8) : splitC l = (spC l).1 ++ [(spC l).2] := ((spC_go l [] []).trans (List.nil_append _)).symm
theorem spC_cut (l : List UInt8) : ∃ p, l = p ++ (spC l).2 := by
  induction l using snoc_ind with
  | h0 => exact ⟨[], rfl⟩
  | h1 l c ih =>
    obtain ⟨p, hp⟩ := ih
    rw [spC_snoc]
    unfold stC
    split
    · exact ⟨l ++ [c], by simp⟩
    · refine ⟨p, ?_⟩
      show l ++ [c] = p ++ ((spC l).2 ++ [c])
      rw [← List.append_assoc, ← hp]
theorem spC_len (l : List UInt8) : (spC l).1.length + (spC l).2.length ≤ l.length := by
  induction l using snoc_ind with
  | h0 => simp [spC]
  | h1 l c ih =>
    rw [spC_snoc, List.length_append]
    unfold stC
    split
    · simp; omega
    · simp; omega
theorem spC_drop {l : List UInt8} {k : Nat} (hk : k ≤ l.length) : (l.take k).drop (k - (spC (l.take k)).2.length) = (spC (l.take k)).2 := by
  obtain ⟨p, hp⟩ := spC_cut (l.take k)
  have h1 := congrArg List.length hp
  rw [List.length_take, Nat.min_eq_left hk, List.length_append] at h1
  generalize (spC (l.take k)).2 = c at hp h1 ⊢
  rw [hp, show k - c.length = p.length by omega, List.drop_left]
def SpRel (w : World) (l : List UInt8) (v fr i : Value) (wr : World) : Prop := ∃ k : Nat, k ≤ l.length ∧ i = .int .i64 k ∧ fr = .int .i64 ((k - (spC (l.take k)).2.length : Nat) : Int) ∧ LRow w wr v (spC (l.take k)).1
set_option maxRecDepth 100000 in
set_option maxHeartbeats 2000000 in
theorem split_any (s : ByteArray) (w : World) (hs : s.size ≤ 1000000000) : Calls Tryd.prog 76 #[.string s] w (LPost (splitC s.data.toList) w) := by
  obtain ⟨i0, hi, hz0, hz1, hz2⟩ := info_parts info_line
  obtain ⟨l, hl⟩ : ∃ l, l = s.data.toList := ⟨_, rfl⟩
  have hsz : l.length = s.size := by rw [hl]; simp
  have HL := Lib.hid hl
  have HS := Lib.hid hsz
  rw [← hl]
  clear hl hsz
  go_enter Tryd.func76, Tryd.ntmps76
  go_wp2_with fail
  go_loopw [3, 4, 5] (fun v fr i wr => SpRel w l v fr i wr) (fun _ _ i _ => s.size - (intOf i).toNat)
  case atStart => exact ⟨0, Nat.zero_le _, rfl, rfl, World.ownsRow_nil _ _ _ _, Below.refl _ _⟩
  case round =>
    obtain ⟨k, hk, rfl, rfl, hrow⟩ := hrel
    have hks : k ≤ s.size := by have := HS.out; omega
    have hln := spC_len (l.take k)
    rw [List.length_take, Nat.min_eq_left hk] at hln
    have HR := Lib.hid hrow
    obtain ⟨pv, cv, rfl⟩ := ownsRow_slice hrow.1
    have hcut := spC_drop hk
    obtain ⟨fr, hfr⟩ : ∃ fr : Nat, fr = k - (spC (l.take k)).2.length := ⟨_, rfl⟩
    rw [← hfr] at hcut ⊢
    have hfk : fr ≤ k := by omega
    obtain ⟨cu, hcu⟩ : ∃ cu, cu = (spC (l.take k)).2 := ⟨_, rfl⟩
    rw [← hcu] at hcut hln hfr
    have HC := Lib.hid hcut
    have HCU := Lib.hid hcu
    have HFR := Lib.hid hfr
    clear hrow hcut hcu hfr
    by_cases hlt : k < s.size
    · have hst := spl_take s k hlt
      rw [← HL.out] at hst
      have HST := Lib.hid hst
      clear hst
      by_cases h44 : s[k].toNat = 44
      · have hz : s[k] = 44 := UInt8.toNat_inj.1 h44
        have HSP : Hid (spC (l.take (k + 1)) = ((spC (l.take k)).1 ++ [cu], [])) := Lib.hid (by rw [HST.out, spC_snoc]; unfold stC; rw [if_pos hz, HCU.out])
        clear hz
        have sl : ∀ wx, (Instr.slice 9 (.string s) (some (.int .i64 (fr : Int))) (some (.int .i64 (k : Int))) none).run Tryd.prog wx = .ok (.string (mkB cu)) wx := fun wx => by
          have := run_slice_string (P := Tryd.prog) wx 9 s .i64 .i64 (fr : Int) (k : Int) Tryd.underlying9 (by omega) (by omega) (by omega)
          rw [this, extract_mkB, ← HL.out, show ((k : Int)).toNat = k by omega, show ((fr : Int)).toNat = fr by omega, HC.out]
        go_wp2_with (at_builtin; refine wpList_append_own_at _ rfl _ _ 41 rfl w.heap.size 9 i0 _ 1 16 Tryd.underlying41 hi hz0 hz1 hz2 rfl (by decide) _ _ _ rfl (HR.out.1.alloc _) ⟨_, 0, none⟩ 1 1 [.string (mkB cu)] rfl rfl (cell_one_new _ _ _) (by simp [Value.oneCell']) (by unfold maxLen; omega) (by omega) (by have := HR.out.2.size; simp; omega) ?_; intro v' w3 hown3 hg3 _ hat3)
        exact ⟨⟨k + 1, by have := HS.out; omega, by go_num, by rw [HSP.out]; simp, by rw [HSP.out]; exact HR.out.snoc hown3 hg3⟩, by simp [intOf]; omega⟩
      · have hz : ¬ s[k] = 44 := fun h => h44 (by rw [h]; rfl)
        have HSP : Hid (spC (l.take (k + 1)) = ((spC (l.take k)).1, cu ++ [s[k]])) := Lib.hid (by rw [HST.out, spC_snoc]; unfold stC; rw [if_neg hz, HCU.out])
        clear hz
        have hb44 : ((s[k].toNat : Int) == 44) = false := by simp; omega
        go_wp2_with fail
        exact ⟨⟨k + 1, by have := HS.out; omega, by go_num, by rw [HSP.out, HFR.out]; simp, by rw [HSP.out]; exact HR.out⟩, by simp [intOf]; omega⟩
    · have hke : k = l.length := by have := HS.out; omega
      have HT : Hid (l.take k = l) := Lib.hid (by rw [hke]; exact List.take_length)
      have hks2 : k = s.size := by have := HS.out; omega
      have HE : Hid (splitC l = (spC (l.take k)).1 ++ [cu]) := Lib.hid (by rw [splitC_eq, HCU.out, HT.out])
      rw [HE.out]
      obtain ⟨ls, hls⟩ : ∃ ls, ls = (spC (l.take k)).1 := ⟨_, rfl⟩
      rw [← hls] at HR hln ⊢
      have hlsl : ls.length ≤ 1000000000 := by omega
      have HLSS := Lib.hid hls
      clear hke hls
      have sl : ∀ wx, (Instr.slice 9 (.string s) (some (.int .i64 (fr : Int))) none none).run Tryd.prog wx = .ok (.string (mkB cu)) wx := fun wx => by
        have := run_slice_string_from_if (P := Tryd.prog) wx 9 s .i64 (fr : Int) Tryd.underlying9
        have hc := HC.out
        rw [HT.out] at hc
        rw [this, if_pos (by omega), show ((fr : Int)).toNat = fr by omega, extract_end]
        unfold dropB
        rw [← HL.out, hc]
      subst hks2
      go_wp2_with (at_builtin; refine wpList_append_own_at _ rfl _ _ 41 rfl w.heap.size 9 i0 _ 1 16 Tryd.underlying41 hi hz0 hz1 hz2 rfl (by decide) _ _ _ rfl (HR.out.1.alloc _) ⟨_, 0, none⟩ 1 1 [.string (mkB cu)] rfl rfl (cell_one_new _ _ _) (by simp [Value.oneCell']) (by unfold maxLen; omega) (by omega) (by have := HR.out.2.size; simp; omega) ?_; intro v' w3 hown3 hg3 _ hat3)
      go_ret
      exact ⟨_, rfl, by rw [HE.out, ← HLSS.out]; exact HR.out.snoc hown3 hg3⟩
end Go.Proofs.YteemenhinhkonaaDoor
