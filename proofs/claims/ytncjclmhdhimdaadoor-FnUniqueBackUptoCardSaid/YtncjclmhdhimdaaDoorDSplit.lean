/- The package's splitAfter and lines. -/
import Derived.Test.YtncjclmhdhimdaaDoorProg
import Derived.Test.YtncjclmhdhimdaaDoorDLines
import Derived.Test.YtncjclmhdhimdaaDoorDMark
import Derived.Laws.IdiomStrings
import Derived.Shelf.Bytes.SlSmallAll
namespace Go.Proofs.YtncjclmhdhimdaaDoor
open Go.RowKit

set_option maxHeartbeats 2000000 in
theorem splitAfter_any (s : ByteArray) (w : World) (hs : s.size ≤ 1099511627776) : Calls Tryd.prog 34 #[.string s] w (LPost ((spl s.data.toList).1 ++ [(spl s.data.toList).2]) w) := by
  obtain ⟨i0, hi, hz0, hz1, hz2⟩ := info_parts info_line
  obtain ⟨l, hl⟩ : ∃ l, l = s.data.toList := ⟨_, rfl⟩
  have hsz : l.length = s.size := by rw [hl]; simp
  have HL := Lib.hid hl
  have HS := Lib.hid hsz
  rw [← hl]
  clear hl hsz
  go_enter Tryd.func34, Tryd.ntmps34
  go_wp2_with fail
  go_loopw [3, 4, 5] (fun v fr i wr => LRel w l v fr i wr) (fun _ _ i _ => s.size - (intOf i).toNat)
  case atStart => exact ⟨0, Nat.zero_le _, rfl, rfl, World.ownsRow_nil _ _ _ _, Below.refl _ _⟩
  case round =>
    obtain ⟨k, hk, rfl, rfl, hrow⟩ := hrel
    have hks : k ≤ s.size := by have := HS.out; omega
    have hln := spl_len (l.take k)
    rw [List.length_take, Nat.min_eq_left hk] at hln
    have HR := Lib.hid hrow
    obtain ⟨pv, cv, rfl⟩ := ownsRow_slice hrow.1
    clear hrow
    by_cases hlt : k < s.size
    · have hst := spl_take s k hlt
      rw [← HL.out] at hst
      have HST := Lib.hid hst
      clear hst
      by_cases h10 : s[k].toNat = 10
      · have hpc : ((l.take (k + 1)).drop (k - (spl (l.take k)).2.length)) = (spl (l.take k)).2 ++ [s[k]] := by
          rw [HST.out]
          rcases spl_cut l k with h | h
          · rw [List.drop_append_of_le_length (by simp; omega), h]
          · omega
        have HPC := Lib.hid hpc
        have hz : s[k] = 10 := UInt8.toNat_inj.1 h10
        have HSP : Hid (spl (l.take (k + 1)) = ((spl (l.take k)).1 ++ [(spl (l.take k)).2 ++ [s[k]]], [])) := Lib.hid (by rw [HST.out, spl_snoc]; unfold stp; rw [if_pos hz])
        clear hpc hz
        obtain ⟨fr, hfr⟩ : ∃ fr : Nat, fr = k - (spl (l.take k)).2.length := ⟨_, rfl⟩
        rw [← hfr] at HPC ⊢
        have hfk : fr ≤ k := by omega
        clear hfr
        obtain ⟨lc, hlc⟩ : ∃ lc, lc = (spl (l.take k)).2 ++ [s[k]] := ⟨_, rfl⟩
        rw [← hlc] at HPC HSP
        clear hlc
        have sl : ∀ wx, (Instr.slice 9 (.string s) (some (.int .i64 (fr : Int))) (some (.int .i64 ((k : Int) + 1))) none).run Tryd.prog wx = .ok (.string (mkB lc)) wx := fun wx => by
          have := run_slice_string (P := Tryd.prog) wx 9 s .i64 .i64 (fr : Int) ((k : Int) + 1) Tryd.underlying9 (by omega) (by omega) (by omega)
          rw [this, extract_mkB, ← HL.out, show ((k : Int) + 1).toNat = k + 1 by omega, show ((fr : Int)).toNat = fr by omega, HPC.out]
        go_wp2_with (at_builtin; refine wpList_append_own_at _ rfl _ _ 26 rfl w.heap.size 9 i0 _ 1 16 Tryd.underlying26 hi hz0 hz1 hz2 rfl (by decide) _ _ _ rfl (HR.out.1.alloc _) ⟨_, 0, none⟩ 1 1 [.string (mkB lc)] rfl rfl (cell_one_new _ _ _) (by simp [Value.oneCell']) (by unfold maxLen; omega) (by omega) (by have := HR.out.2.size; simp; omega) ?_; intro v' w3 hown3 hg3 _ hat3)
        exact ⟨⟨k + 1, by have := HS.out; omega, by go_num, by rw [HSP.out]; simp, by rw [HSP.out]; exact HR.out.snoc hown3 hg3⟩, by simp [intOf]; omega⟩
      · have hz : ¬ s[k] = 10 := fun h => h10 (by rw [h]; rfl)
        have HSP : Hid (spl (l.take (k + 1)) = ((spl (l.take k)).1, (spl (l.take k)).2 ++ [s[k]])) := Lib.hid (by rw [HST.out, spl_snoc]; unfold stp; rw [if_neg hz])
        clear hz
        have hb10 : ((s[k].toNat : Int) == 10) = false := by simp; omega
        go_wp2_with fail
        exact ⟨⟨k + 1, by have := HS.out; omega, by go_num, by rw [HSP.out]; simp, by rw [HSP.out]; exact HR.out⟩, by simp [intOf]; omega⟩
    · have hke : k = l.length := by have := HS.out; omega
      have HT : Hid (l.take k = l) := Lib.hid (by rw [hke]; exact List.take_length)
      rw [HT.out] at HR hln ⊢
      obtain ⟨ls, hls⟩ : ∃ ls, ls = (spl l).1 := ⟨_, rfl⟩
      obtain ⟨c, hc⟩ : ∃ c, c = (spl l).2 := ⟨_, rfl⟩
      rw [← hls] at HR hln ⊢
      rw [← hc] at hln ⊢
      have HLS := Lib.hid hls
      have HC0 := Lib.hid hc
      have hcut : (l.take k).drop (k - c.length) = c := by
        rcases spl_cut l k with h | h
        · rw [HT.out, ← hc] at h
          rw [HT.out]
          exact h
        · omega
      rw [HT.out] at hcut
      have HC := Lib.hid hcut
      have hks2 : k = s.size := by have := HS.out; omega
      subst hks2
      clear hls hc hcut hke HT
      obtain ⟨fr, hfr⟩ : ∃ fr : Nat, fr = s.size - c.length := ⟨_, rfl⟩
      rw [← hfr] at HC ⊢
      have hfk : fr ≤ s.size := by omega
      clear hfr
      have sl : ∀ wx, (Instr.slice 9 (.string s) (some (.int .i64 (fr : Int))) none none).run Tryd.prog wx = .ok (.string (mkB c)) wx := fun wx => by
        have := run_slice_string_from_if (P := Tryd.prog) wx 9 s .i64 (fr : Int) Tryd.underlying9
        rw [this, if_pos (by omega), extract_mkB, ← HL.out, ← HS.out, List.take_length, show ((fr : Int)).toNat = fr by omega, HC.out]
      go_wp2_with (at_builtin; refine wpList_append_own_at _ rfl _ _ 26 rfl w.heap.size 9 i0 _ 1 16 Tryd.underlying26 hi hz0 hz1 hz2 rfl (by decide) _ _ _ rfl (HR.out.1.alloc _) ⟨_, 0, none⟩ 1 1 [.string (mkB c)] rfl rfl (cell_one_new _ _ _) (by simp [Value.oneCell']) (by unfold maxLen; omega) (by omega) (by have := HR.out.2.size; simp; omega) ?_; intro v' w3 hown3 hg3 _ hat3)
      go_ret
      first | rw [← HLS.out, ← HC0.out] | skip
      exact ⟨_, rfl, HR.out.snoc hown3 hg3⟩

/- a slice of bytes that reads as a list -/
def BS (w : World) (v : Value) (l : List UInt8) : Prop := ∃ a cap, v = .slice a l.length cap ∧ ∀ j b, l[j]? = some b → ∃ g off, a = some ⟨g, off, none⟩ ∧ w.cell? ⟨g, off + j, none⟩ = some (.int .u8 b.toNat)
theorem BS.below {w w' : World} {v : Value} {l : List UInt8} (h : BS w v l) (hb : Below w.heap.size w w') : BS w' v l := by
  obtain ⟨a, cap, hv, hc⟩ := h
  refine ⟨a, cap, hv, fun j b hj => ?_⟩
  obtain ⟨g, off, ha, hcell⟩ := hc j b hj
  exact ⟨g, off, ha, (hb.cell (p := ⟨g, off + j, none⟩) (lt_of_cell hcell)).trans hcell⟩
theorem addr_plus (g off j : Nat) : (⟨g, off, none⟩ : Addr).add j = ⟨g, off + j, none⟩ := by
  unfold Addr.add
  split
  · rename_i h; subst h; rfl
  · rfl
theorem conv_bytes {w : World} {v : Value} {l : List UInt8} (h : BS w v l) : (convert 37 9 v).run Tryd.prog w = .ok (.string (mkB l)) w := by
  obtain ⟨a, cap, rfl, hc⟩ := h
  cases l with
  | nil => exact run_convert_bytes_zero w 37 5 Tryd.underlying37 Tryd.underlying5 a cap 9 Tryd.underlying9
  | cons c r =>
    obtain ⟨g, off, rfl, _⟩ := hc 0 c rfl
    refine run_convert_bytes_back w 37 9 5 ⟨g, off, none⟩ cap (c :: r) Tryd.underlying37 Tryd.underlying5 Tryd.underlying9 fun j hj => ?_
    obtain ⟨g', off', he, hcell⟩ := hc j _ (List.getElem?_eq_getElem hj)
    injection he with he
    injection he with he1 he2
    subst he1 he2
    rw [addr_plus]
    exact hcell
theorem ownsRow_full {w : World} {base : Nat} {e : TypeId} {v : Value} {n : Nat} {xs : List Value} (h : w.ownsRow base e 1 v n xs) (hn : 0 < n) : ∃ g cap cur, v = .slice (some ⟨g, 0, none⟩) n cap ∧ base ≤ g ∧ w.heap[g]? = some (.cells cur e (0, 0)) ∧ n ≤ cap ∧ cur.size = cap ∧ ∀ (j : Nat) (u : Value), xs[j]? = some u → cur[j]? = some u := by
  rcases h.2 with ⟨_, h0⟩ | ⟨g, cap, cur, hv, hb, hg, hnc, _, hcs, ht⟩
  · omega
  · refine ⟨g, cap, cur, hv, hb, hg, hnc, by omega, fun j u hu => ?_⟩
    rw [← ht, Nat.mul_one, List.getElem?_take] at hu
    split at hu
    · simpa using hu
    · cases hu
theorem set_cells {w : World} {g k : Nat} {cur : Array Value} {e : TypeId} (h : w.heap[g]? = some (.cells cur e (0, 0))) (v : Value) (hk : k < cur.size) : ∀ j, (w.setCell ⟨g, k, none⟩ v).cell? ⟨g, j, none⟩ = if j = k then some v else w.cell? ⟨g, j, none⟩ := by
  intro j
  have h2 := heap_set w (o := k) h v
  by_cases hj : j = k
  · subst hj
    rw [if_pos rfl]
    exact cell_at h2 v (by simp [hk])
  · rw [if_neg hj]
    simp only [World.cell?, h2, h]
    simp [Ne.symm hj]
def SSP (ls : List (List UInt8)) (w : World) (en : Ending) (w' : World) : Prop := ∃ v, en = .returned v ∧ SS w' v (ls.map mkB) ∧ Below w.heap.size w w' ∧ ∀ a n c, v = .slice a n c → n ≤ c
theorem strs_map (ls : List (List UInt8)) : strs ls = (ls.map mkB).map Value.string := by simp [strs]

set_option maxHeartbeats 2000000 in
theorem linesD_any (v : Value) (l : List UInt8) (w : World) (h : BS w v l) (hs : l.length ≤ 549755813888) : Calls Tryd.prog 28 #[v] w (SSP (dl l) w) := by
  have cv := conv_bytes h
  obtain ⟨a, cap, rfl, -⟩ := h
  go_enter Tryd.func28, Tryd.ntmps28
  go_wp2_with fail
  refine (splitAfter_any (mkB l) w (by rw [mkB_size]; omega)).mono ?_
  rw [mkB_toList]
  rintro e1 w1 ⟨v1, rfl, hrow⟩
  have hlen := spl_len l
  have hB := hrow.2
  have HB := Lib.hid hB
  obtain ⟨ls, hls⟩ : ∃ ls, ls = (spl l).1 := ⟨_, rfl⟩
  obtain ⟨c, hc⟩ : ∃ c, c = (spl l).2 := ⟨_, rfl⟩
  rw [← hls, ← hc] at hrow hlen
  have HDL : Hid (dl l = ls ++ if c = [] then [] else [c ++ nonl]) := Lib.hid (by unfold dl; rw [hls, hc])
  have HC1 : Hid (10 ∉ c) := Lib.hid (by rw [hc]; exact spl_no10 l)
  clear hls hc
  have hown := hrow.1
  rw [List.length_append, List.length_singleton] at hown
  obtain ⟨g, cv1, cur, rfl, hbg, hgh, hnc, hcs, hcell⟩ := ownsRow_full hown (by omega)
  have hcell2 : ∀ j u, (strs (ls ++ [c]))[j]? = some u → w1.cell? ⟨g, j, none⟩ = some u := fun j u hu => cell_at hgh u (hcell j u hu)
  have hlast : w1.cell? ⟨g, ls.length, none⟩ = some (.string (mkB c)) := hcell2 ls.length _ (by rw [strs_snoc, List.getElem?_append_right (by rw [strs_len]; exact Nat.le_refl _), strs_len, Nat.sub_self]; rfl)
  have HCE : Hid (∀ j x, ls[j]? = some x → w1.cell? ⟨g, j, none⟩ = some (.string (mkB x))) := Lib.hid fun j x hj => hcell2 j _ (by
    rw [strs_snoc, List.getElem?_append_left (by rw [strs_len]; exact (List.getElem?_eq_some_iff.1 hj).1)]
    simp [strs, hj])
  have hfz := free_at hgh ls.length
  have HGH := Lib.hid hgh
  have HCS := Lib.hid hcs
  clear hrow hown hcell hcell2 cv hB hgh hcs
  by_cases hcz : c = []
  · have HDL2 : Hid (dl l = ls) := Lib.hid (by rw [HDL.out, if_pos hcz]; simp)
    have hem : (mkB c).toList.isEmpty = true := by rw [ByteArray.toList_eq, mkB_toList, hcz]; rfl
    have hc0 : ¬ cv1 = 0 := by omega
    clear hcz
    go_wp2_with fail
    go_ret
    rw [HDL2.out]
    refine ⟨_, rfl, ⟨some ⟨g, 0, none⟩, cv1, by simp, by rw [List.length_map]; omega, fun j x hj => ⟨g, 0, rfl, ?_⟩⟩, HB.out, fun _ _ _ he => by injection he with _ h2 h3; omega⟩
    rw [List.getElem?_map] at hj
    obtain ⟨y, hy, rfl⟩ := Option.map_eq_some_iff.1 hj
    rw [Nat.zero_add]
    exact HCE.out j y hy
  · have HDL2 : Hid (dl l = ls ++ [c ++ nonl]) := Lib.hid (by rw [HDL.out, if_neg hcz])
    have hem : (mkB c).toList.isEmpty = false := by rw [ByteArray.toList_eq, mkB_toList]; cases c with | nil => exact absurd rfl hcz | cons _ _ => rfl
    obtain ⟨cn, hcn⟩ : ∃ cn, cn = c ++ nonl := ⟨_, rfl⟩
    have HCN := Lib.hid hcn
    have e2 : ({ data := #[10, 92, 32, 78, 111, 32, 110, 101, 119, 108, 105, 110, 101, 32, 97, 116, 32, 101, 110, 100, 32, 111, 102, 32, 102, 105, 108, 101, 10] } : ByteArray).size = 29 := rfl
    have s1 := fun w => run_string_add_sum (P := Tryd.prog) w (mkB c) { data := #[10, 92, 32, 78, 111, 32, 110, 101, 119, 108, 105, 110, 101, 32, 97, 116, 32, 101, 110, 100, 32, 111, 102, 32, 102, 105, 108, 101, 10] } (by rw [mkB_size, e2]; omega)
    have e3 : mkB c ++ { data := #[10, 92, 32, 78, 111, 32, 110, 101, 119, 108, 105, 110, 101, 32, 97, 116, 32, 101, 110, 100, 32, 111, 102, 32, 102, 105, 108, 101, 10] } = mkB cn := by rw [hcn]; exact mkB_append c nonl
    rw [e3] at s1
    clear e2 e3
    clear hcz hcn
    go_wp2_with fail
    go_ret
    rw [HDL2.out, ← HCN.out]
    refine ⟨_, rfl, ⟨some ⟨g, 0, none⟩, cv1, by simp, by rw [List.length_map, List.length_append]; simp; omega, fun j x hj => ⟨g, 0, rfl, ?_⟩⟩, HB.out.setCell (p := ⟨g, ls.length, none⟩) hbg _, fun _ _ _ he => by injection he with _ h2 h3; omega⟩
    rw [List.getElem?_map] at hj
    obtain ⟨y, hy, rfl⟩ := Option.map_eq_some_iff.1 hj
    rw [Nat.zero_add]
    refine (set_cells HGH.out _ (by rw [HCS.out]; omega) j).trans ?_
    by_cases hjl : j = ls.length
    · rw [if_pos hjl]
      subst hjl
      rw [List.getElem?_append_right (Nat.le_refl _), Nat.sub_self] at hy
      simp at hy
      rw [hy]
    · rw [if_neg hjl]
      have : j < ls.length := by
        have := (List.getElem?_eq_some_iff.1 hy).1
        simp at this
        omega
      rw [List.getElem?_append_left this] at hy
      exact HCE.out j y hy
end Go.Proofs.YtncjclmhdhimdaaDoor
