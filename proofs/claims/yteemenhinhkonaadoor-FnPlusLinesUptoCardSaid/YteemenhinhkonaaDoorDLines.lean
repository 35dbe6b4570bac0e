/- The reference's Lines and the package's splitAfter and lines. -/
import Derived.Test.YteemenhinhkonaaDoorProg
import Derived.Test.YteemenhinhkonaaDoorApp
import Derived.Test.YteemenhinhkonaaDoorDStr
namespace Go.Proofs.YteemenhinhkonaaDoor
open Go.RowKit

theorem info_line : (Tryd.prog.info? 9).map (fun i => (i.zero, i.size, i.bytes)) = some (some (.string ByteArray.empty), 1, 16) := by kernel_rfl
def strs (ls : List (List UInt8)) : List Value := ls.map fun l => .string (mkB l)
theorem strs_snoc (ls : List (List UInt8)) (l : List UInt8) : strs (ls ++ [l]) = strs ls ++ [.string (mkB l)] := by simp [strs]
theorem strs_len (ls : List (List UInt8)) : (strs ls).length = ls.length := by simp [strs]
/- a row of lines of the call's own -/
def LRow (w wr : World) (v : Value) (ls : List (List UInt8)) : Prop := wr.ownsRow w.heap.size 9 1 v ls.length (strs ls) ∧ Below w.heap.size w wr
theorem LRow.snoc {w wr w3 : World} {v v' : Value} {ls : List (List UInt8)} {l : List UInt8} {o : Obj} (h : LRow w wr v ls) (ho : w3.ownsRow w.heap.size 9 1 v' (ls.length + 1) (strs ls ++ [.string (mkB l)])) (hg : (wr.alloc o).grownBy w3 v.ownBlock) : LRow w w3 v' (ls ++ [l]) := by
  have hg' : wr.grownBy w3 v.ownBlock := (World.grownBy_alloc wr o _).trans hg
  refine ⟨by rw [strs_snoc, List.length_append]; exact ho, h.2.grown hg' h.2.size (fun q hq => (h.1.lt q hq).1)⟩
def LRel (w : World) (l : List UInt8) (v fr i : Value) (wr : World) : Prop := ∃ k : Nat, k ≤ l.length ∧ i = .int .i64 k ∧ fr = .int .i64 ((k - (spl (l.take k)).2.length : Nat) : Int) ∧ LRow w wr v (spl (l.take k)).1
theorem spl_take (s : ByteArray) (k : Nat) (h : k < s.size) : s.data.toList.take (k + 1) = s.data.toList.take k ++ [s[k]] := by
  rw [List.take_add_one]
  congr 1
  rw [List.getElem?_eq_getElem (by simpa using h)]
  rfl
def LPost (ls : List (List UInt8)) (w : World) (en : Ending) (w' : World) : Prop := ∃ v, en = .returned v ∧ LRow w w' v ls

set_option maxHeartbeats 2000000 in
theorem lines_any (s : ByteArray) (w : World) (hs : s.size ≤ 1099511627776) : Calls Tryd.prog 55 #[.string s] w (LPost (lns s.data.toList) w) := by
  obtain ⟨i0, hi, hz0, hz1, hz2⟩ := info_parts info_line
  obtain ⟨l, hl⟩ : ∃ l, l = s.data.toList := ⟨_, rfl⟩
  have hsz : l.length = s.size := by rw [hl]; simp
  have HL := Lib.hid hl
  have HS := Lib.hid hsz
  rw [← hl]
  clear hl hsz
  go_enter Tryd.func55, Tryd.ntmps55
  go_wp2_with fail
  go_loopw [3, 4, 9] (fun v fr i wr => LRel w l v fr i wr) (fun _ _ i _ => s.size - (intOf i).toNat)
  case atStart =>
    refine ⟨0, Nat.zero_le _, rfl, rfl, ?_, (Below.refl _ _).alloc (Nat.le_refl _) _⟩
    have h := World.ownsRow_made (base := w.heap.size) (e := 9) (size := 1) w #[] 0 (by simp) (by unfold maxLen; omega) rfl
    simpa [spl, strs] using h
  case round =>
    obtain ⟨k, hk, rfl, rfl, hrow⟩ := hrel
    have hks : k ≤ s.size := by have := HS.out; omega
    have hln := spl_len (l.take k)
    rw [List.length_take, Nat.min_eq_left hk] at hln
    have HR := Lib.hid hrow
    obtain ⟨pv, cv, rfl⟩ := ownsRow_slice hrow.1
    clear hrow
    by_cases hlt : k < s.size
    · have hst := spl_take s k hlt
      rw [← HL.out] at hst
      have HST := Lib.hid hst
      clear hst
      by_cases h10 : s[k].toNat = 10
      · have hpc : ((l.take (k + 1)).drop (k - (spl (l.take k)).2.length)) = (spl (l.take k)).2 ++ [s[k]] := by
          rw [HST.out]
          rcases spl_cut l k with h | h
          · rw [List.drop_append_of_le_length (by simp; omega), h]
          · omega
        have HPC := Lib.hid hpc
        have hz : s[k] = 10 := UInt8.toNat_inj.1 h10
        have HSP : Hid (spl (l.take (k + 1)) = ((spl (l.take k)).1 ++ [(spl (l.take k)).2 ++ [s[k]]], [])) := Lib.hid (by rw [HST.out, spl_snoc]; unfold stp; rw [if_pos hz])
        clear hpc hz
        obtain ⟨fr, hfr⟩ : ∃ fr : Nat, fr = k - (spl (l.take k)).2.length := ⟨_, rfl⟩
        rw [← hfr] at HPC ⊢
        have hfk : fr ≤ k := by omega
        clear hfr
        obtain ⟨lc, hlc⟩ : ∃ lc, lc = (spl (l.take k)).2 ++ [s[k]] := ⟨_, rfl⟩
        rw [← hlc] at HPC HSP
        clear hlc
        have sl : ∀ wx, (Instr.slice 9 (.string s) (some (.int .i64 (fr : Int))) (some (.int .i64 ((k : Int) + 1))) none).run Tryd.prog wx = .ok (.string (mkB lc)) wx := fun wx => by
          have := run_slice_string (P := Tryd.prog) wx 9 s .i64 .i64 (fr : Int) ((k : Int) + 1) Tryd.underlying9 (by omega) (by omega) (by omega)
          rw [this, extract_mkB, ← HL.out, show ((k : Int) + 1).toNat = k + 1 by omega, show ((fr : Int)).toNat = fr by omega, HPC.out]
        go_wp2_with (at_builtin; refine wpList_append_own_at _ rfl _ _ 41 rfl w.heap.size 9 i0 _ 1 16 Tryd.underlying41 hi hz0 hz1 hz2 rfl (by decide) _ _ _ rfl (HR.out.1.alloc _) ⟨_, 0, none⟩ 1 1 [.string (mkB lc)] rfl rfl (cell_one_new _ _ _) (by simp [Value.oneCell']) (by unfold maxLen; omega) (by omega) (by have := HR.out.2.size; simp; omega) ?_; intro v' w3 hown3 hg3 _ hat3)
        exact ⟨⟨k + 1, by have := HS.out; omega, by go_num, by rw [HSP.out]; simp, by rw [HSP.out]; exact HR.out.snoc hown3 hg3⟩, by simp [intOf]; omega⟩
      · have hz : ¬ s[k] = 10 := fun h => h10 (by rw [h]; rfl)
        have HSP : Hid (spl (l.take (k + 1)) = ((spl (l.take k)).1, (spl (l.take k)).2 ++ [s[k]])) := Lib.hid (by rw [HST.out, spl_snoc]; unfold stp; rw [if_neg hz])
        clear hz
        have hb10 : ((s[k].toNat : Int) == 10) = false := by simp; omega
        go_wp2_with fail
        exact ⟨⟨k + 1, by have := HS.out; omega, by go_num, by rw [HSP.out]; simp, by rw [HSP.out]; exact HR.out⟩, by simp [intOf]; omega⟩
    · have hke : k = l.length := by have := HS.out; omega
      have HT : Hid (l.take k = l) := Lib.hid (by rw [hke]; exact List.take_length)
      rw [HT.out] at HR hln ⊢
      obtain ⟨ls, hls⟩ : ∃ ls, ls = (spl l).1 := ⟨_, rfl⟩
      obtain ⟨c, hc⟩ : ∃ c, c = (spl l).2 := ⟨_, rfl⟩
      rw [← hls] at HR hln ⊢
      rw [← hc] at hln ⊢
      have HLN : Hid (lns l = ls ++ if c = [] then [] else [c]) := Lib.hid (by unfold lns; rw [hls, hc])
      have hcut : (l.take k).drop (k - c.length) = c := by
        rcases spl_cut l k with h | h
        · rw [HT.out, ← hc] at h
          rw [HT.out]
          exact h
        · omega
      rw [HT.out] at hcut
      have HC := Lib.hid hcut
      have hks2 : k = s.size := by have := HS.out; omega
      subst hks2
      clear hls hc hcut hke HT
      by_cases hcz : c.length = 0
      · have HE : Hid (lns l = ls) := Lib.hid (by rw [HLN.out, List.length_eq_zero_iff.1 hcz]; simp)
        rw [hcz]
        go_wp2_with fail
        go_ret
        rw [HE.out]
        exact ⟨_, rfl, HR.out⟩
      · have HE : Hid (lns l = ls ++ [c]) := Lib.hid (by rw [HLN.out, if_neg (fun h => hcz (by rw [h]; rfl))])
        obtain ⟨fr, hfr⟩ : ∃ fr : Nat, fr = s.size - c.length := ⟨_, rfl⟩
        rw [← hfr] at HC ⊢
        have hfk : fr < s.size := by omega
        clear hfr
        have sl : ∀ wx, (Instr.slice 9 (.string s) (some (.int .i64 (fr : Int))) none none).run Tryd.prog wx = .ok (.string (mkB c)) wx := fun wx => by
          have := run_slice_string_from_if (P := Tryd.prog) wx 9 s .i64 (fr : Int) Tryd.underlying9
          rw [this, if_pos (by omega), extract_mkB, ← HL.out, ← HS.out, List.take_length, show ((fr : Int)).toNat = fr by omega, HC.out]
        go_wp2_with (at_builtin; refine wpList_append_own_at _ rfl _ _ 41 rfl w.heap.size 9 i0 _ 1 16 Tryd.underlying41 hi hz0 hz1 hz2 rfl (by decide) _ _ _ rfl (HR.out.1.alloc _) ⟨_, 0, none⟩ 1 1 [.string (mkB c)] rfl rfl (cell_one_new _ _ _) (by simp [Value.oneCell']) (by unfold maxLen; omega) (by omega) (by have := HR.out.2.size; simp; omega) ?_; intro v' w3 hown3 hg3 _ hat3)
        go_ret
        rw [HE.out]
        exact ⟨_, rfl, HR.out.snoc hown3 hg3⟩
end Go.Proofs.YteemenhinhkonaaDoor
