/- FnNoNewline: a last line without a newline is told from one that has it. -/
import Derived.Test.YtncjclmhdhimdaaDoorDFwd
namespace Go.Proofs.YtncjclmhdhimdaaDoor
open Go.RowKit

theorem mkB_nl (a : List UInt8) : mkB a ++ ByteArray.mk #[10] = mkB (a ++ [10]) := by
  apply ByteArray.ext
  simp [mkB, ByteArray.data_append]
theorem lns_nl {a : List UInt8} : (lns (a ++ [10])).length ≤ (lns a).length + 1 := by
  unfold lns
  rw [spl_snoc]
  unfold stp
  split
  · by_cases h2 : (spl a).2 = []
    · simp [h2]
    · simp [h2]
  · by_cases h2 : (spl a).2 = []
    · simp [h2]
    · simp [h2]
set_option maxRecDepth 100000 in
set_option maxHeartbeats 4000000 in
theorem fnNoNewline_any (s : ByteArray) (W : World) (h0 : s.size ≤ 1048576) (htab : Lib.TabIs Tryd.prog W "internal/strconv.uint64pow10" .u64 Lib.pow10Tab) :
    Calls Tryd.prog 9 #[.string s] W fun e w' => e = .returned (.bool true) ∧ Below W.heap.size W w' := by
  obtain ⟨a, rfl⟩ : ∃ a, s = mkB a := ⟨s.data.toList, rfl⟩
  rw [mkB_size] at h0
  have HT := Lib.hid htab
  clear htab
  go_enter Tryd.func9, Tryd.ntmps9
  have g0 := Lib.hid h0
  clear h0
  go_wp2_with fail
  refine (short_any a a W (by have := g0.out; omega) (by have := g0.out; omega)).mono ?_
  rintro e1 w1 ⟨sh, rfl, hb1, hsh⟩
  have HB1 := Lib.hid hb1
  have HSH := Lib.hid hsh
  clear hb1 hsh
  cases sh with
  | false =>
    go_wp2_with fail
    go_ret
    exact ⟨rfl, HB1.out⟩
  | true =>
    obtain ⟨hla, _, hsz⟩ := HSH.out.1 rfl
    have gla := Lib.hid hla
    have gsz := Lib.hid hsz
    clear HSH hla hsz
    have e3 : mkB a ++ { data := #[10] } = mkB (a ++ [10]) := mkB_nl a
    have s1 := fun w => run_string_add_sum (P := Tryd.prog) w (mkB a) { data := #[10] } (by have : ({ data := #[10] } : ByteArray).size = 1 := rfl; rw [mkB_size, this]; have := g0.out; omega)
    rw [e3] at s1
    clear e3
    by_cases hz : a = []
    · subst hz
      have e0 : ((mkB []).toList == []) = true := by rw [ByteArray.toList_eq, mkB_toList]; rfl
      go_wp2_with fail
      go_ret
      exact ⟨rfl, HB1.out⟩
    · have e0 : ((mkB a).toList == []) = false := by rw [ByteArray.toList_eq, mkB_toList]; cases a with | nil => exact absurd rfl hz | cons _ _ => rfl
      obtain ⟨a1, c, ha⟩ : ∃ a1 c, a = a1 ++ [c] := ⟨a.dropLast, a.getLast hz, (List.dropLast_concat_getLast hz).symm⟩
      obtain ⟨n, hn⟩ : ∃ n, n = a1.length := ⟨_, rfl⟩
      have Z : (mkB a).size = n + 1 := by subst ha hn; rw [mkB_size]; simp
      have hlt : n < (mkB a).size := by omega
      have f0 : (mkB a)[n] = c := by
        subst ha hn
        rw [show (mkB (a1 ++ [c]))[a1.length]'hlt = (a1 ++ [c])[a1.length]'(by simp) from rfl]
        simp
      have hnn : n ≤ 1048576 := by have := g0.out; subst ha hn; simp at this; omega
      have HNE : Hid (a ≠ a ++ [10]) := Lib.hid (by intro h; have := congrArg List.length h; simp at this)
      have HNL := Lib.hid (lns_nl (a := a))
      clear ha hn hz
      by_cases hc : c = 10
      · subst hc
        go_wp2_with fail
        go_ret
        exact ⟨rfl, HB1.out⟩
      · have fc : ((c.toNat : Int) == 10) = false := by
          simp only [beq_eq_false_iff_ne]
          intro h
          exact hc (UInt8.toNat_inj.1 (by show c.toNat = 10; omega))
        clear hc
        obtain ⟨b, hb⟩ : ∃ b, b = a ++ [10] := ⟨_, rfl⟩
        rw [← hb] at HNE HNL s1
        have g1 : Hid (b.length ≤ 1048576) := Lib.hid (by rw [hb]; have := gsz.out; simp; omega)
        have glb : Hid ((lns b).length ≤ 401) := Lib.hid (by have := gla.out; have := HNL.out; omega)
        clear hb
        go_wp2_with fail
        refine (read_any a b w1 HNE.out g0.out g1.out (by have := gla.out; omega) (by have := glb.out; omega) (Lib.tabBelow_of_tabIs HT.out w1 HB1.out)).mono ?_
        rintro e2 w2 ⟨v, us, B, cs, F, rfl, hR, hb2, hall⟩
        have HB2 : Hid (Below W.heap.size W w2) := Lib.hid (HB1.out.trans (hb2.mono HB1.out.size))
        have HR := Lib.hid hR
        have HALL := Lib.hid hall
        have hrow := hR.row
        obtain ⟨pv, cv, rfl⟩ := ownsRow_slice hrow
        obtain ⟨ok1, hcl⟩ := ck_ok hall (by have := gla.out; omega) (by have := glb.out; omega) g0.out g1.out
        have OK := Lib.hid ok1
        have gcl := Lib.hid hcl
        clear hR hb2 hall hrow ok1 hcl f0 fc e0 hlt
        have Z1 : Hid ((mkB a).size = a.length) := Lib.hid (mkB_size a)
        have Z2 : Hid ((mkB b).size = b.length) := Lib.hid (mkB_size b)
        go_wp2_with fail
        refine (lines_any (mkB a) w2 (by rw [Z1.out]; have := g0.out; omega)).mono ?_
        rw [mkB_toList]
        rintro e3 w3 ⟨v3, rfl, hrow3, hb3⟩
        obtain ⟨p3, c3, rfl⟩ := ownsRow_slice hrow3
        have hLS3 := ls_row hrow3
        have HLS3 := Lib.hid hLS3
        have HR3 := Lib.hid (HR.out.below hb3)
        have HB3 : Hid (Below W.heap.size W w3) := Lib.hid (HB2.out.trans (hb3.mono HB2.out.size))
        clear hrow3 hb3 hLS3
        go_wp2_with fail
        refine (apply_any (lns a) (lns b) F w3 p3 c3 false pv cv (apc_of HALL.out.good (by have := gla.out; omega) (by have := glb.out; omega) (by have := g0.out; omega) (by have := g1.out; omega) HLS3.out) cs us B (by rw [show cs.map (memC false) = cs from List.map_id cs]; exact HR3.out) (fun c hc => (OK.out c hc).n) (by have := gcl.out; omega) HALL.out.good.cov).mono ?_
        rintro e4 w4 ⟨vo, bs, rfl, hrow4, _, hb4⟩
        obtain ⟨p4, c4, rfl⟩ := ownsRow_slice hrow4
        have HLS4 := Lib.hid (ls_row hrow4)
        have HB4 : Hid (Below W.heap.size W w4) := Lib.hid (HB3.out.trans (hb4.mono HB3.out.size))
        clear hrow4 hb4
        go_wp2_with fail
        refine (lines_any (mkB b) w4 (by rw [Z2.out]; have := g1.out; omega)).mono ?_
        rw [mkB_toList]
        rintro e5 w5 ⟨v5, rfl, hrow5, hb5⟩
        obtain ⟨p5, c5, rfl⟩ := ownsRow_slice hrow5
        have HLS5 := Lib.hid (ls_row hrow5)
        have HLS6 := Lib.hid (HLS4.out.below hb5)
        have HB5 : Hid (Below W.heap.size W w5) := Lib.hid (HB4.out.trans (hb5.mono HB4.out.size))
        clear hrow5 hb5
        go_wp2_with fail
        refine (same_any (lns b) w5 p4 p5 c4 c5 HLS6.out HLS5.out (by have := glb.out; omega) (lns_small (by have := g1.out; omega))).mono ?_
        rintro e6 w6 ⟨rfl, hb6⟩
        have HB6 : Hid (Below W.heap.size W w6) := Lib.hid (HB5.out.trans (hb6.mono HB5.out.size))
        clear hb6
        go_wp2_with fail
        go_ret
        exact ⟨rfl, HB6.out⟩
end Go.Proofs.YtncjclmhdhimdaaDoor
