/- FnBackward: what a diff says, turned round, makes the old text of the new one. -/
import Derived.Test.YtncjclmhdhimdaaDoorDFwd
namespace Go.Proofs.YtncjclmhdhimdaaDoor
open Go.RowKit

theorem memC_sw (cs : List Hk) : (cs.map swC).map (memC true) = cs := by
  rw [List.map_map]
  exact (List.map_congr_left fun c _ => swC_swC c).trans (List.map_id cs)
set_option maxRecDepth 100000 in
set_option maxHeartbeats 4000000 in
theorem fnBackward_any (s r : ByteArray) (W : World) (h0 : s.size ≤ 1048576) (h1 : r.size ≤ 1048576) (htab : Lib.TabIs Tryd.prog W "internal/strconv.uint64pow10" .u64 Lib.pow10Tab) :
    Calls Tryd.prog 5 #[.string s, .string r] W fun e w' => e = .returned (.bool true) ∧ Below W.heap.size W w' := by
  obtain ⟨a, rfl⟩ : ∃ a, s = mkB a := ⟨s.data.toList, rfl⟩
  obtain ⟨b, rfl⟩ : ∃ a, r = mkB a := ⟨r.data.toList, rfl⟩
  rw [mkB_size] at h0 h1
  have HT := Lib.hid htab
  clear htab
  go_enter Tryd.func5, Tryd.ntmps5
  by_cases hab : a = b
  · subst hab
    go_wp2_with fail
    go_ret
    exact ⟨rfl, Below.refl _ _⟩
  · have n1 := str_ne2 hab
    have HAB := Lib.hid hab
    clear hab
    go_wp2_with fail
    refine (short_any a b W (by omega) (by omega)).mono ?_
    rintro e1 w1 ⟨sh, rfl, hb1, hsh⟩
    have HB1 := Lib.hid hb1
    have HSH := Lib.hid hsh
    clear hb1 hsh
    cases sh with
    | false =>
      go_wp2_with fail
      go_ret
      exact ⟨rfl, HB1.out⟩
    | true =>
      obtain ⟨hla, hlb, hsz⟩ := HSH.out.1 rfl
      clear HSH
      go_wp2_with fail
      refine (read_any a b w1 HAB.out h0 h1 (by omega) (by omega) (Lib.tabBelow_of_tabIs HT.out w1 HB1.out)).mono ?_
      rintro e2 w2 ⟨v, us, B, cs, F, rfl, hR, hb2, hall⟩
      have HB2 : Hid (Below W.heap.size W w2) := Lib.hid (HB1.out.trans (hb2.mono HB1.out.size))
      have HR := Lib.hid hR
      have HALL := Lib.hid hall
      have hrow := hR.row
      obtain ⟨pv, cv, rfl⟩ := ownsRow_slice hrow
      obtain ⟨ok1, hcl⟩ := ck_ok hall (by omega) (by omega) h0 h1
      have OK := Lib.hid ok1
      clear hR hb2 hall hrow ok1 n1
      have Z1 : Hid ((mkB a).size = a.length) := Lib.hid (mkB_size a)
      have Z2 : Hid ((mkB b).size = b.length) := Lib.hid (mkB_size b)
      have g0 := Lib.hid h0
      have g1 := Lib.hid h1
      have gla := Lib.hid hla
      have glb := Lib.hid hlb
      have gcl := Lib.hid hcl
      clear h0 h1 hla hlb hcl
      go_wp2_with fail
      refine (lines_any (mkB b) w2 (by rw [Z2.out]; have := g1.out; omega)).mono ?_
      rw [mkB_toList]
      rintro e3 w3 ⟨v3, rfl, hrow3, hb3⟩
      obtain ⟨p3, c3, rfl⟩ := ownsRow_slice hrow3
      have hLS3 := ls_row hrow3
      have HLS3 := Lib.hid hLS3
      have HR3 := Lib.hid (HR.out.below hb3)
      have HB3 : Hid (Below W.heap.size W w3) := Lib.hid (HB2.out.trans (hb3.mono HB2.out.size))
      clear hrow3 hb3 hLS3
      obtain ⟨n, hn⟩ : ∃ n, n = cs.length := ⟨_, rfl⟩
      have HN : Hid (n = (cs.map swC).length) := Lib.hid (by rw [hn, List.length_map])
      have gcn : Hid (n ≤ 20000) := Lib.hid (by rw [hn]; exact gcl.out)
      rw [← hn] at HR3 ⊢
      clear hn
      go_wp2_with fail
      refine (show Calls _ _ _ w3 (ApPost (lns b) (lns a) (swS F) w3) from by
        rw [HN.out]
        exact apply_any (lns b) (lns a) (swS F) w3 p3 c3 true pv cv (apc_of (cs := cs.map swC) HALL.out.good.sw (by have := glb.out; omega) (by have := gla.out; omega) (by have := g1.out; omega) (by have := g0.out; omega) HLS3.out) (cs.map swC) us B (by rw [memC_sw, ← HN.out]; exact HR3.out) (fun c hc => by
          obtain ⟨d, hd, rfl⟩ := List.mem_map.1 hc
          rw [show (swC d).ops.length = d.ops.length from List.length_map ..]
          exact (OK.out d hd).n) (by rw [← HN.out]; have := gcn.out; omega) HALL.out.good.sw.cov).mono ?_
      rintro e4 w4 ⟨vo, bs, rfl, hrow4, _, hb4⟩
      obtain ⟨p4, c4, rfl⟩ := ownsRow_slice hrow4
      have HLS4 := Lib.hid (ls_row hrow4)
      have HB4 : Hid (Below W.heap.size W w4) := Lib.hid (HB3.out.trans (hb4.mono HB3.out.size))
      clear hrow4 hb4
      go_wp2_with fail
      refine (lines_any (mkB a) w4 (by rw [Z1.out]; have := g0.out; omega)).mono ?_
      rw [mkB_toList]
      rintro e5 w5 ⟨v5, rfl, hrow5, hb5⟩
      obtain ⟨p5, c5, rfl⟩ := ownsRow_slice hrow5
      have HLS5 := Lib.hid (ls_row hrow5)
      have HLS6 := Lib.hid (HLS4.out.below hb5)
      have HB5 : Hid (Below W.heap.size W w5) := Lib.hid (HB4.out.trans (hb5.mono HB4.out.size))
      clear hrow5 hb5
      go_wp2_with fail
      refine (same_any (lns a) w5 p4 p5 c4 c5 HLS6.out HLS5.out (by have := gla.out; omega) (lns_small (by have := g0.out; omega))).mono ?_
      rintro e6 w6 ⟨rfl, hb6⟩
      have HB6 : Hid (Below W.heap.size W w6) := Lib.hid (HB5.out.trans (hb6.mono HB5.out.size))
      clear hb6
      go_wp2_with fail
      go_ret
      exact ⟨rfl, HB6.out⟩
end Go.Proofs.YtncjclmhdhimdaaDoor
