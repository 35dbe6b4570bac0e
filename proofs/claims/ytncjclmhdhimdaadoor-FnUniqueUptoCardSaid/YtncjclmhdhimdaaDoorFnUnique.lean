/- FnUnique: of the lines that stand once in both texts as many stay as can, in order. -/
import Derived.Test.YtncjclmhdhimdaaDoorDFwd
import Derived.Test.YtncjclmhdhimdaaDoorDUnique
namespace Go.Proofs.YtncjclmhdhimdaaDoor
open Go.RowKit

set_option maxRecDepth 100000 in
set_option maxHeartbeats 4000000 in
theorem fnUnique_any (s r : ByteArray) (W : World) (h0 : s.size ≤ 1048576) (h1 : r.size ≤ 1048576) (htab : Lib.TabIs Tryd.prog W "internal/strconv.uint64pow10" .u64 Lib.pow10Tab) :
    Calls Tryd.prog 12 #[.string s, .string r] W fun e w' => e = .returned (.bool true) ∧ Below W.heap.size W w' := by
  obtain ⟨a, rfl⟩ : ∃ a, s = mkB a := ⟨s.data.toList, rfl⟩
  obtain ⟨b, rfl⟩ : ∃ a, r = mkB a := ⟨r.data.toList, rfl⟩
  rw [mkB_size] at h0 h1
  have HT := Lib.hid htab
  clear htab
  go_enter Tryd.func12, Tryd.ntmps12
  by_cases hab : a = b
  · subst hab
    go_wp2_with fail
    go_ret
    exact ⟨rfl, Below.refl _ _⟩
  · have n1 := str_ne2 hab
    have HAB := Lib.hid hab
    clear hab
    go_wp2_with fail
    refine (short_any a b W (by omega) (by omega)).mono ?_
    rintro e1 w1 ⟨sh, rfl, hb1, hsh⟩
    have HB1 := Lib.hid hb1
    have HSH := Lib.hid hsh
    clear hb1 hsh
    cases sh with
    | false =>
      go_wp2_with fail
      go_ret
      exact ⟨rfl, HB1.out⟩
    | true =>
      obtain ⟨hla, hlb, hsz⟩ := HSH.out.1 rfl
      clear HSH
      go_wp2_with fail
      refine (read_any a b w1 HAB.out h0 h1 (by omega) (by omega) (Lib.tabBelow_of_tabIs HT.out w1 HB1.out)).mono ?_
      rintro e2 w2 ⟨v, us, B, cs, F, rfl, hR, hb2, hall⟩
      have HB2 : Hid (Below W.heap.size W w2) := Lib.hid (HB1.out.trans (hb2.mono HB1.out.size))
      have HR := Lib.hid hR
      have HALL := Lib.hid hall
      have hrow := hR.row
      obtain ⟨pv, cv, rfl⟩ := ownsRow_slice hrow
      obtain ⟨ok1, hcl⟩ := ck_ok hall (by omega) (by omega) h0 h1
      have OK := Lib.hid ok1
      clear hR hb2 hall hrow ok1 n1
      have Z1 : Hid ((mkB a).size = a.length) := Lib.hid (mkB_size a)
      have Z2 : Hid ((mkB b).size = b.length) := Lib.hid (mkB_size b)
      have g0 := Lib.hid h0
      have g1 := Lib.hid h1
      have gla := Lib.hid hla
      have glb := Lib.hid hlb
      have gcl := Lib.hid hcl
      clear h0 h1 hla hlb hcl
      go_wp2_with fail
      refine (lines_any (mkB a) w2 (by rw [Z1.out]; have := g0.out; omega)).mono ?_
      rw [mkB_toList]
      rintro e3 w3 ⟨v3, rfl, hrow3, hb3⟩
      obtain ⟨p3, c3, rfl⟩ := ownsRow_slice hrow3
      have HLS3 := Lib.hid (ls_row hrow3)
      have HR3 := Lib.hid (HR.out.below hb3)
      have HB3 : Hid (Below W.heap.size W w3) := Lib.hid (HB2.out.trans (hb3.mono HB2.out.size))
      clear hrow3 hb3
      go_wp2_with fail
      refine (lines_any (mkB b) w3 (by rw [Z2.out]; have := g1.out; omega)).mono ?_
      rw [mkB_toList]
      rintro e4 w4 ⟨v4, rfl, hrow4, hb4⟩
      obtain ⟨p4, c4, rfl⟩ := ownsRow_slice hrow4
      have HLA4 := Lib.hid (HLS3.out.below hb4)
      have HLB4 := Lib.hid (ls_row hrow4)
      have HR4 := Lib.hid (HR3.out.below hb4)
      have HB4 : Hid (Below W.heap.size W w4) := Lib.hid (HB3.out.trans (hb4.mono HB3.out.size))
      clear hrow4 hb4
      go_wp2_with fail
      refine (apply_any (lns a) (lns b) F w4 p3 c3 false pv cv (apc_of HALL.out.good (by have := gla.out; omega) (by have := glb.out; omega) (by have := g0.out; omega) (by have := g1.out; omega) HLA4.out) cs us B (by rw [show cs.map (memC false) = cs from List.map_id cs]; exact HR4.out) (fun c hc => (OK.out c hc).n) (by have := gcl.out; omega) HALL.out.good.cov).mono ?_
      rintro e5 w5 ⟨vo, bs, rfl, hrow5, hst5, hb5⟩
      obtain ⟨p5, c5, rfl⟩ := ownsRow_slice hrow5
      have HLA5 := Lib.hid (HLA4.out.below hb5)
      have HLB5 := Lib.hid (HLB4.out.below hb5)
      have HST5 := Lib.hid hst5
      have HB5 : Hid (Below W.heap.size W w5) := Lib.hid (HB4.out.trans (hb5.mono HB4.out.size))
      clear hrow5 hb5 hst5
      go_wp2_with fail
      refine (unique_any (lns a) (lns b) w5 p3 p4 c3 c4 HLA5.out HLB5.out (by have := gla.out; have := glb.out; omega) (by have := gla.out; have := glb.out; omega) (lns_small (by have := g0.out; have := g1.out; omega)) (lns_small (by have := g0.out; have := g1.out; omega))).mono ?_
      rintro e6 w6 ⟨v6, rfl, hrow6, hb6⟩
      obtain ⟨p6, c6, rfl⟩ := ownsRow_slice hrow6
      obtain ⟨L, hL⟩ : ∃ L, L = places (lns a) (lns b) := ⟨_, rfl⟩
      obtain ⟨fl, hfl⟩ : ∃ fl, fl = flags F := ⟨_, rfl⟩
      have hst6 := (hb6.block bs (lt_of_heap HST5.out)).trans HST5.out
      have hgood := HALL.out.good
      have hLn : L.length = (lns a).length := by rw [hL]; simp [places]
      have hfn : fl.length = (lns a).length := by
        rw [hfl, flags_len]
        obtain ⟨e1, e2⟩ := hgood.path.ends
        omega
      have hbL : ∀ m ∈ L, -1 ≤ m ∧ m ≤ 1000000 := by
        intro m hm
        rw [hL] at hm
        have h1 := places_bound m hm
        have := gla.out
        have := glb.out
        omega
      have hmost : ∀ r, Long L r → chosen L fl L.length = r := fun r hr => by
        rw [hL, hfl]
        exact hgood.most (by rw [← hL]; exact hr)
      have hrow7 : w6.ownsRow w5.heap.size 3 1 (.slice p6 L.length c6) L.length (L.map fun m => .int .i64 m) := by rw [hL] at hLn ⊢; rw [hLn]; exact hrow6
      rw [← hfl] at hst6
      rw [← hLn] at hfn ⊢
      have hn2 : L.length ≤ 10000 := by rw [hLn]; have := gla.out; have := glb.out; omega
      obtain ⟨n, hn⟩ : ∃ n, n = L.length := ⟨_, rfl⟩
      rw [← hn] at hrow7 hfn hn2 hmost ⊢
      have HN := Lib.hid hn
      have HPL := Lib.hid hrow7
      have HST6 := Lib.hid hst6
      have HFN := Lib.hid hfn
      have HBL := Lib.hid hbL
      have HMOST := Lib.hid hmost
      have HB6 : Hid (Below W.heap.size W w6) := Lib.hid (HB5.out.trans (hb6.mono HB5.out.size))
      clear hrow6 hrow7 hb6 hst6 hL hfl hLn hfn hn hbL hmost hgood
      go_wp2_with fail
      go_loop [13, 53] (fun q i => ∃ k : Nat, k ≤ n ∧ q = .int .i64 ((chosen L fl k : Nat) : Int) ∧ i = .int .i64 (k : Int)) (fun _ i => n - (intOf i).toNat)
      case atStart => exact ⟨0, Nat.zero_le _, by simp [chosen], rfl⟩
      case round =>
        obtain ⟨k, hk, rfl, rfl⟩ := hrel
        obtain ⟨q, hq⟩ : ∃ q, q = chosen L fl k := ⟨_, rfl⟩
        have hqb : q ≤ 10000 := by
          rw [hq]
          unfold chosen
          refine Nat.le_trans List.countP_le_length ?_
          rw [List.length_range]
          omega
        rw [← hq]
        by_cases hlt : k < n
        · obtain ⟨m, hm⟩ : ∃ m, L[k]? = some m := ⟨_, List.getElem?_eq_getElem (by rw [← HN.out]; exact hlt)⟩
          obtain ⟨b1, hb1⟩ : ∃ b, fl[k]? = some b := ⟨_, List.getElem?_eq_getElem (by rw [HFN.out]; exact hlt)⟩
          obtain ⟨gp, rfl, _, _, hc⟩ := ownsRow_at HPL.out (by omega)
          have x0 := hc k (.int .i64 m) (by rw [List.getElem?_map, hm]; rfl)
          have y0 := cell_at (o := k) HST6.out (.bool b1) (by simp [bools, hb1])
          have hs := chosen_succ L fl k
          rw [← hq, hm, hb1] at hs
          have hbm := HBL.out m (List.mem_of_getElem? hm)
          obtain ⟨hm1, hm2⟩ := hbm
          have HS := Lib.hid hs
          clear hc hm hb1 hs hq
          by_cases h0m : 0 ≤ m
          · cases b1 with
            | true =>
              have E : Hid (chosen L fl (k + 1) = q + 1) := Lib.hid (by rw [HS.out]; simp [h0m])
              go_wp2_with fail
              exact ⟨⟨k + 1, hlt, by rw [E.out]; go_num, by go_num⟩, by simp [intOf]; omega⟩
            | false =>
              have E : Hid (chosen L fl (k + 1) = q) := Lib.hid (by rw [HS.out]; simp)
              go_wp2_with fail
              exact ⟨⟨k + 1, hlt, by rw [E.out], by go_num⟩, by simp [intOf]; omega⟩
          · have E : Hid (chosen L fl (k + 1) = q) := Lib.hid (by rw [HS.out]; simp [h0m])
            go_wp2_with fail
            exact ⟨⟨k + 1, hlt, by rw [E.out], by go_num⟩, by simp [intOf]; omega⟩
        · obtain rfl : k = n := by omega
          have HQ := Lib.hid hq
          clear hq
          go_wp2_with fail
          refine (show Calls _ _ _ w6 (LongPost L w6) from by
            rw [HN.out]
            exact longest_any L w6 p6 c6 (fun i m hi => by
              obtain ⟨gp, rfl, _, _, hc⟩ := ownsRow_at HPL.out (by rw [HN.out]; have := (List.getElem?_eq_some_iff.1 hi).1; omega)
              exact ⟨gp, 0, rfl, by rw [Nat.zero_add]; exact hc i _ (by rw [List.getElem?_map, hi]; rfl)⟩) (by rw [← HN.out]; omega) HBL.out).mono ?_
          rintro e7 w7 ⟨r, rfl, hlong, hb7⟩
          have hqr : q = r := by rw [HQ.out]; exact HMOST.out r hlong
          subst hqr
          have HB7 : Hid (Below W.heap.size W w7) := Lib.hid (HB6.out.trans (hb7.mono HB6.out.size))
          clear hlong hb7
          go_wp2_with fail
          go_ret
          exact ⟨rfl, HB7.out⟩
end Go.Proofs.YtncjclmhdhimdaaDoor
