/- FnApart: hunks rise, and do not overlap. -/
import Derived.Test.YtncjclmhdhimdaaDoorDLawKit
import Derived.Deep.LoopGhost
namespace Go.Proofs.YtncjclmhdhimdaaDoor
open Go.RowKit

set_option maxRecDepth 100000 in
set_option maxHeartbeats 4000000 in
theorem fnApart_any (s r : ByteArray) (W : World) (h0 : s.size ≤ 1048576) (h1 : r.size ≤ 1048576) (htab : Lib.TabIs Tryd.prog W "internal/strconv.uint64pow10" .u64 Lib.pow10Tab) :
    Calls Tryd.prog 4 #[.string s, .string r] W fun e w' => e = .returned (.bool true) ∧ Below W.heap.size W w' := by
  obtain ⟨a, rfl⟩ : ∃ a, s = mkB a := ⟨s.data.toList, rfl⟩
  obtain ⟨b, rfl⟩ : ∃ a, r = mkB a := ⟨r.data.toList, rfl⟩
  rw [mkB_size] at h0 h1
  have HT := Lib.hid htab
  clear htab
  go_enter Tryd.func4, Tryd.ntmps4
  by_cases hab : a = b
  · subst hab
    go_wp2_with fail
    go_ret
    exact ⟨rfl, Below.refl _ _⟩
  · have n1 := str_ne2 hab
    have HAB := Lib.hid hab
    clear hab
    go_wp2_with fail
    refine (short_any a b W (by omega) (by omega)).mono ?_
    rintro e1 w1 ⟨sh, rfl, hb1, hsh⟩
    have HB1 := Lib.hid hb1
    have HSH := Lib.hid hsh
    clear hb1 hsh
    cases sh with
    | false =>
      go_wp2_with fail
      go_ret
      exact ⟨rfl, HB1.out⟩
    | true =>
      obtain ⟨hla, hlb, hsz⟩ := HSH.out.1 rfl
      clear HSH
      go_wp2_with fail
      refine (read_any a b w1 HAB.out h0 h1 (by omega) (by omega) (Lib.tabBelow_of_tabIs HT.out w1 HB1.out)).mono ?_
      rintro e2 w2 ⟨v, us, B, cs, F, rfl, hR, hb2, hall⟩
      have HB2 : Hid (Below W.heap.size W w2) := Lib.hid (HB1.out.trans (hb2.mono HB1.out.size))
      have HR := Lib.hid hR
      have HALL := Lib.hid hall
      have hrow := hR.row
      obtain ⟨pv, cv, rfl⟩ := ownsRow_slice hrow
      obtain ⟨ok1, hcl⟩ := ck_ok hall (by omega) (by omega) h0 h1
      have OK := Lib.hid ok1
      clear hR hb2 hall hrow ok1 n1
      go_wp2_with fail
      go_loopg [7, 8, 30] cs.length (fun g x y i wr => ∃ (k A T : Nat) (F' : Sc (List UInt8)), k ≤ cs.length ∧ i = .int .i64 (k : Int) ∧ cs.length - k ≤ g ∧ x = .int .i64 (A : Int) ∧ y = .int .i64 (T : Int) ∧ A ≤ 3000000 ∧ T ≤ 3000000 ∧ Cov A T (cs.drop k) F' ∧ Below w2.heap.size w2 wr)
      case atStart => exact ⟨0, 0, 0, F, by omega, rfl, by omega, rfl, rfl, by omega, by omega, HALL.out.good.cov, Below.refl _ _⟩
      case round =>
        obtain ⟨k, A, T, F', hk, rfl, hg, rfl, rfl, hA, hT, hcov, hb⟩ := hrel
        have HCOV := Lib.hid hcov
        have HBL := Lib.hid hb
        clear hcov hb
        by_cases hlt : k < cs.length
        · obtain ⟨c, hc⟩ : ∃ c, cs[k]? = some c := ⟨_, List.getElem?_eq_getElem hlt⟩
          obtain ⟨gh, pu, cu, rfl, x0, x1, x2, hlines⟩ := (HR.out.below HBL.out).get hc
          have hck := OK.out c (List.mem_of_getElem? hc)
          have hdrop : cs.drop k = c :: cs.drop (k + 1) := by
            rw [List.drop_eq_getElem_cons hlt]
            congr 1
            exact (List.getElem?_eq_some_iff.1 hc).2
          have hcv := HCOV.out
          rw [hdrop] at hcv
          obtain ⟨Gk, F2, _, _, hx, hy, hcv2⟩ := hcv
          have HCV2 := Lib.hid hcv2
          have hax : A ≤ c.x := by omega
          have hay : T ≤ c.y := by omega
          have b1 := hck.x
          have b2 := hck.y
          have b3 := hck.n
          have HLS := Lib.hid hlines
          have HC := Lib.hid hc
          have HSG := Lib.hid fun (o : UInt8 × List UInt8) (ho : o ∈ c.ops) => HALL.out.signs (List.mem_of_getElem? hc) ho
          obtain ⟨cx, hcx⟩ : ∃ x, x = c.x := ⟨_, rfl⟩
          obtain ⟨cy, hcy⟩ : ∃ x, x = c.y := ⟨_, rfl⟩
          rw [← hcx] at x0 hax b1
          rw [← hcy] at x1 hay b2
          have HCX := Lib.hid hcx
          have HCY := Lib.hid hcy
          have n1 : ¬ (cx : Int) < (A : Int) := by omega
          have n2 : ¬ (cy : Int) < (T : Int) := by omega
          clear hc hck hdrop hx hy hcv2 hlines hcx hcy HCOV
          go_upto_region 10 with fail
          go_quiet (fail)
          obtain ⟨wq, hwq⟩ : ∃ wq, wq = (wr.alloc (.cells #[.int .i64 (cx : Int), .int .i64 (cy : Int), .slice pu c.ops.length cu] 28)).drewN nq := ⟨_, rfl⟩
          have HBQ : Hid (Below wr.heap.size wr wq) := Lib.hid (by rw [hwq]; exact (((Below.refl _ _).alloc (Nat.le_refl _) _).trans ((below_dN _ nq).mono (by simp))))
          have y2 : wq.cell? ⟨wr.heap.size, 2, none⟩ = some (.slice pu c.ops.length cu) := by rw [hwq]; exact cell_at (o := 2) (hk_new wr cx cy _) _ rfl
          rw [← hwq]
          clear hwq x0 x1 x2 n1 n2
          obtain ⟨m, hm⟩ : ∃ m, m = c.ops.length := ⟨_, rfl⟩
          rw [← hm] at y2 b3 ⊢
          have HM := Lib.hid hm
          clear hm
          go_wp2_with fail
          go_loop [7, 8, 51] (fun x y i => ∃ j : Nat, j ≤ m ∧ i = .int .i64 (j : Int) ∧ x = .int .i64 ((cx + cX (c.ops.take j) : Nat) : Int) ∧ y = .int .i64 ((cy + cY (c.ops.take j) : Nat) : Int)) (fun _ _ i => m - (intOf i).toNat)
          case atStart => exact ⟨0, by omega, rfl, by simp [cX_nil], by simp [cY_nil]⟩
          case round =>
            obtain ⟨j, hj, rfl, rfl, rfl⟩ := hrel
            have g1 : cX (c.ops.take j) ≤ 1000000 := Nat.le_trans List.countP_le_length (by rw [List.length_take]; omega)
            have g2 : cY (c.ops.take j) ≤ 1000000 := Nat.le_trans List.countP_le_length (by rw [List.length_take]; omega)
            obtain ⟨p1, hp1⟩ : ∃ p, p = cx + cX (c.ops.take j) := ⟨_, rfl⟩
            obtain ⟨p2, hp2⟩ : ∃ p, p = cy + cY (c.ops.take j) := ⟨_, rfl⟩
            have q1 : p1 ≤ 2000000 := by omega
            have q2 : p2 ≤ 2000000 := by omega
            rw [← hp1, ← hp2]
            have HP1 := Lib.hid hp1
            have HP2 := Lib.hid hp2
            clear hp1 hp2 g1 g2
            by_cases hlj : j < m
            · obtain ⟨o, ho⟩ : ∃ o, c.ops[j]? = some o := ⟨_, List.getElem?_eq_getElem (by have := HM.out; omega)⟩
              obtain ⟨gu, rfl, hc⟩ := HLS.out j o ho
              have hcq := (HBQ.out.cell (p := ⟨gu, j, none⟩) (lt_of_cell hc)).trans hc
              have e1 := cX_take ho
              have e2 := cY_take ho
              have hsg := HSG.out o (List.mem_of_getElem? ho)
              have hs0 := sign_size o
              obtain ⟨l, hl⟩ : ∃ l, l = o.1 :: o.2 := ⟨_, rfl⟩
              rw [← hl] at hcq hs0
              have hz : 0 < (mkB l).size := by omega
              have f0 : (mkB l)[0] = o.1 := by subst hl; rfl
              have E1 : Hid (cx + cX (c.ops.take (j + 1)) = p1 + if o.1 = 43 then 0 else 1) := Lib.hid (by rw [e1, HP1.out]; omega)
              have E2 : Hid (cy + cY (c.ops.take (j + 1)) = p2 + if o.1 = 45 then 0 else 1) := Lib.hid (by rw [e2, HP2.out]; omega)
              clear hc e1 e2 hl hs0 ho
              rcases hsg with hs | hs | hs <;> rw [hs] at f0 E1 E2 <;>
                (go_wp2_with fail
                 exact ⟨⟨j + 1, hlj, by go_num, by rw [E1.out]; go_num, by rw [E2.out]; go_num⟩, by simp [intOf]; omega⟩)
            · obtain rfl : j = m := by omega
              have HT2 : Hid (c.ops.take j = c.ops) := Lib.hid (by rw [HM.out]; exact List.take_length)
              have hk1 : k + 1 ≤ cs.length := hlt
              have EP1 : Hid (c.x + cX c.ops = p1) := Lib.hid (by rw [HP1.out, HT2.out, HCX.out])
              have EP2 : Hid (c.y + cY c.ops = p2) := Lib.hid (by rw [HP2.out, HT2.out, HCY.out])
              have HB4 : Hid (Below w2.heap.size w2 wq) := Lib.hid (HBL.out.trans (HBQ.out.mono HBL.out.size))
              go_wp2_with fail
              go_roundg (cs.length - (k + 1))
              case rel => exact ⟨k + 1, p1, p2, F2, hk1, by go_num, by omega, rfl, rfl, by omega, by omega, by rw [← EP1.out, ← EP2.out]; exact HCV2.out, HB4.out⟩
              case measure => omega
        · have HB3 : Hid (Below W.heap.size W wr) := Lib.hid (HB2.out.trans (HBL.out.mono HB2.out.size))
          go_wp2_with fail
          go_ret
          exact ⟨rfl, HB3.out⟩
end Go.Proofs.YtncjclmhdhimdaaDoor
