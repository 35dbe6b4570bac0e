/- FnBalance: a diff and the one the other way put in and take out as many lines more. -/
import Derived.Test.YtncjclmhdhimdaaDoorDLawKit
import Derived.Deep.LoopGhost
namespace Go.Proofs.YtncjclmhdhimdaaDoor
open Go.RowKit

def bal (F : Sc (List UInt8)) : Int := (cY F : Int) - (cX F : Int)
theorem bal_app (F G : Sc (List UInt8)) : bal (F ++ G) = bal F + bal G := by unfold bal; rw [cX_app, cY_app]; omega
theorem bal_keep {F : Sc (List UInt8)} (h : allK F) : bal F = 0 := by unfold bal; rw [cX_keep h, cY_keep h]; omega
def bals (cs : List Hk) : Int := (cs.map fun c => bal c.ops).sum
theorem cov_bal : ∀ {cs : List (Ck (List UInt8))} {i j : Nat} {F : Sc (List UInt8)}, Cov i j cs F → bals cs = bal F := by
  intro cs
  induction cs with
  | nil => intro i j F h; exact (bal_keep (show allK F from h)).symm
  | cons c cs ih =>
    intro i j F h
    obtain ⟨G, F', hG, rfl, _, _, h⟩ := h
    rw [bal_app, bal_app, bal_keep hG, ← ih h]
    simp [bals]
theorem bals_take {cs : List Hk} {k : Nat} {c : Hk} (h : cs[k]? = some c) : bals (cs.take (k + 1)) = bals (cs.take k) + bal c.ops := by
  unfold bals
  rw [List.take_add_one, h, List.map_append, List.sum_append]
  simp
theorem bal_take {F : Sc (List UInt8)} {j : Nat} {o : UInt8 × List UInt8} (h : F[j]? = some o) (hs : o.1 = 32 ∨ o.1 = 45 ∨ o.1 = 43) : bal (F.take (j + 1)) = bal (F.take j) + if o.1 = 43 then 1 else if o.1 = 45 then -1 else 0 := by
  unfold bal
  rw [cX_take h, cY_take h]
  rcases hs with h1 | h1 | h1 <;> rw [h1] <;> simp <;> omega
theorem bal_range (F : Sc (List UInt8)) : -(F.length : Int) ≤ bal F ∧ bal F ≤ F.length := by
  unfold bal
  have h1 : cX F ≤ F.length := List.countP_le_length
  have h2 : cY F ≤ F.length := List.countP_le_length
  omega
theorem bals_range : ∀ (cs : List Hk) (n : Nat), (∀ c ∈ cs, c.ops.length ≤ n) → -((cs.length * n : Nat) : Int) ≤ bals cs ∧ bals cs ≤ ((cs.length * n : Nat) : Int) := by
  intro cs n
  induction cs with
  | nil => intro _; simp [bals]
  | cons c cs ih =>
    intro h
    have h1 := ih fun d hd => h d (List.mem_cons_of_mem _ hd)
    have h2 := bal_range c.ops
    have h3 := h c (List.mem_cons_self ..)
    have h4 : bals (c :: cs) = bal c.ops + bals cs := by simp [bals]
    rw [h4, List.length_cons, Nat.add_mul, Nat.one_mul]
    omega
theorem sum_all {a b : List UInt8} {cs : List Hk} {F : Sc (List UInt8)} (h : DAll a b cs F) : bals cs = ((lns b).length : Int) - ((lns a).length : Int) := by
  rw [cov_bal h.good.cov]
  obtain ⟨e1, e2⟩ := h.good.path.ends
  unfold bal
  omega

set_option maxRecDepth 100000 in
set_option maxHeartbeats 8000000 in
theorem fnBalance_any (s r : ByteArray) (W : World) (h0 : s.size ≤ 1048576) (h1 : r.size ≤ 1048576) (htab : Lib.TabIs Tryd.prog W "internal/strconv.uint64pow10" .u64 Lib.pow10Tab) :
    Calls Tryd.prog 6 #[.string s, .string r] W fun e w' => e = .returned (.bool true) ∧ Below W.heap.size W w' := by
  obtain ⟨a, rfl⟩ : ∃ a, s = mkB a := ⟨s.data.toList, rfl⟩
  obtain ⟨b, rfl⟩ : ∃ a, r = mkB a := ⟨r.data.toList, rfl⟩
  rw [mkB_size] at h0 h1
  have HT := Lib.hid htab
  clear htab
  go_enter Tryd.func6, Tryd.ntmps6
  by_cases hab : a = b
  · subst hab
    go_wp2_with fail
    go_ret
    exact ⟨rfl, Below.refl _ _⟩
  · have n1 := str_ne2 hab
    have HAB := Lib.hid hab
    clear hab
    go_wp2_with fail
    refine (short_any a b W (by omega) (by omega)).mono ?_
    rintro e1 w1 ⟨sh, rfl, hb1, hsh⟩
    have HB1 := Lib.hid hb1
    have HSH := Lib.hid hsh
    clear hb1 hsh
    cases sh with
    | false =>
      go_wp2_with fail
      go_ret
      exact ⟨rfl, HB1.out⟩
    | true =>
      obtain ⟨hla, hlb, hsz⟩ := HSH.out.1 rfl
      clear HSH
      go_wp2_with fail
      refine (read_any a b w1 HAB.out h0 h1 (by omega) (by omega) (Lib.tabBelow_of_tabIs HT.out w1 HB1.out)).mono ?_
      rintro e2 w2 ⟨v, us, B, cs, F, rfl, hR, hb2, hall⟩
      have HB2 : Hid (Below W.heap.size W w2) := Lib.hid (HB1.out.trans (hb2.mono HB1.out.size))
      have HR := Lib.hid hR
      have HALL := Lib.hid hall
      have hrow := hR.row
      obtain ⟨pv, cv, rfl⟩ := ownsRow_slice hrow
      obtain ⟨ok1, hcl⟩ := ck_ok hall (by omega) (by omega) h0 h1
      have OK := Lib.hid ok1
      clear hR hb2 hall hrow ok1 n1
      go_wp2_with fail
      refine (read_any b a w2 (fun h => HAB.out h.symm) h1 h0 (by omega) (by omega) (Lib.tabBelow_of_tabIs HT.out w2 HB2.out)).mono ?_
      rintro e3 w3 ⟨v', us', B', cs', F', rfl, hR', hb3, hall'⟩
      have HB3 : Hid (Below W.heap.size W w3) := Lib.hid (HB2.out.trans (hb3.mono HB2.out.size))
      have HRX := Lib.hid (HR.out.below hb3)
      have HRY := Lib.hid hR'
      have HALLY := Lib.hid hall'
      have hrow' := hR'.row
      obtain ⟨pv', cv', rfl⟩ := ownsRow_slice hrow'
      obtain ⟨ok2, hcl'⟩ := ck_ok hall' (by omega) (by omega) h1 h0
      have OKY := Lib.hid ok2
      clear hR' hb3 hall' hrow' ok2
      go_wp2_with fail
      go_loopg [9, 42] cs.length (fun g z x wr => ∃ k : Nat, k ≤ cs.length ∧ x = .int .i64 (k : Int) ∧ cs.length - k ≤ g ∧ z = .int .i64 (bals (cs.take k)) ∧ Below w3.heap.size w3 wr)
      case atStart => exact ⟨0, by omega, rfl, by omega, by simp [bals], Below.refl _ _⟩
      case round =>
        obtain ⟨k, hk, rfl, hg, rfl, hb⟩ := hrel
        have HBL := Lib.hid hb
        have hr0 := bals_range (cs.take k) 1000000 fun c hc => (OK.out c (List.mem_of_mem_take hc)).n
        have hr1 : -30000000000 ≤ bals (cs.take k) ∧ bals (cs.take k) ≤ 30000000000 := by
          rw [List.length_take] at hr0
          omega
        clear hr0 hb
        by_cases hlt : k < cs.length
        · obtain ⟨c, hc⟩ : ∃ c, cs[k]? = some c := ⟨_, List.getElem?_eq_getElem hlt⟩
          obtain ⟨gh, pu, cu, rfl, x0, x1, x2, hlines⟩ := (HRX.out.below HBL.out).get hc
          have b3 := (OK.out c (List.mem_of_getElem? hc)).n
          have HLS := Lib.hid hlines
          have HSG := Lib.hid fun (o : UInt8 × List UInt8) (ho : o ∈ c.ops) => HALL.out.signs (List.mem_of_getElem? hc) ho
          have HBT := Lib.hid (bals_take hc)
          obtain ⟨cx, hcx⟩ : ∃ x, x = c.x := ⟨_, rfl⟩
          obtain ⟨cy, hcy⟩ : ∃ x, x = c.y := ⟨_, rfl⟩
          rw [← hcx] at x0
          rw [← hcy] at x1
          obtain ⟨m, hm⟩ : ∃ m, m = c.ops.length := ⟨_, rfl⟩
          rw [← hm] at x2 b3
          have HM := Lib.hid hm
          obtain ⟨S0, hS0⟩ : ∃ S0, S0 = bals (cs.take k) := ⟨_, rfl⟩
          rw [← hS0] at hr1 HBT ⊢
          clear hc hlines hcx hcy hm hS0
          go_upto_region 9 with fail
          obtain ⟨wq, hwq⟩ : ∃ wq, wq = wr.alloc (.cells #[.int .i64 (cx : Int), .int .i64 (cy : Int), .slice pu m cu] 28) := ⟨_, rfl⟩
          have HBQ : Hid (Below wr.heap.size wr wq) := Lib.hid (by rw [hwq]; exact (Below.refl _ _).alloc (Nat.le_refl _) _)
          have y2 : wq.cell? ⟨wr.heap.size, 2, none⟩ = some (.slice pu m cu) := by rw [hwq]; exact cell_at (o := 2) (hk_new wr cx cy _) _ rfl
          rw [← hwq]
          clear hwq x0 x1 x2
          go_wp2_with fail
          go_loop [9, 49] (fun z x => ∃ j : Nat, j ≤ m ∧ x = .int .i64 (j : Int) ∧ z = .int .i64 (S0 + bal (c.ops.take j))) (fun _ x => m - (intOf x).toNat)
          case atStart => exact ⟨0, by omega, rfl, by simp [bal, cX_nil, cY_nil]⟩
          case round =>
            obtain ⟨j, hj, rfl, rfl⟩ := hrel
            have hr2 := bal_range (c.ops.take j)
            have hr3 : -1000000 ≤ bal (c.ops.take j) ∧ bal (c.ops.take j) ≤ 1000000 := by
              rw [List.length_take] at hr2
              omega
            obtain ⟨p, hp⟩ : ∃ p, p = S0 + bal (c.ops.take j) := ⟨_, rfl⟩
            have hr4 : -40000000000 ≤ p ∧ p ≤ 40000000000 := by omega
            obtain ⟨hr5, hr6⟩ := hr4
            rw [← hp]
            have HP := Lib.hid hp
            clear hp hr2 hr3
            by_cases hlj : j < m
            · obtain ⟨o, ho⟩ : ∃ o, c.ops[j]? = some o := ⟨_, List.getElem?_eq_getElem (by have := HM.out; omega)⟩
              obtain ⟨gu, rfl, hc⟩ := HLS.out j o ho
              have hcq := (HBQ.out.cell (p := ⟨gu, j, none⟩) (lt_of_cell hc)).trans hc
              have hs0 := sign_size o
              have hsg := HSG.out o (List.mem_of_getElem? ho)
              have E : Hid (S0 + bal (c.ops.take (j + 1)) = p + if o.1 = 43 then 1 else if o.1 = 45 then -1 else 0) := Lib.hid (by rw [bal_take ho hsg, HP.out]; omega)
              obtain ⟨l, hl⟩ : ∃ l, l = o.1 :: o.2 := ⟨_, rfl⟩
              rw [← hl] at hcq hs0
              have hz : 0 < (mkB l).size := by omega
              have f0 : (mkB l)[0] = o.1 := by subst hl; rfl
              clear hc hl hs0 ho
              rcases hsg with hs | hs | hs <;> rw [hs] at f0 E <;>
                (go_wp2_with fail
                 exact ⟨⟨j + 1, hlj, by go_num, by rw [E.out]; first | rfl | simp | (simp; omega)⟩, by simp [intOf]; omega⟩)
            · obtain rfl : j = m := by omega
              have HT2 : Hid (c.ops.take j = c.ops) := Lib.hid (by rw [HM.out]; exact List.take_length)
              have hk1 : k + 1 ≤ cs.length := hlt
              have HB4 : Hid (Below w3.heap.size w3 wq) := Lib.hid (HBL.out.trans (HBQ.out.mono HBL.out.size))
              go_wp2_with fail
              go_roundg (cs.length - (k + 1))
              case rel => exact ⟨k + 1, hk1, by go_num, by omega, by rw [HBT.out, HP.out, HT2.out], HB4.out⟩
              case measure => omega
        · obtain rfl : k = cs.length := by omega
          rw [List.take_length] at hr1 ⊢
          have HBF : Hid (Below W.heap.size W wr) := Lib.hid (HB3.out.trans (HBL.out.mono HB3.out.size))
          have HRY2 := Lib.hid (HRY.out.below HBL.out)
          have hq1 := hr1
          obtain ⟨wf, hwf⟩ : ∃ wf, wf = wr := ⟨_, rfl⟩
          rw [← hwf] at HBF HRY2 ⊢
          clear hwf HBL hg hr1
          go_wp2_with fail
          go_loopg [10, 67] cs'.length (fun g z x wr => ∃ k : Nat, k ≤ cs'.length ∧ x = .int .i64 (k : Int) ∧ cs'.length - k ≤ g ∧ z = .int .i64 (bals (cs'.take k)) ∧ Below wf.heap.size wf wr)
          case atStart => exact ⟨0, by omega, rfl, by omega, by simp [bals], Below.refl _ _⟩
          case round =>
            obtain ⟨k, hk, rfl, hg, rfl, hb⟩ := hrel
            have HBL := Lib.hid hb
            have hr0 := bals_range (cs'.take k) 1000000 fun c hc => (OKY.out c (List.mem_of_mem_take hc)).n
            have hr1 : -30000000000 ≤ bals (cs'.take k) ∧ bals (cs'.take k) ≤ 30000000000 := by
              rw [List.length_take] at hr0
              omega
            clear hr0 hb
            by_cases hlt : k < cs'.length
            · obtain ⟨c, hc⟩ : ∃ c, cs'[k]? = some c := ⟨_, List.getElem?_eq_getElem hlt⟩
              obtain ⟨gh, pu, cu, rfl, x0, x1, x2, hlines⟩ := (HRY2.out.below HBL.out).get hc
              have b3 := (OKY.out c (List.mem_of_getElem? hc)).n
              have HLS := Lib.hid hlines
              have HSG := Lib.hid fun (o : UInt8 × List UInt8) (ho : o ∈ c.ops) => HALLY.out.signs (List.mem_of_getElem? hc) ho
              have HBT := Lib.hid (bals_take hc)
              obtain ⟨cx, hcx⟩ : ∃ x, x = c.x := ⟨_, rfl⟩
              obtain ⟨cy, hcy⟩ : ∃ x, x = c.y := ⟨_, rfl⟩
              rw [← hcx] at x0
              rw [← hcy] at x1
              obtain ⟨m, hm⟩ : ∃ m, m = c.ops.length := ⟨_, rfl⟩
              rw [← hm] at x2 b3
              have HM := Lib.hid hm
              obtain ⟨S0, hS0⟩ : ∃ S0, S0 = bals (cs'.take k) := ⟨_, rfl⟩
              rw [← hS0] at hr1 HBT ⊢
              clear hc hlines hcx hcy hm hS0
              go_upto_region 21 with fail
              obtain ⟨wq, hwq⟩ : ∃ wq, wq = wr.alloc (.cells #[.int .i64 (cx : Int), .int .i64 (cy : Int), .slice pu m cu] 28) := ⟨_, rfl⟩
              have HBQ : Hid (Below wr.heap.size wr wq) := Lib.hid (by rw [hwq]; exact (Below.refl _ _).alloc (Nat.le_refl _) _)
              have y2 : wq.cell? ⟨wr.heap.size, 2, none⟩ = some (.slice pu m cu) := by rw [hwq]; exact cell_at (o := 2) (hk_new wr cx cy _) _ rfl
              rw [← hwq]
              clear hwq x0 x1 x2
              go_wp2_with fail
              go_loop [10, 74] (fun z x => ∃ j : Nat, j ≤ m ∧ x = .int .i64 (j : Int) ∧ z = .int .i64 (S0 + bal (c.ops.take j))) (fun _ x => m - (intOf x).toNat)
              case atStart => exact ⟨0, by omega, rfl, by simp [bal, cX_nil, cY_nil]⟩
              case round =>
                obtain ⟨j, hj, rfl, rfl⟩ := hrel
                have hr2 := bal_range (c.ops.take j)
                have hr3 : -1000000 ≤ bal (c.ops.take j) ∧ bal (c.ops.take j) ≤ 1000000 := by
                  rw [List.length_take] at hr2
                  omega
                obtain ⟨p, hp⟩ : ∃ p, p = S0 + bal (c.ops.take j) := ⟨_, rfl⟩
                have hr4 : -40000000000 ≤ p ∧ p ≤ 40000000000 := by omega
                obtain ⟨hr5, hr6⟩ := hr4
                rw [← hp]
                have HP := Lib.hid hp
                clear hp hr2 hr3
                by_cases hlj : j < m
                · obtain ⟨o, ho⟩ : ∃ o, c.ops[j]? = some o := ⟨_, List.getElem?_eq_getElem (by have := HM.out; omega)⟩
                  obtain ⟨gu, rfl, hc⟩ := HLS.out j o ho
                  have hcq := (HBQ.out.cell (p := ⟨gu, j, none⟩) (lt_of_cell hc)).trans hc
                  have hs0 := sign_size o
                  have hsg := HSG.out o (List.mem_of_getElem? ho)
                  have E : Hid (S0 + bal (c.ops.take (j + 1)) = p + if o.1 = 43 then 1 else if o.1 = 45 then -1 else 0) := Lib.hid (by rw [bal_take ho hsg, HP.out]; omega)
                  obtain ⟨l, hl⟩ : ∃ l, l = o.1 :: o.2 := ⟨_, rfl⟩
                  rw [← hl] at hcq hs0
                  have hz : 0 < (mkB l).size := by omega
                  have f0 : (mkB l)[0] = o.1 := by subst hl; rfl
                  clear hc hl hs0 ho
                  rcases hsg with hs | hs | hs <;> rw [hs] at f0 E <;>
                    (go_wp2_with fail
                     exact ⟨⟨j + 1, hlj, by go_num, by rw [E.out]; first | rfl | simp | (simp; omega)⟩, by simp [intOf]; omega⟩)
                · obtain rfl : j = m := by omega
                  have HT2 : Hid (c.ops.take j = c.ops) := Lib.hid (by rw [HM.out]; exact List.take_length)
                  have hk1 : k + 1 ≤ cs'.length := hlt
                  have HB4 : Hid (Below wf.heap.size wf wq) := Lib.hid (HBL.out.trans (HBQ.out.mono HBL.out.size))
                  go_wp2_with fail
                  go_roundg (cs'.length - (k + 1))
                  case rel => exact ⟨k + 1, hk1, by go_num, by omega, by rw [HBT.out, HP.out, HT2.out], HB4.out⟩
                  case measure => omega
            · obtain rfl : k = cs'.length := by omega
              rw [List.take_length] at hr1 ⊢
              have HBE : Hid (Below W.heap.size W wr) := Lib.hid (HBF.out.trans (HBL.out.mono HBF.out.size))
              have e1 := sum_all HALL.out
              have e2 := sum_all HALLY.out
              obtain ⟨S1, hS1⟩ : ∃ S, S = bals cs := ⟨_, rfl⟩
              obtain ⟨S2, hS2⟩ : ∃ S, S = bals cs' := ⟨_, rfl⟩
              rw [← hS1] at e1 hq1 ⊢
              rw [← hS2] at e2 hr1 ⊢
              have E1 := Lib.hid e1
              have E2 := Lib.hid e2
              clear hS1 hS2 e1 e2
              go_wp2_with fail
              refine (lines_any (mkB b) wr (by rw [mkB_size]; omega)).mono ?_
              rw [mkB_toList]
              rintro e4 w5 ⟨v5, rfl, hrow5, hb5⟩
              obtain ⟨p5, c5, rfl⟩ := ownsRow_slice hrow5
              have HB5 : Hid (Below W.heap.size W w5) := Lib.hid (HBE.out.trans (hb5.mono HBE.out.size))
              clear hrow5 hb5
              go_wp2_with fail
              refine (lines_any (mkB a) w5 (by rw [mkB_size]; omega)).mono ?_
              rw [mkB_toList]
              rintro e5 w6 ⟨v6, rfl, hrow6, hb6⟩
              obtain ⟨p6, c6, rfl⟩ := ownsRow_slice hrow6
              have HB6 : Hid (Below W.heap.size W w6) := Lib.hid (HB5.out.trans (hb6.mono HB5.out.size))
              clear hrow6 hb6
              obtain ⟨nb, hnb⟩ : ∃ n, n = (lns b).length := ⟨_, rfl⟩
              obtain ⟨na, hna⟩ : ∃ n, n = (lns a).length := ⟨_, rfl⟩
              rw [← hnb] at E1 E2 hlb ⊢
              rw [← hna] at E1 E2 hla ⊢
              have f1 : (nb : Int) - (na : Int) = S1 := by have := E1.out; omega
              have f2 : -S1 = S2 := by have := E1.out; have := E2.out; omega
              clear hnb hna
              go_wp2_with fail
              go_ret
              exact ⟨rfl, HB6.out⟩
end Go.Proofs.YtncjclmhdhimdaaDoor
