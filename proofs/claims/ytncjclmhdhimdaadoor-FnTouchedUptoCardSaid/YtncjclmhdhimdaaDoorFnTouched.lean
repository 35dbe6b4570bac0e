/- FnTouched: each hunk changes something, and has at most three lines around that. -/
import Derived.Test.YtncjclmhdhimdaaDoorDLawKit
import Derived.Deep.LoopGhost
namespace Go.Proofs.YtncjclmhdhimdaaDoor
open Go.RowKit

def nk (F : Sc (List UInt8)) : Nat := F.countP fun o => o.1 != 32
theorem nk_zero {F : Sc (List UInt8)} : nk F = 0 ↔ allK F := by
  unfold nk allK
  rw [List.countP_eq_zero]
  exact ⟨fun h o ho => by simpa using h o ho, fun h o ho => by rw [h o ho]; decide⟩
theorem nk_snoc (F : Sc (List UInt8)) (o : UInt8 × List UInt8) : nk (F ++ [o]) = nk F + if o.1 = 32 then 0 else 1 := by
  unfold nk
  rw [List.countP_append, List.countP_cons, List.countP_nil]
  by_cases h : o.1 = 32 <;> simp [h]
theorem tl_snoc (F : Sc (List UInt8)) (o : UInt8 × List UInt8) : tlK (F ++ [o]) = if o.1 = 32 then tlK F + 1 else 0 := by
  unfold tlK hdK
  rw [List.reverse_append, List.reverse_singleton, List.singleton_append, List.takeWhile_cons]
  by_cases h : o.1 = 32 <;> simp [h]
theorem hd_snoc (F : Sc (List UInt8)) (o : UInt8 × List UInt8) : hdK (F ++ [o]) = if o.1 = 32 ∧ nk F = 0 then hdK F + 1 else hdK F := by
  by_cases h : allK F
  · have h0 := nk_zero.2 h
    by_cases ho : o.1 = 32
    · rw [if_pos ⟨ho, h0⟩, hdK_keep (allK_app.2 ⟨h, fun p hp => by rw [List.mem_singleton] at hp; rw [hp]; exact ho⟩), hdK_keep h]
      simp
    · rw [if_neg fun hh => ho hh.1]
      exact hdK_app_le fun p t he => by injection he with he _; rw [← he]; exact ho
  · rw [if_neg fun hh => h (nk_zero.1 hh.2)]
    exact hdK_more h
theorem take_snoc {F : Sc (List UInt8)} {j : Nat} {o : UInt8 × List UInt8} (h : F[j]? = some o) : F.take (j + 1) = F.take j ++ [o] := by rw [List.take_add_one, h]; rfl

set_option maxRecDepth 100000 in
set_option maxHeartbeats 4000000 in
theorem fnTouched_any (s r : ByteArray) (W : World) (h0 : s.size ≤ 1048576) (h1 : r.size ≤ 1048576) (htab : Lib.TabIs Tryd.prog W "internal/strconv.uint64pow10" .u64 Lib.pow10Tab) :
    Calls Tryd.prog 11 #[.string s, .string r] W fun e w' => e = .returned (.bool true) ∧ Below W.heap.size W w' := by
  obtain ⟨a, rfl⟩ : ∃ a, s = mkB a := ⟨s.data.toList, rfl⟩
  obtain ⟨b, rfl⟩ : ∃ a, r = mkB a := ⟨r.data.toList, rfl⟩
  rw [mkB_size] at h0 h1
  have HT := Lib.hid htab
  clear htab
  go_enter Tryd.func11, Tryd.ntmps11
  by_cases hab : a = b
  · subst hab
    go_wp2_with fail
    go_ret
    exact ⟨rfl, Below.refl _ _⟩
  · have n1 := str_ne2 hab
    have HAB := Lib.hid hab
    clear hab
    go_wp2_with fail
    refine (short_any a b W (by omega) (by omega)).mono ?_
    rintro e1 w1 ⟨sh, rfl, hb1, hsh⟩
    have HB1 := Lib.hid hb1
    have HSH := Lib.hid hsh
    clear hb1 hsh
    cases sh with
    | false =>
      go_wp2_with fail
      go_ret
      exact ⟨rfl, HB1.out⟩
    | true =>
      obtain ⟨hla, hlb, hsz⟩ := HSH.out.1 rfl
      clear HSH
      go_wp2_with fail
      refine (read_any a b w1 HAB.out h0 h1 (by omega) (by omega) (Lib.tabBelow_of_tabIs HT.out w1 HB1.out)).mono ?_
      rintro e2 w2 ⟨v, us, B, cs, F, rfl, hR, hb2, hall⟩
      have HB2 : Hid (Below W.heap.size W w2) := Lib.hid (HB1.out.trans (hb2.mono HB1.out.size))
      have HR := Lib.hid hR
      have HALL := Lib.hid hall
      have hrow := hR.row
      obtain ⟨pv, cv, rfl⟩ := ownsRow_slice hrow
      obtain ⟨ok1, hcl⟩ := ck_ok hall (by omega) (by omega) h0 h1
      have OK := Lib.hid ok1
      clear hR hb2 hall hrow ok1 n1
      go_wp2_with fail
      go_loopg [31] cs.length (fun g i wr => ∃ k : Nat, k ≤ cs.length ∧ i = .int .i64 (k : Int) ∧ cs.length - k ≤ g ∧ Below w2.heap.size w2 wr)
      case atStart => exact ⟨0, by omega, rfl, by omega, Below.refl _ _⟩
      case round =>
        obtain ⟨k, hk, rfl, hg, hb⟩ := hrel
        have HBL := Lib.hid hb
        clear hb
        by_cases hlt : k < cs.length
        · obtain ⟨c, hc⟩ : ∃ c, cs[k]? = some c := ⟨_, List.getElem?_eq_getElem hlt⟩
          obtain ⟨gh, pu, cu, rfl, x0, x1, x2, hlines⟩ := (HR.out.below HBL.out).get hc
          have hck := OK.out c (List.mem_of_getElem? hc)
          have b3 := hck.n
          have HLS := Lib.hid hlines
          have HTO := Lib.hid (HALL.out.out c (List.mem_of_getElem? hc))
          obtain ⟨cx, hcx⟩ : ∃ x, x = c.x := ⟨_, rfl⟩
          obtain ⟨cy, hcy⟩ : ∃ x, x = c.y := ⟨_, rfl⟩
          rw [← hcx] at x0
          rw [← hcy] at x1
          obtain ⟨m, hm⟩ : ∃ m, m = c.ops.length := ⟨_, rfl⟩
          rw [← hm] at x2 b3
          have HM := Lib.hid hm
          clear hc hck hlines hcx hcy hm
          go_upto_region 8 with fail
          obtain ⟨wq, hwq⟩ : ∃ wq, wq = wr.alloc (.cells #[.int .i64 (cx : Int), .int .i64 (cy : Int), .slice pu m cu] 28) := ⟨_, rfl⟩
          have HBQ : Hid (Below wr.heap.size wr wq) := Lib.hid (by rw [hwq]; exact (Below.refl _ _).alloc (Nat.le_refl _) _)
          have y2 : wq.cell? ⟨wr.heap.size, 2, none⟩ = some (.slice pu m cu) := by rw [hwq]; exact cell_at (o := 2) (hk_new wr cx cy _) _ rfl
          rw [← hwq]
          clear hwq x0 x1 x2
          go_wp2_with fail
          go_loop [9, 10, 11, 38] (fun h t n i => ∃ j : Nat, j ≤ m ∧ i = .int .i64 (j : Int) ∧ h = .int .i64 ((hdK (c.ops.take j) : Nat) : Int) ∧ t = .int .i64 ((tlK (c.ops.take j) : Nat) : Int) ∧ n = .int .i64 ((nk (c.ops.take j) : Nat) : Int)) (fun _ _ _ i => m - (intOf i).toNat)
          case atStart => exact ⟨0, by omega, rfl, by simp [hdK], by simp [tlK, hdK], by simp [nk]⟩
          case round =>
            obtain ⟨j, hj, rfl, rfl, rfl, rfl⟩ := hrel
            have g0 : (c.ops.take j).length ≤ 1000000 := by rw [List.length_take]; omega
            have g1 : hdK (c.ops.take j) ≤ 1000000 := Nat.le_trans (hdK_le _) g0
            have g2 : tlK (c.ops.take j) ≤ 1000000 := Nat.le_trans (by unfold tlK; exact hdK_le _) (by rw [List.length_reverse]; exact g0)
            have g3 : nk (c.ops.take j) ≤ 1000000 := Nat.le_trans List.countP_le_length g0
            obtain ⟨p1, hp1⟩ : ∃ p, p = hdK (c.ops.take j) := ⟨_, rfl⟩
            obtain ⟨p2, hp2⟩ : ∃ p, p = tlK (c.ops.take j) := ⟨_, rfl⟩
            obtain ⟨p3, hp3⟩ : ∃ p, p = nk (c.ops.take j) := ⟨_, rfl⟩
            rw [← hp1] at g1 ⊢
            rw [← hp2] at g2 ⊢
            rw [← hp3] at g3 ⊢
            have HP1 := Lib.hid hp1
            have HP2 := Lib.hid hp2
            have HP3 := Lib.hid hp3
            clear hp1 hp2 hp3 g0
            by_cases hlj : j < m
            · obtain ⟨o, ho⟩ : ∃ o, c.ops[j]? = some o := ⟨_, List.getElem?_eq_getElem (by have := HM.out; omega)⟩
              obtain ⟨gu, rfl, hc⟩ := HLS.out j o ho
              have hcq := (HBQ.out.cell (p := ⟨gu, j, none⟩) (lt_of_cell hc)).trans hc
              have hs0 := sign_size o
              have E1 : Hid (hdK (c.ops.take (j + 1)) = if o.1 = 32 ∧ p3 = 0 then p1 + 1 else p1) := Lib.hid (by rw [take_snoc ho, hd_snoc, ← HP1.out, ← HP3.out])
              have E2 : Hid (tlK (c.ops.take (j + 1)) = if o.1 = 32 then p2 + 1 else 0) := Lib.hid (by rw [take_snoc ho, tl_snoc, ← HP2.out])
              have E3 : Hid (nk (c.ops.take (j + 1)) = p3 + if o.1 = 32 then 0 else 1) := Lib.hid (by rw [take_snoc ho, nk_snoc, ← HP3.out])
              obtain ⟨l, hl⟩ : ∃ l, l = o.1 :: o.2 := ⟨_, rfl⟩
              rw [← hl] at hcq hs0
              have hz : 0 < (mkB l).size := by omega
              have f0 : (mkB l)[0] = o.1 := by subst hl; rfl
              obtain ⟨sg, hsg⟩ : ∃ sg, sg = o.1 := ⟨_, rfl⟩
              rw [← hsg] at f0 E1 E2 E3
              clear hc hl hs0 ho hsg
              by_cases hs : sg = 32
              · subst hs
                by_cases h3 : p3 = 0
                · subst h3
                  go_wp2_with fail
                  exact ⟨⟨j + 1, hlj, by go_num, by rw [E1.out]; simp, by rw [E2.out]; simp, by rw [E3.out]; simp⟩, by simp [intOf]; omega⟩
                · have n3 : ((p3 : Int) == 0) = false := beq_eq_false_iff_ne.2 (by omega)
                  go_wp2_with fail
                  exact ⟨⟨j + 1, hlj, by go_num, by rw [E1.out]; simp [h3], by rw [E2.out]; simp, by rw [E3.out]; simp⟩, by simp [intOf]; omega⟩
              · have n3 : ((p3 : Int) + 1 == 0) = false := beq_eq_false_iff_ne.2 (by omega)
                have ns : ((sg.toNat : Int) != 32) = true := by
                  rw [bne_iff_ne]
                  exact fun h => hs (UInt8.toNat_inj.1 (by simp; omega))
                go_wp2_with fail
                exact ⟨⟨j + 1, hlj, by go_num, by rw [E1.out]; simp [hs], by rw [E2.out]; simp [hs], by rw [E3.out]; simp [hs]⟩, by simp [intOf]; omega⟩
            · obtain rfl : j = m := by omega
              have HT2 : Hid (c.ops.take j = c.ops) := Lib.hid (by rw [HM.out]; exact List.take_length)
              obtain ⟨t1, t2, t3⟩ := HTO.out
              have e1 : p1 ≤ 3 := by rw [HP1.out, HT2.out]; exact t2
              have e2 : p2 ≤ 3 := by rw [HP2.out, HT2.out]; exact t3
              have e3 : ((p3 : Int) == 0) = false := beq_eq_false_iff_ne.2 fun h => t1 (nk_zero.1 (by rw [← HT2.out, ← HP3.out]; omega))
              have hk1 : k + 1 ≤ cs.length := hlt
              have HB4 : Hid (Below w2.heap.size w2 wq) := Lib.hid (HBL.out.trans (HBQ.out.mono HBL.out.size))
              clear t1 t2 t3
              go_wp2_with fail
              go_roundg (cs.length - (k + 1))
              case rel => exact ⟨k + 1, hk1, by go_num, by omega, HB4.out⟩
              case measure => omega
        · have HB3 : Hid (Below W.heap.size W wr) := Lib.hid (HB2.out.trans (HBL.out.mono HB2.out.size))
          go_wp2_with fail
          go_ret
          exact ⟨rfl, HB3.out⟩
end Go.Proofs.YtncjclmhdhimdaaDoor
