/- FnAllNew: a text that is put in whole is put in line by line. -/
import Derived.Test.YtncjclmhdhimdaaDoorDFwd
namespace Go.Proofs.YtncjclmhdhimdaaDoor
open Go.RowKit

theorem path_new {α : Type} {Y : List α} {i j i' j' : Nat} {F : Sc α} (h : Path ([] : List α) Y i j F i' j') : j' = Y.length → F = (Y.drop j).map fun l => (43, l) := by
  induction h with
  | nil i j => intro h; subst h; simp
  | keep hx hy h ih => simp at hx
  | del hx h ih => simp at hx
  | ins hy h ih =>
    intro he
    rw [ih he, List.drop_eq_getElem_cons (List.getElem?_eq_some_iff.1 hy).1, List.map_cons, (List.getElem?_eq_some_iff.1 hy).2]
theorem one_hunk {cs : List Hk} {F : Sc (List UInt8)} (h : Cov 0 0 cs F) (hs : cs ≠ []) (hl : ∀ c ∈ cs.tail, ∃ x r, c.ops = (32, x) :: r) (hF : ∀ o ∈ F, o.1 ≠ 32) : ∃ c, cs = [c] ∧ c.ops = F := by
  cases cs with
  | nil => exact absurd rfl hs
  | cons c cs =>
    have hm := h.mem
    obtain ⟨G, F', hG, hf, _, _, h2⟩ := h
    have g0 : G = [] := by
      cases G with
      | nil => rfl
      | cons o G => exact absurd (hG o (by simp)) (hF o (by rw [hf]; simp))
    cases cs with
    | nil =>
      have hF' : allK F' := h2
      have f0 : F' = [] := by
        cases F' with
        | nil => rfl
        | cons o G => exact absurd (hF' o (by simp)) (hF o (by rw [hf]; simp))
      exact ⟨c, rfl, by rw [hf, g0, f0]; simp⟩
    | cons d cs =>
      obtain ⟨x, r, hx⟩ := hl d (by simp)
      exact absurd rfl (hF (32, x) (hm d (by simp) _ (by rw [hx]; simp)))
theorem one_new {a : List UInt8} {cs : List Hk} {F : Sc (List UInt8)} (h : DAll [] a cs F) (ha : [] ≠ a) : ∃ c, cs = [c] ∧ c.ops = (lns a).map fun l => (43, l) := by
  have hp := path_new (h.good.path : Path [] _ _ _ _ _ _) rfl
  rw [List.drop_zero] at hp
  obtain ⟨c, h1, h2⟩ := one_hunk h.good.cov (h.some ha) h.later (by
    intro o ho
    rw [hp] at ho
    obtain ⟨l, _, rfl⟩ := List.mem_map.1 ho
    show (43 : UInt8) ≠ 32
    decide)
  exact ⟨c, h1, h2.trans hp⟩
theorem one_old {a : List UInt8} {cs : List Hk} {F : Sc (List UInt8)} (h : DAll a [] cs F) (ha : a ≠ []) : ∃ c, cs = [c] ∧ c.ops.length = (lns a).length := by
  have hp := path_new (h.good.sw.path : Path [] _ _ _ _ _ _) rfl
  rw [List.drop_zero] at hp
  obtain ⟨c, h1, h2⟩ := one_hunk h.good.cov (h.some ha) h.later (by
    intro o ho he
    have h3 : swO o ∈ swS F := List.mem_map.2 ⟨o, ho, rfl⟩
    rw [hp] at h3
    obtain ⟨l, _, h4⟩ := List.mem_map.1 h3
    have h5 : (swO o).1 = 43 := by rw [← h4]
    unfold swO at h5
    rw [he] at h5
    simp at h5)
  refine ⟨c, h1, ?_⟩
  rw [h2, show F.length = (swS F).length from (List.length_map ..).symm, hp, List.length_map]
set_option maxRecDepth 100000 in
set_option maxHeartbeats 4000000 in
theorem fnAllNew_any (s : ByteArray) (W : World) (h0 : s.size ≤ 1048576) (htab : Lib.TabIs Tryd.prog W "internal/strconv.uint64pow10" .u64 Lib.pow10Tab) :
    Calls Tryd.prog 3 #[.string s] W fun e w' => e = .returned (.bool true) ∧ Below W.heap.size W w' := by
  obtain ⟨a, rfl⟩ : ∃ a, s = mkB a := ⟨s.data.toList, rfl⟩
  rw [mkB_size] at h0
  have HT := Lib.hid htab
  clear htab
  go_enter Tryd.func3, Tryd.ntmps3
  have g0 := Lib.hid h0
  clear h0
  by_cases hz : a = []
  · subst hz
    have e0 : ((mkB []).toList == []) = true := by rw [ByteArray.toList_eq, mkB_toList]; rfl
    go_wp2_with fail
    go_ret
    exact ⟨rfl, Below.refl _ _⟩
  · have e0 : ((mkB a).toList == []) = false := by rw [ByteArray.toList_eq, mkB_toList]; cases a with | nil => exact absurd rfl hz | cons _ _ => rfl
    have HZ := Lib.hid hz
    clear hz
    go_wp2_with fail
    refine (short_any a a W (by have := g0.out; omega) (by have := g0.out; omega)).mono ?_
    rintro e1 w1 ⟨sh, rfl, hb1, hsh⟩
    have HB1 := Lib.hid hb1
    have HSH := Lib.hid hsh
    clear hb1 hsh
    cases sh with
    | false =>
      go_wp2_with fail
      go_ret
      exact ⟨rfl, HB1.out⟩
    | true =>
      obtain ⟨hla, _, hsz⟩ := HSH.out.1 rfl
      have gla := Lib.hid hla
      clear HSH hla hsz
      go_wp2_with fail
      refine (read_any [] a w1 (Ne.symm HZ.out) (by simp) g0.out (by simp [lns, spl]) (by have := gla.out; omega) (Lib.tabBelow_of_tabIs HT.out w1 HB1.out)).mono ?_
      rintro e2 w2 ⟨v, us, B, cs, F, rfl, hR, hb2, hall⟩
      have HB2 : Hid (Below W.heap.size W w2) := Lib.hid (HB1.out.trans (hb2.mono HB1.out.size))
      obtain ⟨c, rfl, hops⟩ := one_new hall (Ne.symm HZ.out)
      have hrow := hR.row
      obtain ⟨pv, cv, rfl⟩ := ownsRow_slice hrow
      obtain ⟨gh, pu, cu, rfl, -, -, x2, hlines⟩ := hR.get (k := 0) rfl
      obtain ⟨n, hn⟩ : ∃ n, n = (lns a).length := ⟨_, rfl⟩
      have hcn : c.ops.length = n := by rw [hops, List.length_map, hn]
      rw [hcn] at x2
      have X2 : Hid (w2.cell? ⟨gh, 2, none⟩ = some (.slice pu n cu)) := Lib.hid x2
      have HLI : Hid (∀ j l, (lns a)[j]? = some l → ∃ gu, pu = some ⟨gu, 0, none⟩ ∧ w2.cell? ⟨gu, j, none⟩ = some (.string (mkB (43 :: l)))) := Lib.hid fun j l hj => hlines j (43, l) (by rw [hops, List.getElem?_map, hj]; rfl)
      have gn : n ≤ 400 := by rw [hn]; exact gla.out
      have HN := Lib.hid hn
      rw [show ([c] : List Hk).length = 1 from rfl]
      clear hR hb2 hall hrow hops hcn x2 hlines hn
      have HX2 : Hid (w2.drew.cell? ⟨gh, 2, none⟩ = some (.slice pu n cu)) := Lib.hid (((Below.refl _ _).drew.cell (lt_of_cell X2.out)).trans X2.out)
      have HD2 : Hid (Below w2.heap.size w2 w2.drew) := Lib.hid (Below.refl _ _).drew
      go_upto_region 4 with fail
      go_region_held3 (fun w' => w'.cell? ⟨gh, 2, none⟩ = some (.slice pu n cu))
        (first | exact HX3.out | exact HX2.out)
        (first
          | (go_at_call 16; refine (lines_any (mkB a) _ (by rw [mkB_size]; have := g0.out; omega)).mono ?_; rw [mkB_toList]; rintro e3 w3 ⟨v3, rfl, hrow3, hb3⟩; rw [← HN.out] at hrow3; obtain ⟨p3, c3, rfl⟩ := ownsRow_slice hrow3; have HD3 := Lib.hid (HD2.out.trans (hb3.mono HD2.out.size)); have HX3 : Hid (w3.cell? ⟨gh, 2, none⟩ = some (.slice pu n cu)) := Lib.hid ((hb3.cell (lt_of_cell HX2.out)).trans HX2.out); clear hrow3 hb3))
      go_wp2_with fail
      refine (lines_any (mkB a) w3 (by rw [mkB_size]; have := g0.out; omega)).mono ?_
      rw [mkB_toList]
      rintro e4 w4 ⟨v4, rfl, hrow4, hb4⟩
      obtain ⟨p4, c4, rfl⟩ := ownsRow_slice hrow4
      have HLS4 := Lib.hid (ls_row hrow4)
      rw [← HN.out]
      have HD4 : Hid (Below w2.heap.size w2 w4) := Lib.hid (HD3.out.trans (hb4.mono HD3.out.size))
      have x4 : w4.cell? ⟨gh, 2, none⟩ = some (.slice pu n cu) := (HD4.out.cell (lt_of_cell X2.out)).trans X2.out
      clear hrow4 hb4
      go_wp2_with fail
      go_loop [43] (fun i => ∃ k : Nat, k ≤ n ∧ i = .int .i64 (k : Int)) (fun i => n - (intOf i).toNat)
      case atStart => exact ⟨0, by omega, rfl⟩
      case round =>
        obtain ⟨k, hk, rfl⟩ := hrel
        by_cases hlt : k < n
        · obtain ⟨t, ht⟩ : ∃ t, (lns a)[k]? = some t := ⟨_, List.getElem?_eq_getElem (by rw [← HN.out]; exact hlt)⟩
          obtain ⟨gu, rfl, y1⟩ := HLI.out k t ht
          have y4 := (HD4.out.cell (lt_of_cell y1)).trans y1
          obtain ⟨b2, o2, rfl, y2⟩ := HLS4.out.cell ht
          have ht2 := lns_small (a := a) (by have := g0.out; omega) t (List.mem_of_getElem? ht)
          have s1 : ∀ w, (Op.stringOp .add { data := #[43] } (mkB t)).run Tryd.prog w = .ok (.string (mkB (43 :: t))) w := sum_l [43] t (43 :: t) rfl (by simp; omega)
          have e1 := str_beq (43 :: t)
          clear ht y1
          go_wp2_with fail
          exact ⟨⟨k + 1, hlt, by go_num⟩, by simp [intOf]; omega⟩
        · have HB4 : Hid (Below W.heap.size W w4) := Lib.hid (HB2.out.trans (HD4.out.mono HB2.out.size))
          go_wp2_with fail
          refine (read_any a [] w4 HZ.out g0.out (by simp) (by have := gla.out; omega) (by simp [lns, spl]) (Lib.tabBelow_of_tabIs HT.out w4 HB4.out)).mono ?_
          rintro e5 w5 ⟨v, us, B, cs, F, rfl, hR, hb5, hall⟩
          have HB5 : Hid (Below W.heap.size W w5) := Lib.hid (HB4.out.trans (hb5.mono HB4.out.size))
          obtain ⟨d, rfl, hdn⟩ := one_old hall HZ.out
          have hrow := hR.row
          obtain ⟨pw, cw, rfl⟩ := ownsRow_slice hrow
          obtain ⟨gd, pd, cd, rfl, -, -, z2, -⟩ := hR.get (k := 0) rfl
          rw [hdn, ← HN.out] at z2
          have x5 : w5.cell? ⟨gh, 2, none⟩ = some (.slice pu n cu) := (hb5.cell (lt_of_cell x4)).trans x4
          have z5 : w5.cell? ⟨gd, 2, none⟩ = some (.slice pd n cd) := z2
          rw [show ([d] : List Hk).length = 1 from rfl]
          clear hR hb5 hall hrow hdn z2 x4
          go_upto_region 13 with fail
          go_quiet (fail)
          go_wp2_with fail
          go_ret
          exact ⟨rfl, HB5.out.trans ((below_dN _ _).mono HB5.out.size)⟩
end Go.Proofs.YtncjclmhdhimdaaDoor
