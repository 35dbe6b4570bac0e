/- The reference's readers of a hunk's head: number, span, head. -/
import Derived.Test.YtncjclmhdhimdaaDoorProg
import Derived.Test.YtncjclmhdhimdaaDoorDText
import Derived.Test.YtncjclmhdhimdaaDoorDMD4
import Derived.OwnWalk
namespace Go.Proofs.YtncjclmhdhimdaaDoor
open Go.RowKit

theorem dval_take {ds : List UInt8} {k : Nat} {c : UInt8} (h : ds[k]? = some c) : dval (ds.take (k + 1)) = dval (ds.take k) * 10 + (c.toNat - 48) := by
  rw [List.take_add_one, h]
  exact dval_snoc _ _
theorem dval_lt : ∀ (l : List UInt8), (∀ c ∈ l, isDig c) → l.length ≤ 9 → dval l < 1000000000 := by
  have key : ∀ (l : List UInt8), (∀ c ∈ l, isDig c) → dval l < 10 ^ l.length := by
    intro l
    induction l using snoc_ind with
    | h0 => intro _; simp [dval]
    | h1 l c ih =>
      intro h
      rw [List.length_append, List.length_singleton]
      have h1 := ih fun d hd => h d (List.mem_append_left _ hd)
      have h2 := (h c (by simp)).2
      rw [dval_snoc, Nat.pow_succ]
      omega
  intro l h hl
  have h1 := key l h
  have h2 : 10 ^ l.length ≤ 10 ^ 9 := Nat.pow_le_pow_right (by omega) hl
  omega
/- at a place of a text stand figures, and behind them something else or nothing -/
structure Digs (l : List UInt8) (p0 : Nat) (ds : List UInt8) : Prop where
  pos : 0 < ds.length
  le : ds.length ≤ 9
  dig : ∀ c ∈ ds, isDig c
  get : ∀ k c, ds[k]? = some c → l[p0 + k]? = some c
  stop : ∀ c, l[p0 + ds.length]? = some c → ¬ isDig c
theorem Digs.of {P ds S L : List UInt8} {p0 : Nat} (hL : L = P ++ (ds ++ S)) (hp : p0 = P.length) (h1 : 0 < ds.length) (h2 : ds.length ≤ 9) (h3 : ∀ c ∈ ds, isDig c) (h4 : ∀ c, S[0]? = some c → ¬ isDig c) : Digs L p0 ds := by
  subst hL hp
  refine ⟨h1, h2, h3, fun k c hk => ?_, fun c hc => h4 c ?_⟩
  · rw [List.getElem?_append_right (by omega), show P.length + k - P.length = k by omega, List.getElem?_append_left (List.getElem?_eq_some_iff.1 hk).1]
    exact hk
  · rw [List.getElem?_append_right (by omega), show P.length + ds.length - P.length = ds.length by omega, List.getElem?_append_right (Nat.le_refl _), Nat.sub_self] at hc
    exact hc
theorem mkB_get {l : List UInt8} {i : Nat} {c : UInt8} (h : l[i]? = some c) (hi : i < (mkB l).size) : (mkB l)[i] = c := by
  obtain ⟨h1, h2⟩ := List.getElem?_eq_some_iff.1 h
  rw [← h2]
  rfl

def NumPost (ds : List UInt8) (q : Nat) (w : World) (e : Ending) (w' : World) : Prop := e = .returned (.tuple #[.int .i64 ((dval ds : Nat) : Int), .int .i64 (q : Int)]) ∧ w' = w
set_option maxHeartbeats 1000000 in
theorem number_any (l ds : List UInt8) (p0 : Nat) (w : World) (pv : Value) (hpv : pv = .int .i64 (p0 : Int)) (hl : l.length ≤ 1099511627776) (hd : Digs l p0 ds) :
    Calls Tryd.prog 33 #[.string (mkB l), pv] w (NumPost ds (p0 + ds.length) w) := by
  subst hpv
  have hpl : p0 + ds.length ≤ l.length := by
    obtain ⟨c, hc⟩ : ∃ c, ds[ds.length - 1]? = some c := ⟨_, List.getElem?_eq_getElem (by have := hd.pos; omega)⟩
    have := (List.getElem?_eq_some_iff.1 (hd.get _ _ hc)).1
    have := hd.pos
    omega
  have hsz := mkB_size l
  have h9 := hd.le
  have hps := hd.pos
  have HD := Lib.hid hd
  clear hd
  obtain ⟨s, hs⟩ : ∃ s, s = mkB l := ⟨_, rfl⟩
  rw [← hs] at hsz ⊢
  have HS := Lib.hid hs
  clear hs
  go_enter Tryd.func33, Tryd.ntmps33
  go_wp2_with fail
  go_loop [1, 6] (fun i v => ∃ k p : Nat, Hid (p = p0 + k) ∧ k ≤ ds.length ∧ i = .int .i64 (p : Int) ∧ v = .int .i64 ((dval (ds.take k) : Nat) : Int)) (fun i _ => s.size - (intOf i).toNat)
  case atStart => exact ⟨0, p0, Lib.hid rfl, Nat.zero_le _, rfl, by simp [dval]⟩
  case round =>
    obtain ⟨k, p, HP, hk, rfl, rfl⟩ := hrel
    have hps2 : p ≤ s.size := by have := HP.out; omega
    by_cases hlt : k < ds.length
    · obtain ⟨c, hc⟩ : ∃ c, ds[k]? = some c := ⟨_, List.getElem?_eq_getElem hlt⟩
      have hp := HD.out.get k c hc
      rw [← HP.out] at hp
      have hplt : p < s.size := by rw [hsz]; exact (List.getElem?_eq_some_iff.1 hp).1
      have hcs : s[p] = c := by have := mkB_get hp (by rw [mkB_size]; omega); have h := HS.out; subst h; exact this
      obtain ⟨c1, c2⟩ := HD.out.dig c (List.mem_of_getElem? hc)
      have b1 : (48 : Int) ≤ (s[p].toNat : Int) := by rw [hcs]; omega
      have b2 : (s[p].toNat : Int) ≤ 57 := by rw [hcs]; omega
      have b3 : (p : Int) - (p0 : Int) < 9 := by have := HP.out; omega
      have hdv : dval (ds.take k) < 1000000000 := dval_lt _ (fun d hd => HD.out.dig d (List.mem_of_mem_take hd)) (by rw [List.length_take]; omega)
      have HDV := Lib.hid (dval_take hc)
      have HCS := Lib.hid hcs
      obtain ⟨n, hn⟩ : ∃ n, n = dval (ds.take k) := ⟨_, rfl⟩
      rw [← hn] at hdv ⊢
      have HN := Lib.hid hn
      clear hc hp hcs hn
      go_wp2_with fail
      refine ⟨⟨k + 1, p + 1, Lib.hid (by have := HP.out; omega), hlt, by go_num, ?_⟩, by simp [intOf]; omega⟩
      rw [HDV.out, ← HN.out]
      have := HCS.out
      congr 1
      rw [this]
      omega
    · obtain rfl : k = ds.length := by omega
      have HT : Hid (ds.take ds.length = ds) := Lib.hid List.take_length
      rw [HT.out]
      have hne : ((p : Int) == (p0 : Int)) = false := beq_eq_false_iff_ne.2 (by have := HP.out; omega)
      have HR : Hid (p0 + ds.length = p) := Lib.hid HP.out.symm
      by_cases hend : p < s.size
      · obtain ⟨c, hc⟩ : ∃ c, l[p]? = some c := ⟨_, List.getElem?_eq_getElem (by omega)⟩
        have hcs : s[p] = c := by have := mkB_get hc (by rw [mkB_size]; omega); have h := HS.out; subst h; exact this
        have hst := HD.out.stop c (by rw [HR.out]; exact hc)
        by_cases hlo : c.toNat < 48
        · have b1 : ¬ (48 : Int) ≤ (s[p].toNat : Int) := by rw [hcs]; omega
          clear hc hcs hst
          go_wp2_with fail
          go_ret2
          exact ⟨by rw [HR.out]; rfl, rfl⟩
        · have b1 : (48 : Int) ≤ (s[p].toNat : Int) := by rw [hcs]; omega
          have b2 : ¬ (s[p].toNat : Int) ≤ 57 := by
            rw [hcs]
            intro h
            exact hst ⟨by omega, by omega⟩
          clear hc hcs hst
          go_wp2_with fail
          go_ret2
          exact ⟨by rw [HR.out]; rfl, rfl⟩
      · go_wp2_with fail
        go_ret2
        exact ⟨by rw [HR.out]; rfl, rfl⟩

def SpanPost (d1 d2 : List UInt8) (q : Nat) (w : World) (e : Ending) (w' : World) : Prop := e = .returned (.tuple #[.int .i64 ((dval d1 : Nat) : Int), .int .i64 ((dval d2 : Nat) : Int), .int .i64 (q : Int)]) ∧ w' = w
set_option maxHeartbeats 1000000 in
theorem span_any (l d1 d2 : List UInt8) (p0 q e : Nat) (sg : UInt8) (w : World) (pv sv : Value) (hpv : pv = .int .i64 (p0 : Int)) (hsv : sv = .int .u8 (sg.toNat : Int)) (hl : l.length ≤ 1099511627776) (hs : l[p0]? = some sg) (h1 : Digs l (p0 + 1) d1) (hq : q = p0 + 1 + d1.length) (hc : l[q]? = some 44) (h2 : Digs l (q + 1) d2) (he : e = q + 1 + d2.length) :
    Calls Tryd.prog 26 #[.string (mkB l), pv, sv] w (SpanPost d1 d2 e w) := by
  subst hpv hsv
  have H1 := Lib.hid h1
  have H2 := Lib.hid h2
  have HE := Lib.hid he
  have HQ := Lib.hid hq
  have hp : p0 < (mkB l).size := by rw [mkB_size]; exact (List.getElem?_eq_some_iff.1 hs).1
  have hqs : q < (mkB l).size := by rw [mkB_size]; exact (List.getElem?_eq_some_iff.1 hc).1
  have g1 := mkB_get hs hp
  have g2 := mkB_get hc hqs
  have hsz := mkB_size l
  have hneg : ¬ (q : Int) < 0 := by omega
  clear h1 h2 he hq hs hc
  go_enter Tryd.func26, Tryd.ntmps26
  go_wp2_with fail
  refine (number_any l d1 (p0 + 1) w _ (by simp) hl H1.out).mono ?_
  rintro e1 w1 ⟨rfl, rfl⟩
  rw [← HQ.out]
  have d1v := dval_lt d1 H1.out.dig H1.out.le
  obtain ⟨n1, hn1⟩ : ∃ n, n = dval d1 := ⟨_, rfl⟩
  rw [← hn1] at d1v ⊢
  have HN1 := Lib.hid hn1
  clear hn1
  go_wp2_with fail
  refine (number_any l d2 (q + 1) w1 _ (by simp) hl H2.out).mono ?_
  rintro e1 w2 ⟨rfl, rfl⟩
  rw [← HE.out]
  go_wp2_with fail
  go_ret3
  exact ⟨by rw [← HN1.out]; rfl, rfl⟩

theorem get_at {L P S : List UInt8} {i : Nat} {c : UInt8} (h : L = P ++ (c :: S)) (hi : i = P.length) : L[i]? = some c := by
  subst h hi
  rw [List.getElem?_append_right (Nat.le_refl _), Nat.sub_self]
  rfl
theorem cut_at {L P T S : List UInt8} {i j : Nat} (h : L = P ++ (T ++ S)) (hi : i = P.length) (hj : j = i + T.length) : (L.take j).drop i = T := by
  subst h hi hj
  rw [← List.append_assoc, List.take_append_of_le_length (by simp), List.take_of_length_le (by simp), List.drop_left]
theorem not_dig {c : UInt8} (h : c.toNat < 48 ∨ 57 < c.toNat) : ¬ isDig c := fun h2 => by
  unfold isDig at h2
  omega
set_option maxRecDepth 100000 in
set_option maxHeartbeats 2000000 in
theorem head_any (x y m n : Nat) (w : World) (hx : x ≤ 1000000) (hy : y ≤ 1000000) (hm : m ≤ 1000000) (hn : n ≤ 1000000) :
    Calls Tryd.prog 24 #[.string (mkB (ckHead x y m n))] w fun en w' => en = .returned (.tuple #[.agg #[.int .i64 (x : Int), .int .i64 (y : Int), .slice none 0 0], .int .i64 (m : Int), .int .i64 (n : Int), .bool true]) ∧ Below w.heap.size w w' := by
  have a1 : at1 x m ≤ x + 1 := by unfold at1; split <;> omega
  have a2 : at1 y n ≤ y + 1 := by unfold at1; split <;> omega
  obtain ⟨L, hL⟩ : ∃ L, L = ckHead x y m n := ⟨_, rfl⟩
  rw [← hL]
  unfold ckHead at hL
  rw [Lib.itoa_nonneg, Lib.itoa_nonneg, Lib.itoa_nonneg, Lib.itoa_nonneg] at hL
  obtain ⟨d1, hd1⟩ : ∃ d, d = Lib.decDigits (at1 x m) := ⟨_, rfl⟩
  obtain ⟨d2, hd2⟩ : ∃ d, d = Lib.decDigits m := ⟨_, rfl⟩
  obtain ⟨d3, hd3⟩ : ∃ d, d = Lib.decDigits (at1 y n) := ⟨_, rfl⟩
  obtain ⟨d4, hd4⟩ : ∃ d, d = Lib.decDigits n := ⟨_, rfl⟩
  rw [← hd1, ← hd2, ← hd3, ← hd4] at hL
  have v1 : dval d1 = at1 x m := by rw [hd1]; exact dec_val _
  have v2 : dval d2 = m := by rw [hd2]; exact dec_val _
  have v3 : dval d3 = at1 y n := by rw [hd3]; exact dec_val _
  have v4 : dval d4 = n := by rw [hd4]; exact dec_val _
  have l1 := dec_len (u := at1 x m) (by omega)
  have l2 := dec_len (u := m) (by omega)
  have l3 := dec_len (u := at1 y n) (by omega)
  have l4 := dec_len (u := n) (by omega)
  have k1 := dec_dig (at1 x m)
  have k2 := dec_dig m
  have k3 := dec_dig (at1 y n)
  have k4 := dec_dig n
  rw [← hd1] at l1 k1
  rw [← hd2] at l2 k2
  rw [← hd3] at l3 k3
  rw [← hd4] at l4 k4
  have nd : ∀ c : UInt8, c = 44 ∨ c = 32 → ¬ isDig c := by
    rintro c (rfl | rfl) <;> exact not_dig (by decide)
  obtain ⟨q1, hq1⟩ : ∃ q, q = 4 + d1.length := ⟨_, rfl⟩
  obtain ⟨e1, he1⟩ : ∃ e, e = q1 + 1 + d2.length := ⟨_, rfl⟩
  obtain ⟨p2, hp2⟩ : ∃ p, p = e1 + 1 := ⟨_, rfl⟩
  obtain ⟨q2, hq2⟩ : ∃ q, q = p2 + 1 + d3.length := ⟨_, rfl⟩
  obtain ⟨e2, he2⟩ : ∃ e, e = q2 + 1 + d4.length := ⟨_, rfl⟩
  have hlen : L.length = e2 + 4 := by rw [hL, he2, hq2, hp2, he1, hq1]; simp; omega
  have D1 : Hid (Digs L (3 + 1) d1) := Lib.hid (Digs.of (P := [64, 64, 32, 45]) (S := [44] ++ (d2 ++ ([32, 43] ++ (d3 ++ ([44] ++ (d4 ++ [32, 64, 64, 10])))))) (by rw [hL]; simp only [List.append_assoc]) rfl l1.2 l1.1 k1 (fun c hc => nd c (.inl (by simpa using hc.symm))))
  have C1 : Hid (L[q1]? = some 44) := Lib.hid (get_at (P := [64, 64, 32, 45] ++ d1) (S := d2 ++ ([32, 43] ++ (d3 ++ ([44] ++ (d4 ++ [32, 64, 64, 10]))))) (by rw [hL]; simp) (by rw [hq1]; simp; omega))
  have D2 : Hid (Digs L (q1 + 1) d2) := Lib.hid (Digs.of (P := [64, 64, 32, 45] ++ (d1 ++ [44])) (S := [32, 43] ++ (d3 ++ ([44] ++ (d4 ++ [32, 64, 64, 10])))) (by rw [hL]; simp only [List.append_assoc]) (by rw [hq1]; simp; omega) l2.2 l2.1 k2 (fun c hc => nd c (.inr (by simpa using hc.symm))))
  have B1 : L[e1]? = some 32 := get_at (P := [64, 64, 32, 45] ++ (d1 ++ ([44] ++ d2))) (S := [43] ++ (d3 ++ ([44] ++ (d4 ++ [32, 64, 64, 10])))) (by rw [hL]; simp) (by rw [he1, hq1]; simp; omega)
  have S2 : Hid (L[p2]? = some 43) := Lib.hid (get_at (P := [64, 64, 32, 45] ++ (d1 ++ ([44] ++ (d2 ++ [32])))) (S := d3 ++ ([44] ++ (d4 ++ [32, 64, 64, 10]))) (by rw [hL]; simp) (by rw [hp2, he1, hq1]; simp; omega))
  have D3 : Hid (Digs L (p2 + 1) d3) := Lib.hid (Digs.of (P := [64, 64, 32, 45] ++ (d1 ++ ([44] ++ (d2 ++ [32, 43])))) (S := [44] ++ (d4 ++ [32, 64, 64, 10])) (by rw [hL]; simp only [List.append_assoc]) (by rw [hp2, he1, hq1]; simp; omega) l3.2 l3.1 k3 (fun c hc => nd c (.inl (by simpa using hc.symm))))
  have C2 : Hid (L[q2]? = some 44) := Lib.hid (get_at (P := [64, 64, 32, 45] ++ (d1 ++ ([44] ++ (d2 ++ ([32, 43] ++ d3))))) (S := d4 ++ [32, 64, 64, 10]) (by rw [hL]; simp) (by rw [hq2, hp2, he1, hq1]; simp; omega))
  have D4 : Hid (Digs L (q2 + 1) d4) := Lib.hid (Digs.of (P := [64, 64, 32, 45] ++ (d1 ++ ([44] ++ (d2 ++ ([32, 43] ++ (d3 ++ [44])))))) (S := [32, 64, 64, 10]) (by rw [hL]; simp only [List.append_assoc]) (by rw [hq2, hp2, he1, hq1]; simp; omega) l4.2 l4.1 k4 (fun c hc => nd c (.inr (by simpa using hc.symm))))
  have T1 : L.take 3 = [64, 64, 32] := by rw [hL]; simp
  have T2 : (L.take (e2 + 3)).drop e2 = [32, 64, 64] := cut_at (P := [64, 64, 32, 45] ++ (d1 ++ ([44] ++ (d2 ++ ([32, 43] ++ (d3 ++ ([44] ++ d4))))))) (S := [10]) (by rw [hL]; simp) (by rw [he2, hq2, hp2, he1, hq1]; simp; omega) rfl
  have S1 : Hid (L[3]? = some 45) := Lib.hid (by rw [hL]; rfl)
  have hsz := mkB_size L
  have hle : L.length ≤ 1000 := by omega
  have i1 : e1 < (mkB L).size := by omega
  have g1 := mkB_get B1 i1
  have HQ1 := Lib.hid hq1
  have HE1 := Lib.hid he1
  have HP2 := Lib.hid hp2
  have HQ2 := Lib.hid hq2
  have HE2 := Lib.hid he2
  have hp2' : (e1 : Int) + 1 = (p2 : Int) := by omega
  have n1 : ¬ (e1 : Int) < 0 := by omega
  have n2 : ¬ (e2 : Int) < 0 := by omega
  have n3 : ¬ (L.length : Int) - (e2 : Int) < 3 := by omega
  have n4 : ¬ (L.length : Int) < 3 := by omega
  have n5 : e2 + 4 ≤ L.length := by omega
  have hs1 : ∀ wx, (Instr.slice 9 (.string (mkB L)) none (some (.int .i64 3)) none).run Tryd.prog wx = .ok (.string { data := #[64, 64, 32] }) wx := fun wx => by
    have := run_slice_string_to_if (P := Tryd.prog) wx 9 (mkB L) .i64 3 Tryd.underlying9
    rw [this, if_pos (by omega), extract_mkB, mkB_toList]
    rw [show ((3 : Int)).toNat = 3 by rfl, T1]
    rfl
  have hs2 : ∀ wx, (Instr.slice 9 (.string (mkB L)) (some (.int .i64 (e2 : Int))) (some (.int .i64 ((e2 : Int) + 3))) none).run Tryd.prog wx = .ok (.string { data := #[32, 64, 64] }) wx := fun wx => by
    have := run_slice_string (P := Tryd.prog) wx 9 (mkB L) .i64 .i64 (e2 : Int) ((e2 : Int) + 3) Tryd.underlying9 (by omega) (by omega) (by omega)
    rw [this, extract_mkB, mkB_toList, show ((e2 : Int) + 3).toNat = e2 + 3 by omega, show ((e2 : Int)).toNat = e2 by omega, T2]
    rfl
  have lt9 : L.length ≤ 1099511627776 := by omega
  have hi2 : e2 ≤ 1000 := by omega
  clear hd1 hd2 hd3 hd4 hL T1 T2 B1 k1 k2 k3 k4 l1 l2 l3 l4 nd hq1 he1 hp2 hq2 he2 hlen a1 a2
  go_enter Tryd.func24, Tryd.ntmps24
  go_wp2_with fail
  refine (span_any L d1 d2 3 q1 e1 45 _ _ _ rfl rfl lt9 S1.out D1.out (by have := HQ1.out; omega) C1.out D2.out HE1.out).mono ?_
  rintro en w1 ⟨rfl, rfl⟩
  rw [v1, v2]
  by_cases hm0 : 0 < m
  · have hat : at1 x m = x + 1 := by unfold at1; rw [if_pos hm0]
    rw [hat]
    have i3 : ((x + 1 : Nat) : Int) - 1 = (x : Int) := by omega
    clear v1 v2
    go_wp2_with fail
    refine (span_any L d3 d4 p2 q2 e2 43 _ _ _ (by simp) rfl lt9 S2.out D3.out HQ2.out C2.out D4.out HE2.out).mono ?_
    rintro en w2 ⟨rfl, rfl⟩
    rw [v3, v4]
    by_cases hn0 : 0 < n
    · have hat2 : at1 y n = y + 1 := by unfold at1; rw [if_pos hn0]
      rw [hat2]
      have i4 : ((y + 1 : Nat) : Int) - 1 = (y : Int) := by omega
      clear v3 v4
      go_wp2_with fail
      obtain ⟨W, hW⟩ : ∃ W, W = w.alloc (.cells #[.int .i64 (x : Int), .int .i64 (y : Int), .slice none 0 0] 28) := ⟨_, rfl⟩
      have hc : W.heap[w.heap.size]? = some (.cells #[.int .i64 (x : Int), .int .i64 (y : Int), .slice none 0 0] 28 (0, 0)) := by rw [hW]; exact heap_new _ _ rfl
      have hB : Below w.heap.size w W := by rw [hW]; exact (Below.refl _ _).alloc (Nat.le_refl _) _
      have r0 := cell_at (o := 0) hc (.int .i64 (x : Int)) rfl
      have r1 := cell_at (o := 1) hc (.int .i64 (y : Int)) rfl
      have r2 := cell_at (o := 2) hc (.slice none 0 0) rfl
      rw [← hW]
      clear hW hc
      exact bodyPost_ret (v := .tuple #[.agg #[.int .i64 (x : Int), .int .i64 (y : Int), .slice none 0 0], .int .i64 (m : Int), .int .i64 (n : Int), .bool true]) (by simp [results, Tryd.results24, go_sem, r0, r1, r2]) rfl ⟨rfl, hB⟩
    · have hat2 : at1 y n = y := by unfold at1; rw [if_neg hn0]
      rw [hat2]
      clear v3 v4
      go_wp2_with fail
      obtain ⟨W, hW⟩ : ∃ W, W = w.alloc (.cells #[.int .i64 (x : Int), .int .i64 (y : Int), .slice none 0 0] 28) := ⟨_, rfl⟩
      have hc : W.heap[w.heap.size]? = some (.cells #[.int .i64 (x : Int), .int .i64 (y : Int), .slice none 0 0] 28 (0, 0)) := by rw [hW]; exact heap_new _ _ rfl
      have hB : Below w.heap.size w W := by rw [hW]; exact (Below.refl _ _).alloc (Nat.le_refl _) _
      have r0 := cell_at (o := 0) hc (.int .i64 (x : Int)) rfl
      have r1 := cell_at (o := 1) hc (.int .i64 (y : Int)) rfl
      have r2 := cell_at (o := 2) hc (.slice none 0 0) rfl
      rw [← hW]
      clear hW hc
      exact bodyPost_ret (v := .tuple #[.agg #[.int .i64 (x : Int), .int .i64 (y : Int), .slice none 0 0], .int .i64 (m : Int), .int .i64 (n : Int), .bool true]) (by simp [results, Tryd.results24, go_sem, r0, r1, r2]) rfl ⟨rfl, hB⟩
  · have hat : at1 x m = x := by unfold at1; rw [if_neg hm0]
    rw [hat]
    clear v1 v2
    go_wp2_with fail
    refine (span_any L d3 d4 p2 q2 e2 43 _ _ _ (by simp) rfl lt9 S2.out D3.out HQ2.out C2.out D4.out HE2.out).mono ?_
    rintro en w2 ⟨rfl, rfl⟩
    rw [v3, v4]
    by_cases hn0 : 0 < n
    · have hat2 : at1 y n = y + 1 := by unfold at1; rw [if_pos hn0]
      rw [hat2]
      have i4 : ((y + 1 : Nat) : Int) - 1 = (y : Int) := by omega
      clear v3 v4
      go_wp2_with fail
      obtain ⟨W, hW⟩ : ∃ W, W = w.alloc (.cells #[.int .i64 (x : Int), .int .i64 (y : Int), .slice none 0 0] 28) := ⟨_, rfl⟩
      have hc : W.heap[w.heap.size]? = some (.cells #[.int .i64 (x : Int), .int .i64 (y : Int), .slice none 0 0] 28 (0, 0)) := by rw [hW]; exact heap_new _ _ rfl
      have hB : Below w.heap.size w W := by rw [hW]; exact (Below.refl _ _).alloc (Nat.le_refl _) _
      have r0 := cell_at (o := 0) hc (.int .i64 (x : Int)) rfl
      have r1 := cell_at (o := 1) hc (.int .i64 (y : Int)) rfl
      have r2 := cell_at (o := 2) hc (.slice none 0 0) rfl
      rw [← hW]
      clear hW hc
      exact bodyPost_ret (v := .tuple #[.agg #[.int .i64 (x : Int), .int .i64 (y : Int), .slice none 0 0], .int .i64 (m : Int), .int .i64 (n : Int), .bool true]) (by simp [results, Tryd.results24, go_sem, r0, r1, r2]) rfl ⟨rfl, hB⟩
    · have hat2 : at1 y n = y := by unfold at1; rw [if_neg hn0]
      rw [hat2]
      clear v3 v4
      go_wp2_with fail
      obtain ⟨W, hW⟩ : ∃ W, W = w.alloc (.cells #[.int .i64 (x : Int), .int .i64 (y : Int), .slice none 0 0] 28) := ⟨_, rfl⟩
      have hc : W.heap[w.heap.size]? = some (.cells #[.int .i64 (x : Int), .int .i64 (y : Int), .slice none 0 0] 28 (0, 0)) := by rw [hW]; exact heap_new _ _ rfl
      have hB : Below w.heap.size w W := by rw [hW]; exact (Below.refl _ _).alloc (Nat.le_refl _) _
      have r0 := cell_at (o := 0) hc (.int .i64 (x : Int)) rfl
      have r1 := cell_at (o := 1) hc (.int .i64 (y : Int)) rfl
      have r2 := cell_at (o := 2) hc (.slice none 0 0) rfl
      rw [← hW]
      clear hW hc
      exact bodyPost_ret (v := .tuple #[.agg #[.int .i64 (x : Int), .int .i64 (y : Int), .slice none 0 0], .int .i64 (m : Int), .int .i64 (n : Int), .bool true]) (by simp [results, Tryd.results24, go_sem, r0, r1, r2]) rfl ⟨rfl, hB⟩
end Go.Proofs.YtncjclmhdhimdaaDoor
