/- A map of the call's own from texts to lists of numbers, by what it answers. -/
import Derived.Test.YtncjclmhdhimdaaDoorDTgs
import Derived.Maps.OwnRows
import Derived.Test.YtncjclmhdhimdaaDoorDPlaces
import Derived.RegionTactic
import Derived.Deep.LoopGhost
import Derived.Deep.Cut
import Derived.Deep.QuietTactic
import Derived.BigQuiet
namespace Go.Proofs.YtncjclmhdhimdaaDoor
open Go.RowKit Go.Maps Go.WideMaps Go.ChangeShapes

def gdat : List Nat → DataW Unit
  | [] => .nil
  | x :: r => .slice (lits .i64 ((x :: r).map fun (j : Nat) => (j : Int))) []
def GM (w : World) (base b n : Nat) (f : List UInt8 → List Nat) : Prop :=
  ∃ D : DataW Unit, w.ownsGroups Tryd.prog 9 base 3 .i64 b n D ∧ IsMap D ∧ ∀ t, D.atKey (.string t) .nil = gdat (f t)
theorem GM.start (w : World) : GM (w.alloc (.map #[] 0)) (w.heap.size + 1) w.heap.size 0 (fun _ => []) :=
  ⟨.map [], World.ownsGroups_made _ _ _ _ _, isMap_empty, fun _ => atKey_of_not_has rfl _⟩
theorem lits_inj {a b : List Int} (h : (lits (H := Unit) .i64 a) = lits .i64 b) : a = b := by
  unfold lits at h
  exact (List.map_inj_right (fun x y hxy => by injection hxy with h1; injection h1)).1 h
theorem gm_zs {w : World} {base : Nat} {f : List Nat} {v : Value} {zs : List Int} (ho : w.ownsInts base 3 .i64 v zs) (h : gdat f = rowDatum .i64 v zs) : zs = f.map fun (j : Nat) => (j : Int) := by
  rcases ho.datum (H := Unit) with ⟨h1, h2⟩ | h1
  · rw [h1] at h
    cases f with
    | nil => exact h2
    | cons x r => cases h
  · rw [h1] at h
    cases f with
    | nil => cases h
    | cons x r =>
      unfold gdat at h
      injection h with h _
      exact (lits_inj h).symm
theorem GM.put {w w' : World} {base b n : Nat} {f : List UInt8 → List Nat} {D : DataW Unit} {l : List UInt8} {v : Value} {x : Nat} (hm : IsMap D) (hf : ∀ t, D.atKey (.string t) .nil = gdat (f t))
    (ho : w'.ownsInts base 3 .i64 v (((f l).map fun (j : Nat) => (j : Int)) ++ [(x : Int)])) (h2 : w.ownsGroups Tryd.prog 9 base 3 .i64 b n (D.put (.string l) (rowDatum .i64 v (((f l).map fun (j : Nat) => (j : Int)) ++ [(x : Int)])))) :
    GM w base b n (fun u => if u = l then f l ++ [x] else f u) := by
  refine ⟨_, h2, hm.put _ _, fun t => ?_⟩
  show _ = gdat (if t = l then f l ++ [x] else f t)
  by_cases ht : t = l
  · subst ht
    rw [if_pos rfl, atKey_put_same (k := .string t) hm trivial, ho.datum_pos (by simp)]
    cases hft : f t with
    | nil => rfl
    | cons y r => simp [gdat]
  · have hne : (Lit.string t) ≠ .string l := fun h => ht (by injection h)
    rw [if_neg ht, atKey_put_other hne, hf t]
theorem GM.below {w w' : World} {base b n : Nat} {f : List UInt8 → List Nat} (h : GM w base b n f) (hb : Below w.heap.size w w') : GM w' base b n f := by
  obtain ⟨D, ⟨es, clock, h1, F, h3, h4, h5, h6, h7⟩, hm, hf⟩ := h
  have up : ∀ v zs, w.ownsInts base 3 .i64 v zs → w'.ownsInts base 3 .i64 v zs := fun v zs ho => ⟨ownsRow_below ho.1 hb, ho.2⟩
  obtain ⟨F1, hmap, _⟩ := F.stay (R' := rowElem w' base 3 .i64) (fun x _ z hz => by obtain ⟨zs, ho, rfl⟩ := rowElem_inv hz; exact rowElem_mk (up _ _ ho))
  refine ⟨D, ⟨es, clock, (hb.block b (lt_of_heap h1)).trans h1, F1, h3, by rw [h4, hmap], h5, ?_, h7⟩, hm, hf⟩
  intro x hx zs hz
  obtain ⟨y, hy⟩ := F.reads x hx
  unfold Go.WideElems.rd at hy
  simp only [Option.bind_eq_some_iff, Option.map_eq_some_iff] at hy
  obtain ⟨_, _, d, hd, _⟩ := hy
  obtain ⟨zs0, ho, _⟩ := rowElem_inv hd
  rw [hz.unique (up _ _ ho)]
  exact h6 x hx zs0 ho
end Go.Proofs.YtncjclmhdhimdaaDoor
/- The reference's Longest: how many numbers that ascend can be taken from a list. -/
namespace Go.Proofs.YtncjclmhdhimdaaDoor
open Go.RowKit

theorem getD_set (B : List Nat) (k c q : Nat) (hk : k < B.length) : (B.set k c).getD q 0 = if q = k then c else B.getD q 0 := by
  simp only [List.getD_eq_getElem?_getD, List.getElem?_set]
  by_cases h : q = k
  · subst h; simp [hk]
  · rw [if_neg (fun e => h e.symm), if_neg h]
theorem best_more {L : List Int} {B : List Nat} {i j c : Nat} {m mi : Int} (h : BestAt L B i j c) (hj : L[j]? = some m) (hi : L.getD i 0 = mi) (h0 : 0 ≤ m) (h1 : m < mi) : BestAt L B i (j + 1) (max c (B.getD j 0 + 1)) := by
  obtain ⟨a1, a2, a3⟩ := h
  refine ⟨by omega, fun q u hq hu u0 u1 => ?_, ?_⟩
  · by_cases he : q = j
    · subst he; omega
    · have := a2 q u (by omega) hu u0 u1; omega
  · by_cases hc : B.getD j 0 + 1 ≤ c
    · rw [Nat.max_eq_left hc]
      rcases a3 with a3 | ⟨q, u, b1, b2, b3, b4, b5⟩
      · exact .inl a3
      · exact .inr ⟨q, u, by omega, b2, b3, b4, b5⟩
    · exact .inr ⟨j, m, by omega, hj, h0, by rw [hi]; exact h1, by omega⟩
theorem best_skip {L : List Int} {B : List Nat} {i j c : Nat} {m mi : Int} (h : BestAt L B i j c) (hj : L[j]? = some m) (hi : L.getD i 0 = mi) (hn : ¬ (0 ≤ m ∧ m < mi)) : BestAt L B i (j + 1) c := by
  obtain ⟨a1, a2, a3⟩ := h
  refine ⟨a1, fun q u hq hu u0 u1 => ?_, ?_⟩
  · by_cases he : q = j
    · subst he
      rw [hj] at hu
      injection hu with hu
      subst hu
      rw [hi] at u1
      exact absurd ⟨u0, u1⟩ hn
    · exact a2 q u (by omega) hu u0 u1
  · rcases a3 with a3 | ⟨q, u, b1, b2, b3, b4, b5⟩
    · exact .inl a3
    · exact .inr ⟨q, u, by omega, b2, b3, b4, b5⟩
theorem best_set {L : List Int} {B : List Nat} {k c j i : Nat} {d : Nat} (hj : j ≤ k) (hk : k < B.length) (h : BestAt L B i j d) : BestAt L (B.set k c) i j d := by
  obtain ⟨a1, a2, a3⟩ := h
  refine ⟨a1, fun q u hq hu u0 u1 => ?_, ?_⟩
  · rw [getD_set _ _ _ _ hk, if_neg (by omega)]
    exact a2 q u hq hu u0 u1
  · rcases a3 with a3 | ⟨q, u, b1, b2, b3, b4, b5⟩
    · exact .inl a3
    · exact .inr ⟨q, u, b1, b2, b3, b4, by rw [getD_set _ _ _ _ hk, if_neg (by omega)]; exact b5⟩
theorem bestTo_set {L : List Int} {B : List Nat} {k c : Nat} (hk : k < B.length) (h : BestTo L B k) (hc : BestAt L B k k c) : BestTo L (B.set k c) (k + 1) := by
  intro q m hq hm h0
  rw [getD_set _ _ _ _ hk]
  by_cases he : q = k
  · subst he
    rw [if_pos rfl]
    exact best_set (Nat.le_refl _) hk hc
  · rw [if_neg he]
    exact best_set (by omega) hk (h q m (by omega) hm h0)
theorem bestTo_skip {L : List Int} {B : List Nat} {k : Nat} {m : Int} (h : BestTo L B k) (hm : L[k]? = some m) (hn : m < 0) : BestTo L B (k + 1) := by
  intro q u hq hu h0
  by_cases he : q = k
  · subst he
    rw [hm] at hu
    injection hu with hu
    omega
  · exact h q u (by omega) hu h0
theorem most_set {L : List Int} {B : List Nat} {k c mo : Nat} {m : Int} (hk : k < B.length) (hm : L[k]? = some m) (h0 : 0 ≤ m) (h : MostTo L B k mo) : MostTo L (B.set k c) (k + 1) (max mo c) := by
  obtain ⟨a1, a2⟩ := h
  refine ⟨fun q u hq hu u0 => ?_, ?_⟩
  · rw [getD_set _ _ _ _ hk]
    by_cases he : q = k
    · rw [if_pos he]; omega
    · rw [if_neg he]; have := a1 q u (by omega) hu u0; omega
  · by_cases hc : mo ≤ c
    · exact .inr ⟨k, m, by omega, hm, h0, by rw [getD_set _ _ _ _ hk, if_pos rfl]; omega⟩
    · rcases a2 with a2 | ⟨q, u, b1, b2, b3, b4⟩
      · omega
      · exact .inr ⟨q, u, by omega, b2, b3, by rw [getD_set _ _ _ _ hk, if_neg (by omega)]; omega⟩
theorem most_skip {L : List Int} {B : List Nat} {k mo : Nat} {m : Int} (h : MostTo L B k mo) (hm : L[k]? = some m) (hn : m < 0) : MostTo L B (k + 1) mo := by
  obtain ⟨a1, a2⟩ := h
  refine ⟨fun q u hq hu u0 => ?_, ?_⟩
  · by_cases he : q = k
    · subst he
      rw [hm] at hu
      injection hu with hu
      omega
    · exact a1 q u (by omega) hu u0
  · rcases a2 with a2 | ⟨q, u, b1, b2, b3, b4⟩
    · exact .inl a2
    · exact .inr ⟨q, u, by omega, b2, b3, b4⟩
/- the row of best lengths -/
structure LB (w : World) (n : Nat) (B : List Nat) (wr : World) : Prop where
  bl : Below w.heap.size w wr
  bs : wr.heap[w.heap.size]? = some (.cells (nums B).toArray 3 (0, 0))
  len : B.length = n
  low : ∀ q, B.getD q 0 ≤ q + 1
theorem LB.set {w wr : World} {n : Nat} {B : List Nat} (h : LB w n B wr) {k c : Nat} (hk : k < n) (hc : c ≤ k + 1) : LB w n (B.set k c) (wr.setCell ⟨w.heap.size, k, none⟩ (.int .i64 (c : Int))) where
  bl := h.bl.setCell (p := ⟨w.heap.size, k, none⟩) (Nat.le_refl _) _
  bs := by rw [heap_set _ h.bs, nums_set]
  len := by rw [List.length_set]; exact h.len
  low := fun q => by
    rw [getD_set _ _ _ _ (by rw [h.len]; exact hk)]
    split
    · omega
    · exact h.low q
theorem LB.drew {w wr : World} {n : Nat} {B : List Nat} (h : LB w n B wr) (k : Nat) : LB w n B (wr.drewN k) := ⟨h.bl.trans (Below.mono (show Below wr.heap.size wr (wr.drewN k) from ⟨rfl, rfl, rfl, Nat.le_refl _, fun _ _ => rfl⟩) h.bl.size), h.bs, h.len, h.low⟩
theorem LB.set2 {w wr : World} {n : Nat} {B : List Nat} {k c d : Nat} (h : LB w n (B.set k c) wr) (hk : k < n) (hd : d ≤ k + 1) : LB w n (B.set k d) (wr.setCell ⟨w.heap.size, k, none⟩ (.int .i64 (d : Int))).drew := by
  have h2 := h.set hk hd
  rw [List.set_set] at h2
  exact ⟨h2.bl.drew, h2.bs, h2.len, h2.low⟩
theorem LB.cell {w wr : World} {n : Nat} {B : List Nat} (h : LB w n B wr) {q : Nat} (hq : q < n) : wr.cell? ⟨w.heap.size, q, none⟩ = some (.int .i64 ((B.getD q 0 : Nat) : Int)) := by
  refine cell_at h.bs _ (nums_get ?_)
  rw [List.getD_eq_getElem?_getD, List.getElem?_eq_getElem (by rw [h.len]; exact hq)]
  rfl
theorem LB.start (w : World) (n : Nat) : LB w n (List.replicate n 0) (w.alloc (.cells (nums (List.replicate n 0)).toArray 3)) where
  bl := (Below.refl _ _).alloc (Nat.le_refl _) _
  bs := heap_new _ _ rfl
  len := List.length_replicate
  low := fun q => by
    rw [List.getD_eq_getElem?_getD, List.getElem?_replicate]
    split <;> simp
def LongPost (L : List Int) (w : World) (e : Ending) (w' : World) : Prop := ∃ r : Nat, e = .returned (.int .i64 (r : Int)) ∧ Long L r ∧ Below w.heap.size w w'
set_option maxRecDepth 100000 in
set_option maxHeartbeats 4000000 in
theorem longest_any (L : List Int) (w : World) (p : Option Addr) (cp : Nat) (hL : ∀ i m, L[i]? = some m → ∃ g o, p = some ⟨g, o, none⟩ ∧ w.cell? ⟨g, o + i, none⟩ = some (.int .i64 m)) (hn : L.length ≤ 1000000) (hb : ∀ m ∈ L, -1 ≤ m ∧ m ≤ 1000000) :
    Calls Tryd.prog 23 #[.slice p L.length cp] w (LongPost L w) := by
  obtain ⟨i0, hi, hz0, hz1, hz2⟩ := info_parts info_num
  obtain ⟨n, hnn⟩ : ∃ n, n = L.length := ⟨_, rfl⟩
  rw [← hnn] at hn ⊢
  have hmk : ∀ w : World, (Instr.makeSlice 40 (.int .i64 (n : Int)) (.int .i64 (n : Int))).run Tryd.prog w = .ok (.slice (some ⟨w.heap.size, 0, none⟩) n n) (w.alloc (.cells (nums (List.replicate n 0)).toArray 3)) := fun w => by
    have := run_makeSlice (P := Tryd.prog) w 40 3 i0 _ Tryd.underlying40 hi hz0 .i64 .i64 (n : Int) (n : Int) (by omega) (by omega) (by rw [hz1]; omega) (by rw [hz2]; omega) (by omega)
    rw [this, hz1]
    simp only [Int.toNat_natCast, Nat.mul_one]
    rw [show (Value.int IntKind.i64 0).cells = #[.int .i64 0] from rfl, nums_made]
  have HN := Lib.hid hnn
  have HL := Lib.hid hL
  have HB := Lib.hid hb
  clear hnn hL hb hi hz0 hz1 hz2
  go_enter Tryd.func23, Tryd.ntmps23
  go_wp2_with fail
  have HS := Lib.hid (LB.start w n)
  clear hmk
  go_loopg [4, 13] n (fun g mo i wr => ∃ (k m : Nat) (B : List Nat), k ≤ n ∧ i = .int .i64 (k : Int) ∧ n - k ≤ g ∧ mo = .int .i64 (m : Int) ∧ m ≤ 2000000 ∧ BestTo L B k ∧ MostTo L B k m ∧ LB w n B wr)
  case atStart => exact ⟨0, 0, _, by omega, rfl, by omega, rfl, by omega, fun q m h => by omega, ⟨fun q m h => by omega, .inl rfl⟩, HS.out⟩
  case round =>
    obtain ⟨k, m, B, hk, rfl, hg, rfl, hm, hB, hM, hlb⟩ := hrel
    have HB2 := Lib.hid hB
    have HM := Lib.hid hM
    have H := Lib.hid hlb
    clear hB hM hlb HS
    by_cases hlt : k < n
    · obtain ⟨v, hv⟩ : ∃ v, L[k]? = some v := ⟨_, List.getElem?_eq_getElem (by rw [← HN.out]; exact hlt)⟩
      obtain ⟨gp, op, rfl, y0⟩ := HL.out k v hv
      have y1 := (H.out.bl.cell (lt_of_cell y0)).trans y0
      obtain ⟨v1, v2⟩ := HB.out v (List.mem_of_getElem? hv)
      have HV := Lib.hid hv
      have hk1 : k + 1 ≤ n := hlt
      clear y0 hv
      by_cases hneg : v < 0
      · go_wp2_with fail
        go_roundg (n - (k + 1))
        case rel => exact ⟨k + 1, m, B, hk1, by go_num, by omega, rfl, hm, bestTo_skip HB2.out HV.out hneg, most_skip HM.out HV.out hneg, H.out⟩
        case measure => omega
      · have c0 := H.out.cell hlt
        obtain ⟨b0, hb0⟩ : ∃ b, b = B.getD k 0 := ⟨_, rfl⟩
        rw [← hb0] at c0
        clear hb0
        have g0 : 0 ≤ v := by omega
        have hgd : L.getD k 0 = v := by rw [List.getD_eq_getElem?_getD, HV.out]; rfl
        have HGD := Lib.hid hgd
        clear hgd
        have hf := free_at H.out.bs k
        have HS := Lib.hid (H.out.set hlt (c := 1) (by omega))
        go_wp2_with fail
        go_loopg [24] k (fun g i wi => ∃ (j c : Nat), j ≤ k ∧ i = .int .i64 (j : Int) ∧ k - j ≤ g ∧ c ≤ k + 1 ∧ BestAt L B k j c ∧ LB w n (B.set k c) wi)
        case atStart => exact ⟨0, 1, by omega, rfl, by omega, by omega, ⟨by omega, fun q m h => by omega, .inl rfl⟩, HS.out⟩
        case round =>
          obtain ⟨j, c, hj, rfl, hg2, hc, hba, hlb⟩ := hrel
          have HBA := Lib.hid hba
          have HI := Lib.hid hlb
          clear hba hlb HS
          by_cases hjk : j < k
          · obtain ⟨u, hu⟩ : ∃ u, L[j]? = some u := ⟨_, List.getElem?_eq_getElem (by rw [← HN.out]; omega)⟩
            obtain ⟨_, _, he, z0⟩ := HL.out j u hu
            cases he
            have z1 := (HI.out.bl.cell (lt_of_cell z0)).trans z0
            obtain ⟨u1, u2⟩ := HB.out u (List.mem_of_getElem? hu)
            have HU := Lib.hid hu
            have hj1 : j + 1 ≤ k := hjk
            clear z0 hu
            by_cases hcd : 0 ≤ u ∧ u < v
            · obtain ⟨q1, q2⟩ := hcd
              have d1 := HI.out.cell hlt
              have d2 := HI.out.cell (q := j) (by omega)
              have hbl : k < B.length := by rw [H.out.len]; exact hlt
              rw [getD_set _ _ _ _ hbl, if_pos rfl] at d1
              rw [getD_set _ _ _ _ hbl, if_neg (by omega)] at d2
              have hlow := H.out.low j
              have HMO := Lib.hid (best_more HBA.out HU.out HGD.out q1 q2)
              obtain ⟨bj, hbj⟩ : ∃ b, b = B.getD j 0 := ⟨_, rfl⟩
              rw [← hbj] at d2 hlow HMO
              have hf2 := free_at HI.out.bs k
              have hmx : (max (c : Int) ((bj : Int) + 1)) = ((max c (bj + 1) : Nat) : Int) := by omega
              clear hbj hbl
              go_upto_region 12 with fail
              go_region
              all_goals go_wp2_with fail
              all_goals go_roundg (k - (j + 1))
              case rel => exact ⟨j + 1, max c (bj + 1), hj1, by go_num, by omega, by omega, HMO.out, HI.out.set2 hlt (by omega)⟩
              case measure => omega
            · have HSK := Lib.hid (best_skip HBA.out HU.out HGD.out hcd)
              by_cases q1 : 0 ≤ u
              · have q2 : ¬ u < v := fun h => hcd ⟨q1, h⟩
                clear hcd
                go_wp2_with fail
                go_roundg (k - (j + 1))
                case rel => exact ⟨j + 1, c, hj1, by go_num, by omega, hc, HSK.out, HI.out⟩
                case measure => omega
              · clear hcd
                go_wp2_with fail
                go_roundg (k - (j + 1))
                case rel => exact ⟨j + 1, c, hj1, by go_num, by omega, hc, HSK.out, HI.out⟩
                case measure => omega
          · obtain rfl : j = k := by omega
            have hbl : j < B.length := by rw [H.out.len]; exact hlt
            have d1 := HI.out.cell hlt
            rw [getD_set _ _ _ _ hbl, if_pos rfl] at d1
            have E1 := Lib.hid (bestTo_set hbl HB2.out HBA.out)
            have E2 := Lib.hid (most_set (c := c) hbl HV.out g0 HM.out)
            obtain ⟨mx, hmx⟩ : ∃ x, x = max m c := ⟨_, rfl⟩
            have hmz : max (m : Int) (c : Int) = (mx : Int) := by omega
            have hm2 : mx ≤ 2000000 := by omega
            rw [← hmx] at E2
            clear hbl hmx
            go_wp2_with fail
            go_roundg (n - (j + 1))
            case rel => exact ⟨j + 1, mx, _, hk1, by go_num, by omega, by rw [← hmz], hm2, E1.out, E2.out, HI.out⟩
            case measure => omega
    · go_wp2_with fail
      go_ret
      have : k = L.length := by rw [← HN.out]; omega
      exact ⟨m, rfl, ⟨B, by rw [← this]; exact HB2.out, by rw [← this]; exact HM.out⟩, H.out.bl⟩
end Go.Proofs.YtncjclmhdhimdaaDoor
/- The reference's Unique (under way: the third loop is missing). -/
namespace Go.Proofs.YtncjclmhdhimdaaDoor
open Go.RowKit Go.Maps Go.WideMaps Go.ChangeShapes

theorem zero_ints (w : World) : (zeroValue 40).run Tryd.prog w = .ok (.slice none 0 0) w := by kernel_rfl
def ixE (s : List UInt8) (Y : List (List UInt8)) (k : Nat) : List Nat := ix (fun u => decide (u = s)) Y k
def UniPost (X Y : List (List UInt8)) (w : World) (e : Ending) (w' : World) : Prop :=
  ∃ v, e = .returned v ∧ w'.ownsRow w.heap.size 3 1 v X.length ((places X Y).map fun m => .int .i64 m) ∧ Below w.heap.size w w'
def U1 (X : List (List UInt8)) (w : World) (i : Value) (wr : World) : Prop :=
  ∃ k g, k ≤ X.length ∧ i = .int .i64 ((k : Nat) : Int) ∧ MM wr w.heap.size k (fun t => (((X.take k).count t : Nat) : Int)) g ∧ Below w.heap.size w wr ∧ w.heap.size + 1 ≤ wr.heap.size
theorem U1.put {X : List (List UInt8)} {w wr w1 : World} {k : Nat} {s : List UInt8} {g' : List UInt8 → Bool} (hs : X[k]? = some s) (hb : Below w.heap.size w wr) (hz : w.heap.size + 1 ≤ wr.heap.size)
    (hm : MM w1 w.heap.size (k + 1) (fun u => if u = s then (((X.take k).count s : Nat) : Int) + 1 else (((X.take k).count u : Nat) : Int)) g') (hg : wr.grownBy w1 (some w.heap.size)) : U1 X w (.int .i64 ((k : Int) + 1)) w1 := by
  refine ⟨k + 1, g', (List.getElem?_eq_some_iff.1 hs).1, by simp, hm.congr (fun t => ?_) (fun _ => rfl), hb.grown hg hb.size (fun q hq => by cases hq; exact Nat.le_refl _), Nat.le_trans hz hg.size⟩
  rw [List.take_add_one, hs, Option.toList_some, List.count_append, List.count_singleton]
  by_cases ht : t = s
  · subst ht; simp
  · have : (s == t) = false := beq_eq_false_iff_ne.2 fun e => ht e.symm
    simp [ht, this]
def U2 (Y : List (List UInt8)) (w : World) (i : Value) (wr : World) : Prop :=
  ∃ k, k ≤ Y.length ∧ i = .int .i64 ((k : Nat) : Int) ∧ GM wr (w.heap.size + 1) w.heap.size k (fun t => ixE t Y k) ∧ Below w.heap.size w wr ∧ w.heap.size + 1 ≤ wr.heap.size
theorem ixE_succ {Y : List (List UInt8)} {k : Nat} {s : List UInt8} (hs : Y[k]? = some s) (t : List UInt8) : ixE t Y (k + 1) = if t = s then ixE s Y k ++ [k] else ixE t Y k := by
  unfold ixE
  rw [ix_succ hs]
  by_cases h : t = s
  · subst h; simp
  · rw [if_neg h, if_neg (by simp; exact fun e => h e.symm)]
def U3 (X Y : List (List UInt8)) (wb : World) (v i : Value) (wr : World) : Prop :=
  ∃ k, k ≤ X.length ∧ i = .int .i64 ((k : Nat) : Int) ∧ wr.ownsRow wb.heap.size 3 1 v k (((places X Y).take k).map fun m => .int .i64 m) ∧ Below wb.heap.size wb wr
theorem U3.snoc {X Y : List (List UInt8)} {wb wr w4 : World} {v v' : Value} {k : Nat} {s : List UInt8} {m : Int} (hs : X[k]? = some s) (hm : (if X.count s = 1 ∧ Y.count s = 1 then (Y.idxOf s : Int) else -1) = m)
    (hr : wr.ownsRow wb.heap.size 3 1 v k (((places X Y).take k).map fun m => .int .i64 m)) (hb : Below wb.heap.size wb wr) (ho : w4.ownsRow wb.heap.size 3 1 v' (k + 1) ((((places X Y).take k).map fun m => Value.int .i64 m) ++ [.int .i64 m])) (hg : wr.grownBy w4 v.ownBlock) : U3 X Y wb v' (.int .i64 ((k : Int) + 1)) w4 := by
  refine ⟨k + 1, (List.getElem?_eq_some_iff.1 hs).1, by simp, ?_, hb.grown hg hb.size (fun q hq => (hr.lt q hq).1)⟩
  have hp : (places X Y)[k]? = some m := by
    have hbq : (instBEqOfDecidableEq : BEq (List UInt8)) = List.instBEq := by
      have h : ∀ a b : List UInt8, (@BEq.beq _ instBEqOfDecidableEq a b) = (@BEq.beq _ List.instBEq a b) := fun a b => Bool.eq_iff_iff.2 ((@beq_iff_eq _ instBEqOfDecidableEq _ a b).trans (@beq_iff_eq _ List.instBEq _ a b).symm)
      exact congrArg BEq.mk (funext fun a => funext fun b => h a b)
    rw [places, List.getElem?_map, hs, ← hm, Option.map_some]
    first | rfl | (rw [hbq]) | simp only [hbq] | (congr 1; simp only [hbq])
  rw [List.take_add_one, hp, Option.toList_some, List.map_append]
  exact ho
theorem ixE_count (s : List UInt8) (Y : List (List UInt8)) : ∀ k, k ≤ Y.length → (ixE s Y k).length = (Y.take k).count s := by
  intro k
  induction k with
  | zero => intro _; simp [ixE, ix]
  | succ k ih =>
    intro hk
    obtain ⟨t, ht⟩ : ∃ t, Y[k]? = some t := ⟨_, List.getElem?_eq_getElem hk⟩
    rw [ixE_succ ht, List.take_add_one, ht, Option.toList_some, List.count_append, List.count_singleton, ← ih (by omega)]
    by_cases h : s = t
    · subst h; simp
    · have : (t == s) = false := beq_eq_false_iff_ne.2 fun e => h e.symm
      simp [h, this]
theorem ixE_one {s : List UInt8} {Y : List (List UInt8)} (h : Y.count s = 1) : ixE s Y Y.length = [Y.idxOf s] := by
  have hl := ixE_count s Y Y.length (Nat.le_refl _)
  rw [List.take_length, h] at hl
  have hm : Y.idxOf s ∈ ixE s Y Y.length := by
    have hs : s ∈ Y := List.count_pos_iff.1 (by omega)
    have hlt := List.idxOf_lt_length_iff.2 hs
    unfold ixE
    exact ix_mem.2 ⟨hlt, s, by rw [List.getElem?_eq_getElem hlt, List.getElem_idxOf], by simp⟩
  obtain ⟨x, hx⟩ := List.length_eq_one_iff.1 hl
  rw [hx] at hm ⊢
  rw [List.mem_singleton.1 hm]
theorem places_bound {α : Type} [DecidableEq α] {X Y : List α} : ∀ m ∈ places X Y, -1 ≤ m ∧ m ≤ (Y.length : Int) := by
  intro m hm
  obtain ⟨l, _, rfl⟩ := List.mem_map.1 hm
  have h1 : Y.idxOf l ≤ Y.length := List.idxOf_le_length
  split <;> omega
/- a look-up that stands behind a guard that says yes -/
theorem look_groups_want {H : Type} {P : Program} (w : World) {ops : Array Oper} {rest : List Oper} {o : Oper} {a : Act} {Q : Exit → Act → World → Prop}
    (hw : Region.wanted o (yielded ops a.tmps) = true) (m x : Operand) (t : TypeId) (hop : o.op = Op.lookup t m x false)
    (k E e : TypeId) (q : IntKind) (K : Keyed P k) (ht : P.underlying t = some (.map k E)) (hz : (zeroValue E).run P w = .ok (.slice none 0 0) w) (base b n : Nat) (D : DataW H)
    (hm : a.eval m = .map (some b)) (hown : w.ownsGroups P k base e q b n D) (hn : n < maxLen) (key : Value) (kl : Lit) (hx : a.eval x = key) (hkey : keyOf P k key = some kl)
    (hK : ∀ v zs, D.atKey kl .nil = rowDatum q v zs → w.ownsInts base e q v zs → zs.length ≤ n → wpList P ops Q rest (a.put o.dst v) w) :
    wpList P ops Q (o :: rest) a w := by
  refine wpList_step fun K' hK' => ?_
  rw [if_pos hw]
  obtain ⟨v, zs, hrun, hat, hoi, hzl, _⟩ := hown.at K ht hz hn hkey
  unfold Oper.wp
  simp [execOp, hop, hm, hx, hrun, Result.andThen]
  exact hK' _ _ (hK v zs hat hoi hzl)
set_option maxRecDepth 100000 in
set_option maxHeartbeats 4000000 in
theorem unique_any (X Y : List (List UInt8)) (w : World) (p q : Option Addr) (c d : Nat) (h1 : LS w (.slice p X.length c) X) (h2 : LS w (.slice q Y.length d) Y) (hx : X.length ≤ 10000) (hy : Y.length ≤ 10000) (hsx : ∀ t ∈ X, t.length ≤ 1099511627776) (hsy : ∀ t ∈ Y, t.length ≤ 1099511627776) :
    Calls Tryd.prog 22 #[.slice p X.length c, .slice q Y.length d] w (UniPost X Y w) := by
  have hmm := @run_makeMap Tryd.prog
  obtain ⟨i0, hi, hz0, hz1, hz2⟩ := info_parts info_num
  have HX := Lib.hid h1
  have HY := Lib.hid h2
  have HXS := Lib.hid hsx
  have HYS := Lib.hid hsy
  clear h1 h2 hsx hsy
  go_enter Tryd.func22, Tryd.ntmps22
  go_wp2_with fail
  go_loopw [17] (fun i wr => U1 X w i wr) (fun i _ => X.length - (intOf i).toNat)
  case atStart => exact ⟨0, _, Nat.zero_le _, rfl, (MM.start w).congr (fun t => by simp) (fun t => rfl), (Below.refl _ _).alloc (Nat.le_refl _) _, by simp⟩
  case round =>
    obtain ⟨k, g, hk, rfl, hm, hb, hz⟩ := hrel
    have HM := Lib.hid hm
    have HB := Lib.hid hb
    clear hm hb
    by_cases hlt : k < X.length
    · obtain ⟨s, hs⟩ : ∃ s, X[k]? = some s := ⟨_, List.getElem?_eq_getElem hlt⟩
      obtain ⟨bx, ox, rfl, hcell⟩ := (HX.out.below HB.out).cell hs
      have hsl : s.length ≤ 1152921504606846976 := by have := HXS.out s (List.mem_of_getElem? hs); omega
      have hcnt : (X.take k).count s ≤ 10000 := Nat.le_trans List.count_le_length (by rw [List.length_take]; omega)
      have HSK := Lib.hid hs
      clear hs
      go_wp2_with (first | (at_lookup; refine mm_look HM.out s hsl rfl _ _ rfl rfl rfl ?_) | (at_mapUpdate; refine mm_put HM.out s hsl (by omega) rfl _ _ _ rfl rfl rfl _ rfl (by omega) ?_; intro w1 hm1 hg1; have HM1 := Lib.hid hm1; have HG1 := Lib.hid hg1; clear hm1 hg1))
      exact ⟨U1.put HSK.out HB.out hz HM1.out HG1.out, by simp [intOf]; omega⟩
    · obtain rfl : k = X.length := by omega
      have HZ1 := Lib.hid hz
      clear hz
      obtain ⟨wa, hwa⟩ : ∃ x, x = wr := ⟨_, rfl⟩
      subst hwa
      go_wp2_with fail
      go_loopw [29] (fun i wq => U2 Y wa i wq) (fun i _ => Y.length - (intOf i).toNat)
      case atStart => exact ⟨0, Nat.zero_le _, rfl, GM.start wa, (Below.refl _ _).alloc (Nat.le_refl _) _, by simp⟩
      case round =>
        obtain ⟨k, hk, rfl, hm, hb, hz⟩ := hrel
        obtain ⟨D, hown, hmap, hf⟩ := hm
        have HB2 := Lib.hid hb
        have HZ2 := Lib.hid hz
        have HO2 := Lib.hid hown
        have HMP := Lib.hid hmap
        have HF := Lib.hid hf
        clear hb hz hown hmap hf
        by_cases hlt : k < Y.length
        · obtain ⟨s, hs⟩ : ∃ s, Y[k]? = some s := ⟨_, List.getElem?_eq_getElem hlt⟩
          obtain ⟨bx, ox, rfl, hcell⟩ := ((HY.out.below HB.out).below HB2.out).cell hs
          have hsl : s.length ≤ 1152921504606846976 := by have := HYS.out s (List.mem_of_getElem? hs); omega
          have HSK := Lib.hid hs
          clear hs
          go_wp2_with (first
            | (at_lookup; refine wpList_lookup_groups _ rfl _ _ 46 rfl 9 40 3 .i64 keyed_str Tryd.underlying46 (zero_ints _) (wa.heap.size + 1) wa.heap.size k _ rfl HO2.out (by unfold maxLen; omega) _ _ rfl (key_str hsl) ?_; intro v zs hat hoi hzl hback; have hzs := gm_zs hoi ((HF.out s).symm.trans hat); subst hzs; have HOI := Lib.hid hoi; have HBK := Lib.hid hback; clear hat hoi hback)
            | (at_builtin; refine wpList_append_own_at _ rfl _ _ 40 rfl (wa.heap.size + 1) 3 i0 _ 1 8 Tryd.underlying40 hi hz0 hz1 hz2 rfl (by decide) _ _ _ rfl (HOI.out.1.alloc _) ⟨_, 0, none⟩ 1 1 [.int .i64 k] rfl rfl (cell_one_new _ _ _) (by simp [Value.oneCell']) (by unfold maxLen; omega) (by omega) (by have := HZ2.out; simp; omega) ?_; intro v' w4 hown4 hgrow hnil hloc; have HO4 := Lib.hid hown4; have HG4 := Lib.hid hgrow; have HL4 := Lib.hid hloc; clear hown4 hgrow hnil hloc)
            | (at_mapUpdate; refine wpList_mapUpdate_back _ rfl _ _ _ 46 rfl HBK.out rfl rfl rfl ((World.grownBy_alloc _ _ _).trans HG4.out) (HOI.out.appended HO4.out (WalkArith.wf_i64 (by omega))) (by simp; simp at hzl; omega) (HL4.out.imp id (fun h => ⟨_, h, by simp⟩)) ?_; intro w5 hown5 hgrow5; have HO5 := Lib.hid hown5; have HG5 := Lib.hid hgrow5; clear hown5 hgrow5))
          have hall := (World.grownBy_alloc _ _ _).trans HG4.out
          have hfe : (fun t => ixE t Y (k + 1)) = fun u => if u = s then ixE s Y k ++ [k] else ixE u Y k := funext fun t => ixE_succ HSK.out t
          refine ⟨⟨k + 1, hlt, by simp, ?_, HB2.out.groups HOI.out hall HG5.out HB2.out.size (Nat.le_succ _) (Nat.le_refl _), Nat.le_trans HZ2.out (Nat.le_trans hall.size HG5.out.size)⟩, by simp [intOf]; omega⟩
          rw [hfe]
          exact GM.put HMP.out HF.out (HOI.out.appended HO4.out (WalkArith.wf_i64 (by omega))) HO5.out
        · obtain rfl : k = Y.length := by omega
          obtain ⟨wb, hwb⟩ : ∃ x, x = wr := ⟨_, rfl⟩
          subst hwb
          have HMB : Hid (MM wb w.heap.size X.length (fun t => (((X.take X.length).count t : Nat) : Int)) g) := Lib.hid (HM.out.block (HB2.out.block _ HM.out.lt))
          have HGB : Hid (GM wb (wa.heap.size + 1) wa.heap.size Y.length (fun t => ixE t Y Y.length)) := Lib.hid ⟨D, HO2.out, HMP.out, HF.out⟩
          have HXB : Hid (LS wb (.slice p X.length c) X) := Lib.hid ((HX.out.below HB.out).below HB2.out)
          have HBB : Hid (Below w.heap.size w wb) := Lib.hid (HB.out.trans (HB2.out.mono HB.out.size))
          clear HMP HF HO2
          go_wp2_with fail
          go_loopw [11, 46] (fun v i wq => U3 X Y wb v i wq) (fun _ i _ => X.length - (intOf i).toNat)
          case atStart => exact ⟨0, Nat.zero_le _, rfl, by simpa using World.ownsRow_made (base := wb.heap.size) (e := 3) (size := 1) wb #[] 0 (by simp) (by unfold maxLen; omega) rfl, (Below.refl _ _).alloc (Nat.le_refl _) _⟩
          case round =>
            obtain ⟨k, hk, rfl, hr, hb⟩ := hrel
            obtain ⟨po, co, rfl⟩ := ownsRow_slice hr
            have HR := Lib.hid hr
            have HB3 := Lib.hid hb
            clear hr hb
            by_cases hlt : k < X.length
            · obtain ⟨s, hs⟩ : ∃ s, X[k]? = some s := ⟨_, List.getElem?_eq_getElem hlt⟩
              obtain ⟨bx, ox, rfl, hcell⟩ := (HXB.out.below HB3.out).cell hs
              have hsl : s.length ≤ 1152921504606846976 := by have := HXS.out s (List.mem_of_getElem? hs); omega
              have HSK := Lib.hid hs
              have HM3 : Hid (MM wr w.heap.size X.length (fun t => (((X.take X.length).count t : Nat) : Int)) g) := Lib.hid (HMB.out.block (HB3.out.block _ HMB.out.lt))
              obtain ⟨D3, ho3, hm3, hf3⟩ := HGB.out.below HB3.out
              have HO3 := Lib.hid ho3
              have HF3 := Lib.hid hf3
              have hc0 : (X.take X.length).count s = X.count s := by rw [List.take_length]
              have hc1 := ixE_count s Y Y.length (Nat.le_refl _)
              rw [List.take_length] at hc1
              clear hs ho3 hm3 hf3
              by_cases c1 : X.count s = 1
              · have n1 : ((((X.take X.length).count s : Nat) : Int) == 1) = true := beq_iff_eq.2 (by rw [hc0]; omega)
                by_cases c2 : Y.count s = 1
                · have n2 : (((Y.count s : Nat) : Int) == 1) = true := beq_iff_eq.2 (by omega)
                  obtain ⟨m, hm⟩ : ∃ m, m = Y.idxOf s := ⟨_, rfl⟩
                  have hY1 := ixE_one c2
                  rw [← hm] at hY1
                  have HY1 := Lib.hid hY1
                  have HMI := Lib.hid hm
                  clear hY1 hm
                  go_wp2_with (first
                    | (at_lookup; refine mm_look HM3.out s hsl rfl _ _ rfl rfl rfl ?_)
                    | (at_lookup; refine look_groups_want _ rfl _ _ 46 rfl 9 40 3 .i64 keyed_str Tryd.underlying46 (zero_ints _) (wa.heap.size + 1) wa.heap.size Y.length _ rfl HO3.out (by unfold maxLen; omega) _ _ rfl (key_str hsl) ?_; intro v zs hat hoi hzl; have hzs : zs = [((m : Nat) : Int)] := (gm_zs hoi ((HF3.out s).symm.trans hat)).trans (by show List.map (fun (j : Nat) => (j : Int)) (ixE s Y Y.length) = _; rw [HY1.out]; first | done | rfl); subst hzs; obtain ⟨pz, cz, rfl⟩ := ownsRow_slice hoi.1; obtain ⟨gz, rfl, _, _, hcz⟩ := ownsRow_at hoi.1 (by simp); have hc0 := hcz 0 (.int .i64 (m : Int)) rfl; rw [show ([((m : Nat) : Int)] : List Int).length = 1 from rfl]; clear hat hoi hzl hcz)
                    | (at_builtin; refine wpList_append_own_at _ rfl _ _ 40 rfl wb.heap.size 3 i0 _ 1 8 Tryd.underlying40 hi hz0 hz1 hz2 rfl (by decide) _ _ _ rfl (HR.out.alloc _) ⟨_, 0, none⟩ 1 1 [.int .i64 (m : Int)] rfl rfl (cell_one_new _ _ _) (by simp [Value.oneCell']) (by unfold maxLen; omega) (by omega) (by have := HB3.out.size; simp; omega) ?_; intro v' w4 hown4 hgrow hnil hloc; have HO4 := Lib.hid hown4; have HG4 := Lib.hid hgrow; clear hown4 hgrow hnil hloc))
                  exact ⟨U3.snoc HSK.out (by rw [if_pos ⟨c1, c2⟩, ← HMI.out]) HR.out HB3.out HO4.out ((World.grownBy_alloc _ _ _).trans HG4.out), by simp [intOf]; omega⟩
                · have n2 : (((Y.count s : Nat) : Int) == 1) = false := beq_eq_false_iff_ne.2 (by omega)
                  go_wp2_with (first
                    | (at_lookup; refine mm_look HM3.out s hsl rfl _ _ rfl rfl rfl ?_)
                    | (at_lookup; refine look_groups_want _ rfl _ _ 46 rfl 9 40 3 .i64 keyed_str Tryd.underlying46 (zero_ints _) (wa.heap.size + 1) wa.heap.size Y.length _ rfl HO3.out (by unfold maxLen; omega) _ _ rfl (key_str hsl) ?_; intro v zs hat hoi hzl; have hzs : zs = (ixE s Y Y.length).map fun (j : Nat) => (j : Int) := gm_zs hoi ((HF3.out s).symm.trans hat); subst hzs; obtain ⟨pz, cz, rfl⟩ := ownsRow_slice hoi.1; have hzn : ((ixE s Y Y.length).map fun (j : Nat) => (j : Int)).length = Y.count s := (List.length_map _).trans hc1; rw [hzn]; clear hat hoi hzl hzn)
                    | (at_builtin; refine wpList_append_own_at _ rfl _ _ 40 rfl wb.heap.size 3 i0 _ 1 8 Tryd.underlying40 hi hz0 hz1 hz2 rfl (by decide) _ _ _ rfl (HR.out.alloc _) ⟨_, 0, none⟩ 1 1 [.int .i64 (-1)] rfl rfl (cell_one_new _ _ _) (by simp [Value.oneCell']) (by unfold maxLen; omega) (by omega) (by have := HB3.out.size; simp; omega) ?_; intro v' w4 hown4 hgrow hnil hloc; have HO4 := Lib.hid hown4; have HG4 := Lib.hid hgrow; clear hown4 hgrow hnil hloc))
                  exact ⟨U3.snoc HSK.out (by rw [if_neg (fun h => c2 h.2)]) HR.out HB3.out HO4.out ((World.grownBy_alloc _ _ _).trans HG4.out), by simp [intOf]; omega⟩
              · have n1 : ((((X.take X.length).count s : Nat) : Int) == 1) = false := beq_eq_false_iff_ne.2 (by rw [hc0]; omega)
                go_wp2_with (first | (at_lookup; refine mm_look HM3.out s hsl rfl _ _ rfl rfl rfl ?_) | (at_builtin; refine wpList_append_own_at _ rfl _ _ 40 rfl wb.heap.size 3 i0 _ 1 8 Tryd.underlying40 hi hz0 hz1 hz2 rfl (by decide) _ _ _ rfl (HR.out.alloc _) ⟨_, 0, none⟩ 1 1 [.int .i64 (-1)] rfl rfl (cell_one_new _ _ _) (by simp [Value.oneCell']) (by unfold maxLen; omega) (by omega) (by have := HB3.out.size; simp; omega) ?_; intro v' w4 hown4 hgrow hnil hloc; have HO4 := Lib.hid hown4; have HG4 := Lib.hid hgrow; clear hown4 hgrow hnil hloc))
                exact ⟨U3.snoc HSK.out (by rw [if_neg (fun h => c1 h.1)]) HR.out HB3.out HO4.out ((World.grownBy_alloc _ _ _).trans HG4.out), by simp [intOf]; omega⟩
            · obtain rfl : k = X.length := by omega
              have hpl : (places X Y).take X.length = places X Y := by rw [show X.length = (places X Y).length by simp [places]]; exact List.take_length
              have HP := Lib.hid hpl
              clear hpl
              go_wp2_with fail
              go_ret
              exact ⟨_, rfl, by rw [← HP.out]; exact ⟨HR.out.1, HR.out.2.imp id fun ⟨g, cap, cur, a1, a2, a3⟩ => ⟨g, cap, cur, a1, Nat.le_trans HBB.out.size a2, a3⟩⟩, HBB.out.trans (HB3.out.mono HBB.out.size)⟩
end Go.Proofs.YtncjclmhdhimdaaDoor
