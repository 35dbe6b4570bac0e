/- The package's Diff: its head; the main loop. -/
import Derived.Test.YtncjclmhdhimdaaDoorProg
import Derived.Test.YtncjclmhdhimdaaDoorDML
import Derived.Test.YtncjclmhdhimdaaDoorShelfA
import Derived.Deep.QuietTactic
import Derived.BigQuiet
namespace Go.Proofs.YtncjclmhdhimdaaDoor
open Go.RowKit

theorem equal_any (va vb : Value) (a b : List UInt8) (w : World) (ha : BS w va a) (hb : BS w vb b) : Calls Tryd.prog 27 #[va, vb] w fun e w' => e = .returned (.bool (decide (a = b))) ∧ w = w' := by
  have back : ∀ l : List UInt8, Lib.bytesOf (l.map fun c => (c.toNat : Int)) = l := fun l => by
    unfold Lib.bytesOf
    rw [List.map_map]
    conv => rhs; rw [← List.map_id l]
    apply List.map_congr_left
    intro c _
    simp
  have inn : ∀ (v : Value) (l : List UInt8), BS w v l → ∃ p cap, v = .slice p l.length cap ∧ Lib.BytesIn w p l.length (l.map fun c => (c.toNat : Int)) := by
    rintro v l ⟨p, cap, rfl, hc⟩
    refine ⟨p, cap, rfl, fun hn => ?_⟩
    obtain ⟨g, off, rfl, _⟩ := hc 0 l[0] (List.getElem?_eq_getElem hn)
    refine ⟨g, off, rfl, fun i hi => ?_⟩
    obtain ⟨g', off', he, hcell⟩ := hc i l[i] (List.getElem?_eq_getElem hi)
    injection he with he
    injection he with h1 h2
    subst h1 h2
    rw [hcell]
    simp [List.getD, hi]
  obtain ⟨p, c, rfl, h1⟩ := inn va a ha
  obtain ⟨q, d, rfl, h2⟩ := inn vb b hb
  refine (Tryd.bytes_Equal_all p q a.length c b.length d _ _ w (by simp) (by simp) h1 h2).mono ?_
  rintro e w' ⟨rfl, rfl⟩
  rw [back, back]
  refine ⟨ret_bool ?_, rfl⟩
  by_cases h : a = b
  · simp [h]
  · simp [h]

theorem byteCells_one (l : List UInt8) : ∀ v ∈ Lib.byteCells l, v.oneCell' = true := by
  intro v hv
  unfold Lib.byteCells at hv
  obtain ⟨b, _, rfl⟩ := List.mem_map.1 hv
  rfl
theorem byteCells_app (a b : List UInt8) : Lib.byteCells a ++ Lib.byteCells b = Lib.byteCells (a ++ b) := by
  unfold Lib.byteCells
  rw [List.map_append]
theorem DW_boxes {w2 w5 : World} {out : List UInt8} (hi : Lib.IsBuffer 54 5 w2.heap.size w2.heap.size (Lib.byteCells out) w5) (hb : Below w2.heap.size w2 w5) :
    let w6 := ((w5.alloc (.cells #[.int .i64 0, .int .i64 0] 60)).alloc (.cells #[.int .i64 0, .int .i64 0] 60)).alloc (.cells #[.int .i64 0, .int .i64 0] 60)
    DS w2.heap.size w2.heap.size out (.slice none 0 0) [] w6 ∧ bx w6 w5.heap.size 0 0 ∧ bx w6 (w5.heap.size + 1) 0 0 ∧ bx w6 (w5.heap.size + 2) 0 0 ∧ Below w2.heap.size w2 w6 := by
  intro w6
  have hB : Below w5.heap.size w5 w6 := (((Below.refl _ _).alloc (Nat.le_refl _) _).alloc (by simp) _).alloc (by simp; omega) _
  have k0 : bx w6 w5.heap.size 0 0 := by
    unfold bx
    rw [Below.heap_alloc _ _ _ (by simp; omega), Below.heap_alloc _ _ _ (by simp)]
    exact heap_new _ _ rfl
  have k1 : bx w6 (w5.heap.size + 1) 0 0 := by
    unfold bx
    rw [Below.heap_alloc _ _ _ (by simp)]
    exact heap_new _ _ (by simp)
  have k2 : bx w6 (w5.heap.size + 2) 0 0 := heap_new _ _ (by simp)
  exact ⟨⟨buf_below hi hB, World.ownsRow_nil _ _ _ _⟩, k0, k1, k2, hb.trans (hB.mono hb.size)⟩
theorem len_flatten {α : Type} {ls : List (List α)} {x : List α} (h : x ∈ ls) : x.length ≤ ls.flatten.length := by
  induction ls with
  | nil => cases h
  | cons y ls ih =>
    rw [List.flatten_cons, List.length_append]
    rcases List.mem_cons.1 h with rfl | h
    · omega
    · have := ih h; omega
theorem dl_short {l x : List UInt8} (h : x ∈ dl l) : x.length ≤ l.length + 29 := by
  have hf := congrArg List.length (spl_flat l)
  rw [List.length_append] at hf
  unfold dl at h
  rcases List.mem_append.1 h with h | h
  · have := len_flatten h; omega
  · by_cases hz : (spl l).2 = []
    · rw [if_pos hz] at h; cases h
    · rw [if_neg hz, List.mem_singleton] at h
      rw [h, List.length_append, show nonl.length = 29 from rfl]
      omega
theorem DW_start {w2 w6 w7 : World} {n S : Nat} {X Y : List (List UInt8)} {M : List (Nat × Nat)} {out : List UInt8} (h : DS w2.heap.size w2.heap.size out (.slice none 0 0) [] w6 ∧ bx w6 n 0 0 ∧ bx w6 (n + 1) 0 0 ∧ bx w6 (n + 2) 0 0 ∧ Below w2.heap.size w2 w6) (hn : w2.heap.size < n)
    (hm : w7.heap[S]? = some (.cells (nums (flat M)).toArray 60 (0, 0))) (hM : Matches X Y M) (hb : Below w6.heap.size w6 w7) : DW w2 n S M out (.slice none 0 0) [] 0 0 0 0 0 0 w7 :=
  ⟨h.1.below hb, h.2.1.below hb, h.2.2.1.below hb, h.2.2.2.1.below hb, hm, h.2.2.2.2.trans (hb.mono h.2.2.2.2.size), hn, hM.two⟩
def DiffPost (o n a b : List UInt8) (w : World) (en : Ending) (w' : World) : Prop :=
  ∃ v, en = .returned v ∧ Below w.heap.size w w' ∧ ((a = b ∧ v = .slice none 0 0) ∨ (a ≠ b ∧ ∃ cs F M, BS w' v (hdr o n ++ (cs.map ckText).flatten) ∧ DFin (dl a) (dl b) M cs F ∧ Matches (dl a) (dl b) M ∧ Opt (dl a) (dl b) (M.length - 2)))

theorem Matches.len {X Y : List (List UInt8)} {M : List (Nat × Nat)} (h : Matches X Y M) : M.length ≤ X.length + 2 := by
  rcases Nat.lt_or_ge M.length 3 with h3 | h3
  · omega
  · have key : ∀ s : Nat, s + 2 < M.length → ∃ m, M[s + 1]? = some m ∧ s ≤ m.1 := by
      intro s
      induction s with
      | zero => intro h0; exact ⟨_, List.getElem?_eq_getElem (by omega), Nat.zero_le _⟩
      | succ s ih =>
        intro h0
        obtain ⟨m, hm, hle⟩ := ih (by omega)
        obtain ⟨e, he⟩ : ∃ e, M[s + 2]? = some e := ⟨_, List.getElem?_eq_getElem (by omega)⟩
        have := h.strict (s + 1) (s + 2) m e hm he (by omega) (by omega) (by omega)
        exact ⟨e, he, by omega⟩
    obtain ⟨m, hm, hle⟩ := key (M.length - 3) (by omega)
    obtain ⟨a, ha, _⟩ := h.real _ m hm (by omega) (by omega)
    have := (List.getElem?_eq_some_iff.1 ha).1
    omega
theorem BS.of_cells {w : World} {B : Nat} {v : Value} {l : List UInt8} {n : Nat} (hn : n = l.length) (h : w.ownsRow B 5 1 v n (Lib.byteCells l)) : BS w v l := by
  subst hn
  obtain ⟨p, cap, rfl⟩ := ownsRow_slice h
  refine ⟨p, cap, rfl, fun i s hs => ?_⟩
  have hi : i < l.length := (List.getElem?_eq_some_iff.1 hs).1
  obtain ⟨g, rfl, _, _, hc⟩ := ownsRow_at h (by omega)
  exact ⟨g, 0, rfl, by rw [Nat.zero_add]; exact hc i _ (by simp [Lib.byteCells, hs])⟩
set_option maxRecDepth 1000000 in
set_option maxHeartbeats 4000000 in
theorem diff_any (o n : List UInt8) (va vb : Value) (a b : List UInt8) (w : World) (ha : BS w va a) (hb : BS w vb b) (ho : o.length ≤ 1048576) (hn : n.length ≤ 1048576) (hal : a.length ≤ 1048576) (hbl : b.length ≤ 1048576) (hX : (dl a).length ≤ 10000) (hY : (dl b).length ≤ 10000)
    (htab : Lib.TabIs Tryd.prog w "internal/strconv.uint64pow10" .u64 Lib.pow10Tab) : Calls Tryd.prog 25 #[.string (mkB o), va, .string (mkB n), vb] w (DiffPost o n a b w) := by
  have HA := Lib.hid ha
  have HB := Lib.hid hb
  have HT := Lib.hid htab
  clear ha hb htab
  go_enter Tryd.func25, Tryd.ntmps25
  go_wp2_with fail
  refine (equal_any va vb a b w HA.out HB.out).mono ?_
  rintro e1 w1 ⟨rfl, rfl⟩
  by_cases hab : a = b
  · have hd : decide (a = b) = true := decide_eq_true hab
    have HAB := Lib.hid hab
    clear hab
    go_wp2_with fail
    go_ret
    exact ⟨_, rfl, Below.refl _ _, .inl ⟨HAB.out, rfl⟩⟩
  · have hd : decide (a = b) = false := decide_eq_false hab
    have HAB := Lib.hid hab
    clear hab
    go_wp2_with fail
    refine (linesD_any va a w HA.out (by omega)).mono ?_
    rintro e1 w1 ⟨vx, rfl, hsx, hb1, hcx⟩
    have HX1 := Lib.hid (LS.of hsx)
    have HB1 := Lib.hid hb1
    have HCX := Lib.hid hcx
    clear hsx hb1 hcx
    go_wp2_with fail
    refine (linesD_any vb b w1 (HB.out.below HB1.out) (by omega)).mono ?_
    rintro e1 w2 ⟨vy, rfl, hsy, hb2, hcy⟩
    have HY2 := Lib.hid (LS.of hsy)
    have HX2 := Lib.hid (HX1.out.below hb2)
    have HB2 : Hid (Below w.heap.size w w2) := Lib.hid (HB1.out.trans (hb2.mono HB1.out.size))
    have HCY := Lib.hid hcy
    clear hsy hb2 HX1 HB1 hcy
    obtain ⟨t1, ht1⟩ : ∃ t, t = [100, 105, 102, 102, 32] ++ o := ⟨_, rfl⟩
    obtain ⟨t2, ht2⟩ : ∃ t, t = t1 ++ [32] := ⟨_, rfl⟩
    obtain ⟨t3, ht3⟩ : ∃ t, t = t2 ++ n := ⟨_, rfl⟩
    obtain ⟨t4, ht4⟩ : ∃ t, t = t3 ++ [10] := ⟨_, rfl⟩
    obtain ⟨t5, ht5⟩ : ∃ t, t = [45, 45, 45, 32] ++ o := ⟨_, rfl⟩
    obtain ⟨t6, ht6⟩ : ∃ t, t = t5 ++ [10] := ⟨_, rfl⟩
    obtain ⟨t7, ht7⟩ : ∃ t, t = [43, 43, 43, 32] ++ n := ⟨_, rfl⟩
    obtain ⟨t8, ht8⟩ : ∃ t, t = t7 ++ [10] := ⟨_, rfl⟩
    have l1 : t1.length ≤ 1048590 := by rw [ht1]; simp; omega
    have l2 : t2.length ≤ 1048600 := by rw [ht2]; simp; omega
    have l3 : t3.length ≤ 2097200 := by rw [ht3]; simp; omega
    have l4 : t4.length ≤ 2097210 := by rw [ht4]; simp; omega
    have l5 : t5.length ≤ 1048590 := by rw [ht5]; simp; omega
    have l6 : t6.length ≤ 1048600 := by rw [ht6]; simp; omega
    have l7 : t7.length ≤ 1048590 := by rw [ht7]; simp; omega
    have l8 : t8.length ≤ 1048600 := by rw [ht8]; simp; omega
    have s1 : ∀ w, (Op.stringOp .add { data := #[100, 105, 102, 102, 32] } (mkB o)).run Tryd.prog w = .ok (.string (mkB t1)) w := sum_l [100, 105, 102, 102, 32] o t1 ht1 (by simp; omega)
    have s2 : ∀ w, (Op.stringOp .add (mkB t1) { data := #[32] }).run Tryd.prog w = .ok (.string (mkB t2)) w := sum_l t1 [32] t2 ht2 (by simp; omega)
    have s3 : ∀ w, (Op.stringOp .add (mkB t2) (mkB n)).run Tryd.prog w = .ok (.string (mkB t3)) w := sum_l t2 n t3 ht3 (by omega)
    have s4 : ∀ w, (Op.stringOp .add (mkB t3) { data := #[10] }).run Tryd.prog w = .ok (.string (mkB t4)) w := sum_l t3 [10] t4 ht4 (by simp; omega)
    have s5 : ∀ w, (Op.stringOp .add { data := #[45, 45, 45, 32] } (mkB o)).run Tryd.prog w = .ok (.string (mkB t5)) w := sum_l [45, 45, 45, 32] o t5 ht5 (by simp; omega)
    have s6 : ∀ w, (Op.stringOp .add (mkB t5) { data := #[10] }).run Tryd.prog w = .ok (.string (mkB t6)) w := sum_l t5 [10] t6 ht6 (by simp; omega)
    have s7 : ∀ w, (Op.stringOp .add { data := #[43, 43, 43, 32] } (mkB n)).run Tryd.prog w = .ok (.string (mkB t7)) w := sum_l [43, 43, 43, 32] n t7 ht7 (by simp; omega)
    have s8 : ∀ w, (Op.stringOp .add (mkB t7) { data := #[10] }).run Tryd.prog w = .ok (.string (mkB t8)) w := sum_l t7 [10] t8 ht8 (by simp; omega)
    have HH : Hid (hdr o n = t4 ++ t6 ++ t8) := Lib.hid (by rw [ht8, ht7, ht6, ht5, ht4, ht3, ht2, ht1]; rfl)
    clear ht1 ht2 ht3 ht4 ht5 ht6 ht7 ht8
    go_wp2_with fail
    refine (Tryd.Buffer_WriteString_k w2.heap.size w2.heap.size [] (mkB t4) _ (Lib.fresh_isBuffer _ _ w2) (by simp) (by simp) (by rw [mkB_size]; simp; omega)).mono ?_
    rintro e1 w3 ⟨rfl, hi3, hb3, -⟩
    rw [mkB_toList, List.nil_append] at hi3
    have HI3 := Lib.hid hi3
    have HB3 : Hid (Below w2.heap.size w2 w3) := Lib.hid (((Below.refl _ _).alloc (Nat.le_refl _) _).trans hb3)
    clear hi3 hb3 s1 s2 s3 s4 hd
    go_wp2_with fail
    refine (Tryd.Buffer_WriteString_k w2.heap.size w2.heap.size _ (mkB t6) _ HI3.out HB3.out.size (byteCells_one t4) (by rw [mkB_size, Lib.byteCells_length]; omega)).mono ?_
    rintro e1 w4 ⟨rfl, hi4, hb4, -⟩
    rw [mkB_toList, byteCells_app] at hi4
    have HI4 := Lib.hid hi4
    have HB4 : Hid (Below w2.heap.size w2 w4) := Lib.hid (HB3.out.trans hb4)
    clear hi4 hb4 s5 s6 HI3 HB3
    go_wp2_with fail
    refine (Tryd.Buffer_WriteString_k w2.heap.size w2.heap.size _ (mkB t8) _ HI4.out HB4.out.size (byteCells_one _) (by rw [mkB_size, Lib.byteCells_length, List.length_append]; omega)).mono ?_
    rintro e1 w5 ⟨rfl, hi5, hb5, -⟩
    rw [mkB_toList, byteCells_app, ← HH.out] at hi5
    have HI5 := Lib.hid hi5
    have HB5 : Hid (Below w2.heap.size w2 w5) := Lib.hid (HB4.out.trans hb5)
    clear hi5 hb5 s7 s8 HI4 HB4 HH l1 l2 l3 l4 l5 l6 l7 l8
    go_wp2_with fail
    obtain ⟨n0, hn0⟩ : ∃ n0, n0 = w5.heap.size := ⟨_, rfl⟩
    have HW := Lib.hid (DW_boxes HI5.out HB5.out)
    rw [← hn0] at HW ⊢
    rw [show n0 + 1 + 1 = n0 + 2 from rfl]
    generalize hw6 : ((w5.alloc _).alloc _).alloc _ = w6 at HW ⊢
    have HN0 : Hid (w2.heap.size < n0) := Lib.hid (by rw [hn0]; exact HI5.out.lt)
    clear hw6 hn0 HI5 HB5
    refine (tgs_any (dl a) (dl b) vx vy w6 (HX2.out.below (HW.out.2.2.2.2)) (HY2.out.below (HW.out.2.2.2.2)) ⟨hX, fun t ht => ?_⟩ ⟨hY, fun t ht => ?_⟩).mono ?_
    · have := dl_short ht; omega
    · have := dl_short ht; omega
    rintro e1 w7 ⟨M, v, rfl, ⟨S, mc, rfl, hms⟩, hM, hO, hb7⟩
    have H7 : Hid (DW w2 n0 S M (hdr o n) (.slice none 0 0) [] 0 0 0 0 0 0 w7) := Lib.hid (DW_start HW.out HN0.out hms hM hb7)
    have HM := Lib.hid hM
    have HO := Lib.hid hO
    clear HW HN0 hms hM hO hb7
    obtain ⟨X, eX⟩ : ∃ X, X = dl a := ⟨_, rfl⟩
    obtain ⟨Y, eY⟩ : ∃ Y, Y = dl b := ⟨_, rfl⟩
    rw [← eX] at HX2 HM HO hX
    rw [← eY] at HY2 HM HO hY
    have EX := Lib.hid eX
    have EY := Lib.hid eY
    clear eX eY
    have h2 := HX2.out
    have h3 := HY2.out
    obtain ⟨ax, ccx, rfl, -⟩ := h2
    obtain ⟨ay, ccy, rfl, -⟩ := h3
    have hcx := HCX.out _ _ _ rfl
    have hcy := HCY.out _ _ _ rfl
    clear HCX HCY
    go_wp2_with fail
    have HCX : Hid (CX X Y M w2 ax ay ccx ccy) := Lib.hid ⟨HX2.out, HY2.out, hX, hY, hcx, hcy, fun t ht => by have := dl_short (by rw [← EX.out]; exact ht : t ∈ dl a); omega, fun t ht => by have := dl_short (by rw [← EY.out]; exact ht : t ∈ dl b); omega, HM.out⟩
    have HTB : Hid (TabB w2) := Lib.hid fun w' hw' => Lib.tabBelow_of_tabIs HT.out w' (HB2.out.trans (hw'.mono HB2.out.size))
    have hMl := HM.out.len
    have hBl : (hdr o n).length ≤ 10000000000 := by
      unfold hdr hdr1 hdr2 hdr3
      simp only [List.length_append, List.length_cons, List.length_nil]
      omega
    refine wp_loop_ghost (fun k a w => WI X Y M w2 ax ay ccx ccy n0 S mc (hdr o n) k a w) M.length ?_ ?_
    · exact ⟨0, 0, 0, 0, 0, [], [], _, _, _, by have := HM.out.two; omega, by omega, DInv.init, by rw [List.map_nil, List.flatten_nil, List.append_nil]; exact H7.out, At.intro⟩
    · intro g a' w' hWI
      refine round X Y M w2 ax ay ccx ccy n0 S mc HCX HTB (hdr o n) hBl (by omega) g a' w' hWI _ (fun a' w' h' => h') ?_
      clear H7 hWI a' w'
      intro a' w' hfin
      obtain ⟨cs, F, v, p, q, i, hF, hbuf, hbl, ha'⟩ := hfin
      have HF := Lib.hid hF
      have HBUF := Lib.hid hbuf
      have HBL := Lib.hid hbl
      clear hF hbuf hbl
      refine At.elim (C := fun a => Exit.then _ _ (.exit 0) a w') ?_ ha'
      intro c0 c1 c2 c3 c4 c5 c6 c7 c8 c16 c17 c20 c21 c22 c23 c24 c25 c26 c27 c28 c29 c30 c31 c32 c33 c34 c35 c36 c37 c38 c39 c40 c41 c42 c43 c44 c45 c46 c47 c48 c49 c50 c51 c52 c53 c54 c55 c56
      intros
      go_wp2_with fail
      refine (Tryd.Buffer_Bytes w2.heap.size w2.heap.size _ w' HBUF.out).mono ?_
      rintro e1 w8 ⟨vb, rfl, hrow, nq, rfl⟩
      have HROW := Lib.hid hrow
      clear hrow
      go_wp2_with fail
      go_ret
      exact ⟨vb, rfl, HB2.out.trans ((HBL.out.trans ((below_dN w' nq).mono HBL.out.size)).mono HB2.out.size), .inr ⟨HAB.out, cs, F, M, BS.of_cells (by rw [Lib.byteCells_length]) HROW.out, by rw [← EX.out, ← EY.out]; exact HF.out, by rw [← EX.out, ← EY.out]; exact HM.out, by rw [← EX.out, ← EY.out]; exact HO.out⟩⟩
end Go.Proofs.YtncjclmhdhimdaaDoor
