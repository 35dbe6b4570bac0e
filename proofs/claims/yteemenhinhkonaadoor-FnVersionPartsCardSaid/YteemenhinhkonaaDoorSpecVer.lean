/- The reference's Version, Least and Plainly. -/
import Derived.Test.YteemenhinhkonaaDoorProg
import Derived.Test.YteemenhinhkonaaDoorVer
import Derived.Test.YteemenhinhkonaaDoorReadA
import Derived.Test.YteemenhinhkonaaDoorTags
namespace Go.Proofs.YteemenhinhkonaaDoor
open Go.RowKit

def VRel (l : List UInt8) (v : Value) : Prop := ∃ k : Nat, 1 ≤ k ∧ k ≤ l.length + 1 ∧ v = .int .i64 k ∧ ∀ j, 1 ≤ j → j < k → at4 l j = false
def NRel (l : List UInt8) (n i : Value) : Prop := ∃ k : Nat, 4 ≤ k ∧ k ≤ l.length ∧ i = .int .i64 k ∧ n = .int .i64 (numV ((l.drop 4).take (k - 4))) ∧ ((l.drop 4).take (k - 4)).all figB = true
theorem verN_not {l : List UInt8} (h : verB l = false) : verN l = -1 := by unfold verN; rw [h]; rfl
theorem numV_snoc (m : List UInt8) (c : UInt8) : numV (m ++ [c]) = numV m * 10 + ((c.toNat : Int) - 48) := by unfold numV; rw [List.foldl_append]; rfl
theorem fig_range {c : UInt8} (h : figB c = true) : 48 ≤ c.toNat ∧ c.toNat ≤ 57 := of_decide_eq_true h
theorem numV_small {m : List UInt8} (h : m.all figB = true) (hl : m.length ≤ 2) : 0 ≤ numV m ∧ numV m ≤ 99 := by
  match m, h, hl with
  | [], _, _ => simp [numV]
  | [a], h, _ =>
    simp at h
    have := fig_range h
    simp only [numV, List.foldl_cons, List.foldl_nil]
    omega
  | [a, b], h, _ =>
    simp at h
    have h1 := fig_range h.1
    have h2 := fig_range h.2
    simp only [numV, List.foldl_cons, List.foldl_nil]
    omega
  | a :: b :: c :: r, _, h => simp at h
def VerPost (s : ByteArray) (w : World) (en : Ending) (w' : World) : Prop := en = .returned (.tuple #[.int .i64 (verN s.data.toList), .bool (verB s.data.toList)]) ∧ w = w'

set_option maxHeartbeats 1000000 in
theorem version_any (s : ByteArray) (w : World) (hs : s.size ≤ 1152921504606846976) : Calls Tryd.prog 53 #[.string s] w (VerPost s w) := by
  obtain ⟨l, hl⟩ : ∃ l, l = s.data.toList := ⟨_, rfl⟩
  have hsz : l.length = s.size := by rw [hl]; simp
  have HL := Lib.hid hl
  have HS := Lib.hid hsz
  clear hl hsz
  go_enter Tryd.func53, Tryd.ntmps53
  go_wp2_with fail
  go_loop [4] (fun i => VRel l i) (fun i => s.size + 1 - (intOf i).toNat)
  case atStart => exact ⟨1, Nat.le_refl _, by omega, rfl, fun j h1 h2 => by omega⟩
  case round =>
    obtain ⟨k, hk1, hk2, rfl, hno⟩ := hrel
    have HNO := Lib.hid hno
    clear hno
    have hk3 : k ≤ s.size + 1 := by have := HS.out; omega
    by_cases hlt : k + 4 ≤ s.size
    · have hc : ((s.extract k (k + 4)).toList == [103, 111, 49, 46]) = at4 l k := by rw [extract_take, HL.out]; rfl
      cases h4 : at4 l k
      · rw [h4] at hc
        go_wp2_with fail
        go_round
        case rel => exact ⟨k + 1, by omega, by have := HS.out; omega, by go_num, fun j h1 h2 => by
          rcases Nat.lt_or_ge j k with h3 | h3
          · exact HNO.out j h1 h3
          · obtain rfl : j = k := by omega
            exact h4⟩
        case measure => simp [intOf]; omega
      · rw [h4] at hc
        have HV : Hid (verB s.data.toList = false) := Lib.hid (by rw [← HL.out]; unfold verB; rw [laterB_true hk1 h4]; rfl)
        clear h4
        go_wp2_with fail
        go_ret2
        exact ⟨by rw [verN_not HV.out, HV.out]; rfl, rfl⟩
    · have HLT : Hid (laterB l = false) := Lib.hid (laterB_false fun j h1 h2 => HNO.out j h1 (by have := HS.out; omega))
      clear HNO
      by_cases h2 : 2 ≤ s.size
      · have hg : ((s.extract 0 2).toList == [103, 111]) = goB l := by rw [show (2 : Nat) = 0 + 2 from rfl, extract_take, HL.out]; rfl
        cases hgo : goB l
        · rw [hgo] at hg
          have hg2 : ((s.extract 0 2).toList != [103, 111]) = true := by rw [bne, hg]; rfl
          have HV : Hid (verB s.data.toList = true ∧ goB s.data.toList = false) := Lib.hid (by rw [← HL.out]; exact ⟨by unfold verB; rw [HLT.out, hgo]; rfl, hgo⟩)
          clear hgo
          go_wp2_with fail
          go_ret2
          exact ⟨by rw [(ver_no HV.out.1 HV.out.2).1, HV.out.1]; rfl, rfl⟩
        · rw [hgo] at hg
          have hg2 : ((s.extract 0 2).toList != [103, 111]) = false := by rw [bne, hg]; rfl
          have HG := Lib.hid hgo
          have bad : fineB l = false → Hid (verB s.data.toList = false) := fun h => Lib.hid (by rw [← HL.out]; unfold verB; rw [HG.out, h]; simp)
          have BAD := Lib.hid bad
          clear bad hgo
          by_cases h5 : 5 ≤ s.size
          · have hc : ((s.extract 0 4).toList == [103, 111, 49, 46]) = (l.take 4 == [103, 111, 49, 46]) := by rw [show (4 : Nat) = 0 + 4 from rfl, extract_take, HL.out]; rfl
            cases hp : (l.take 4 == [103, 111, 49, 46])
            · rw [hp] at hc
              have hc2 : ((s.extract 0 4).toList != [103, 111, 49, 46]) = true := by rw [bne, hc]; rfl
              have HV := BAD.out (by unfold fineB; rw [hp]; simp)
              clear hp
              go_wp2_with fail
              go_ret2
              exact ⟨by rw [verN_not HV.out, HV.out]; rfl, rfl⟩
            · rw [hp] at hc
              have hc2 : ((s.extract 0 4).toList != [103, 111, 49, 46]) = false := by rw [bne, hc]; rfl
              have HP := Lib.hid hp
              clear hp
              by_cases h6 : s.size ≤ 6
              · have hb4 : l[4]? = some s[4] := by rw [HL.out]; simp [ByteArray.getElem_eq_getElem_data]
                have HB4 := Lib.hid hb4
                clear hb4
                by_cases h48 : s[4].toNat = 48
                · have HV := BAD.out (by unfold fineB; rw [HB4.out, show s[4] = 48 from UInt8.toNat_inj.1 h48]; simp)
                  go_wp2_with fail
                  go_ret2
                  exact ⟨by rw [verN_not HV.out, HV.out]; rfl, rfl⟩
                · have H48 : Hid (¬ (l[4]? == some 48) = true) := Lib.hid (by rw [HB4.out]; intro h; have := eq_of_beq h; injection this with this; exact h48 (by rw [this]; rfl))
                  have hz : ((s[4].toNat : Int) == 48) = false := by simp; omega
                  go_wp2_with fail
                  clear hg hg2 hc hc2 hz hlt hk1 hk2 hk3
                  go_loop [5, 6] (fun n i => NRel l n i) (fun _ i => s.size - (intOf i).toNat)
                  case atStart => exact ⟨4, Nat.le_refl _, by have := HS.out; omega, rfl, by simp [numV], by simp⟩
                  case round =>
                    obtain ⟨k, hk1, hk2, rfl, rfl, hall⟩ := hrel
                    have hk3 : k ≤ s.size := by have := HS.out; omega
                    have hnb := numV_small hall (by simp; omega)
                    have HA := Lib.hid hall
                    clear hall
                    by_cases hlt : k < s.size
                    · have hbk : (l.drop 4).take (k + 1 - 4) = (l.drop 4).take (k - 4) ++ [s[k]] := by
                        rw [show k + 1 - 4 = (k - 4) + 1 by omega, List.take_add_one, List.getElem?_drop, show 4 + (k - 4) = k by omega, HL.out]
                        simp [ByteArray.getElem_eq_getElem_data]
                      have HBK := Lib.hid hbk
                      clear hbk
                      by_cases hf : 48 ≤ s[k].toNat ∧ s[k].toNat ≤ 57
                      · obtain ⟨hf1, hf2⟩ := hf
                        obtain ⟨n, hn⟩ : ∃ n, n = numV ((l.drop 4).take (k - 4)) := ⟨_, rfl⟩
                        rw [← hn] at hnb ⊢
                        have HN := Lib.hid hn
                        clear hn
                        go_wp2_with fail
                        go_round
                        case rel => exact ⟨k + 1, by omega, by have := HS.out; omega, by go_num, by rw [HBK.out, numV_snoc, ← HN.out], by rw [HBK.out, List.all_append, HA.out]; simp [figB]; omega⟩
                        case measure => simp [intOf]; omega
                      · have HV := BAD.out (by
                          have : figB s[k] = false := by unfold figB; simp; omega
                          have h9 : (l.drop 4).all figB = false := by
                            rw [List.all_eq_false]
                            refine ⟨s[k], ?_, by simp [this]⟩
                            have hm : s[k] ∈ (l.drop 4).take (k + 1 - 4) := by rw [HBK.out]; simp
                            exact List.mem_of_mem_take hm
                          unfold fineB
                          rw [h9]
                          simp)
                        by_cases hlo : s[k].toNat < 48
                        · go_wp2_with fail
                          go_ret2
                          exact ⟨by rw [verN_not HV.out, HV.out]; rfl, rfl⟩
                        · have hhi : 57 < s[k].toNat := by omega
                          go_wp2_with fail
                          go_ret2
                          exact ⟨by rw [verN_not HV.out, HV.out]; rfl, rfl⟩
                    · have hkl : k = l.length := by have := HS.out; omega
                      have hfull : (l.drop 4).take (k - 4) = l.drop 4 := by rw [List.take_of_length_le]; simp; omega
                      have HF : Hid (verB s.data.toList = true ∧ verN s.data.toList = numV ((l.drop 4).take (k - 4))) := Lib.hid (by
                        have hfi : fineB l = true := by
                          unfold fineB
                          rw [HP.out, ← hfull, HA.out]
                          have h1 : 5 ≤ l.length := by have := HS.out; omega
                          have h2 : l.length ≤ 6 := by have := HS.out; omega
                          have h3 : (l[4]? == some 48) = false := by simpa using H48.out
                          simp [h1, h2, h3]
                        have hv : verB l = true := by unfold verB; rw [HLT.out, HG.out, hfi]; rfl
                        rw [← HL.out]
                        exact ⟨hv, by rw [(ver_go hv HG.out).2, hfull]⟩)
                      obtain ⟨n, hn⟩ : ∃ n, n = numV ((l.drop 4).take (k - 4)) := ⟨_, rfl⟩
                      rw [← hn] at HF ⊢
                      clear hkl hfull hn
                      go_wp2_with fail
                      go_ret2
                      exact ⟨by rw [HF.out.1, HF.out.2]; rfl, rfl⟩
              · have HV := BAD.out (by unfold fineB; rw [HS.out]; simp; omega)
                go_wp2_with fail
                go_ret2
                exact ⟨by rw [verN_not HV.out, HV.out]; rfl, rfl⟩
          · have HV := BAD.out (by unfold fineB; rw [HS.out]; simp; omega)
            go_wp2_with fail
            go_ret2
            exact ⟨by rw [verN_not HV.out, HV.out]; rfl, rfl⟩
      · have HV : Hid (verB s.data.toList = true ∧ goB s.data.toList = false) := Lib.hid (by
          have hgo : goB l = false := by
            unfold goB
            rw [Bool.eq_false_iff]
            intro h
            have := congrArg List.length (eq_of_beq h)
            have := HS.out
            simp at *
            omega
          rw [← HL.out]; exact ⟨by unfold verB; rw [HLT.out, hgo]; rfl, hgo⟩)
        go_wp2_with fail
        go_ret2
        exact ⟨by rw [(ver_no HV.out.1 HV.out.2).1, HV.out.1]; rfl, rfl⟩

theorem XIs.tagSize {S : Nat → Prop} {w : World} {t : ByteArray} {c0 c1 c2 : Value} (h : XIs S w (.tag t) c0 c1 c2) : t.size ≤ 1152921504606846976 := h.2.2.1
set_option maxHeartbeats 4000000 in
theorem least_any (x : Ex) : ∀ (c0 c1 c2 : Value) (hb : Bool) (w : World), XIs (fun _ => True) w x c0 c1 c2 →
    Calls Tryd.prog 34 #[.agg #[c0, c1, c2], .bool hb] w fun en w' => en = .returned (.int .i64 (x.least hb)) ∧ Below w.heap.size w w' := by
  induction x with
  | tag t =>
    intro c0 c1 c2 hb w h
    obtain ⟨rfl, rfl, ht, a, cap, rfl⟩ := h
    cases hb
    · go_enter Tryd.func34, Tryd.ntmps34
      go_wp2_with fail
      go_ret
      exact ⟨rfl, (Below.refl _ _).alloc (Nat.le_refl _) _⟩
    · go_enter Tryd.func34, Tryd.ntmps34
      go_wp2_with (go_at_call 53; refine (version_any t _ ht).mono ?_; rintro e1 w1 ⟨rfl, rfl⟩)
      go_ret
      exact ⟨rfl, (Below.refl _ _).alloc (Nat.le_refl _) _⟩
  | not x ih =>
    intro c0 c1 c2 hb w h
    obtain ⟨rfl, ⟨s, rfl, hs⟩, b, off, cap, x0, x1, x2, rfl, -, g0, g1, g2, hx⟩ := h
    have HX := Lib.hid hx
    have IH := Lib.hid ih
    clear hx ih
    have k0 := cellsA g0
    have k1 := cellsA g1
    have k2 := cellsA g2
    obtain ⟨sx, ax, cx, rfl, rfl, rfl, -⟩ := HX.out.form
    go_enter Tryd.func34, Tryd.ntmps34
    go_wp2_with (go_at_call 34; refine (IH.out _ _ _ (!hb) _ (by exact HX.out.below ((Below.refl _ _).alloc (Nat.le_refl _) _))).mono ?_; rintro e1 w1 ⟨rfl, hb1⟩; have HB1 := Lib.hid hb1; clear hb1)
    go_ret
    exact ⟨rfl, ((Below.refl _ _).alloc (Nat.le_refl _) _).trans (HB1.out.mono (by simp))⟩
  | and x y ihx ihy =>
    intro c0 c1 c2 hb w h
    obtain ⟨rfl, ⟨s, rfl, hs⟩, b, off, cap, x0, x1, x2, y0, y1, y2, rfl, -, g0, g1, g2, g3, g4, g5, hx, hy⟩ := h
    have HX := Lib.hid hx
    have HY := Lib.hid hy
    have IHX := Lib.hid ihx
    have IHY := Lib.hid ihy
    have lb := lt_of_cell g0
    clear hx hy ihx ihy
    obtain ⟨sx, ax, cx, rfl, rfl, rfl, -⟩ := HX.out.form
    obtain ⟨sy, ay, cy, rfl, rfl, rfl, -⟩ := HY.out.form
    obtain ⟨wa, hwa⟩ : ∃ wa, wa = w.alloc (.cells #[.int .i64 3, .string s, .slice (some ⟨b, off, none⟩) 2 cap] 24) := ⟨_, rfl⟩
    go_enter Tryd.func34, Tryd.ntmps34
    go_wp2_with fail
    rw [← hwa]
    have bwa : Below w.heap.size w wa := by rw [hwa]; exact (Below.refl _ _).alloc (Nat.le_refl _) _
    have swa : wa.heap.size = w.heap.size + 1 := by rw [hwa]; simp
    have d0 : wa.cell? ⟨w.heap.size, 0, none⟩ = some (.int .i64 3) := by rw [hwa]; simp [go_sem]
    have d2 : wa.cell? ⟨w.heap.size, 2, none⟩ = some (.slice (some ⟨b, off, none⟩) 2 cap) := by rw [hwa]; simp [go_sem]
    have k0 := (bwa.cell (p := ⟨b, off, none⟩) lb).trans g0
    have k1 := (bwa.cell (p := ⟨b, off + 1, none⟩) lb).trans g1
    have k2 := (bwa.cell (p := ⟨b, off + 2, none⟩) lb).trans g2
    have k3 := (bwa.cell (p := ⟨b, off + 3, none⟩) lb).trans g3
    have k4 := (bwa.cell (p := ⟨b, off + 3 + 1, none⟩) lb).trans g4
    have k5 := (bwa.cell (p := ⟨b, off + 3 + 2, none⟩) lb).trans g5
    have BWA := Lib.hid bwa
    have SWA := Lib.hid swa
    clear bwa hwa swa g0 g1 g2 g3 g4 g5
    obtain ⟨A, hA⟩ : ∃ A, A = x.least hb := ⟨_, rfl⟩
    obtain ⟨B, hB⟩ : ∃ B, B = y.least hb := ⟨_, rfl⟩
    have HA := Lib.hid hA
    have HB := Lib.hid hB
    clear hA hB
    go_region_law (first | (go_simp; go_at_call 34; (with_reducible refine (IHX.out (.int .i64 x.kind) (.string sx) (.slice ax x.arity cx) hb _ (by exact HX.out.below BWA.out.drew)).mono ?_); rw [← HA.out]; rintro e1 w1 ⟨rfl, hb1⟩; have q0 : w1.cell? ⟨w.heap.size, 0, none⟩ = some (.int .i64 3) := (hb1.cell (by have := SWA.out; simp; omega)).trans d0; have q2 : w1.cell? ⟨w.heap.size, 2, none⟩ = some (.slice (some ⟨b, off, none⟩) 2 cap) := (hb1.cell (by have := SWA.out; simp; omega)).trans d2; have q3 : w1.cell? ⟨b, off + 3, none⟩ = some (.int .i64 y.kind) := (hb1.cell (by have := SWA.out; simp; omega)).trans k3; have q4 : w1.cell? ⟨b, off + 3 + 1, none⟩ = some (.string sy) := (hb1.cell (by have := SWA.out; simp; omega)).trans k4; have q5 : w1.cell? ⟨b, off + 3 + 2, none⟩ = some (.slice ay y.arity cy) := (hb1.cell (by have := SWA.out; simp; omega)).trans k5; have HB1 := Lib.hid hb1; clear hb1) | (go_simp; go_at_call 34; (with_reducible refine (IHY.out (.int .i64 y.kind) (.string sy) (.slice ay y.arity cy) hb _ (by exact (HY.out.below BWA.out.drew).below HB1.out)).mono ?_); rw [← HB.out]; rintro e2 w2 ⟨rfl, hb2⟩; have r0 : w2.cell? ⟨w.heap.size, 0, none⟩ = some (.int .i64 3) := (hb2.cell (by have := SWA.out; have := HB1.out.size; simp at *; omega)).trans q0; have HB2 := Lib.hid hb2; clear hb2))
    all_goals
      have hw2 : Below w.heap.size w w2 := (BWA.out.drew.trans (HB1.out.mono BWA.out.drew.size)).trans (HB2.out.mono (Nat.le_trans BWA.out.drew.size HB1.out.size))
      have HW2 := Lib.hid hw2
      clear hw2
      cases hb
      all_goals
        go_wp2_with fail
        all_goals
          go_ret
          exact ⟨ret_i64 (by rw [Ex.least, ← HA.out, ← HB.out]; omega), HW2.out⟩
  | or x y ihx ihy =>
    intro c0 c1 c2 hb w h
    obtain ⟨rfl, ⟨s, rfl, hs⟩, b, off, cap, x0, x1, x2, y0, y1, y2, rfl, -, g0, g1, g2, g3, g4, g5, hx, hy⟩ := h
    have HX := Lib.hid hx
    have HY := Lib.hid hy
    have IHX := Lib.hid ihx
    have IHY := Lib.hid ihy
    have lb := lt_of_cell g0
    clear hx hy ihx ihy
    obtain ⟨sx, ax, cx, rfl, rfl, rfl, -⟩ := HX.out.form
    obtain ⟨sy, ay, cy, rfl, rfl, rfl, -⟩ := HY.out.form
    obtain ⟨wa, hwa⟩ : ∃ wa, wa = w.alloc (.cells #[.int .i64 4, .string s, .slice (some ⟨b, off, none⟩) 2 cap] 24) := ⟨_, rfl⟩
    go_enter Tryd.func34, Tryd.ntmps34
    go_wp2_with fail
    rw [← hwa]
    have bwa : Below w.heap.size w wa := by rw [hwa]; exact (Below.refl _ _).alloc (Nat.le_refl _) _
    have swa : wa.heap.size = w.heap.size + 1 := by rw [hwa]; simp
    have d0 : wa.cell? ⟨w.heap.size, 0, none⟩ = some (.int .i64 4) := by rw [hwa]; simp [go_sem]
    have d2 : wa.cell? ⟨w.heap.size, 2, none⟩ = some (.slice (some ⟨b, off, none⟩) 2 cap) := by rw [hwa]; simp [go_sem]
    have k0 := (bwa.cell (p := ⟨b, off, none⟩) lb).trans g0
    have k1 := (bwa.cell (p := ⟨b, off + 1, none⟩) lb).trans g1
    have k2 := (bwa.cell (p := ⟨b, off + 2, none⟩) lb).trans g2
    have k3 := (bwa.cell (p := ⟨b, off + 3, none⟩) lb).trans g3
    have k4 := (bwa.cell (p := ⟨b, off + 3 + 1, none⟩) lb).trans g4
    have k5 := (bwa.cell (p := ⟨b, off + 3 + 2, none⟩) lb).trans g5
    have BWA := Lib.hid bwa
    have SWA := Lib.hid swa
    clear bwa hwa swa g0 g1 g2 g3 g4 g5
    obtain ⟨A, hA⟩ : ∃ A, A = x.least hb := ⟨_, rfl⟩
    obtain ⟨B, hB⟩ : ∃ B, B = y.least hb := ⟨_, rfl⟩
    have HA := Lib.hid hA
    have HB := Lib.hid hB
    clear hA hB
    go_region_law (first | (go_simp; go_at_call 34; (with_reducible refine (IHX.out (.int .i64 x.kind) (.string sx) (.slice ax x.arity cx) hb _ (by exact HX.out.below BWA.out.drew)).mono ?_); rw [← HA.out]; rintro e1 w1 ⟨rfl, hb1⟩; have q0 : w1.cell? ⟨w.heap.size, 0, none⟩ = some (.int .i64 4) := (hb1.cell (by have := SWA.out; simp; omega)).trans d0; have q2 : w1.cell? ⟨w.heap.size, 2, none⟩ = some (.slice (some ⟨b, off, none⟩) 2 cap) := (hb1.cell (by have := SWA.out; simp; omega)).trans d2; have q3 : w1.cell? ⟨b, off + 3, none⟩ = some (.int .i64 y.kind) := (hb1.cell (by have := SWA.out; simp; omega)).trans k3; have q4 : w1.cell? ⟨b, off + 3 + 1, none⟩ = some (.string sy) := (hb1.cell (by have := SWA.out; simp; omega)).trans k4; have q5 : w1.cell? ⟨b, off + 3 + 2, none⟩ = some (.slice ay y.arity cy) := (hb1.cell (by have := SWA.out; simp; omega)).trans k5; have HB1 := Lib.hid hb1; clear hb1) | (go_simp; go_at_call 34; (with_reducible refine (IHY.out (.int .i64 y.kind) (.string sy) (.slice ay y.arity cy) hb _ (by exact (HY.out.below BWA.out.drew).below HB1.out)).mono ?_); rw [← HB.out]; rintro e2 w2 ⟨rfl, hb2⟩; have r0 : w2.cell? ⟨w.heap.size, 0, none⟩ = some (.int .i64 4) := (hb2.cell (by have := SWA.out; have := HB1.out.size; simp at *; omega)).trans q0; have HB2 := Lib.hid hb2; clear hb2))
    all_goals
      have hw2 : Below w.heap.size w w2 := (BWA.out.drew.trans (HB1.out.mono BWA.out.drew.size)).trans (HB2.out.mono (Nat.le_trans BWA.out.drew.size HB1.out.size))
      have HW2 := Lib.hid hw2
      clear hw2
      cases hb
      all_goals
        go_wp2_with fail
        all_goals
          go_ret
          exact ⟨ret_i64 (by rw [Ex.least, ← HA.out, ← HB.out]; omega), HW2.out⟩

def PlainPost (x : Ex) (w : World) (en : Ending) (w' : World) : Prop := ∃ b, en = .returned (.bool b) ∧ Below w.heap.size w w' ∧ (b = true → x.plain)
def PRel (ts : List ByteArray) (i : Value) : Prop := ∃ k : Nat, k ≤ ts.length ∧ i = .int .i64 k ∧ ∀ j t, ts[j]? = some t → j < k → verB t.data.toList = true
set_option maxHeartbeats 2000000 in
theorem plainly_any (x : Ex) (c0 c1 c2 : Value) (w : World) (h : XIs (fun _ => True) w x c0 c1 c2) (hl : x.leaves ≤ 1000000000) (hts : ∀ t ∈ x.tags, t.size ≤ 1152921504606846976) : Calls Tryd.prog 33 #[.agg #[c0, c1, c2]] w (PlainPost x w) := by
  obtain ⟨sx, ax, cx, rfl, rfl, rfl, -⟩ := h.form
  have HX := Lib.hid h
  have HTS := Lib.hid hts
  clear h hts
  go_enter Tryd.func33, Tryd.ntmps33
  go_wp2_with fail
  refine (tags_any x _ _ _ _ (by exact HX.out.below ((Below.refl _ _).alloc (Nat.le_refl _) _)) hl).mono ?_
  rintro e1 w1 ⟨v, rfl, hss, -, hb1⟩
  have HB1 := Lib.hid (((Below.refl _ _).alloc (Nat.le_refl _) _).trans (hb1.mono (by simp)))
  have HSS := Lib.hid hss
  obtain ⟨av, cv, rfl, hvl, -⟩ : ∃ a cap, v = .slice a x.tags.length cap ∧ x.tags.length ≤ 140737488355328 ∧ True := by obtain ⟨a, cap, h1, h2, _⟩ := hss; exact ⟨a, cap, h1, h2, trivial⟩
  obtain ⟨ts, hts⟩ : ∃ ts, ts = x.tags := ⟨_, rfl⟩
  rw [← hts] at HSS hvl HTS
  rw [← hts]
  have HT := Lib.hid hts
  clear hts hss hb1
  go_wp2_with fail
  go_loop [10] (fun i => PRel ts i) (fun i => ts.length - (intOf i).toNat)
  case atStart => exact ⟨0, Nat.zero_le _, rfl, fun j t _ h => by omega⟩
  case round =>
    obtain ⟨k, hk, rfl, hall⟩ := hrel
    have HALL := Lib.hid hall
    clear hall
    by_cases hlt : k < ts.length
    · obtain ⟨t, ht⟩ : ∃ t, ts[k]? = some t := ⟨_, List.getElem?_eq_getElem hlt⟩
      obtain ⟨b, off, rfl, hcell⟩ := HSS.out.cell ht
      have htz : t.size ≤ 1152921504606846976 := HTS.out t (List.mem_of_getElem? ht)
      have HTK := Lib.hid ht
      clear ht
      go_wp2_with fail
      refine (version_any t _ htz).mono ?_
      unfold VerPost
      generalize verN t.data.toList = vn
      cases hv : verB t.data.toList
      · rintro e2 w2 ⟨rfl, rfl⟩
        clear hv
        go_wp2_with fail
        go_ret
        exact ⟨false, rfl, HB1.out, fun h => by cases h⟩
      · rintro e2 w2 ⟨rfl, rfl⟩
        have HV := Lib.hid hv
        clear hv
        go_wp2_with fail
        exact ⟨⟨k + 1, by omega, by go_num, fun j u hu hj => by
          rcases Nat.lt_or_ge j k with h1 | h1
          · exact HALL.out j u hu h1
          · obtain rfl : j = k := by omega
            obtain rfl := Option.some.inj (hu.symm.trans HTK.out)
            exact HV.out⟩, by simp [intOf]; omega⟩
    · go_wp2_with fail
      go_ret
      refine ⟨true, rfl, HB1.out, fun _ => plain_of_tags x fun t ht => ?_⟩
      rw [← HT.out] at ht
      obtain ⟨j, hj⟩ := List.getElem?_of_mem ht
      have := (List.getElem?_eq_some_iff.1 hj).1
      exact HALL.out j t hj (by omega)
end Go.Proofs.YteemenhinhkonaaDoor
