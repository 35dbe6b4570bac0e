/- The package's GoVersion: the least version of an expression whose tags are plain. -/
import Derived.Test.YteemenhinhkonaaDoorProg
import Derived.Test.YteemenhinhkonaaDoorVer
import Derived.Test.YteemenhinhkonaaDoorReadA
import Derived.Test.YteemenhinhkonaaDoorStr
import Derived.Test.YteemenhinhkonaaDoorImplEval
import Derived.Deep.QuietTactic
import Derived.BigQuiet
import Derived.Lib.AtoiErrMem
import Derived.Test.YteemenhinhkonaaDoorShelfB
namespace Go.Proofs.YteemenhinhkonaaDoor
open Go.RowKit

theorem andVer_any (a b : Int) (w : World) : Calls Tryd.prog 83 #[.int .i64 a, .int .i64 b] w fun e w' => e = .returned (.int .i64 (max a b)) ∧ w = w' := by
  by_cases h : b < a
  · go_enter Tryd.func83, Tryd.ntmps83
    go_wp2_with fail
    go_ret
    exact ⟨ret_i64 (by omega), rfl⟩
  · go_enter Tryd.func83, Tryd.ntmps83
    go_wp2_with fail
    go_ret
    exact ⟨ret_i64 (by omega), rfl⟩
theorem orVer_any (a b : Int) (w : World) : Calls Tryd.prog 84 #[.int .i64 a, .int .i64 b] w fun e w' => e = .returned (.int .i64 (min a b)) ∧ w = w' := by
  by_cases h : a < b
  · go_enter Tryd.func84, Tryd.ntmps84
    go_wp2_with fail
    go_ret
    exact ⟨ret_i64 (by omega), rfl⟩
  · go_enter Tryd.func84, Tryd.ntmps84
    go_wp2_with fail
    go_ret
    exact ⟨ret_i64 (by omega), rfl⟩
theorem below_drewN (w : World) (n : Nat) : Below w.heap.size w (w.drewN n) := ⟨rfl, rfl, rfl, Nat.le_refl _, fun _ _ => rfl⟩
def CRel (s : ByteArray) (v : Value) : Prop := ∃ k : Nat, k ≤ s.size + 1 ∧ v = .int .i64 k
set_option maxHeartbeats 1000000 in
theorem cut_no (s : ByteArray) (w : World) (hs : s.size ≤ 1152921504606846976) (hno : ∀ k, at4 s.data.toList k = false) : Calls Tryd.prog 85 #[.string s, .string { data := #[103, 111, 49, 46] }] w fun e w' => e = .returned (.tuple #[.string s, .string { data := #[] }, .bool false]) ∧ w = w' := by
  have HNO := Lib.hid hno
  clear hno
  go_enter Tryd.func85, Tryd.ntmps85
  go_wp2_with fail
  go_loop [7] (fun i => CRel s i) (fun i => s.size + 1 - (intOf i).toNat)
  case atStart => exact ⟨0, by omega, rfl⟩
  case round =>
    obtain ⟨k, hk, rfl⟩ := hrel
    by_cases hlt : k + 4 ≤ s.size
    · have hc : ((s.extract k (k + 4)).toList == [103, 111, 49, 46]) = false := by rw [extract_take]; exact HNO.out k
      go_wp2_with fail
      exact ⟨⟨k + 1, by omega, by go_num⟩, by simp [intOf]; omega⟩
    · go_wp2_with fail
      go_ret3
      exact ⟨rfl, rfl⟩
set_option maxHeartbeats 1000000 in
theorem cut_zero (s : ByteArray) (w : World) (hs : s.size ≤ 1152921504606846976) (h4 : at4 s.data.toList 0 = true) : Calls Tryd.prog 85 #[.string s, .string { data := #[103, 111, 49, 46] }] w fun e w' => (∃ p, e = .returned (.tuple #[.string p, .string (mkB (s.data.toList.drop 4)), .bool true])) ∧ ∃ n, w' = w.drewN n := by
  have hz : 4 ≤ s.size := by
    unfold at4 at h4
    have := congrArg List.length (eq_of_beq h4)
    simp at this
    have h2 : s.data.size = s.size := rfl
    omega
  have hc : ((s.extract 0 4).toList == [103, 111, 49, 46]) = true := by rw [show (4 : Nat) = 0 + 4 from rfl, extract_take]; exact h4
  clear h4
  go_enter Tryd.func85, Tryd.ntmps85
  go_wp2_with fail
  go_loop [7] (fun i => i = .int .i64 0) (fun i => 0)
  case atStart => rfl
  case round =>
    subst hrel
    have sl0 : ∀ wx, (Instr.slice 9 (.string s) none (some (.int .i64 0)) none).run Tryd.prog wx = .ok (.string (s.extract 0 0)) wx := fun wx => by
      have := run_slice_string_to_if (P := Tryd.prog) wx 9 s .i64 0 Tryd.underlying9
      rw [this, if_pos (by omega)]
      rfl
    have sl1 : ∀ wx, (Instr.slice 9 (.string s) (some (.int .i64 4)) none none).run Tryd.prog wx = .ok (.string (mkB (s.data.toList.drop 4))) wx := fun wx => by
      have := run_slice_string_from_if (P := Tryd.prog) wx 9 s .i64 4 Tryd.underlying9
      rw [this, if_pos (by omega)]
      have e : s.extract (4 : Int).toNat s.size = mkB (s.data.toList.drop 4) := by
        apply toList_inj
        have e4 : 4 + (s.size - 4) = s.size := by omega
        have e5 : s.extract (4 : Int).toNat s.size = s.extract 4 (4 + (s.size - 4)) := by rw [e4]; rfl
        rw [e5, extract_take, ByteArray.toList_eq, mkB_toList, List.take_of_length_le]
        · rfl
        · have h2 : s.data.size = s.size := rfl
          simp [dropB]
      rw [e]
    go_wp2_with fail
    go_quiet (fail)
    all_goals go_wp2_with fail
    all_goals go_ret3
    all_goals exact ⟨⟨_, rfl⟩, _, rfl⟩

def sgn (h : Bool) : Int := if h then 1 else -1
theorem sgn_t : sgn true = 1 := rfl
theorem sgn_f : sgn false = -1 := rfl
theorem atoi_fine {l : List UInt8} (h : fineB l = true) : Lib.atoi (l.drop 4) = some (numV (l.drop 4)) := by
  have dv : ∀ c : UInt8, 48 ≤ c.toNat → c.toNat ≤ 57 → Lib.digitVal c = some (c.toNat - 48) := fun c h1 h2 => by unfold Lib.digitVal; rw [if_pos ⟨h1, h2⟩]
  have ne : ∀ c : UInt8, 48 ≤ c.toNat → (c == 45) = false ∧ (c == 43) = false := fun c h1 => by
    constructor
    · rw [beq_eq_false_iff_ne]
      intro h
      rw [h] at h1
      exact absurd h1 (by decide)
    · rw [beq_eq_false_iff_ne]
      intro h
      rw [h] at h1
      exact absurd h1 (by decide)
  rcases fin_cases2 h with ⟨a, he, h1, h2⟩ | ⟨a, b, he, h1, h2, h3, h4⟩
  · rw [he]
    obtain ⟨n1, n2⟩ := ne a (by omega)
    simp only [Lib.atoi, n1, n2, Lib.decNat, Lib.decFrom, dv a (by omega) h2, numV, List.foldl_cons, List.foldl_nil]
    simp
    omega
  · rw [he]
    obtain ⟨n1, n2⟩ := ne a (by omega)
    simp only [Lib.atoi, n1, n2, Lib.decNat, Lib.decFrom, dv a (by omega) h2, dv b h3 h4, numV, List.foldl_cons, List.foldl_nil]
    simp
    omega

set_option maxHeartbeats 8000000 in
set_option maxRecDepth 100000 in
theorem minVer_any (x : Ex) : ∀ (v : Value) (hb : Bool) (w : World), CIs w x v → x.plain → Calls Tryd.prog 67 #[v, .int .i64 (sgn hb)] w fun e w' => e = .returned (.int .i64 (x.least hb)) ∧ Below w.heap.size w w' := by
  induction x with
  | tag t =>
    intro v hb w h hp
    obtain ⟨b, rfl, hh, ht⟩ := h
    have q0 := cell_at (o := 0) hh (.string t) rfl
    have t2 := fun w => (ta_no (.tag t) b w).2.1 rfl
    have t3 := fun w => (ta_no (.tag t) b w).2.2.1 rfl
    have t4 := fun w => (ta_no (.tag t) b w).2.2.2 rfl
    have t1 := fun w => ta_yes (.tag t) b w
    simp only [Ex.ptr] at t1 t2 t3 t4
    have HP : Hid (verB t.data.toList = true) := Lib.hid hp
    clear hh hp
    cases hb
    · rw [sgn_f]
      go_enter Tryd.func67, Tryd.ntmps67
      go_wp2_with fail
      go_ret
      exact ⟨rfl, Below.refl _ _⟩
    · rw [sgn_t]
      have hl2 : t.data.toList.length = t.size := by simp
      have HL2 := Lib.hid hl2
      clear hl2
      cases hg : goB t.data.toList
      · obtain ⟨hv, hno⟩ := ver_no HP.out hg
        have HV := Lib.hid hv
        have HNO := Lib.hid hno
        have hne : (t.toList == [103, 111, 49]) = false := by
          rw [Bool.eq_false_iff]
          intro h
          rw [ByteArray.toList_eq] at h
          rw [eq_of_beq h] at hg
          revert hg
          decide
        clear hv hno hg
        go_enter Tryd.func67, Tryd.ntmps67
        go_wp2_with (go_at_call 85; refine (cut_no t _ ht HNO.out).mono ?_; rintro e1 w1 ⟨rfl, rfl⟩)
        go_ret
        exact ⟨ret_i64 (by rw [Ex.least, HV.out]), Below.refl _ _⟩
      · obtain ⟨hf, hv⟩ := ver_go HP.out hg
        have HV := Lib.hid hv
        have HF := Lib.hid hf
        obtain ⟨h4, h5, h6, -, -⟩ := fineB_at4 hf
        have H4 := Lib.hid h4
        have hne : (t.toList == [103, 111, 49]) = false := by
          rw [Bool.eq_false_iff]
          intro h
          rw [ByteArray.toList_eq] at h
          rw [eq_of_beq h] at h5
          simp at h5
        obtain ⟨n, hn⟩ : ∃ n, n = numV (t.data.toList.drop 4) := ⟨_, rfl⟩
        have HN := Lib.hid hn
        have h7 : (t.data.toList.drop 4).length ≤ 18 := by rw [List.length_drop]; omega
        have HS : Hid ((mkB (t.data.toList.drop 4)).size ≤ 18) := Lib.hid (by rw [mkB_size]; exact h7)
        clear hv hf hg h4 h5 h6 h7 hn
        go_enter Tryd.func67, Tryd.ntmps67
        go_wp2_with (first | (go_at_call 85; refine (cut_zero t _ ht H4.out).mono ?_; rintro e1 w1 ⟨⟨p, rfl⟩, m, rfl⟩) | (go_at_call 86; refine (Tryd.strconv_Atoi _ n HS.out (by rw [mkB_toList, atoi_fine HF.out, ← HN.out]) _).mono ?_; rintro e2 w2 ⟨rfl, tt, rfl⟩))
        go_ret
        exact ⟨ret_i64 (by rw [Ex.least, HV.out, ← HN.out]), (below_drewN w m).trans (Lib.bytesWorld_below (w.drewN m) _ _)⟩
  | not x ih =>
    intro v hb w h hp
    obtain ⟨b, vx, rfl, hh, hx⟩ := h
    obtain ⟨bx, rfl⟩ := hx.form
    have q0 := cell_at (o := 0) hh (.iface x.ptr (.pointer (some ⟨bx, 0, none⟩))) rfl
    have t3 := fun w => (ta_no (.not x) b w).2.2.1 rfl
    have t4 := fun w => (ta_no (.not x) b w).2.2.2 rfl
    have t2 := fun w => ta_yes (.not x) b w
    simp only [Ex.ptr] at t2 t3 t4
    have HX := Lib.hid hx
    have IH := Lib.hid ih
    have HP := Lib.hid hp
    clear hh hx ih hp
    cases hb
    · rw [sgn_f]
      go_enter Tryd.func67, Tryd.ntmps67
      go_wp2_with (go_at_call 67; refine (IH.out _ true _ HX.out HP.out).mono ?_; rintro e1 w1 ⟨rfl, hb1⟩; have HB1 := Lib.hid hb1; clear hb1)
      go_ret
      exact ⟨rfl, HB1.out⟩
    · rw [sgn_t]
      go_enter Tryd.func67, Tryd.ntmps67
      go_wp2_with (go_at_call 67; refine (IH.out _ false _ HX.out HP.out).mono ?_; rintro e1 w1 ⟨rfl, hb1⟩; have HB1 := Lib.hid hb1; clear hb1)
      go_ret
      exact ⟨rfl, HB1.out⟩
  | and x y ihx ihy =>
    intro v hb w h hp
    obtain ⟨b, vx, vy, rfl, hh, hx, hy⟩ := h
    obtain ⟨bx, rfl⟩ := hx.form
    obtain ⟨by_, rfl⟩ := hy.form
    have t4 := fun w => ta_yes (.and x y) b w
    simp only [Ex.ptr] at t4
    have HX := Lib.hid hx
    have HY := Lib.hid hy
    have IXf : Hid (∀ (v : Value) (w : World), CIs w x v → x.plain → Calls Tryd.prog 67 #[v, .int .i64 (-1)] w fun e w' => e = .returned (.int .i64 (x.least false)) ∧ Below w.heap.size w w') := Lib.hid fun v w h hp => ihx v false w h hp
    have IXt : Hid (∀ (v : Value) (w : World), CIs w x v → x.plain → Calls Tryd.prog 67 #[v, .int .i64 (1)] w fun e w' => e = .returned (.int .i64 (x.least true)) ∧ Below w.heap.size w w') := Lib.hid fun v w h hp => ihx v true w h hp
    have IYf : Hid (∀ (v : Value) (w : World), CIs w y v → y.plain → Calls Tryd.prog 67 #[v, .int .i64 (-1)] w fun e w' => e = .returned (.int .i64 (y.least false)) ∧ Below w.heap.size w w') := Lib.hid fun v w h hp => ihy v false w h hp
    have IYt : Hid (∀ (v : Value) (w : World), CIs w y v → y.plain → Calls Tryd.prog 67 #[v, .int .i64 (1)] w fun e w' => e = .returned (.int .i64 (y.least true)) ∧ Below w.heap.size w w') := Lib.hid fun v w h hp => ihy v true w h hp
    have HH := Lib.hid hh
    have HPX : Hid x.plain := Lib.hid hp.1
    have HPY : Hid y.plain := Lib.hid hp.2
    have k0 := cell_at (o := 0) hh (.iface x.ptr (.pointer (some ⟨bx, 0, none⟩))) rfl
    have k1 := cell_at (o := 1) hh (.iface y.ptr (.pointer (some ⟨by_, 0, none⟩))) rfl
    have HD : Hid (Below w.heap.size w w.drew) := Lib.hid (Below.refl _ _).drew
    have tok1 : True := trivial
    clear hh hx hy ihx ihy hp
    cases hb
    · obtain ⟨A, hA⟩ : ∃ A, A = x.least false := ⟨_, rfl⟩
      obtain ⟨B, hB⟩ : ∃ B, B = y.least false := ⟨_, rfl⟩
      have HA := Lib.hid hA
      have HB := Lib.hid hB
      clear hA hB
      rw [sgn_f]
      go_enter Tryd.func67, Tryd.ntmps67
      go_wp2_with fail
      go_region_law (first | (go_simp; go_at_call 67; have _t := tok1; (with_reducible refine (IXf.out _ _ (by exact HX.out.below HD.out) HPX.out).mono ?_); rw [← HA.out]; rintro e1 w1 ⟨rfl, hb1⟩; have HN1 := Lib.hid (HD.out.trans (hb1.mono HD.out.size)); have hk := (HN1.out.block b (lt_of_heap HH.out)).trans HH.out; have q0 := cell_at (o := 0) hk (.iface x.ptr (.pointer (some ⟨bx, 0, none⟩))) rfl; have q1 := cell_at (o := 1) hk (.iface y.ptr (.pointer (some ⟨by_, 0, none⟩))) rfl; clear hb1 hk _t tok1) | (go_simp; go_at_call 67; (with_reducible refine (IYf.out _ _ (by exact HY.out.below HN1.out) HPY.out).mono ?_); rw [← HB.out]; rintro e2 w2 ⟨rfl, hb2⟩; have HN2 := Lib.hid (HN1.out.trans (hb2.mono HN1.out.size)); clear hb2) | (go_simp; go_at_call 84; (with_reducible refine (orVer_any _ _ _).mono ?_); rintro e3 w3 ⟨rfl, rfl⟩))
      all_goals go_wp2_with fail
      all_goals go_ret
      all_goals exact ⟨ret_i64 (by rw [Ex.least, ← HA.out, ← HB.out]), HN2.out⟩
    · obtain ⟨A, hA⟩ : ∃ A, A = x.least true := ⟨_, rfl⟩
      obtain ⟨B, hB⟩ : ∃ B, B = y.least true := ⟨_, rfl⟩
      have HA := Lib.hid hA
      have HB := Lib.hid hB
      clear hA hB
      rw [sgn_t]
      go_enter Tryd.func67, Tryd.ntmps67
      go_wp2_with fail
      go_region_law (first | (go_simp; go_at_call 67; have _t := tok1; (with_reducible refine (IXt.out _ _ (by exact HX.out.below HD.out) HPX.out).mono ?_); rw [← HA.out]; rintro e1 w1 ⟨rfl, hb1⟩; have HN1 := Lib.hid (HD.out.trans (hb1.mono HD.out.size)); have hk := (HN1.out.block b (lt_of_heap HH.out)).trans HH.out; have q0 := cell_at (o := 0) hk (.iface x.ptr (.pointer (some ⟨bx, 0, none⟩))) rfl; have q1 := cell_at (o := 1) hk (.iface y.ptr (.pointer (some ⟨by_, 0, none⟩))) rfl; clear hb1 hk _t tok1) | (go_simp; go_at_call 67; (with_reducible refine (IYt.out _ _ (by exact HY.out.below HN1.out) HPY.out).mono ?_); rw [← HB.out]; rintro e2 w2 ⟨rfl, hb2⟩; have HN2 := Lib.hid (HN1.out.trans (hb2.mono HN1.out.size)); clear hb2) | (go_simp; go_at_call 83; (with_reducible refine (andVer_any _ _ _).mono ?_); rintro e3 w3 ⟨rfl, rfl⟩))
      all_goals go_wp2_with fail
      all_goals go_ret
      all_goals exact ⟨ret_i64 (by rw [Ex.least, ← HA.out, ← HB.out]), HN2.out⟩
  | or x y ihx ihy =>
    intro v hb w h hp
    obtain ⟨b, vx, vy, rfl, hh, hx, hy⟩ := h
    obtain ⟨bx, rfl⟩ := hx.form
    obtain ⟨by_, rfl⟩ := hy.form
    have t3 := fun w => (ta_no (.or x y) b w).2.2.1 rfl
    have t4 := fun w => ta_yes (.or x y) b w
    simp only [Ex.ptr] at t3 t4
    have HX := Lib.hid hx
    have HY := Lib.hid hy
    have IXf : Hid (∀ (v : Value) (w : World), CIs w x v → x.plain → Calls Tryd.prog 67 #[v, .int .i64 (-1)] w fun e w' => e = .returned (.int .i64 (x.least false)) ∧ Below w.heap.size w w') := Lib.hid fun v w h hp => ihx v false w h hp
    have IXt : Hid (∀ (v : Value) (w : World), CIs w x v → x.plain → Calls Tryd.prog 67 #[v, .int .i64 (1)] w fun e w' => e = .returned (.int .i64 (x.least true)) ∧ Below w.heap.size w w') := Lib.hid fun v w h hp => ihx v true w h hp
    have IYf : Hid (∀ (v : Value) (w : World), CIs w y v → y.plain → Calls Tryd.prog 67 #[v, .int .i64 (-1)] w fun e w' => e = .returned (.int .i64 (y.least false)) ∧ Below w.heap.size w w') := Lib.hid fun v w h hp => ihy v false w h hp
    have IYt : Hid (∀ (v : Value) (w : World), CIs w y v → y.plain → Calls Tryd.prog 67 #[v, .int .i64 (1)] w fun e w' => e = .returned (.int .i64 (y.least true)) ∧ Below w.heap.size w w') := Lib.hid fun v w h hp => ihy v true w h hp
    have HH := Lib.hid hh
    have HPX : Hid x.plain := Lib.hid hp.1
    have HPY : Hid y.plain := Lib.hid hp.2
    have k0 := cell_at (o := 0) hh (.iface x.ptr (.pointer (some ⟨bx, 0, none⟩))) rfl
    have k1 := cell_at (o := 1) hh (.iface y.ptr (.pointer (some ⟨by_, 0, none⟩))) rfl
    have HD : Hid (Below w.heap.size w w.drew) := Lib.hid (Below.refl _ _).drew
    have tok1 : True := trivial
    clear hh hx hy ihx ihy hp
    cases hb
    · obtain ⟨A, hA⟩ : ∃ A, A = x.least false := ⟨_, rfl⟩
      obtain ⟨B, hB⟩ : ∃ B, B = y.least false := ⟨_, rfl⟩
      have HA := Lib.hid hA
      have HB := Lib.hid hB
      clear hA hB
      rw [sgn_f]
      go_enter Tryd.func67, Tryd.ntmps67
      go_wp2_with fail
      go_region_law (first | (go_simp; go_at_call 67; have _t := tok1; (with_reducible refine (IXf.out _ _ (by exact HX.out.below HD.out) HPX.out).mono ?_); rw [← HA.out]; rintro e1 w1 ⟨rfl, hb1⟩; have HN1 := Lib.hid (HD.out.trans (hb1.mono HD.out.size)); have hk := (HN1.out.block b (lt_of_heap HH.out)).trans HH.out; have q0 := cell_at (o := 0) hk (.iface x.ptr (.pointer (some ⟨bx, 0, none⟩))) rfl; have q1 := cell_at (o := 1) hk (.iface y.ptr (.pointer (some ⟨by_, 0, none⟩))) rfl; clear hb1 hk _t tok1) | (go_simp; go_at_call 67; (with_reducible refine (IYf.out _ _ (by exact HY.out.below HN1.out) HPY.out).mono ?_); rw [← HB.out]; rintro e2 w2 ⟨rfl, hb2⟩; have HN2 := Lib.hid (HN1.out.trans (hb2.mono HN1.out.size)); clear hb2) | (go_simp; go_at_call 83; (with_reducible refine (andVer_any _ _ _).mono ?_); rintro e3 w3 ⟨rfl, rfl⟩))
      all_goals go_wp2_with fail
      all_goals go_ret
      all_goals exact ⟨ret_i64 (by rw [Ex.least, ← HA.out, ← HB.out]), HN2.out⟩
    · obtain ⟨A, hA⟩ : ∃ A, A = x.least true := ⟨_, rfl⟩
      obtain ⟨B, hB⟩ : ∃ B, B = y.least true := ⟨_, rfl⟩
      have HA := Lib.hid hA
      have HB := Lib.hid hB
      clear hA hB
      rw [sgn_t]
      go_enter Tryd.func67, Tryd.ntmps67
      go_wp2_with fail
      go_region_law (first | (go_simp; go_at_call 67; have _t := tok1; (with_reducible refine (IXt.out _ _ (by exact HX.out.below HD.out) HPX.out).mono ?_); rw [← HA.out]; rintro e1 w1 ⟨rfl, hb1⟩; have HN1 := Lib.hid (HD.out.trans (hb1.mono HD.out.size)); have hk := (HN1.out.block b (lt_of_heap HH.out)).trans HH.out; have q0 := cell_at (o := 0) hk (.iface x.ptr (.pointer (some ⟨bx, 0, none⟩))) rfl; have q1 := cell_at (o := 1) hk (.iface y.ptr (.pointer (some ⟨by_, 0, none⟩))) rfl; clear hb1 hk _t tok1) | (go_simp; go_at_call 67; (with_reducible refine (IYt.out _ _ (by exact HY.out.below HN1.out) HPY.out).mono ?_); rw [← HB.out]; rintro e2 w2 ⟨rfl, hb2⟩; have HN2 := Lib.hid (HN1.out.trans (hb2.mono HN1.out.size)); clear hb2) | (go_simp; go_at_call 84; (with_reducible refine (orVer_any _ _ _).mono ?_); rintro e3 w3 ⟨rfl, rfl⟩))
      all_goals go_wp2_with fail
      all_goals go_ret
      all_goals exact ⟨ret_i64 (by rw [Ex.least, ← HA.out, ← HB.out]), HN2.out⟩
end Go.Proofs.YteemenhinhkonaaDoor
