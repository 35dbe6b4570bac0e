/- The package's methods String: the text of an expression. -/
import Derived.Test.YteemenhinhkonaaDoorProg
import Derived.Test.YteemenhinhkonaaDoorBuild
import Derived.Test.YteemenhinhkonaaDoorImplEval
import Derived.Test.YteemenhinhkonaaDoorText
import Derived.Deep.QuietTactic
import Derived.BigQuiet
namespace Go.Proofs.YteemenhinhkonaaDoor
open Go.RowKit

def mkB (l : List UInt8) : ByteArray := ⟨l.toArray⟩
theorem mkB_size (l : List UInt8) : (mkB l).size = l.length := by unfold mkB; simp [ByteArray.size]
theorem mkB_toList (l : List UInt8) : (mkB l).data.toList = l := by unfold mkB; simp
theorem mkB_data (s : ByteArray) : mkB s.data.toList = s := rfl
theorem mkB_append (a b : List UInt8) : mkB a ++ mkB b = mkB (a ++ b) := ByteArray.mk_append_mk a b
theorem text_not (x : Ex) : (Ex.not x).text = 33 :: brk (x.kind == 3 || x.kind == 4) x.text := rfl

def Ex.strF : Ex → FuncId
  | .tag _ => 164
  | .not _ => 153
  | .and _ _ => 156
  | .or _ _ => 160
theorem enter_str (x : Ex) (args : Array Value) (w : World) : (callFunc x.strF args).run Tryd.prog w = .ok (.enter x.strF args) w := by
  cases x with
  | tag t => exact run_enter Tryd.func164 (by kernel_rfl) rfl args w
  | not x => exact run_enter Tryd.func153 (by kernel_rfl) rfl args w
  | and x y => exact run_enter Tryd.func156 (by kernel_rfl) rfl args w
  | or x y => exact run_enter Tryd.func160 (by kernel_rfl) rfl args w
theorem method_str (x : Ex) (a : Addr) (w : World) : (method 302 x.ptr (.pointer (some a)) "String").run Tryd.prog w = .ok (x.strF, .pointer (some a)) w := by
  cases x with
  | tag t => kernel_rfl
  | not x => kernel_rfl
  | and x y => kernel_rfl
  | or x y => kernel_rfl
theorem CIs.heap {w w' : World} (hh : w'.heap = w.heap) {x : Ex} {v : Value} (h : CIs w x v) : CIs w' x v := CIs.keep (fun b _ _ _ _ _ => by rw [hh]) h

theorem CIs.drewN {w : World} {x : Ex} {v : Value} (h : CIs w x v) (n : Nat) : CIs (w.drewN n) x v := CIs.heap (w := w) (w' := w.drewN n) rfl h
/- x.(*T): yes and no -/
theorem ta_yes (x : Ex) (b : Nat) (w : World) : (Instr.typeAssert (.iface x.ptr (.pointer (some ⟨b, 0, none⟩))) 63 x.ptr true).run Tryd.prog w = .ok (.tuple #[.pointer (some ⟨b, 0, none⟩), .bool true]) w := by
  cases x with
  | tag t => kernel_rfl
  | not x => kernel_rfl
  | and x y => kernel_rfl
  | or x y => kernel_rfl
theorem ta_no (x : Ex) (b : Nat) (w : World) :
    ((x.kind == 1) = false → (Instr.typeAssert (.iface x.ptr (.pointer (some ⟨b, 0, none⟩))) 63 94 true).run Tryd.prog w = .ok (.tuple #[.pointer none, .bool false]) w) ∧
    ((x.kind == 2) = false → (Instr.typeAssert (.iface x.ptr (.pointer (some ⟨b, 0, none⟩))) 63 86 true).run Tryd.prog w = .ok (.tuple #[.pointer none, .bool false]) w) ∧
    ((x.kind == 3) = false → (Instr.typeAssert (.iface x.ptr (.pointer (some ⟨b, 0, none⟩))) 63 89 true).run Tryd.prog w = .ok (.tuple #[.pointer none, .bool false]) w) ∧
    ((x.kind == 4) = false → (Instr.typeAssert (.iface x.ptr (.pointer (some ⟨b, 0, none⟩))) 63 92 true).run Tryd.prog w = .ok (.tuple #[.pointer none, .bool false]) w) := by
  cases x with
  | tag t => exact ⟨(fun h => by cases h), fun _ => by kernel_rfl, fun _ => by kernel_rfl, fun _ => by kernel_rfl⟩
  | not x => exact ⟨fun _ => by kernel_rfl, (fun h => by cases h), fun _ => by kernel_rfl, fun _ => by kernel_rfl⟩
  | and x y => exact ⟨fun _ => by kernel_rfl, fun _ => by kernel_rfl, (fun h => by cases h), fun _ => by kernel_rfl⟩
  | or x y => exact ⟨fun _ => by kernel_rfl, fun _ => by kernel_rfl, fun _ => by kernel_rfl, (fun h => by cases h)⟩
theorem kind_and {x : Ex} (h : (x.kind == 3) = true) : x.ptr = 89 := by
  cases x with
  | and x y => rfl
  | tag t => cases h
  | not x => cases h
  | or x y => cases h
theorem kind_or {x : Ex} (h : (x.kind == 4) = true) : x.ptr = 92 := by
  cases x with
  | or x y => rfl
  | tag t => cases h
  | not x => cases h
  | and x y => cases h
theorem ta_and (x : Ex) (h : (x.kind == 3) = true) (b : Nat) (w : World) : (Instr.typeAssert (.iface x.ptr (.pointer (some ⟨b, 0, none⟩))) 63 89 true).run Tryd.prog w = .ok (.tuple #[.pointer (some ⟨b, 0, none⟩), .bool true]) w := by
  have := ta_yes x b w
  rw [kind_and h] at this ⊢
  exact this
theorem ta_or (x : Ex) (h : (x.kind == 4) = true) (b : Nat) (w : World) : (Instr.typeAssert (.iface x.ptr (.pointer (some ⟨b, 0, none⟩))) 63 92 true).run Tryd.prog w = .ok (.tuple #[.pointer (some ⟨b, 0, none⟩), .bool true]) w := by
  have := ta_yes x b w
  rw [kind_or h] at this ⊢
  exact this

theorem brk_t (l : List UInt8) : ({ data := #[40] } : ByteArray) ++ mkB l ++ { data := #[41] } = mkB (brk true l) := by
  rw [show ({ data := #[40] } : ByteArray) = mkB [40] from rfl, show ({ data := #[41] } : ByteArray) = mkB [41] from rfl, mkB_append, mkB_append]
  rfl
theorem bang (l : List UInt8) : ({ data := #[33] } : ByteArray) ++ mkB l = mkB (33 :: l) := by
  rw [show ({ data := #[33] } : ByteArray) = mkB [33] from rfl, mkB_append]
  rfl

def StrC (x : Ex) : Prop := ∀ (b : Nat) (w : World), CIs w x (.iface x.ptr (.pointer (some ⟨b, 0, none⟩))) → x.text.length ≤ 4611686018427387904 →
    Calls Tryd.prog x.strF #[.pointer (some ⟨b, 0, none⟩)] w fun e w' => e = .returned (.string (mkB x.text)) ∧ ∃ m, w' = w.drewN m

set_option maxHeartbeats 400000 in
theorem andArg_of (x : Ex) (h : StrC x) (v : Value) (w : World) (hc : CIs w x v) (hs : x.text.length ≤ 4611686018427387904) :
    Calls Tryd.prog 158 #[v] w fun e w' => e = .returned (.string (mkB (andA x))) ∧ ∃ m, w' = w.drewN m := by
  obtain ⟨b, rfl⟩ := hc.form
  have HC := Lib.hid hc
  have H := Lib.hid h
  clear hc h
  have me := fun w => method_str x ⟨b, 0, none⟩ w
  have en := fun args w => enter_str x args w
  have hz : (mkB x.text).size ≤ 4611686018427387904 := by rw [mkB_size]; exact hs
  cases hk : x.kind == 4
  · have ta := fun w => (ta_no x b w).2.2.2 hk
    have HK := Lib.hid hk
    clear hk
    go_enter Tryd.func158, Tryd.ntmps158
    go_wp2_with fail
    refine (H.out b _ HC.out hs).mono ?_
    rintro e1 w1 ⟨rfl, m, rfl⟩
    go_wp2_with fail
    go_ret
    exact ⟨ret_str (by unfold andA; rw [HK.out]; rfl), m, rfl⟩
  · have ta := fun w => ta_or x hk b w
    have HK := Lib.hid hk
    clear hk
    go_enter Tryd.func158, Tryd.ntmps158
    go_wp2_with fail
    refine (H.out b _ HC.out hs).mono ?_
    rintro e1 w1 ⟨rfl, m, rfl⟩
    go_wp2_with fail
    go_ret
    exact ⟨ret_str (by rw [brk_t]; unfold andA; rw [HK.out]), m, rfl⟩
set_option maxHeartbeats 400000 in
theorem orArg_of (x : Ex) (h : StrC x) (v : Value) (w : World) (hc : CIs w x v) (hs : x.text.length ≤ 4611686018427387904) :
    Calls Tryd.prog 162 #[v] w fun e w' => e = .returned (.string (mkB (orA x))) ∧ ∃ m, w' = w.drewN m := by
  obtain ⟨b, rfl⟩ := hc.form
  have HC := Lib.hid hc
  have H := Lib.hid h
  clear hc h
  have me := fun w => method_str x ⟨b, 0, none⟩ w
  have en := fun args w => enter_str x args w
  have hz : (mkB x.text).size ≤ 4611686018427387904 := by rw [mkB_size]; exact hs
  cases hk : x.kind == 3
  · have ta := fun w => (ta_no x b w).2.2.1 hk
    have HK := Lib.hid hk
    clear hk
    go_enter Tryd.func162, Tryd.ntmps162
    go_wp2_with fail
    refine (H.out b _ HC.out hs).mono ?_
    rintro e1 w1 ⟨rfl, m, rfl⟩
    go_wp2_with fail
    go_ret
    exact ⟨ret_str (by unfold orA; rw [HK.out]; rfl), m, rfl⟩
  · have ta := fun w => ta_and x hk b w
    have HK := Lib.hid hk
    clear hk
    go_enter Tryd.func162, Tryd.ntmps162
    go_wp2_with fail
    refine (H.out b _ HC.out hs).mono ?_
    rintro e1 w1 ⟨rfl, m, rfl⟩
    go_wp2_with fail
    go_ret
    exact ⟨ret_str (by rw [brk_t]; unfold orA; rw [HK.out]), m, rfl⟩
theorem brk_len (b : Bool) (l : List UInt8) : l.length ≤ (brk b l).length ∧ (brk b l).length ≤ l.length + 2 := by
  cases b <;> simp [brk] <;> omega
set_option maxHeartbeats 1000000 in
theorem str_any (x : Ex) : StrC x := by
  induction x with
  | tag t =>
    intro b w h hs
    obtain ⟨b', hb', hh, ht⟩ := h
    obtain rfl : b = b' := by simpa [Ex.ptr] using hb'
    have q0 := cell_at (o := 0) hh (.string t) rfl
    clear hh hb' hs
    go_enter Tryd.func164, Tryd.ntmps164
    go_wp2_with fail
    go_ret
    exact ⟨rfl, 0, rfl⟩
  | not x ih =>
    intro b w h hs
    obtain ⟨b', vx, hb', hh, hx⟩ := h
    obtain rfl : b = b' := by simpa [Ex.ptr] using hb'
    obtain ⟨bx, rfl⟩ := hx.form
    have q0 := cell_at (o := 0) hh (.iface x.ptr (.pointer (some ⟨bx, 0, none⟩))) rfl
    have HX := Lib.hid hx
    have IH := Lib.hid ih
    have hl := (brk_len (x.kind == 3 || x.kind == 4) x.text).1
    have hs' : x.text.length ≤ 4611686018427387904 := by rw [text_not] at hs; simp at hs; omega
    have hz : (mkB x.text).size ≤ 4611686018427387904 := by rw [mkB_size]; exact hs'
    clear hh hb' hx ih hs hl
    have me := fun w => method_str x ⟨bx, 0, none⟩ w
    have en := fun args w => enter_str x args w
    cases hk : x.kind == 3
    · have ta := fun w => (ta_no x bx w).2.2.1 hk
      cases hk' : x.kind == 4
      · have ta' := fun w => (ta_no x bx w).2.2.2 hk'
        have HK := Lib.hid hk
        have HK' := Lib.hid hk'
        clear hk hk'
        go_enter Tryd.func153, Tryd.ntmps153
        go_wp2_with fail
        refine (IH.out bx _ HX.out hs').mono ?_
        rintro e1 w1 ⟨rfl, m, rfl⟩
        go_wp2_with fail
        go_ret
        exact ⟨ret_str (by rw [bang, text_not, HK.out, HK'.out]; rfl), m, rfl⟩
      · have ta' := fun w => ta_or x hk' bx w
        have HK := Lib.hid hk
        have HK' := Lib.hid hk'
        clear hk hk'
        go_enter Tryd.func153, Tryd.ntmps153
        go_wp2_with fail
        refine (IH.out bx _ HX.out hs').mono ?_
        rintro e1 w1 ⟨rfl, m, rfl⟩
        go_wp2_with fail
        go_ret
        exact ⟨ret_str (by rw [brk_t, bang, text_not, HK.out, HK'.out]; rfl), m, rfl⟩
    · have hk' : (x.kind == 4) = false := by rw [beq_eq_false_iff_ne]; rw [beq_iff_eq] at hk; omega
      have ta := fun w => ta_and x hk bx w
      have ta' := fun w => (ta_no x bx w).2.2.2 hk'
      have HK := Lib.hid hk
      clear hk hk'
      go_enter Tryd.func153, Tryd.ntmps153
      go_wp2_with fail
      refine (IH.out bx _ HX.out hs').mono ?_
      rintro e1 w1 ⟨rfl, m, rfl⟩
      go_wp2_with fail
      go_ret
      exact ⟨ret_str (by rw [brk_t, bang, text_not, HK.out]; rfl), m, rfl⟩
  | and x y ihx ihy =>
    intro b w h hs
    obtain ⟨b', vx, vy, hb', hh, hx, hy⟩ := h
    obtain rfl : b = b' := by simpa [Ex.ptr] using hb'
    have q0 := cell_at (o := 0) hh vx rfl
    have q1 := cell_at (o := 1) hh vy rfl
    obtain ⟨bx, rfl⟩ := hx.form
    obtain ⟨by_, rfl⟩ := hy.form
    have HX := Lib.hid hx
    have HY := Lib.hid hy
    have IHX := Lib.hid ihx
    have IHY := Lib.hid ihy
    have hlx := brk_len (x.kind == 4) x.text
    have hly := brk_len (y.kind == 4) y.text
    have hsz : (andA x).length + 4 + (andA y).length ≤ 4611686018427387904 := by rw [text_and] at hs; simp [sAnd] at hs; omega
    have hsx : x.text.length ≤ 4611686018427387904 := by unfold andA at hsz; omega
    have hsy : y.text.length ≤ 4611686018427387904 := by unfold andA at hsz; omega
    have r1 := fun w => run_string_add_sum (P := Tryd.prog) w (mkB (andA x)) { data := #[32, 38, 38, 32] } (by rw [mkB_size]; show _ + 4 ≤ _; omega)
    have r2 := fun w => run_string_add_sum (P := Tryd.prog) w (mkB (andA x) ++ { data := #[32, 38, 38, 32] }) (mkB (andA y)) (by rw [ByteArray.size_append, mkB_size, mkB_size]; show _ + 4 + _ ≤ _; omega)
    clear hh hb' hx hy ihx ihy hs hlx hly hsz
    go_enter Tryd.func156, Tryd.ntmps156
    go_wp2_with fail
    go_quiet (first | (go_at_call_of 158 bx; refine Calls.quiet_of (andArg_of x IHX.out _ _ ?_ hsx); exact HX.out.drewN _) | (go_at_call_of 158 by_; refine Calls.quiet_of (andArg_of y IHY.out _ _ ?_ hsy); exact HY.out.drewN _))
    go_wp2_with fail
    go_ret
    exact ⟨ret_str (by rw [text_and]; rw [show ({ data := #[32, 38, 38, 32] } : ByteArray) = mkB sAnd from rfl, mkB_append, mkB_append, List.append_assoc]), nq, rfl⟩
  | or x y ihx ihy =>
    intro b w h hs
    obtain ⟨b', vx, vy, hb', hh, hx, hy⟩ := h
    obtain rfl : b = b' := by simpa [Ex.ptr] using hb'
    have q0 := cell_at (o := 0) hh vx rfl
    have q1 := cell_at (o := 1) hh vy rfl
    obtain ⟨bx, rfl⟩ := hx.form
    obtain ⟨by_, rfl⟩ := hy.form
    have HX := Lib.hid hx
    have HY := Lib.hid hy
    have IHX := Lib.hid ihx
    have IHY := Lib.hid ihy
    have hlx := brk_len (x.kind == 3) x.text
    have hly := brk_len (y.kind == 3) y.text
    have hsz : (orA x).length + 4 + (orA y).length ≤ 4611686018427387904 := by rw [text_or] at hs; simp [sOr] at hs; omega
    have hsx : x.text.length ≤ 4611686018427387904 := by unfold orA at hsz; omega
    have hsy : y.text.length ≤ 4611686018427387904 := by unfold orA at hsz; omega
    have r1 := fun w => run_string_add_sum (P := Tryd.prog) w (mkB (orA x)) { data := #[32, 124, 124, 32] } (by rw [mkB_size]; show _ + 4 ≤ _; omega)
    have r2 := fun w => run_string_add_sum (P := Tryd.prog) w (mkB (orA x) ++ { data := #[32, 124, 124, 32] }) (mkB (orA y)) (by rw [ByteArray.size_append, mkB_size, mkB_size]; show _ + 4 + _ ≤ _; omega)
    clear hh hb' hx hy ihx ihy hs hlx hly hsz
    go_enter Tryd.func160, Tryd.ntmps160
    go_wp2_with fail
    go_quiet (first | (go_at_call_of 162 bx; refine Calls.quiet_of (orArg_of x IHX.out _ _ ?_ hsx); exact HX.out.drewN _) | (go_at_call_of 162 by_; refine Calls.quiet_of (orArg_of y IHY.out _ _ ?_ hsy); exact HY.out.drewN _))
    go_wp2_with fail
    go_ret
    exact ⟨ret_str (by rw [text_or]; rw [show ({ data := #[32, 124, 124, 32] } : ByteArray) = mkB sOr from rfl, mkB_append, mkB_append, List.append_assoc]), nq, rfl⟩
end Go.Proofs.YteemenhinhkonaaDoor
