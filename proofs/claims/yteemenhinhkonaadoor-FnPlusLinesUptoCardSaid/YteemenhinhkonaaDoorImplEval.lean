/- The contract of impl.Eval, through the package's methods Eval and the function value that it hands on. -/
import Derived.Test.YteemenhinhkonaaDoorProg
import Derived.Test.YteemenhinhkonaaDoorBuild
namespace Go.Proofs.YteemenhinhkonaaDoor
open Go.RowKit

def Ex.evalF : Ex → FuncId
  | .tag _ => 163
  | .not _ => 152
  | .and _ _ => 155
  | .or _ _ => 159

set_option maxHeartbeats 400000 in
theorem clos_any (bc : Nat) (v : Value) (ss : List ByteArray) (s : ByteArray) (w : World) (hc0 : w.cell? ⟨bc, 0, none⟩ = some v) (h : SS w v ss) :
    Calls Tryd.prog 47 #[.string s, .pointer (some ⟨bc, 0, none⟩)] w fun e w' => e = .returned (.bool (hasB ss s)) ∧ w = w' := by
  obtain ⟨a, cap, rfl, hlen, hc⟩ := h
  have HC := Lib.hid hc
  clear hc
  go_enter Tryd.func47, Tryd.ntmps47
  go_wp2
  go_loop [8] (fun i => ∃ k : Nat, k ≤ ss.length ∧ i = .int .i64 k ∧ hasB (ss.take k) s = false) (fun i => ss.length - (intOf i).toNat)
  case atStart => exact ⟨0, Nat.zero_le _, rfl, rfl⟩
  case round =>
    obtain ⟨k, hk, rfl, hno⟩ := hrel
    have HN := Lib.hid hno
    clear hno
    by_cases hlt : k < ss.length
    · obtain ⟨x, hx⟩ : ∃ x, ss[k]? = some x := ⟨_, List.getElem?_eq_getElem hlt⟩
      obtain ⟨b, off, rfl, hcell⟩ := HC.out k x hx
      have HX := Lib.hid hx
      clear hx
      go_wp2
      · have hb : (x.toList == s.toList) = true := by assumption
        go_ret
        exact ⟨ret_bool (any_true_of HX.out hb).symm, rfl⟩
      · have hb : (x.toList == s.toList) = false := by assumption
        exact ⟨⟨k + 1, hlt, by go_num, any_take_snoc HX.out HN.out hb⟩, by simp [intOf]; omega⟩
    · go_wp2
      go_ret
      exact ⟨ret_bool (any_take_all HN.out (by omega)).symm, rfl⟩

theorem run_enter {P : Program} {f : FuncId} {fn : Func} {c : Code} (hf : P.funcs[f]? = some fn) (hname : (fn.name == "runtime.NumGoroutine") = false) (hb : fn.body = some c) (args : Array Value) (w : World) :
    (callFunc f args).run P w = .ok (.enter f args) w := by
  have h1 : fn.name ≠ "runtime.NumGoroutine" := by simpa using hname
  simp [callFunc, hf, h1, hb]
theorem enter_eval (x : Ex) (args : Array Value) (w : World) : (callFunc x.evalF args).run Tryd.prog w = .ok (.enter x.evalF args) w := by
  cases x with
  | tag t => exact run_enter Tryd.func163 (by kernel_rfl) rfl args w
  | not x => exact run_enter Tryd.func152 (by kernel_rfl) rfl args w
  | and x y => exact run_enter Tryd.func155 (by kernel_rfl) rfl args w
  | or x y => exact run_enter Tryd.func159 (by kernel_rfl) rfl args w
theorem method_eval (x : Ex) (a : Addr) (w : World) : (method 302 x.ptr (.pointer (some a)) "Eval").run Tryd.prog w = .ok (x.evalF, .pointer (some a)) w := by
  cases x with
  | tag t => kernel_rfl
  | not x => kernel_rfl
  | and x y => kernel_rfl
  | or x y => kernel_rfl

set_option maxHeartbeats 400000 in
theorem cEval_any (x : Ex) : ∀ (b bc : Nat) (vc : Value) (ss : List ByteArray) (w : World), CIs w x (.iface x.ptr (.pointer (some ⟨b, 0, none⟩))) → w.cell? ⟨bc, 0, none⟩ = some vc → SS w vc ss →
    Calls Tryd.prog x.evalF #[.pointer (some ⟨b, 0, none⟩), .func (.func 47) #[] #[.pointer (some ⟨bc, 0, none⟩)]] w fun e w' => e = .returned (.bool (x.eval (hasB ss))) ∧ w = w' := by
  induction x with
  | tag t =>
    intro b bc vc ss w h hc hs
    obtain ⟨b', hb', hh, ht⟩ := h
    obtain rfl : b = b' := by simpa [Ex.ptr] using hb'
    have q0 := cell_at (o := 0) hh (.string t) rfl
    have HS := Lib.hid hs
    clear hs hh hb'
    go_enter Tryd.func163, Tryd.ntmps163
    go_wp2_with (go_at_call 47; refine (clos_any bc vc ss _ _ hc HS.out).mono ?_; rintro e1 w1 ⟨rfl, rfl⟩)
    go_ret
    exact ⟨rfl, rfl⟩
  | not x ih =>
    intro b bc vc ss w h hc hs
    obtain ⟨b', vx, hb', hh, hx⟩ := h
    obtain rfl : b = b' := by simpa [Ex.ptr] using hb'
    obtain ⟨bx, rfl⟩ := hx.form
    have q0 := cell_at (o := 0) hh (.iface x.ptr (.pointer (some ⟨bx, 0, none⟩))) rfl
    have HS := Lib.hid hs
    have HX := Lib.hid hx
    have IH := Lib.hid ih
    clear hs hh hb' hx ih
    go_enter Tryd.func152, Tryd.ntmps152
    have me := fun w => method_eval x ⟨bx, 0, none⟩ w
    have en := fun args w => enter_eval x args w
    go_wp2_with fail
    refine (IH.out bx bc vc ss _ HX.out hc HS.out).mono ?_
    rintro e1 w1 ⟨rfl, rfl⟩
    go_wp2_with fail
    go_ret
    exact ⟨rfl, rfl⟩
  | and x y ihx ihy =>
    intro b bc vc ss w h hc hs
    obtain ⟨b', vx, vy, hb', hh, hx, hy⟩ := h
    obtain rfl : b = b' := by simpa [Ex.ptr] using hb'
    obtain ⟨bx, rfl⟩ := hx.form
    obtain ⟨by_, rfl⟩ := hy.form
    have q0 := cell_at (o := 0) hh (.iface x.ptr (.pointer (some ⟨bx, 0, none⟩))) rfl
    have q1 := cell_at (o := 1) hh (.iface y.ptr (.pointer (some ⟨by_, 0, none⟩))) rfl
    have HS := Lib.hid hs
    have HX := Lib.hid hx
    have HY := Lib.hid hy
    have IHX := Lib.hid ihx
    have IHY := Lib.hid ihy
    clear hs hh hb' hx hy ihx ihy
    have me := fun w => method_eval x ⟨bx, 0, none⟩ w
    have en := fun args w => enter_eval x args w
    have me' := fun w => method_eval y ⟨by_, 0, none⟩ w
    have en' := fun args w => enter_eval y args w
    cases hex : x.eval (hasB ss)
    all_goals
      have HE := Lib.hid hex
      clear hex
      go_enter Tryd.func155, Tryd.ntmps155
      go_wp2_with fail
      refine (IHX.out bx bc vc ss _ HX.out hc HS.out).mono ?_
      rw [HE.out]
      rintro e1 w1 ⟨rfl, rfl⟩
      go_wp2_with fail
      refine (IHY.out by_ bc vc ss _ HY.out hc HS.out).mono ?_
      rintro e1 w1 ⟨rfl, rfl⟩
      go_wp2_with fail
      go_ret
      exact ⟨ret_bool (by rw [Ex.eval, HE.out]; rfl), rfl⟩
  | or x y ihx ihy =>
    intro b bc vc ss w h hc hs
    obtain ⟨b', vx, vy, hb', hh, hx, hy⟩ := h
    obtain rfl : b = b' := by simpa [Ex.ptr] using hb'
    obtain ⟨bx, rfl⟩ := hx.form
    obtain ⟨by_, rfl⟩ := hy.form
    have q0 := cell_at (o := 0) hh (.iface x.ptr (.pointer (some ⟨bx, 0, none⟩))) rfl
    have q1 := cell_at (o := 1) hh (.iface y.ptr (.pointer (some ⟨by_, 0, none⟩))) rfl
    have HS := Lib.hid hs
    have HX := Lib.hid hx
    have HY := Lib.hid hy
    have IHX := Lib.hid ihx
    have IHY := Lib.hid ihy
    clear hs hh hb' hx hy ihx ihy
    have me := fun w => method_eval x ⟨bx, 0, none⟩ w
    have en := fun args w => enter_eval x args w
    have me' := fun w => method_eval y ⟨by_, 0, none⟩ w
    have en' := fun args w => enter_eval y args w
    cases hex : x.eval (hasB ss)
    all_goals
      have HE := Lib.hid hex
      clear hex
      go_enter Tryd.func159, Tryd.ntmps159
      go_wp2_with fail
      refine (IHX.out bx bc vc ss _ HX.out hc HS.out).mono ?_
      rw [HE.out]
      rintro e1 w1 ⟨rfl, rfl⟩
      go_wp2_with fail
      refine (IHY.out by_ bc vc ss _ HY.out hc HS.out).mono ?_
      rintro e1 w1 ⟨rfl, rfl⟩
      go_wp2_with fail
      go_ret
      exact ⟨ret_bool (by rw [Ex.eval, HE.out]; rfl), rfl⟩

def CallPost (b : Bool) (w : World) (en : Ending) (w' : World) : Prop := en = .returned (.bool b) ∧ Below w.heap.size w w'

set_option maxHeartbeats 400000 in
theorem implEval_any (x : Ex) (c0 c1 c2 v : Value) (ss : List ByteArray) (w : World) (h : XIs (fun _ => True) w x c0 c1 c2) (hs : SS w v ss) :
    Calls Tryd.prog 23 #[.agg #[c0, c1, c2], v] w (CallPost (x.eval (hasB ss)) w) := by
  obtain ⟨s, a, cap, rfl, rfl, rfl, -⟩ := h.form
  obtain ⟨av, cv, rfl, hl, -⟩ : ∃ a cap, v = .slice a ss.length cap ∧ ss.length ≤ 140737488355328 ∧ True := by obtain ⟨a, cap, h1, h2, _⟩ := hs; exact ⟨a, cap, h1, h2, trivial⟩
  have HX := Lib.hid h
  have HS := Lib.hid hs
  clear h hs
  have hmf : ∀ (fn : Fn) (first cap : Array Value) (w : World), (Instr.makeFunc fn first cap).run Tryd.prog w = .ok (.func fn first cap) w := fun _ _ _ _ => rfl
  go_enter Tryd.func23, Tryd.ntmps23
  go_wp2_with fail
  obtain ⟨wa, hwa⟩ : ∃ wa, wa = (w.alloc (.cells #[.int .i64 x.kind, .string s, .slice a x.arity cap] 29)).alloc (.cells #[.slice av ss.length cv] 41) := ⟨_, rfl⟩
  rw [← hwa]
  have bwa : Below w.heap.size w wa := by rw [hwa]; exact ((Below.refl _ _).alloc (Nat.le_refl _) _).alloc (by simp) _
  have swa : wa.heap.size = w.heap.size + 2 := by rw [hwa]; simp
  have d2 : wa.cell? ⟨w.heap.size + 1, 0, none⟩ = some (.slice av ss.length cv) := by rw [hwa]; simp [go_sem]
  refine (build_any x _ _ _ _ (HX.out.below bwa)).mono ?_
  rintro e1 w1 ⟨v1, rfl, hc1, hb1⟩
  obtain ⟨b1, rfl⟩ := hc1.form
  have q2 : w1.cell? ⟨w.heap.size + 1, 0, none⟩ = some (.slice av ss.length cv) := (hb1.cell (by simp; omega)).trans d2
  have hb : Below w.heap.size w w1 := bwa.trans (hb1.mono bwa.size)
  have HB := Lib.hid hb
  have HC := Lib.hid hc1
  clear hb hb1 hc1 bwa hwa swa d2
  have me := fun w => method_eval x ⟨b1, 0, none⟩ w
  have en := fun args w => enter_eval x args w
  go_wp2_with fail
  refine (cEval_any x b1 _ _ ss _ HC.out q2 (HS.out.below HB.out)).mono ?_
  rintro e2 w2 ⟨rfl, rfl⟩
  go_wp2_with fail
  go_ret
  exact ⟨rfl, HB.out⟩
end Go.Proofs.YteemenhinhkonaaDoor
