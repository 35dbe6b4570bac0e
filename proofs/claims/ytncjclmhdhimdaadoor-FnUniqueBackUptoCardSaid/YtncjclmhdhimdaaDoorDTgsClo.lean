/- The closure that tgs hands to sort.Search, and the search itself. -/
import Derived.Test.YtncjclmhdhimdaaDoorProg
import Derived.Test.YtncjclmhdhimdaaDoorDMap
import Derived.Test.YtncjclmhdhimdaaDoorDUniq
import Derived.Test.YtncjclmhdhimdaaDoorShelfA
import Derived.Deep.QuietTactic
import Derived.BigQuiet
namespace Go.Proofs.YtncjclmhdhimdaaDoor
open Go.RowKit

set_option maxHeartbeats 1000000 in
theorem clos_any (W : World) (bT bJ bi gT gJ oJ n nJ cT cJ i k : Nat) (ti jk : Nat) (hi : i < n) (hk : k < nJ)
    (h1 : W.cell? ⟨bT, 0, none⟩ = some (.slice (some ⟨gT, 0, none⟩) n cT)) (h2 : W.cell? ⟨bJ, 0, none⟩ = some (.slice (some ⟨gJ, oJ, none⟩) nJ cJ)) (h3 : W.cell? ⟨bi, 0, none⟩ = some (.int .i64 (k : Int)))
    (h4 : W.cell? ⟨gT, i, none⟩ = some (.int .i64 (ti : Int))) (h5 : W.cell? ⟨gJ, oJ + k, none⟩ = some (.int .i64 (jk : Int))) :
    Calls Tryd.prog 38 #[.int .i64 (i : Int), .pointer (some ⟨bT, 0, none⟩), .pointer (some ⟨bJ, 0, none⟩), .pointer (some ⟨bi, 0, none⟩)] W fun e w' => e = .returned (.bool (decide (jk ≤ ti))) ∧ ∃ q, w' = W.drewN q := by
  go_enter Tryd.func38, Tryd.ntmps38
  go_wp2_with fail
  have hii : (i : Int) < n := by omega
  have hkk : (k : Int) < nJ := by omega
  go_quiet (fail)
  all_goals go_wp2_with fail
  all_goals go_ret
  all_goals exact ⟨ret_bool (by simp), _, rfl⟩
theorem run_enter {P : Program} {f : FuncId} {fn : Func} {c : Code} (hf : P.funcs[f]? = some fn) (hname : (fn.name == "runtime.NumGoroutine") = false) (hb : fn.body = some c) (args : Array Value) (w : World) :
    (callFunc f args).run P w = .ok (.enter f args) w := by
  have h1 : fn.name ≠ "runtime.NumGoroutine" := by simpa using hname
  simp [callFunc, hf, h1, hb]
theorem enter_clos (args : Array Value) (w : World) : (callFunc 38 args).run Tryd.prog w = .ok (.enter 38 args) w := run_enter Tryd.func38 (by kernel_rfl) rfl args w
def SePost (n : Nat) (T : List Nat) (jk : Nat) (W : World) (en : Ending) (w' : World) : Prop := ∃ k : Nat, k ≤ n ∧ en = .returned (.int .i64 k) ∧ (∀ (a u : Nat), a < k → T[a]? = some u → u < jk) ∧ (∀ (a u : Nat), k ≤ a → T[a]? = some u → jk ≤ u) ∧ Below W.heap.size W w'
theorem search_any (W : World) (T : List Nat) (bT bJ bi gT gJ oJ n nJ cT cJ k jk : Nat) (hk : k < nJ) (hn : n ≤ 1000000) (hT : T.length = n)
    (h1 : W.cell? ⟨bT, 0, none⟩ = some (.slice (some ⟨gT, 0, none⟩) n cT)) (h2 : W.cell? ⟨bJ, 0, none⟩ = some (.slice (some ⟨gJ, oJ, none⟩) nJ cJ)) (h3 : W.cell? ⟨bi, 0, none⟩ = some (.int .i64 (k : Int)))
    (h4 : ∀ (i t : Nat), T[i]? = some t → W.cell? ⟨gT, i, none⟩ = some (.int .i64 (t : Int))) (h5 : W.cell? ⟨gJ, oJ + k, none⟩ = some (.int .i64 (jk : Int)))
    (hm : ∀ (a b u v : Nat), a ≤ b → T[a]? = some u → T[b]? = some v → u ≤ v) :
    Calls Tryd.prog 37 #[.int .i64 (n : Int), .func (.func 38) #[] #[.pointer (some ⟨bT, 0, none⟩), .pointer (some ⟨bJ, 0, none⟩), .pointer (some ⟨bi, 0, none⟩)]] W (SePost n T jk W) := by
  have hp : ∀ a b, a ≤ b → b < n → decide (jk ≤ T.getD a 0) = true → decide (jk ≤ T.getD b 0) = true := fun a b hab hb h => by
    have ha : T[a]? = some (T.getD a 0) := by rw [List.getD_eq_getElem?_getD, List.getElem?_eq_getElem (by omega)]; rfl
    have hb' : T[b]? = some (T.getD b 0) := by rw [List.getD_eq_getElem?_getD, List.getElem?_eq_getElem (by omega)]; rfl
    have := hm a b _ _ hab ha hb'
    have h := of_decide_eq_true h
    exact decide_eq_true (by omega)
  have hc := Any.sort_Search Tryd.laysO16 38 #[.pointer (some ⟨bT, 0, none⟩), .pointer (some ⟨bJ, 0, none⟩), .pointer (some ⟨bi, 0, none⟩)] n (fun a => decide (jk ≤ T.getD a 0)) W enter_clos (by omega)
    (fun m os i hi => by
      have hb := below_grown_sl W.heap.size W m os (Nat.le_refl _)
      have hi' : T[i]? = some (T.getD i 0) := by rw [List.getD_eq_getElem?_getD, List.getElem?_eq_getElem (by omega)]; rfl
      refine (clos_any _ bT bJ bi gT gJ oJ n nJ cT cJ i k (T.getD i 0) jk hi hk ((hb.cell (lt_of_cell h1)).trans h1) ((hb.cell (lt_of_cell h2)).trans h2) ((hb.cell (lt_of_cell h3)).trans h3) ((hb.cell (lt_of_cell (h4 i _ hi'))).trans (h4 i _ hi')) ((hb.cell (lt_of_cell h5)).trans h5)).mono ?_
      rintro e w' ⟨rfl, q, rfl⟩
      exact ⟨rfl, q, #[], by rw [Go.Sort.grow_empty]⟩)
    hp
  refine hc.mono ?_
  rintro e w' ⟨rfl, q, os, rfl⟩
  obtain ⟨r1, r2, r3⟩ := countP_rise (fun a => decide (jk ≤ T.getD a 0)) n hp
  refine ⟨_, r1, rfl, fun a u ha hu => ?_, fun a u ha hu => ?_, below_grown_sl W.heap.size W q os (Nat.le_refl _)⟩
  · have := of_decide_eq_false (r2 a ha)
    rw [List.getD_eq_getElem?_getD, hu] at this
    simp at this
    exact this
  · have := of_decide_eq_true (r3 a ha (by have := (List.getElem?_eq_some_iff.1 hu).1; omega))
    rw [List.getD_eq_getElem?_getD, hu] at this
    simpa using this
end Go.Proofs.YtncjclmhdhimdaaDoor
