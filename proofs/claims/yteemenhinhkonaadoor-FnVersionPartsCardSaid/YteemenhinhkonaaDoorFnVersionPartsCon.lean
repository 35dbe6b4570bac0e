/- FnVersionParts: from the walk to what the row asks of a call. -/
import Derived.Test.YteemenhinhkonaaDoorRows
import Derived.Test.YteemenhinhkonaaDoorFnVersionParts
import Derived.Test.YteemenhinhkonaaDoorOpenEx
import Derived.ProofKit
import Derived.SizedLaws
import Derived.OpenShut
import Derived.ChangeMaps5
import Derived.Stop.LaidErr
namespace Go.Proofs.YteemenhinhkonaaDoor.fnVersionParts
open Go.ChangeShapes Go.WideShapes Go.ChangeAt Go.RowKit

theorem own : ownKnob Tryd.prog.godebug = none := by kernel_rfl
theorem laidOut : laidOutB Tryd.prog = true := by kernel_rfl

set_option maxRecDepth 100000 in
theorem contract (H : Type) (enc : TypeId × Value → H) (W : World) (args : Array Value) (ds gs : List (DataW H)) (before : List MemPlace)
    (base : Nat) (hval : ∀ (j : Nat) t v, Tryd.f7.params[j]? = some t → args[j]? = some v → Value.okWide Tryd.prog W .any base t v)
    (hW : DataW.Whole enc Tryd.prog Tryd.f7.params.toList Rows.fnVersionPartsSpec.vars false W args.toList ds gs before)
    (hsz : (DataW.weightsEach Tryd.prog (Tryd.f7.params.toList ++ Rows.fnVersionPartsSpec.plain.varTypes Tryd.prog) (ds ++ gs)).all (· ≤ reachBytes) = true) :
    Calls Tryd.prog 7 args W fun e W' => ∃ v, e = .returned v ∧ Rows.fnVersionPartsSpec.post enc Tryd.prog Tryd.f7 false true false false W args v W' := by
  have hW' := hW
  obtain ⟨p, q, hA0, hV, rfl, hfz, hnd⟩ := hW
  have hA : DataW.TrodAll enc Tryd.prog W 0 (fun _ => true) true Tryd.f7.params.toList args.toList ds p := hA0
  rw [Tryd.params7] at hA hsz hval
  obtain ⟨v0, vs0, d0, ds0, p0, q0, hargs, rfl, rfl, h0, r0⟩ := trodAll_cons hA
  obtain ⟨v1, vs1, d1, ds1, p1, q1, rfl, rfl, rfl, h1, r1⟩ := trodAll_cons r0
  obtain ⟨rfl, rfl, rfl⟩ := trodAll_nil r1
  obtain rfl : args = #[v0, v1] := by cases args; simp_all
  obtain ⟨rfl, rfl⟩ := trodVars_none hV
  have h0k := h0
  obtain ⟨fuel0, hf0⟩ := h0
  have hwt0 : ∀ k ∈ d0.weights Tryd.prog 29, k ≤ reachBytes := fun k hk => by
    have := List.all_eq_true.1 hsz k (DataW.weights_mem_each (j := 0) (t := 29) (d := d0) rfl rfl k hk)
    simpa using this
  obtain ⟨c00, c01, c02, e0, hcs0, hE0⟩ := EIs_of_trod fuel0 fuel0 (Nat.le_refl _) _ _ hf0 hwt0
  obtain rfl : v0 = .agg #[c00, c01, c02] := agg_of_cells hcs0
  have hlt0 : ∀ x ∈ p0, x.block < W.heap.size := fun x hx => hW'.lt x (by simp [hx])
  have h1k := h1
  obtain ⟨fuel1, hf1⟩ := h1
  have hwt1 : ∀ k ∈ d1.weights Tryd.prog 29, k ≤ reachBytes := fun k hk => by
    have := List.all_eq_true.1 hsz k (DataW.weights_mem_each (j := 1) (t := 29) (d := d1) rfl rfl k hk)
    simpa using this
  obtain ⟨c10, c11, c12, e1, hcs1, hE1⟩ := EIs_of_trod fuel1 fuel1 (Nat.le_refl _) _ _ hf1 hwt1
  obtain rfl : v1 = .agg #[c10, c11, c12] := agg_of_cells hcs1
  have hlt1 : ∀ x ∈ p1, x.block < W.heap.size := fun x hx => hW'.lt x (by simp [hx])
  clear hA0
  refine (fnVersionParts_any fuel0 fuel1 e0 c00 c01 c02 e1 c10 c11 c12 W hE0 hE1).mono fun en W' ⟨he, hb⟩ => ?_
  subst he
  refine ⟨_, rfl, [d0, d1], [], p0 ++ p1, [], p0 ++ p1, [], by simpa using hW', trodAll_cons_mk (shut_bool Tryd.underlying4 true) trodAll_mk0, ?_, rfl, hb.frame _, fun h => by cases h⟩
  have := (trodAll_cons_mk (Below.trod laidOut (by kernel_rfl) (of_decide_eq_true (by kernel_rfl)) h0k hb hlt0) (trodAll_cons_mk (Below.trod laidOut (by kernel_rfl) (of_decide_eq_true (by kernel_rfl)) h1k hb hlt1) trodAll_mk0))
  simp only [List.append_nil] at this
  exact this
end Go.Proofs.YteemenhinhkonaaDoor.fnVersionParts
