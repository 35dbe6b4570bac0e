/- FnGoVersion: from the walk to what the row asks of a call. -/
import Derived.Test.YteemenhinhkonaaDoorRows
import Derived.Test.YteemenhinhkonaaDoorFnGoVersion
import Derived.Test.YteemenhinhkonaaDoorOpenEx
import Derived.ProofKit
import Derived.SizedLaws
import Derived.OpenShut
import Derived.ChangeMaps5
import Derived.Stop.LaidErr
namespace Go.Proofs.YteemenhinhkonaaDoor.fnGoVersion
open Go.ChangeShapes Go.WideShapes Go.ChangeAt Go.RowKit

theorem own : ownKnob Tryd.prog.godebug = none := by kernel_rfl
theorem laidOut : laidOutB Tryd.prog = true := by kernel_rfl

set_option maxRecDepth 100000 in
theorem contract (H : Type) (enc : TypeId × Value → H) (W : World) (args : Array Value) (ds gs : List (DataW H)) (before : List MemPlace)
    (base : Nat) (hval : ∀ (j : Nat) t v, Tryd.f6.params[j]? = some t → args[j]? = some v → Value.okWide Tryd.prog W .any base t v)
    (hW : DataW.Whole enc Tryd.prog Tryd.f6.params.toList Rows.fnGoVersionSpec.vars false W args.toList ds gs before)
    (hsz : (DataW.weightsEach Tryd.prog (Tryd.f6.params.toList ++ Rows.fnGoVersionSpec.plain.varTypes Tryd.prog) (ds ++ gs)).all (· ≤ reachBytes) = true) :
    Calls Tryd.prog 6 args W fun e W' => ∃ v, e = .returned v ∧ Rows.fnGoVersionSpec.post enc Tryd.prog Tryd.f6 false true false false W args v W' := by
  have hW' := hW
  obtain ⟨p, q, hA0, hV, rfl, hfz, hnd⟩ := hW
  have hA : DataW.TrodAll enc Tryd.prog W 0 (fun _ => true) true Tryd.f6.params.toList args.toList ds p := hA0
  rw [Tryd.params6] at hA hsz hval
  obtain ⟨v0, vs0, d0, ds0, p0, q0, hargs, rfl, rfl, h0, r0⟩ := trodAll_cons hA
  obtain ⟨rfl, rfl, rfl⟩ := trodAll_nil r0
  obtain rfl : args = #[v0] := by cases args; simp_all
  obtain ⟨rfl, rfl⟩ := trodVars_none hV
  have h0k := h0
  obtain ⟨fuel0, hf0⟩ := h0
  have hwt0 : ∀ k ∈ d0.weights Tryd.prog 29, k ≤ reachBytes := fun k hk => by
    have := List.all_eq_true.1 hsz k (DataW.weights_mem_each (j := 0) (t := 29) (d := d0) rfl rfl k hk)
    simpa using this
  obtain ⟨c00, c01, c02, e0, hcs0, hE0⟩ := EIs_of_trod fuel0 fuel0 (Nat.le_refl _) _ _ hf0 hwt0
  obtain rfl : v0 = .agg #[c00, c01, c02] := agg_of_cells hcs0
  have hlt0 : ∀ x ∈ p0, x.block < W.heap.size := fun x hx => hW'.lt x (by simp [hx])
  clear hA0
  refine (fnGoVersion_any fuel0 e0 c00 c01 c02 W hE0).mono fun en W' ⟨he, hb⟩ => ?_
  subst he
  refine ⟨_, rfl, [d0], [], p0, [], p0, [], by simpa using hW', trodAll_cons_mk (shut_bool Tryd.underlying4 true) trodAll_mk0, ?_, rfl, hb.frame _, fun h => by cases h⟩
  have := (trodAll_cons_mk (Below.trod laidOut (by kernel_rfl) (of_decide_eq_true (by kernel_rfl)) h0k hb hlt0) trodAll_mk0)
  simp only [List.append_nil] at this
  exact this
end Go.Proofs.YteemenhinhkonaaDoor.fnGoVersion
