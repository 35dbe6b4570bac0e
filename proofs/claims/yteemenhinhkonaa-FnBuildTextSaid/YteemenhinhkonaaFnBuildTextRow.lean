/- FnBuildText holds for every input: the call returns true, and the argument reads behind the call as it read before. -/
import Derived.Test.YteemenhinhkonaaRows
import Derived.Test.YteemenhinhkonaaFnBuildText
import Derived.Test.YteemenhinhkonaaOpenEx
import Derived.ProofKit
import Derived.SizedLaws
namespace Go.Proofs.Yteemenhinhkonaa.fnBuildText
open Go.ChangeShapes Go.WideShapes Go.ChangeAt Go.RowKit

theorem own : ownKnob Try.prog.godebug = none := by kernel_rfl
theorem laidOut : laidOutB Try.prog = true := by kernel_rfl

theorem contract (H : Type) (enc : TypeId × Value → H) (W : World) (args : Array Value) (ds gs : List (DataW H)) (before : List MemPlace)
    (hW : DataW.Whole enc Try.prog Try.f5.params.toList Rows.fnBuildTextSpec.vars false W args.toList ds gs before)
    (hsz : (DataW.weightsEach Try.prog (Try.f5.params.toList ++ Rows.fnBuildTextSpec.plain.varTypes Try.prog) (ds ++ gs)).all (· ≤ reachBytes) = true) :
    Calls Try.prog 5 args W fun e W' => ∃ v, e = .returned v ∧ Rows.fnBuildTextSpec.post enc Try.prog Try.f5 false true false false W args v W' := by
  have hW' := hW
  obtain ⟨p, q, hA0, hV, rfl, hfz, hnd⟩ := hW
  have hA : DataW.TrodAll enc Try.prog W 0 (fun _ => true) true Try.f5.params.toList args.toList ds p := hA0
  rw [Try.params5] at hA hsz
  obtain ⟨v0, vs0, d0, ds0, p0, q0, hargs, rfl, rfl, h0, r0⟩ := trodAll_cons hA
  obtain ⟨rfl, rfl, rfl⟩ := trodAll_nil r0
  obtain rfl : args = #[v0] := by cases args; simp_all
  obtain ⟨rfl, rfl⟩ := trodVars_none hV
  have h0k := h0
  obtain ⟨fuel, hf⟩ := h0
  have hwt : ∀ k ∈ d0.weights Try.prog 24, k ≤ reachBytes := fun k hk => by
    have := List.all_eq_true.1 hsz k (DataW.weights_mem_each (j := 0) (t := 24) (d := d0) rfl rfl k hk)
    simpa using this
  obtain ⟨c0, c1, c2, e, hcs, hE⟩ := EIs_of_trod fuel fuel (Nat.le_refl _) _ _ hf hwt
  obtain rfl : v0 = .agg #[c0, c1, c2] := agg_of_cells hcs
  have hlt : ∀ x ∈ p0, x.block < W.heap.size := fun x hx => hW'.lt x (by simpa using hx)
  clear hA0
  refine (fnBuildText_any fuel e c0 c1 c2 W hE).mono fun en W' ⟨he, hb⟩ => ?_
  subst he
  refine ⟨_, rfl, [d0], [], p0, [], p0, [], by simpa using hW', trodAll_cons_mk (shut_bool Try.underlying4 true) trodAll_mk0, ?_, rfl, hb.frame _, fun h => by cases h⟩
  have := trodAll_cons_mk (Below.trod laidOut (by kernel_rfl) (of_decide_eq_true (by kernel_rfl)) h0k hb hlt) trodAll_mk0
  simp only [List.append_nil] at this
  exact this

set_option maxRecDepth 100000 in
theorem lifted (os : Os) (started : os.Started) (H : Type) (enc : TypeId × Value → H) :
    ReturnsInHanded {} Try.checked os 5 .any (Rows.fnBuildTextSpec.pre6 enc Try.prog Try.f5 Rows.fnBuildTextRow.domain false) (Rows.fnBuildTextSpec.post enc Try.prog Try.f5 false true false false) := by
  refine returnsInHanded_of_change_sized (C := Try.checked) own started (by kernel_rfl) Try.func5
    (ChangeSpec.witness6 (enc := enc) (C := Try.checked) false ⟨#[], #[.agg #[.int .i64 0, .string ByteArray.empty, .slice none 0 0]], []⟩ 8 (by kernel_rfl) (by kernel_rfl) (by kernel_rfl) (by kernel_rfl)) ?_
  intro W base args ds gs before hval hW _ hsz _
  exact contract H enc W args ds gs before hW hsz

theorem proved : Rows.FnBuildTextSaid :=
  OpenClaim.holds_of_wide 5 Try.f5 rfl rfl rfl rfl rfl rfl rfl ⟨rfl, rfl, rfl, rfl, rfl⟩ rfl rfl rfl rfl rfl (by kernel_rfl) Try.func5 (by kernel_rfl)
    (of_decide_eq_true (by kernel_rfl)) (by unfold Func.isWrapper; first | (rw [if_pos (by decide +kernel)]; kernel_rfl) | (rw [if_neg (by decide +kernel)]; exact ⟨rfl, rfl⟩))
    (fun os started H enc _ => lifted os started H enc)
end Go.Proofs.Yteemenhinhkonaa.fnBuildText
