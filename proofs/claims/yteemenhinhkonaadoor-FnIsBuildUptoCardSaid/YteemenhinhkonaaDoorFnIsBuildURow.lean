/- FnIsBuild, where what it reads is of bulk at most 1048576: the row and the tied card of the second form. -/
import Derived.Test.YteemenhinhkonaaDoorCards
import Derived.Test.YteemenhinhkonaaDoorTie
import Derived.Test.YteemenhinhkonaaDoorFnIsBuildUCon
import Derived.LaidMore
import Derived.Lay
import Derived.SevenTiedAt
import Derived.Stop.Joined
import Derived.Deep.DeepHandedRow
namespace Go.Proofs.YteemenhinhkonaaDoor.fnIsBuild
open Go.ChangeShapes Go.WideShapes Go.ChangeAt Go.RowKit

theorem witness_row_shaped {H : Type} {enc : TypeId × Value → H} {C : Checked} {os : Os} {f : FuncId} {fn : Func} {s : OpenSpec} {conds : List PathCond} {apart : Bool} {laid : List (String × DataW Unit)} (modest : Bool) (w0 : World) (args : Array Value) (hos : w0.os = os)
    (hsh : (w0.forCall (fun _ _ => 0) ⟨#[], args, []⟩).Shaped C.prog) (hok : Input.okWideB C.prog (w0.forCall (fun _ _ => 0) ⟨#[], args, []⟩) f ⟨#[], args, []⟩ = true)
    (hrow : s.preRow enc C.prog fn conds apart laid (w0.forCall (fun _ _ => 0) ⟨#[], args, []⟩).memory args) :
    ∃ (w : World) (tape : Tape) (i : Input), w.os = os ∧ (w.forCall tape i).Shaped C.prog ∧ i.vars = [] ∧ Input.okWide C.prog (w.forCall tape i) .any w.heap.size f i ∧
      s.preRow enc C.prog fn conds apart laid (w.forCall tape i).memory i.args ∧ ({ modest := modest } : Assume).holds C.prog (lone (Frame.enter C.prog f i.args .normal) [] (w.forCall tape i)) :=
  ⟨w0, fun _ _ => 0, ⟨#[], args, []⟩, hos, hsh, (Input.okWide_of_okWideB (base := 0) hok).1, (Input.okWide_of_okWideB hok).2, hrow, by
    simp only [Assume.holds]
    exact ⟨by simp, by simp, fun _ => Modest.zero, by simp, by simp⟩⟩

set_option maxRecDepth 100000 in
theorem lifted (os : Os) (started : os.Started) (H : Type) (enc : TypeId × Value → H) (F : Stop.Interp) :
    ReturnsInHanded {} Tryd.checked os 12 .any ((Rows.OpenSpec.upto Rows.fnIsBuildSpec).preRow enc Tryd.prog Tryd.f12 Rows.fnIsBuildUptoRow.domain false Rows.fnIsBuildUptoRow.laid) (((Rows.OpenSpec.upto Rows.fnIsBuildSpec).at F).post enc Tryd.prog Tryd.f12 false true false false) := by
  have h1 : ((DataW.whole enc Tryd.prog ((World.laidAll Tryd.prog os Rows.fnIsBuildUptoRow.laid).forCall (fun _ _ => 0) ⟨#[], #[.string ByteArray.empty, .string ByteArray.empty], []⟩).memory Tryd.f12.params.toList Rows.fnIsBuildSpec.vars false #[.string ByteArray.empty, .string ByteArray.empty].toList 8).map fun x => Rows.uptoSmall H (x.1 ++ x.2.1)) = some true := by kernel_rfl
  obtain ⟨x, hx, hu⟩ := Option.map_eq_some_iff.1 h1
  refine returnsInHanded_of_row (C := Tryd.checked) (s := Rows.OpenSpec.upto Rows.fnIsBuildSpec) own started (by kernel_rfl) Tryd.func12
    (witness_row_shaped (enc := enc) (C := Tryd.checked) false (World.laidAll Tryd.prog os Rows.fnIsBuildUptoRow.laid) #[.string ByteArray.empty, .string ByteArray.empty] (World.laidAll_os _ _ _)
      (World.shaped_of_ZipB (by kernel_rfl) (by kernel_rfl)) (by kernel_rfl)
      (OpenSpec.preRow_of_cond 8 hx rfl (fun k hk => by cases hk; exact hu) (by kernel_rfl)
        (by rw [MakeChecks.laidMetH_plain _ _ _ (by kernel_rfl)]; exact laidMet_laidAll _ (by kernel_rfl) (by kernel_rfl)))) ?_
  intro W base args ds gs before hval hW _ hcond _ hL _ _
  exact contract H enc W args ds gs before base hval hW (hcond _ rfl) hL

theorem rowHolds : Rows.FnIsBuildUptoSaid :=
  OpenClaim.holds_of_cond 12 Tryd.f12 rfl rfl rfl rfl rfl rfl rfl ⟨rfl, rfl, rfl, rfl, rfl⟩ rfl rfl rfl rfl rfl (by kernel_rfl) Tryd.func12 (by kernel_rfl)
    (of_decide_eq_true (by kernel_rfl)) (by unfold Func.isWrapper; first | (rw [if_pos (by decide +kernel)]; kernel_rfl) | (rw [if_neg (by decide +kernel)]; exact ⟨rfl, rfl⟩))
    (fun os started H enc _ F => by rw [OpenClaim.pre_eq_preRow]; exact lifted os started H enc F)

theorem proved : Rows.FnIsBuildUptoCardSaid :=
  Claim7.holds_tied_plain_at .later [] _ _ _ _ rowHolds (fun _ h => by cases h) (by kernel_rfl) (fun _ h => by cases h) fnIsBuildUpto_row_tie rfl ⟨rfl, rfl⟩ (by kernel_rfl) rfl
    (fun f fn hf hfn => by
      obtain rfl : f = 12 := Option.some.inj ((show Tryd.prog.funcNamed "loop.example/pub-linesandtags/laws.FnIsBuild" = some 12 by kernel_rfl).symm.trans hf) |>.symm
      obtain rfl : fn = Tryd.f12 := (Option.some.inj (Tryd.func12.symm.trans hfn)).symm
      exact ⟨by kernel_rfl, fun j t ht => by
        rw [Tryd.params12] at ht
        have hm : t ∈ [9, 9] := by simpa using Array.mem_of_getElem? ht
        have hall : ([9, 9].all fun u => !Tryd.prog.wantsStandIn u) = true := by kernel_rfl
        exact (show Tryd.prog.wantsStandIn t = false by simpa using List.all_eq_true.1 hall t hm)⟩)
    (by kernel_rfl)
end Go.Proofs.YteemenhinhkonaaDoor.fnIsBuild
