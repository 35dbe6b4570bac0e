/- FnPlus, where what it reads is of bulk at most 1048576: the row and the tied card of the second form. -/
import Derived.Test.YteemenhinhkonaaDoorCards
import Derived.Test.YteemenhinhkonaaDoorTie
import Derived.Test.YteemenhinhkonaaDoorFnPlusUCon
import Derived.LaidMore
import Derived.Lay
import Derived.SevenTiedAt
import Derived.Stop.Joined
import Derived.Deep.DeepHandedRow
namespace Go.Proofs.YteemenhinhkonaaDoor.fnPlus
open Go.ChangeShapes Go.WideShapes Go.ChangeAt Go.RowKit

theorem named : Tryd.prog.funcNamed Rows.fnPlusUptoRow.func = some 4 := by kernel_rfl
theorem kin : (Rows.fnPlusUptoRow.inPlace == Tryd.pinned.checked.prog.inPlace 4) = true := by kernel_rfl
theorem kun : (Rows.fnPlusUptoRow.unfollowed == Tryd.pinned.checked.prog.unfollowed 4) = true := by kernel_rfl
theorem krec : (Rows.fnPlusUptoRow.recurses == Tryd.pinned.checked.prog.recurses 4) = true := by kernel_rfl
theorem knam : (Rows.fnPlusUptoRow.named == Tryd.pinned.checked.prog.varsNamed 4) = true := by kernel_rfl
theorem g_lay : laidOutB Tryd.pinned.checked.prog = true := by kernel_rfl
theorem g_rowed : mapsRowed Tryd.pinned.checked.prog = true := by kernel_rfl
theorem g_maps : (Rows.fnPlusUptoRow.maps == (Tryd.f4.params.toList ++ DataSpec.varTypes Tryd.pinned.checked.prog (Rows.OpenSpec.upto Rows.fnPlusSpec).bare.plain).any fun x => Tryd.pinned.checked.prog.mapsRec x) = true := by kernel_rfl
theorem g_ifaces : (Rows.fnPlusUptoRow.ifaces == (Tryd.f4.params.toList ++ DataSpec.varTypes Tryd.pinned.checked.prog (Rows.OpenSpec.upto Rows.fnPlusSpec).bare.plain).any fun x => Tryd.pinned.checked.prog.ifacesRec x) = true := by kernel_rfl
theorem g_loops : (Rows.fnPlusUptoRow.loops == (Tryd.f4.params.toList ++ DataSpec.varTypes Tryd.pinned.checked.prog (Rows.OpenSpec.upto Rows.fnPlusSpec).bare.plain).any fun x => Tryd.pinned.checked.prog.loopsFrom x) = true := by kernel_rfl
theorem g_wide : (Rows.fnPlusUptoRow.wideKeys == (Tryd.f4.params.toList ++ DataSpec.varTypes Tryd.pinned.checked.prog (Rows.OpenSpec.upto Rows.fnPlusSpec).bare.plain ++ Tryd.f4.resultTypes.toList).any fun x => Tryd.pinned.checked.prog.wideKeysFrom x) = true := by kernel_rfl
theorem g_vr : ((Rows.OpenSpec.upto Rows.fnPlusSpec).bare.vars.all fun x => Tryd.pinned.checked.prog.varReadable x) = true := by kernel_rfl
theorem g_pk : (Rows.fnPlusUptoRow.plainKeys == Tryd.pinned.checked.prog.plainKeys) = true := by kernel_rfl
theorem g_sh : Tryd.pinned.checked.prog.stopsHeard = true := by kernel_rfl
theorem g_me : Tryd.pinned.checked.prog.mayEnter = true := by kernel_rfl
theorem g_lf : (Rows.fnPlusUptoRow.lifted == Tryd.pinned.checked.prog.liftsFinal) = true := by kernel_rfl
theorem g_ve : (Rows.fnPlusUptoRow.veiled == (Tryd.f4.params.toList ++ DataSpec.varTypes Tryd.pinned.checked.prog (Rows.OpenSpec.upto Rows.fnPlusSpec).bare.plain ++ Tryd.f4.resultTypes.toList).any fun x => Tryd.pinned.checked.prog.veiledRec x) = true := by kernel_rfl
theorem closed : joinedFacts Tryd.pinned.checked.prog 4 Tryd.f4 (Rows.OpenSpec.upto Rows.fnPlusSpec).bare Rows.fnPlusUptoRow = true := by
  unfold joinedFacts
  simp only [Bool.and_eq_true]
  repeat' refine And.intro ?_ ?_
  any_goals with_reducible exact kin
  any_goals with_reducible exact kun
  any_goals with_reducible exact krec
  any_goals with_reducible exact knam
  any_goals with_reducible exact g_lay
  any_goals with_reducible exact g_rowed
  any_goals with_reducible exact g_maps
  any_goals with_reducible exact g_ifaces
  any_goals with_reducible exact g_loops
  any_goals with_reducible exact g_wide
  any_goals with_reducible exact g_vr
  any_goals with_reducible exact g_pk
  any_goals with_reducible exact g_sh
  any_goals with_reducible exact g_me
  any_goals with_reducible exact g_lf
  any_goals with_reducible exact g_ve
  all_goals kernel_rfl
theorem inst : Tryd.f4.isInstance Tryd.pinned.checked.prog Rows.fnPlusUptoRow.origin Rows.fnPlusUptoRow.targs := of_decide_eq_true (by kernel_rfl)
theorem wrap : Tryd.f4.isWrapper Tryd.pinned.checked.prog Rows.fnPlusUptoRow.wrapper Rows.fnPlusUptoRow.mainSum := by unfold Func.isWrapper; first | (rw [if_pos (by decide +kernel)]; kernel_rfl) | (rw [if_neg (by decide +kernel)]; exact ⟨rfl, rfl⟩)
theorem rowHolds : Rows.FnPlusUptoSaid :=
  OpenClaim.holds_of_cond 4 Tryd.f4 rfl rfl rfl rfl rfl rfl rfl ⟨rfl, rfl, rfl, rfl, rfl⟩ rfl rfl rfl rfl rfl named Tryd.func4 closed inst wrap
    (fun os started H enc _ F => by rw [OpenClaim.pre_eq_preRow]; exact lifted os started H enc F)
end Go.Proofs.YteemenhinhkonaaDoor.fnPlus
