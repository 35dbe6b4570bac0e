/- FnPlusLines, where what it reads is of bulk at most 1048576: the row and the tied card of the second form. -/
import Derived.Test.YteemenhinhkonaaDoorCards
import Derived.Test.YteemenhinhkonaaDoorTie
import Derived.Test.YteemenhinhkonaaDoorFnPlusLinesUCon
import Derived.LaidMore
import Derived.Lay
import Derived.SevenTiedAt
import Derived.Stop.Joined
import Derived.Deep.DeepHandedRow
namespace Go.Proofs.YteemenhinhkonaaDoor.fnPlusLines
open Go.ChangeShapes Go.WideShapes Go.ChangeAt Go.RowKit

theorem named : Tryd.prog.funcNamed Rows.fnPlusLinesUptoRow.func = some 5 := by kernel_rfl
theorem kin : (Rows.fnPlusLinesUptoRow.inPlace == Tryd.pinned.checked.prog.inPlace 5) = true := by kernel_rfl
theorem kun : (Rows.fnPlusLinesUptoRow.unfollowed == Tryd.pinned.checked.prog.unfollowed 5) = true := by kernel_rfl
theorem krec : (Rows.fnPlusLinesUptoRow.recurses == Tryd.pinned.checked.prog.recurses 5) = true := by kernel_rfl
theorem knam : (Rows.fnPlusLinesUptoRow.named == Tryd.pinned.checked.prog.varsNamed 5) = true := by kernel_rfl
theorem g_lay : laidOutB Tryd.pinned.checked.prog = true := by kernel_rfl
theorem g_rowed : mapsRowed Tryd.pinned.checked.prog = true := by kernel_rfl
theorem g_maps : (Rows.fnPlusLinesUptoRow.maps == (Tryd.f5.params.toList ++ DataSpec.varTypes Tryd.pinned.checked.prog (Rows.OpenSpec.upto Rows.fnPlusLinesSpec).bare.plain).any fun x => Tryd.pinned.checked.prog.mapsRec x) = true := by kernel_rfl
theorem g_ifaces : (Rows.fnPlusLinesUptoRow.ifaces == (Tryd.f5.params.toList ++ DataSpec.varTypes Tryd.pinned.checked.prog (Rows.OpenSpec.upto Rows.fnPlusLinesSpec).bare.plain).any fun x => Tryd.pinned.checked.prog.ifacesRec x) = true := by kernel_rfl
theorem g_loops : (Rows.fnPlusLinesUptoRow.loops == (Tryd.f5.params.toList ++ DataSpec.varTypes Tryd.pinned.checked.prog (Rows.OpenSpec.upto Rows.fnPlusLinesSpec).bare.plain).any fun x => Tryd.pinned.checked.prog.loopsFrom x) = true := by kernel_rfl
theorem g_wide : (Rows.fnPlusLinesUptoRow.wideKeys == (Tryd.f5.params.toList ++ DataSpec.varTypes Tryd.pinned.checked.prog (Rows.OpenSpec.upto Rows.fnPlusLinesSpec).bare.plain ++ Tryd.f5.resultTypes.toList).any fun x => Tryd.pinned.checked.prog.wideKeysFrom x) = true := by kernel_rfl
theorem g_vr : ((Rows.OpenSpec.upto Rows.fnPlusLinesSpec).bare.vars.all fun x => Tryd.pinned.checked.prog.varReadable x) = true := by kernel_rfl
theorem g_pk : (Rows.fnPlusLinesUptoRow.plainKeys == Tryd.pinned.checked.prog.plainKeys) = true := by kernel_rfl
theorem g_sh : Tryd.pinned.checked.prog.stopsHeard = true := by kernel_rfl
theorem g_me : Tryd.pinned.checked.prog.mayEnter = true := by kernel_rfl
theorem g_lf : (Rows.fnPlusLinesUptoRow.lifted == Tryd.pinned.checked.prog.liftsFinal) = true := by kernel_rfl
theorem g_ve : (Rows.fnPlusLinesUptoRow.veiled == (Tryd.f5.params.toList ++ DataSpec.varTypes Tryd.pinned.checked.prog (Rows.OpenSpec.upto Rows.fnPlusLinesSpec).bare.plain ++ Tryd.f5.resultTypes.toList).any fun x => Tryd.pinned.checked.prog.veiledRec x) = true := by kernel_rfl
theorem closed : joinedFacts Tryd.pinned.checked.prog 5 Tryd.f5 (Rows.OpenSpec.upto Rows.fnPlusLinesSpec).bare Rows.fnPlusLinesUptoRow = true := by
  unfold joinedFacts
  simp only [Bool.and_eq_true]
  repeat' refine And.intro ?_ ?_
  any_goals with_reducible exact kin
  any_goals with_reducible exact kun
  any_goals with_reducible exact krec
  any_goals with_reducible exact knam
  any_goals with_reducible exact g_lay
  any_goals with_reducible exact g_rowed
  any_goals with_reducible exact g_maps
  any_goals with_reducible exact g_ifaces
  any_goals with_reducible exact g_loops
  any_goals with_reducible exact g_wide
  any_goals with_reducible exact g_vr
  any_goals with_reducible exact g_pk
  any_goals with_reducible exact g_sh
  any_goals with_reducible exact g_me
  any_goals with_reducible exact g_lf
  any_goals with_reducible exact g_ve
  all_goals kernel_rfl
theorem inst : Tryd.f5.isInstance Tryd.pinned.checked.prog Rows.fnPlusLinesUptoRow.origin Rows.fnPlusLinesUptoRow.targs := of_decide_eq_true (by kernel_rfl)
theorem wrap : Tryd.f5.isWrapper Tryd.pinned.checked.prog Rows.fnPlusLinesUptoRow.wrapper Rows.fnPlusLinesUptoRow.mainSum := by unfold Func.isWrapper; first | (rw [if_pos (by decide +kernel)]; kernel_rfl) | (rw [if_neg (by decide +kernel)]; exact ⟨rfl, rfl⟩)
theorem rowHolds : Rows.FnPlusLinesUptoSaid :=
  OpenClaim.holds_of_cond 5 Tryd.f5 rfl rfl rfl rfl rfl rfl rfl ⟨rfl, rfl, rfl, rfl, rfl⟩ rfl rfl rfl rfl rfl named Tryd.func5 closed inst wrap
    (fun os started H enc _ F => by rw [OpenClaim.pre_eq_preRow]; exact lifted os started H enc F)
end Go.Proofs.YteemenhinhkonaaDoor.fnPlusLines
