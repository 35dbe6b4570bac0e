/- FnPlusLines, where what it reads is of bulk at most 1048576: the row and the tied card of the second form. -/
import Derived.Test.YteemenhinhkonaaDoorCards
import Derived.Test.YteemenhinhkonaaDoorTie
import Derived.Test.YteemenhinhkonaaDoorFnPlusLinesUClo
import Derived.LaidMore
import Derived.Lay
import Derived.SevenTiedAt
import Derived.Stop.Joined
import Derived.Deep.DeepHandedRow
namespace Go.Proofs.YteemenhinhkonaaDoor.fnPlusLines
open Go.ChangeShapes Go.WideShapes Go.ChangeAt Go.RowKit

theorem proved : Rows.FnPlusLinesUptoCardSaid :=
  Claim7.holds_tied_plain_at .later [] _ _ _ _ rowHolds (fun _ h => by cases h) (by kernel_rfl) (fun _ h => by cases h) fnPlusLinesUpto_row_tie rfl ⟨rfl, rfl⟩ (by kernel_rfl) rfl
    (fun f fn hf hfn => by
      obtain rfl : f = 5 := Option.some.inj ((show Tryd.prog.funcNamed "loop.example/pub-linesandtags/laws.FnPlusLines" = some 5 by kernel_rfl).symm.trans hf) |>.symm
      obtain rfl : fn = Tryd.f5 := (Option.some.inj (Tryd.func5.symm.trans hfn)).symm
      exact ⟨by kernel_rfl, fun j t ht => by
        rw [Tryd.params5] at ht
        have hm : t ∈ [29] := by simpa using Array.mem_of_getElem? ht
        have hall : ([29].all fun u => !Tryd.prog.wantsStandIn u) = true := by kernel_rfl
        exact (show Tryd.prog.wantsStandIn t = false by simpa using List.all_eq_true.1 hall t hm)⟩)
    (by kernel_rfl)
end Go.Proofs.YteemenhinhkonaaDoor.fnPlusLines
