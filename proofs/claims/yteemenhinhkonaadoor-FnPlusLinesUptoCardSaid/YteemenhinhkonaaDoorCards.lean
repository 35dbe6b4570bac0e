/-
  DERIVED. GIVEN WITH THE SEED: THE CARDS: each row of YteemenhinhkonaaDoorRows.lean that lists a variable, with what it lists TIED to the program's text (the seventh form; the later family's looks); each row that meets fmt, with fmt's text TOLD by the authors' own Lean function (tested against real Go, not proved from fmt's source: count such statements apart). THE CARD IS WHAT COUNTS. Prove the row's statement (the work); the ties are given (YteemenhinhkonaaDoorTie.lean); close each card by the builder's one call (the guide's Derived/Test/ToyasCard.lean, 'card_holds'). Laid BY PROGRAM, IN A SANDBOX (cutbox-door.mjs). By AI agents, Wed Nov 11 2026. No macro, syntax, notation, axiom, sorry.
-/
import Derived.Test.YteemenhinhkonaaDoorRows
import GoSem.ClaimSeven
namespace Go.Proofs.YteemenhinhkonaaDoor
namespace Rows

/-- THE TIED CARD OF 'laws.FnTextBack'. -/
def fnTextBackCard : Claim7 := { stood := { row := fnTextBackRow, standIns := [], harness := (true, "527fd68a041d79cf4dae63d36e7b3c8c7c271e5f6ecce10fa187c878e7c59a13"), looks := true }, kinds := [], alts := [], laidByText := true, laidKinds := [.data, .listed, .data, .data, .sentinel, .sentinel, .pinned, .pinned, .pinned], laidTests := true, laidLooks := .later }
def FnTextBackCardSaid : Prop := Claim7.holds Tryd.pinned (.plain (OpenSpec.ofChange fnTextBackSpec)) fnTextBackCard

/-- THE TIED CARD OF 'laws.FnPlus'. -/
def fnPlusCard : Claim7 := { stood := { row := fnPlusRow, standIns := [], harness := (true, "527fd68a041d79cf4dae63d36e7b3c8c7c271e5f6ecce10fa187c878e7c59a13"), looks := true }, kinds := [], alts := [], laidByText := true, laidKinds := [.data, .listed, .data, .data, .sentinel, .sentinel, .pinned, .pinned, .pinned], laidTests := true, laidLooks := .later }
def FnPlusCardSaid : Prop := Claim7.holds Tryd.pinned (.plain (OpenSpec.ofChange fnPlusSpec)) fnPlusCard

/-- THE TIED CARD OF 'laws.FnPlusLines'. -/
def fnPlusLinesCard : Claim7 := { stood := { row := fnPlusLinesRow, standIns := [], harness := (true, "527fd68a041d79cf4dae63d36e7b3c8c7c271e5f6ecce10fa187c878e7c59a13"), looks := true }, kinds := [], alts := [], laidByText := true, laidKinds := [.data, .listed, .data, .data, .sentinel, .sentinel, .pinned, .pinned, .pinned], laidTests := true, laidLooks := .later }
def FnPlusLinesCardSaid : Prop := Claim7.holds Tryd.pinned (.plain (OpenSpec.ofChange fnPlusLinesSpec)) fnPlusLinesCard

/-- THE TIED CARD OF 'laws.FnGoVersion'. -/
def fnGoVersionCard : Claim7 := { stood := { row := fnGoVersionRow, standIns := [], harness := (true, "527fd68a041d79cf4dae63d36e7b3c8c7c271e5f6ecce10fa187c878e7c59a13"), looks := true }, kinds := [], alts := [], laidByText := true, laidKinds := [.data, .data, .data, .sentinel, .sentinel], laidTests := true, laidLooks := .later }
def FnGoVersionCardSaid : Prop := Claim7.holds Tryd.pinned (.plain (OpenSpec.ofChange fnGoVersionSpec)) fnGoVersionCard

/-- THE TIED CARD OF 'laws.FnVersionParts'. -/
def fnVersionPartsCard : Claim7 := { stood := { row := fnVersionPartsRow, standIns := [], harness := (true, "527fd68a041d79cf4dae63d36e7b3c8c7c271e5f6ecce10fa187c878e7c59a13"), looks := true }, kinds := [], alts := [], laidByText := true, laidKinds := [.data, .data, .data, .sentinel, .sentinel], laidTests := true, laidLooks := .later }
def FnVersionPartsCardSaid : Prop := Claim7.holds Tryd.pinned (.plain (OpenSpec.ofChange fnVersionPartsSpec)) fnVersionPartsCard

/-- THE TIED CARD OF 'laws.FnBrackets'. -/
def fnBracketsCard : Claim7 := { stood := { row := fnBracketsRow, standIns := [], harness := (true, "527fd68a041d79cf4dae63d36e7b3c8c7c271e5f6ecce10fa187c878e7c59a13"), looks := true }, kinds := [], alts := [], laidByText := true, laidKinds := [.data, .listed, .data, .data, .sentinel, .sentinel, .pinned, .pinned, .pinned], laidTests := true, laidLooks := .later }
def FnBracketsCardSaid : Prop := Claim7.holds Tryd.pinned (.plain (OpenSpec.ofChange fnBracketsSpec)) fnBracketsCard

/-- THE TIED CARD OF 'laws.FnNegated'. -/
def fnNegatedCard : Claim7 := { stood := { row := fnNegatedRow, standIns := [], harness := (true, "527fd68a041d79cf4dae63d36e7b3c8c7c271e5f6ecce10fa187c878e7c59a13"), looks := true }, kinds := [], alts := [], laidByText := true, laidKinds := [.data, .listed, .data, .data, .sentinel, .sentinel, .pinned, .pinned, .pinned], laidTests := true, laidLooks := .later }
def FnNegatedCardSaid : Prop := Claim7.holds Tryd.pinned (.plain (OpenSpec.ofChange fnNegatedSpec)) fnNegatedCard

/-- THE TIED CARD OF 'laws.FnOffset'. -/
def fnOffsetCard : Claim7 := { stood := { row := fnOffsetRow, standIns := [], harness := (true, "527fd68a041d79cf4dae63d36e7b3c8c7c271e5f6ecce10fa187c878e7c59a13"), looks := true }, kinds := [], alts := [], laidByText := true, laidKinds := [.data, .listed, .data, .data, .sentinel, .sentinel, .pinned, .pinned, .pinned], laidTests := true, laidLooks := .later }
def FnOffsetCardSaid : Prop := Claim7.holds Tryd.pinned (.plain (OpenSpec.ofChange fnOffsetSpec)) fnOffsetCard

/-- THE TIED CARD OF 'laws.FnTwoLines'. -/
def fnTwoLinesCard : Claim7 := { stood := { row := fnTwoLinesRow, standIns := [], harness := (true, "527fd68a041d79cf4dae63d36e7b3c8c7c271e5f6ecce10fa187c878e7c59a13"), looks := true }, kinds := [], alts := [], laidByText := true, laidKinds := [.data, .listed, .data, .data, .sentinel, .sentinel, .pinned, .pinned, .pinned], laidTests := true, laidLooks := .later }
def FnTwoLinesCardSaid : Prop := Claim7.holds Tryd.pinned (.plain (OpenSpec.ofChange fnTwoLinesSpec)) fnTwoLinesCard

/-- THE TIED CARD OF 'laws.FnIsBuild'. -/
def fnIsBuildCard : Claim7 := { stood := { row := fnIsBuildRow, standIns := [], harness := (true, "527fd68a041d79cf4dae63d36e7b3c8c7c271e5f6ecce10fa187c878e7c59a13"), looks := true }, kinds := [], alts := [], laidByText := true, laidKinds := [.data, .listed, .data, .data, .sentinel, .sentinel, .pinned, .pinned, .pinned], laidTests := true, laidLooks := .later }
def FnIsBuildCardSaid : Prop := Claim7.holds Tryd.pinned (.plain (OpenSpec.ofChange fnIsBuildSpec)) fnIsBuildCard

/-- THE TIED CARD OF 'laws.FnBuild'. -/
def fnBuildCard : Claim7 := { stood := { row := fnBuildRow, standIns := [], harness := (true, "527fd68a041d79cf4dae63d36e7b3c8c7c271e5f6ecce10fa187c878e7c59a13"), looks := true }, kinds := [], alts := [], laidByText := true, laidKinds := [.data, .listed, .data, .data, .sentinel, .sentinel, .pinned, .pinned, .pinned], laidTests := true, laidLooks := .later }
def FnBuildCardSaid : Prop := Claim7.holds Tryd.pinned (.plain (OpenSpec.ofChange fnBuildSpec)) fnBuildCard

/-- THE SECOND FORM's CARD OF 'laws.FnTextBack'. -/
def fnTextBackUptoCard : Claim7 := { stood := { row := fnTextBackUptoRow, standIns := [], harness := (true, "527fd68a041d79cf4dae63d36e7b3c8c7c271e5f6ecce10fa187c878e7c59a13"), looks := true }, kinds := [], alts := [], laidByText := true, laidKinds := [.data, .listed, .data, .data, .sentinel, .sentinel, .pinned, .pinned, .pinned], laidTests := true, laidLooks := .later }
def FnTextBackUptoCardSaid : Prop := Claim7.holds Tryd.pinned (.plain (OpenSpec.upto fnTextBackSpec)) fnTextBackUptoCard

/-- THE SECOND FORM's CARD OF 'laws.FnPlus'. -/
def fnPlusUptoCard : Claim7 := { stood := { row := fnPlusUptoRow, standIns := [], harness := (true, "527fd68a041d79cf4dae63d36e7b3c8c7c271e5f6ecce10fa187c878e7c59a13"), looks := true }, kinds := [], alts := [], laidByText := true, laidKinds := [.data, .listed, .data, .data, .sentinel, .sentinel, .pinned, .pinned, .pinned], laidTests := true, laidLooks := .later }
def FnPlusUptoCardSaid : Prop := Claim7.holds Tryd.pinned (.plain (OpenSpec.upto fnPlusSpec)) fnPlusUptoCard

/-- THE SECOND FORM's CARD OF 'laws.FnPlusLines'. -/
def fnPlusLinesUptoCard : Claim7 := { stood := { row := fnPlusLinesUptoRow, standIns := [], harness := (true, "527fd68a041d79cf4dae63d36e7b3c8c7c271e5f6ecce10fa187c878e7c59a13"), looks := true }, kinds := [], alts := [], laidByText := true, laidKinds := [.data, .listed, .data, .data, .sentinel, .sentinel, .pinned, .pinned, .pinned], laidTests := true, laidLooks := .later }
def FnPlusLinesUptoCardSaid : Prop := Claim7.holds Tryd.pinned (.plain (OpenSpec.upto fnPlusLinesSpec)) fnPlusLinesUptoCard

/-- THE SECOND FORM's CARD OF 'laws.FnGoVersion'. -/
def fnGoVersionUptoCard : Claim7 := { stood := { row := fnGoVersionUptoRow, standIns := [], harness := (true, "527fd68a041d79cf4dae63d36e7b3c8c7c271e5f6ecce10fa187c878e7c59a13"), looks := true }, kinds := [], alts := [], laidByText := true, laidKinds := [.data, .data, .data, .sentinel, .sentinel], laidTests := true, laidLooks := .later }
def FnGoVersionUptoCardSaid : Prop := Claim7.holds Tryd.pinned (.plain (OpenSpec.upto fnGoVersionSpec)) fnGoVersionUptoCard

/-- THE SECOND FORM's CARD OF 'laws.FnVersionParts'. -/
def fnVersionPartsUptoCard : Claim7 := { stood := { row := fnVersionPartsUptoRow, standIns := [], harness := (true, "527fd68a041d79cf4dae63d36e7b3c8c7c271e5f6ecce10fa187c878e7c59a13"), looks := true }, kinds := [], alts := [], laidByText := true, laidKinds := [.data, .data, .data, .sentinel, .sentinel], laidTests := true, laidLooks := .later }
def FnVersionPartsUptoCardSaid : Prop := Claim7.holds Tryd.pinned (.plain (OpenSpec.upto fnVersionPartsSpec)) fnVersionPartsUptoCard

/-- THE SECOND FORM's CARD OF 'laws.FnBrackets'. -/
def fnBracketsUptoCard : Claim7 := { stood := { row := fnBracketsUptoRow, standIns := [], harness := (true, "527fd68a041d79cf4dae63d36e7b3c8c7c271e5f6ecce10fa187c878e7c59a13"), looks := true }, kinds := [], alts := [], laidByText := true, laidKinds := [.data, .listed, .data, .data, .sentinel, .sentinel, .pinned, .pinned, .pinned], laidTests := true, laidLooks := .later }
def FnBracketsUptoCardSaid : Prop := Claim7.holds Tryd.pinned (.plain (OpenSpec.upto fnBracketsSpec)) fnBracketsUptoCard

/-- THE SECOND FORM's CARD OF 'laws.FnNegated'. -/
def fnNegatedUptoCard : Claim7 := { stood := { row := fnNegatedUptoRow, standIns := [], harness := (true, "527fd68a041d79cf4dae63d36e7b3c8c7c271e5f6ecce10fa187c878e7c59a13"), looks := true }, kinds := [], alts := [], laidByText := true, laidKinds := [.data, .listed, .data, .data, .sentinel, .sentinel, .pinned, .pinned, .pinned], laidTests := true, laidLooks := .later }
def FnNegatedUptoCardSaid : Prop := Claim7.holds Tryd.pinned (.plain (OpenSpec.upto fnNegatedSpec)) fnNegatedUptoCard

/-- THE SECOND FORM's CARD OF 'laws.FnOffset'. -/
def fnOffsetUptoCard : Claim7 := { stood := { row := fnOffsetUptoRow, standIns := [], harness := (true, "527fd68a041d79cf4dae63d36e7b3c8c7c271e5f6ecce10fa187c878e7c59a13"), looks := true }, kinds := [], alts := [], laidByText := true, laidKinds := [.data, .listed, .data, .data, .sentinel, .sentinel, .pinned, .pinned, .pinned], laidTests := true, laidLooks := .later }
def FnOffsetUptoCardSaid : Prop := Claim7.holds Tryd.pinned (.plain (OpenSpec.upto fnOffsetSpec)) fnOffsetUptoCard

/-- THE SECOND FORM's CARD OF 'laws.FnTwoLines'. -/
def fnTwoLinesUptoCard : Claim7 := { stood := { row := fnTwoLinesUptoRow, standIns := [], harness := (true, "527fd68a041d79cf4dae63d36e7b3c8c7c271e5f6ecce10fa187c878e7c59a13"), looks := true }, kinds := [], alts := [], laidByText := true, laidKinds := [.data, .listed, .data, .data, .sentinel, .sentinel, .pinned, .pinned, .pinned], laidTests := true, laidLooks := .later }
def FnTwoLinesUptoCardSaid : Prop := Claim7.holds Tryd.pinned (.plain (OpenSpec.upto fnTwoLinesSpec)) fnTwoLinesUptoCard

/-- THE SECOND FORM's CARD OF 'laws.FnIsBuild'. -/
def fnIsBuildUptoCard : Claim7 := { stood := { row := fnIsBuildUptoRow, standIns := [], harness := (true, "527fd68a041d79cf4dae63d36e7b3c8c7c271e5f6ecce10fa187c878e7c59a13"), looks := true }, kinds := [], alts := [], laidByText := true, laidKinds := [.data, .listed, .data, .data, .sentinel, .sentinel, .pinned, .pinned, .pinned], laidTests := true, laidLooks := .later }
def FnIsBuildUptoCardSaid : Prop := Claim7.holds Tryd.pinned (.plain (OpenSpec.upto fnIsBuildSpec)) fnIsBuildUptoCard

/-- THE SECOND FORM's CARD OF 'laws.FnBuild'. -/
def fnBuildUptoCard : Claim7 := { stood := { row := fnBuildUptoRow, standIns := [], harness := (true, "527fd68a041d79cf4dae63d36e7b3c8c7c271e5f6ecce10fa187c878e7c59a13"), looks := true }, kinds := [], alts := [], laidByText := true, laidKinds := [.data, .listed, .data, .data, .sentinel, .sentinel, .pinned, .pinned, .pinned], laidTests := true, laidLooks := .later }
def FnBuildUptoCardSaid : Prop := Claim7.holds Tryd.pinned (.plain (OpenSpec.upto fnBuildSpec)) fnBuildUptoCard
end Rows
end Go.Proofs.YteemenhinhkonaaDoor
