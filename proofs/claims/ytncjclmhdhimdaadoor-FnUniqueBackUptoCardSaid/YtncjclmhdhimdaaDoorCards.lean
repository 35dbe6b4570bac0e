/-
  DERIVED. GIVEN WITH THE SEED: THE CARDS: each row of YtncjclmhdhimdaaDoorRows.lean that lists a variable, with what it lists TIED to the program's text (the seventh form; the later family's looks); each row that meets fmt, with fmt's text TOLD by the authors' own Lean function (tested against real Go, not proved from fmt's source: count such statements apart). THE CARD IS WHAT COUNTS. Prove the row's statement (the work); the ties are given (YtncjclmhdhimdaaDoorTie.lean); close each card by the builder's one call (the guide's Derived/Test/ToyasCard.lean, 'card_holds'). Laid BY PROGRAM, IN A SANDBOX (cutbox-door.mjs). By AI agents, Wed Nov 11 2026. No macro, syntax, notation, axiom, sorry.
-/
import Derived.Test.YtncjclmhdhimdaaDoorRows
import GoSem.ClaimSeven
namespace Go.Proofs.YtncjclmhdhimdaaDoor
namespace Rows

/-- THE TIED CARD OF 'laws.FnAllNew'. -/
def fnAllNewCard : Claim7 := { stood := { row := fnAllNewRow, standIns := [], harness := (true, "f0bf1f323417f17c2ca529d1caa182efab58cd55bf5a0e7ec9f3018f49e66a0e"), looks := false }, kinds := [], alts := [], laidByText := true, laidKinds := [.data, .data, .data, .sentinel], laidTests := true, laidLooks := .later }
def FnAllNewCardSaid : Prop := Claim7.holds Tryd.pinned (.plain (OpenSpec.ofChange fnAllNewSpec)) fnAllNewCard

/-- THE TIED CARD OF 'laws.FnApart'. -/
def fnApartCard : Claim7 := { stood := { row := fnApartRow, standIns := [], harness := (true, "f0bf1f323417f17c2ca529d1caa182efab58cd55bf5a0e7ec9f3018f49e66a0e"), looks := false }, kinds := [], alts := [], laidByText := true, laidKinds := [.data, .data, .data, .sentinel], laidTests := true, laidLooks := .later }
def FnApartCardSaid : Prop := Claim7.holds Tryd.pinned (.plain (OpenSpec.ofChange fnApartSpec)) fnApartCard

/-- THE TIED CARD OF 'laws.FnBackward'. -/
def fnBackwardCard : Claim7 := { stood := { row := fnBackwardRow, standIns := [], harness := (true, "f0bf1f323417f17c2ca529d1caa182efab58cd55bf5a0e7ec9f3018f49e66a0e"), looks := false }, kinds := [], alts := [], laidByText := true, laidKinds := [.data, .data, .data, .sentinel], laidTests := true, laidLooks := .later }
def FnBackwardCardSaid : Prop := Claim7.holds Tryd.pinned (.plain (OpenSpec.ofChange fnBackwardSpec)) fnBackwardCard

/-- THE TIED CARD OF 'laws.FnBalance'. -/
def fnBalanceCard : Claim7 := { stood := { row := fnBalanceRow, standIns := [], harness := (true, "f0bf1f323417f17c2ca529d1caa182efab58cd55bf5a0e7ec9f3018f49e66a0e"), looks := false }, kinds := [], alts := [], laidByText := true, laidKinds := [.data, .data, .data, .sentinel], laidTests := true, laidLooks := .later }
def FnBalanceCardSaid : Prop := Claim7.holds Tryd.pinned (.plain (OpenSpec.ofChange fnBalanceSpec)) fnBalanceCard

/-- THE TIED CARD OF 'laws.FnForward'. -/
def fnForwardCard : Claim7 := { stood := { row := fnForwardRow, standIns := [], harness := (true, "f0bf1f323417f17c2ca529d1caa182efab58cd55bf5a0e7ec9f3018f49e66a0e"), looks := false }, kinds := [], alts := [], laidByText := true, laidKinds := [.data, .data, .data, .sentinel], laidTests := true, laidLooks := .later }
def FnForwardCardSaid : Prop := Claim7.holds Tryd.pinned (.plain (OpenSpec.ofChange fnForwardSpec)) fnForwardCard

/-- THE TIED CARD OF 'laws.FnNames'. -/
def fnNamesCard : Claim7 := { stood := { row := fnNamesRow, standIns := [], harness := (true, "f0bf1f323417f17c2ca529d1caa182efab58cd55bf5a0e7ec9f3018f49e66a0e"), looks := false }, kinds := [], alts := [], laidByText := true, laidKinds := [.data, .data, .data, .sentinel], laidTests := true, laidLooks := .later }
def FnNamesCardSaid : Prop := Claim7.holds Tryd.pinned (.plain (OpenSpec.ofChange fnNamesSpec)) fnNamesCard

/-- THE TIED CARD OF 'laws.FnNoNewline'. -/
def fnNoNewlineCard : Claim7 := { stood := { row := fnNoNewlineRow, standIns := [], harness := (true, "f0bf1f323417f17c2ca529d1caa182efab58cd55bf5a0e7ec9f3018f49e66a0e"), looks := false }, kinds := [], alts := [], laidByText := true, laidKinds := [.data, .data, .data, .sentinel], laidTests := true, laidLooks := .later }
def FnNoNewlineCardSaid : Prop := Claim7.holds Tryd.pinned (.plain (OpenSpec.ofChange fnNoNewlineSpec)) fnNoNewlineCard

/-- THE TIED CARD OF 'laws.FnNothing'. -/
def fnNothingCard : Claim7 := { stood := { row := fnNothingRow, standIns := [], harness := (true, "f0bf1f323417f17c2ca529d1caa182efab58cd55bf5a0e7ec9f3018f49e66a0e"), looks := false }, kinds := [], alts := [], laidByText := true, laidKinds := [.data, .data, .data, .sentinel], laidTests := true, laidLooks := .later }
def FnNothingCardSaid : Prop := Claim7.holds Tryd.pinned (.plain (OpenSpec.ofChange fnNothingSpec)) fnNothingCard

/-- THE TIED CARD OF 'laws.FnTouched'. -/
def fnTouchedCard : Claim7 := { stood := { row := fnTouchedRow, standIns := [], harness := (true, "f0bf1f323417f17c2ca529d1caa182efab58cd55bf5a0e7ec9f3018f49e66a0e"), looks := false }, kinds := [], alts := [], laidByText := true, laidKinds := [.data, .data, .data, .sentinel], laidTests := true, laidLooks := .later }
def FnTouchedCardSaid : Prop := Claim7.holds Tryd.pinned (.plain (OpenSpec.ofChange fnTouchedSpec)) fnTouchedCard

/-- THE TIED CARD OF 'laws.FnUnique'. -/
def fnUniqueCard : Claim7 := { stood := { row := fnUniqueRow, standIns := [], harness := (true, "f0bf1f323417f17c2ca529d1caa182efab58cd55bf5a0e7ec9f3018f49e66a0e"), looks := false }, kinds := [], alts := [], laidByText := true, laidKinds := [.data, .data, .data, .sentinel], laidTests := true, laidLooks := .later }
def FnUniqueCardSaid : Prop := Claim7.holds Tryd.pinned (.plain (OpenSpec.ofChange fnUniqueSpec)) fnUniqueCard

/-- THE TIED CARD OF 'laws.FnUniqueBack'. -/
def fnUniqueBackCard : Claim7 := { stood := { row := fnUniqueBackRow, standIns := [], harness := (true, "f0bf1f323417f17c2ca529d1caa182efab58cd55bf5a0e7ec9f3018f49e66a0e"), looks := false }, kinds := [], alts := [], laidByText := true, laidKinds := [.data, .data, .data, .sentinel], laidTests := true, laidLooks := .later }
def FnUniqueBackCardSaid : Prop := Claim7.holds Tryd.pinned (.plain (OpenSpec.ofChange fnUniqueBackSpec)) fnUniqueBackCard

/-- THE SECOND FORM's CARD OF 'laws.FnAllNew'. -/
def fnAllNewUptoCard : Claim7 := { stood := { row := fnAllNewUptoRow, standIns := [], harness := (true, "f0bf1f323417f17c2ca529d1caa182efab58cd55bf5a0e7ec9f3018f49e66a0e"), looks := false }, kinds := [], alts := [], laidByText := true, laidKinds := [.data, .data, .data, .sentinel], laidTests := true, laidLooks := .later }
def FnAllNewUptoCardSaid : Prop := Claim7.holds Tryd.pinned (.plain (OpenSpec.upto fnAllNewSpec)) fnAllNewUptoCard

/-- THE SECOND FORM's CARD OF 'laws.FnApart'. -/
def fnApartUptoCard : Claim7 := { stood := { row := fnApartUptoRow, standIns := [], harness := (true, "f0bf1f323417f17c2ca529d1caa182efab58cd55bf5a0e7ec9f3018f49e66a0e"), looks := false }, kinds := [], alts := [], laidByText := true, laidKinds := [.data, .data, .data, .sentinel], laidTests := true, laidLooks := .later }
def FnApartUptoCardSaid : Prop := Claim7.holds Tryd.pinned (.plain (OpenSpec.upto fnApartSpec)) fnApartUptoCard

/-- THE SECOND FORM's CARD OF 'laws.FnBackward'. -/
def fnBackwardUptoCard : Claim7 := { stood := { row := fnBackwardUptoRow, standIns := [], harness := (true, "f0bf1f323417f17c2ca529d1caa182efab58cd55bf5a0e7ec9f3018f49e66a0e"), looks := false }, kinds := [], alts := [], laidByText := true, laidKinds := [.data, .data, .data, .sentinel], laidTests := true, laidLooks := .later }
def FnBackwardUptoCardSaid : Prop := Claim7.holds Tryd.pinned (.plain (OpenSpec.upto fnBackwardSpec)) fnBackwardUptoCard

/-- THE SECOND FORM's CARD OF 'laws.FnBalance'. -/
def fnBalanceUptoCard : Claim7 := { stood := { row := fnBalanceUptoRow, standIns := [], harness := (true, "f0bf1f323417f17c2ca529d1caa182efab58cd55bf5a0e7ec9f3018f49e66a0e"), looks := false }, kinds := [], alts := [], laidByText := true, laidKinds := [.data, .data, .data, .sentinel], laidTests := true, laidLooks := .later }
def FnBalanceUptoCardSaid : Prop := Claim7.holds Tryd.pinned (.plain (OpenSpec.upto fnBalanceSpec)) fnBalanceUptoCard

/-- THE SECOND FORM's CARD OF 'laws.FnForward'. -/
def fnForwardUptoCard : Claim7 := { stood := { row := fnForwardUptoRow, standIns := [], harness := (true, "f0bf1f323417f17c2ca529d1caa182efab58cd55bf5a0e7ec9f3018f49e66a0e"), looks := false }, kinds := [], alts := [], laidByText := true, laidKinds := [.data, .data, .data, .sentinel], laidTests := true, laidLooks := .later }
def FnForwardUptoCardSaid : Prop := Claim7.holds Tryd.pinned (.plain (OpenSpec.upto fnForwardSpec)) fnForwardUptoCard

/-- THE SECOND FORM's CARD OF 'laws.FnNames'. -/
def fnNamesUptoCard : Claim7 := { stood := { row := fnNamesUptoRow, standIns := [], harness := (true, "f0bf1f323417f17c2ca529d1caa182efab58cd55bf5a0e7ec9f3018f49e66a0e"), looks := false }, kinds := [], alts := [], laidByText := true, laidKinds := [.data, .data, .data, .sentinel], laidTests := true, laidLooks := .later }
def FnNamesUptoCardSaid : Prop := Claim7.holds Tryd.pinned (.plain (OpenSpec.upto fnNamesSpec)) fnNamesUptoCard

/-- THE SECOND FORM's CARD OF 'laws.FnNoNewline'. -/
def fnNoNewlineUptoCard : Claim7 := { stood := { row := fnNoNewlineUptoRow, standIns := [], harness := (true, "f0bf1f323417f17c2ca529d1caa182efab58cd55bf5a0e7ec9f3018f49e66a0e"), looks := false }, kinds := [], alts := [], laidByText := true, laidKinds := [.data, .data, .data, .sentinel], laidTests := true, laidLooks := .later }
def FnNoNewlineUptoCardSaid : Prop := Claim7.holds Tryd.pinned (.plain (OpenSpec.upto fnNoNewlineSpec)) fnNoNewlineUptoCard

/-- THE SECOND FORM's CARD OF 'laws.FnNothing'. -/
def fnNothingUptoCard : Claim7 := { stood := { row := fnNothingUptoRow, standIns := [], harness := (true, "f0bf1f323417f17c2ca529d1caa182efab58cd55bf5a0e7ec9f3018f49e66a0e"), looks := false }, kinds := [], alts := [], laidByText := true, laidKinds := [.data, .data, .data, .sentinel], laidTests := true, laidLooks := .later }
def FnNothingUptoCardSaid : Prop := Claim7.holds Tryd.pinned (.plain (OpenSpec.upto fnNothingSpec)) fnNothingUptoCard

/-- THE SECOND FORM's CARD OF 'laws.FnTouched'. -/
def fnTouchedUptoCard : Claim7 := { stood := { row := fnTouchedUptoRow, standIns := [], harness := (true, "f0bf1f323417f17c2ca529d1caa182efab58cd55bf5a0e7ec9f3018f49e66a0e"), looks := false }, kinds := [], alts := [], laidByText := true, laidKinds := [.data, .data, .data, .sentinel], laidTests := true, laidLooks := .later }
def FnTouchedUptoCardSaid : Prop := Claim7.holds Tryd.pinned (.plain (OpenSpec.upto fnTouchedSpec)) fnTouchedUptoCard

/-- THE SECOND FORM's CARD OF 'laws.FnUnique'. -/
def fnUniqueUptoCard : Claim7 := { stood := { row := fnUniqueUptoRow, standIns := [], harness := (true, "f0bf1f323417f17c2ca529d1caa182efab58cd55bf5a0e7ec9f3018f49e66a0e"), looks := false }, kinds := [], alts := [], laidByText := true, laidKinds := [.data, .data, .data, .sentinel], laidTests := true, laidLooks := .later }
def FnUniqueUptoCardSaid : Prop := Claim7.holds Tryd.pinned (.plain (OpenSpec.upto fnUniqueSpec)) fnUniqueUptoCard

/-- THE SECOND FORM's CARD OF 'laws.FnUniqueBack'. -/
def fnUniqueBackUptoCard : Claim7 := { stood := { row := fnUniqueBackUptoRow, standIns := [], harness := (true, "f0bf1f323417f17c2ca529d1caa182efab58cd55bf5a0e7ec9f3018f49e66a0e"), looks := false }, kinds := [], alts := [], laidByText := true, laidKinds := [.data, .data, .data, .sentinel], laidTests := true, laidLooks := .later }
def FnUniqueBackUptoCardSaid : Prop := Claim7.holds Tryd.pinned (.plain (OpenSpec.upto fnUniqueBackSpec)) fnUniqueBackUptoCard
end Rows
end Go.Proofs.YtncjclmhdhimdaaDoor
