/-
  DERIVED. GIVEN WITH THE SEED: THE CARDS: each row of YtaajhionmdjhjaaDoorRows.lean that lists a variable, with what it lists TIED to the program's text (the seventh form; the later family's looks); each row that meets fmt, with fmt's text TOLD by the authors' own Lean function (tested against real Go, not proved from fmt's source: count such statements apart). THE CARD IS WHAT COUNTS. Prove the row's statement (the work); the ties are given (YtaajhionmdjhjaaDoorTie.lean); close each card by the builder's one call (the guide's Derived/Test/ToyasCard.lean, 'card_holds'). Laid BY PROGRAM, IN A SANDBOX (cutbox-door.mjs). By AI agents, Wed Nov 11 2026. No macro, syntax, notation, axiom, sorry.
-/
import Derived.Test.YtaajhionmdjhjaaDoorRows
import GoSem.ClaimSeven
namespace Go.Proofs.YtaajhionmdjhjaaDoor
namespace Rows

/-- THE TIED CARD OF 'laws.FnDurationRead'. -/
def fnDurationReadCard : Claim7 := { stood := { row := fnDurationReadRow, standIns := [], harness := (true, "cb270410e6d58800067684fc9c67b0c6203716bea30817d271eb11859025bd2d"), looks := true }, kinds := [], alts := [], laidByText := true, laidKinds := [.data, .data, .data, .sentinel, .sentinel], laidTests := true, laidLooks := .later }
def FnDurationReadCardSaid : Prop := Claim7.holds Tryd.pinned (.plain (OpenSpec.ofChange fnDurationReadSpec)) fnDurationReadCard

/-- THE TIED CARD OF 'laws.FnDurationText'. -/
def fnDurationTextCard : Claim7 := { stood := { row := fnDurationTextRow, standIns := [], harness := (true, "cb270410e6d58800067684fc9c67b0c6203716bea30817d271eb11859025bd2d"), looks := true }, kinds := [], alts := [], laidByText := true, laidKinds := [.data, .data, .data, .sentinel, .sentinel], laidTests := true, laidLooks := .later }
def FnDurationTextCardSaid : Prop := Claim7.holds Tryd.pinned (.plain (OpenSpec.ofChange fnDurationTextSpec)) fnDurationTextCard

/-- THE TIED CARD OF 'laws.FnTypes'. -/
def fnTypesCard : Claim7 := { stood := { row := fnTypesRow, standIns := [], harness := (true, "cb270410e6d58800067684fc9c67b0c6203716bea30817d271eb11859025bd2d"), looks := true }, kinds := [], alts := [], laidByText := true, laidKinds := [.data, .data, .data, .sentinel, .sentinel], laidTests := true, laidLooks := .later }
def FnTypesCardSaid : Prop := Claim7.holds Tryd.pinned (.plain (OpenSpec.ofChange fnTypesSpec)) fnTypesCard

/-- THE TIED CARD OF 'laws.FnTimeAbout'. -/
def fnTimeAboutCard : Claim7 := { stood := { row := fnTimeAboutRow, standIns := [], harness := (true, "cb270410e6d58800067684fc9c67b0c6203716bea30817d271eb11859025bd2d"), looks := true }, kinds := [], alts := [], laidByText := true, laidKinds := [.data, .data, .data, .sentinel, .sentinel], laidTests := true, laidLooks := .later }
def FnTimeAboutCardSaid : Prop := Claim7.holds Tryd.pinned (.plain (OpenSpec.ofChange fnTimeAboutSpec)) fnTimeAboutCard

/-- THE TIED CARD OF 'laws.FnEscapings'. -/
def fnEscapingsCard : Claim7 := { stood := { row := fnEscapingsRow, standIns := [], harness := (true, "cb270410e6d58800067684fc9c67b0c6203716bea30817d271eb11859025bd2d"), looks := true }, kinds := [], alts := [], laidByText := true, laidKinds := [.data, .data, .data, .sentinel, .sentinel], laidTests := true, laidLooks := .later }
def FnEscapingsCardSaid : Prop := Claim7.holds Tryd.pinned (.plain (OpenSpec.ofChange fnEscapingsSpec)) fnEscapingsCard

/-- THE TIED CARD OF 'laws.FnDurationWays'. -/
def fnDurationWaysCard : Claim7 := { stood := { row := fnDurationWaysRow, standIns := [], harness := (true, "cb270410e6d58800067684fc9c67b0c6203716bea30817d271eb11859025bd2d"), looks := true }, kinds := [], alts := [], laidByText := true, laidKinds := [.data, .data, .data, .sentinel, .sentinel], laidTests := true, laidLooks := .later }
def FnDurationWaysCardSaid : Prop := Claim7.holds Tryd.pinned (.plain (OpenSpec.ofChange fnDurationWaysSpec)) fnDurationWaysCard

/-- THE TIED CARD OF 'laws.FnNames'. -/
def fnNamesCard : Claim7 := { stood := { row := fnNamesRow, standIns := [], harness := (true, "cb270410e6d58800067684fc9c67b0c6203716bea30817d271eb11859025bd2d"), looks := true }, kinds := [], alts := [], laidByText := true, laidKinds := [.data, .data, .data, .data, .sentinel, .sentinel, .pinned], laidTests := true, laidLooks := .later }
def FnNamesCardSaid : Prop := Claim7.holds Tryd.pinned (.plain (OpenSpec.ofChange fnNamesSpec)) fnNamesCard

/-- THE TIED CARD OF 'laws.FnEscape'. -/
def fnEscapeCard : Claim7 := { stood := { row := fnEscapeRow, standIns := [], harness := (true, "cb270410e6d58800067684fc9c67b0c6203716bea30817d271eb11859025bd2d"), looks := true }, kinds := [], alts := [], laidByText := true, laidKinds := [.data, .data, .data, .data, .sentinel, .sentinel, .pinned], laidTests := true, laidLooks := .later }
def FnEscapeCardSaid : Prop := Claim7.holds Tryd.pinned (.plain (OpenSpec.ofChange fnEscapeSpec)) fnEscapeCard

/-- THE TIED CARD OF 'laws.FnUnescape'. -/
def fnUnescapeCard : Claim7 := { stood := { row := fnUnescapeRow, standIns := [], harness := (true, "cb270410e6d58800067684fc9c67b0c6203716bea30817d271eb11859025bd2d"), looks := true }, kinds := [], alts := [], laidByText := true, laidKinds := [.data, .data, .data, .data, .sentinel, .sentinel, .pinned], laidTests := true, laidLooks := .later }
def FnUnescapeCardSaid : Prop := Claim7.holds Tryd.pinned (.plain (OpenSpec.ofChange fnUnescapeSpec)) fnUnescapeCard

/-- THE SECOND FORM's CARD OF 'laws.FnDurationRead'. -/
def fnDurationReadUptoCard : Claim7 := { stood := { row := fnDurationReadUptoRow, standIns := [], harness := (true, "cb270410e6d58800067684fc9c67b0c6203716bea30817d271eb11859025bd2d"), looks := true }, kinds := [], alts := [], laidByText := true, laidKinds := [.data, .data, .data, .sentinel, .sentinel], laidTests := true, laidLooks := .later }
def FnDurationReadUptoCardSaid : Prop := Claim7.holds Tryd.pinned (.plain (OpenSpec.upto fnDurationReadSpec)) fnDurationReadUptoCard

/-- THE SECOND FORM's CARD OF 'laws.FnDurationText'. -/
def fnDurationTextUptoCard : Claim7 := { stood := { row := fnDurationTextUptoRow, standIns := [], harness := (true, "cb270410e6d58800067684fc9c67b0c6203716bea30817d271eb11859025bd2d"), looks := true }, kinds := [], alts := [], laidByText := true, laidKinds := [.data, .data, .data, .sentinel, .sentinel], laidTests := true, laidLooks := .later }
def FnDurationTextUptoCardSaid : Prop := Claim7.holds Tryd.pinned (.plain (OpenSpec.upto fnDurationTextSpec)) fnDurationTextUptoCard

/-- THE SECOND FORM's CARD OF 'laws.FnTypes'. -/
def fnTypesUptoCard : Claim7 := { stood := { row := fnTypesUptoRow, standIns := [], harness := (true, "cb270410e6d58800067684fc9c67b0c6203716bea30817d271eb11859025bd2d"), looks := true }, kinds := [], alts := [], laidByText := true, laidKinds := [.data, .data, .data, .sentinel, .sentinel], laidTests := true, laidLooks := .later }
def FnTypesUptoCardSaid : Prop := Claim7.holds Tryd.pinned (.plain (OpenSpec.upto fnTypesSpec)) fnTypesUptoCard

/-- THE SECOND FORM's CARD OF 'laws.FnTimeAbout'. -/
def fnTimeAboutUptoCard : Claim7 := { stood := { row := fnTimeAboutUptoRow, standIns := [], harness := (true, "cb270410e6d58800067684fc9c67b0c6203716bea30817d271eb11859025bd2d"), looks := true }, kinds := [], alts := [], laidByText := true, laidKinds := [.data, .data, .data, .sentinel, .sentinel], laidTests := true, laidLooks := .later }
def FnTimeAboutUptoCardSaid : Prop := Claim7.holds Tryd.pinned (.plain (OpenSpec.upto fnTimeAboutSpec)) fnTimeAboutUptoCard

/-- THE SECOND FORM's CARD OF 'laws.FnEscapings'. -/
def fnEscapingsUptoCard : Claim7 := { stood := { row := fnEscapingsUptoRow, standIns := [], harness := (true, "cb270410e6d58800067684fc9c67b0c6203716bea30817d271eb11859025bd2d"), looks := true }, kinds := [], alts := [], laidByText := true, laidKinds := [.data, .data, .data, .sentinel, .sentinel], laidTests := true, laidLooks := .later }
def FnEscapingsUptoCardSaid : Prop := Claim7.holds Tryd.pinned (.plain (OpenSpec.upto fnEscapingsSpec)) fnEscapingsUptoCard

/-- THE SECOND FORM's CARD OF 'laws.FnDurationWays'. -/
def fnDurationWaysUptoCard : Claim7 := { stood := { row := fnDurationWaysUptoRow, standIns := [], harness := (true, "cb270410e6d58800067684fc9c67b0c6203716bea30817d271eb11859025bd2d"), looks := true }, kinds := [], alts := [], laidByText := true, laidKinds := [.data, .data, .data, .sentinel, .sentinel], laidTests := true, laidLooks := .later }
def FnDurationWaysUptoCardSaid : Prop := Claim7.holds Tryd.pinned (.plain (OpenSpec.upto fnDurationWaysSpec)) fnDurationWaysUptoCard

/-- THE SECOND FORM's CARD OF 'laws.FnNames'. -/
def fnNamesUptoCard : Claim7 := { stood := { row := fnNamesUptoRow, standIns := [], harness := (true, "cb270410e6d58800067684fc9c67b0c6203716bea30817d271eb11859025bd2d"), looks := true }, kinds := [], alts := [], laidByText := true, laidKinds := [.data, .data, .data, .data, .sentinel, .sentinel, .pinned], laidTests := true, laidLooks := .later }
def FnNamesUptoCardSaid : Prop := Claim7.holds Tryd.pinned (.plain (OpenSpec.upto fnNamesSpec)) fnNamesUptoCard

/-- THE SECOND FORM's CARD OF 'laws.FnEscape'. -/
def fnEscapeUptoCard : Claim7 := { stood := { row := fnEscapeUptoRow, standIns := [], harness := (true, "cb270410e6d58800067684fc9c67b0c6203716bea30817d271eb11859025bd2d"), looks := true }, kinds := [], alts := [], laidByText := true, laidKinds := [.data, .data, .data, .data, .sentinel, .sentinel, .pinned], laidTests := true, laidLooks := .later }
def FnEscapeUptoCardSaid : Prop := Claim7.holds Tryd.pinned (.plain (OpenSpec.upto fnEscapeSpec)) fnEscapeUptoCard

/-- THE SECOND FORM's CARD OF 'laws.FnUnescape'. -/
def fnUnescapeUptoCard : Claim7 := { stood := { row := fnUnescapeUptoRow, standIns := [], harness := (true, "cb270410e6d58800067684fc9c67b0c6203716bea30817d271eb11859025bd2d"), looks := true }, kinds := [], alts := [], laidByText := true, laidKinds := [.data, .data, .data, .data, .sentinel, .sentinel, .pinned], laidTests := true, laidLooks := .later }
def FnUnescapeUptoCardSaid : Prop := Claim7.holds Tryd.pinned (.plain (OpenSpec.upto fnUnescapeSpec)) fnUnescapeUptoCard
end Rows
end Go.Proofs.YtaajhionmdjhjaaDoor
