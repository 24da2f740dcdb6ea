/-
  DERIVED. GIVEN WITH THE SEED: THE CARDS: each row of YtobbfenkdnaanaaGreatDoorRows.lean that lists a variable, with what it lists TIED to the program's text (the seventh form; the later family's looks); each row that meets fmt, with fmt's text TOLD by the authors' own Lean function (tested against real Go, not proved from fmt's source: count such statements apart). THE CARD IS WHAT COUNTS. Prove the row's statement (the work); the ties are given (YtobbfenkdnaanaaGreatDoorTie.lean); close each card by the builder's one call (the guide's Derived/Test/ToyasCard.lean, 'card_holds'). Laid BY PROGRAM, IN A SANDBOX (cutbox-door.mjs). By AI agents, Wed Nov 11 2026. No macro, syntax, notation, axiom, sorry.
-/
import Derived.Test.YtobbfenkdnaanaaGreatDoorRows
import GoSem.ClaimSeven
namespace Go.Proofs.YtobbfenkdnaanaaGreatDoor
namespace Rows

/-- THE TIED CARD OF 'laws.FnMetrics'. -/
def fnMetricsCard : Claim7 := { stood := { row := fnMetricsRow, standIns := [], harness := (true, "2d65dcd726491453312da85100ee65b0c0fd6d8a5606deb473290f7b0e8f1f20"), looks := true }, kinds := [], alts := [], laidByText := true, laidKinds := [.data, .data, .data, .sentinel, .sentinel], laidTests := true, laidLooks := .later }
def FnMetricsCardSaid : Prop := Claim7.holds Tryz.pinned (.plain (OpenSpec.ofChange fnMetricsSpec)) fnMetricsCard

/-- THE TIED CARD OF 'laws.FnAlert'. -/
def fnAlertCard : Claim7 := { stood := { row := fnAlertRow, standIns := [], harness := (true, "2d65dcd726491453312da85100ee65b0c0fd6d8a5606deb473290f7b0e8f1f20"), looks := true }, kinds := [], alts := [], laidByText := true, laidKinds := [.data, .data, .data, .data, .sentinel, .sentinel, .pinned], laidTests := true, laidLooks := .later }
def FnAlertCardSaid : Prop := Claim7.holds Tryz.pinned (.plain (OpenSpec.ofChange fnAlertSpec)) fnAlertCard

/-- THE TIED CARD OF 'laws.FnFingerSets'. -/
def fnFingerSetsCard : Claim7 := { stood := { row := fnFingerSetsRow, standIns := [], harness := (true, "2d65dcd726491453312da85100ee65b0c0fd6d8a5606deb473290f7b0e8f1f20"), looks := true }, kinds := [], alts := [], laidByText := true, laidKinds := [.data, .data, .data, .sentinel, .sentinel], laidTests := true, laidLooks := .later }
def FnFingerSetsCardSaid : Prop := Claim7.holds Tryz.pinned (.plain (OpenSpec.ofChange fnFingerSetsSpec)) fnFingerSetsCard

/-- THE TIED CARD OF 'laws.FnSets'. -/
def fnSetsCard : Claim7 := { stood := { row := fnSetsRow, standIns := [], harness := (true, "2d65dcd726491453312da85100ee65b0c0fd6d8a5606deb473290f7b0e8f1f20"), looks := true }, kinds := [], alts := [], laidByText := true, laidKinds := [.data, .data, .data, .sentinel, .sentinel], laidTests := true, laidLooks := .later }
def FnSetsCardSaid : Prop := Claim7.holds Tryz.pinned (.plain (OpenSpec.ofChange fnSetsSpec)) fnSetsCard

/-- THE TIED CARD OF 'laws.FnAlerts'. -/
def fnAlertsCard : Claim7 := { stood := { row := fnAlertsRow, standIns := [], harness := (true, "2d65dcd726491453312da85100ee65b0c0fd6d8a5606deb473290f7b0e8f1f20"), looks := true }, kinds := [], alts := [], laidByText := true, laidKinds := [.data, .data, .data, .sentinel, .sentinel], laidTests := true, laidLooks := .later }
def FnAlertsCardSaid : Prop := Claim7.holds Tryz.pinned (.plain (OpenSpec.ofChange fnAlertsSpec)) fnAlertsCard

/-- THE TIED CARD OF 'laws.FnSet'. -/
def fnSetCard : Claim7 := { stood := { row := fnSetRow, standIns := [], harness := (true, "2d65dcd726491453312da85100ee65b0c0fd6d8a5606deb473290f7b0e8f1f20"), looks := true }, kinds := [], alts := [], laidByText := true, laidKinds := [.data, .data, .data, .data, .sentinel, .sentinel, .sentinel, .pinned, .pinned, .pinned, .pinned, .pinned, .pinned], laidTests := true, laidLooks := .later }
def FnSetCardSaid : Prop := Claim7.holds Tryz.pinned (.plain (OpenSpec.ofChange fnSetSpec)) fnSetCard

/-- THE TIED CARD OF 'laws.FnTime'. -/
def fnTimeCard : Claim7 := { stood := { row := fnTimeRow, standIns := [], harness := (true, "2d65dcd726491453312da85100ee65b0c0fd6d8a5606deb473290f7b0e8f1f20"), looks := true }, kinds := [], alts := [], laidByText := true, laidKinds := [.data, .data, .data, .data, .data, .sentinel, .sentinel, .pinned, .pinned, .pinned], laidTests := true, laidLooks := .later }
def FnTimeCardSaid : Prop := Claim7.holds Tryz.pinned (.plain (OpenSpec.ofChange fnTimeSpec)) fnTimeCard

/-- THE SECOND FORM's CARD OF 'laws.FnMetrics'. -/
def fnMetricsUptoCard : Claim7 := { stood := { row := fnMetricsUptoRow, standIns := [], harness := (true, "2d65dcd726491453312da85100ee65b0c0fd6d8a5606deb473290f7b0e8f1f20"), looks := true }, kinds := [], alts := [], laidByText := true, laidKinds := [.data, .data, .data, .sentinel, .sentinel], laidTests := true, laidLooks := .later }
def FnMetricsUptoCardSaid : Prop := Claim7.holds Tryz.pinned (.plain (OpenSpec.upto fnMetricsSpec)) fnMetricsUptoCard

/-- THE SECOND FORM's CARD OF 'laws.FnAlert'. -/
def fnAlertUptoCard : Claim7 := { stood := { row := fnAlertUptoRow, standIns := [], harness := (true, "2d65dcd726491453312da85100ee65b0c0fd6d8a5606deb473290f7b0e8f1f20"), looks := true }, kinds := [], alts := [], laidByText := true, laidKinds := [.data, .data, .data, .data, .sentinel, .sentinel, .pinned], laidTests := true, laidLooks := .later }
def FnAlertUptoCardSaid : Prop := Claim7.holds Tryz.pinned (.plain (OpenSpec.upto fnAlertSpec)) fnAlertUptoCard

/-- THE SECOND FORM's CARD OF 'laws.FnFingerSets'. -/
def fnFingerSetsUptoCard : Claim7 := { stood := { row := fnFingerSetsUptoRow, standIns := [], harness := (true, "2d65dcd726491453312da85100ee65b0c0fd6d8a5606deb473290f7b0e8f1f20"), looks := true }, kinds := [], alts := [], laidByText := true, laidKinds := [.data, .data, .data, .sentinel, .sentinel], laidTests := true, laidLooks := .later }
def FnFingerSetsUptoCardSaid : Prop := Claim7.holds Tryz.pinned (.plain (OpenSpec.upto fnFingerSetsSpec)) fnFingerSetsUptoCard

/-- THE SECOND FORM's CARD OF 'laws.FnSets'. -/
def fnSetsUptoCard : Claim7 := { stood := { row := fnSetsUptoRow, standIns := [], harness := (true, "2d65dcd726491453312da85100ee65b0c0fd6d8a5606deb473290f7b0e8f1f20"), looks := true }, kinds := [], alts := [], laidByText := true, laidKinds := [.data, .data, .data, .sentinel, .sentinel], laidTests := true, laidLooks := .later }
def FnSetsUptoCardSaid : Prop := Claim7.holds Tryz.pinned (.plain (OpenSpec.upto fnSetsSpec)) fnSetsUptoCard

/-- THE SECOND FORM's CARD OF 'laws.FnAlerts'. -/
def fnAlertsUptoCard : Claim7 := { stood := { row := fnAlertsUptoRow, standIns := [], harness := (true, "2d65dcd726491453312da85100ee65b0c0fd6d8a5606deb473290f7b0e8f1f20"), looks := true }, kinds := [], alts := [], laidByText := true, laidKinds := [.data, .data, .data, .sentinel, .sentinel], laidTests := true, laidLooks := .later }
def FnAlertsUptoCardSaid : Prop := Claim7.holds Tryz.pinned (.plain (OpenSpec.upto fnAlertsSpec)) fnAlertsUptoCard

/-- THE SECOND FORM's CARD OF 'laws.FnSet'. -/
def fnSetUptoCard : Claim7 := { stood := { row := fnSetUptoRow, standIns := [], harness := (true, "2d65dcd726491453312da85100ee65b0c0fd6d8a5606deb473290f7b0e8f1f20"), looks := true }, kinds := [], alts := [], laidByText := true, laidKinds := [.data, .data, .data, .data, .sentinel, .sentinel, .sentinel, .pinned, .pinned, .pinned, .pinned, .pinned, .pinned], laidTests := true, laidLooks := .later }
def FnSetUptoCardSaid : Prop := Claim7.holds Tryz.pinned (.plain (OpenSpec.upto fnSetSpec)) fnSetUptoCard

/-- THE SECOND FORM's CARD OF 'laws.FnTime'. -/
def fnTimeUptoCard : Claim7 := { stood := { row := fnTimeUptoRow, standIns := [], harness := (true, "2d65dcd726491453312da85100ee65b0c0fd6d8a5606deb473290f7b0e8f1f20"), looks := true }, kinds := [], alts := [], laidByText := true, laidKinds := [.data, .data, .data, .data, .data, .sentinel, .sentinel, .pinned, .pinned, .pinned], laidTests := true, laidLooks := .later }
def FnTimeUptoCardSaid : Prop := Claim7.holds Tryz.pinned (.plain (OpenSpec.upto fnTimeSpec)) fnTimeUptoCard
end Rows
end Go.Proofs.YtobbfenkdnaanaaGreatDoor
