/-
  DERIVED. GIVEN WITH THE SEED: THE CARDS: each row of YtgkbkocakinmfaaDoorRows.lean that lists a variable, with what it lists TIED to the program's text (the seventh form; the later family's looks); each row that meets fmt, with fmt's text TOLD by the authors' own Lean function (tested against real Go, not proved from fmt's source: count such statements apart). THE CARD IS WHAT COUNTS. Prove the row's statement (the work); the ties are given (YtgkbkocakinmfaaDoorTie.lean); close each card by the builder's one call (the guide's Derived/Test/ToyasCard.lean, 'card_holds'). Laid BY PROGRAM, IN A SANDBOX (cutbox-door.mjs). By AI agents, Wed Nov 11 2026. No macro, syntax, notation, axiom, sorry.
-/
import Derived.Test.YtgkbkocakinmfaaDoorRows
import GoSem.ClaimSeven
namespace Go.Proofs.YtgkbkocakinmfaaDoor
namespace Rows

/-- THE TIED CARD OF 'laws.FnRelErrors'. -/
def fnRelErrorsCard : Claim7 := { stood := { row := fnRelErrorsRow, standIns := [], harness := (true, "5e4f4020d00e21a1ceafb2d3540cc4f39075aee3c0c97778db2ecb1015cebd04"), looks := false }, kinds := [], alts := [], laidByText := true, laidKinds := [.data, .pinned], laidTests := true, laidLooks := .later }
def FnRelErrorsCardSaid : Prop := Claim7.holds Tryd.pinned (.plain (OpenSpec.ofChange fnRelErrorsSpec)) fnRelErrorsCard

/-- THE TIED CARD OF 'laws.FnRelFewest'. -/
def fnRelFewestCard : Claim7 := { stood := { row := fnRelFewestRow, standIns := [], harness := (true, "5e4f4020d00e21a1ceafb2d3540cc4f39075aee3c0c97778db2ecb1015cebd04"), looks := false }, kinds := [], alts := [], laidByText := true, laidKinds := [.data, .pinned], laidTests := true, laidLooks := .later }
def FnRelFewestCardSaid : Prop := Claim7.holds Tryd.pinned (.plain (OpenSpec.ofChange fnRelFewestSpec)) fnRelFewestCard

/-- THE TIED CARD OF 'laws.FnRelBelow'. -/
def fnRelBelowCard : Claim7 := { stood := { row := fnRelBelowRow, standIns := [], harness := (true, "5e4f4020d00e21a1ceafb2d3540cc4f39075aee3c0c97778db2ecb1015cebd04"), looks := false }, kinds := [], alts := [], laidByText := true, laidKinds := [.data, .pinned], laidTests := true, laidLooks := .later }
def FnRelBelowCardSaid : Prop := Claim7.holds Tryd.pinned (.plain (OpenSpec.ofChange fnRelBelowSpec)) fnRelBelowCard

/-- THE TIED CARD OF 'laws.FnRelByDirs'. -/
def fnRelByDirsCard : Claim7 := { stood := { row := fnRelByDirsRow, standIns := [], harness := (true, "5e4f4020d00e21a1ceafb2d3540cc4f39075aee3c0c97778db2ecb1015cebd04"), looks := false }, kinds := [], alts := [], laidByText := true, laidKinds := [.data, .pinned], laidTests := true, laidLooks := .later }
def FnRelByDirsCardSaid : Prop := Claim7.holds Tryd.pinned (.plain (OpenSpec.ofChange fnRelByDirsSpec)) fnRelByDirsCard

/-- THE TIED CARD OF 'laws.FnRelJoined'. -/
def fnRelJoinedCard : Claim7 := { stood := { row := fnRelJoinedRow, standIns := [], harness := (true, "5e4f4020d00e21a1ceafb2d3540cc4f39075aee3c0c97778db2ecb1015cebd04"), looks := false }, kinds := [], alts := [], laidByText := true, laidKinds := [.data, .pinned], laidTests := true, laidLooks := .later }
def FnRelJoinedCardSaid : Prop := Claim7.holds Tryd.pinned (.plain (OpenSpec.ofChange fnRelJoinedSpec)) fnRelJoinedCard

/-- THE TIED CARD OF 'laws.FnRelPrefix'. -/
def fnRelPrefixCard : Claim7 := { stood := { row := fnRelPrefixRow, standIns := [], harness := (true, "5e4f4020d00e21a1ceafb2d3540cc4f39075aee3c0c97778db2ecb1015cebd04"), looks := false }, kinds := [], alts := [], laidByText := true, laidKinds := [.data, .pinned], laidTests := true, laidLooks := .later }
def FnRelPrefixCardSaid : Prop := Claim7.holds Tryd.pinned (.plain (OpenSpec.ofChange fnRelPrefixSpec)) fnRelPrefixCard

/-- THE TIED CARD OF 'laws.FnRelSteps'. -/
def fnRelStepsCard : Claim7 := { stood := { row := fnRelStepsRow, standIns := [], harness := (true, "5e4f4020d00e21a1ceafb2d3540cc4f39075aee3c0c97778db2ecb1015cebd04"), looks := false }, kinds := [], alts := [], laidByText := true, laidKinds := [.data, .pinned], laidTests := true, laidLooks := .later }
def FnRelStepsCardSaid : Prop := Claim7.holds Tryd.pinned (.plain (OpenSpec.ofChange fnRelStepsSpec)) fnRelStepsCard

/-- THE TIED CARD OF 'laws.FnRelThereAndBack'. -/
def fnRelThereAndBackCard : Claim7 := { stood := { row := fnRelThereAndBackRow, standIns := [], harness := (true, "5e4f4020d00e21a1ceafb2d3540cc4f39075aee3c0c97778db2ecb1015cebd04"), looks := false }, kinds := [], alts := [], laidByText := true, laidKinds := [.data, .pinned], laidTests := true, laidLooks := .later }
def FnRelThereAndBackCardSaid : Prop := Claim7.holds Tryd.pinned (.plain (OpenSpec.ofChange fnRelThereAndBackSpec)) fnRelThereAndBackCard

/-- THE TIED CARD OF 'laws.FnRelTriangle'. -/
def fnRelTriangleCard : Claim7 := { stood := { row := fnRelTriangleRow, standIns := [], harness := (true, "5e4f4020d00e21a1ceafb2d3540cc4f39075aee3c0c97778db2ecb1015cebd04"), looks := false }, kinds := [], alts := [], laidByText := true, laidKinds := [.data, .pinned], laidTests := true, laidLooks := .later }
def FnRelTriangleCardSaid : Prop := Claim7.holds Tryd.pinned (.plain (OpenSpec.ofChange fnRelTriangleSpec)) fnRelTriangleCard

/-- THE TIED CARD OF 'laws.FnRelBothWays'. -/
def fnRelBothWaysCard : Claim7 := { stood := { row := fnRelBothWaysRow, standIns := [], harness := (true, "5e4f4020d00e21a1ceafb2d3540cc4f39075aee3c0c97778db2ecb1015cebd04"), looks := false }, kinds := [], alts := [], laidByText := true, laidKinds := [.data, .pinned], laidTests := true, laidLooks := .later }
def FnRelBothWaysCardSaid : Prop := Claim7.holds Tryd.pinned (.plain (OpenSpec.ofChange fnRelBothWaysSpec)) fnRelBothWaysCard

/-- THE SECOND FORM's CARD OF 'laws.FnRelErrors'. -/
def fnRelErrorsUptoCard : Claim7 := { stood := { row := fnRelErrorsUptoRow, standIns := [], harness := (true, "5e4f4020d00e21a1ceafb2d3540cc4f39075aee3c0c97778db2ecb1015cebd04"), looks := false }, kinds := [], alts := [], laidByText := true, laidKinds := [.data, .pinned], laidTests := true, laidLooks := .later }
def FnRelErrorsUptoCardSaid : Prop := Claim7.holds Tryd.pinned (.plain (OpenSpec.upto fnRelErrorsSpec)) fnRelErrorsUptoCard

/-- THE SECOND FORM's CARD OF 'laws.FnRelFewest'. -/
def fnRelFewestUptoCard : Claim7 := { stood := { row := fnRelFewestUptoRow, standIns := [], harness := (true, "5e4f4020d00e21a1ceafb2d3540cc4f39075aee3c0c97778db2ecb1015cebd04"), looks := false }, kinds := [], alts := [], laidByText := true, laidKinds := [.data, .pinned], laidTests := true, laidLooks := .later }
def FnRelFewestUptoCardSaid : Prop := Claim7.holds Tryd.pinned (.plain (OpenSpec.upto fnRelFewestSpec)) fnRelFewestUptoCard

/-- THE SECOND FORM's CARD OF 'laws.FnRelBelow'. -/
def fnRelBelowUptoCard : Claim7 := { stood := { row := fnRelBelowUptoRow, standIns := [], harness := (true, "5e4f4020d00e21a1ceafb2d3540cc4f39075aee3c0c97778db2ecb1015cebd04"), looks := false }, kinds := [], alts := [], laidByText := true, laidKinds := [.data, .pinned], laidTests := true, laidLooks := .later }
def FnRelBelowUptoCardSaid : Prop := Claim7.holds Tryd.pinned (.plain (OpenSpec.upto fnRelBelowSpec)) fnRelBelowUptoCard

/-- THE SECOND FORM's CARD OF 'laws.FnRelByDirs'. -/
def fnRelByDirsUptoCard : Claim7 := { stood := { row := fnRelByDirsUptoRow, standIns := [], harness := (true, "5e4f4020d00e21a1ceafb2d3540cc4f39075aee3c0c97778db2ecb1015cebd04"), looks := false }, kinds := [], alts := [], laidByText := true, laidKinds := [.data, .pinned], laidTests := true, laidLooks := .later }
def FnRelByDirsUptoCardSaid : Prop := Claim7.holds Tryd.pinned (.plain (OpenSpec.upto fnRelByDirsSpec)) fnRelByDirsUptoCard

/-- THE SECOND FORM's CARD OF 'laws.FnRelJoined'. -/
def fnRelJoinedUptoCard : Claim7 := { stood := { row := fnRelJoinedUptoRow, standIns := [], harness := (true, "5e4f4020d00e21a1ceafb2d3540cc4f39075aee3c0c97778db2ecb1015cebd04"), looks := false }, kinds := [], alts := [], laidByText := true, laidKinds := [.data, .pinned], laidTests := true, laidLooks := .later }
def FnRelJoinedUptoCardSaid : Prop := Claim7.holds Tryd.pinned (.plain (OpenSpec.upto fnRelJoinedSpec)) fnRelJoinedUptoCard

/-- THE SECOND FORM's CARD OF 'laws.FnRelPrefix'. -/
def fnRelPrefixUptoCard : Claim7 := { stood := { row := fnRelPrefixUptoRow, standIns := [], harness := (true, "5e4f4020d00e21a1ceafb2d3540cc4f39075aee3c0c97778db2ecb1015cebd04"), looks := false }, kinds := [], alts := [], laidByText := true, laidKinds := [.data, .pinned], laidTests := true, laidLooks := .later }
def FnRelPrefixUptoCardSaid : Prop := Claim7.holds Tryd.pinned (.plain (OpenSpec.upto fnRelPrefixSpec)) fnRelPrefixUptoCard

/-- THE SECOND FORM's CARD OF 'laws.FnRelSteps'. -/
def fnRelStepsUptoCard : Claim7 := { stood := { row := fnRelStepsUptoRow, standIns := [], harness := (true, "5e4f4020d00e21a1ceafb2d3540cc4f39075aee3c0c97778db2ecb1015cebd04"), looks := false }, kinds := [], alts := [], laidByText := true, laidKinds := [.data, .pinned], laidTests := true, laidLooks := .later }
def FnRelStepsUptoCardSaid : Prop := Claim7.holds Tryd.pinned (.plain (OpenSpec.upto fnRelStepsSpec)) fnRelStepsUptoCard

/-- THE SECOND FORM's CARD OF 'laws.FnRelThereAndBack'. -/
def fnRelThereAndBackUptoCard : Claim7 := { stood := { row := fnRelThereAndBackUptoRow, standIns := [], harness := (true, "5e4f4020d00e21a1ceafb2d3540cc4f39075aee3c0c97778db2ecb1015cebd04"), looks := false }, kinds := [], alts := [], laidByText := true, laidKinds := [.data, .pinned], laidTests := true, laidLooks := .later }
def FnRelThereAndBackUptoCardSaid : Prop := Claim7.holds Tryd.pinned (.plain (OpenSpec.upto fnRelThereAndBackSpec)) fnRelThereAndBackUptoCard

/-- THE SECOND FORM's CARD OF 'laws.FnRelTriangle'. -/
def fnRelTriangleUptoCard : Claim7 := { stood := { row := fnRelTriangleUptoRow, standIns := [], harness := (true, "5e4f4020d00e21a1ceafb2d3540cc4f39075aee3c0c97778db2ecb1015cebd04"), looks := false }, kinds := [], alts := [], laidByText := true, laidKinds := [.data, .pinned], laidTests := true, laidLooks := .later }
def FnRelTriangleUptoCardSaid : Prop := Claim7.holds Tryd.pinned (.plain (OpenSpec.upto fnRelTriangleSpec)) fnRelTriangleUptoCard

/-- THE SECOND FORM's CARD OF 'laws.FnRelBothWays'. -/
def fnRelBothWaysUptoCard : Claim7 := { stood := { row := fnRelBothWaysUptoRow, standIns := [], harness := (true, "5e4f4020d00e21a1ceafb2d3540cc4f39075aee3c0c97778db2ecb1015cebd04"), looks := false }, kinds := [], alts := [], laidByText := true, laidKinds := [.data, .pinned], laidTests := true, laidLooks := .later }
def FnRelBothWaysUptoCardSaid : Prop := Claim7.holds Tryd.pinned (.plain (OpenSpec.upto fnRelBothWaysSpec)) fnRelBothWaysUptoCard
end Rows
end Go.Proofs.YtgkbkocakinmfaaDoor
