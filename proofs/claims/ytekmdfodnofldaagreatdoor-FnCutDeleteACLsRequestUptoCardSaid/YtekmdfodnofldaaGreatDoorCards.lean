/-
  DERIVED. GIVEN WITH THE SEED: THE CARDS: each row of YtekmdfodnofldaaGreatDoorRows.lean that lists a variable, with what it lists TIED to the program's text (the seventh form; the later family's looks); each row that meets fmt, with fmt's text TOLD by the authors' own Lean function (tested against real Go, not proved from fmt's source: count such statements apart). THE CARD IS WHAT COUNTS. Prove the row's statement (the work); the ties are given (YtekmdfodnofldaaGreatDoorTie.lean); close each card by the builder's one call (the guide's Derived/Test/ToyasCard.lean, 'card_holds'). Laid BY PROGRAM, IN A SANDBOX (cutbox-door.mjs). By AI agents, Wed Nov 11 2026. No macro, syntax, notation, axiom, sorry.
-/
import Derived.Test.YtekmdfodnofldaaGreatDoorRows
import GoSem.ClaimSeven
namespace Go.Proofs.YtekmdfodnofldaaGreatDoor
namespace Rows

/-- THE TIED CARD OF 'laws.FnAgainWriteShareGroupStateResponse'. -/
def fnAgainWriteShareGroupStateResponseCard : Claim7 := { stood := { row := fnAgainWriteShareGroupStateResponseRow, standIns := [], harness := (true, "f50665ccccc994ff7ec574d163a3a7e5f095ece343b6dcf1578251d12b682a39"), looks := false }, kinds := [], alts := [], laidByText := true, laidKinds := [.sentinel], laidTests := true, laidLooks := .later }
def FnAgainWriteShareGroupStateResponseCardSaid : Prop := Claim7.holds Tryz.pinned (.plain (OpenSpec.ofChange fnAgainWriteShareGroupStateResponseSpec)) fnAgainWriteShareGroupStateResponseCard

/-- THE TIED CARD OF 'laws.FnAgainAlterShareGroupOffsetsRequest'. -/
def fnAgainAlterShareGroupOffsetsRequestCard : Claim7 := { stood := { row := fnAgainAlterShareGroupOffsetsRequestRow, standIns := [], harness := (true, "f50665ccccc994ff7ec574d163a3a7e5f095ece343b6dcf1578251d12b682a39"), looks := false }, kinds := [], alts := [], laidByText := true, laidKinds := [.sentinel], laidTests := true, laidLooks := .later }
def FnAgainAlterShareGroupOffsetsRequestCardSaid : Prop := Claim7.holds Tryz.pinned (.plain (OpenSpec.ofChange fnAgainAlterShareGroupOffsetsRequestSpec)) fnAgainAlterShareGroupOffsetsRequestCard

/-- THE TIED CARD OF 'laws.FnCutListTransactionsRequest'. -/
def fnCutListTransactionsRequestCard : Claim7 := { stood := { row := fnCutListTransactionsRequestRow, standIns := [], harness := (true, "f50665ccccc994ff7ec574d163a3a7e5f095ece343b6dcf1578251d12b682a39"), looks := false }, kinds := [], alts := [], laidByText := true, laidKinds := [.sentinel], laidTests := true, laidLooks := .later }
def FnCutListTransactionsRequestCardSaid : Prop := Claim7.holds Tryz.pinned (.plain (OpenSpec.ofChange fnCutListTransactionsRequestSpec)) fnCutListTransactionsRequestCard

/-- THE TIED CARD OF 'laws.FnAgainCreatePartitionsRequest'. -/
def fnAgainCreatePartitionsRequestCard : Claim7 := { stood := { row := fnAgainCreatePartitionsRequestRow, standIns := [], harness := (true, "f50665ccccc994ff7ec574d163a3a7e5f095ece343b6dcf1578251d12b682a39"), looks := false }, kinds := [], alts := [], laidByText := true, laidKinds := [.sentinel], laidTests := true, laidLooks := .later }
def FnAgainCreatePartitionsRequestCardSaid : Prop := Claim7.holds Tryz.pinned (.plain (OpenSpec.ofChange fnAgainCreatePartitionsRequestSpec)) fnAgainCreatePartitionsRequestCard

/-- THE TIED CARD OF 'laws.FnAgainListOffsetsRequest'. -/
def fnAgainListOffsetsRequestCard : Claim7 := { stood := { row := fnAgainListOffsetsRequestRow, standIns := [], harness := (true, "f50665ccccc994ff7ec574d163a3a7e5f095ece343b6dcf1578251d12b682a39"), looks := false }, kinds := [], alts := [], laidByText := true, laidKinds := [.sentinel], laidTests := true, laidLooks := .later }
def FnAgainListOffsetsRequestCardSaid : Prop := Claim7.holds Tryz.pinned (.plain (OpenSpec.ofChange fnAgainListOffsetsRequestSpec)) fnAgainListOffsetsRequestCard

/-- THE TIED CARD OF 'laws.FnCutElectLeadersResponse'. -/
def fnCutElectLeadersResponseCard : Claim7 := { stood := { row := fnCutElectLeadersResponseRow, standIns := [], harness := (true, "f50665ccccc994ff7ec574d163a3a7e5f095ece343b6dcf1578251d12b682a39"), looks := false }, kinds := [], alts := [], laidByText := true, laidKinds := [.sentinel], laidTests := true, laidLooks := .later }
def FnCutElectLeadersResponseCardSaid : Prop := Claim7.holds Tryz.pinned (.plain (OpenSpec.ofChange fnCutElectLeadersResponseSpec)) fnCutElectLeadersResponseCard

/-- THE TIED CARD OF 'laws.FnCutAlterClientQuotasResponse'. -/
def fnCutAlterClientQuotasResponseCard : Claim7 := { stood := { row := fnCutAlterClientQuotasResponseRow, standIns := [], harness := (true, "f50665ccccc994ff7ec574d163a3a7e5f095ece343b6dcf1578251d12b682a39"), looks := false }, kinds := [], alts := [], laidByText := true, laidKinds := [.sentinel], laidTests := true, laidLooks := .later }
def FnCutAlterClientQuotasResponseCardSaid : Prop := Claim7.holds Tryz.pinned (.plain (OpenSpec.ofChange fnCutAlterClientQuotasResponseSpec)) fnCutAlterClientQuotasResponseCard

/-- THE TIED CARD OF 'laws.FnCutDeleteACLsRequest'. -/
def fnCutDeleteACLsRequestCard : Claim7 := { stood := { row := fnCutDeleteACLsRequestRow, standIns := [], harness := (true, "f50665ccccc994ff7ec574d163a3a7e5f095ece343b6dcf1578251d12b682a39"), looks := false }, kinds := [], alts := [], laidByText := true, laidKinds := [.sentinel], laidTests := true, laidLooks := .later }
def FnCutDeleteACLsRequestCardSaid : Prop := Claim7.holds Tryz.pinned (.plain (OpenSpec.ofChange fnCutDeleteACLsRequestSpec)) fnCutDeleteACLsRequestCard

/-- THE TIED CARD OF 'laws.FnAgainShareGroupHeartbeatResponse'. -/
def fnAgainShareGroupHeartbeatResponseCard : Claim7 := { stood := { row := fnAgainShareGroupHeartbeatResponseRow, standIns := [], harness := (true, "f50665ccccc994ff7ec574d163a3a7e5f095ece343b6dcf1578251d12b682a39"), looks := false }, kinds := [], alts := [], laidByText := true, laidKinds := [.sentinel], laidTests := true, laidLooks := .later }
def FnAgainShareGroupHeartbeatResponseCardSaid : Prop := Claim7.holds Tryz.pinned (.plain (OpenSpec.ofChange fnAgainShareGroupHeartbeatResponseSpec)) fnAgainShareGroupHeartbeatResponseCard

/-- THE TIED CARD OF 'laws.FnCutConsumerGroupHeartbeatResponse'. -/
def fnCutConsumerGroupHeartbeatResponseCard : Claim7 := { stood := { row := fnCutConsumerGroupHeartbeatResponseRow, standIns := [], harness := (true, "f50665ccccc994ff7ec574d163a3a7e5f095ece343b6dcf1578251d12b682a39"), looks := false }, kinds := [], alts := [], laidByText := true, laidKinds := [.sentinel], laidTests := true, laidLooks := .later }
def FnCutConsumerGroupHeartbeatResponseCardSaid : Prop := Claim7.holds Tryz.pinned (.plain (OpenSpec.ofChange fnCutConsumerGroupHeartbeatResponseSpec)) fnCutConsumerGroupHeartbeatResponseCard

/-- THE SECOND FORM's CARD OF 'laws.FnAgainWriteShareGroupStateResponse'. -/
def fnAgainWriteShareGroupStateResponseUptoCard : Claim7 := { stood := { row := fnAgainWriteShareGroupStateResponseUptoRow, standIns := [], harness := (true, "f50665ccccc994ff7ec574d163a3a7e5f095ece343b6dcf1578251d12b682a39"), looks := false }, kinds := [], alts := [], laidByText := true, laidKinds := [.sentinel], laidTests := true, laidLooks := .later }
def FnAgainWriteShareGroupStateResponseUptoCardSaid : Prop := Claim7.holds Tryz.pinned (.plain (OpenSpec.upto fnAgainWriteShareGroupStateResponseSpec)) fnAgainWriteShareGroupStateResponseUptoCard

/-- THE SECOND FORM's CARD OF 'laws.FnAgainAlterShareGroupOffsetsRequest'. -/
def fnAgainAlterShareGroupOffsetsRequestUptoCard : Claim7 := { stood := { row := fnAgainAlterShareGroupOffsetsRequestUptoRow, standIns := [], harness := (true, "f50665ccccc994ff7ec574d163a3a7e5f095ece343b6dcf1578251d12b682a39"), looks := false }, kinds := [], alts := [], laidByText := true, laidKinds := [.sentinel], laidTests := true, laidLooks := .later }
def FnAgainAlterShareGroupOffsetsRequestUptoCardSaid : Prop := Claim7.holds Tryz.pinned (.plain (OpenSpec.upto fnAgainAlterShareGroupOffsetsRequestSpec)) fnAgainAlterShareGroupOffsetsRequestUptoCard

/-- THE SECOND FORM's CARD OF 'laws.FnCutListTransactionsRequest'. -/
def fnCutListTransactionsRequestUptoCard : Claim7 := { stood := { row := fnCutListTransactionsRequestUptoRow, standIns := [], harness := (true, "f50665ccccc994ff7ec574d163a3a7e5f095ece343b6dcf1578251d12b682a39"), looks := false }, kinds := [], alts := [], laidByText := true, laidKinds := [.sentinel], laidTests := true, laidLooks := .later }
def FnCutListTransactionsRequestUptoCardSaid : Prop := Claim7.holds Tryz.pinned (.plain (OpenSpec.upto fnCutListTransactionsRequestSpec)) fnCutListTransactionsRequestUptoCard

/-- THE SECOND FORM's CARD OF 'laws.FnAgainCreatePartitionsRequest'. -/
def fnAgainCreatePartitionsRequestUptoCard : Claim7 := { stood := { row := fnAgainCreatePartitionsRequestUptoRow, standIns := [], harness := (true, "f50665ccccc994ff7ec574d163a3a7e5f095ece343b6dcf1578251d12b682a39"), looks := false }, kinds := [], alts := [], laidByText := true, laidKinds := [.sentinel], laidTests := true, laidLooks := .later }
def FnAgainCreatePartitionsRequestUptoCardSaid : Prop := Claim7.holds Tryz.pinned (.plain (OpenSpec.upto fnAgainCreatePartitionsRequestSpec)) fnAgainCreatePartitionsRequestUptoCard

/-- THE SECOND FORM's CARD OF 'laws.FnAgainListOffsetsRequest'. -/
def fnAgainListOffsetsRequestUptoCard : Claim7 := { stood := { row := fnAgainListOffsetsRequestUptoRow, standIns := [], harness := (true, "f50665ccccc994ff7ec574d163a3a7e5f095ece343b6dcf1578251d12b682a39"), looks := false }, kinds := [], alts := [], laidByText := true, laidKinds := [.sentinel], laidTests := true, laidLooks := .later }
def FnAgainListOffsetsRequestUptoCardSaid : Prop := Claim7.holds Tryz.pinned (.plain (OpenSpec.upto fnAgainListOffsetsRequestSpec)) fnAgainListOffsetsRequestUptoCard

/-- THE SECOND FORM's CARD OF 'laws.FnCutElectLeadersResponse'. -/
def fnCutElectLeadersResponseUptoCard : Claim7 := { stood := { row := fnCutElectLeadersResponseUptoRow, standIns := [], harness := (true, "f50665ccccc994ff7ec574d163a3a7e5f095ece343b6dcf1578251d12b682a39"), looks := false }, kinds := [], alts := [], laidByText := true, laidKinds := [.sentinel], laidTests := true, laidLooks := .later }
def FnCutElectLeadersResponseUptoCardSaid : Prop := Claim7.holds Tryz.pinned (.plain (OpenSpec.upto fnCutElectLeadersResponseSpec)) fnCutElectLeadersResponseUptoCard

/-- THE SECOND FORM's CARD OF 'laws.FnCutAlterClientQuotasResponse'. -/
def fnCutAlterClientQuotasResponseUptoCard : Claim7 := { stood := { row := fnCutAlterClientQuotasResponseUptoRow, standIns := [], harness := (true, "f50665ccccc994ff7ec574d163a3a7e5f095ece343b6dcf1578251d12b682a39"), looks := false }, kinds := [], alts := [], laidByText := true, laidKinds := [.sentinel], laidTests := true, laidLooks := .later }
def FnCutAlterClientQuotasResponseUptoCardSaid : Prop := Claim7.holds Tryz.pinned (.plain (OpenSpec.upto fnCutAlterClientQuotasResponseSpec)) fnCutAlterClientQuotasResponseUptoCard

/-- THE SECOND FORM's CARD OF 'laws.FnCutDeleteACLsRequest'. -/
def fnCutDeleteACLsRequestUptoCard : Claim7 := { stood := { row := fnCutDeleteACLsRequestUptoRow, standIns := [], harness := (true, "f50665ccccc994ff7ec574d163a3a7e5f095ece343b6dcf1578251d12b682a39"), looks := false }, kinds := [], alts := [], laidByText := true, laidKinds := [.sentinel], laidTests := true, laidLooks := .later }
def FnCutDeleteACLsRequestUptoCardSaid : Prop := Claim7.holds Tryz.pinned (.plain (OpenSpec.upto fnCutDeleteACLsRequestSpec)) fnCutDeleteACLsRequestUptoCard

/-- THE SECOND FORM's CARD OF 'laws.FnAgainShareGroupHeartbeatResponse'. -/
def fnAgainShareGroupHeartbeatResponseUptoCard : Claim7 := { stood := { row := fnAgainShareGroupHeartbeatResponseUptoRow, standIns := [], harness := (true, "f50665ccccc994ff7ec574d163a3a7e5f095ece343b6dcf1578251d12b682a39"), looks := false }, kinds := [], alts := [], laidByText := true, laidKinds := [.sentinel], laidTests := true, laidLooks := .later }
def FnAgainShareGroupHeartbeatResponseUptoCardSaid : Prop := Claim7.holds Tryz.pinned (.plain (OpenSpec.upto fnAgainShareGroupHeartbeatResponseSpec)) fnAgainShareGroupHeartbeatResponseUptoCard

/-- THE SECOND FORM's CARD OF 'laws.FnCutConsumerGroupHeartbeatResponse'. -/
def fnCutConsumerGroupHeartbeatResponseUptoCard : Claim7 := { stood := { row := fnCutConsumerGroupHeartbeatResponseUptoRow, standIns := [], harness := (true, "f50665ccccc994ff7ec574d163a3a7e5f095ece343b6dcf1578251d12b682a39"), looks := false }, kinds := [], alts := [], laidByText := true, laidKinds := [.sentinel], laidTests := true, laidLooks := .later }
def FnCutConsumerGroupHeartbeatResponseUptoCardSaid : Prop := Claim7.holds Tryz.pinned (.plain (OpenSpec.upto fnCutConsumerGroupHeartbeatResponseSpec)) fnCutConsumerGroupHeartbeatResponseUptoCard
end Rows
end Go.Proofs.YtekmdfodnofldaaGreatDoor
