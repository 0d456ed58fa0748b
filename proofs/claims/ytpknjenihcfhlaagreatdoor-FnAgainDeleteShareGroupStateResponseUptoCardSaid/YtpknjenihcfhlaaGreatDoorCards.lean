/-
  DERIVED. GIVEN WITH THE SEED: THE CARDS: each row of YtpknjenihcfhlaaGreatDoorRows.lean that lists a variable, with what it lists TIED to the program's text (the seventh form; the later family's looks); each row that meets fmt, with fmt's text TOLD by the authors' own Lean function (tested against real Go, not proved from fmt's source: count such statements apart). THE CARD IS WHAT COUNTS. Prove the row's statement (the work); the ties are given (YtpknjenihcfhlaaGreatDoorTie.lean); close each card by the builder's one call (the guide's Derived/Test/ToyasCard.lean, 'card_holds'). Laid BY PROGRAM, IN A SANDBOX (cutbox-door.mjs). By AI agents, Wed Nov 11 2026. No macro, syntax, notation, axiom, sorry.
-/
import Derived.Test.YtpknjenihcfhlaaGreatDoorRows
import GoSem.ClaimSeven
namespace Go.Proofs.YtpknjenihcfhlaaGreatDoor
namespace Rows

/-- THE TIED CARD OF 'laws.FnAgainDescribeGroupsRequest'. -/
def fnAgainDescribeGroupsRequestCard : Claim7 := { stood := { row := fnAgainDescribeGroupsRequestRow, standIns := [], harness := (true, "8c5f616f54c08b1d62a9a56fc9b21ad36f92f101f4eeafe019ac4d67fa417798"), looks := false }, kinds := [], alts := [], laidByText := true, laidKinds := [.sentinel], laidTests := true, laidLooks := .later }
def FnAgainDescribeGroupsRequestCardSaid : Prop := Claim7.holds Tryz.pinned (.plain (OpenSpec.ofChange fnAgainDescribeGroupsRequestSpec)) fnAgainDescribeGroupsRequestCard

/-- THE TIED CARD OF 'laws.FnCutApiVersionsRequest'. -/
def fnCutApiVersionsRequestCard : Claim7 := { stood := { row := fnCutApiVersionsRequestRow, standIns := [], harness := (true, "8c5f616f54c08b1d62a9a56fc9b21ad36f92f101f4eeafe019ac4d67fa417798"), looks := false }, kinds := [], alts := [], laidByText := true, laidKinds := [.sentinel], laidTests := true, laidLooks := .later }
def FnCutApiVersionsRequestCardSaid : Prop := Claim7.holds Tryz.pinned (.plain (OpenSpec.ofChange fnCutApiVersionsRequestSpec)) fnCutApiVersionsRequestCard

/-- THE TIED CARD OF 'laws.FnCutFindCoordinatorRequest'. -/
def fnCutFindCoordinatorRequestCard : Claim7 := { stood := { row := fnCutFindCoordinatorRequestRow, standIns := [], harness := (true, "8c5f616f54c08b1d62a9a56fc9b21ad36f92f101f4eeafe019ac4d67fa417798"), looks := false }, kinds := [], alts := [], laidByText := true, laidKinds := [.sentinel], laidTests := true, laidLooks := .later }
def FnCutFindCoordinatorRequestCardSaid : Prop := Claim7.holds Tryz.pinned (.plain (OpenSpec.ofChange fnCutFindCoordinatorRequestSpec)) fnCutFindCoordinatorRequestCard

/-- THE TIED CARD OF 'laws.FnCutDescribeProducersRequest'. -/
def fnCutDescribeProducersRequestCard : Claim7 := { stood := { row := fnCutDescribeProducersRequestRow, standIns := [], harness := (true, "8c5f616f54c08b1d62a9a56fc9b21ad36f92f101f4eeafe019ac4d67fa417798"), looks := false }, kinds := [], alts := [], laidByText := true, laidKinds := [.sentinel], laidTests := true, laidLooks := .later }
def FnCutDescribeProducersRequestCardSaid : Prop := Claim7.holds Tryz.pinned (.plain (OpenSpec.ofChange fnCutDescribeProducersRequestSpec)) fnCutDescribeProducersRequestCard

/-- THE TIED CARD OF 'laws.FnCutUpdateFeaturesRequest'. -/
def fnCutUpdateFeaturesRequestCard : Claim7 := { stood := { row := fnCutUpdateFeaturesRequestRow, standIns := [], harness := (true, "8c5f616f54c08b1d62a9a56fc9b21ad36f92f101f4eeafe019ac4d67fa417798"), looks := false }, kinds := [], alts := [], laidByText := true, laidKinds := [.sentinel], laidTests := true, laidLooks := .later }
def FnCutUpdateFeaturesRequestCardSaid : Prop := Claim7.holds Tryz.pinned (.plain (OpenSpec.ofChange fnCutUpdateFeaturesRequestSpec)) fnCutUpdateFeaturesRequestCard

/-- THE TIED CARD OF 'laws.FnAgainDeleteShareGroupStateResponse'. -/
def fnAgainDeleteShareGroupStateResponseCard : Claim7 := { stood := { row := fnAgainDeleteShareGroupStateResponseRow, standIns := [], harness := (true, "8c5f616f54c08b1d62a9a56fc9b21ad36f92f101f4eeafe019ac4d67fa417798"), looks := false }, kinds := [], alts := [], laidByText := true, laidKinds := [.sentinel], laidTests := true, laidLooks := .later }
def FnAgainDeleteShareGroupStateResponseCardSaid : Prop := Claim7.holds Tryz.pinned (.plain (OpenSpec.ofChange fnAgainDeleteShareGroupStateResponseSpec)) fnAgainDeleteShareGroupStateResponseCard

/-- THE SECOND FORM's CARD OF 'laws.FnAgainDescribeGroupsRequest'. -/
def fnAgainDescribeGroupsRequestUptoCard : Claim7 := { stood := { row := fnAgainDescribeGroupsRequestUptoRow, standIns := [], harness := (true, "8c5f616f54c08b1d62a9a56fc9b21ad36f92f101f4eeafe019ac4d67fa417798"), looks := false }, kinds := [], alts := [], laidByText := true, laidKinds := [.sentinel], laidTests := true, laidLooks := .later }
def FnAgainDescribeGroupsRequestUptoCardSaid : Prop := Claim7.holds Tryz.pinned (.plain (OpenSpec.upto fnAgainDescribeGroupsRequestSpec)) fnAgainDescribeGroupsRequestUptoCard

/-- THE SECOND FORM's CARD OF 'laws.FnCutApiVersionsRequest'. -/
def fnCutApiVersionsRequestUptoCard : Claim7 := { stood := { row := fnCutApiVersionsRequestUptoRow, standIns := [], harness := (true, "8c5f616f54c08b1d62a9a56fc9b21ad36f92f101f4eeafe019ac4d67fa417798"), looks := false }, kinds := [], alts := [], laidByText := true, laidKinds := [.sentinel], laidTests := true, laidLooks := .later }
def FnCutApiVersionsRequestUptoCardSaid : Prop := Claim7.holds Tryz.pinned (.plain (OpenSpec.upto fnCutApiVersionsRequestSpec)) fnCutApiVersionsRequestUptoCard

/-- THE SECOND FORM's CARD OF 'laws.FnCutFindCoordinatorRequest'. -/
def fnCutFindCoordinatorRequestUptoCard : Claim7 := { stood := { row := fnCutFindCoordinatorRequestUptoRow, standIns := [], harness := (true, "8c5f616f54c08b1d62a9a56fc9b21ad36f92f101f4eeafe019ac4d67fa417798"), looks := false }, kinds := [], alts := [], laidByText := true, laidKinds := [.sentinel], laidTests := true, laidLooks := .later }
def FnCutFindCoordinatorRequestUptoCardSaid : Prop := Claim7.holds Tryz.pinned (.plain (OpenSpec.upto fnCutFindCoordinatorRequestSpec)) fnCutFindCoordinatorRequestUptoCard

/-- THE SECOND FORM's CARD OF 'laws.FnCutDescribeProducersRequest'. -/
def fnCutDescribeProducersRequestUptoCard : Claim7 := { stood := { row := fnCutDescribeProducersRequestUptoRow, standIns := [], harness := (true, "8c5f616f54c08b1d62a9a56fc9b21ad36f92f101f4eeafe019ac4d67fa417798"), looks := false }, kinds := [], alts := [], laidByText := true, laidKinds := [.sentinel], laidTests := true, laidLooks := .later }
def FnCutDescribeProducersRequestUptoCardSaid : Prop := Claim7.holds Tryz.pinned (.plain (OpenSpec.upto fnCutDescribeProducersRequestSpec)) fnCutDescribeProducersRequestUptoCard

/-- THE SECOND FORM's CARD OF 'laws.FnCutUpdateFeaturesRequest'. -/
def fnCutUpdateFeaturesRequestUptoCard : Claim7 := { stood := { row := fnCutUpdateFeaturesRequestUptoRow, standIns := [], harness := (true, "8c5f616f54c08b1d62a9a56fc9b21ad36f92f101f4eeafe019ac4d67fa417798"), looks := false }, kinds := [], alts := [], laidByText := true, laidKinds := [.sentinel], laidTests := true, laidLooks := .later }
def FnCutUpdateFeaturesRequestUptoCardSaid : Prop := Claim7.holds Tryz.pinned (.plain (OpenSpec.upto fnCutUpdateFeaturesRequestSpec)) fnCutUpdateFeaturesRequestUptoCard

/-- THE SECOND FORM's CARD OF 'laws.FnAgainDeleteShareGroupStateResponse'. -/
def fnAgainDeleteShareGroupStateResponseUptoCard : Claim7 := { stood := { row := fnAgainDeleteShareGroupStateResponseUptoRow, standIns := [], harness := (true, "8c5f616f54c08b1d62a9a56fc9b21ad36f92f101f4eeafe019ac4d67fa417798"), looks := false }, kinds := [], alts := [], laidByText := true, laidKinds := [.sentinel], laidTests := true, laidLooks := .later }
def FnAgainDeleteShareGroupStateResponseUptoCardSaid : Prop := Claim7.holds Tryz.pinned (.plain (OpenSpec.upto fnAgainDeleteShareGroupStateResponseSpec)) fnAgainDeleteShareGroupStateResponseUptoCard
end Rows
end Go.Proofs.YtpknjenihcfhlaaGreatDoor
