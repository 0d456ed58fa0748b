/-
  DERIVED. GIVEN WITH THE SEED: THE CARDS: each row of YtpoejkinhneamaaDoorRows.lean that lists a variable, with what it lists TIED to the program's text (the seventh form; the later family's looks); each row that meets fmt, with fmt's text TOLD by the authors' own Lean function (tested against real Go, not proved from fmt's source: count such statements apart). THE CARD IS WHAT COUNTS. Prove the row's statement (the work); the ties are given (YtpoejkinhneamaaDoorTie.lean); close each card by the builder's one call (the guide's Derived/Test/ToyasCard.lean, 'card_holds'). Laid BY PROGRAM, IN A SANDBOX (cutbox-door.mjs). By AI agents, Wed Nov 11 2026. No macro, syntax, notation, axiom, sorry.
-/
import Derived.Test.YtpoejkinhneamaaDoorRows
import GoSem.ClaimSeven
namespace Go.Proofs.YtpoejkinhneamaaDoor
namespace Rows

/-- THE TIED CARD OF 'laws.FnAnyAlterPartitionAssignmentsResponse'. -/
def fnAnyAlterPartitionAssignmentsResponseCard : Claim7 := { stood := { row := fnAnyAlterPartitionAssignmentsResponseRow, standIns := [], harness := (true, "ae2e12b06e0e129f757200b6f2a899ae25feb301bb562735aeec92887f22a6a3"), looks := false }, kinds := [], alts := [], laidByText := true, laidKinds := [.sentinel], laidTests := true, laidLooks := .later }
def FnAnyAlterPartitionAssignmentsResponseCardSaid : Prop := Claim7.holds Tryd.pinned (.plain (OpenSpec.ofChange fnAnyAlterPartitionAssignmentsResponseSpec)) fnAnyAlterPartitionAssignmentsResponseCard

/-- THE TIED CARD OF 'laws.FnAnyDescribeClusterResponse'. -/
def fnAnyDescribeClusterResponseCard : Claim7 := { stood := { row := fnAnyDescribeClusterResponseRow, standIns := [], harness := (true, "ae2e12b06e0e129f757200b6f2a899ae25feb301bb562735aeec92887f22a6a3"), looks := false }, kinds := [], alts := [], laidByText := true, laidKinds := [.sentinel], laidTests := true, laidLooks := .later }
def FnAnyDescribeClusterResponseCardSaid : Prop := Claim7.holds Tryd.pinned (.plain (OpenSpec.ofChange fnAnyDescribeClusterResponseSpec)) fnAnyDescribeClusterResponseCard

/-- THE TIED CARD OF 'laws.FnAnyReadShareGroupStateResponse'. -/
def fnAnyReadShareGroupStateResponseCard : Claim7 := { stood := { row := fnAnyReadShareGroupStateResponseRow, standIns := [], harness := (true, "ae2e12b06e0e129f757200b6f2a899ae25feb301bb562735aeec92887f22a6a3"), looks := false }, kinds := [], alts := [], laidByText := true, laidKinds := [.sentinel], laidTests := true, laidLooks := .later }
def FnAnyReadShareGroupStateResponseCardSaid : Prop := Claim7.holds Tryd.pinned (.plain (OpenSpec.ofChange fnAnyReadShareGroupStateResponseSpec)) fnAnyReadShareGroupStateResponseCard

/-- THE TIED CARD OF 'laws.FnAnyBeginQuorumEpochRequest'. -/
def fnAnyBeginQuorumEpochRequestCard : Claim7 := { stood := { row := fnAnyBeginQuorumEpochRequestRow, standIns := [], harness := (true, "ae2e12b06e0e129f757200b6f2a899ae25feb301bb562735aeec92887f22a6a3"), looks := false }, kinds := [], alts := [], laidByText := true, laidKinds := [.sentinel], laidTests := true, laidLooks := .later }
def FnAnyBeginQuorumEpochRequestCardSaid : Prop := Claim7.holds Tryd.pinned (.plain (OpenSpec.ofChange fnAnyBeginQuorumEpochRequestSpec)) fnAnyBeginQuorumEpochRequestCard

/-- THE TIED CARD OF 'laws.FnAnyOffsetCommitRequest'. -/
def fnAnyOffsetCommitRequestCard : Claim7 := { stood := { row := fnAnyOffsetCommitRequestRow, standIns := [], harness := (true, "ae2e12b06e0e129f757200b6f2a899ae25feb301bb562735aeec92887f22a6a3"), looks := false }, kinds := [], alts := [], laidByText := true, laidKinds := [.sentinel], laidTests := true, laidLooks := .later }
def FnAnyOffsetCommitRequestCardSaid : Prop := Claim7.holds Tryd.pinned (.plain (OpenSpec.ofChange fnAnyOffsetCommitRequestSpec)) fnAnyOffsetCommitRequestCard

/-- THE TIED CARD OF 'laws.FnAnyShareFetchRequest'. -/
def fnAnyShareFetchRequestCard : Claim7 := { stood := { row := fnAnyShareFetchRequestRow, standIns := [], harness := (true, "ae2e12b06e0e129f757200b6f2a899ae25feb301bb562735aeec92887f22a6a3"), looks := false }, kinds := [], alts := [], laidByText := true, laidKinds := [.sentinel], laidTests := true, laidLooks := .later }
def FnAnyShareFetchRequestCardSaid : Prop := Claim7.holds Tryd.pinned (.plain (OpenSpec.ofChange fnAnyShareFetchRequestSpec)) fnAnyShareFetchRequestCard

/-- THE SECOND FORM's CARD OF 'laws.FnAnyAlterPartitionAssignmentsResponse'. -/
def fnAnyAlterPartitionAssignmentsResponseUptoCard : Claim7 := { stood := { row := fnAnyAlterPartitionAssignmentsResponseUptoRow, standIns := [], harness := (true, "ae2e12b06e0e129f757200b6f2a899ae25feb301bb562735aeec92887f22a6a3"), looks := false }, kinds := [], alts := [], laidByText := true, laidKinds := [.sentinel], laidTests := true, laidLooks := .later }
def FnAnyAlterPartitionAssignmentsResponseUptoCardSaid : Prop := Claim7.holds Tryd.pinned (.plain (OpenSpec.upto fnAnyAlterPartitionAssignmentsResponseSpec)) fnAnyAlterPartitionAssignmentsResponseUptoCard

/-- THE SECOND FORM's CARD OF 'laws.FnAnyDescribeClusterResponse'. -/
def fnAnyDescribeClusterResponseUptoCard : Claim7 := { stood := { row := fnAnyDescribeClusterResponseUptoRow, standIns := [], harness := (true, "ae2e12b06e0e129f757200b6f2a899ae25feb301bb562735aeec92887f22a6a3"), looks := false }, kinds := [], alts := [], laidByText := true, laidKinds := [.sentinel], laidTests := true, laidLooks := .later }
def FnAnyDescribeClusterResponseUptoCardSaid : Prop := Claim7.holds Tryd.pinned (.plain (OpenSpec.upto fnAnyDescribeClusterResponseSpec)) fnAnyDescribeClusterResponseUptoCard

/-- THE SECOND FORM's CARD OF 'laws.FnAnyReadShareGroupStateResponse'. -/
def fnAnyReadShareGroupStateResponseUptoCard : Claim7 := { stood := { row := fnAnyReadShareGroupStateResponseUptoRow, standIns := [], harness := (true, "ae2e12b06e0e129f757200b6f2a899ae25feb301bb562735aeec92887f22a6a3"), looks := false }, kinds := [], alts := [], laidByText := true, laidKinds := [.sentinel], laidTests := true, laidLooks := .later }
def FnAnyReadShareGroupStateResponseUptoCardSaid : Prop := Claim7.holds Tryd.pinned (.plain (OpenSpec.upto fnAnyReadShareGroupStateResponseSpec)) fnAnyReadShareGroupStateResponseUptoCard

/-- THE SECOND FORM's CARD OF 'laws.FnAnyBeginQuorumEpochRequest'. -/
def fnAnyBeginQuorumEpochRequestUptoCard : Claim7 := { stood := { row := fnAnyBeginQuorumEpochRequestUptoRow, standIns := [], harness := (true, "ae2e12b06e0e129f757200b6f2a899ae25feb301bb562735aeec92887f22a6a3"), looks := false }, kinds := [], alts := [], laidByText := true, laidKinds := [.sentinel], laidTests := true, laidLooks := .later }
def FnAnyBeginQuorumEpochRequestUptoCardSaid : Prop := Claim7.holds Tryd.pinned (.plain (OpenSpec.upto fnAnyBeginQuorumEpochRequestSpec)) fnAnyBeginQuorumEpochRequestUptoCard

/-- THE SECOND FORM's CARD OF 'laws.FnAnyOffsetCommitRequest'. -/
def fnAnyOffsetCommitRequestUptoCard : Claim7 := { stood := { row := fnAnyOffsetCommitRequestUptoRow, standIns := [], harness := (true, "ae2e12b06e0e129f757200b6f2a899ae25feb301bb562735aeec92887f22a6a3"), looks := false }, kinds := [], alts := [], laidByText := true, laidKinds := [.sentinel], laidTests := true, laidLooks := .later }
def FnAnyOffsetCommitRequestUptoCardSaid : Prop := Claim7.holds Tryd.pinned (.plain (OpenSpec.upto fnAnyOffsetCommitRequestSpec)) fnAnyOffsetCommitRequestUptoCard

/-- THE SECOND FORM's CARD OF 'laws.FnAnyShareFetchRequest'. -/
def fnAnyShareFetchRequestUptoCard : Claim7 := { stood := { row := fnAnyShareFetchRequestUptoRow, standIns := [], harness := (true, "ae2e12b06e0e129f757200b6f2a899ae25feb301bb562735aeec92887f22a6a3"), looks := false }, kinds := [], alts := [], laidByText := true, laidKinds := [.sentinel], laidTests := true, laidLooks := .later }
def FnAnyShareFetchRequestUptoCardSaid : Prop := Claim7.holds Tryd.pinned (.plain (OpenSpec.upto fnAnyShareFetchRequestSpec)) fnAnyShareFetchRequestUptoCard
end Rows
end Go.Proofs.YtpoejkinhneamaaDoor
