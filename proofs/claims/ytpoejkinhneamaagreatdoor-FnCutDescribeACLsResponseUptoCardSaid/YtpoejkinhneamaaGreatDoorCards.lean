/-
  DERIVED. GIVEN WITH THE SEED: THE CARDS: each row of YtpoejkinhneamaaGreatDoorRows.lean that lists a variable, with what it lists TIED to the program's text (the seventh form; the later family's looks); each row that meets fmt, with fmt's text TOLD by the authors' own Lean function (tested against real Go, not proved from fmt's source: count such statements apart). THE CARD IS WHAT COUNTS. Prove the row's statement (the work); the ties are given (YtpoejkinhneamaaGreatDoorTie.lean); close each card by the builder's one call (the guide's Derived/Test/ToyasCard.lean, 'card_holds'). Laid BY PROGRAM, IN A SANDBOX (cutbox-door.mjs). By AI agents, Wed Nov 11 2026. No macro, syntax, notation, axiom, sorry.
-/
import Derived.Test.YtpoejkinhneamaaGreatDoorRows
import GoSem.ClaimSeven
namespace Go.Proofs.YtpoejkinhneamaaGreatDoor
namespace Rows

/-- THE TIED CARD OF 'laws.FnAgainDescribeTransactionsResponse'. -/
def fnAgainDescribeTransactionsResponseCard : Claim7 := { stood := { row := fnAgainDescribeTransactionsResponseRow, standIns := [], harness := (true, "04c0b1484495dbcd06472915eb05c63755b6b8ff45a708b5bd7adea9e94d3f07"), looks := false }, kinds := [], alts := [], laidByText := true, laidKinds := [.sentinel], laidTests := true, laidLooks := .later }
def FnAgainDescribeTransactionsResponseCardSaid : Prop := Claim7.holds Tryz.pinned (.plain (OpenSpec.ofChange fnAgainDescribeTransactionsResponseSpec)) fnAgainDescribeTransactionsResponseCard

/-- THE TIED CARD OF 'laws.FnCutDescribeACLsResponse'. -/
def fnCutDescribeACLsResponseCard : Claim7 := { stood := { row := fnCutDescribeACLsResponseRow, standIns := [], harness := (true, "04c0b1484495dbcd06472915eb05c63755b6b8ff45a708b5bd7adea9e94d3f07"), looks := false }, kinds := [], alts := [], laidByText := true, laidKinds := [.sentinel], laidTests := true, laidLooks := .later }
def FnCutDescribeACLsResponseCardSaid : Prop := Claim7.holds Tryz.pinned (.plain (OpenSpec.ofChange fnCutDescribeACLsResponseSpec)) fnCutDescribeACLsResponseCard

/-- THE TIED CARD OF 'laws.FnCutJoinGroupResponse'. -/
def fnCutJoinGroupResponseCard : Claim7 := { stood := { row := fnCutJoinGroupResponseRow, standIns := [], harness := (true, "04c0b1484495dbcd06472915eb05c63755b6b8ff45a708b5bd7adea9e94d3f07"), looks := false }, kinds := [], alts := [], laidByText := true, laidKinds := [.sentinel], laidTests := true, laidLooks := .later }
def FnCutJoinGroupResponseCardSaid : Prop := Claim7.holds Tryz.pinned (.plain (OpenSpec.ofChange fnCutJoinGroupResponseSpec)) fnCutJoinGroupResponseCard

/-- THE TIED CARD OF 'laws.FnAgainOffsetFetchResponse'. -/
def fnAgainOffsetFetchResponseCard : Claim7 := { stood := { row := fnAgainOffsetFetchResponseRow, standIns := [], harness := (true, "04c0b1484495dbcd06472915eb05c63755b6b8ff45a708b5bd7adea9e94d3f07"), looks := false }, kinds := [], alts := [], laidByText := true, laidKinds := [.sentinel], laidTests := true, laidLooks := .later }
def FnAgainOffsetFetchResponseCardSaid : Prop := Claim7.holds Tryz.pinned (.plain (OpenSpec.ofChange fnAgainOffsetFetchResponseSpec)) fnAgainOffsetFetchResponseCard

/-- THE TIED CARD OF 'laws.FnCutProduceResponse'. -/
def fnCutProduceResponseCard : Claim7 := { stood := { row := fnCutProduceResponseRow, standIns := [], harness := (true, "04c0b1484495dbcd06472915eb05c63755b6b8ff45a708b5bd7adea9e94d3f07"), looks := false }, kinds := [], alts := [], laidByText := true, laidKinds := [.sentinel], laidTests := true, laidLooks := .later }
def FnCutProduceResponseCardSaid : Prop := Claim7.holds Tryz.pinned (.plain (OpenSpec.ofChange fnCutProduceResponseSpec)) fnCutProduceResponseCard

/-- THE SECOND FORM's CARD OF 'laws.FnAgainDescribeTransactionsResponse'. -/
def fnAgainDescribeTransactionsResponseUptoCard : Claim7 := { stood := { row := fnAgainDescribeTransactionsResponseUptoRow, standIns := [], harness := (true, "04c0b1484495dbcd06472915eb05c63755b6b8ff45a708b5bd7adea9e94d3f07"), looks := false }, kinds := [], alts := [], laidByText := true, laidKinds := [.sentinel], laidTests := true, laidLooks := .later }
def FnAgainDescribeTransactionsResponseUptoCardSaid : Prop := Claim7.holds Tryz.pinned (.plain (OpenSpec.upto fnAgainDescribeTransactionsResponseSpec)) fnAgainDescribeTransactionsResponseUptoCard

/-- THE SECOND FORM's CARD OF 'laws.FnCutDescribeACLsResponse'. -/
def fnCutDescribeACLsResponseUptoCard : Claim7 := { stood := { row := fnCutDescribeACLsResponseUptoRow, standIns := [], harness := (true, "04c0b1484495dbcd06472915eb05c63755b6b8ff45a708b5bd7adea9e94d3f07"), looks := false }, kinds := [], alts := [], laidByText := true, laidKinds := [.sentinel], laidTests := true, laidLooks := .later }
def FnCutDescribeACLsResponseUptoCardSaid : Prop := Claim7.holds Tryz.pinned (.plain (OpenSpec.upto fnCutDescribeACLsResponseSpec)) fnCutDescribeACLsResponseUptoCard

/-- THE SECOND FORM's CARD OF 'laws.FnCutJoinGroupResponse'. -/
def fnCutJoinGroupResponseUptoCard : Claim7 := { stood := { row := fnCutJoinGroupResponseUptoRow, standIns := [], harness := (true, "04c0b1484495dbcd06472915eb05c63755b6b8ff45a708b5bd7adea9e94d3f07"), looks := false }, kinds := [], alts := [], laidByText := true, laidKinds := [.sentinel], laidTests := true, laidLooks := .later }
def FnCutJoinGroupResponseUptoCardSaid : Prop := Claim7.holds Tryz.pinned (.plain (OpenSpec.upto fnCutJoinGroupResponseSpec)) fnCutJoinGroupResponseUptoCard

/-- THE SECOND FORM's CARD OF 'laws.FnAgainOffsetFetchResponse'. -/
def fnAgainOffsetFetchResponseUptoCard : Claim7 := { stood := { row := fnAgainOffsetFetchResponseUptoRow, standIns := [], harness := (true, "04c0b1484495dbcd06472915eb05c63755b6b8ff45a708b5bd7adea9e94d3f07"), looks := false }, kinds := [], alts := [], laidByText := true, laidKinds := [.sentinel], laidTests := true, laidLooks := .later }
def FnAgainOffsetFetchResponseUptoCardSaid : Prop := Claim7.holds Tryz.pinned (.plain (OpenSpec.upto fnAgainOffsetFetchResponseSpec)) fnAgainOffsetFetchResponseUptoCard

/-- THE SECOND FORM's CARD OF 'laws.FnCutProduceResponse'. -/
def fnCutProduceResponseUptoCard : Claim7 := { stood := { row := fnCutProduceResponseUptoRow, standIns := [], harness := (true, "04c0b1484495dbcd06472915eb05c63755b6b8ff45a708b5bd7adea9e94d3f07"), looks := false }, kinds := [], alts := [], laidByText := true, laidKinds := [.sentinel], laidTests := true, laidLooks := .later }
def FnCutProduceResponseUptoCardSaid : Prop := Claim7.holds Tryz.pinned (.plain (OpenSpec.upto fnCutProduceResponseSpec)) fnCutProduceResponseUptoCard
end Rows
end Go.Proofs.YtpoejkinhneamaaGreatDoor
