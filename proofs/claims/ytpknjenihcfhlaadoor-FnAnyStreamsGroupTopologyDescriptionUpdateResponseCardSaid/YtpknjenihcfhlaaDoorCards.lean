/-
  DERIVED. GIVEN WITH THE SEED: THE CARDS: each row of YtpknjenihcfhlaaDoorRows.lean that lists a variable, with what it lists TIED to the program's text (the seventh form; the later family's looks); each row that meets fmt, with fmt's text TOLD by the authors' own Lean function (tested against real Go, not proved from fmt's source: count such statements apart). THE CARD IS WHAT COUNTS. Prove the row's statement (the work); the ties are given (YtpknjenihcfhlaaDoorTie.lean); close each card by the builder's one call (the guide's Derived/Test/ToyasCard.lean, 'card_holds'). Laid BY PROGRAM, IN A SANDBOX (cutbox-door.mjs). By AI agents, Wed Nov 11 2026. No macro, syntax, notation, axiom, sorry.
-/
import Derived.Test.YtpknjenihcfhlaaDoorRows
import GoSem.ClaimSeven
namespace Go.Proofs.YtpknjenihcfhlaaDoor
namespace Rows

/-- THE TIED CARD OF 'laws.FnAnyControllerRegistrationResponse'. -/
def fnAnyControllerRegistrationResponseCard : Claim7 := { stood := { row := fnAnyControllerRegistrationResponseRow, standIns := [], harness := (true, "aa74a2c5763e66eab6bbc9f452a5e0cec52a7fe48a16b63a37250bd8f05300b3"), looks := false }, kinds := [], alts := [], laidByText := true, laidKinds := [.sentinel], laidTests := true, laidLooks := .later }
def FnAnyControllerRegistrationResponseCardSaid : Prop := Claim7.holds Tryd.pinned (.plain (OpenSpec.ofChange fnAnyControllerRegistrationResponseSpec)) fnAnyControllerRegistrationResponseCard

/-- THE TIED CARD OF 'laws.FnAnyAddOffsetsToTxnRequest'. -/
def fnAnyAddOffsetsToTxnRequestCard : Claim7 := { stood := { row := fnAnyAddOffsetsToTxnRequestRow, standIns := [], harness := (true, "aa74a2c5763e66eab6bbc9f452a5e0cec52a7fe48a16b63a37250bd8f05300b3"), looks := false }, kinds := [], alts := [], laidByText := true, laidKinds := [.sentinel], laidTests := true, laidLooks := .later }
def FnAnyAddOffsetsToTxnRequestCardSaid : Prop := Claim7.holds Tryd.pinned (.plain (OpenSpec.ofChange fnAnyAddOffsetsToTxnRequestSpec)) fnAnyAddOffsetsToTxnRequestCard

/-- THE TIED CARD OF 'laws.FnAnyStreamsGroupTopologyDescriptionUpdateResponse'. -/
def fnAnyStreamsGroupTopologyDescriptionUpdateResponseCard : Claim7 := { stood := { row := fnAnyStreamsGroupTopologyDescriptionUpdateResponseRow, standIns := [], harness := (true, "aa74a2c5763e66eab6bbc9f452a5e0cec52a7fe48a16b63a37250bd8f05300b3"), looks := false }, kinds := [], alts := [], laidByText := true, laidKinds := [.sentinel], laidTests := true, laidLooks := .later }
def FnAnyStreamsGroupTopologyDescriptionUpdateResponseCardSaid : Prop := Claim7.holds Tryd.pinned (.plain (OpenSpec.ofChange fnAnyStreamsGroupTopologyDescriptionUpdateResponseSpec)) fnAnyStreamsGroupTopologyDescriptionUpdateResponseCard

/-- THE TIED CARD OF 'laws.FnAnyHeartbeatRequest'. -/
def fnAnyHeartbeatRequestCard : Claim7 := { stood := { row := fnAnyHeartbeatRequestRow, standIns := [], harness := (true, "aa74a2c5763e66eab6bbc9f452a5e0cec52a7fe48a16b63a37250bd8f05300b3"), looks := false }, kinds := [], alts := [], laidByText := true, laidKinds := [.sentinel], laidTests := true, laidLooks := .later }
def FnAnyHeartbeatRequestCardSaid : Prop := Claim7.holds Tryd.pinned (.plain (OpenSpec.ofChange fnAnyHeartbeatRequestSpec)) fnAnyHeartbeatRequestCard

/-- THE TIED CARD OF 'laws.FnAnyLeaveGroupResponse'. -/
def fnAnyLeaveGroupResponseCard : Claim7 := { stood := { row := fnAnyLeaveGroupResponseRow, standIns := [], harness := (true, "aa74a2c5763e66eab6bbc9f452a5e0cec52a7fe48a16b63a37250bd8f05300b3"), looks := false }, kinds := [], alts := [], laidByText := true, laidKinds := [.sentinel], laidTests := true, laidLooks := .later }
def FnAnyLeaveGroupResponseCardSaid : Prop := Claim7.holds Tryd.pinned (.plain (OpenSpec.ofChange fnAnyLeaveGroupResponseSpec)) fnAnyLeaveGroupResponseCard

/-- THE TIED CARD OF 'laws.FnAnyDeleteRecordsRequest'. -/
def fnAnyDeleteRecordsRequestCard : Claim7 := { stood := { row := fnAnyDeleteRecordsRequestRow, standIns := [], harness := (true, "aa74a2c5763e66eab6bbc9f452a5e0cec52a7fe48a16b63a37250bd8f05300b3"), looks := false }, kinds := [], alts := [], laidByText := true, laidKinds := [.sentinel], laidTests := true, laidLooks := .later }
def FnAnyDeleteRecordsRequestCardSaid : Prop := Claim7.holds Tryd.pinned (.plain (OpenSpec.ofChange fnAnyDeleteRecordsRequestSpec)) fnAnyDeleteRecordsRequestCard

/-- THE SECOND FORM's CARD OF 'laws.FnAnyControllerRegistrationResponse'. -/
def fnAnyControllerRegistrationResponseUptoCard : Claim7 := { stood := { row := fnAnyControllerRegistrationResponseUptoRow, standIns := [], harness := (true, "aa74a2c5763e66eab6bbc9f452a5e0cec52a7fe48a16b63a37250bd8f05300b3"), looks := false }, kinds := [], alts := [], laidByText := true, laidKinds := [.sentinel], laidTests := true, laidLooks := .later }
def FnAnyControllerRegistrationResponseUptoCardSaid : Prop := Claim7.holds Tryd.pinned (.plain (OpenSpec.upto fnAnyControllerRegistrationResponseSpec)) fnAnyControllerRegistrationResponseUptoCard

/-- THE SECOND FORM's CARD OF 'laws.FnAnyAddOffsetsToTxnRequest'. -/
def fnAnyAddOffsetsToTxnRequestUptoCard : Claim7 := { stood := { row := fnAnyAddOffsetsToTxnRequestUptoRow, standIns := [], harness := (true, "aa74a2c5763e66eab6bbc9f452a5e0cec52a7fe48a16b63a37250bd8f05300b3"), looks := false }, kinds := [], alts := [], laidByText := true, laidKinds := [.sentinel], laidTests := true, laidLooks := .later }
def FnAnyAddOffsetsToTxnRequestUptoCardSaid : Prop := Claim7.holds Tryd.pinned (.plain (OpenSpec.upto fnAnyAddOffsetsToTxnRequestSpec)) fnAnyAddOffsetsToTxnRequestUptoCard

/-- THE SECOND FORM's CARD OF 'laws.FnAnyStreamsGroupTopologyDescriptionUpdateResponse'. -/
def fnAnyStreamsGroupTopologyDescriptionUpdateResponseUptoCard : Claim7 := { stood := { row := fnAnyStreamsGroupTopologyDescriptionUpdateResponseUptoRow, standIns := [], harness := (true, "aa74a2c5763e66eab6bbc9f452a5e0cec52a7fe48a16b63a37250bd8f05300b3"), looks := false }, kinds := [], alts := [], laidByText := true, laidKinds := [.sentinel], laidTests := true, laidLooks := .later }
def FnAnyStreamsGroupTopologyDescriptionUpdateResponseUptoCardSaid : Prop := Claim7.holds Tryd.pinned (.plain (OpenSpec.upto fnAnyStreamsGroupTopologyDescriptionUpdateResponseSpec)) fnAnyStreamsGroupTopologyDescriptionUpdateResponseUptoCard

/-- THE SECOND FORM's CARD OF 'laws.FnAnyHeartbeatRequest'. -/
def fnAnyHeartbeatRequestUptoCard : Claim7 := { stood := { row := fnAnyHeartbeatRequestUptoRow, standIns := [], harness := (true, "aa74a2c5763e66eab6bbc9f452a5e0cec52a7fe48a16b63a37250bd8f05300b3"), looks := false }, kinds := [], alts := [], laidByText := true, laidKinds := [.sentinel], laidTests := true, laidLooks := .later }
def FnAnyHeartbeatRequestUptoCardSaid : Prop := Claim7.holds Tryd.pinned (.plain (OpenSpec.upto fnAnyHeartbeatRequestSpec)) fnAnyHeartbeatRequestUptoCard

/-- THE SECOND FORM's CARD OF 'laws.FnAnyLeaveGroupResponse'. -/
def fnAnyLeaveGroupResponseUptoCard : Claim7 := { stood := { row := fnAnyLeaveGroupResponseUptoRow, standIns := [], harness := (true, "aa74a2c5763e66eab6bbc9f452a5e0cec52a7fe48a16b63a37250bd8f05300b3"), looks := false }, kinds := [], alts := [], laidByText := true, laidKinds := [.sentinel], laidTests := true, laidLooks := .later }
def FnAnyLeaveGroupResponseUptoCardSaid : Prop := Claim7.holds Tryd.pinned (.plain (OpenSpec.upto fnAnyLeaveGroupResponseSpec)) fnAnyLeaveGroupResponseUptoCard

/-- THE SECOND FORM's CARD OF 'laws.FnAnyDeleteRecordsRequest'. -/
def fnAnyDeleteRecordsRequestUptoCard : Claim7 := { stood := { row := fnAnyDeleteRecordsRequestUptoRow, standIns := [], harness := (true, "aa74a2c5763e66eab6bbc9f452a5e0cec52a7fe48a16b63a37250bd8f05300b3"), looks := false }, kinds := [], alts := [], laidByText := true, laidKinds := [.sentinel], laidTests := true, laidLooks := .later }
def FnAnyDeleteRecordsRequestUptoCardSaid : Prop := Claim7.holds Tryd.pinned (.plain (OpenSpec.upto fnAnyDeleteRecordsRequestSpec)) fnAnyDeleteRecordsRequestUptoCard
end Rows
end Go.Proofs.YtpknjenihcfhlaaDoor
