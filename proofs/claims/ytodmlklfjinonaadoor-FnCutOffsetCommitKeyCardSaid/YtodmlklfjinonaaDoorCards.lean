/-
  DERIVED. GIVEN WITH THE SEED: THE CARDS: each row of YtodmlklfjinonaaDoorRows.lean that lists a variable, with what it lists TIED to the program's text (the seventh form; the later family's looks); each row that meets fmt, with fmt's text TOLD by the authors' own Lean function (tested against real Go, not proved from fmt's source: count such statements apart). THE CARD IS WHAT COUNTS. Prove the row's statement (the work); the ties are given (YtodmlklfjinonaaDoorTie.lean); close each card by the builder's one call (the guide's Derived/Test/ToyasCard.lean, 'card_holds'). Laid BY PROGRAM, IN A SANDBOX (cutbox-door.mjs). By AI agents, Wed Nov 11 2026. No macro, syntax, notation, axiom, sorry.
-/
import Derived.Test.YtodmlklfjinonaaDoorRows
import GoSem.ClaimSeven
namespace Go.Proofs.YtodmlklfjinonaaDoor
namespace Rows

/-- THE TIED CARD OF 'laws.FnAgainEndTxnMarker'. -/
def fnAgainEndTxnMarkerCard : Claim7 := { stood := { row := fnAgainEndTxnMarkerRow, standIns := [], harness := (true, "5b7b3e30f3bad7511ef60cbf82b2f6ba36769f1a40eca2740856f2392cd915e3"), looks := false }, kinds := [], alts := [], laidByText := true, laidKinds := [.sentinel], laidTests := true, laidLooks := .later }
def FnAgainEndTxnMarkerCardSaid : Prop := Claim7.holds Tryd.pinned (.plain (OpenSpec.ofChange fnAgainEndTxnMarkerSpec)) fnAgainEndTxnMarkerCard

/-- THE TIED CARD OF 'laws.FnCutSASLHandshakeRequest'. -/
def fnCutSASLHandshakeRequestCard : Claim7 := { stood := { row := fnCutSASLHandshakeRequestRow, standIns := [], harness := (true, "5b7b3e30f3bad7511ef60cbf82b2f6ba36769f1a40eca2740856f2392cd915e3"), looks := false }, kinds := [], alts := [], laidByText := true, laidKinds := [.sentinel], laidTests := true, laidLooks := .later }
def FnCutSASLHandshakeRequestCardSaid : Prop := Claim7.holds Tryd.pinned (.plain (OpenSpec.ofChange fnCutSASLHandshakeRequestSpec)) fnCutSASLHandshakeRequestCard

/-- THE TIED CARD OF 'laws.FnCutOffsetCommitKey'. -/
def fnCutOffsetCommitKeyCard : Claim7 := { stood := { row := fnCutOffsetCommitKeyRow, standIns := [], harness := (true, "5b7b3e30f3bad7511ef60cbf82b2f6ba36769f1a40eca2740856f2392cd915e3"), looks := false }, kinds := [], alts := [], laidByText := true, laidKinds := [.sentinel], laidTests := true, laidLooks := .later }
def FnCutOffsetCommitKeyCardSaid : Prop := Claim7.holds Tryd.pinned (.plain (OpenSpec.ofChange fnCutOffsetCommitKeySpec)) fnCutOffsetCommitKeyCard

/-- THE TIED CARD OF 'laws.FnAnyConnectMemberMetadata'. -/
def fnAnyConnectMemberMetadataCard : Claim7 := { stood := { row := fnAnyConnectMemberMetadataRow, standIns := [], harness := (true, "5b7b3e30f3bad7511ef60cbf82b2f6ba36769f1a40eca2740856f2392cd915e3"), looks := false }, kinds := [], alts := [], laidByText := true, laidKinds := [.sentinel], laidTests := true, laidLooks := .later }
def FnAnyConnectMemberMetadataCardSaid : Prop := Claim7.holds Tryd.pinned (.plain (OpenSpec.ofChange fnAnyConnectMemberMetadataSpec)) fnAnyConnectMemberMetadataCard

/-- THE TIED CARD OF 'laws.FnAgainUnregisterBrokerRequest'. -/
def fnAgainUnregisterBrokerRequestCard : Claim7 := { stood := { row := fnAgainUnregisterBrokerRequestRow, standIns := [], harness := (true, "5b7b3e30f3bad7511ef60cbf82b2f6ba36769f1a40eca2740856f2392cd915e3"), looks := false }, kinds := [], alts := [], laidByText := true, laidKinds := [.sentinel], laidTests := true, laidLooks := .later }
def FnAgainUnregisterBrokerRequestCardSaid : Prop := Claim7.holds Tryd.pinned (.plain (OpenSpec.ofChange fnAgainUnregisterBrokerRequestSpec)) fnAgainUnregisterBrokerRequestCard

/-- THE SECOND FORM's CARD OF 'laws.FnAgainEndTxnMarker'. -/
def fnAgainEndTxnMarkerUptoCard : Claim7 := { stood := { row := fnAgainEndTxnMarkerUptoRow, standIns := [], harness := (true, "5b7b3e30f3bad7511ef60cbf82b2f6ba36769f1a40eca2740856f2392cd915e3"), looks := false }, kinds := [], alts := [], laidByText := true, laidKinds := [.sentinel], laidTests := true, laidLooks := .later }
def FnAgainEndTxnMarkerUptoCardSaid : Prop := Claim7.holds Tryd.pinned (.plain (OpenSpec.upto fnAgainEndTxnMarkerSpec)) fnAgainEndTxnMarkerUptoCard

/-- THE SECOND FORM's CARD OF 'laws.FnCutSASLHandshakeRequest'. -/
def fnCutSASLHandshakeRequestUptoCard : Claim7 := { stood := { row := fnCutSASLHandshakeRequestUptoRow, standIns := [], harness := (true, "5b7b3e30f3bad7511ef60cbf82b2f6ba36769f1a40eca2740856f2392cd915e3"), looks := false }, kinds := [], alts := [], laidByText := true, laidKinds := [.sentinel], laidTests := true, laidLooks := .later }
def FnCutSASLHandshakeRequestUptoCardSaid : Prop := Claim7.holds Tryd.pinned (.plain (OpenSpec.upto fnCutSASLHandshakeRequestSpec)) fnCutSASLHandshakeRequestUptoCard

/-- THE SECOND FORM's CARD OF 'laws.FnCutOffsetCommitKey'. -/
def fnCutOffsetCommitKeyUptoCard : Claim7 := { stood := { row := fnCutOffsetCommitKeyUptoRow, standIns := [], harness := (true, "5b7b3e30f3bad7511ef60cbf82b2f6ba36769f1a40eca2740856f2392cd915e3"), looks := false }, kinds := [], alts := [], laidByText := true, laidKinds := [.sentinel], laidTests := true, laidLooks := .later }
def FnCutOffsetCommitKeyUptoCardSaid : Prop := Claim7.holds Tryd.pinned (.plain (OpenSpec.upto fnCutOffsetCommitKeySpec)) fnCutOffsetCommitKeyUptoCard

/-- THE SECOND FORM's CARD OF 'laws.FnAnyConnectMemberMetadata'. -/
def fnAnyConnectMemberMetadataUptoCard : Claim7 := { stood := { row := fnAnyConnectMemberMetadataUptoRow, standIns := [], harness := (true, "5b7b3e30f3bad7511ef60cbf82b2f6ba36769f1a40eca2740856f2392cd915e3"), looks := false }, kinds := [], alts := [], laidByText := true, laidKinds := [.sentinel], laidTests := true, laidLooks := .later }
def FnAnyConnectMemberMetadataUptoCardSaid : Prop := Claim7.holds Tryd.pinned (.plain (OpenSpec.upto fnAnyConnectMemberMetadataSpec)) fnAnyConnectMemberMetadataUptoCard

/-- THE SECOND FORM's CARD OF 'laws.FnAgainUnregisterBrokerRequest'. -/
def fnAgainUnregisterBrokerRequestUptoCard : Claim7 := { stood := { row := fnAgainUnregisterBrokerRequestUptoRow, standIns := [], harness := (true, "5b7b3e30f3bad7511ef60cbf82b2f6ba36769f1a40eca2740856f2392cd915e3"), looks := false }, kinds := [], alts := [], laidByText := true, laidKinds := [.sentinel], laidTests := true, laidLooks := .later }
def FnAgainUnregisterBrokerRequestUptoCardSaid : Prop := Claim7.holds Tryd.pinned (.plain (OpenSpec.upto fnAgainUnregisterBrokerRequestSpec)) fnAgainUnregisterBrokerRequestUptoCard
end Rows
end Go.Proofs.YtodmlklfjinonaaDoor
