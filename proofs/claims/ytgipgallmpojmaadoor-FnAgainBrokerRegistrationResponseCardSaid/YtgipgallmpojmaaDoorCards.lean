/-
  DERIVED. GIVEN WITH THE SEED: THE CARDS: each row of YtgipgallmpojmaaDoorRows.lean that lists a variable, with what it lists TIED to the program's text (the seventh form; the later family's looks); each row that meets fmt, with fmt's text TOLD by the authors' own Lean function (tested against real Go, not proved from fmt's source: count such statements apart). THE CARD IS WHAT COUNTS. Prove the row's statement (the work); the ties are given (YtgipgallmpojmaaDoorTie.lean); close each card by the builder's one call (the guide's Derived/Test/ToyasCard.lean, 'card_holds'). Laid BY PROGRAM, IN A SANDBOX (cutbox-door.mjs). By AI agents, Wed Nov 11 2026. No macro, syntax, notation, axiom, sorry.
-/
import Derived.Test.YtgipgallmpojmaaDoorRows
import GoSem.ClaimSeven
namespace Go.Proofs.YtgipgallmpojmaaDoor
namespace Rows

/-- THE TIED CARD OF 'laws.FnAgainEndTxnMarker'. -/
def fnAgainEndTxnMarkerCard : Claim7 := { stood := { row := fnAgainEndTxnMarkerRow, standIns := [], harness := (true, "4dda43ed985ae84cb9af174433e9aa682f0143a18f1ef8a1cc3196190eff2cd1"), looks := false }, kinds := [], alts := [], laidByText := true, laidKinds := [.sentinel], laidTests := true, laidLooks := .later }
def FnAgainEndTxnMarkerCardSaid : Prop := Claim7.holds Tryd.pinned (.plain (OpenSpec.ofChange fnAgainEndTxnMarkerSpec)) fnAgainEndTxnMarkerCard

/-- THE TIED CARD OF 'laws.FnCutSASLHandshakeRequest'. -/
def fnCutSASLHandshakeRequestCard : Claim7 := { stood := { row := fnCutSASLHandshakeRequestRow, standIns := [], harness := (true, "4dda43ed985ae84cb9af174433e9aa682f0143a18f1ef8a1cc3196190eff2cd1"), looks := false }, kinds := [], alts := [], laidByText := true, laidKinds := [.sentinel], laidTests := true, laidLooks := .later }
def FnCutSASLHandshakeRequestCardSaid : Prop := Claim7.holds Tryd.pinned (.plain (OpenSpec.ofChange fnCutSASLHandshakeRequestSpec)) fnCutSASLHandshakeRequestCard

/-- THE TIED CARD OF 'laws.FnCutOffsetCommitKey'. -/
def fnCutOffsetCommitKeyCard : Claim7 := { stood := { row := fnCutOffsetCommitKeyRow, standIns := [], harness := (true, "4dda43ed985ae84cb9af174433e9aa682f0143a18f1ef8a1cc3196190eff2cd1"), looks := false }, kinds := [], alts := [], laidByText := true, laidKinds := [.sentinel], laidTests := true, laidLooks := .later }
def FnCutOffsetCommitKeyCardSaid : Prop := Claim7.holds Tryd.pinned (.plain (OpenSpec.ofChange fnCutOffsetCommitKeySpec)) fnCutOffsetCommitKeyCard

/-- THE TIED CARD OF 'laws.FnAnyConnectMemberMetadata'. -/
def fnAnyConnectMemberMetadataCard : Claim7 := { stood := { row := fnAnyConnectMemberMetadataRow, standIns := [], harness := (true, "4dda43ed985ae84cb9af174433e9aa682f0143a18f1ef8a1cc3196190eff2cd1"), looks := false }, kinds := [], alts := [], laidByText := true, laidKinds := [.sentinel], laidTests := true, laidLooks := .later }
def FnAnyConnectMemberMetadataCardSaid : Prop := Claim7.holds Tryd.pinned (.plain (OpenSpec.ofChange fnAnyConnectMemberMetadataSpec)) fnAnyConnectMemberMetadataCard

/-- THE TIED CARD OF 'laws.FnAgainUnregisterBrokerRequest'. -/
def fnAgainUnregisterBrokerRequestCard : Claim7 := { stood := { row := fnAgainUnregisterBrokerRequestRow, standIns := [], harness := (true, "4dda43ed985ae84cb9af174433e9aa682f0143a18f1ef8a1cc3196190eff2cd1"), looks := false }, kinds := [], alts := [], laidByText := true, laidKinds := [.sentinel], laidTests := true, laidLooks := .later }
def FnAgainUnregisterBrokerRequestCardSaid : Prop := Claim7.holds Tryd.pinned (.plain (OpenSpec.ofChange fnAgainUnregisterBrokerRequestSpec)) fnAgainUnregisterBrokerRequestCard

/-- THE TIED CARD OF 'laws.FnAgainInitProducerIDResponse'. -/
def fnAgainInitProducerIDResponseCard : Claim7 := { stood := { row := fnAgainInitProducerIDResponseRow, standIns := [], harness := (true, "4dda43ed985ae84cb9af174433e9aa682f0143a18f1ef8a1cc3196190eff2cd1"), looks := false }, kinds := [], alts := [], laidByText := true, laidKinds := [.sentinel], laidTests := true, laidLooks := .later }
def FnAgainInitProducerIDResponseCardSaid : Prop := Claim7.holds Tryd.pinned (.plain (OpenSpec.ofChange fnAgainInitProducerIDResponseSpec)) fnAgainInitProducerIDResponseCard

/-- THE TIED CARD OF 'laws.FnAnyEndTxnResponse'. -/
def fnAnyEndTxnResponseCard : Claim7 := { stood := { row := fnAnyEndTxnResponseRow, standIns := [], harness := (true, "4dda43ed985ae84cb9af174433e9aa682f0143a18f1ef8a1cc3196190eff2cd1"), looks := false }, kinds := [], alts := [], laidByText := true, laidKinds := [.sentinel], laidTests := true, laidLooks := .later }
def FnAnyEndTxnResponseCardSaid : Prop := Claim7.holds Tryd.pinned (.plain (OpenSpec.ofChange fnAnyEndTxnResponseSpec)) fnAnyEndTxnResponseCard

/-- THE TIED CARD OF 'laws.FnAgainBrokerRegistrationResponse'. -/
def fnAgainBrokerRegistrationResponseCard : Claim7 := { stood := { row := fnAgainBrokerRegistrationResponseRow, standIns := [], harness := (true, "4dda43ed985ae84cb9af174433e9aa682f0143a18f1ef8a1cc3196190eff2cd1"), looks := false }, kinds := [], alts := [], laidByText := true, laidKinds := [.sentinel], laidTests := true, laidLooks := .later }
def FnAgainBrokerRegistrationResponseCardSaid : Prop := Claim7.holds Tryd.pinned (.plain (OpenSpec.ofChange fnAgainBrokerRegistrationResponseSpec)) fnAgainBrokerRegistrationResponseCard

/-- THE TIED CARD OF 'laws.FnAgainRenewDelegationTokenRequest'. -/
def fnAgainRenewDelegationTokenRequestCard : Claim7 := { stood := { row := fnAgainRenewDelegationTokenRequestRow, standIns := [], harness := (true, "4dda43ed985ae84cb9af174433e9aa682f0143a18f1ef8a1cc3196190eff2cd1"), looks := false }, kinds := [], alts := [], laidByText := true, laidKinds := [.sentinel], laidTests := true, laidLooks := .later }
def FnAgainRenewDelegationTokenRequestCardSaid : Prop := Claim7.holds Tryd.pinned (.plain (OpenSpec.ofChange fnAgainRenewDelegationTokenRequestSpec)) fnAgainRenewDelegationTokenRequestCard

/-- THE SECOND FORM's CARD OF 'laws.FnAgainEndTxnMarker'. -/
def fnAgainEndTxnMarkerUptoCard : Claim7 := { stood := { row := fnAgainEndTxnMarkerUptoRow, standIns := [], harness := (true, "4dda43ed985ae84cb9af174433e9aa682f0143a18f1ef8a1cc3196190eff2cd1"), looks := false }, kinds := [], alts := [], laidByText := true, laidKinds := [.sentinel], laidTests := true, laidLooks := .later }
def FnAgainEndTxnMarkerUptoCardSaid : Prop := Claim7.holds Tryd.pinned (.plain (OpenSpec.upto fnAgainEndTxnMarkerSpec)) fnAgainEndTxnMarkerUptoCard

/-- THE SECOND FORM's CARD OF 'laws.FnCutSASLHandshakeRequest'. -/
def fnCutSASLHandshakeRequestUptoCard : Claim7 := { stood := { row := fnCutSASLHandshakeRequestUptoRow, standIns := [], harness := (true, "4dda43ed985ae84cb9af174433e9aa682f0143a18f1ef8a1cc3196190eff2cd1"), looks := false }, kinds := [], alts := [], laidByText := true, laidKinds := [.sentinel], laidTests := true, laidLooks := .later }
def FnCutSASLHandshakeRequestUptoCardSaid : Prop := Claim7.holds Tryd.pinned (.plain (OpenSpec.upto fnCutSASLHandshakeRequestSpec)) fnCutSASLHandshakeRequestUptoCard

/-- THE SECOND FORM's CARD OF 'laws.FnCutOffsetCommitKey'. -/
def fnCutOffsetCommitKeyUptoCard : Claim7 := { stood := { row := fnCutOffsetCommitKeyUptoRow, standIns := [], harness := (true, "4dda43ed985ae84cb9af174433e9aa682f0143a18f1ef8a1cc3196190eff2cd1"), looks := false }, kinds := [], alts := [], laidByText := true, laidKinds := [.sentinel], laidTests := true, laidLooks := .later }
def FnCutOffsetCommitKeyUptoCardSaid : Prop := Claim7.holds Tryd.pinned (.plain (OpenSpec.upto fnCutOffsetCommitKeySpec)) fnCutOffsetCommitKeyUptoCard

/-- THE SECOND FORM's CARD OF 'laws.FnAnyConnectMemberMetadata'. -/
def fnAnyConnectMemberMetadataUptoCard : Claim7 := { stood := { row := fnAnyConnectMemberMetadataUptoRow, standIns := [], harness := (true, "4dda43ed985ae84cb9af174433e9aa682f0143a18f1ef8a1cc3196190eff2cd1"), looks := false }, kinds := [], alts := [], laidByText := true, laidKinds := [.sentinel], laidTests := true, laidLooks := .later }
def FnAnyConnectMemberMetadataUptoCardSaid : Prop := Claim7.holds Tryd.pinned (.plain (OpenSpec.upto fnAnyConnectMemberMetadataSpec)) fnAnyConnectMemberMetadataUptoCard

/-- THE SECOND FORM's CARD OF 'laws.FnAgainUnregisterBrokerRequest'. -/
def fnAgainUnregisterBrokerRequestUptoCard : Claim7 := { stood := { row := fnAgainUnregisterBrokerRequestUptoRow, standIns := [], harness := (true, "4dda43ed985ae84cb9af174433e9aa682f0143a18f1ef8a1cc3196190eff2cd1"), looks := false }, kinds := [], alts := [], laidByText := true, laidKinds := [.sentinel], laidTests := true, laidLooks := .later }
def FnAgainUnregisterBrokerRequestUptoCardSaid : Prop := Claim7.holds Tryd.pinned (.plain (OpenSpec.upto fnAgainUnregisterBrokerRequestSpec)) fnAgainUnregisterBrokerRequestUptoCard

/-- THE SECOND FORM's CARD OF 'laws.FnAgainInitProducerIDResponse'. -/
def fnAgainInitProducerIDResponseUptoCard : Claim7 := { stood := { row := fnAgainInitProducerIDResponseUptoRow, standIns := [], harness := (true, "4dda43ed985ae84cb9af174433e9aa682f0143a18f1ef8a1cc3196190eff2cd1"), looks := false }, kinds := [], alts := [], laidByText := true, laidKinds := [.sentinel], laidTests := true, laidLooks := .later }
def FnAgainInitProducerIDResponseUptoCardSaid : Prop := Claim7.holds Tryd.pinned (.plain (OpenSpec.upto fnAgainInitProducerIDResponseSpec)) fnAgainInitProducerIDResponseUptoCard

/-- THE SECOND FORM's CARD OF 'laws.FnAnyEndTxnResponse'. -/
def fnAnyEndTxnResponseUptoCard : Claim7 := { stood := { row := fnAnyEndTxnResponseUptoRow, standIns := [], harness := (true, "4dda43ed985ae84cb9af174433e9aa682f0143a18f1ef8a1cc3196190eff2cd1"), looks := false }, kinds := [], alts := [], laidByText := true, laidKinds := [.sentinel], laidTests := true, laidLooks := .later }
def FnAnyEndTxnResponseUptoCardSaid : Prop := Claim7.holds Tryd.pinned (.plain (OpenSpec.upto fnAnyEndTxnResponseSpec)) fnAnyEndTxnResponseUptoCard

/-- THE SECOND FORM's CARD OF 'laws.FnAgainBrokerRegistrationResponse'. -/
def fnAgainBrokerRegistrationResponseUptoCard : Claim7 := { stood := { row := fnAgainBrokerRegistrationResponseUptoRow, standIns := [], harness := (true, "4dda43ed985ae84cb9af174433e9aa682f0143a18f1ef8a1cc3196190eff2cd1"), looks := false }, kinds := [], alts := [], laidByText := true, laidKinds := [.sentinel], laidTests := true, laidLooks := .later }
def FnAgainBrokerRegistrationResponseUptoCardSaid : Prop := Claim7.holds Tryd.pinned (.plain (OpenSpec.upto fnAgainBrokerRegistrationResponseSpec)) fnAgainBrokerRegistrationResponseUptoCard

/-- THE SECOND FORM's CARD OF 'laws.FnAgainRenewDelegationTokenRequest'. -/
def fnAgainRenewDelegationTokenRequestUptoCard : Claim7 := { stood := { row := fnAgainRenewDelegationTokenRequestUptoRow, standIns := [], harness := (true, "4dda43ed985ae84cb9af174433e9aa682f0143a18f1ef8a1cc3196190eff2cd1"), looks := false }, kinds := [], alts := [], laidByText := true, laidKinds := [.sentinel], laidTests := true, laidLooks := .later }
def FnAgainRenewDelegationTokenRequestUptoCardSaid : Prop := Claim7.holds Tryd.pinned (.plain (OpenSpec.upto fnAgainRenewDelegationTokenRequestSpec)) fnAgainRenewDelegationTokenRequestUptoCard
end Rows
end Go.Proofs.YtgipgallmpojmaaDoor
