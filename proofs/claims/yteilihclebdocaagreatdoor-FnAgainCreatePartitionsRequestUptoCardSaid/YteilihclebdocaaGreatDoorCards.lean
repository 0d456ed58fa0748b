/-
  DERIVED. GIVEN WITH THE SEED: THE CARDS: each row of YteilihclebdocaaGreatDoorRows.lean that lists a variable, with what it lists TIED to the program's text (the seventh form; the later family's looks); each row that meets fmt, with fmt's text TOLD by the authors' own Lean function (tested against real Go, not proved from fmt's source: count such statements apart). THE CARD IS WHAT COUNTS. Prove the row's statement (the work); the ties are given (YteilihclebdocaaGreatDoorTie.lean); close each card by the builder's one call (the guide's Derived/Test/ToyasCard.lean, 'card_holds'). Laid BY PROGRAM, IN A SANDBOX (cutbox-door.mjs). By AI agents, Wed Nov 11 2026. No macro, syntax, notation, axiom, sorry.
-/
import Derived.Test.YteilihclebdocaaGreatDoorRows
import GoSem.ClaimSeven
namespace Go.Proofs.YteilihclebdocaaGreatDoor
namespace Rows

/-- THE TIED CARD OF 'laws.FnAgainCreatePartitionsRequest'. -/
def fnAgainCreatePartitionsRequestCard : Claim7 := { stood := { row := fnAgainCreatePartitionsRequestRow, standIns := [], harness := (true, "d19756db232157582870482633357d9a11cda663ae5285d1aa4f1996b9eb3309"), looks := false }, kinds := [], alts := [], laidByText := true, laidKinds := [.sentinel], laidTests := true, laidLooks := .later }
def FnAgainCreatePartitionsRequestCardSaid : Prop := Claim7.holds Tryz.pinned (.plain (OpenSpec.ofChange fnAgainCreatePartitionsRequestSpec)) fnAgainCreatePartitionsRequestCard

/-- THE TIED CARD OF 'laws.FnAgainShareGroupHeartbeatResponse'. -/
def fnAgainShareGroupHeartbeatResponseCard : Claim7 := { stood := { row := fnAgainShareGroupHeartbeatResponseRow, standIns := [], harness := (true, "d19756db232157582870482633357d9a11cda663ae5285d1aa4f1996b9eb3309"), looks := false }, kinds := [], alts := [], laidByText := true, laidKinds := [.sentinel], laidTests := true, laidLooks := .later }
def FnAgainShareGroupHeartbeatResponseCardSaid : Prop := Claim7.holds Tryz.pinned (.plain (OpenSpec.ofChange fnAgainShareGroupHeartbeatResponseSpec)) fnAgainShareGroupHeartbeatResponseCard

/-- THE TIED CARD OF 'laws.FnCutConsumerGroupHeartbeatResponse'. -/
def fnCutConsumerGroupHeartbeatResponseCard : Claim7 := { stood := { row := fnCutConsumerGroupHeartbeatResponseRow, standIns := [], harness := (true, "d19756db232157582870482633357d9a11cda663ae5285d1aa4f1996b9eb3309"), looks := false }, kinds := [], alts := [], laidByText := true, laidKinds := [.sentinel], laidTests := true, laidLooks := .later }
def FnCutConsumerGroupHeartbeatResponseCardSaid : Prop := Claim7.holds Tryz.pinned (.plain (OpenSpec.ofChange fnCutConsumerGroupHeartbeatResponseSpec)) fnCutConsumerGroupHeartbeatResponseCard

/-- THE SECOND FORM's CARD OF 'laws.FnAgainCreatePartitionsRequest'. -/
def fnAgainCreatePartitionsRequestUptoCard : Claim7 := { stood := { row := fnAgainCreatePartitionsRequestUptoRow, standIns := [], harness := (true, "d19756db232157582870482633357d9a11cda663ae5285d1aa4f1996b9eb3309"), looks := false }, kinds := [], alts := [], laidByText := true, laidKinds := [.sentinel], laidTests := true, laidLooks := .later }
def FnAgainCreatePartitionsRequestUptoCardSaid : Prop := Claim7.holds Tryz.pinned (.plain (OpenSpec.upto fnAgainCreatePartitionsRequestSpec)) fnAgainCreatePartitionsRequestUptoCard

/-- THE SECOND FORM's CARD OF 'laws.FnAgainShareGroupHeartbeatResponse'. -/
def fnAgainShareGroupHeartbeatResponseUptoCard : Claim7 := { stood := { row := fnAgainShareGroupHeartbeatResponseUptoRow, standIns := [], harness := (true, "d19756db232157582870482633357d9a11cda663ae5285d1aa4f1996b9eb3309"), looks := false }, kinds := [], alts := [], laidByText := true, laidKinds := [.sentinel], laidTests := true, laidLooks := .later }
def FnAgainShareGroupHeartbeatResponseUptoCardSaid : Prop := Claim7.holds Tryz.pinned (.plain (OpenSpec.upto fnAgainShareGroupHeartbeatResponseSpec)) fnAgainShareGroupHeartbeatResponseUptoCard

/-- THE SECOND FORM's CARD OF 'laws.FnCutConsumerGroupHeartbeatResponse'. -/
def fnCutConsumerGroupHeartbeatResponseUptoCard : Claim7 := { stood := { row := fnCutConsumerGroupHeartbeatResponseUptoRow, standIns := [], harness := (true, "d19756db232157582870482633357d9a11cda663ae5285d1aa4f1996b9eb3309"), looks := false }, kinds := [], alts := [], laidByText := true, laidKinds := [.sentinel], laidTests := true, laidLooks := .later }
def FnCutConsumerGroupHeartbeatResponseUptoCardSaid : Prop := Claim7.holds Tryz.pinned (.plain (OpenSpec.upto fnCutConsumerGroupHeartbeatResponseSpec)) fnCutConsumerGroupHeartbeatResponseUptoCard
end Rows
end Go.Proofs.YteilihclebdocaaGreatDoor
