/-
  DERIVED. GIVEN WITH THE SEED: THE CARDS: each row of YtncaphiimdkniaaGreatDoorRows.lean that lists a variable, with what it lists TIED to the program's text (the seventh form; the later family's looks); each row that meets fmt, with fmt's text TOLD by the authors' own Lean function (tested against real Go, not proved from fmt's source: count such statements apart). THE CARD IS WHAT COUNTS. Prove the row's statement (the work); the ties are given (YtncaphiimdkniaaGreatDoorTie.lean); close each card by the builder's one call (the guide's Derived/Test/ToyasCard.lean, 'card_holds'). Laid BY PROGRAM, IN A SANDBOX (cutbox-door.mjs). By AI agents, Wed Nov 11 2026. No macro, syntax, notation, axiom, sorry.
-/
import Derived.Test.YtncaphiimdkniaaGreatDoorRows
import GoSem.ClaimSeven
namespace Go.Proofs.YtncaphiimdkniaaGreatDoor
namespace Rows

/-- THE TIED CARD OF 'laws.FnFrameHeartbeat'. -/
def fnFrameHeartbeatCard : Claim7 := { stood := { row := fnFrameHeartbeatRow, standIns := [], harness := (true, "8a9290962145300571c24854e70fc903f4f10b20c5e12c4ad977039909aa3c68"), looks := false }, kinds := [], alts := [], laidByText := true, laidKinds := [.sentinel], laidTests := true, laidLooks := .later }
def FnFrameHeartbeatCardSaid : Prop := Claim7.holds Tryz.pinned (.plain (OpenSpec.ofChange fnFrameHeartbeatSpec)) fnFrameHeartbeatCard

/-- THE SECOND FORM's CARD OF 'laws.FnFrameHeartbeat'. -/
def fnFrameHeartbeatUptoCard : Claim7 := { stood := { row := fnFrameHeartbeatUptoRow, standIns := [], harness := (true, "8a9290962145300571c24854e70fc903f4f10b20c5e12c4ad977039909aa3c68"), looks := false }, kinds := [], alts := [], laidByText := true, laidKinds := [.sentinel], laidTests := true, laidLooks := .later }
def FnFrameHeartbeatUptoCardSaid : Prop := Claim7.holds Tryz.pinned (.plain (OpenSpec.upto fnFrameHeartbeatSpec)) fnFrameHeartbeatUptoCard
end Rows
end Go.Proofs.YtncaphiimdkniaaGreatDoor
