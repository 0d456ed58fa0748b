/-
  DERIVED. GIVEN WITH THE SEED: THE CARDS: each row of YtgipgallmpojmaaGreatDoorRRows.lean that lists a variable, with what it lists TIED to the program's text (the seventh form; the later family's looks); each row that meets fmt, with fmt's text TOLD by the authors' own Lean function (tested against real Go, not proved from fmt's source: count such statements apart). THE CARD IS WHAT COUNTS. Prove the row's statement (the work); the ties are given (YtgipgallmpojmaaGreatDoorRTie.lean); close each card by the builder's one call (the guide's Derived/Test/ToyasCard.lean, 'card_holds'). Laid BY PROGRAM, IN A SANDBOX (cutbox-door.mjs). By AI agents, Wed Nov 11 2026. No macro, syntax, notation, axiom, sorry.
-/
import Derived.Test.YtgipgallmpojmaaGreatDoorRRows
import GoSem.ClaimSeven
namespace Go.Proofs.YtgipgallmpojmaaGreatDoorR
namespace Rows

/-- THE TIED CARD OF 'laws.FnAgainFetchRequest'. -/
def fnAgainFetchRequestCard : Claim7 := { stood := { row := fnAgainFetchRequestRow, standIns := [], harness := (true, "66077230325311cb6ea72d5515d684de55e856c99b1eba6f6701655e9aae41e8"), looks := false }, kinds := [], alts := [], laidByText := true, laidKinds := [.sentinel], laidTests := true, laidLooks := .later }
def FnAgainFetchRequestCardSaid : Prop := Claim7.holds Tryz.pinned (.plain (OpenSpec.ofChange fnAgainFetchRequestSpec)) fnAgainFetchRequestCard

/-- THE TIED CARD OF 'laws.FnAgainAddRaftVoterResponse'. -/
def fnAgainAddRaftVoterResponseCard : Claim7 := { stood := { row := fnAgainAddRaftVoterResponseRow, standIns := [], harness := (true, "66077230325311cb6ea72d5515d684de55e856c99b1eba6f6701655e9aae41e8"), looks := false }, kinds := [], alts := [], laidByText := true, laidKinds := [.sentinel], laidTests := true, laidLooks := .later }
def FnAgainAddRaftVoterResponseCardSaid : Prop := Claim7.holds Tryz.pinned (.plain (OpenSpec.ofChange fnAgainAddRaftVoterResponseSpec)) fnAgainAddRaftVoterResponseCard

/-- THE SECOND FORM's CARD OF 'laws.FnAgainFetchRequest'. -/
def fnAgainFetchRequestUptoCard : Claim7 := { stood := { row := fnAgainFetchRequestUptoRow, standIns := [], harness := (true, "66077230325311cb6ea72d5515d684de55e856c99b1eba6f6701655e9aae41e8"), looks := false }, kinds := [], alts := [], laidByText := true, laidKinds := [.sentinel], laidTests := true, laidLooks := .later }
def FnAgainFetchRequestUptoCardSaid : Prop := Claim7.holds Tryz.pinned (.plain (OpenSpec.upto fnAgainFetchRequestSpec)) fnAgainFetchRequestUptoCard

/-- THE SECOND FORM's CARD OF 'laws.FnAgainAddRaftVoterResponse'. -/
def fnAgainAddRaftVoterResponseUptoCard : Claim7 := { stood := { row := fnAgainAddRaftVoterResponseUptoRow, standIns := [], harness := (true, "66077230325311cb6ea72d5515d684de55e856c99b1eba6f6701655e9aae41e8"), looks := false }, kinds := [], alts := [], laidByText := true, laidKinds := [.sentinel], laidTests := true, laidLooks := .later }
def FnAgainAddRaftVoterResponseUptoCardSaid : Prop := Claim7.holds Tryz.pinned (.plain (OpenSpec.upto fnAgainAddRaftVoterResponseSpec)) fnAgainAddRaftVoterResponseUptoCard
end Rows
end Go.Proofs.YtgipgallmpojmaaGreatDoorR
