/-
  DERIVED. GIVEN WITH THE SEED: THE CARDS: each row of YtoklbgdafnminaaGreatDoorRows.lean that lists a variable, with what it lists TIED to the program's text (the seventh form; the later family's looks); each row that meets fmt, with fmt's text TOLD by the authors' own Lean function (tested against real Go, not proved from fmt's source: count such statements apart). THE CARD IS WHAT COUNTS. Prove the row's statement (the work); the ties are given (YtoklbgdafnminaaGreatDoorTie.lean); close each card by the builder's one call (the guide's Derived/Test/ToyasCard.lean, 'card_holds'). Laid BY PROGRAM, IN A SANDBOX (cutbox-door.mjs). By AI agents, Wed Nov 11 2026. No macro, syntax, notation, axiom, sorry.
-/
import Derived.Test.YtoklbgdafnminaaGreatDoorRows
import GoSem.ClaimSeven
namespace Go.Proofs.YtoklbgdafnminaaGreatDoor
namespace Rows

/-- THE TIED CARD OF 'laws.FnCutJoinGroupResponse'. -/
def fnCutJoinGroupResponseCard : Claim7 := { stood := { row := fnCutJoinGroupResponseRow, standIns := [], harness := (true, "a9896873c753e49294a5c54ce5a4bdb8639d1db38573ac5f116749a2f1a7c7cd"), looks := false }, kinds := [], alts := [], laidByText := true, laidKinds := [.sentinel], laidTests := true, laidLooks := .later }
def FnCutJoinGroupResponseCardSaid : Prop := Claim7.holds Tryz.pinned (.plain (OpenSpec.ofChange fnCutJoinGroupResponseSpec)) fnCutJoinGroupResponseCard

/-- THE TIED CARD OF 'laws.FnAgainOffsetFetchResponse'. -/
def fnAgainOffsetFetchResponseCard : Claim7 := { stood := { row := fnAgainOffsetFetchResponseRow, standIns := [], harness := (true, "a9896873c753e49294a5c54ce5a4bdb8639d1db38573ac5f116749a2f1a7c7cd"), looks := false }, kinds := [], alts := [], laidByText := true, laidKinds := [.sentinel], laidTests := true, laidLooks := .later }
def FnAgainOffsetFetchResponseCardSaid : Prop := Claim7.holds Tryz.pinned (.plain (OpenSpec.ofChange fnAgainOffsetFetchResponseSpec)) fnAgainOffsetFetchResponseCard

/-- THE TIED CARD OF 'laws.FnCutProduceResponse'. -/
def fnCutProduceResponseCard : Claim7 := { stood := { row := fnCutProduceResponseRow, standIns := [], harness := (true, "a9896873c753e49294a5c54ce5a4bdb8639d1db38573ac5f116749a2f1a7c7cd"), looks := false }, kinds := [], alts := [], laidByText := true, laidKinds := [.sentinel], laidTests := true, laidLooks := .later }
def FnCutProduceResponseCardSaid : Prop := Claim7.holds Tryz.pinned (.plain (OpenSpec.ofChange fnCutProduceResponseSpec)) fnCutProduceResponseCard

/-- THE TIED CARD OF 'laws.FnAgainFetchRequest'. -/
def fnAgainFetchRequestCard : Claim7 := { stood := { row := fnAgainFetchRequestRow, standIns := [], harness := (true, "a9896873c753e49294a5c54ce5a4bdb8639d1db38573ac5f116749a2f1a7c7cd"), looks := false }, kinds := [], alts := [], laidByText := true, laidKinds := [.sentinel], laidTests := true, laidLooks := .later }
def FnAgainFetchRequestCardSaid : Prop := Claim7.holds Tryz.pinned (.plain (OpenSpec.ofChange fnAgainFetchRequestSpec)) fnAgainFetchRequestCard

/-- THE SECOND FORM's CARD OF 'laws.FnCutJoinGroupResponse'. -/
def fnCutJoinGroupResponseUptoCard : Claim7 := { stood := { row := fnCutJoinGroupResponseUptoRow, standIns := [], harness := (true, "a9896873c753e49294a5c54ce5a4bdb8639d1db38573ac5f116749a2f1a7c7cd"), looks := false }, kinds := [], alts := [], laidByText := true, laidKinds := [.sentinel], laidTests := true, laidLooks := .later }
def FnCutJoinGroupResponseUptoCardSaid : Prop := Claim7.holds Tryz.pinned (.plain (OpenSpec.upto fnCutJoinGroupResponseSpec)) fnCutJoinGroupResponseUptoCard

/-- THE SECOND FORM's CARD OF 'laws.FnAgainOffsetFetchResponse'. -/
def fnAgainOffsetFetchResponseUptoCard : Claim7 := { stood := { row := fnAgainOffsetFetchResponseUptoRow, standIns := [], harness := (true, "a9896873c753e49294a5c54ce5a4bdb8639d1db38573ac5f116749a2f1a7c7cd"), looks := false }, kinds := [], alts := [], laidByText := true, laidKinds := [.sentinel], laidTests := true, laidLooks := .later }
def FnAgainOffsetFetchResponseUptoCardSaid : Prop := Claim7.holds Tryz.pinned (.plain (OpenSpec.upto fnAgainOffsetFetchResponseSpec)) fnAgainOffsetFetchResponseUptoCard

/-- THE SECOND FORM's CARD OF 'laws.FnCutProduceResponse'. -/
def fnCutProduceResponseUptoCard : Claim7 := { stood := { row := fnCutProduceResponseUptoRow, standIns := [], harness := (true, "a9896873c753e49294a5c54ce5a4bdb8639d1db38573ac5f116749a2f1a7c7cd"), looks := false }, kinds := [], alts := [], laidByText := true, laidKinds := [.sentinel], laidTests := true, laidLooks := .later }
def FnCutProduceResponseUptoCardSaid : Prop := Claim7.holds Tryz.pinned (.plain (OpenSpec.upto fnCutProduceResponseSpec)) fnCutProduceResponseUptoCard

/-- THE SECOND FORM's CARD OF 'laws.FnAgainFetchRequest'. -/
def fnAgainFetchRequestUptoCard : Claim7 := { stood := { row := fnAgainFetchRequestUptoRow, standIns := [], harness := (true, "a9896873c753e49294a5c54ce5a4bdb8639d1db38573ac5f116749a2f1a7c7cd"), looks := false }, kinds := [], alts := [], laidByText := true, laidKinds := [.sentinel], laidTests := true, laidLooks := .later }
def FnAgainFetchRequestUptoCardSaid : Prop := Claim7.holds Tryz.pinned (.plain (OpenSpec.upto fnAgainFetchRequestSpec)) fnAgainFetchRequestUptoCard
end Rows
end Go.Proofs.YtoklbgdafnminaaGreatDoor
