/-
  DERIVED. GIVEN WITH THE SEED: THE CARDS: each row of YteilihclebdocaaDoorRows.lean that lists a variable, with what it lists TIED to the program's text (the seventh form; the later family's looks); each row that meets fmt, with fmt's text TOLD by the authors' own Lean function (tested against real Go, not proved from fmt's source: count such statements apart). THE CARD IS WHAT COUNTS. Prove the row's statement (the work); the ties are given (YteilihclebdocaaDoorTie.lean); close each card by the builder's one call (the guide's Derived/Test/ToyasCard.lean, 'card_holds'). Laid BY PROGRAM, IN A SANDBOX (cutbox-door.mjs). By AI agents, Wed Nov 11 2026. No macro, syntax, notation, axiom, sorry.
-/
import Derived.Test.YteilihclebdocaaDoorRows
import GoSem.ClaimSeven
namespace Go.Proofs.YteilihclebdocaaDoor
namespace Rows

/-- THE TIED CARD OF 'laws.FnAnyDescribeShareGroupOffsetsRequest'. -/
def fnAnyDescribeShareGroupOffsetsRequestCard : Claim7 := { stood := { row := fnAnyDescribeShareGroupOffsetsRequestRow, standIns := [], harness := (true, "81c160f6bc15cc73d188915edf6452447feb6220e46983457ac8fb804ca70c55"), looks := false }, kinds := [], alts := [], laidByText := true, laidKinds := [.sentinel], laidTests := true, laidLooks := .later }
def FnAnyDescribeShareGroupOffsetsRequestCardSaid : Prop := Claim7.holds Tryd.pinned (.plain (OpenSpec.ofChange fnAnyDescribeShareGroupOffsetsRequestSpec)) fnAnyDescribeShareGroupOffsetsRequestCard

/-- THE TIED CARD OF 'laws.FnAnyUpdateRaftVoterRequest'. -/
def fnAnyUpdateRaftVoterRequestCard : Claim7 := { stood := { row := fnAnyUpdateRaftVoterRequestRow, standIns := [], harness := (true, "81c160f6bc15cc73d188915edf6452447feb6220e46983457ac8fb804ca70c55"), looks := false }, kinds := [], alts := [], laidByText := true, laidKinds := [.sentinel], laidTests := true, laidLooks := .later }
def FnAnyUpdateRaftVoterRequestCardSaid : Prop := Claim7.holds Tryd.pinned (.plain (OpenSpec.ofChange fnAnyUpdateRaftVoterRequestSpec)) fnAnyUpdateRaftVoterRequestCard

/-- THE SECOND FORM's CARD OF 'laws.FnAnyDescribeShareGroupOffsetsRequest'. -/
def fnAnyDescribeShareGroupOffsetsRequestUptoCard : Claim7 := { stood := { row := fnAnyDescribeShareGroupOffsetsRequestUptoRow, standIns := [], harness := (true, "81c160f6bc15cc73d188915edf6452447feb6220e46983457ac8fb804ca70c55"), looks := false }, kinds := [], alts := [], laidByText := true, laidKinds := [.sentinel], laidTests := true, laidLooks := .later }
def FnAnyDescribeShareGroupOffsetsRequestUptoCardSaid : Prop := Claim7.holds Tryd.pinned (.plain (OpenSpec.upto fnAnyDescribeShareGroupOffsetsRequestSpec)) fnAnyDescribeShareGroupOffsetsRequestUptoCard

/-- THE SECOND FORM's CARD OF 'laws.FnAnyUpdateRaftVoterRequest'. -/
def fnAnyUpdateRaftVoterRequestUptoCard : Claim7 := { stood := { row := fnAnyUpdateRaftVoterRequestUptoRow, standIns := [], harness := (true, "81c160f6bc15cc73d188915edf6452447feb6220e46983457ac8fb804ca70c55"), looks := false }, kinds := [], alts := [], laidByText := true, laidKinds := [.sentinel], laidTests := true, laidLooks := .later }
def FnAnyUpdateRaftVoterRequestUptoCardSaid : Prop := Claim7.holds Tryd.pinned (.plain (OpenSpec.upto fnAnyUpdateRaftVoterRequestSpec)) fnAnyUpdateRaftVoterRequestUptoCard
end Rows
end Go.Proofs.YteilihclebdocaaDoor
