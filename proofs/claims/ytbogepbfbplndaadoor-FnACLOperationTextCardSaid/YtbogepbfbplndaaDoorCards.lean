/-
  DERIVED. GIVEN WITH THE SEED: THE CARDS: each row of YtbogepbfbplndaaDoorRows.lean that lists a variable, with what it lists TIED to the program's text (the seventh form; the later family's looks); each row that meets fmt, with fmt's text TOLD by the authors' own Lean function (tested against real Go, not proved from fmt's source: count such statements apart). THE CARD IS WHAT COUNTS. Prove the row's statement (the work); the ties are given (YtbogepbfbplndaaDoorTie.lean); close each card by the builder's one call (the guide's Derived/Test/ToyasCard.lean, 'card_holds'). Laid BY PROGRAM, IN A SANDBOX (cutbox-door.mjs). By AI agents, Wed Nov 11 2026. No macro, syntax, notation, axiom, sorry.
-/
import Derived.Test.YtbogepbfbplndaaDoorRows
import GoSem.ClaimSeven
namespace Go.Proofs.YtbogepbfbplndaaDoor
namespace Rows

/-- THE TIED CARD OF 'laws.FnParseIncrementalAlterConfigOp'. -/
def fnParseIncrementalAlterConfigOpCard : Claim7 := { stood := { row := fnParseIncrementalAlterConfigOpRow, standIns := [], harness := (true, "b148f7a78783f56c9d6b779be315392ac457c7972d75516419af6f8a598dbae4"), looks := false }, kinds := [], alts := [], laidByText := true, laidKinds := [.data, .listed, .data, .pinned, .pinned], laidTests := true, laidLooks := .later }
def FnParseIncrementalAlterConfigOpCardSaid : Prop := Claim7.holds Tryd.pinned (.plain (OpenSpec.ofChange fnParseIncrementalAlterConfigOpSpec)) fnParseIncrementalAlterConfigOpCard

/-- THE TIED CARD OF 'laws.FnACLOperationText'. -/
def fnACLOperationTextCard : Claim7 := { stood := { row := fnACLOperationTextRow, standIns := [], harness := (true, "b148f7a78783f56c9d6b779be315392ac457c7972d75516419af6f8a598dbae4"), looks := false }, kinds := [], alts := [], laidByText := true, laidKinds := [.data, .listed, .data, .pinned, .pinned], laidTests := true, laidLooks := .later }
def FnACLOperationTextCardSaid : Prop := Claim7.holds Tryd.pinned (.plain (OpenSpec.ofChange fnACLOperationTextSpec)) fnACLOperationTextCard

/-- THE TIED CARD OF 'laws.FnAnyHeader'. -/
def fnAnyHeaderCard : Claim7 := { stood := { row := fnAnyHeaderRow, standIns := [], harness := (true, "b148f7a78783f56c9d6b779be315392ac457c7972d75516419af6f8a598dbae4"), looks := false }, kinds := [], alts := [], laidByText := true, laidKinds := [.sentinel], laidTests := true, laidLooks := .later }
def FnAnyHeaderCardSaid : Prop := Claim7.holds Tryd.pinned (.plain (OpenSpec.ofChange fnAnyHeaderSpec)) fnAnyHeaderCard

/-- THE TIED CARD OF 'laws.FnAnySticky'. -/
def fnAnyStickyCard : Claim7 := { stood := { row := fnAnyStickyRow, standIns := [], harness := (true, "b148f7a78783f56c9d6b779be315392ac457c7972d75516419af6f8a598dbae4"), looks := false }, kinds := [], alts := [], laidByText := true, laidKinds := [.sentinel], laidTests := true, laidLooks := .later }
def FnAnyStickyCardSaid : Prop := Claim7.holds Tryd.pinned (.plain (OpenSpec.ofChange fnAnyStickySpec)) fnAnyStickyCard

/-- THE SECOND FORM's CARD OF 'laws.FnParseIncrementalAlterConfigOp'. -/
def fnParseIncrementalAlterConfigOpUptoCard : Claim7 := { stood := { row := fnParseIncrementalAlterConfigOpUptoRow, standIns := [], harness := (true, "b148f7a78783f56c9d6b779be315392ac457c7972d75516419af6f8a598dbae4"), looks := false }, kinds := [], alts := [], laidByText := true, laidKinds := [.data, .listed, .data, .pinned, .pinned], laidTests := true, laidLooks := .later }
def FnParseIncrementalAlterConfigOpUptoCardSaid : Prop := Claim7.holds Tryd.pinned (.plain (OpenSpec.upto fnParseIncrementalAlterConfigOpSpec)) fnParseIncrementalAlterConfigOpUptoCard

/-- THE SECOND FORM's CARD OF 'laws.FnACLOperationText'. -/
def fnACLOperationTextUptoCard : Claim7 := { stood := { row := fnACLOperationTextUptoRow, standIns := [], harness := (true, "b148f7a78783f56c9d6b779be315392ac457c7972d75516419af6f8a598dbae4"), looks := false }, kinds := [], alts := [], laidByText := true, laidKinds := [.data, .listed, .data, .pinned, .pinned], laidTests := true, laidLooks := .later }
def FnACLOperationTextUptoCardSaid : Prop := Claim7.holds Tryd.pinned (.plain (OpenSpec.upto fnACLOperationTextSpec)) fnACLOperationTextUptoCard

/-- THE SECOND FORM's CARD OF 'laws.FnAnyHeader'. -/
def fnAnyHeaderUptoCard : Claim7 := { stood := { row := fnAnyHeaderUptoRow, standIns := [], harness := (true, "b148f7a78783f56c9d6b779be315392ac457c7972d75516419af6f8a598dbae4"), looks := false }, kinds := [], alts := [], laidByText := true, laidKinds := [.sentinel], laidTests := true, laidLooks := .later }
def FnAnyHeaderUptoCardSaid : Prop := Claim7.holds Tryd.pinned (.plain (OpenSpec.upto fnAnyHeaderSpec)) fnAnyHeaderUptoCard

/-- THE SECOND FORM's CARD OF 'laws.FnAnySticky'. -/
def fnAnyStickyUptoCard : Claim7 := { stood := { row := fnAnyStickyUptoRow, standIns := [], harness := (true, "b148f7a78783f56c9d6b779be315392ac457c7972d75516419af6f8a598dbae4"), looks := false }, kinds := [], alts := [], laidByText := true, laidKinds := [.sentinel], laidTests := true, laidLooks := .later }
def FnAnyStickyUptoCardSaid : Prop := Claim7.holds Tryd.pinned (.plain (OpenSpec.upto fnAnyStickySpec)) fnAnyStickyUptoCard
end Rows
end Go.Proofs.YtbogepbfbplndaaDoor
