/-
  DERIVED. GIVEN WITH THE SEED: THE CARDS: each row of YthdfhnnoamlacaaDoorRows.lean that lists a variable, with what it lists TIED to the program's text (the seventh form; the later family's looks); each row that meets fmt, with fmt's text TOLD by the authors' own Lean function (tested against real Go, not proved from fmt's source: count such statements apart). THE CARD IS WHAT COUNTS. Prove the row's statement (the work); the ties are given (YthdfhnnoamlacaaDoorTie.lean); close each card by the builder's one call (the guide's Derived/Test/ToyasCard.lean, 'card_holds'). Laid BY PROGRAM, IN A SANDBOX (cutbox-door.mjs). By AI agents, Wed Nov 11 2026. No macro, syntax, notation, axiom, sorry.
-/
import Derived.Test.YthdfhnnoamlacaaDoorRows
import GoSem.ClaimSeven
namespace Go.Proofs.YthdfhnnoamlacaaDoor
namespace Rows

/-- THE TIED CARD OF 'laws.FnAnyHeader'. -/
def fnAnyHeaderCard : Claim7 := { stood := { row := fnAnyHeaderRow, standIns := [], harness := (true, "5ce87e0b94eae7357368064c8680317ab32d17049e398bca2967a8e4c785cbbf"), looks := false }, kinds := [], alts := [], laidByText := true, laidKinds := [.sentinel], laidTests := true, laidLooks := .later }
def FnAnyHeaderCardSaid : Prop := Claim7.holds Tryd.pinned (.plain (OpenSpec.ofChange fnAnyHeaderSpec)) fnAnyHeaderCard

/-- THE TIED CARD OF 'laws.FnAnySticky'. -/
def fnAnyStickyCard : Claim7 := { stood := { row := fnAnyStickyRow, standIns := [], harness := (true, "5ce87e0b94eae7357368064c8680317ab32d17049e398bca2967a8e4c785cbbf"), looks := false }, kinds := [], alts := [], laidByText := true, laidKinds := [.sentinel], laidTests := true, laidLooks := .later }
def FnAnyStickyCardSaid : Prop := Claim7.holds Tryd.pinned (.plain (OpenSpec.ofChange fnAnyStickySpec)) fnAnyStickyCard

/-- THE SECOND FORM's CARD OF 'laws.FnAnyHeader'. -/
def fnAnyHeaderUptoCard : Claim7 := { stood := { row := fnAnyHeaderUptoRow, standIns := [], harness := (true, "5ce87e0b94eae7357368064c8680317ab32d17049e398bca2967a8e4c785cbbf"), looks := false }, kinds := [], alts := [], laidByText := true, laidKinds := [.sentinel], laidTests := true, laidLooks := .later }
def FnAnyHeaderUptoCardSaid : Prop := Claim7.holds Tryd.pinned (.plain (OpenSpec.upto fnAnyHeaderSpec)) fnAnyHeaderUptoCard

/-- THE SECOND FORM's CARD OF 'laws.FnAnySticky'. -/
def fnAnyStickyUptoCard : Claim7 := { stood := { row := fnAnyStickyUptoRow, standIns := [], harness := (true, "5ce87e0b94eae7357368064c8680317ab32d17049e398bca2967a8e4c785cbbf"), looks := false }, kinds := [], alts := [], laidByText := true, laidKinds := [.sentinel], laidTests := true, laidLooks := .later }
def FnAnyStickyUptoCardSaid : Prop := Claim7.holds Tryd.pinned (.plain (OpenSpec.upto fnAnyStickySpec)) fnAnyStickyUptoCard
end Rows
end Go.Proofs.YthdfhnnoamlacaaDoor
