/- What the texts behind this one lean on, out of what the kit's print writes for this seat, cut down. Conditions: none. -/
import Derived.Test.YthdfhnnoamlacaaDoorWTab
/-! ### 56. Four, five, six operations that may come up next, in any order -/
namespace Go.Proofs.YthdfhnnoamlacaaDoorW.PrintLast
section
variable {P : Program} {ops : Array Oper} {Q : Exit → Act → World → Prop} {md : Region.Mode} {S : World → Prop} {ds : List Nat} {T : Bool × List (List Nat × List Nat)}
end
end Go.Proofs.YthdfhnnoamlacaaDoorW.PrintLast
