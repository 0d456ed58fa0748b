/- What the texts behind this one lean on, out of what the kit's print writes for this seat, cut down. Conditions: none. -/
import Derived.Test.YthdfhnnoamlacaaDoorWInv
import Derived.Test.YthdfhnnoamlacaaDoorWFootNe
namespace Go.Proofs.YthdfhnnoamlacaaDoorW.PrintWords
open Go.RowKit
end Go.Proofs.YthdfhnnoamlacaaDoorW.PrintWords
namespace Go.Proofs.YthdfhnnoamlacaaDoorW.PrintLast
section
variable {ops : Array Oper} {a : Act} {o og : Oper} {g : Nat} {t : Tmp} {u : Bool}
end
end Go.Proofs.YthdfhnnoamlacaaDoorW.PrintLast
