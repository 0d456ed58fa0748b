/- What the texts behind this one lean on, out of what the kit's print writes for this seat, cut down. Conditions: none. -/
import Derived.Test.YthdfhnnoamlacaaDoorPFnAnyHeaderx0
import Derived.Test.YthdfhnnoamlacaaDoorPFnAnyHeaderx5
namespace Go.Proofs.YthdfhnnoamlacaaDoor.PFnAnyHeader
open Go.RowKit Go.Proofs.YthdfhnnoamlacaaDoorW.PrintWords Go.Proofs.YthdfhnnoamlacaaDoorW.PrintLast Go.Proofs.YthdfhnnoamlacaaDoorW.PrintMore

/-! ### spec_SameHeaders: function 8 -/
end Go.Proofs.YthdfhnnoamlacaaDoor.PFnAnyHeader
