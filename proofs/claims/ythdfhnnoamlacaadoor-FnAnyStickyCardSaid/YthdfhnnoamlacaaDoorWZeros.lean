/- What the texts behind this one lean on, out of what the kit's print writes for this seat, cut down. Conditions: none. -/
import Derived.Test.YthdfhnnoamlacaaDoorWApart
import Derived.Test.YthdfhnnoamlacaaDoorWArr
/-! ### 42. append(v, make([]T, n)...): the operation comes as_ append with the number in the second place -/
namespace Go.Proofs.YthdfhnnoamlacaaDoorW.PrintWords
open Go.RowKit
section
variable {P : Program}
end
namespace Kd
section
variable {P : Program} {ops : Array Oper} {rest : List Oper} {o : Oper} {a : Act} {Q : Exit → Act → World → Prop} {Kc : Act → World → Prop} {α : Type}
end
/-! #### the same for rows whose elements lie apart -/
section
variable {α : Type} {d : Kd α} {e : Nat} {w : World} {base : Nat} {ok : Nat → Prop} {v : Value} {xs : List α}
end
section
variable {P : Program} {ops : Array Oper} {rest : List Oper} {o : Oper} {a : Act} {Q : Exit → Act → World → Prop} {Kc : Act → World → Prop} {α : Type}
end
end Kd
end Go.Proofs.YthdfhnnoamlacaaDoorW.PrintWords
