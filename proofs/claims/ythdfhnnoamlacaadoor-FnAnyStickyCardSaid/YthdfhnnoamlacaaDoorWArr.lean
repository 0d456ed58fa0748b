/- What the texts behind this one lean on, out of what the kit's print writes for this seat, cut down. Conditions: none. -/
import Derived.Test.YthdfhnnoamlacaaDoorWWords
/-! ### 41. Arrays '[n]T' as_ values: a kind (a field, an element of a row), an element read, an element set -/
namespace Go.Proofs.YthdfhnnoamlacaaDoorW.PrintWords
open Go.RowKit
namespace Kd
section
variable {α : Type} {n : Nat} {d : Kd α} {hs : 0 < d.sz} {w : World} {base : Nat} {ok : Nat → Prop} {xs : List α} {cs : List Value}
end
section
variable {α : Type} {n : Nat} {enc : α → Value} {h1 : ∀ x, (enc x).oneCell' = true} {hs : 0 < (scalar enc h1).sz} {w : World} {base : Nat} {ok : Nat → Prop} {xs : List α} {cs : List Value}
end
end Kd
end Go.Proofs.YthdfhnnoamlacaaDoorW.PrintWords
