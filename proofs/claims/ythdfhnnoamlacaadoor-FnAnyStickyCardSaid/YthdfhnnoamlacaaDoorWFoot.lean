/- What the texts behind this one lean on, out of what the kit's print writes for this seat, cut down. Conditions: none. -/
import Derived.Test.YthdfhnnoamlacaaDoorWApart
import Derived.Test.YthdfhnnoamlacaaDoorWArr
/-! ### 43. What is read beside a state: it stays read whatever the state's calls turn ('∀ W', KeepBut w W' g none → d.C W' A n xs') -/
namespace Go.Proofs.YthdfhnnoamlacaaDoorW.PrintWords
open Go.RowKit
namespace Kd
/-- What a kind reads lies in the blocks: nothing else of the world is looked at. -/
structure Heap {α : Type} (d : Kd α) : Prop where
  K : ∀ {w w1 : World} {x : α} {cs : List Value}, (∀ k, k < w.heap.size → w1.heap[k]? = w.heap[k]?) → d.K w x cs → d.K w1 x cs
section
variable {α : Type} {d : Kd α} {e base g n c : Nat} {ok : Nat → Prop} {w w0 W : World} {A : Option Addr} {xs : List α}
end
end Kd
end Go.Proofs.YthdfhnnoamlacaaDoorW.PrintWords
