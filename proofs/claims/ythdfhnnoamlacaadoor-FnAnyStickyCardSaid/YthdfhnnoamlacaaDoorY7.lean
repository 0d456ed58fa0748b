/-
  The reference: unknown tags, parts, messages; a tree that came in. Conditions: none.
-/
import Derived.Test.YthdfhnnoamlacaaDoorY6
import Derived.Test.YthdfhnnoamlacaaDoorY5
import Derived.Deep.RegionHeld3
import Derived.Test.YthdfhnnoamlacaaDoorY1
import Derived.Deep.Slices
import Derived.Deep.Fields
import Derived.ChangeSame
import Derived.Lib.SmallJoins
/-
  The reference's unknown tags. Conditions: none.
-/
namespace Go.Proofs.YthdfhnnoamlacaaDoor
open Go.RowKit
open Kz

end Go.Proofs.YthdfhnnoamlacaaDoor
/-
  The reference's 'as by default'. Conditions: none.
-/
namespace Go.Proofs.YthdfhnnoamlacaaDoor
open Go.RowKit
open Kz

end Go.Proofs.YthdfhnnoamlacaaDoor
/-
  What is written of a part, piece by piece. Conditions: none.
-/
namespace Go.Proofs.YthdfhnnoamlacaaDoor
open Kz

end Go.Proofs.YthdfhnnoamlacaaDoor
/-
  The reference's parts. Conditions: none.
-/
namespace Go.Proofs.YthdfhnnoamlacaaDoor
open Go.RowKit
open Kz

theorem cell_grown {w w' : World} {r : Option Nat} {b k : Nat} (hg : w.grownBy w' r) (h : some b ≠ r) (hb : b < w.heap.size) : w'.cell? ⟨b, k, none⟩ = w.cell? ⟨b, k, none⟩ := World.cell?_of_block (hg.block b hb h)
/-- What is one's own there. -/
theorem OwnB.stay {w w' : World} {base : Nat} {v : Value} {bs : List UInt8} (h : OwnB w base v bs) (hb : Below w.heap.size w w') : OwnB w' base v bs := h.grown fun k hk => hb.block k hk

end Go.Proofs.YthdfhnnoamlacaaDoor
/-
  The reference's Write, Kept; the bounds. Conditions: none.
-/
namespace Go.Proofs.YthdfhnnoamlacaaDoor
open Go.RowKit
open Kz

/-! ## The bounds -/
end Go.Proofs.YthdfhnnoamlacaaDoor
/-
  Fields made by the reference: a row of them. Conditions: none.
-/
namespace Go.Proofs.YthdfhnnoamlacaaDoor
open Go.RowKit
open Kz

/-- What lies within, one by one. -/
inductive FLs (w : World) : List F → List Value → Prop
  | nil : FLs w [] []
  | cons {f : F} {s : Value} {fs : List F} {ss : List Value} (h : FL w s f.sub) (r : FLs w fs ss) : FLs w (f :: fs) (s :: ss)
end Go.Proofs.YthdfhnnoamlacaaDoor
/-
  A tree that came in: its reading opened into memory. Conditions: none.
-/
namespace Go.Proofs.YthdfhnnoamlacaaDoor
open Go.ChangeShapes Go.WideShapes Go.ChangeAt Go.RowKit Go.Deep
open Kz

section
variable {H : Type} {enc : TypeId × Value → H} {P : Program} {w : World} {base : Nat} {held : Bool}
end

section
variable {H : Type} {enc : TypeId × Value → H} {W : World}
end
end Go.Proofs.YthdfhnnoamlacaaDoor
/-
  What the laws Again and Cut lean on. Conditions: none.
-/
namespace Go.Proofs.YthdfhnnoamlacaaDoor
open Go.RowKit
open Kz

section
variable {H : Type}
end
end Go.Proofs.YthdfhnnoamlacaaDoor
