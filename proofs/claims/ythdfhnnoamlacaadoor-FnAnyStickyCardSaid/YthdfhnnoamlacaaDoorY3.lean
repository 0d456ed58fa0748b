/-
  Messages that are read. Conditions: none.
-/
import Derived.Test.YthdfhnnoamlacaaDoorY2
import Derived.Maps.Own
import Derived.Maps.OwnSet
import Derived.Carry
/-
  Code that reads a value into a variable, and puts it into a field; code under a condition. Conditions: none.
-/
namespace Go.Proofs.YthdfhnnoamlacaaDoor
open Go.RowKit (Below)
open Kz

/-! ## Facts of the type table, each a closed question -/
section
variable {α : Type} {E : RE} {v : Int} {flex : Bool}

end
end Go.Proofs.YthdfhnnoamlacaaDoor
/-
  Code under a condition; a field, the fields of a part, its tags. Conditions: none.
-/
namespace Go.Proofs.YthdfhnnoamlacaaDoor
open Go.RowKit (Below)
open Kz

section
variable {E : RE} {v : Int} {flex : Bool}

end

/-! ## A field, the fields of a part -/
section
variable (tags : Rel (List (Nat × List UInt8))) (E : RE) (v : Int) (flex ht : Bool)

end

section
variable {tags : Rel (List (Nat × List UInt8))} {E : RE} {v : Int} {flex ht : Bool}

end
end Go.Proofs.YthdfhnnoamlacaaDoor
/-
  The reader's functions, in one form; fields of numbers, texts, octets. Conditions: none.
-/
namespace Go.Proofs.YthdfhnnoamlacaaDoor
open Go.RowKit (Below)
open Kz

section
variable {tags : Rel (List (Nat × List UInt8))} {E : RE} {v : Int} {flex ht : Bool}

end
end Go.Proofs.YthdfhnnoamlacaaDoor
/-
  Lists, read: the loop over the elements. Conditions: none.
-/
namespace Go.Proofs.YthdfhnnoamlacaaDoor
open Go.RowKit (Below)
open Kz

section
variable {E : RE} {v : Int} {flex : Bool}

end
end Go.Proofs.YthdfhnnoamlacaaDoor
/-
  Lists, read: the whole code of a list. Conditions: none.
-/
namespace Go.Proofs.YthdfhnnoamlacaaDoor
open Go.RowKit (Below)
open Kz

/-! ## Steps -/
theorem zeroCells_at {z : Array Value} {n i j : Nat} {rest : Array Value} (hi : i < n) (hj : j < z.size) : (Builtin.zeroCells z n ++ rest)[i * z.size + j]? = z[j]? := by
  have h1 : i * z.size + j < n * z.size := by
    have : i * z.size + z.size ≤ n * z.size := by rw [← Nat.succ_mul]; exact Nat.mul_le_mul_right _ hi
    omega
  rw [Array.getElem?_append_left (by simpa [Builtin.zeroCells] using h1)]
  simp only [Builtin.zeroCells, Array.getElem?_map, Array.getElem?_range, h1, if_true, Option.map_some]
  rw [Nat.mul_comm, Nat.mul_add_mod, Nat.mod_eq_of_lt hj]
  simp [hj]
end Go.Proofs.YthdfhnnoamlacaaDoor
/-
  Lists, read: the whole code of a list; its elements. Conditions: none.
-/
namespace Go.Proofs.YthdfhnnoamlacaaDoor
open Go.RowKit (Below)
open Kz

section
variable {tags : Rel (List (Nat × List UInt8))} {E : RE} {v : Int} {flex ht : Bool}

theorem rdLen_le (flex : Bool) (st : St) : (rdLen flex st).1 ≤ 2147483647 := by
  have h0 : (rdLen0 flex st).1 ≤ 2147483647 := by
    unfold rdLen0
    split
    · simp only [wrap32]; omega
    · exact (rdI4_b st).2
  unfold rdLen
  cases h : (rdLen0 flex st).2 with
  | none => exact h0
  | some bs =>
    simp only [chkLen]
    split
    · simp
    · exact h0

end
end Go.Proofs.YthdfhnnoamlacaaDoor
/-
  Elements of lists; tags; the end of a function that reads. Conditions: none.
-/
namespace Go.Proofs.YthdfhnnoamlacaaDoor
open Go.RowKit (Below)
open Kz

section
variable {tags : Rel (List (Nat × List UInt8))} {E : RE} {v : Int} {flex ht : Bool}

end
end Go.Proofs.YthdfhnnoamlacaaDoor
/-
  Unknown tags in memory; setting one; reading them. Conditions: none.
-/
namespace Go.Proofs.YthdfhnnoamlacaaDoor
open Go.RowKit (Below)
open Kz

/-- A fact that the walk is not to look at. -/
structure Box (p : Prop) : Prop where
  get : p

end Go.Proofs.YthdfhnnoamlacaaDoor
/-
  Unknown tags, read. Conditions: none.
-/
namespace Go.Proofs.YthdfhnnoamlacaaDoor
open Go.RowKit (Below)
open Kz

end Go.Proofs.YthdfhnnoamlacaaDoor
/-
  The tags of a part; the end of a function that reads. Conditions: none.
-/
namespace Go.Proofs.YthdfhnnoamlacaaDoor
open Go.RowKit (Below)
open Kz

section
variable {E : RE} {v : Int} {flex ht : Bool}

end

/-! ## The end of a function -/
section
variable {E : RE} {v : Int} {flex ht : Bool}
end
end Go.Proofs.YthdfhnnoamlacaaDoor
/-
  A whole function that reads. Conditions: none.
-/
namespace Go.Proofs.YthdfhnnoamlacaaDoor
open Go.RowKit (Below)
open Kz

section
variable (tags : Rel (List (Nat × List UInt8))) (E : RE) (v : Int) (flex ht : Bool)
end

section
variable {tags : Rel (List (Nat × List UInt8))} {E : RE} {v : Int} {flex ht : Bool}

end

/-! ## The head of a function -/
section
variable {tags : Rel (List (Nat × List UInt8))} {m : M} {ht : Bool}
end
end Go.Proofs.YthdfhnnoamlacaaDoor
/-
  'Default' of a part: empty, or some fields set. Conditions: none.
-/
namespace Go.Proofs.YthdfhnnoamlacaaDoor
open Go.RowKit (Below)
open Kz

/-! ## Fields whose reading looks at 'isFlexible' -/
section
variable {tags : Rel (List (Nat × List UInt8))} {E : RE} {v : Int} {flex ht : Bool}
end
end Go.Proofs.YthdfhnnoamlacaaDoor
/-
  'Default' of a part that sets fields; a new message. Conditions: none.
-/
namespace Go.Proofs.YthdfhnnoamlacaaDoor
open Go.RowKit (Below)
open Kz

/-! ## What is to lie there ahead of a reading, cell by cell -/
end Go.Proofs.YthdfhnnoamlacaaDoor
