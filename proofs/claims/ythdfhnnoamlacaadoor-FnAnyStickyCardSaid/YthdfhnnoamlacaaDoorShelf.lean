/-
  DERIVED: THE SHELF's CONTRACTS AT THIS DUMP, IN PLAIN WORDS (tools/lay-plain.mjs out of 'YthdfhnnoamlacaaDoorShelf.lean', which tools/lay-shelf.mjs wrote): THE SAME DECLARATIONS UNDER THE SAME NAMES: 'import', 'namespace', 'open', 'def', 'theorem' AND NOTHING ELSE: no command of the shelf's: FOR A HAND-IN. Each laying: the table of numbers ('.._ren') and one theorem, a field a fact of the dump's own or the kernel's comparison; each contract: ONE APPLICATION.
-/
import Derived.Ground.MnProg
import Derived.Shelf.Bin.BEUint16
import Derived.Shelf.Bin.BEUint32
import Derived.Shelf.Bin.BEUint64
import Derived.Shelf.Bin.BEUint16Panics
import Derived.Shelf.Bin.BEUint32Panics
import Derived.Shelf.Bin.BEUint64Panics
import Derived.Shelf.Bin.ReadersZ
import Derived.Test.YthdfhnnoamlacaaDoorProg
namespace Go.Proofs
open Go.Shelf
def Tryd.laysBin36_ren : Go.Shelf.Ren := ⟨fun | 36 => 80 | n => n, fun | 37 => 127 | 22 => 22 | 23 => 133 | 0 => 0 | 5 => 5 | 45 => 93 | n => n, fun | n => n⟩
theorem Tryd.laysBin36 : Go.Proofs.LaysBin.n36 Tryd.prog Tryd.laysBin36_ren := {
  mixed := by kernel_rfl
  f36 := Tryd.func80.trans (congrArg some (by kernel_rfl))
  t0 := Tryd.underlying0
  a0 := Tryd.isAgg0
  z0 := Tryd.sizeOf0
  v0 := Tryd.zeroValue0
  i0 := by kernel_rfl
  t5 := Tryd.underlying5
  a5 := Tryd.isAgg5
  z5 := Tryd.sizeOf5
  v5 := Tryd.zeroValue5
  i5 := by kernel_rfl
  t22 := Tryd.underlying22
  a22 := Tryd.isAgg22
  z22 := Tryd.sizeOf22
  v22 := Tryd.zeroValue22
  i22 := by kernel_rfl
  t23 := Tryd.underlying133
  a23 := Tryd.isAgg133
  z23 := Tryd.sizeOf133
  v23 := Tryd.zeroValue133
  i23 := by kernel_rfl
  t37 := Tryd.underlying127
  a37 := Tryd.isAgg127
  z37 := Tryd.sizeOf127
  v37 := Tryd.zeroValue127
  i37 := by kernel_rfl
  t45 := Tryd.underlying93
  a45 := Tryd.isAgg93
  z45 := Tryd.sizeOf93
  v45 := Tryd.zeroValue93
  i45 := by kernel_rfl }
open Go.RowKit in
/-- binary.BigEndian.Uint16: "Uint16 returns the uint16 representation of b[0:2].": THE NUMBER THAT THE FIRST 2 BYTES SPELL, the greatest byte first ('Lib.beNat'). Of what was there nothing has turned (the receiver, an empty struct, is laid in a new block without cells; the statement's order is drawn). (LAID: no walk: one application.) -/
theorem Tryd.binary_BE_Uint16 (g o n c : Nat) (b0 b1 : UInt8) (w : World) (hn : 2 ≤ n) (c0 : w.cell? ⟨g, o, none⟩ = some (.int .u8 b0.toNat)) (c1 : w.cell? ⟨g, o + 1, none⟩ = some (.int .u8 b1.toNat)) :
    Calls Tryd.prog 80 #[.agg #[], .slice (some ⟨g, o, none⟩) n c] w fun e w' => e = .returned (.int .u16 (Lib.beNat [b0, b1])) ∧ Below w.heap.size w w' := Any.binary_BE_Uint16 Tryd.laysBin36 g o n c b0 b1 w hn c0 c1
def Tryd.laysBin39_ren : Go.Shelf.Ren := ⟨fun | 39 => 68 | n => n, fun | 37 => 127 | 22 => 22 | 29 => 125 | 0 => 0 | 5 => 5 | 45 => 93 | n => n, fun | n => n⟩
theorem Tryd.laysBin39 : Go.Proofs.LaysBin.n39 Tryd.prog Tryd.laysBin39_ren := {
  mixed := by kernel_rfl
  f39 := Tryd.func68.trans (congrArg some (by kernel_rfl))
  t0 := Tryd.underlying0
  a0 := Tryd.isAgg0
  z0 := Tryd.sizeOf0
  v0 := Tryd.zeroValue0
  i0 := by kernel_rfl
  t5 := Tryd.underlying5
  a5 := Tryd.isAgg5
  z5 := Tryd.sizeOf5
  v5 := Tryd.zeroValue5
  i5 := by kernel_rfl
  t22 := Tryd.underlying22
  a22 := Tryd.isAgg22
  z22 := Tryd.sizeOf22
  v22 := Tryd.zeroValue22
  i22 := by kernel_rfl
  t29 := Tryd.underlying125
  a29 := Tryd.isAgg125
  z29 := Tryd.sizeOf125
  v29 := Tryd.zeroValue125
  i29 := by kernel_rfl
  t37 := Tryd.underlying127
  a37 := Tryd.isAgg127
  z37 := Tryd.sizeOf127
  v37 := Tryd.zeroValue127
  i37 := by kernel_rfl
  t45 := Tryd.underlying93
  a45 := Tryd.isAgg93
  z45 := Tryd.sizeOf93
  v45 := Tryd.zeroValue93
  i45 := by kernel_rfl }
open Go.RowKit in
/-- binary.BigEndian.Uint32: "Uint32 returns the uint32 representation of b[0:4].": THE NUMBER THAT THE FIRST 4 BYTES SPELL, the greatest byte first ('Lib.beNat'). Of what was there nothing has turned (the receiver, an empty struct, is laid in a new block without cells; the statement's order is drawn). (LAID: no walk: one application.) -/
theorem Tryd.binary_BE_Uint32 (g o n c : Nat) (b0 b1 b2 b3 : UInt8) (w : World) (hn : 4 ≤ n) (c0 : w.cell? ⟨g, o, none⟩ = some (.int .u8 b0.toNat)) (c1 : w.cell? ⟨g, o + 1, none⟩ = some (.int .u8 b1.toNat)) (c2 : w.cell? ⟨g, o + 2, none⟩ = some (.int .u8 b2.toNat)) (c3 : w.cell? ⟨g, o + 3, none⟩ = some (.int .u8 b3.toNat)) :
    Calls Tryd.prog 68 #[.agg #[], .slice (some ⟨g, o, none⟩) n c] w fun e w' => e = .returned (.int .u32 (Lib.beNat [b0, b1, b2, b3])) ∧ Below w.heap.size w w' := Any.binary_BE_Uint32 Tryd.laysBin39 g o n c b0 b1 b2 b3 w hn c0 c1 c2 c3
def Tryd.laysBin42_ren : Go.Shelf.Ren := ⟨fun | 42 => 84 | n => n, fun | 37 => 127 | 22 => 22 | 33 => 115 | 0 => 0 | 5 => 5 | 45 => 93 | n => n, fun | n => n⟩
theorem Tryd.laysBin42 : Go.Proofs.LaysBin.n42 Tryd.prog Tryd.laysBin42_ren := {
  mixed := by kernel_rfl
  f42 := Tryd.func84.trans (congrArg some (by kernel_rfl))
  t0 := Tryd.underlying0
  a0 := Tryd.isAgg0
  z0 := Tryd.sizeOf0
  v0 := Tryd.zeroValue0
  i0 := by kernel_rfl
  t5 := Tryd.underlying5
  a5 := Tryd.isAgg5
  z5 := Tryd.sizeOf5
  v5 := Tryd.zeroValue5
  i5 := by kernel_rfl
  t22 := Tryd.underlying22
  a22 := Tryd.isAgg22
  z22 := Tryd.sizeOf22
  v22 := Tryd.zeroValue22
  i22 := by kernel_rfl
  t33 := Tryd.underlying115
  a33 := Tryd.isAgg115
  z33 := Tryd.sizeOf115
  v33 := Tryd.zeroValue115
  i33 := by kernel_rfl
  t37 := Tryd.underlying127
  a37 := Tryd.isAgg127
  z37 := Tryd.sizeOf127
  v37 := Tryd.zeroValue127
  i37 := by kernel_rfl
  t45 := Tryd.underlying93
  a45 := Tryd.isAgg93
  z45 := Tryd.sizeOf93
  v45 := Tryd.zeroValue93
  i45 := by kernel_rfl }
open Go.RowKit in
/-- binary.BigEndian.Uint64: "Uint64 returns the uint64 representation of b[0:8].": THE NUMBER THAT THE FIRST 8 BYTES SPELL, the greatest byte first ('Lib.beNat'). Of what was there nothing has turned (the receiver, an empty struct, is laid in a new block without cells; the statement's order is drawn). (LAID: no walk: one application.) -/
theorem Tryd.binary_BE_Uint64 (g o n c : Nat) (b0 b1 b2 b3 b4 b5 b6 b7 : UInt8) (w : World) (hn : 8 ≤ n) (c0 : w.cell? ⟨g, o, none⟩ = some (.int .u8 b0.toNat)) (c1 : w.cell? ⟨g, o + 1, none⟩ = some (.int .u8 b1.toNat)) (c2 : w.cell? ⟨g, o + 2, none⟩ = some (.int .u8 b2.toNat)) (c3 : w.cell? ⟨g, o + 3, none⟩ = some (.int .u8 b3.toNat)) (c4 : w.cell? ⟨g, o + 4, none⟩ = some (.int .u8 b4.toNat)) (c5 : w.cell? ⟨g, o + 5, none⟩ = some (.int .u8 b5.toNat)) (c6 : w.cell? ⟨g, o + 6, none⟩ = some (.int .u8 b6.toNat)) (c7 : w.cell? ⟨g, o + 7, none⟩ = some (.int .u8 b7.toNat)) :
    Calls Tryd.prog 84 #[.agg #[], .slice (some ⟨g, o, none⟩) n c] w fun e w' => e = .returned (.int .u64 (Lib.beNat [b0, b1, b2, b3, b4, b5, b6, b7])) ∧ Below w.heap.size w w' := Any.binary_BE_Uint64 Tryd.laysBin42 g o n c b0 b1 b2 b3 b4 b5 b6 b7 w hn c0 c1 c2 c3 c4 c5 c6 c7
end Go.Proofs
