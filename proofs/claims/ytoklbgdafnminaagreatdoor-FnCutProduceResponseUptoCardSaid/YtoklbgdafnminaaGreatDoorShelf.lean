/-
  DERIVED: THE SHELF's CONTRACTS AT THIS DUMP, IN PLAIN WORDS (tools/lay-plain.mjs out of 'YtoklbgdafnminaaGreatDoorShelf.lean', which tools/lay-shelf.mjs wrote): THE SAME DECLARATIONS UNDER THE SAME NAMES: 'import', 'namespace', 'open', 'def', 'theorem' AND NOTHING ELSE: no command of the shelf's: FOR A HAND-IN. Each laying: the table of numbers ('.._ren') and one theorem, a field a fact of the dump's own or the kernel's comparison; each contract: ONE APPLICATION.
-/
import Derived.Shelf.Small.Bits
import Derived.Shelf.Strconv.Itoa0
import Derived.Ground.MnProg
import Derived.Shelf.Bin.BEUint16
import Derived.Shelf.Bin.BEUint32
import Derived.Shelf.Bin.BEUint64
import Derived.Shelf.Bin.BEUint16Panics
import Derived.Shelf.Bin.BEUint32Panics
import Derived.Shelf.Bin.BEUint64Panics
import Derived.Ground.GgsProg
import Derived.Shelf.GgSortFunc.Insertion
import Derived.Shelf.Bin.ReadersZ
import Derived.Shelf.GgSortFunc.Small
import Derived.Shelf.GgSortFunc.Tiny
import Derived.Shelf.GgSortFunc.Compose
import Derived.Shelf.GgSortFunc.LotD
import Derived.Shelf.GgSortFunc.Pivot
import Derived.Shelf.GgSortFunc.Partition
import Derived.Shelf.GgSortFunc.Pdq
import Derived.Shelf.GgSortFunc.Whole
import Derived.Shelf.SlSortFunc.Xorshift
import Derived.Shelf.SlSortFunc.SiftDown
import Derived.Shelf.SlSortFunc.HeapSort
import Derived.Shelf.SlSortFunc.PartialInsertion
import Derived.Test.YtoklbgdafnminaaGreatDoorProg
namespace Go.Proofs
open Go.Shelf
def Tryz.lays128_ren : Go.Shelf.Ren := ⟨fun | 128 => 153 | n => n, fun | 51 => 61 | 3 => 3 | 4 => 4 | 46 => 166 | 5 => 5 | 9 => 9 | n => n, fun | n => n⟩
theorem Tryz.lays128 : Go.Proofs.Lays.n128 Tryz.prog Tryz.lays128_ren := {
  mixed := by kernel_rfl
  f128 := Tryz.func153.trans (congrArg some (by kernel_rfl))
  t3 := Tryz.underlying3
  a3 := Tryz.isAgg3
  z3 := Tryz.sizeOf3
  v3 := Tryz.zeroValue3
  t4 := Tryz.underlying4
  a4 := Tryz.isAgg4
  z4 := Tryz.sizeOf4
  v4 := Tryz.zeroValue4
  t5 := Tryz.underlying5
  a5 := Tryz.isAgg5
  z5 := Tryz.sizeOf5
  v5 := Tryz.zeroValue5
  t9 := Tryz.underlying9
  a9 := Tryz.isAgg9
  z9 := Tryz.sizeOf9
  v9 := Tryz.zeroValue9
  t46 := Tryz.underlying166
  a46 := Tryz.isAgg166
  z46 := Tryz.sizeOf166
  v46 := Tryz.zeroValue166
  t51 := Tryz.underlying61
  a51 := Tryz.isAgg61
  z51 := Tryz.sizeOf61
  v51 := Tryz.zeroValue61 }
/-- bits.Len32: "Len32 returns the minimum number of bits required to represent x; the result is 0 for x == 0.": IT RETURNS 'Lib.bitLen x'; the world is as it was. ('h0', 'h1': x is a uint32.) (LAID: no walk: one application.) -/
theorem Tryz.bits_Len32 (x : Int) (w : World) (h0 : 0 ≤ x) (h1 : x ≤ 4294967295) :
    Calls Tryz.prog 153 #[.int .u32 x] w fun e w' => e = .returned (.int .i64 (Lib.bitLen x.toNat)) ∧ w' = w := Any.bits_Len32 Tryz.lays128 x w h0 h1
def Tryz.lays125_ren : Go.Shelf.Ren := ⟨fun | 125 => 161 | 128 => 153 | 129 => 173 | n => n, fun | 46 => 166 | 3 => 3 | 51 => 61 | 53 => 78 | 4 => 4 | 5 => 5 | 9 => 9 | n => n, fun | n => n⟩
theorem Tryz.lays125 : Go.Proofs.Lays.n125 Tryz.prog Tryz.lays125_ren := {
  mixed := by kernel_rfl
  f125 := Tryz.func161.trans (congrArg some (by kernel_rfl))
  f128 := Tryz.func153.trans (congrArg some (by kernel_rfl))
  f129 := Tryz.func173.trans (congrArg some (by kernel_rfl))
  t3 := Tryz.underlying3
  a3 := Tryz.isAgg3
  z3 := Tryz.sizeOf3
  v3 := Tryz.zeroValue3
  t4 := Tryz.underlying4
  a4 := Tryz.isAgg4
  z4 := Tryz.sizeOf4
  v4 := Tryz.zeroValue4
  t5 := Tryz.underlying5
  a5 := Tryz.isAgg5
  z5 := Tryz.sizeOf5
  v5 := Tryz.zeroValue5
  t9 := Tryz.underlying9
  a9 := Tryz.isAgg9
  z9 := Tryz.sizeOf9
  v9 := Tryz.zeroValue9
  t46 := Tryz.underlying166
  a46 := Tryz.isAgg166
  z46 := Tryz.sizeOf166
  v46 := Tryz.zeroValue166
  t51 := Tryz.underlying61
  a51 := Tryz.isAgg61
  z51 := Tryz.sizeOf61
  v51 := Tryz.zeroValue61
  t53 := Tryz.underlying78
  a53 := Tryz.isAgg78
  z53 := Tryz.sizeOf78
  v53 := Tryz.zeroValue78 }
/-- bits.Len: "Len returns the minimum number of bits required to represent x; the result is 0 for x == 0.": IT RETURNS 'Lib.bitLen x'; the world is as it was. (A uint has 64 bits in the model.) ITS CALLEE bits.Len64 IS MET BY ITS OWN CONTRACT OFF THE SHELF (lay that first). (LAID: no walk: one application.) -/
theorem Tryz.bits_Len (x : Int) (w : World) (h0 : 0 ≤ x) (h1 : x ≤ 18446744073709551615) :
    Calls Tryz.prog 161 #[.int .u64 x] w fun e w' => e = .returned (.int .i64 (Lib.bitLen x.toNat)) ∧ w' = w := Any.bits_Len Tryz.lays125 x w h0 h1
def Tryz.lays129_ren : Go.Shelf.Ren := ⟨fun | 129 => 173 | n => n, fun | 53 => 78 | 3 => 3 | 4 => 4 | 46 => 166 | 5 => 5 | 9 => 9 | n => n, fun | n => n⟩
theorem Tryz.lays129 : Go.Proofs.Lays.n129 Tryz.prog Tryz.lays129_ren := {
  mixed := by kernel_rfl
  f129 := Tryz.func173.trans (congrArg some (by kernel_rfl))
  t3 := Tryz.underlying3
  a3 := Tryz.isAgg3
  z3 := Tryz.sizeOf3
  v3 := Tryz.zeroValue3
  t4 := Tryz.underlying4
  a4 := Tryz.isAgg4
  z4 := Tryz.sizeOf4
  v4 := Tryz.zeroValue4
  t5 := Tryz.underlying5
  a5 := Tryz.isAgg5
  z5 := Tryz.sizeOf5
  v5 := Tryz.zeroValue5
  t9 := Tryz.underlying9
  a9 := Tryz.isAgg9
  z9 := Tryz.sizeOf9
  v9 := Tryz.zeroValue9
  t46 := Tryz.underlying166
  a46 := Tryz.isAgg166
  z46 := Tryz.sizeOf166
  v46 := Tryz.zeroValue166
  t53 := Tryz.underlying78
  a53 := Tryz.isAgg78
  z53 := Tryz.sizeOf78
  v53 := Tryz.zeroValue78 }
/-- bits.Len64: "Len64 returns the minimum number of bits required to represent x; the result is 0 for x == 0.": IT RETURNS 'Lib.bitLen x'; the world is as it was. ('h0', 'h1': x is a uint64.) (LAID: no walk: one application.) -/
theorem Tryz.bits_Len64 (x : Int) (w : World) (h0 : 0 ≤ x) (h1 : x ≤ 18446744073709551615) :
    Calls Tryz.prog 173 #[.int .u64 x] w fun e w' => e = .returned (.int .i64 (Lib.bitLen x.toNat)) ∧ w' = w := Any.bits_Len64 Tryz.lays129 x w h0 h1
def Tryz.laysBin36_ren : Go.Shelf.Ren := ⟨fun | 36 => 151 | n => n, fun | 37 => 192 | 22 => 22 | 23 => 27 | 0 => 0 | 5 => 5 | 45 => 166 | n => n, fun | n => n⟩
theorem Tryz.laysBin36 : Go.Proofs.LaysBin.n36 Tryz.prog Tryz.laysBin36_ren := {
  mixed := by kernel_rfl
  f36 := Tryz.func151.trans (congrArg some (by kernel_rfl))
  t0 := Tryz.underlying0
  a0 := Tryz.isAgg0
  z0 := Tryz.sizeOf0
  v0 := Tryz.zeroValue0
  i0 := by kernel_rfl
  t5 := Tryz.underlying5
  a5 := Tryz.isAgg5
  z5 := Tryz.sizeOf5
  v5 := Tryz.zeroValue5
  i5 := by kernel_rfl
  t22 := Tryz.underlying22
  a22 := Tryz.isAgg22
  z22 := Tryz.sizeOf22
  v22 := Tryz.zeroValue22
  i22 := by kernel_rfl
  t23 := Tryz.underlying27
  a23 := Tryz.isAgg27
  z23 := Tryz.sizeOf27
  v23 := Tryz.zeroValue27
  i23 := by kernel_rfl
  t37 := Tryz.underlying192
  a37 := Tryz.isAgg192
  z37 := Tryz.sizeOf192
  v37 := Tryz.zeroValue192
  i37 := by kernel_rfl
  t45 := Tryz.underlying166
  a45 := Tryz.isAgg166
  z45 := Tryz.sizeOf166
  v45 := Tryz.zeroValue166
  i45 := by kernel_rfl }
open Go.RowKit in
/-- binary.BigEndian.Uint16: "Uint16 returns the uint16 representation of b[0:2].": THE NUMBER THAT THE FIRST 2 BYTES SPELL, the greatest byte first ('Lib.beNat'). Of what was there nothing has turned (the receiver, an empty struct, is laid in a new block without cells; the statement's order is drawn). (LAID: no walk: one application.) -/
theorem Tryz.binary_BE_Uint16 (g o n c : Nat) (b0 b1 : UInt8) (w : World) (hn : 2 ≤ n) (c0 : w.cell? ⟨g, o, none⟩ = some (.int .u8 b0.toNat)) (c1 : w.cell? ⟨g, o + 1, none⟩ = some (.int .u8 b1.toNat)) :
    Calls Tryz.prog 151 #[.agg #[], .slice (some ⟨g, o, none⟩) n c] w fun e w' => e = .returned (.int .u16 (Lib.beNat [b0, b1])) ∧ Below w.heap.size w w' := Any.binary_BE_Uint16 Tryz.laysBin36 g o n c b0 b1 w hn c0 c1
def Tryz.laysBin39_ren : Go.Shelf.Ren := ⟨fun | 39 => 150 | n => n, fun | 37 => 192 | 22 => 22 | 29 => 61 | 0 => 0 | 5 => 5 | 45 => 166 | n => n, fun | n => n⟩
theorem Tryz.laysBin39 : Go.Proofs.LaysBin.n39 Tryz.prog Tryz.laysBin39_ren := {
  mixed := by kernel_rfl
  f39 := Tryz.func150.trans (congrArg some (by kernel_rfl))
  t0 := Tryz.underlying0
  a0 := Tryz.isAgg0
  z0 := Tryz.sizeOf0
  v0 := Tryz.zeroValue0
  i0 := by kernel_rfl
  t5 := Tryz.underlying5
  a5 := Tryz.isAgg5
  z5 := Tryz.sizeOf5
  v5 := Tryz.zeroValue5
  i5 := by kernel_rfl
  t22 := Tryz.underlying22
  a22 := Tryz.isAgg22
  z22 := Tryz.sizeOf22
  v22 := Tryz.zeroValue22
  i22 := by kernel_rfl
  t29 := Tryz.underlying61
  a29 := Tryz.isAgg61
  z29 := Tryz.sizeOf61
  v29 := Tryz.zeroValue61
  i29 := by kernel_rfl
  t37 := Tryz.underlying192
  a37 := Tryz.isAgg192
  z37 := Tryz.sizeOf192
  v37 := Tryz.zeroValue192
  i37 := by kernel_rfl
  t45 := Tryz.underlying166
  a45 := Tryz.isAgg166
  z45 := Tryz.sizeOf166
  v45 := Tryz.zeroValue166
  i45 := by kernel_rfl }
open Go.RowKit in
/-- binary.BigEndian.Uint32: "Uint32 returns the uint32 representation of b[0:4].": THE NUMBER THAT THE FIRST 4 BYTES SPELL, the greatest byte first ('Lib.beNat'). Of what was there nothing has turned (the receiver, an empty struct, is laid in a new block without cells; the statement's order is drawn). (LAID: no walk: one application.) -/
theorem Tryz.binary_BE_Uint32 (g o n c : Nat) (b0 b1 b2 b3 : UInt8) (w : World) (hn : 4 ≤ n) (c0 : w.cell? ⟨g, o, none⟩ = some (.int .u8 b0.toNat)) (c1 : w.cell? ⟨g, o + 1, none⟩ = some (.int .u8 b1.toNat)) (c2 : w.cell? ⟨g, o + 2, none⟩ = some (.int .u8 b2.toNat)) (c3 : w.cell? ⟨g, o + 3, none⟩ = some (.int .u8 b3.toNat)) :
    Calls Tryz.prog 150 #[.agg #[], .slice (some ⟨g, o, none⟩) n c] w fun e w' => e = .returned (.int .u32 (Lib.beNat [b0, b1, b2, b3])) ∧ Below w.heap.size w w' := Any.binary_BE_Uint32 Tryz.laysBin39 g o n c b0 b1 b2 b3 w hn c0 c1 c2 c3
def Tryz.laysBin42_ren : Go.Shelf.Ren := ⟨fun | 42 => 163 | n => n, fun | 37 => 192 | 22 => 22 | 33 => 78 | 0 => 0 | 5 => 5 | 45 => 166 | n => n, fun | n => n⟩
theorem Tryz.laysBin42 : Go.Proofs.LaysBin.n42 Tryz.prog Tryz.laysBin42_ren := {
  mixed := by kernel_rfl
  f42 := Tryz.func163.trans (congrArg some (by kernel_rfl))
  t0 := Tryz.underlying0
  a0 := Tryz.isAgg0
  z0 := Tryz.sizeOf0
  v0 := Tryz.zeroValue0
  i0 := by kernel_rfl
  t5 := Tryz.underlying5
  a5 := Tryz.isAgg5
  z5 := Tryz.sizeOf5
  v5 := Tryz.zeroValue5
  i5 := by kernel_rfl
  t22 := Tryz.underlying22
  a22 := Tryz.isAgg22
  z22 := Tryz.sizeOf22
  v22 := Tryz.zeroValue22
  i22 := by kernel_rfl
  t33 := Tryz.underlying78
  a33 := Tryz.isAgg78
  z33 := Tryz.sizeOf78
  v33 := Tryz.zeroValue78
  i33 := by kernel_rfl
  t37 := Tryz.underlying192
  a37 := Tryz.isAgg192
  z37 := Tryz.sizeOf192
  v37 := Tryz.zeroValue192
  i37 := by kernel_rfl
  t45 := Tryz.underlying166
  a45 := Tryz.isAgg166
  z45 := Tryz.sizeOf166
  v45 := Tryz.zeroValue166
  i45 := by kernel_rfl }
open Go.RowKit in
/-- binary.BigEndian.Uint64: "Uint64 returns the uint64 representation of b[0:8].": THE NUMBER THAT THE FIRST 8 BYTES SPELL, the greatest byte first ('Lib.beNat'). Of what was there nothing has turned (the receiver, an empty struct, is laid in a new block without cells; the statement's order is drawn). (LAID: no walk: one application.) -/
theorem Tryz.binary_BE_Uint64 (g o n c : Nat) (b0 b1 b2 b3 b4 b5 b6 b7 : UInt8) (w : World) (hn : 8 ≤ n) (c0 : w.cell? ⟨g, o, none⟩ = some (.int .u8 b0.toNat)) (c1 : w.cell? ⟨g, o + 1, none⟩ = some (.int .u8 b1.toNat)) (c2 : w.cell? ⟨g, o + 2, none⟩ = some (.int .u8 b2.toNat)) (c3 : w.cell? ⟨g, o + 3, none⟩ = some (.int .u8 b3.toNat)) (c4 : w.cell? ⟨g, o + 4, none⟩ = some (.int .u8 b4.toNat)) (c5 : w.cell? ⟨g, o + 5, none⟩ = some (.int .u8 b5.toNat)) (c6 : w.cell? ⟨g, o + 6, none⟩ = some (.int .u8 b6.toNat)) (c7 : w.cell? ⟨g, o + 7, none⟩ = some (.int .u8 b7.toNat)) :
    Calls Tryz.prog 163 #[.agg #[], .slice (some ⟨g, o, none⟩) n c] w fun e w' => e = .returned (.int .u64 (Lib.beNat [b0, b1, b2, b3, b4, b5, b6, b7])) ∧ Below w.heap.size w w' := Any.binary_BE_Uint64 Tryz.laysBin42 g o n c b0 b1 b2 b3 b4 b5 b6 b7 w hn c0 c1 c2 c3 c4 c5 c6 c7
open Go.RowKit in
/-- binary.BigEndian.Uint16, b SHORTER THAN 2: IT PANICS: Go's 'runtime error: index out of range [1] with length n' ('Lib.boundsPanicked'). THE WORLD: the receiver's new block without cells, and the draw of the panic's flag. (LAID: no walk: one application.) -/
theorem Tryz.binary_BE_Uint16_panics (ao : Option Addr) (n c : Nat) (w : World) (hn : n < 2) (hnil : ao = none → n = 0) :
    Calls Tryz.prog 151 #[.agg #[], .slice ao n c] w fun e w' => Lib.boundsPanicked Tryz.prog 1 n e ∧ w' = (w.alloc (.cells #[] 192)).drew := Any.binary_BE_Uint16_panics Tryz.laysBin36 ao n c w hn hnil
open Go.RowKit in
/-- binary.BigEndian.Uint32, b SHORTER THAN 4: IT PANICS: Go's 'runtime error: index out of range [3] with length n' ('Lib.boundsPanicked'). THE WORLD: the receiver's new block without cells, and the draw of the panic's flag. (LAID: no walk: one application.) -/
theorem Tryz.binary_BE_Uint32_panics (ao : Option Addr) (n c : Nat) (w : World) (hn : n < 4) (hnil : ao = none → n = 0) :
    Calls Tryz.prog 150 #[.agg #[], .slice ao n c] w fun e w' => Lib.boundsPanicked Tryz.prog 3 n e ∧ w' = (w.alloc (.cells #[] 192)).drew := Any.binary_BE_Uint32_panics Tryz.laysBin39 ao n c w hn hnil
open Go.RowKit in
/-- binary.BigEndian.Uint64, b SHORTER THAN 8: IT PANICS: Go's 'runtime error: index out of range [7] with length n' ('Lib.boundsPanicked'). THE WORLD: the receiver's new block without cells, and the draw of the panic's flag. (LAID: no walk: one application.) -/
theorem Tryz.binary_BE_Uint64_panics (ao : Option Addr) (n c : Nat) (w : World) (hn : n < 8) (hnil : ao = none → n = 0) :
    Calls Tryz.prog 163 #[.agg #[], .slice ao n c] w fun e w' => Lib.boundsPanicked Tryz.prog 7 n e ∧ w' = (w.alloc (.cells #[] 192)).drew := Any.binary_BE_Uint64_panics Tryz.laysBin42 ao n c w hn hnil
def Tryz.laysGg26_ren : Go.Shelf.Ren := ⟨fun | 26 => 174 | n => n, fun | 44 => 211 | 3 => 3 | 0 => 0 | 4 => 4 | 26 => 197 | 37 => 206 | n => n, fun | n => n⟩
theorem Tryz.laysGg26 : Go.Proofs.LaysGg.n26 Tryz.prog Tryz.laysGg26_ren := {
  mixed := by kernel_rfl
  f26 := Tryz.func174.trans (congrArg some (by kernel_rfl))
  t0 := Tryz.underlying0
  a0 := Tryz.isAgg0
  z0 := Tryz.sizeOf0
  v0 := Tryz.zeroValue0
  i0 := by kernel_rfl
  t3 := Tryz.underlying3
  a3 := Tryz.isAgg3
  z3 := Tryz.sizeOf3
  v3 := Tryz.zeroValue3
  i3 := by kernel_rfl
  t4 := Tryz.underlying4
  a4 := Tryz.isAgg4
  z4 := Tryz.sizeOf4
  v4 := Tryz.zeroValue4
  i4 := by kernel_rfl
  t26 := Tryz.underlying197
  a26 := Tryz.isAgg197
  z26 := Tryz.sizeOf197
  v26 := Tryz.zeroValue197
  i26 := by kernel_rfl
  t37 := Tryz.underlying206
  a37 := Tryz.isAgg206
  z37 := Tryz.sizeOf206
  v37 := Tryz.zeroValue206
  i37 := by kernel_rfl
  t44 := Tryz.underlying211
  a44 := Tryz.isAgg211
  z44 := Tryz.sizeOf211
  v44 := Tryz.zeroValue211
  i44 := by kernel_rfl }
open Go.RowKit Go.Lib Go.Sort in
theorem Tryz.insertionSort_func_one {α : Type} [Inhabited α] (enc : α → Value) (lt : α → α → Bool) (g : Nat) (lb : Array Value) (sf : Nat) (sb : Array Value) (blk off a b : Nat) (d : Array α) (w : World) (eg : ∀ args w, (callFunc g args).run Tryz.prog w = .ok (.enter g args) w) (hless : LessReads Tryz.prog g lb enc lt blk off d.size w) (hswap : SwapSwaps Tryz.prog sf sb enc blk off d.size) (hH : Holds enc w blk off d) (hblk : blk < w.heap.size) (hab : a ≤ b) (hb : b ≤ d.size) (hsz : d.size < 4611686018427387904) :
    Calls Tryz.prog 174 #[.agg #[.func (.func g) #[] lb, .func (.func sf) #[] sb], .int .i64 a, .int .i64 b] w fun e w' =>
      e = .returned (.tuple #[]) ∧ ∃ n, w' = putRow enc (Sort.ahead (w.alloc (.cells #[.func (.func g) #[] lb, .func (.func sf) #[] sb] 211)) n) blk off (Sort.insertionSort lt d a b) := Any.insertionSort_func_one Tryz.laysGg26 enc lt g lb sf sb blk off a b d w eg hless hswap hH hblk hab hb hsz
open Go.RowKit in
/-- binary.BigEndian.Uint16, ITS PREMISES 'open_ints'' CONCLUSION TO THE LETTER: a slice at WHATEVER address a, the numbers zs that its cells hold: THE NUMBER THAT THE FIRST 2 SPELL ('Lib.beZ'). (LAID: no walk: one application.) -/
theorem Tryz.binary_BE_Uint16_z (a : Addr) (n c : Nat) (zs : List Int) (w : World) (hn : 2 ≤ n) (hl : 2 ≤ zs.length) (hcell : ∀ i, i < zs.length → w.cell? (a.add i) = some (.int .u8 (zs.getD i 0))) (hw : ∀ z ∈ zs, (Lit.int .u8 z).wf = true) :
    Calls Tryz.prog 151 #[.agg #[], .slice (some a) n c] w fun e w' => e = .returned (.int .u16 (Lib.beZ (zs.take 2))) ∧ Below w.heap.size w w' := Any.binary_BE_Uint16_z Tryz.laysBin36 a n c zs w hn hl hcell hw
open Go.RowKit in
/-- binary.BigEndian.Uint32, ITS PREMISES 'open_ints'' CONCLUSION TO THE LETTER: a slice at WHATEVER address a, the numbers zs that its cells hold: THE NUMBER THAT THE FIRST 4 SPELL ('Lib.beZ'). (LAID: no walk: one application.) -/
theorem Tryz.binary_BE_Uint32_z (a : Addr) (n c : Nat) (zs : List Int) (w : World) (hn : 4 ≤ n) (hl : 4 ≤ zs.length) (hcell : ∀ i, i < zs.length → w.cell? (a.add i) = some (.int .u8 (zs.getD i 0))) (hw : ∀ z ∈ zs, (Lit.int .u8 z).wf = true) :
    Calls Tryz.prog 150 #[.agg #[], .slice (some a) n c] w fun e w' => e = .returned (.int .u32 (Lib.beZ (zs.take 4))) ∧ Below w.heap.size w w' := Any.binary_BE_Uint32_z Tryz.laysBin39 a n c zs w hn hl hcell hw
open Go.RowKit in
/-- binary.BigEndian.Uint64, ITS PREMISES 'open_ints'' CONCLUSION TO THE LETTER: a slice at WHATEVER address a, the numbers zs that its cells hold: THE NUMBER THAT THE FIRST 8 SPELL ('Lib.beZ'). (LAID: no walk: one application.) -/
theorem Tryz.binary_BE_Uint64_z (a : Addr) (n c : Nat) (zs : List Int) (w : World) (hn : 8 ≤ n) (hl : 8 ≤ zs.length) (hcell : ∀ i, i < zs.length → w.cell? (a.add i) = some (.int .u8 (zs.getD i 0))) (hw : ∀ z ∈ zs, (Lit.int .u8 z).wf = true) :
    Calls Tryz.prog 163 #[.agg #[], .slice (some a) n c] w fun e w' => e = .returned (.int .u64 (Lib.beZ (zs.take 8))) ∧ Below w.heap.size w w' := Any.binary_BE_Uint64_z Tryz.laysBin42 a n c zs w hn hl hcell hw
def Tryz.laysGg14_ren : Go.Shelf.Ren := ⟨fun | 14 => 162 | 26 => 174 | 27 => 175 | 28 => 176 | 29 => 177 | 30 => 178 | 31 => 179 | 32 => 180 | 33 => 181 | 34 => 182 | 35 => 183 | 36 => 184 | 37 => 185 | 38 => 186 | 13 => 161 | 39 => 187 | 24 => 153 | 25 => 173 | n => n, fun | 44 => 211 | 3 => 3 | 0 => 0 | 4 => 4 | 54 => 219 | 53 => 218 | 26 => 197 | 58 => 223 | 37 => 206 | 60 => 225 | 41 => 166 | 51 => 78 | 64 => 228 | 66 => 230 | 67 => 231 | 49 => 61 | 5 => 5 | 9 => 9 | n => n, fun | n => n⟩
theorem Tryz.laysGg14 : Go.Proofs.LaysGg.n14 Tryz.prog Tryz.laysGg14_ren := {
  mixed := by kernel_rfl
  f13 := Tryz.func161.trans (congrArg some (by kernel_rfl))
  f14 := Tryz.func162.trans (congrArg some (by kernel_rfl))
  f24 := Tryz.func153.trans (congrArg some (by kernel_rfl))
  f25 := Tryz.func173.trans (congrArg some (by kernel_rfl))
  f26 := Tryz.func174.trans (congrArg some (by kernel_rfl))
  f27 := Tryz.func175.trans (congrArg some (by kernel_rfl))
  f28 := Tryz.func176.trans (congrArg some (by kernel_rfl))
  f29 := Tryz.func177.trans (congrArg some (by kernel_rfl))
  f30 := Tryz.func178.trans (congrArg some (by kernel_rfl))
  f31 := Tryz.func179.trans (congrArg some (by kernel_rfl))
  f32 := Tryz.func180.trans (congrArg some (by kernel_rfl))
  f33 := Tryz.func181.trans (congrArg some (by kernel_rfl))
  f34 := Tryz.func182.trans (congrArg some (by kernel_rfl))
  f35 := Tryz.func183.trans (congrArg some (by kernel_rfl))
  f36 := Tryz.func184.trans (congrArg some (by kernel_rfl))
  f37 := Tryz.func185.trans (congrArg some (by kernel_rfl))
  f38 := Tryz.func186.trans (congrArg some (by kernel_rfl))
  f39 := Tryz.func187.trans (congrArg some (by kernel_rfl))
  t0 := Tryz.underlying0
  a0 := Tryz.isAgg0
  z0 := Tryz.sizeOf0
  v0 := Tryz.zeroValue0
  i0 := by kernel_rfl
  t3 := Tryz.underlying3
  a3 := Tryz.isAgg3
  z3 := Tryz.sizeOf3
  v3 := Tryz.zeroValue3
  i3 := by kernel_rfl
  t4 := Tryz.underlying4
  a4 := Tryz.isAgg4
  z4 := Tryz.sizeOf4
  v4 := Tryz.zeroValue4
  i4 := by kernel_rfl
  t5 := Tryz.underlying5
  a5 := Tryz.isAgg5
  z5 := Tryz.sizeOf5
  v5 := Tryz.zeroValue5
  i5 := by kernel_rfl
  t9 := Tryz.underlying9
  a9 := Tryz.isAgg9
  z9 := Tryz.sizeOf9
  v9 := Tryz.zeroValue9
  i9 := by kernel_rfl
  t26 := Tryz.underlying197
  a26 := Tryz.isAgg197
  z26 := Tryz.sizeOf197
  v26 := Tryz.zeroValue197
  i26 := by kernel_rfl
  t37 := Tryz.underlying206
  a37 := Tryz.isAgg206
  z37 := Tryz.sizeOf206
  v37 := Tryz.zeroValue206
  i37 := by kernel_rfl
  t41 := Tryz.underlying166
  a41 := Tryz.isAgg166
  z41 := Tryz.sizeOf166
  v41 := Tryz.zeroValue166
  i41 := by kernel_rfl
  t44 := Tryz.underlying211
  a44 := Tryz.isAgg211
  z44 := Tryz.sizeOf211
  v44 := Tryz.zeroValue211
  i44 := by kernel_rfl
  t49 := Tryz.underlying61
  a49 := Tryz.isAgg61
  z49 := Tryz.sizeOf61
  v49 := Tryz.zeroValue61
  i49 := by kernel_rfl
  t51 := Tryz.underlying78
  a51 := Tryz.isAgg78
  z51 := Tryz.sizeOf78
  v51 := Tryz.zeroValue78
  i51 := by kernel_rfl
  t53 := Tryz.underlying218
  a53 := Tryz.isAgg218
  z53 := Tryz.sizeOf218
  v53 := Tryz.zeroValue218
  i53 := by kernel_rfl
  t54 := Tryz.underlying219
  a54 := Tryz.isAgg219
  z54 := Tryz.sizeOf219
  v54 := Tryz.zeroValue219
  i54 := by kernel_rfl
  t58 := Tryz.underlying223
  a58 := Tryz.isAgg223
  z58 := Tryz.sizeOf223
  v58 := Tryz.zeroValue223
  i58 := by kernel_rfl
  t60 := Tryz.underlying225
  a60 := Tryz.isAgg225
  z60 := Tryz.sizeOf225
  v60 := Tryz.zeroValue225
  i60 := by kernel_rfl
  t64 := Tryz.underlying228
  a64 := Tryz.isAgg228
  z64 := Tryz.sizeOf228
  v64 := Tryz.zeroValue228
  i64 := by kernel_rfl
  t66 := Tryz.underlying230
  a66 := Tryz.isAgg230
  z66 := Tryz.sizeOf230
  v66 := Tryz.zeroValue230
  i66 := by kernel_rfl
  t67 := Tryz.underlying231
  a67 := Tryz.isAgg231
  z67 := Tryz.sizeOf231
  v67 := Tryz.zeroValue231
  i67 := by kernel_rfl }
open Go.RowKit Go.Lib Go.Sort in
/-- sort.pdqsort_func AT A RANGE OF AT MOST 12. (LAID: no walk: one application.) -/
theorem Tryz.pdqsort_func_small {α : Type} [Inhabited α] (enc : α → Value) (lt : α → α → Bool) (g : Nat) (lb : Array Value) (sf : Nat) (sb : Array Value) (blk off a b : Nat) (lim : Int) (d : Array α) (w : World) (eg : ∀ args w, (callFunc g args).run Tryz.prog w = .ok (.enter g args) w) (hless : LessReads Tryz.prog g lb enc lt blk off d.size w) (hswap : SwapSwaps Tryz.prog sf sb enc blk off d.size) (hH : Holds enc w blk off d) (hblk : blk < w.heap.size) (hab : a ≤ b) (hb : b ≤ d.size) (hsz : d.size < 4611686018427387904) (h12 : b - a ≤ 12) :
    Calls Tryz.prog 162 #[.agg #[.func (.func g) #[] lb, .func (.func sf) #[] sb], .int .i64 a, .int .i64 b, .int .i64 lim] w fun e w' =>
      e = .returned (.tuple #[]) ∧ ∃ n, w' = putRow enc (Sort.ahead ((w.alloc (.cells #[.func (.func g) #[] lb, .func (.func sf) #[] sb] 211)).alloc (.cells #[.func (.func g) #[] lb, .func (.func sf) #[] sb] 211)) n) blk off (Sort.insertionSort lt d a b) := Any.pdqsort_func_small Tryz.laysGg14 enc lt g lb sf sb blk off a b lim d w eg hless hswap hH hblk hab hb hsz h12
def Tryz.laysGg6_ren : Go.Shelf.Ren := ⟨fun | 6 => 154 | 10 => 158 | 11 => 159 | 12 => 160 | 13 => 161 | 14 => 162 | 24 => 153 | 25 => 173 | 26 => 174 | 27 => 175 | 28 => 176 | 29 => 177 | 30 => 178 | 31 => 179 | 32 => 180 | 33 => 181 | 34 => 182 | 35 => 183 | 36 => 184 | 37 => 185 | 38 => 186 | 39 => 187 | n => n, fun | 20 => 20 | 26 => 197 | 35 => 204 | 0 => 0 | 37 => 206 | 3 => 3 | 41 => 166 | 44 => 211 | 49 => 61 | 51 => 78 | 4 => 4 | 54 => 219 | 53 => 218 | 58 => 223 | 5 => 5 | 9 => 9 | 60 => 225 | 64 => 228 | 66 => 230 | 67 => 231 | 17 => 17 | 32 => 201 | 33 => 202 | 82 => 246 | 12 => 12 | 75 => 239 | 76 => 240 | 77 => 241 | 78 => 242 | 79 => 243 | 80 => 244 | n => n, fun | n => n⟩
theorem Tryz.laysGg6 : Go.Proofs.LaysGg.n6 Tryz.prog Tryz.laysGg6_ren := {
  mixed := by kernel_rfl
  f6 := Tryz.func154.trans (congrArg some (by kernel_rfl))
  f10 := Tryz.func158.trans (congrArg some (by kernel_rfl))
  f11 := Tryz.func159.trans (congrArg some (by kernel_rfl))
  f12 := Tryz.func160.trans (congrArg some (by kernel_rfl))
  f13 := Tryz.func161.trans (congrArg some (by kernel_rfl))
  f14 := Tryz.func162.trans (congrArg some (by kernel_rfl))
  f24 := Tryz.func153.trans (congrArg some (by kernel_rfl))
  f25 := Tryz.func173.trans (congrArg some (by kernel_rfl))
  f26 := Tryz.func174.trans (congrArg some (by kernel_rfl))
  f27 := Tryz.func175.trans (congrArg some (by kernel_rfl))
  f28 := Tryz.func176.trans (congrArg some (by kernel_rfl))
  f29 := Tryz.func177.trans (congrArg some (by kernel_rfl))
  f30 := Tryz.func178.trans (congrArg some (by kernel_rfl))
  f31 := Tryz.func179.trans (congrArg some (by kernel_rfl))
  f32 := Tryz.func180.trans (congrArg some (by kernel_rfl))
  f33 := Tryz.func181.trans (congrArg some (by kernel_rfl))
  f34 := Tryz.func182.trans (congrArg some (by kernel_rfl))
  f35 := Tryz.func183.trans (congrArg some (by kernel_rfl))
  f36 := Tryz.func184.trans (congrArg some (by kernel_rfl))
  f37 := Tryz.func185.trans (congrArg some (by kernel_rfl))
  f38 := Tryz.func186.trans (congrArg some (by kernel_rfl))
  f39 := Tryz.func187.trans (congrArg some (by kernel_rfl))
  t0 := Tryz.underlying0
  a0 := Tryz.isAgg0
  z0 := Tryz.sizeOf0
  v0 := Tryz.zeroValue0
  i0 := by kernel_rfl
  t3 := Tryz.underlying3
  a3 := Tryz.isAgg3
  z3 := Tryz.sizeOf3
  v3 := Tryz.zeroValue3
  i3 := by kernel_rfl
  t4 := Tryz.underlying4
  a4 := Tryz.isAgg4
  z4 := Tryz.sizeOf4
  v4 := Tryz.zeroValue4
  i4 := by kernel_rfl
  t5 := Tryz.underlying5
  a5 := Tryz.isAgg5
  z5 := Tryz.sizeOf5
  v5 := Tryz.zeroValue5
  i5 := by kernel_rfl
  t9 := Tryz.underlying9
  a9 := Tryz.isAgg9
  z9 := Tryz.sizeOf9
  v9 := Tryz.zeroValue9
  i9 := by kernel_rfl
  t12 := Tryz.underlying12
  a12 := Tryz.isAgg12
  z12 := Tryz.sizeOf12
  v12 := Tryz.zeroValue12
  i12 := by kernel_rfl
  t17 := Tryz.underlying17
  a17 := Tryz.isAgg17
  z17 := Tryz.sizeOf17
  v17 := Tryz.zeroValue17
  i17 := by kernel_rfl
  t20 := Tryz.underlying20
  a20 := Tryz.isAgg20
  z20 := Tryz.sizeOf20
  v20 := Tryz.zeroValue20
  i20 := by kernel_rfl
  t26 := Tryz.underlying197
  a26 := Tryz.isAgg197
  z26 := Tryz.sizeOf197
  v26 := Tryz.zeroValue197
  i26 := by kernel_rfl
  t32 := Tryz.underlying201
  a32 := Tryz.isAgg201
  z32 := Tryz.sizeOf201
  v32 := Tryz.zeroValue201
  i32 := by kernel_rfl
  t33 := Tryz.underlying202
  a33 := Tryz.isAgg202
  z33 := Tryz.sizeOf202
  v33 := Tryz.zeroValue202
  i33 := by kernel_rfl
  t35 := Tryz.underlying204
  a35 := Tryz.isAgg204
  z35 := Tryz.sizeOf204
  v35 := Tryz.zeroValue204
  i35 := by kernel_rfl
  t37 := Tryz.underlying206
  a37 := Tryz.isAgg206
  z37 := Tryz.sizeOf206
  v37 := Tryz.zeroValue206
  i37 := by kernel_rfl
  t41 := Tryz.underlying166
  a41 := Tryz.isAgg166
  z41 := Tryz.sizeOf166
  v41 := Tryz.zeroValue166
  i41 := by kernel_rfl
  t44 := Tryz.underlying211
  a44 := Tryz.isAgg211
  z44 := Tryz.sizeOf211
  v44 := Tryz.zeroValue211
  i44 := by kernel_rfl
  t49 := Tryz.underlying61
  a49 := Tryz.isAgg61
  z49 := Tryz.sizeOf61
  v49 := Tryz.zeroValue61
  i49 := by kernel_rfl
  t51 := Tryz.underlying78
  a51 := Tryz.isAgg78
  z51 := Tryz.sizeOf78
  v51 := Tryz.zeroValue78
  i51 := by kernel_rfl
  t53 := Tryz.underlying218
  a53 := Tryz.isAgg218
  z53 := Tryz.sizeOf218
  v53 := Tryz.zeroValue218
  i53 := by kernel_rfl
  t54 := Tryz.underlying219
  a54 := Tryz.isAgg219
  z54 := Tryz.sizeOf219
  v54 := Tryz.zeroValue219
  i54 := by kernel_rfl
  t58 := Tryz.underlying223
  a58 := Tryz.isAgg223
  z58 := Tryz.sizeOf223
  v58 := Tryz.zeroValue223
  i58 := by kernel_rfl
  t60 := Tryz.underlying225
  a60 := Tryz.isAgg225
  z60 := Tryz.sizeOf225
  v60 := Tryz.zeroValue225
  i60 := by kernel_rfl
  t64 := Tryz.underlying228
  a64 := Tryz.isAgg228
  z64 := Tryz.sizeOf228
  v64 := Tryz.zeroValue228
  i64 := by kernel_rfl
  t66 := Tryz.underlying230
  a66 := Tryz.isAgg230
  z66 := Tryz.sizeOf230
  v66 := Tryz.zeroValue230
  i66 := by kernel_rfl
  t67 := Tryz.underlying231
  a67 := Tryz.isAgg231
  z67 := Tryz.sizeOf231
  v67 := Tryz.zeroValue231
  i67 := by kernel_rfl
  t75 := Tryz.underlying239
  a75 := Tryz.isAgg239
  z75 := Tryz.sizeOf239
  v75 := Tryz.zeroValue239
  i75 := by kernel_rfl
  t76 := Tryz.underlying240
  a76 := Tryz.isAgg240
  z76 := Tryz.sizeOf240
  v76 := Tryz.zeroValue240
  i76 := by kernel_rfl
  t77 := Tryz.underlying241
  a77 := Tryz.isAgg241
  z77 := Tryz.sizeOf241
  v77 := Tryz.zeroValue241
  i77 := by kernel_rfl
  t78 := Tryz.underlying242
  a78 := Tryz.isAgg242
  z78 := Tryz.sizeOf242
  v78 := Tryz.zeroValue242
  i78 := by kernel_rfl
  t79 := Tryz.underlying243
  a79 := Tryz.isAgg243
  z79 := Tryz.sizeOf243
  v79 := Tryz.zeroValue243
  i79 := by kernel_rfl
  t80 := Tryz.underlying244
  a80 := Tryz.isAgg244
  z80 := Tryz.sizeOf244
  v80 := Tryz.zeroValue244
  i80 := by kernel_rfl
  t82 := Tryz.underlying246
  a82 := Tryz.isAgg246
  z82 := Tryz.sizeOf246
  v82 := Tryz.zeroValue246
  i82 := by kernel_rfl }
open Go.RowKit Go.Lib Go.Sort in
theorem Tryz.insertionSort_func_none (lf : Fn) (la lb : Array Value) (f : Nat) (sb : Array Value) (a b : Nat) (h : b ≤ a + 1) (ha : a < 4611686018427387904) (w : World) :
    Calls Tryz.prog 174 #[.agg #[.func lf la lb, .func (.func f) #[] sb], .int .i64 a, .int .i64 b] w fun e w' => e = .returned (.tuple #[]) ∧ w' = w.alloc (.cells #[.func lf la lb, .func (.func f) #[] sb] 211) := Any.insertionSort_func_none Tryz.laysGg26 lf la lb f sb a b h ha w
open Go.RowKit Go.Lib Go.Sort in
theorem Tryz.pdqsort_func_tiny (lf : Fn) (la lb : Array Value) (f : Nat) (sb : Array Value) (n : Nat) (h : n ≤ 1) (lim : Int) (w : World) :
    Calls Tryz.prog 162 #[.agg #[.func lf la lb, .func (.func f) #[] sb], .int .i64 0, .int .i64 n, .int .i64 lim] w fun e w' => e = .returned (.tuple #[]) ∧ w' = (w.alloc (.cells #[.func lf la lb, .func (.func f) #[] sb] 211)).alloc (.cells #[.func lf la lb, .func (.func f) #[] sb] 211) := Any.pdqsort_func_tiny Tryz.laysGg14 lf la lb f sb n h lim w
open Go.RowKit Go.Lib Go.Sort in
/-- sort.insertionSort_func, from a world to a 'sortWorld' of it. (LAID: no walk: one application.) -/
theorem Tryz.insertionSort_func_w {α : Type} [Inhabited α] (enc : α → Value) (lt : α → α → Bool) (g : Nat) (lb : Array Value) (sf : Nat) (sb : Array Value) (blk off a b : Nat) (d : Array α) (w : World) (eg : ∀ args w, (callFunc g args).run Tryz.prog w = .ok (.enter g args) w) (hless : LessReads Tryz.prog g lb enc lt blk off d.size w) (hswap : SwapSwaps Tryz.prog sf sb enc blk off d.size) (hH : Holds enc w blk off d) (hblk : blk < w.heap.size) (hab : a ≤ b) (hb : b ≤ d.size) (hsz : d.size < 4611686018427387904) :
    Calls Tryz.prog 174 #[.agg #[.func (.func g) #[] lb, .func (.func sf) #[] sb], .int .i64 a, .int .i64 b] w fun e w' => e = .returned (.tuple #[]) ∧ ∃ n os, w' = sortWorld enc w blk off n (Sort.insertionSort lt d a b) os := Any.insertionSort_func_w Tryz.laysGg26 enc lt g lb sf sb blk off a b d w eg hless hswap hH hblk hab hb hsz
def Tryz.laysGg30_ren : Go.Shelf.Ren := ⟨fun | 30 => 178 | n => n, fun | 44 => 211 | 3 => 3 | 0 => 0 | 4 => 4 | 37 => 206 | 26 => 197 | n => n, fun | n => n⟩
theorem Tryz.laysGg30 : Go.Proofs.LaysGg.n30 Tryz.prog Tryz.laysGg30_ren := {
  mixed := by kernel_rfl
  f30 := Tryz.func178.trans (congrArg some (by kernel_rfl))
  t0 := Tryz.underlying0
  a0 := Tryz.isAgg0
  z0 := Tryz.sizeOf0
  v0 := Tryz.zeroValue0
  i0 := by kernel_rfl
  t3 := Tryz.underlying3
  a3 := Tryz.isAgg3
  z3 := Tryz.sizeOf3
  v3 := Tryz.zeroValue3
  i3 := by kernel_rfl
  t4 := Tryz.underlying4
  a4 := Tryz.isAgg4
  z4 := Tryz.sizeOf4
  v4 := Tryz.zeroValue4
  i4 := by kernel_rfl
  t26 := Tryz.underlying197
  a26 := Tryz.isAgg197
  z26 := Tryz.sizeOf197
  v26 := Tryz.zeroValue197
  i26 := by kernel_rfl
  t37 := Tryz.underlying206
  a37 := Tryz.isAgg206
  z37 := Tryz.sizeOf206
  v37 := Tryz.zeroValue206
  i37 := by kernel_rfl
  t44 := Tryz.underlying211
  a44 := Tryz.isAgg211
  z44 := Tryz.sizeOf211
  v44 := Tryz.zeroValue211
  i44 := by kernel_rfl }
open Go.RowKit Go.Lib Go.Sort in
theorem Tryz.reverseRange_func_one {α : Type} [Inhabited α] (enc : α → Value) (lf : Fn) (la lb : Array Value) (sf : Nat) (sb : Array Value) (blk off a b : Nat) (d : Array α) (w : World) (hswap : SwapSwaps Tryz.prog sf sb enc blk off d.size) (hH : Holds enc w blk off d) (hblk : blk < w.heap.size) (hab : a ≤ b) (hb : b ≤ d.size) (hsz : d.size < 4611686018427387904) :
    Calls Tryz.prog 178 #[.agg #[.func lf la lb, .func (.func sf) #[] sb], .int .i64 a, .int .i64 b] w fun e w' => e = .returned (.tuple #[]) ∧ ∃ n, w' = putRow enc (Sort.ahead (w.alloc (.cells #[.func lf la lb, .func (.func sf) #[] sb] 211)) n) blk off (reverseRange d a b) := Any.reverseRange_func_one Tryz.laysGg30 enc lf la lb sf sb blk off a b d w hswap hH hblk hab hb hsz
open Go.RowKit Go.Lib Go.Sort in
/-- sort.reverseRange_func, from a world to a 'sortWorld' of it. (LAID: no walk: one application.) -/
theorem Tryz.reverseRange_func_w {α : Type} [Inhabited α] (enc : α → Value) (lf : Fn) (la lb : Array Value) (sf : Nat) (sb : Array Value) (blk off a b : Nat) (d : Array α) (w : World) (hswap : SwapSwaps Tryz.prog sf sb enc blk off d.size) (hH : Holds enc w blk off d) (hblk : blk < w.heap.size) (hab : a ≤ b) (hb : b ≤ d.size) (hsz : d.size < 4611686018427387904) :
    Calls Tryz.prog 178 #[.agg #[.func lf la lb, .func (.func sf) #[] sb], .int .i64 a, .int .i64 b] w fun e w' => e = .returned (.tuple #[]) ∧ ∃ n os, w' = sortWorld enc w blk off n (reverseRange d a b) os := Any.reverseRange_func_w Tryz.laysGg30 enc lf la lb sf sb blk off a b d w hswap hH hblk hab hb hsz
def Tryz.laysGg39_ren : Go.Shelf.Ren := ⟨fun | 39 => 187 | n => n, fun | 44 => 211 | 3 => 3 | 64 => 228 | 0 => 0 | 26 => 197 | 4 => 4 | 37 => 206 | n => n, fun | n => n⟩
theorem Tryz.laysGg39 : Go.Proofs.LaysGg.n39 Tryz.prog Tryz.laysGg39_ren := {
  mixed := by kernel_rfl
  f39 := Tryz.func187.trans (congrArg some (by kernel_rfl))
  t0 := Tryz.underlying0
  a0 := Tryz.isAgg0
  z0 := Tryz.sizeOf0
  v0 := Tryz.zeroValue0
  i0 := by kernel_rfl
  t3 := Tryz.underlying3
  a3 := Tryz.isAgg3
  z3 := Tryz.sizeOf3
  v3 := Tryz.zeroValue3
  i3 := by kernel_rfl
  t4 := Tryz.underlying4
  a4 := Tryz.isAgg4
  z4 := Tryz.sizeOf4
  v4 := Tryz.zeroValue4
  i4 := by kernel_rfl
  t26 := Tryz.underlying197
  a26 := Tryz.isAgg197
  z26 := Tryz.sizeOf197
  v26 := Tryz.zeroValue197
  i26 := by kernel_rfl
  t37 := Tryz.underlying206
  a37 := Tryz.isAgg206
  z37 := Tryz.sizeOf206
  v37 := Tryz.zeroValue206
  i37 := by kernel_rfl
  t44 := Tryz.underlying211
  a44 := Tryz.isAgg211
  z44 := Tryz.sizeOf211
  v44 := Tryz.zeroValue211
  i44 := by kernel_rfl
  t64 := Tryz.underlying228
  a64 := Tryz.isAgg228
  z64 := Tryz.sizeOf228
  v64 := Tryz.zeroValue228
  i64 := by kernel_rfl }
open Go.RowKit Go.Lib Go.Sort in
theorem Tryz.order2_func {α : Type} [Inhabited α] (enc : α → Value) (lt : α → α → Bool) (g : Nat) (lb : Array Value) (sfn : Fn) (sa sb : Array Value) (blk off : Nat) (w0 W : World) (d : Array α) (a b cb co s : Nat) (eg : ∀ args w, (callFunc g args).run Tryz.prog w = .ok (.enter g args) w) (hL : LessReads Tryz.prog g lb enc lt blk off d.size w0) (hW : SW enc w0 blk off d W) (ha : a < d.size) (hb : b < d.size) (hS : Holds (Value.int .i64) W cb co (one s)) (hcb : cb < W.heap.size) (hs : s < 4611686018427387904) :
    Calls Tryz.prog 187 #[.agg #[.func (.func g) #[] lb, .func sfn sa sb], .int .i64 a, .int .i64 b, .pointer (some ⟨cb, co, none⟩)] W fun e w' =>
      e = .returned (.tuple #[.int .i64 (order2 lt d a b s).1, .int .i64 (order2 lt d a b s).2.1]) ∧ ∃ n os, w' = sortWorld (Value.int .i64) W cb co n (one (order2 lt d a b s).2.2) os := Any.order2_func Tryz.laysGg39 enc lt g lb sfn sa sb blk off w0 W d a b cb co s eg hL hW ha hb hS hcb hs
def Tryz.laysGg38_ren : Go.Shelf.Ren := ⟨fun | 38 => 186 | 39 => 187 | n => n, fun | 44 => 211 | 3 => 3 | 64 => 228 | 0 => 0 | 67 => 231 | 26 => 197 | 4 => 4 | 37 => 206 | n => n, fun | n => n⟩
theorem Tryz.laysGg38 : Go.Proofs.LaysGg.n38 Tryz.prog Tryz.laysGg38_ren := {
  mixed := by kernel_rfl
  f38 := Tryz.func186.trans (congrArg some (by kernel_rfl))
  f39 := Tryz.func187.trans (congrArg some (by kernel_rfl))
  t0 := Tryz.underlying0
  a0 := Tryz.isAgg0
  z0 := Tryz.sizeOf0
  v0 := Tryz.zeroValue0
  i0 := by kernel_rfl
  t3 := Tryz.underlying3
  a3 := Tryz.isAgg3
  z3 := Tryz.sizeOf3
  v3 := Tryz.zeroValue3
  i3 := by kernel_rfl
  t4 := Tryz.underlying4
  a4 := Tryz.isAgg4
  z4 := Tryz.sizeOf4
  v4 := Tryz.zeroValue4
  i4 := by kernel_rfl
  t26 := Tryz.underlying197
  a26 := Tryz.isAgg197
  z26 := Tryz.sizeOf197
  v26 := Tryz.zeroValue197
  i26 := by kernel_rfl
  t37 := Tryz.underlying206
  a37 := Tryz.isAgg206
  z37 := Tryz.sizeOf206
  v37 := Tryz.zeroValue206
  i37 := by kernel_rfl
  t44 := Tryz.underlying211
  a44 := Tryz.isAgg211
  z44 := Tryz.sizeOf211
  v44 := Tryz.zeroValue211
  i44 := by kernel_rfl
  t64 := Tryz.underlying228
  a64 := Tryz.isAgg228
  z64 := Tryz.sizeOf228
  v64 := Tryz.zeroValue228
  i64 := by kernel_rfl
  t67 := Tryz.underlying231
  a67 := Tryz.isAgg231
  z67 := Tryz.sizeOf231
  v67 := Tryz.zeroValue231
  i67 := by kernel_rfl }
open Go.RowKit Go.Lib Go.Sort in
theorem Tryz.median_func {α : Type} [Inhabited α] (enc : α → Value) (lt : α → α → Bool) (g : Nat) (lb : Array Value) (sfn : Fn) (sa sb : Array Value) (blk off : Nat) (w0 W : World) (d : Array α) (a b c cb co s : Nat) (eg : ∀ args w, (callFunc g args).run Tryz.prog w = .ok (.enter g args) w) (hL : LessReads Tryz.prog g lb enc lt blk off d.size w0) (hW : SW enc w0 blk off d W) (ha : a < d.size) (hb : b < d.size) (hc : c < d.size) (hS : Holds (Value.int .i64) W cb co (one s)) (hcb0 : w0.heap.size ≤ cb) (hcb : cb < W.heap.size) (hs : s + 3 < 4611686018427387904) :
    Calls Tryz.prog 186 #[.agg #[.func (.func g) #[] lb, .func sfn sa sb], .int .i64 a, .int .i64 b, .int .i64 c, .pointer (some ⟨cb, co, none⟩)] W fun e w' =>
      e = .returned (.int .i64 (median lt d a b c s).1) ∧ ∃ n os, w' = sortWorld (Value.int .i64) W cb co n (one (median lt d a b c s).2) os := Any.median_func Tryz.laysGg38 enc lt g lb sfn sa sb blk off w0 W d a b c cb co s eg hL hW ha hb hc hS hcb0 hcb hs
def Tryz.laysGg37_ren : Go.Shelf.Ren := ⟨fun | 37 => 185 | 38 => 186 | 39 => 187 | n => n, fun | 44 => 211 | 3 => 3 | 64 => 228 | 0 => 0 | 67 => 231 | 26 => 197 | 4 => 4 | 37 => 206 | n => n, fun | n => n⟩
theorem Tryz.laysGg37 : Go.Proofs.LaysGg.n37 Tryz.prog Tryz.laysGg37_ren := {
  mixed := by kernel_rfl
  f37 := Tryz.func185.trans (congrArg some (by kernel_rfl))
  f38 := Tryz.func186.trans (congrArg some (by kernel_rfl))
  f39 := Tryz.func187.trans (congrArg some (by kernel_rfl))
  t0 := Tryz.underlying0
  a0 := Tryz.isAgg0
  z0 := Tryz.sizeOf0
  v0 := Tryz.zeroValue0
  i0 := by kernel_rfl
  t3 := Tryz.underlying3
  a3 := Tryz.isAgg3
  z3 := Tryz.sizeOf3
  v3 := Tryz.zeroValue3
  i3 := by kernel_rfl
  t4 := Tryz.underlying4
  a4 := Tryz.isAgg4
  z4 := Tryz.sizeOf4
  v4 := Tryz.zeroValue4
  i4 := by kernel_rfl
  t26 := Tryz.underlying197
  a26 := Tryz.isAgg197
  z26 := Tryz.sizeOf197
  v26 := Tryz.zeroValue197
  i26 := by kernel_rfl
  t37 := Tryz.underlying206
  a37 := Tryz.isAgg206
  z37 := Tryz.sizeOf206
  v37 := Tryz.zeroValue206
  i37 := by kernel_rfl
  t44 := Tryz.underlying211
  a44 := Tryz.isAgg211
  z44 := Tryz.sizeOf211
  v44 := Tryz.zeroValue211
  i44 := by kernel_rfl
  t64 := Tryz.underlying228
  a64 := Tryz.isAgg228
  z64 := Tryz.sizeOf228
  v64 := Tryz.zeroValue228
  i64 := by kernel_rfl
  t67 := Tryz.underlying231
  a67 := Tryz.isAgg231
  z67 := Tryz.sizeOf231
  v67 := Tryz.zeroValue231
  i67 := by kernel_rfl }
open Go.RowKit Go.Lib Go.Sort in
theorem Tryz.medianAdjacent_func {α : Type} [Inhabited α] (enc : α → Value) (lt : α → α → Bool) (g : Nat) (lb : Array Value) (sfn : Fn) (sa sb : Array Value) (blk off : Nat) (w0 W : World) (d : Array α) (a cb co s : Nat) (eg : ∀ args w, (callFunc g args).run Tryz.prog w = .ok (.enter g args) w) (hL : LessReads Tryz.prog g lb enc lt blk off d.size w0) (hW : SW enc w0 blk off d W) (ha1 : 1 ≤ a) (ha2 : a + 1 < d.size) (hsz : d.size < 4611686018427387904) (hS : Holds (Value.int .i64) W cb co (one s)) (hcb0 : w0.heap.size ≤ cb) (hcb : cb < W.heap.size) (hs : s + 3 < 4611686018427387904) :
    Calls Tryz.prog 185 #[.agg #[.func (.func g) #[] lb, .func sfn sa sb], .int .i64 a, .pointer (some ⟨cb, co, none⟩)] W fun e w' =>
      e = .returned (.int .i64 (medianAdjacent lt d a s).1) ∧ ∃ n os, w' = sortWorld (Value.int .i64) W cb co n (one (medianAdjacent lt d a s).2) os := Any.medianAdjacent_func Tryz.laysGg37 enc lt g lb sfn sa sb blk off w0 W d a cb co s eg hL hW ha1 ha2 hsz hS hcb0 hcb hs
def Tryz.laysGg29_ren : Go.Shelf.Ren := ⟨fun | 29 => 177 | 37 => 185 | 38 => 186 | 39 => 187 | n => n, fun | 44 => 211 | 3 => 3 | 53 => 218 | 0 => 0 | 4 => 4 | 64 => 228 | 67 => 231 | 26 => 197 | 37 => 206 | n => n, fun | n => n⟩
theorem Tryz.laysGg29 : Go.Proofs.LaysGg.n29 Tryz.prog Tryz.laysGg29_ren := {
  mixed := by kernel_rfl
  f29 := Tryz.func177.trans (congrArg some (by kernel_rfl))
  f37 := Tryz.func185.trans (congrArg some (by kernel_rfl))
  f38 := Tryz.func186.trans (congrArg some (by kernel_rfl))
  f39 := Tryz.func187.trans (congrArg some (by kernel_rfl))
  t0 := Tryz.underlying0
  a0 := Tryz.isAgg0
  z0 := Tryz.sizeOf0
  v0 := Tryz.zeroValue0
  i0 := by kernel_rfl
  t3 := Tryz.underlying3
  a3 := Tryz.isAgg3
  z3 := Tryz.sizeOf3
  v3 := Tryz.zeroValue3
  i3 := by kernel_rfl
  t4 := Tryz.underlying4
  a4 := Tryz.isAgg4
  z4 := Tryz.sizeOf4
  v4 := Tryz.zeroValue4
  i4 := by kernel_rfl
  t26 := Tryz.underlying197
  a26 := Tryz.isAgg197
  z26 := Tryz.sizeOf197
  v26 := Tryz.zeroValue197
  i26 := by kernel_rfl
  t37 := Tryz.underlying206
  a37 := Tryz.isAgg206
  z37 := Tryz.sizeOf206
  v37 := Tryz.zeroValue206
  i37 := by kernel_rfl
  t44 := Tryz.underlying211
  a44 := Tryz.isAgg211
  z44 := Tryz.sizeOf211
  v44 := Tryz.zeroValue211
  i44 := by kernel_rfl
  t53 := Tryz.underlying218
  a53 := Tryz.isAgg218
  z53 := Tryz.sizeOf218
  v53 := Tryz.zeroValue218
  i53 := by kernel_rfl
  t64 := Tryz.underlying228
  a64 := Tryz.isAgg228
  z64 := Tryz.sizeOf228
  v64 := Tryz.zeroValue228
  i64 := by kernel_rfl
  t67 := Tryz.underlying231
  a67 := Tryz.isAgg231
  z67 := Tryz.sizeOf231
  v67 := Tryz.zeroValue231
  i67 := by kernel_rfl }
open Go.RowKit Go.Lib Go.Sort in
/-- sort.choosePivot_func: THE LIBRARY's OWN TEXT COMPUTES 'Sort.choosePivot lt d a b'; the row is not turned; W is grown. (After Derived/Sort/Walk11.lean's 'So.choosePivot_int', row for row.) (LAID: no walk: one application.) -/
theorem Tryz.choosePivot_func {α : Type} [Inhabited α] (enc : α → Value) (lt : α → α → Bool) (g : Nat) (lb : Array Value) (sfn : Fn) (sa sb : Array Value) (blk off a b : Nat) (W : World) (d : Array α) (eg : ∀ args w, (callFunc g args).run Tryz.prog w = .ok (.enter g args) w) (hless : LessReads Tryz.prog g lb enc lt blk off d.size W) (hH : Holds enc W blk off d) (hab : a < b) (hb : b ≤ d.size) (hsz : d.size < 4611686018427387904) :
    Calls Tryz.prog 177 #[.agg #[.func (.func g) #[] lb, .func sfn sa sb], .int .i64 a, .int .i64 b] W fun e w' =>
      e = .returned (.tuple #[.int .i64 (choosePivot lt d a b).1, .int .i64 (hintCode (choosePivot lt d a b).2)]) ∧ ∃ n os, w' = grow (Sort.ahead W n) os := Any.choosePivot_func Tryz.laysGg29 enc lt g lb sfn sa sb blk off a b W d eg hless hH hab hb hsz
def Tryz.laysGg32_ren : Go.Shelf.Ren := ⟨fun | 32 => 180 | n => n, fun | 44 => 211 | 3 => 3 | 0 => 0 | 37 => 206 | 4 => 4 | 26 => 197 | n => n, fun | n => n⟩
theorem Tryz.laysGg32 : Go.Proofs.LaysGg.n32 Tryz.prog Tryz.laysGg32_ren := {
  mixed := by kernel_rfl
  f32 := Tryz.func180.trans (congrArg some (by kernel_rfl))
  t0 := Tryz.underlying0
  a0 := Tryz.isAgg0
  z0 := Tryz.sizeOf0
  v0 := Tryz.zeroValue0
  i0 := by kernel_rfl
  t3 := Tryz.underlying3
  a3 := Tryz.isAgg3
  z3 := Tryz.sizeOf3
  v3 := Tryz.zeroValue3
  i3 := by kernel_rfl
  t4 := Tryz.underlying4
  a4 := Tryz.isAgg4
  z4 := Tryz.sizeOf4
  v4 := Tryz.zeroValue4
  i4 := by kernel_rfl
  t26 := Tryz.underlying197
  a26 := Tryz.isAgg197
  z26 := Tryz.sizeOf197
  v26 := Tryz.zeroValue197
  i26 := by kernel_rfl
  t37 := Tryz.underlying206
  a37 := Tryz.isAgg206
  z37 := Tryz.sizeOf206
  v37 := Tryz.zeroValue206
  i37 := by kernel_rfl
  t44 := Tryz.underlying211
  a44 := Tryz.isAgg211
  z44 := Tryz.sizeOf211
  v44 := Tryz.zeroValue211
  i44 := by kernel_rfl }
open Go.RowKit Go.Lib Go.Sort in
theorem Tryz.partitionEqual_func_one {α : Type} [Inhabited α] (enc : α → Value) (lt : α → α → Bool) (g : Nat) (lb : Array Value) (sf : Nat) (sb : Array Value) (blk off a b pivot : Nat) (d : Array α) (W : World) (eg : ∀ args w, (callFunc g args).run Tryz.prog w = .ok (.enter g args) w) (hless : LessReads Tryz.prog g lb enc lt blk off d.size W) (hswap : SwapSwaps Tryz.prog sf sb enc blk off d.size) (hH : Holds enc W blk off d) (hblk : blk < W.heap.size) (hap : a ≤ pivot) (hpb : pivot < b) (hb : b ≤ d.size) (hsz : d.size < 4611686018427387904) :
    Calls Tryz.prog 180 #[.agg #[.func (.func g) #[] lb, .func (.func sf) #[] sb], .int .i64 a, .int .i64 b, .int .i64 pivot] W fun e w' =>
      e = .returned (.int .i64 (Sort.partitionEqual lt d a b pivot).1) ∧ ∃ n, w' = (putRow enc (W.alloc (.cells #[.func (.func g) #[] lb, .func (.func sf) #[] sb] 211)) blk off (Sort.partitionEqual lt d a b pivot).2).drewN n := Any.partitionEqual_func_one Tryz.laysGg32 enc lt g lb sf sb blk off a b pivot d W eg hless hswap hH hblk hap hpb hb hsz
def Tryz.laysGg33_ren : Go.Shelf.Ren := ⟨fun | 33 => 181 | n => n, fun | 44 => 211 | 3 => 3 | 4 => 4 | 0 => 0 | 37 => 206 | 26 => 197 | n => n, fun | n => n⟩
theorem Tryz.laysGg33 : Go.Proofs.LaysGg.n33 Tryz.prog Tryz.laysGg33_ren := {
  mixed := by kernel_rfl
  f33 := Tryz.func181.trans (congrArg some (by kernel_rfl))
  t0 := Tryz.underlying0
  a0 := Tryz.isAgg0
  z0 := Tryz.sizeOf0
  v0 := Tryz.zeroValue0
  i0 := by kernel_rfl
  t3 := Tryz.underlying3
  a3 := Tryz.isAgg3
  z3 := Tryz.sizeOf3
  v3 := Tryz.zeroValue3
  i3 := by kernel_rfl
  t4 := Tryz.underlying4
  a4 := Tryz.isAgg4
  z4 := Tryz.sizeOf4
  v4 := Tryz.zeroValue4
  i4 := by kernel_rfl
  t26 := Tryz.underlying197
  a26 := Tryz.isAgg197
  z26 := Tryz.sizeOf197
  v26 := Tryz.zeroValue197
  i26 := by kernel_rfl
  t37 := Tryz.underlying206
  a37 := Tryz.isAgg206
  z37 := Tryz.sizeOf206
  v37 := Tryz.zeroValue206
  i37 := by kernel_rfl
  t44 := Tryz.underlying211
  a44 := Tryz.isAgg211
  z44 := Tryz.sizeOf211
  v44 := Tryz.zeroValue211
  i44 := by kernel_rfl }
open Go.RowKit Go.Lib Go.Sort in
theorem Tryz.partition_func_one {α : Type} [Inhabited α] (enc : α → Value) (lt : α → α → Bool) (g : Nat) (lb : Array Value) (sf : Nat) (sb : Array Value) (blk off a b pivot : Nat) (d : Array α) (W : World) (eg : ∀ args w, (callFunc g args).run Tryz.prog w = .ok (.enter g args) w) (hless : LessReads Tryz.prog g lb enc lt blk off d.size W) (hswap : SwapSwaps Tryz.prog sf sb enc blk off d.size) (hH : Holds enc W blk off d) (hblk : blk < W.heap.size) (hap : a ≤ pivot) (hpb : pivot < b) (hb : b ≤ d.size) (hsz : d.size < 4611686018427387904) :
    Calls Tryz.prog 181 #[.agg #[.func (.func g) #[] lb, .func (.func sf) #[] sb], .int .i64 a, .int .i64 b, .int .i64 pivot] W fun e w' =>
      e = .returned (.tuple #[.int .i64 (Sort.partition lt d a b pivot).1, .bool (Sort.partition lt d a b pivot).2.1]) ∧ ∃ n, w' = (putRow enc (W.alloc (.cells #[.func (.func g) #[] lb, .func (.func sf) #[] sb] 211)) blk off (Sort.partition lt d a b pivot).2.2).drewN n := Any.partition_func_one Tryz.laysGg33 enc lt g lb sf sb blk off a b pivot d W eg hless hswap hH hblk hap hpb hb hsz
open Go.RowKit Go.Lib Go.Sort in
/-- sort.partitionEqual_func, from a world to a 'sortWorld' of it. (LAID: no walk: one application.) -/
theorem Tryz.partitionEqual_func_w {α : Type} [Inhabited α] (enc : α → Value) (lt : α → α → Bool) (g : Nat) (lb : Array Value) (sf : Nat) (sb : Array Value) (blk off a b pivot : Nat) (d : Array α) (W : World) (eg : ∀ args w, (callFunc g args).run Tryz.prog w = .ok (.enter g args) w) (hless : LessReads Tryz.prog g lb enc lt blk off d.size W) (hswap : SwapSwaps Tryz.prog sf sb enc blk off d.size) (hH : Holds enc W blk off d) (hblk : blk < W.heap.size) (hap : a ≤ pivot) (hpb : pivot < b) (hb : b ≤ d.size) (hsz : d.size < 4611686018427387904) :
    Calls Tryz.prog 180 #[.agg #[.func (.func g) #[] lb, .func (.func sf) #[] sb], .int .i64 a, .int .i64 b, .int .i64 pivot] W fun e w' => e = .returned (.int .i64 (Sort.partitionEqual lt d a b pivot).1) ∧ ∃ n os, w' = sortWorld enc W blk off n (Sort.partitionEqual lt d a b pivot).2 os := Any.partitionEqual_func_w Tryz.laysGg32 enc lt g lb sf sb blk off a b pivot d W eg hless hswap hH hblk hap hpb hb hsz
open Go.RowKit Go.Lib Go.Sort in
/-- sort.partition_func, from a world to a 'sortWorld' of it. (LAID: no walk: one application.) -/
theorem Tryz.partition_func_w {α : Type} [Inhabited α] (enc : α → Value) (lt : α → α → Bool) (g : Nat) (lb : Array Value) (sf : Nat) (sb : Array Value) (blk off a b pivot : Nat) (d : Array α) (W : World) (eg : ∀ args w, (callFunc g args).run Tryz.prog w = .ok (.enter g args) w) (hless : LessReads Tryz.prog g lb enc lt blk off d.size W) (hswap : SwapSwaps Tryz.prog sf sb enc blk off d.size) (hH : Holds enc W blk off d) (hblk : blk < W.heap.size) (hap : a ≤ pivot) (hpb : pivot < b) (hb : b ≤ d.size) (hsz : d.size < 4611686018427387904) :
    Calls Tryz.prog 181 #[.agg #[.func (.func g) #[] lb, .func (.func sf) #[] sb], .int .i64 a, .int .i64 b, .int .i64 pivot] W fun e w' => e = .returned (.tuple #[.int .i64 (Sort.partition lt d a b pivot).1, .bool (Sort.partition lt d a b pivot).2.1]) ∧ ∃ n os, w' = sortWorld enc W blk off n (Sort.partition lt d a b pivot).2.2 os := Any.partition_func_w Tryz.laysGg33 enc lt g lb sf sb blk off a b pivot d W eg hless hswap hH hblk hap hpb hb hsz
open Go.RowKit Go.Lib Go.Sort in
theorem Tryz.pdqsort_func_all {α : Type} [Inhabited α] (enc : α → Value) (lt : α → α → Bool) (hO : SWO lt) (g : Nat) (lb : Array Value) (sf : Nat) (sb : Array Value) (eg : ∀ args w, (callFunc g args).run Tryz.prog w = .ok (.enter g args) w) :
    ∀ (N blk off a b limit : Nat) (d : Array α) (w : World), b - a < N → LessReads Tryz.prog g lb enc lt blk off d.size w → SwapSwaps Tryz.prog sf sb enc blk off d.size → Holds enc w blk off d → blk < w.heap.size → a ≤ b → b ≤ d.size → d.size < 4611686018427387904 → limit < 4611686018427387904 → Below lt a b d →
    Calls Tryz.prog 162 #[.agg #[.func (.func g) #[] lb, .func (.func sf) #[] sb], .int .i64 a, .int .i64 b, .int .i64 limit] w fun e w' => e = .returned (.tuple #[]) ∧ At enc w blk off (pdq lt d a b limit true true) w' := Any.pdqsort_func_all Tryz.laysGg14 enc lt hO g lb sf sb eg
def Tryz.laysGg36_ren : Go.Shelf.Ren := ⟨fun | 36 => 184 | n => n, fun | 66 => 230 | 51 => 78 | 0 => 0 | 60 => 225 | 41 => 166 | n => n, fun | n => n⟩
theorem Tryz.laysGg36 : Go.Proofs.LaysGg.n36 Tryz.prog Tryz.laysGg36_ren := {
  mixed := by kernel_rfl
  f36 := Tryz.func184.trans (congrArg some (by kernel_rfl))
  t0 := Tryz.underlying0
  a0 := Tryz.isAgg0
  z0 := Tryz.sizeOf0
  v0 := Tryz.zeroValue0
  i0 := by kernel_rfl
  t41 := Tryz.underlying166
  a41 := Tryz.isAgg166
  z41 := Tryz.sizeOf166
  v41 := Tryz.zeroValue166
  i41 := by kernel_rfl
  t51 := Tryz.underlying78
  a51 := Tryz.isAgg78
  z51 := Tryz.sizeOf78
  v51 := Tryz.zeroValue78
  i51 := by kernel_rfl
  t60 := Tryz.underlying225
  a60 := Tryz.isAgg225
  z60 := Tryz.sizeOf225
  v60 := Tryz.zeroValue225
  i60 := by kernel_rfl
  t66 := Tryz.underlying230
  a66 := Tryz.isAgg230
  z66 := Tryz.sizeOf230
  v66 := Tryz.zeroValue230
  i66 := by kernel_rfl }
open Go.RowKit Go.Lib Go.Sort in
/-- '*r ^= *r << 13; *r ^= *r >> 7; *r ^= *r << 17; return uint64(*r)': the cell holds 'xorNextN X' and that is handed back; three draws; nothing else turns. (LAID: no walk: one application.) -/
theorem Tryz.xorshift_Next (rb ro X : Nat) (hX : X < 18446744073709551616) (w : World) (hc : w.cell? ⟨rb, ro, none⟩ = some (.int .u64 X)) (hf : w.frozen? ⟨rb, ro, none⟩ = false) :
    Calls Tryz.prog 184 #[.pointer (some ⟨rb, ro, none⟩)] w fun e w' => e = .returned (.int .u64 (xorNextN X : Nat)) ∧ w' = (w.setCell ⟨rb, ro, none⟩ (.int .u64 (xorNextN X : Nat))).drewN 3 := Any.xorshift_Next Tryz.laysGg36 rb ro X hX w hc hf
def Tryz.laysGg35_ren : Go.Shelf.Ren := ⟨fun | 35 => 183 | 13 => 161 | 24 => 153 | 25 => 173 | n => n, fun | 3 => 3 | 41 => 166 | 49 => 61 | 51 => 78 | 4 => 4 | 5 => 5 | 9 => 9 | n => n, fun | n => n⟩
theorem Tryz.laysGg35 : Go.Proofs.LaysGg.n35 Tryz.prog Tryz.laysGg35_ren := {
  mixed := by kernel_rfl
  f13 := Tryz.func161.trans (congrArg some (by kernel_rfl))
  f24 := Tryz.func153.trans (congrArg some (by kernel_rfl))
  f25 := Tryz.func173.trans (congrArg some (by kernel_rfl))
  f35 := Tryz.func183.trans (congrArg some (by kernel_rfl))
  t3 := Tryz.underlying3
  a3 := Tryz.isAgg3
  z3 := Tryz.sizeOf3
  v3 := Tryz.zeroValue3
  i3 := by kernel_rfl
  t4 := Tryz.underlying4
  a4 := Tryz.isAgg4
  z4 := Tryz.sizeOf4
  v4 := Tryz.zeroValue4
  i4 := by kernel_rfl
  t5 := Tryz.underlying5
  a5 := Tryz.isAgg5
  z5 := Tryz.sizeOf5
  v5 := Tryz.zeroValue5
  i5 := by kernel_rfl
  t9 := Tryz.underlying9
  a9 := Tryz.isAgg9
  z9 := Tryz.sizeOf9
  v9 := Tryz.zeroValue9
  i9 := by kernel_rfl
  t41 := Tryz.underlying166
  a41 := Tryz.isAgg166
  z41 := Tryz.sizeOf166
  v41 := Tryz.zeroValue166
  i41 := by kernel_rfl
  t49 := Tryz.underlying61
  a49 := Tryz.isAgg61
  z49 := Tryz.sizeOf61
  v49 := Tryz.zeroValue61
  i49 := by kernel_rfl
  t51 := Tryz.underlying78
  a51 := Tryz.isAgg78
  z51 := Tryz.sizeOf78
  v51 := Tryz.zeroValue78
  i51 := by kernel_rfl }
open Go.RowKit Go.Lib Go.Sort in
/-- 'return 1 << bits.Len(uint(length))'. (LAID: no walk: one application.) -/
theorem Tryz.nextPowerOfTwo (n : Nat) (hn : n < 4611686018427387904) (w : World) :
    Calls Tryz.prog 183 #[.int .i64 n] w fun e w' => e = .returned (.int .u64 ((1 <<< bitsLen n : Nat) : Int)) ∧ w' = w := Any.nextPowerOfTwo Tryz.laysGg35 n hn w
def Tryz.laysGg34_ren : Go.Shelf.Ren := ⟨fun | 34 => 182 | n => n, fun | 44 => 211 | 3 => 3 | 0 => 0 | 4 => 4 | 26 => 197 | 37 => 206 | n => n, fun | n => n⟩
theorem Tryz.laysGg34 : Go.Proofs.LaysGg.n34 Tryz.prog Tryz.laysGg34_ren := {
  mixed := by kernel_rfl
  f34 := Tryz.func182.trans (congrArg some (by kernel_rfl))
  t0 := Tryz.underlying0
  a0 := Tryz.isAgg0
  z0 := Tryz.sizeOf0
  v0 := Tryz.zeroValue0
  i0 := by kernel_rfl
  t3 := Tryz.underlying3
  a3 := Tryz.isAgg3
  z3 := Tryz.sizeOf3
  v3 := Tryz.zeroValue3
  i3 := by kernel_rfl
  t4 := Tryz.underlying4
  a4 := Tryz.isAgg4
  z4 := Tryz.sizeOf4
  v4 := Tryz.zeroValue4
  i4 := by kernel_rfl
  t26 := Tryz.underlying197
  a26 := Tryz.isAgg197
  z26 := Tryz.sizeOf197
  v26 := Tryz.zeroValue197
  i26 := by kernel_rfl
  t37 := Tryz.underlying206
  a37 := Tryz.isAgg206
  z37 := Tryz.sizeOf206
  v37 := Tryz.zeroValue206
  i37 := by kernel_rfl
  t44 := Tryz.underlying211
  a44 := Tryz.isAgg211
  z44 := Tryz.sizeOf211
  v44 := Tryz.zeroValue211
  i44 := by kernel_rfl }
open Go.RowKit Go.Lib Go.Sort in
theorem Tryz.siftDown_func_one {α : Type} [Inhabited α] (enc : α → Value) (lt : α → α → Bool) (g : Nat) (lb : Array Value) (sf : Nat) (sb : Array Value) (blk off lo hi first : Nat) (d : Array α) (w : World) (eg : ∀ args w, (callFunc g args).run Tryz.prog w = .ok (.enter g args) w) (hless : LessReads Tryz.prog g lb enc lt blk off d.size w) (hswap : SwapSwaps Tryz.prog sf sb enc blk off d.size) (hH : Holds enc w blk off d) (hblk : blk < w.heap.size) (hlo : lo ≤ hi) (hb : first + hi ≤ d.size) (hsz : d.size < 4611686018427387904) :
    Calls Tryz.prog 182 #[.agg #[.func (.func g) #[] lb, .func (.func sf) #[] sb], .int .i64 lo, .int .i64 hi, .int .i64 first] w fun e w' =>
      e = .returned (.tuple #[]) ∧ ∃ n, w' = putRow enc (Sort.ahead (w.alloc (.cells #[.func (.func g) #[] lb, .func (.func sf) #[] sb] 211)) n) blk off (siftDown lt hi first lo d) := Any.siftDown_func_one Tryz.laysGg34 enc lt g lb sf sb blk off lo hi first d w eg hless hswap hH hblk hlo hb hsz
open Go.RowKit Go.Lib Go.Sort in
/-- sort.siftDown_func, from a world to a 'sortWorld' of it. (LAID: no walk: one application.) -/
theorem Tryz.siftDown_func_w {α : Type} [Inhabited α] (enc : α → Value) (lt : α → α → Bool) (g : Nat) (lb : Array Value) (sf : Nat) (sb : Array Value) (blk off lo hi first : Nat) (d : Array α) (w : World) (eg : ∀ args w, (callFunc g args).run Tryz.prog w = .ok (.enter g args) w) (hless : LessReads Tryz.prog g lb enc lt blk off d.size w) (hswap : SwapSwaps Tryz.prog sf sb enc blk off d.size) (hH : Holds enc w blk off d) (hblk : blk < w.heap.size) (hlo : lo ≤ hi) (hb : first + hi ≤ d.size) (hsz : d.size < 4611686018427387904) :
    Calls Tryz.prog 182 #[.agg #[.func (.func g) #[] lb, .func (.func sf) #[] sb], .int .i64 lo, .int .i64 hi, .int .i64 first] w fun e w' => e = .returned (.tuple #[]) ∧ ∃ n os, w' = sortWorld enc w blk off n (siftDown lt hi first lo d) os := Any.siftDown_func_w Tryz.laysGg34 enc lt g lb sf sb blk off lo hi first d w eg hless hswap hH hblk hlo hb hsz
def Tryz.laysGg27_ren : Go.Shelf.Ren := ⟨fun | 27 => 175 | 34 => 182 | n => n, fun | 44 => 211 | 3 => 3 | 0 => 0 | 4 => 4 | 37 => 206 | 26 => 197 | n => n, fun | n => n⟩
theorem Tryz.laysGg27 : Go.Proofs.LaysGg.n27 Tryz.prog Tryz.laysGg27_ren := {
  mixed := by kernel_rfl
  f27 := Tryz.func175.trans (congrArg some (by kernel_rfl))
  f34 := Tryz.func182.trans (congrArg some (by kernel_rfl))
  t0 := Tryz.underlying0
  a0 := Tryz.isAgg0
  z0 := Tryz.sizeOf0
  v0 := Tryz.zeroValue0
  i0 := by kernel_rfl
  t3 := Tryz.underlying3
  a3 := Tryz.isAgg3
  z3 := Tryz.sizeOf3
  v3 := Tryz.zeroValue3
  i3 := by kernel_rfl
  t4 := Tryz.underlying4
  a4 := Tryz.isAgg4
  z4 := Tryz.sizeOf4
  v4 := Tryz.zeroValue4
  i4 := by kernel_rfl
  t26 := Tryz.underlying197
  a26 := Tryz.isAgg197
  z26 := Tryz.sizeOf197
  v26 := Tryz.zeroValue197
  i26 := by kernel_rfl
  t37 := Tryz.underlying206
  a37 := Tryz.isAgg206
  z37 := Tryz.sizeOf206
  v37 := Tryz.zeroValue206
  i37 := by kernel_rfl
  t44 := Tryz.underlying211
  a44 := Tryz.isAgg211
  z44 := Tryz.sizeOf211
  v44 := Tryz.zeroValue211
  i44 := by kernel_rfl }
open Go.RowKit Go.Lib Go.Sort in
theorem Tryz.heapSort_func_w {α : Type} [Inhabited α] (enc : α → Value) (lt : α → α → Bool) (g : Nat) (lb : Array Value) (sf : Nat) (sb : Array Value) (blk off a b : Nat) (d : Array α) (w : World) (eg : ∀ args w, (callFunc g args).run Tryz.prog w = .ok (.enter g args) w) (hless : LessReads Tryz.prog g lb enc lt blk off d.size w) (hswap : SwapSwaps Tryz.prog sf sb enc blk off d.size) (hH : Holds enc w blk off d) (hblk : blk < w.heap.size) (hab : a ≤ b) (hb : b ≤ d.size) (hsz : d.size < 4611686018427387904) :
    Calls Tryz.prog 175 #[.agg #[.func (.func g) #[] lb, .func (.func sf) #[] sb], .int .i64 a, .int .i64 b] w fun e w' => e = .returned (.tuple #[]) ∧ ∃ n os, w' = sortWorld enc w blk off n (heapSort lt d a b) os := Any.heapSort_func_w Tryz.laysGg27 enc lt g lb sf sb blk off a b d w eg hless hswap hH hblk hab hb hsz
def Tryz.laysGg31_ren : Go.Shelf.Ren := ⟨fun | 31 => 179 | n => n, fun | 44 => 211 | 3 => 3 | 4 => 4 | 0 => 0 | 26 => 197 | 37 => 206 | n => n, fun | n => n⟩
theorem Tryz.laysGg31 : Go.Proofs.LaysGg.n31 Tryz.prog Tryz.laysGg31_ren := {
  mixed := by kernel_rfl
  f31 := Tryz.func179.trans (congrArg some (by kernel_rfl))
  t0 := Tryz.underlying0
  a0 := Tryz.isAgg0
  z0 := Tryz.sizeOf0
  v0 := Tryz.zeroValue0
  i0 := by kernel_rfl
  t3 := Tryz.underlying3
  a3 := Tryz.isAgg3
  z3 := Tryz.sizeOf3
  v3 := Tryz.zeroValue3
  i3 := by kernel_rfl
  t4 := Tryz.underlying4
  a4 := Tryz.isAgg4
  z4 := Tryz.sizeOf4
  v4 := Tryz.zeroValue4
  i4 := by kernel_rfl
  t26 := Tryz.underlying197
  a26 := Tryz.isAgg197
  z26 := Tryz.sizeOf197
  v26 := Tryz.zeroValue197
  i26 := by kernel_rfl
  t37 := Tryz.underlying206
  a37 := Tryz.isAgg206
  z37 := Tryz.sizeOf206
  v37 := Tryz.zeroValue206
  i37 := by kernel_rfl
  t44 := Tryz.underlying211
  a44 := Tryz.isAgg211
  z44 := Tryz.sizeOf211
  v44 := Tryz.zeroValue211
  i44 := by kernel_rfl }
open Go.RowKit Go.Lib Go.Sort in
theorem Tryz.partialInsertionSort_func_one {α : Type} [Inhabited α] (enc : α → Value) (lt : α → α → Bool) (g : Nat) (lb : Array Value) (sf : Nat) (sb : Array Value) (blk off a b : Nat) (d : Array α) (w : World) (eg : ∀ args w, (callFunc g args).run Tryz.prog w = .ok (.enter g args) w) (hless : LessReads Tryz.prog g lb enc lt blk off d.size w) (hswap : SwapSwaps Tryz.prog sf sb enc blk off d.size) (hH : Holds enc w blk off d) (hblk : blk < w.heap.size) (hab : a < b) (hb : b ≤ d.size) (hsz : d.size < 4611686018427387904) :
    Calls Tryz.prog 179 #[.agg #[.func (.func g) #[] lb, .func (.func sf) #[] sb], .int .i64 a, .int .i64 b] w fun e w' =>
      e = .returned (.bool (Sort.partialInsertionSort lt d a b).2) ∧ ∃ n, w' = putRow enc (Sort.ahead (w.alloc (.cells #[.func (.func g) #[] lb, .func (.func sf) #[] sb] 211)) n) blk off (Sort.partialInsertionSort lt d a b).1 := Any.partialInsertionSort_func_one Tryz.laysGg31 enc lt g lb sf sb blk off a b d w eg hless hswap hH hblk hab hb hsz
open Go.RowKit Go.Lib Go.Sort in
/-- sort.partialInsertionSort_func, from a world to a 'sortWorld' of it. (LAID: no walk: one application.) -/
theorem Tryz.partialInsertionSort_func_w {α : Type} [Inhabited α] (enc : α → Value) (lt : α → α → Bool) (g : Nat) (lb : Array Value) (sf : Nat) (sb : Array Value) (blk off a b : Nat) (d : Array α) (w : World) (eg : ∀ args w, (callFunc g args).run Tryz.prog w = .ok (.enter g args) w) (hless : LessReads Tryz.prog g lb enc lt blk off d.size w) (hswap : SwapSwaps Tryz.prog sf sb enc blk off d.size) (hH : Holds enc w blk off d) (hblk : blk < w.heap.size) (hab : a < b) (hb : b ≤ d.size) (hsz : d.size < 4611686018427387904) :
    Calls Tryz.prog 179 #[.agg #[.func (.func g) #[] lb, .func (.func sf) #[] sb], .int .i64 a, .int .i64 b] w fun e w' => e = .returned (.bool (Sort.partialInsertionSort lt d a b).2) ∧ ∃ n os, w' = sortWorld enc w blk off n (Sort.partialInsertionSort lt d a b).1 os := Any.partialInsertionSort_func_w Tryz.laysGg31 enc lt g lb sf sb blk off a b d w eg hless hswap hH hblk hab hb hsz
end Go.Proofs
