/-
  DERIVED: THE SHELF's CONTRACTS AT THIS DUMP, IN PLAIN WORDS (tools/lay-plain.mjs out of 'YteilihclebdocaaDoorShelf.lean', which tools/lay-shelf.mjs wrote): THE SAME DECLARATIONS UNDER THE SAME NAMES: 'import', 'namespace', 'open', 'def', 'theorem' AND NOTHING ELSE: no command of the shelf's: FOR A HAND-IN. Each laying: the table of numbers ('.._ren') and one theorem, a field a fact of the dump's own or the kernel's comparison; each contract: ONE APPLICATION.
-/
import Derived.Shelf.Small.Bits
import Derived.Shelf.Strconv.Itoa0
import Derived.Ground.MnProg
import Derived.Shelf.Bin.BEUint16
import Derived.Shelf.Bin.BEUint32
import Derived.Shelf.Bin.BEUint16Panics
import Derived.Shelf.Bin.BEUint32Panics
import Derived.Ground.GgsProg
import Derived.Shelf.GgSortFunc.Insertion
import Derived.Shelf.Bin.ReadersZ
import Derived.Shelf.GgSortFunc.Small
import Derived.Shelf.GgSortFunc.Tiny
import Derived.Shelf.GgSortFunc.Compose
import Derived.Shelf.GgSortFunc.LotD
import Derived.Shelf.GgSortFunc.Pivot
import Derived.Shelf.GgSortFunc.Partition
import Derived.Shelf.GgSortFunc.Pdq
import Derived.Shelf.GgSortFunc.Whole
import Derived.Shelf.SlSortFunc.Xorshift
import Derived.Shelf.SlSortFunc.SiftDown
import Derived.Shelf.SlSortFunc.HeapSort
import Derived.Shelf.SlSortFunc.PartialInsertion
import Derived.Test.YteilihclebdocaaDoorProg
namespace Go.Proofs
open Go.Shelf
def Tryd.lays128_ren : Go.Shelf.Ren := ⟨fun | 128 => 70 | n => n, fun | 51 => 60 | 3 => 3 | 4 => 4 | 46 => 86 | 5 => 5 | 9 => 9 | n => n, fun | n => n⟩
theorem Tryd.lays128 : Go.Proofs.Lays.n128 Tryd.prog Tryd.lays128_ren := {
  mixed := by kernel_rfl
  f128 := Tryd.func70.trans (congrArg some (by kernel_rfl))
  t3 := Tryd.underlying3
  a3 := Tryd.isAgg3
  z3 := Tryd.sizeOf3
  v3 := Tryd.zeroValue3
  t4 := Tryd.underlying4
  a4 := Tryd.isAgg4
  z4 := Tryd.sizeOf4
  v4 := Tryd.zeroValue4
  t5 := Tryd.underlying5
  a5 := Tryd.isAgg5
  z5 := Tryd.sizeOf5
  v5 := Tryd.zeroValue5
  t9 := Tryd.underlying9
  a9 := Tryd.isAgg9
  z9 := Tryd.sizeOf9
  v9 := Tryd.zeroValue9
  t46 := Tryd.underlying86
  a46 := Tryd.isAgg86
  z46 := Tryd.sizeOf86
  v46 := Tryd.zeroValue86
  t51 := Tryd.underlying60
  a51 := Tryd.isAgg60
  z51 := Tryd.sizeOf60
  v51 := Tryd.zeroValue60 }
/-- bits.Len32: "Len32 returns the minimum number of bits required to represent x; the result is 0 for x == 0.": IT RETURNS 'Lib.bitLen x'; the world is as it was. ('h0', 'h1': x is a uint32.) (LAID: no walk: one application.) -/
theorem Tryd.bits_Len32 (x : Int) (w : World) (h0 : 0 ≤ x) (h1 : x ≤ 4294967295) :
    Calls Tryd.prog 70 #[.int .u32 x] w fun e w' => e = .returned (.int .i64 (Lib.bitLen x.toNat)) ∧ w' = w := Any.bits_Len32 Tryd.lays128 x w h0 h1
def Tryd.lays125_ren : Go.Shelf.Ren := ⟨fun | 125 => 78 | 128 => 70 | 129 => 89 | n => n, fun | 46 => 86 | 3 => 3 | 51 => 60 | 53 => 120 | 4 => 4 | 5 => 5 | 9 => 9 | n => n, fun | n => n⟩
theorem Tryd.lays125 : Go.Proofs.Lays.n125 Tryd.prog Tryd.lays125_ren := {
  mixed := by kernel_rfl
  f125 := Tryd.func78.trans (congrArg some (by kernel_rfl))
  f128 := Tryd.func70.trans (congrArg some (by kernel_rfl))
  f129 := Tryd.func89.trans (congrArg some (by kernel_rfl))
  t3 := Tryd.underlying3
  a3 := Tryd.isAgg3
  z3 := Tryd.sizeOf3
  v3 := Tryd.zeroValue3
  t4 := Tryd.underlying4
  a4 := Tryd.isAgg4
  z4 := Tryd.sizeOf4
  v4 := Tryd.zeroValue4
  t5 := Tryd.underlying5
  a5 := Tryd.isAgg5
  z5 := Tryd.sizeOf5
  v5 := Tryd.zeroValue5
  t9 := Tryd.underlying9
  a9 := Tryd.isAgg9
  z9 := Tryd.sizeOf9
  v9 := Tryd.zeroValue9
  t46 := Tryd.underlying86
  a46 := Tryd.isAgg86
  z46 := Tryd.sizeOf86
  v46 := Tryd.zeroValue86
  t51 := Tryd.underlying60
  a51 := Tryd.isAgg60
  z51 := Tryd.sizeOf60
  v51 := Tryd.zeroValue60
  t53 := Tryd.underlying120
  a53 := Tryd.isAgg120
  z53 := Tryd.sizeOf120
  v53 := Tryd.zeroValue120 }
/-- bits.Len: "Len returns the minimum number of bits required to represent x; the result is 0 for x == 0.": IT RETURNS 'Lib.bitLen x'; the world is as it was. (A uint has 64 bits in the model.) ITS CALLEE bits.Len64 IS MET BY ITS OWN CONTRACT OFF THE SHELF (lay that first). (LAID: no walk: one application.) -/
theorem Tryd.bits_Len (x : Int) (w : World) (h0 : 0 ≤ x) (h1 : x ≤ 18446744073709551615) :
    Calls Tryd.prog 78 #[.int .u64 x] w fun e w' => e = .returned (.int .i64 (Lib.bitLen x.toNat)) ∧ w' = w := Any.bits_Len Tryd.lays125 x w h0 h1
def Tryd.lays129_ren : Go.Shelf.Ren := ⟨fun | 129 => 89 | n => n, fun | 53 => 120 | 3 => 3 | 4 => 4 | 46 => 86 | 5 => 5 | 9 => 9 | n => n, fun | n => n⟩
theorem Tryd.lays129 : Go.Proofs.Lays.n129 Tryd.prog Tryd.lays129_ren := {
  mixed := by kernel_rfl
  f129 := Tryd.func89.trans (congrArg some (by kernel_rfl))
  t3 := Tryd.underlying3
  a3 := Tryd.isAgg3
  z3 := Tryd.sizeOf3
  v3 := Tryd.zeroValue3
  t4 := Tryd.underlying4
  a4 := Tryd.isAgg4
  z4 := Tryd.sizeOf4
  v4 := Tryd.zeroValue4
  t5 := Tryd.underlying5
  a5 := Tryd.isAgg5
  z5 := Tryd.sizeOf5
  v5 := Tryd.zeroValue5
  t9 := Tryd.underlying9
  a9 := Tryd.isAgg9
  z9 := Tryd.sizeOf9
  v9 := Tryd.zeroValue9
  t46 := Tryd.underlying86
  a46 := Tryd.isAgg86
  z46 := Tryd.sizeOf86
  v46 := Tryd.zeroValue86
  t53 := Tryd.underlying120
  a53 := Tryd.isAgg120
  z53 := Tryd.sizeOf120
  v53 := Tryd.zeroValue120 }
/-- bits.Len64: "Len64 returns the minimum number of bits required to represent x; the result is 0 for x == 0.": IT RETURNS 'Lib.bitLen x'; the world is as it was. ('h0', 'h1': x is a uint64.) (LAID: no walk: one application.) -/
theorem Tryd.bits_Len64 (x : Int) (w : World) (h0 : 0 ≤ x) (h1 : x ≤ 18446744073709551615) :
    Calls Tryd.prog 89 #[.int .u64 x] w fun e w' => e = .returned (.int .i64 (Lib.bitLen x.toNat)) ∧ w' = w := Any.bits_Len64 Tryd.lays129 x w h0 h1
def Tryd.laysBin36_ren : Go.Shelf.Ren := ⟨fun | 36 => 73 | n => n, fun | 37 => 97 | 22 => 22 | 23 => 71 | 0 => 0 | 5 => 5 | 45 => 86 | n => n, fun | n => n⟩
theorem Tryd.laysBin36 : Go.Proofs.LaysBin.n36 Tryd.prog Tryd.laysBin36_ren := {
  mixed := by kernel_rfl
  f36 := Tryd.func73.trans (congrArg some (by kernel_rfl))
  t0 := Tryd.underlying0
  a0 := Tryd.isAgg0
  z0 := Tryd.sizeOf0
  v0 := Tryd.zeroValue0
  i0 := by kernel_rfl
  t5 := Tryd.underlying5
  a5 := Tryd.isAgg5
  z5 := Tryd.sizeOf5
  v5 := Tryd.zeroValue5
  i5 := by kernel_rfl
  t22 := Tryd.underlying22
  a22 := Tryd.isAgg22
  z22 := Tryd.sizeOf22
  v22 := Tryd.zeroValue22
  i22 := by kernel_rfl
  t23 := Tryd.underlying71
  a23 := Tryd.isAgg71
  z23 := Tryd.sizeOf71
  v23 := Tryd.zeroValue71
  i23 := by kernel_rfl
  t37 := Tryd.underlying97
  a37 := Tryd.isAgg97
  z37 := Tryd.sizeOf97
  v37 := Tryd.zeroValue97
  i37 := by kernel_rfl
  t45 := Tryd.underlying86
  a45 := Tryd.isAgg86
  z45 := Tryd.sizeOf86
  v45 := Tryd.zeroValue86
  i45 := by kernel_rfl }
open Go.RowKit in
/-- binary.BigEndian.Uint16: "Uint16 returns the uint16 representation of b[0:2].": THE NUMBER THAT THE FIRST 2 BYTES SPELL, the greatest byte first ('Lib.beNat'). Of what was there nothing has turned (the receiver, an empty struct, is laid in a new block without cells; the statement's order is drawn). (LAID: no walk: one application.) -/
theorem Tryd.binary_BE_Uint16 (g o n c : Nat) (b0 b1 : UInt8) (w : World) (hn : 2 ≤ n) (c0 : w.cell? ⟨g, o, none⟩ = some (.int .u8 b0.toNat)) (c1 : w.cell? ⟨g, o + 1, none⟩ = some (.int .u8 b1.toNat)) :
    Calls Tryd.prog 73 #[.agg #[], .slice (some ⟨g, o, none⟩) n c] w fun e w' => e = .returned (.int .u16 (Lib.beNat [b0, b1])) ∧ Below w.heap.size w w' := Any.binary_BE_Uint16 Tryd.laysBin36 g o n c b0 b1 w hn c0 c1
def Tryd.laysBin39_ren : Go.Shelf.Ren := ⟨fun | 39 => 68 | n => n, fun | 37 => 97 | 22 => 22 | 29 => 60 | 0 => 0 | 5 => 5 | 45 => 86 | n => n, fun | n => n⟩
theorem Tryd.laysBin39 : Go.Proofs.LaysBin.n39 Tryd.prog Tryd.laysBin39_ren := {
  mixed := by kernel_rfl
  f39 := Tryd.func68.trans (congrArg some (by kernel_rfl))
  t0 := Tryd.underlying0
  a0 := Tryd.isAgg0
  z0 := Tryd.sizeOf0
  v0 := Tryd.zeroValue0
  i0 := by kernel_rfl
  t5 := Tryd.underlying5
  a5 := Tryd.isAgg5
  z5 := Tryd.sizeOf5
  v5 := Tryd.zeroValue5
  i5 := by kernel_rfl
  t22 := Tryd.underlying22
  a22 := Tryd.isAgg22
  z22 := Tryd.sizeOf22
  v22 := Tryd.zeroValue22
  i22 := by kernel_rfl
  t29 := Tryd.underlying60
  a29 := Tryd.isAgg60
  z29 := Tryd.sizeOf60
  v29 := Tryd.zeroValue60
  i29 := by kernel_rfl
  t37 := Tryd.underlying97
  a37 := Tryd.isAgg97
  z37 := Tryd.sizeOf97
  v37 := Tryd.zeroValue97
  i37 := by kernel_rfl
  t45 := Tryd.underlying86
  a45 := Tryd.isAgg86
  z45 := Tryd.sizeOf86
  v45 := Tryd.zeroValue86
  i45 := by kernel_rfl }
open Go.RowKit in
/-- binary.BigEndian.Uint32: "Uint32 returns the uint32 representation of b[0:4].": THE NUMBER THAT THE FIRST 4 BYTES SPELL, the greatest byte first ('Lib.beNat'). Of what was there nothing has turned (the receiver, an empty struct, is laid in a new block without cells; the statement's order is drawn). (LAID: no walk: one application.) -/
theorem Tryd.binary_BE_Uint32 (g o n c : Nat) (b0 b1 b2 b3 : UInt8) (w : World) (hn : 4 ≤ n) (c0 : w.cell? ⟨g, o, none⟩ = some (.int .u8 b0.toNat)) (c1 : w.cell? ⟨g, o + 1, none⟩ = some (.int .u8 b1.toNat)) (c2 : w.cell? ⟨g, o + 2, none⟩ = some (.int .u8 b2.toNat)) (c3 : w.cell? ⟨g, o + 3, none⟩ = some (.int .u8 b3.toNat)) :
    Calls Tryd.prog 68 #[.agg #[], .slice (some ⟨g, o, none⟩) n c] w fun e w' => e = .returned (.int .u32 (Lib.beNat [b0, b1, b2, b3])) ∧ Below w.heap.size w w' := Any.binary_BE_Uint32 Tryd.laysBin39 g o n c b0 b1 b2 b3 w hn c0 c1 c2 c3
open Go.RowKit in
/-- binary.BigEndian.Uint16, b SHORTER THAN 2: IT PANICS: Go's 'runtime error: index out of range [1] with length n' ('Lib.boundsPanicked'). THE WORLD: the receiver's new block without cells, and the draw of the panic's flag. (LAID: no walk: one application.) -/
theorem Tryd.binary_BE_Uint16_panics (ao : Option Addr) (n c : Nat) (w : World) (hn : n < 2) (hnil : ao = none → n = 0) :
    Calls Tryd.prog 73 #[.agg #[], .slice ao n c] w fun e w' => Lib.boundsPanicked Tryd.prog 1 n e ∧ w' = (w.alloc (.cells #[] 97)).drew := Any.binary_BE_Uint16_panics Tryd.laysBin36 ao n c w hn hnil
open Go.RowKit in
/-- binary.BigEndian.Uint32, b SHORTER THAN 4: IT PANICS: Go's 'runtime error: index out of range [3] with length n' ('Lib.boundsPanicked'). THE WORLD: the receiver's new block without cells, and the draw of the panic's flag. (LAID: no walk: one application.) -/
theorem Tryd.binary_BE_Uint32_panics (ao : Option Addr) (n c : Nat) (w : World) (hn : n < 4) (hnil : ao = none → n = 0) :
    Calls Tryd.prog 68 #[.agg #[], .slice ao n c] w fun e w' => Lib.boundsPanicked Tryd.prog 3 n e ∧ w' = (w.alloc (.cells #[] 97)).drew := Any.binary_BE_Uint32_panics Tryd.laysBin39 ao n c w hn hnil
def Tryd.laysGg26_ren : Go.Shelf.Ren := ⟨fun | 26 => 90 | n => n, fun | 44 => 115 | 3 => 3 | 0 => 0 | 4 => 4 | 26 => 101 | 37 => 110 | n => n, fun | n => n⟩
theorem Tryd.laysGg26 : Go.Proofs.LaysGg.n26 Tryd.prog Tryd.laysGg26_ren := {
  mixed := by kernel_rfl
  f26 := Tryd.func90.trans (congrArg some (by kernel_rfl))
  t0 := Tryd.underlying0
  a0 := Tryd.isAgg0
  z0 := Tryd.sizeOf0
  v0 := Tryd.zeroValue0
  i0 := by kernel_rfl
  t3 := Tryd.underlying3
  a3 := Tryd.isAgg3
  z3 := Tryd.sizeOf3
  v3 := Tryd.zeroValue3
  i3 := by kernel_rfl
  t4 := Tryd.underlying4
  a4 := Tryd.isAgg4
  z4 := Tryd.sizeOf4
  v4 := Tryd.zeroValue4
  i4 := by kernel_rfl
  t26 := Tryd.underlying101
  a26 := Tryd.isAgg101
  z26 := Tryd.sizeOf101
  v26 := Tryd.zeroValue101
  i26 := by kernel_rfl
  t37 := Tryd.underlying110
  a37 := Tryd.isAgg110
  z37 := Tryd.sizeOf110
  v37 := Tryd.zeroValue110
  i37 := by kernel_rfl
  t44 := Tryd.underlying115
  a44 := Tryd.isAgg115
  z44 := Tryd.sizeOf115
  v44 := Tryd.zeroValue115
  i44 := by kernel_rfl }
open Go.RowKit Go.Lib Go.Sort in
theorem Tryd.insertionSort_func_one {α : Type} [Inhabited α] (enc : α → Value) (lt : α → α → Bool) (g : Nat) (lb : Array Value) (sf : Nat) (sb : Array Value) (blk off a b : Nat) (d : Array α) (w : World) (eg : ∀ args w, (callFunc g args).run Tryd.prog w = .ok (.enter g args) w) (hless : LessReads Tryd.prog g lb enc lt blk off d.size w) (hswap : SwapSwaps Tryd.prog sf sb enc blk off d.size) (hH : Holds enc w blk off d) (hblk : blk < w.heap.size) (hab : a ≤ b) (hb : b ≤ d.size) (hsz : d.size < 4611686018427387904) :
    Calls Tryd.prog 90 #[.agg #[.func (.func g) #[] lb, .func (.func sf) #[] sb], .int .i64 a, .int .i64 b] w fun e w' =>
      e = .returned (.tuple #[]) ∧ ∃ n, w' = putRow enc (Sort.ahead (w.alloc (.cells #[.func (.func g) #[] lb, .func (.func sf) #[] sb] 115)) n) blk off (Sort.insertionSort lt d a b) := Any.insertionSort_func_one Tryd.laysGg26 enc lt g lb sf sb blk off a b d w eg hless hswap hH hblk hab hb hsz
open Go.RowKit in
/-- binary.BigEndian.Uint16, ITS PREMISES 'open_ints'' CONCLUSION TO THE LETTER: a slice at WHATEVER address a, the numbers zs that its cells hold: THE NUMBER THAT THE FIRST 2 SPELL ('Lib.beZ'). (LAID: no walk: one application.) -/
theorem Tryd.binary_BE_Uint16_z (a : Addr) (n c : Nat) (zs : List Int) (w : World) (hn : 2 ≤ n) (hl : 2 ≤ zs.length) (hcell : ∀ i, i < zs.length → w.cell? (a.add i) = some (.int .u8 (zs.getD i 0))) (hw : ∀ z ∈ zs, (Lit.int .u8 z).wf = true) :
    Calls Tryd.prog 73 #[.agg #[], .slice (some a) n c] w fun e w' => e = .returned (.int .u16 (Lib.beZ (zs.take 2))) ∧ Below w.heap.size w w' := Any.binary_BE_Uint16_z Tryd.laysBin36 a n c zs w hn hl hcell hw
open Go.RowKit in
/-- binary.BigEndian.Uint32, ITS PREMISES 'open_ints'' CONCLUSION TO THE LETTER: a slice at WHATEVER address a, the numbers zs that its cells hold: THE NUMBER THAT THE FIRST 4 SPELL ('Lib.beZ'). (LAID: no walk: one application.) -/
theorem Tryd.binary_BE_Uint32_z (a : Addr) (n c : Nat) (zs : List Int) (w : World) (hn : 4 ≤ n) (hl : 4 ≤ zs.length) (hcell : ∀ i, i < zs.length → w.cell? (a.add i) = some (.int .u8 (zs.getD i 0))) (hw : ∀ z ∈ zs, (Lit.int .u8 z).wf = true) :
    Calls Tryd.prog 68 #[.agg #[], .slice (some a) n c] w fun e w' => e = .returned (.int .u32 (Lib.beZ (zs.take 4))) ∧ Below w.heap.size w w' := Any.binary_BE_Uint32_z Tryd.laysBin39 a n c zs w hn hl hcell hw
def Tryd.laysGg14_ren : Go.Shelf.Ren := ⟨fun | 14 => 79 | 26 => 90 | 27 => 91 | 28 => 92 | 29 => 93 | 30 => 94 | 31 => 95 | 32 => 96 | 33 => 97 | 34 => 98 | 35 => 99 | 36 => 100 | 37 => 101 | 38 => 102 | 13 => 78 | 39 => 103 | 24 => 70 | 25 => 89 | n => n, fun | 44 => 115 | 3 => 3 | 0 => 0 | 4 => 4 | 54 => 123 | 53 => 122 | 26 => 101 | 58 => 127 | 37 => 110 | 60 => 129 | 41 => 86 | 51 => 120 | 64 => 133 | 66 => 135 | 67 => 136 | 49 => 60 | 5 => 5 | 9 => 9 | n => n, fun | n => n⟩
theorem Tryd.laysGg14 : Go.Proofs.LaysGg.n14 Tryd.prog Tryd.laysGg14_ren := {
  mixed := by kernel_rfl
  f13 := Tryd.func78.trans (congrArg some (by kernel_rfl))
  f14 := Tryd.func79.trans (congrArg some (by kernel_rfl))
  f24 := Tryd.func70.trans (congrArg some (by kernel_rfl))
  f25 := Tryd.func89.trans (congrArg some (by kernel_rfl))
  f26 := Tryd.func90.trans (congrArg some (by kernel_rfl))
  f27 := Tryd.func91.trans (congrArg some (by kernel_rfl))
  f28 := Tryd.func92.trans (congrArg some (by kernel_rfl))
  f29 := Tryd.func93.trans (congrArg some (by kernel_rfl))
  f30 := Tryd.func94.trans (congrArg some (by kernel_rfl))
  f31 := Tryd.func95.trans (congrArg some (by kernel_rfl))
  f32 := Tryd.func96.trans (congrArg some (by kernel_rfl))
  f33 := Tryd.func97.trans (congrArg some (by kernel_rfl))
  f34 := Tryd.func98.trans (congrArg some (by kernel_rfl))
  f35 := Tryd.func99.trans (congrArg some (by kernel_rfl))
  f36 := Tryd.func100.trans (congrArg some (by kernel_rfl))
  f37 := Tryd.func101.trans (congrArg some (by kernel_rfl))
  f38 := Tryd.func102.trans (congrArg some (by kernel_rfl))
  f39 := Tryd.func103.trans (congrArg some (by kernel_rfl))
  t0 := Tryd.underlying0
  a0 := Tryd.isAgg0
  z0 := Tryd.sizeOf0
  v0 := Tryd.zeroValue0
  i0 := by kernel_rfl
  t3 := Tryd.underlying3
  a3 := Tryd.isAgg3
  z3 := Tryd.sizeOf3
  v3 := Tryd.zeroValue3
  i3 := by kernel_rfl
  t4 := Tryd.underlying4
  a4 := Tryd.isAgg4
  z4 := Tryd.sizeOf4
  v4 := Tryd.zeroValue4
  i4 := by kernel_rfl
  t5 := Tryd.underlying5
  a5 := Tryd.isAgg5
  z5 := Tryd.sizeOf5
  v5 := Tryd.zeroValue5
  i5 := by kernel_rfl
  t9 := Tryd.underlying9
  a9 := Tryd.isAgg9
  z9 := Tryd.sizeOf9
  v9 := Tryd.zeroValue9
  i9 := by kernel_rfl
  t26 := Tryd.underlying101
  a26 := Tryd.isAgg101
  z26 := Tryd.sizeOf101
  v26 := Tryd.zeroValue101
  i26 := by kernel_rfl
  t37 := Tryd.underlying110
  a37 := Tryd.isAgg110
  z37 := Tryd.sizeOf110
  v37 := Tryd.zeroValue110
  i37 := by kernel_rfl
  t41 := Tryd.underlying86
  a41 := Tryd.isAgg86
  z41 := Tryd.sizeOf86
  v41 := Tryd.zeroValue86
  i41 := by kernel_rfl
  t44 := Tryd.underlying115
  a44 := Tryd.isAgg115
  z44 := Tryd.sizeOf115
  v44 := Tryd.zeroValue115
  i44 := by kernel_rfl
  t49 := Tryd.underlying60
  a49 := Tryd.isAgg60
  z49 := Tryd.sizeOf60
  v49 := Tryd.zeroValue60
  i49 := by kernel_rfl
  t51 := Tryd.underlying120
  a51 := Tryd.isAgg120
  z51 := Tryd.sizeOf120
  v51 := Tryd.zeroValue120
  i51 := by kernel_rfl
  t53 := Tryd.underlying122
  a53 := Tryd.isAgg122
  z53 := Tryd.sizeOf122
  v53 := Tryd.zeroValue122
  i53 := by kernel_rfl
  t54 := Tryd.underlying123
  a54 := Tryd.isAgg123
  z54 := Tryd.sizeOf123
  v54 := Tryd.zeroValue123
  i54 := by kernel_rfl
  t58 := Tryd.underlying127
  a58 := Tryd.isAgg127
  z58 := Tryd.sizeOf127
  v58 := Tryd.zeroValue127
  i58 := by kernel_rfl
  t60 := Tryd.underlying129
  a60 := Tryd.isAgg129
  z60 := Tryd.sizeOf129
  v60 := Tryd.zeroValue129
  i60 := by kernel_rfl
  t64 := Tryd.underlying133
  a64 := Tryd.isAgg133
  z64 := Tryd.sizeOf133
  v64 := Tryd.zeroValue133
  i64 := by kernel_rfl
  t66 := Tryd.underlying135
  a66 := Tryd.isAgg135
  z66 := Tryd.sizeOf135
  v66 := Tryd.zeroValue135
  i66 := by kernel_rfl
  t67 := Tryd.underlying136
  a67 := Tryd.isAgg136
  z67 := Tryd.sizeOf136
  v67 := Tryd.zeroValue136
  i67 := by kernel_rfl }
open Go.RowKit Go.Lib Go.Sort in
/-- sort.pdqsort_func AT A RANGE OF AT MOST 12. (LAID: no walk: one application.) -/
theorem Tryd.pdqsort_func_small {α : Type} [Inhabited α] (enc : α → Value) (lt : α → α → Bool) (g : Nat) (lb : Array Value) (sf : Nat) (sb : Array Value) (blk off a b : Nat) (lim : Int) (d : Array α) (w : World) (eg : ∀ args w, (callFunc g args).run Tryd.prog w = .ok (.enter g args) w) (hless : LessReads Tryd.prog g lb enc lt blk off d.size w) (hswap : SwapSwaps Tryd.prog sf sb enc blk off d.size) (hH : Holds enc w blk off d) (hblk : blk < w.heap.size) (hab : a ≤ b) (hb : b ≤ d.size) (hsz : d.size < 4611686018427387904) (h12 : b - a ≤ 12) :
    Calls Tryd.prog 79 #[.agg #[.func (.func g) #[] lb, .func (.func sf) #[] sb], .int .i64 a, .int .i64 b, .int .i64 lim] w fun e w' =>
      e = .returned (.tuple #[]) ∧ ∃ n, w' = putRow enc (Sort.ahead ((w.alloc (.cells #[.func (.func g) #[] lb, .func (.func sf) #[] sb] 115)).alloc (.cells #[.func (.func g) #[] lb, .func (.func sf) #[] sb] 115)) n) blk off (Sort.insertionSort lt d a b) := Any.pdqsort_func_small Tryd.laysGg14 enc lt g lb sf sb blk off a b lim d w eg hless hswap hH hblk hab hb hsz h12
def Tryd.laysGg6_ren : Go.Shelf.Ren := ⟨fun | 6 => 71 | 10 => 75 | 11 => 76 | 12 => 77 | 13 => 78 | 14 => 79 | 24 => 70 | 25 => 89 | 26 => 90 | 27 => 91 | 28 => 92 | 29 => 93 | 30 => 94 | 31 => 95 | 32 => 96 | 33 => 97 | 34 => 98 | 35 => 99 | 36 => 100 | 37 => 101 | 38 => 102 | 39 => 103 | n => n, fun | 20 => 20 | 26 => 101 | 35 => 108 | 0 => 0 | 37 => 110 | 3 => 3 | 41 => 86 | 44 => 115 | 49 => 60 | 51 => 120 | 4 => 4 | 54 => 123 | 53 => 122 | 58 => 127 | 5 => 5 | 9 => 9 | 60 => 129 | 64 => 133 | 66 => 135 | 67 => 136 | 17 => 17 | 32 => 105 | 33 => 106 | 82 => 151 | 12 => 12 | 75 => 144 | 76 => 145 | 77 => 146 | 78 => 147 | 79 => 148 | 80 => 149 | n => n, fun | n => n⟩
theorem Tryd.laysGg6 : Go.Proofs.LaysGg.n6 Tryd.prog Tryd.laysGg6_ren := {
  mixed := by kernel_rfl
  f6 := Tryd.func71.trans (congrArg some (by kernel_rfl))
  f10 := Tryd.func75.trans (congrArg some (by kernel_rfl))
  f11 := Tryd.func76.trans (congrArg some (by kernel_rfl))
  f12 := Tryd.func77.trans (congrArg some (by kernel_rfl))
  f13 := Tryd.func78.trans (congrArg some (by kernel_rfl))
  f14 := Tryd.func79.trans (congrArg some (by kernel_rfl))
  f24 := Tryd.func70.trans (congrArg some (by kernel_rfl))
  f25 := Tryd.func89.trans (congrArg some (by kernel_rfl))
  f26 := Tryd.func90.trans (congrArg some (by kernel_rfl))
  f27 := Tryd.func91.trans (congrArg some (by kernel_rfl))
  f28 := Tryd.func92.trans (congrArg some (by kernel_rfl))
  f29 := Tryd.func93.trans (congrArg some (by kernel_rfl))
  f30 := Tryd.func94.trans (congrArg some (by kernel_rfl))
  f31 := Tryd.func95.trans (congrArg some (by kernel_rfl))
  f32 := Tryd.func96.trans (congrArg some (by kernel_rfl))
  f33 := Tryd.func97.trans (congrArg some (by kernel_rfl))
  f34 := Tryd.func98.trans (congrArg some (by kernel_rfl))
  f35 := Tryd.func99.trans (congrArg some (by kernel_rfl))
  f36 := Tryd.func100.trans (congrArg some (by kernel_rfl))
  f37 := Tryd.func101.trans (congrArg some (by kernel_rfl))
  f38 := Tryd.func102.trans (congrArg some (by kernel_rfl))
  f39 := Tryd.func103.trans (congrArg some (by kernel_rfl))
  t0 := Tryd.underlying0
  a0 := Tryd.isAgg0
  z0 := Tryd.sizeOf0
  v0 := Tryd.zeroValue0
  i0 := by kernel_rfl
  t3 := Tryd.underlying3
  a3 := Tryd.isAgg3
  z3 := Tryd.sizeOf3
  v3 := Tryd.zeroValue3
  i3 := by kernel_rfl
  t4 := Tryd.underlying4
  a4 := Tryd.isAgg4
  z4 := Tryd.sizeOf4
  v4 := Tryd.zeroValue4
  i4 := by kernel_rfl
  t5 := Tryd.underlying5
  a5 := Tryd.isAgg5
  z5 := Tryd.sizeOf5
  v5 := Tryd.zeroValue5
  i5 := by kernel_rfl
  t9 := Tryd.underlying9
  a9 := Tryd.isAgg9
  z9 := Tryd.sizeOf9
  v9 := Tryd.zeroValue9
  i9 := by kernel_rfl
  t12 := Tryd.underlying12
  a12 := Tryd.isAgg12
  z12 := Tryd.sizeOf12
  v12 := Tryd.zeroValue12
  i12 := by kernel_rfl
  t17 := Tryd.underlying17
  a17 := Tryd.isAgg17
  z17 := Tryd.sizeOf17
  v17 := Tryd.zeroValue17
  i17 := by kernel_rfl
  t20 := Tryd.underlying20
  a20 := Tryd.isAgg20
  z20 := Tryd.sizeOf20
  v20 := Tryd.zeroValue20
  i20 := by kernel_rfl
  t26 := Tryd.underlying101
  a26 := Tryd.isAgg101
  z26 := Tryd.sizeOf101
  v26 := Tryd.zeroValue101
  i26 := by kernel_rfl
  t32 := Tryd.underlying105
  a32 := Tryd.isAgg105
  z32 := Tryd.sizeOf105
  v32 := Tryd.zeroValue105
  i32 := by kernel_rfl
  t33 := Tryd.underlying106
  a33 := Tryd.isAgg106
  z33 := Tryd.sizeOf106
  v33 := Tryd.zeroValue106
  i33 := by kernel_rfl
  t35 := Tryd.underlying108
  a35 := Tryd.isAgg108
  z35 := Tryd.sizeOf108
  v35 := Tryd.zeroValue108
  i35 := by kernel_rfl
  t37 := Tryd.underlying110
  a37 := Tryd.isAgg110
  z37 := Tryd.sizeOf110
  v37 := Tryd.zeroValue110
  i37 := by kernel_rfl
  t41 := Tryd.underlying86
  a41 := Tryd.isAgg86
  z41 := Tryd.sizeOf86
  v41 := Tryd.zeroValue86
  i41 := by kernel_rfl
  t44 := Tryd.underlying115
  a44 := Tryd.isAgg115
  z44 := Tryd.sizeOf115
  v44 := Tryd.zeroValue115
  i44 := by kernel_rfl
  t49 := Tryd.underlying60
  a49 := Tryd.isAgg60
  z49 := Tryd.sizeOf60
  v49 := Tryd.zeroValue60
  i49 := by kernel_rfl
  t51 := Tryd.underlying120
  a51 := Tryd.isAgg120
  z51 := Tryd.sizeOf120
  v51 := Tryd.zeroValue120
  i51 := by kernel_rfl
  t53 := Tryd.underlying122
  a53 := Tryd.isAgg122
  z53 := Tryd.sizeOf122
  v53 := Tryd.zeroValue122
  i53 := by kernel_rfl
  t54 := Tryd.underlying123
  a54 := Tryd.isAgg123
  z54 := Tryd.sizeOf123
  v54 := Tryd.zeroValue123
  i54 := by kernel_rfl
  t58 := Tryd.underlying127
  a58 := Tryd.isAgg127
  z58 := Tryd.sizeOf127
  v58 := Tryd.zeroValue127
  i58 := by kernel_rfl
  t60 := Tryd.underlying129
  a60 := Tryd.isAgg129
  z60 := Tryd.sizeOf129
  v60 := Tryd.zeroValue129
  i60 := by kernel_rfl
  t64 := Tryd.underlying133
  a64 := Tryd.isAgg133
  z64 := Tryd.sizeOf133
  v64 := Tryd.zeroValue133
  i64 := by kernel_rfl
  t66 := Tryd.underlying135
  a66 := Tryd.isAgg135
  z66 := Tryd.sizeOf135
  v66 := Tryd.zeroValue135
  i66 := by kernel_rfl
  t67 := Tryd.underlying136
  a67 := Tryd.isAgg136
  z67 := Tryd.sizeOf136
  v67 := Tryd.zeroValue136
  i67 := by kernel_rfl
  t75 := Tryd.underlying144
  a75 := Tryd.isAgg144
  z75 := Tryd.sizeOf144
  v75 := Tryd.zeroValue144
  i75 := by kernel_rfl
  t76 := Tryd.underlying145
  a76 := Tryd.isAgg145
  z76 := Tryd.sizeOf145
  v76 := Tryd.zeroValue145
  i76 := by kernel_rfl
  t77 := Tryd.underlying146
  a77 := Tryd.isAgg146
  z77 := Tryd.sizeOf146
  v77 := Tryd.zeroValue146
  i77 := by kernel_rfl
  t78 := Tryd.underlying147
  a78 := Tryd.isAgg147
  z78 := Tryd.sizeOf147
  v78 := Tryd.zeroValue147
  i78 := by kernel_rfl
  t79 := Tryd.underlying148
  a79 := Tryd.isAgg148
  z79 := Tryd.sizeOf148
  v79 := Tryd.zeroValue148
  i79 := by kernel_rfl
  t80 := Tryd.underlying149
  a80 := Tryd.isAgg149
  z80 := Tryd.sizeOf149
  v80 := Tryd.zeroValue149
  i80 := by kernel_rfl
  t82 := Tryd.underlying151
  a82 := Tryd.isAgg151
  z82 := Tryd.sizeOf151
  v82 := Tryd.zeroValue151
  i82 := by kernel_rfl }
open Go.RowKit Go.Lib Go.Sort in
theorem Tryd.insertionSort_func_none (lf : Fn) (la lb : Array Value) (f : Nat) (sb : Array Value) (a b : Nat) (h : b ≤ a + 1) (ha : a < 4611686018427387904) (w : World) :
    Calls Tryd.prog 90 #[.agg #[.func lf la lb, .func (.func f) #[] sb], .int .i64 a, .int .i64 b] w fun e w' => e = .returned (.tuple #[]) ∧ w' = w.alloc (.cells #[.func lf la lb, .func (.func f) #[] sb] 115) := Any.insertionSort_func_none Tryd.laysGg26 lf la lb f sb a b h ha w
open Go.RowKit Go.Lib Go.Sort in
theorem Tryd.pdqsort_func_tiny (lf : Fn) (la lb : Array Value) (f : Nat) (sb : Array Value) (n : Nat) (h : n ≤ 1) (lim : Int) (w : World) :
    Calls Tryd.prog 79 #[.agg #[.func lf la lb, .func (.func f) #[] sb], .int .i64 0, .int .i64 n, .int .i64 lim] w fun e w' => e = .returned (.tuple #[]) ∧ w' = (w.alloc (.cells #[.func lf la lb, .func (.func f) #[] sb] 115)).alloc (.cells #[.func lf la lb, .func (.func f) #[] sb] 115) := Any.pdqsort_func_tiny Tryd.laysGg14 lf la lb f sb n h lim w
open Go.RowKit Go.Lib Go.Sort in
/-- sort.insertionSort_func, from a world to a 'sortWorld' of it. (LAID: no walk: one application.) -/
theorem Tryd.insertionSort_func_w {α : Type} [Inhabited α] (enc : α → Value) (lt : α → α → Bool) (g : Nat) (lb : Array Value) (sf : Nat) (sb : Array Value) (blk off a b : Nat) (d : Array α) (w : World) (eg : ∀ args w, (callFunc g args).run Tryd.prog w = .ok (.enter g args) w) (hless : LessReads Tryd.prog g lb enc lt blk off d.size w) (hswap : SwapSwaps Tryd.prog sf sb enc blk off d.size) (hH : Holds enc w blk off d) (hblk : blk < w.heap.size) (hab : a ≤ b) (hb : b ≤ d.size) (hsz : d.size < 4611686018427387904) :
    Calls Tryd.prog 90 #[.agg #[.func (.func g) #[] lb, .func (.func sf) #[] sb], .int .i64 a, .int .i64 b] w fun e w' => e = .returned (.tuple #[]) ∧ ∃ n os, w' = sortWorld enc w blk off n (Sort.insertionSort lt d a b) os := Any.insertionSort_func_w Tryd.laysGg26 enc lt g lb sf sb blk off a b d w eg hless hswap hH hblk hab hb hsz
def Tryd.laysGg30_ren : Go.Shelf.Ren := ⟨fun | 30 => 94 | n => n, fun | 44 => 115 | 3 => 3 | 0 => 0 | 4 => 4 | 37 => 110 | 26 => 101 | n => n, fun | n => n⟩
theorem Tryd.laysGg30 : Go.Proofs.LaysGg.n30 Tryd.prog Tryd.laysGg30_ren := {
  mixed := by kernel_rfl
  f30 := Tryd.func94.trans (congrArg some (by kernel_rfl))
  t0 := Tryd.underlying0
  a0 := Tryd.isAgg0
  z0 := Tryd.sizeOf0
  v0 := Tryd.zeroValue0
  i0 := by kernel_rfl
  t3 := Tryd.underlying3
  a3 := Tryd.isAgg3
  z3 := Tryd.sizeOf3
  v3 := Tryd.zeroValue3
  i3 := by kernel_rfl
  t4 := Tryd.underlying4
  a4 := Tryd.isAgg4
  z4 := Tryd.sizeOf4
  v4 := Tryd.zeroValue4
  i4 := by kernel_rfl
  t26 := Tryd.underlying101
  a26 := Tryd.isAgg101
  z26 := Tryd.sizeOf101
  v26 := Tryd.zeroValue101
  i26 := by kernel_rfl
  t37 := Tryd.underlying110
  a37 := Tryd.isAgg110
  z37 := Tryd.sizeOf110
  v37 := Tryd.zeroValue110
  i37 := by kernel_rfl
  t44 := Tryd.underlying115
  a44 := Tryd.isAgg115
  z44 := Tryd.sizeOf115
  v44 := Tryd.zeroValue115
  i44 := by kernel_rfl }
open Go.RowKit Go.Lib Go.Sort in
theorem Tryd.reverseRange_func_one {α : Type} [Inhabited α] (enc : α → Value) (lf : Fn) (la lb : Array Value) (sf : Nat) (sb : Array Value) (blk off a b : Nat) (d : Array α) (w : World) (hswap : SwapSwaps Tryd.prog sf sb enc blk off d.size) (hH : Holds enc w blk off d) (hblk : blk < w.heap.size) (hab : a ≤ b) (hb : b ≤ d.size) (hsz : d.size < 4611686018427387904) :
    Calls Tryd.prog 94 #[.agg #[.func lf la lb, .func (.func sf) #[] sb], .int .i64 a, .int .i64 b] w fun e w' => e = .returned (.tuple #[]) ∧ ∃ n, w' = putRow enc (Sort.ahead (w.alloc (.cells #[.func lf la lb, .func (.func sf) #[] sb] 115)) n) blk off (reverseRange d a b) := Any.reverseRange_func_one Tryd.laysGg30 enc lf la lb sf sb blk off a b d w hswap hH hblk hab hb hsz
open Go.RowKit Go.Lib Go.Sort in
/-- sort.reverseRange_func, from a world to a 'sortWorld' of it. (LAID: no walk: one application.) -/
theorem Tryd.reverseRange_func_w {α : Type} [Inhabited α] (enc : α → Value) (lf : Fn) (la lb : Array Value) (sf : Nat) (sb : Array Value) (blk off a b : Nat) (d : Array α) (w : World) (hswap : SwapSwaps Tryd.prog sf sb enc blk off d.size) (hH : Holds enc w blk off d) (hblk : blk < w.heap.size) (hab : a ≤ b) (hb : b ≤ d.size) (hsz : d.size < 4611686018427387904) :
    Calls Tryd.prog 94 #[.agg #[.func lf la lb, .func (.func sf) #[] sb], .int .i64 a, .int .i64 b] w fun e w' => e = .returned (.tuple #[]) ∧ ∃ n os, w' = sortWorld enc w blk off n (reverseRange d a b) os := Any.reverseRange_func_w Tryd.laysGg30 enc lf la lb sf sb blk off a b d w hswap hH hblk hab hb hsz
def Tryd.laysGg39_ren : Go.Shelf.Ren := ⟨fun | 39 => 103 | n => n, fun | 44 => 115 | 3 => 3 | 64 => 133 | 0 => 0 | 26 => 101 | 4 => 4 | 37 => 110 | n => n, fun | n => n⟩
theorem Tryd.laysGg39 : Go.Proofs.LaysGg.n39 Tryd.prog Tryd.laysGg39_ren := {
  mixed := by kernel_rfl
  f39 := Tryd.func103.trans (congrArg some (by kernel_rfl))
  t0 := Tryd.underlying0
  a0 := Tryd.isAgg0
  z0 := Tryd.sizeOf0
  v0 := Tryd.zeroValue0
  i0 := by kernel_rfl
  t3 := Tryd.underlying3
  a3 := Tryd.isAgg3
  z3 := Tryd.sizeOf3
  v3 := Tryd.zeroValue3
  i3 := by kernel_rfl
  t4 := Tryd.underlying4
  a4 := Tryd.isAgg4
  z4 := Tryd.sizeOf4
  v4 := Tryd.zeroValue4
  i4 := by kernel_rfl
  t26 := Tryd.underlying101
  a26 := Tryd.isAgg101
  z26 := Tryd.sizeOf101
  v26 := Tryd.zeroValue101
  i26 := by kernel_rfl
  t37 := Tryd.underlying110
  a37 := Tryd.isAgg110
  z37 := Tryd.sizeOf110
  v37 := Tryd.zeroValue110
  i37 := by kernel_rfl
  t44 := Tryd.underlying115
  a44 := Tryd.isAgg115
  z44 := Tryd.sizeOf115
  v44 := Tryd.zeroValue115
  i44 := by kernel_rfl
  t64 := Tryd.underlying133
  a64 := Tryd.isAgg133
  z64 := Tryd.sizeOf133
  v64 := Tryd.zeroValue133
  i64 := by kernel_rfl }
open Go.RowKit Go.Lib Go.Sort in
theorem Tryd.order2_func {α : Type} [Inhabited α] (enc : α → Value) (lt : α → α → Bool) (g : Nat) (lb : Array Value) (sfn : Fn) (sa sb : Array Value) (blk off : Nat) (w0 W : World) (d : Array α) (a b cb co s : Nat) (eg : ∀ args w, (callFunc g args).run Tryd.prog w = .ok (.enter g args) w) (hL : LessReads Tryd.prog g lb enc lt blk off d.size w0) (hW : SW enc w0 blk off d W) (ha : a < d.size) (hb : b < d.size) (hS : Holds (Value.int .i64) W cb co (one s)) (hcb : cb < W.heap.size) (hs : s < 4611686018427387904) :
    Calls Tryd.prog 103 #[.agg #[.func (.func g) #[] lb, .func sfn sa sb], .int .i64 a, .int .i64 b, .pointer (some ⟨cb, co, none⟩)] W fun e w' =>
      e = .returned (.tuple #[.int .i64 (order2 lt d a b s).1, .int .i64 (order2 lt d a b s).2.1]) ∧ ∃ n os, w' = sortWorld (Value.int .i64) W cb co n (one (order2 lt d a b s).2.2) os := Any.order2_func Tryd.laysGg39 enc lt g lb sfn sa sb blk off w0 W d a b cb co s eg hL hW ha hb hS hcb hs
def Tryd.laysGg38_ren : Go.Shelf.Ren := ⟨fun | 38 => 102 | 39 => 103 | n => n, fun | 44 => 115 | 3 => 3 | 64 => 133 | 0 => 0 | 67 => 136 | 26 => 101 | 4 => 4 | 37 => 110 | n => n, fun | n => n⟩
theorem Tryd.laysGg38 : Go.Proofs.LaysGg.n38 Tryd.prog Tryd.laysGg38_ren := {
  mixed := by kernel_rfl
  f38 := Tryd.func102.trans (congrArg some (by kernel_rfl))
  f39 := Tryd.func103.trans (congrArg some (by kernel_rfl))
  t0 := Tryd.underlying0
  a0 := Tryd.isAgg0
  z0 := Tryd.sizeOf0
  v0 := Tryd.zeroValue0
  i0 := by kernel_rfl
  t3 := Tryd.underlying3
  a3 := Tryd.isAgg3
  z3 := Tryd.sizeOf3
  v3 := Tryd.zeroValue3
  i3 := by kernel_rfl
  t4 := Tryd.underlying4
  a4 := Tryd.isAgg4
  z4 := Tryd.sizeOf4
  v4 := Tryd.zeroValue4
  i4 := by kernel_rfl
  t26 := Tryd.underlying101
  a26 := Tryd.isAgg101
  z26 := Tryd.sizeOf101
  v26 := Tryd.zeroValue101
  i26 := by kernel_rfl
  t37 := Tryd.underlying110
  a37 := Tryd.isAgg110
  z37 := Tryd.sizeOf110
  v37 := Tryd.zeroValue110
  i37 := by kernel_rfl
  t44 := Tryd.underlying115
  a44 := Tryd.isAgg115
  z44 := Tryd.sizeOf115
  v44 := Tryd.zeroValue115
  i44 := by kernel_rfl
  t64 := Tryd.underlying133
  a64 := Tryd.isAgg133
  z64 := Tryd.sizeOf133
  v64 := Tryd.zeroValue133
  i64 := by kernel_rfl
  t67 := Tryd.underlying136
  a67 := Tryd.isAgg136
  z67 := Tryd.sizeOf136
  v67 := Tryd.zeroValue136
  i67 := by kernel_rfl }
open Go.RowKit Go.Lib Go.Sort in
theorem Tryd.median_func {α : Type} [Inhabited α] (enc : α → Value) (lt : α → α → Bool) (g : Nat) (lb : Array Value) (sfn : Fn) (sa sb : Array Value) (blk off : Nat) (w0 W : World) (d : Array α) (a b c cb co s : Nat) (eg : ∀ args w, (callFunc g args).run Tryd.prog w = .ok (.enter g args) w) (hL : LessReads Tryd.prog g lb enc lt blk off d.size w0) (hW : SW enc w0 blk off d W) (ha : a < d.size) (hb : b < d.size) (hc : c < d.size) (hS : Holds (Value.int .i64) W cb co (one s)) (hcb0 : w0.heap.size ≤ cb) (hcb : cb < W.heap.size) (hs : s + 3 < 4611686018427387904) :
    Calls Tryd.prog 102 #[.agg #[.func (.func g) #[] lb, .func sfn sa sb], .int .i64 a, .int .i64 b, .int .i64 c, .pointer (some ⟨cb, co, none⟩)] W fun e w' =>
      e = .returned (.int .i64 (median lt d a b c s).1) ∧ ∃ n os, w' = sortWorld (Value.int .i64) W cb co n (one (median lt d a b c s).2) os := Any.median_func Tryd.laysGg38 enc lt g lb sfn sa sb blk off w0 W d a b c cb co s eg hL hW ha hb hc hS hcb0 hcb hs
def Tryd.laysGg37_ren : Go.Shelf.Ren := ⟨fun | 37 => 101 | 38 => 102 | 39 => 103 | n => n, fun | 44 => 115 | 3 => 3 | 64 => 133 | 0 => 0 | 67 => 136 | 26 => 101 | 4 => 4 | 37 => 110 | n => n, fun | n => n⟩
theorem Tryd.laysGg37 : Go.Proofs.LaysGg.n37 Tryd.prog Tryd.laysGg37_ren := {
  mixed := by kernel_rfl
  f37 := Tryd.func101.trans (congrArg some (by kernel_rfl))
  f38 := Tryd.func102.trans (congrArg some (by kernel_rfl))
  f39 := Tryd.func103.trans (congrArg some (by kernel_rfl))
  t0 := Tryd.underlying0
  a0 := Tryd.isAgg0
  z0 := Tryd.sizeOf0
  v0 := Tryd.zeroValue0
  i0 := by kernel_rfl
  t3 := Tryd.underlying3
  a3 := Tryd.isAgg3
  z3 := Tryd.sizeOf3
  v3 := Tryd.zeroValue3
  i3 := by kernel_rfl
  t4 := Tryd.underlying4
  a4 := Tryd.isAgg4
  z4 := Tryd.sizeOf4
  v4 := Tryd.zeroValue4
  i4 := by kernel_rfl
  t26 := Tryd.underlying101
  a26 := Tryd.isAgg101
  z26 := Tryd.sizeOf101
  v26 := Tryd.zeroValue101
  i26 := by kernel_rfl
  t37 := Tryd.underlying110
  a37 := Tryd.isAgg110
  z37 := Tryd.sizeOf110
  v37 := Tryd.zeroValue110
  i37 := by kernel_rfl
  t44 := Tryd.underlying115
  a44 := Tryd.isAgg115
  z44 := Tryd.sizeOf115
  v44 := Tryd.zeroValue115
  i44 := by kernel_rfl
  t64 := Tryd.underlying133
  a64 := Tryd.isAgg133
  z64 := Tryd.sizeOf133
  v64 := Tryd.zeroValue133
  i64 := by kernel_rfl
  t67 := Tryd.underlying136
  a67 := Tryd.isAgg136
  z67 := Tryd.sizeOf136
  v67 := Tryd.zeroValue136
  i67 := by kernel_rfl }
open Go.RowKit Go.Lib Go.Sort in
theorem Tryd.medianAdjacent_func {α : Type} [Inhabited α] (enc : α → Value) (lt : α → α → Bool) (g : Nat) (lb : Array Value) (sfn : Fn) (sa sb : Array Value) (blk off : Nat) (w0 W : World) (d : Array α) (a cb co s : Nat) (eg : ∀ args w, (callFunc g args).run Tryd.prog w = .ok (.enter g args) w) (hL : LessReads Tryd.prog g lb enc lt blk off d.size w0) (hW : SW enc w0 blk off d W) (ha1 : 1 ≤ a) (ha2 : a + 1 < d.size) (hsz : d.size < 4611686018427387904) (hS : Holds (Value.int .i64) W cb co (one s)) (hcb0 : w0.heap.size ≤ cb) (hcb : cb < W.heap.size) (hs : s + 3 < 4611686018427387904) :
    Calls Tryd.prog 101 #[.agg #[.func (.func g) #[] lb, .func sfn sa sb], .int .i64 a, .pointer (some ⟨cb, co, none⟩)] W fun e w' =>
      e = .returned (.int .i64 (medianAdjacent lt d a s).1) ∧ ∃ n os, w' = sortWorld (Value.int .i64) W cb co n (one (medianAdjacent lt d a s).2) os := Any.medianAdjacent_func Tryd.laysGg37 enc lt g lb sfn sa sb blk off w0 W d a cb co s eg hL hW ha1 ha2 hsz hS hcb0 hcb hs
def Tryd.laysGg29_ren : Go.Shelf.Ren := ⟨fun | 29 => 93 | 37 => 101 | 38 => 102 | 39 => 103 | n => n, fun | 44 => 115 | 3 => 3 | 53 => 122 | 0 => 0 | 4 => 4 | 64 => 133 | 67 => 136 | 26 => 101 | 37 => 110 | n => n, fun | n => n⟩
theorem Tryd.laysGg29 : Go.Proofs.LaysGg.n29 Tryd.prog Tryd.laysGg29_ren := {
  mixed := by kernel_rfl
  f29 := Tryd.func93.trans (congrArg some (by kernel_rfl))
  f37 := Tryd.func101.trans (congrArg some (by kernel_rfl))
  f38 := Tryd.func102.trans (congrArg some (by kernel_rfl))
  f39 := Tryd.func103.trans (congrArg some (by kernel_rfl))
  t0 := Tryd.underlying0
  a0 := Tryd.isAgg0
  z0 := Tryd.sizeOf0
  v0 := Tryd.zeroValue0
  i0 := by kernel_rfl
  t3 := Tryd.underlying3
  a3 := Tryd.isAgg3
  z3 := Tryd.sizeOf3
  v3 := Tryd.zeroValue3
  i3 := by kernel_rfl
  t4 := Tryd.underlying4
  a4 := Tryd.isAgg4
  z4 := Tryd.sizeOf4
  v4 := Tryd.zeroValue4
  i4 := by kernel_rfl
  t26 := Tryd.underlying101
  a26 := Tryd.isAgg101
  z26 := Tryd.sizeOf101
  v26 := Tryd.zeroValue101
  i26 := by kernel_rfl
  t37 := Tryd.underlying110
  a37 := Tryd.isAgg110
  z37 := Tryd.sizeOf110
  v37 := Tryd.zeroValue110
  i37 := by kernel_rfl
  t44 := Tryd.underlying115
  a44 := Tryd.isAgg115
  z44 := Tryd.sizeOf115
  v44 := Tryd.zeroValue115
  i44 := by kernel_rfl
  t53 := Tryd.underlying122
  a53 := Tryd.isAgg122
  z53 := Tryd.sizeOf122
  v53 := Tryd.zeroValue122
  i53 := by kernel_rfl
  t64 := Tryd.underlying133
  a64 := Tryd.isAgg133
  z64 := Tryd.sizeOf133
  v64 := Tryd.zeroValue133
  i64 := by kernel_rfl
  t67 := Tryd.underlying136
  a67 := Tryd.isAgg136
  z67 := Tryd.sizeOf136
  v67 := Tryd.zeroValue136
  i67 := by kernel_rfl }
open Go.RowKit Go.Lib Go.Sort in
/-- sort.choosePivot_func: THE LIBRARY's OWN TEXT COMPUTES 'Sort.choosePivot lt d a b'; the row is not turned; W is grown. (After Derived/Sort/Walk11.lean's 'So.choosePivot_int', row for row.) (LAID: no walk: one application.) -/
theorem Tryd.choosePivot_func {α : Type} [Inhabited α] (enc : α → Value) (lt : α → α → Bool) (g : Nat) (lb : Array Value) (sfn : Fn) (sa sb : Array Value) (blk off a b : Nat) (W : World) (d : Array α) (eg : ∀ args w, (callFunc g args).run Tryd.prog w = .ok (.enter g args) w) (hless : LessReads Tryd.prog g lb enc lt blk off d.size W) (hH : Holds enc W blk off d) (hab : a < b) (hb : b ≤ d.size) (hsz : d.size < 4611686018427387904) :
    Calls Tryd.prog 93 #[.agg #[.func (.func g) #[] lb, .func sfn sa sb], .int .i64 a, .int .i64 b] W fun e w' =>
      e = .returned (.tuple #[.int .i64 (choosePivot lt d a b).1, .int .i64 (hintCode (choosePivot lt d a b).2)]) ∧ ∃ n os, w' = grow (Sort.ahead W n) os := Any.choosePivot_func Tryd.laysGg29 enc lt g lb sfn sa sb blk off a b W d eg hless hH hab hb hsz
def Tryd.laysGg32_ren : Go.Shelf.Ren := ⟨fun | 32 => 96 | n => n, fun | 44 => 115 | 3 => 3 | 0 => 0 | 37 => 110 | 4 => 4 | 26 => 101 | n => n, fun | n => n⟩
theorem Tryd.laysGg32 : Go.Proofs.LaysGg.n32 Tryd.prog Tryd.laysGg32_ren := {
  mixed := by kernel_rfl
  f32 := Tryd.func96.trans (congrArg some (by kernel_rfl))
  t0 := Tryd.underlying0
  a0 := Tryd.isAgg0
  z0 := Tryd.sizeOf0
  v0 := Tryd.zeroValue0
  i0 := by kernel_rfl
  t3 := Tryd.underlying3
  a3 := Tryd.isAgg3
  z3 := Tryd.sizeOf3
  v3 := Tryd.zeroValue3
  i3 := by kernel_rfl
  t4 := Tryd.underlying4
  a4 := Tryd.isAgg4
  z4 := Tryd.sizeOf4
  v4 := Tryd.zeroValue4
  i4 := by kernel_rfl
  t26 := Tryd.underlying101
  a26 := Tryd.isAgg101
  z26 := Tryd.sizeOf101
  v26 := Tryd.zeroValue101
  i26 := by kernel_rfl
  t37 := Tryd.underlying110
  a37 := Tryd.isAgg110
  z37 := Tryd.sizeOf110
  v37 := Tryd.zeroValue110
  i37 := by kernel_rfl
  t44 := Tryd.underlying115
  a44 := Tryd.isAgg115
  z44 := Tryd.sizeOf115
  v44 := Tryd.zeroValue115
  i44 := by kernel_rfl }
open Go.RowKit Go.Lib Go.Sort in
theorem Tryd.partitionEqual_func_one {α : Type} [Inhabited α] (enc : α → Value) (lt : α → α → Bool) (g : Nat) (lb : Array Value) (sf : Nat) (sb : Array Value) (blk off a b pivot : Nat) (d : Array α) (W : World) (eg : ∀ args w, (callFunc g args).run Tryd.prog w = .ok (.enter g args) w) (hless : LessReads Tryd.prog g lb enc lt blk off d.size W) (hswap : SwapSwaps Tryd.prog sf sb enc blk off d.size) (hH : Holds enc W blk off d) (hblk : blk < W.heap.size) (hap : a ≤ pivot) (hpb : pivot < b) (hb : b ≤ d.size) (hsz : d.size < 4611686018427387904) :
    Calls Tryd.prog 96 #[.agg #[.func (.func g) #[] lb, .func (.func sf) #[] sb], .int .i64 a, .int .i64 b, .int .i64 pivot] W fun e w' =>
      e = .returned (.int .i64 (Sort.partitionEqual lt d a b pivot).1) ∧ ∃ n, w' = (putRow enc (W.alloc (.cells #[.func (.func g) #[] lb, .func (.func sf) #[] sb] 115)) blk off (Sort.partitionEqual lt d a b pivot).2).drewN n := Any.partitionEqual_func_one Tryd.laysGg32 enc lt g lb sf sb blk off a b pivot d W eg hless hswap hH hblk hap hpb hb hsz
def Tryd.laysGg33_ren : Go.Shelf.Ren := ⟨fun | 33 => 97 | n => n, fun | 44 => 115 | 3 => 3 | 4 => 4 | 0 => 0 | 37 => 110 | 26 => 101 | n => n, fun | n => n⟩
theorem Tryd.laysGg33 : Go.Proofs.LaysGg.n33 Tryd.prog Tryd.laysGg33_ren := {
  mixed := by kernel_rfl
  f33 := Tryd.func97.trans (congrArg some (by kernel_rfl))
  t0 := Tryd.underlying0
  a0 := Tryd.isAgg0
  z0 := Tryd.sizeOf0
  v0 := Tryd.zeroValue0
  i0 := by kernel_rfl
  t3 := Tryd.underlying3
  a3 := Tryd.isAgg3
  z3 := Tryd.sizeOf3
  v3 := Tryd.zeroValue3
  i3 := by kernel_rfl
  t4 := Tryd.underlying4
  a4 := Tryd.isAgg4
  z4 := Tryd.sizeOf4
  v4 := Tryd.zeroValue4
  i4 := by kernel_rfl
  t26 := Tryd.underlying101
  a26 := Tryd.isAgg101
  z26 := Tryd.sizeOf101
  v26 := Tryd.zeroValue101
  i26 := by kernel_rfl
  t37 := Tryd.underlying110
  a37 := Tryd.isAgg110
  z37 := Tryd.sizeOf110
  v37 := Tryd.zeroValue110
  i37 := by kernel_rfl
  t44 := Tryd.underlying115
  a44 := Tryd.isAgg115
  z44 := Tryd.sizeOf115
  v44 := Tryd.zeroValue115
  i44 := by kernel_rfl }
open Go.RowKit Go.Lib Go.Sort in
theorem Tryd.partition_func_one {α : Type} [Inhabited α] (enc : α → Value) (lt : α → α → Bool) (g : Nat) (lb : Array Value) (sf : Nat) (sb : Array Value) (blk off a b pivot : Nat) (d : Array α) (W : World) (eg : ∀ args w, (callFunc g args).run Tryd.prog w = .ok (.enter g args) w) (hless : LessReads Tryd.prog g lb enc lt blk off d.size W) (hswap : SwapSwaps Tryd.prog sf sb enc blk off d.size) (hH : Holds enc W blk off d) (hblk : blk < W.heap.size) (hap : a ≤ pivot) (hpb : pivot < b) (hb : b ≤ d.size) (hsz : d.size < 4611686018427387904) :
    Calls Tryd.prog 97 #[.agg #[.func (.func g) #[] lb, .func (.func sf) #[] sb], .int .i64 a, .int .i64 b, .int .i64 pivot] W fun e w' =>
      e = .returned (.tuple #[.int .i64 (Sort.partition lt d a b pivot).1, .bool (Sort.partition lt d a b pivot).2.1]) ∧ ∃ n, w' = (putRow enc (W.alloc (.cells #[.func (.func g) #[] lb, .func (.func sf) #[] sb] 115)) blk off (Sort.partition lt d a b pivot).2.2).drewN n := Any.partition_func_one Tryd.laysGg33 enc lt g lb sf sb blk off a b pivot d W eg hless hswap hH hblk hap hpb hb hsz
open Go.RowKit Go.Lib Go.Sort in
/-- sort.partitionEqual_func, from a world to a 'sortWorld' of it. (LAID: no walk: one application.) -/
theorem Tryd.partitionEqual_func_w {α : Type} [Inhabited α] (enc : α → Value) (lt : α → α → Bool) (g : Nat) (lb : Array Value) (sf : Nat) (sb : Array Value) (blk off a b pivot : Nat) (d : Array α) (W : World) (eg : ∀ args w, (callFunc g args).run Tryd.prog w = .ok (.enter g args) w) (hless : LessReads Tryd.prog g lb enc lt blk off d.size W) (hswap : SwapSwaps Tryd.prog sf sb enc blk off d.size) (hH : Holds enc W blk off d) (hblk : blk < W.heap.size) (hap : a ≤ pivot) (hpb : pivot < b) (hb : b ≤ d.size) (hsz : d.size < 4611686018427387904) :
    Calls Tryd.prog 96 #[.agg #[.func (.func g) #[] lb, .func (.func sf) #[] sb], .int .i64 a, .int .i64 b, .int .i64 pivot] W fun e w' => e = .returned (.int .i64 (Sort.partitionEqual lt d a b pivot).1) ∧ ∃ n os, w' = sortWorld enc W blk off n (Sort.partitionEqual lt d a b pivot).2 os := Any.partitionEqual_func_w Tryd.laysGg32 enc lt g lb sf sb blk off a b pivot d W eg hless hswap hH hblk hap hpb hb hsz
open Go.RowKit Go.Lib Go.Sort in
/-- sort.partition_func, from a world to a 'sortWorld' of it. (LAID: no walk: one application.) -/
theorem Tryd.partition_func_w {α : Type} [Inhabited α] (enc : α → Value) (lt : α → α → Bool) (g : Nat) (lb : Array Value) (sf : Nat) (sb : Array Value) (blk off a b pivot : Nat) (d : Array α) (W : World) (eg : ∀ args w, (callFunc g args).run Tryd.prog w = .ok (.enter g args) w) (hless : LessReads Tryd.prog g lb enc lt blk off d.size W) (hswap : SwapSwaps Tryd.prog sf sb enc blk off d.size) (hH : Holds enc W blk off d) (hblk : blk < W.heap.size) (hap : a ≤ pivot) (hpb : pivot < b) (hb : b ≤ d.size) (hsz : d.size < 4611686018427387904) :
    Calls Tryd.prog 97 #[.agg #[.func (.func g) #[] lb, .func (.func sf) #[] sb], .int .i64 a, .int .i64 b, .int .i64 pivot] W fun e w' => e = .returned (.tuple #[.int .i64 (Sort.partition lt d a b pivot).1, .bool (Sort.partition lt d a b pivot).2.1]) ∧ ∃ n os, w' = sortWorld enc W blk off n (Sort.partition lt d a b pivot).2.2 os := Any.partition_func_w Tryd.laysGg33 enc lt g lb sf sb blk off a b pivot d W eg hless hswap hH hblk hap hpb hb hsz
open Go.RowKit Go.Lib Go.Sort in
theorem Tryd.pdqsort_func_all {α : Type} [Inhabited α] (enc : α → Value) (lt : α → α → Bool) (hO : SWO lt) (g : Nat) (lb : Array Value) (sf : Nat) (sb : Array Value) (eg : ∀ args w, (callFunc g args).run Tryd.prog w = .ok (.enter g args) w) :
    ∀ (N blk off a b limit : Nat) (d : Array α) (w : World), b - a < N → LessReads Tryd.prog g lb enc lt blk off d.size w → SwapSwaps Tryd.prog sf sb enc blk off d.size → Holds enc w blk off d → blk < w.heap.size → a ≤ b → b ≤ d.size → d.size < 4611686018427387904 → limit < 4611686018427387904 → Below lt a b d →
    Calls Tryd.prog 79 #[.agg #[.func (.func g) #[] lb, .func (.func sf) #[] sb], .int .i64 a, .int .i64 b, .int .i64 limit] w fun e w' => e = .returned (.tuple #[]) ∧ At enc w blk off (pdq lt d a b limit true true) w' := Any.pdqsort_func_all Tryd.laysGg14 enc lt hO g lb sf sb eg
def Tryd.laysGg36_ren : Go.Shelf.Ren := ⟨fun | 36 => 100 | n => n, fun | 66 => 135 | 51 => 120 | 0 => 0 | 60 => 129 | 41 => 86 | n => n, fun | n => n⟩
theorem Tryd.laysGg36 : Go.Proofs.LaysGg.n36 Tryd.prog Tryd.laysGg36_ren := {
  mixed := by kernel_rfl
  f36 := Tryd.func100.trans (congrArg some (by kernel_rfl))
  t0 := Tryd.underlying0
  a0 := Tryd.isAgg0
  z0 := Tryd.sizeOf0
  v0 := Tryd.zeroValue0
  i0 := by kernel_rfl
  t41 := Tryd.underlying86
  a41 := Tryd.isAgg86
  z41 := Tryd.sizeOf86
  v41 := Tryd.zeroValue86
  i41 := by kernel_rfl
  t51 := Tryd.underlying120
  a51 := Tryd.isAgg120
  z51 := Tryd.sizeOf120
  v51 := Tryd.zeroValue120
  i51 := by kernel_rfl
  t60 := Tryd.underlying129
  a60 := Tryd.isAgg129
  z60 := Tryd.sizeOf129
  v60 := Tryd.zeroValue129
  i60 := by kernel_rfl
  t66 := Tryd.underlying135
  a66 := Tryd.isAgg135
  z66 := Tryd.sizeOf135
  v66 := Tryd.zeroValue135
  i66 := by kernel_rfl }
open Go.RowKit Go.Lib Go.Sort in
/-- '*r ^= *r << 13; *r ^= *r >> 7; *r ^= *r << 17; return uint64(*r)': the cell holds 'xorNextN X' and that is handed back; three draws; nothing else turns. (LAID: no walk: one application.) -/
theorem Tryd.xorshift_Next (rb ro X : Nat) (hX : X < 18446744073709551616) (w : World) (hc : w.cell? ⟨rb, ro, none⟩ = some (.int .u64 X)) (hf : w.frozen? ⟨rb, ro, none⟩ = false) :
    Calls Tryd.prog 100 #[.pointer (some ⟨rb, ro, none⟩)] w fun e w' => e = .returned (.int .u64 (xorNextN X : Nat)) ∧ w' = (w.setCell ⟨rb, ro, none⟩ (.int .u64 (xorNextN X : Nat))).drewN 3 := Any.xorshift_Next Tryd.laysGg36 rb ro X hX w hc hf
def Tryd.laysGg35_ren : Go.Shelf.Ren := ⟨fun | 35 => 99 | 13 => 78 | 24 => 70 | 25 => 89 | n => n, fun | 3 => 3 | 41 => 86 | 49 => 60 | 51 => 120 | 4 => 4 | 5 => 5 | 9 => 9 | n => n, fun | n => n⟩
theorem Tryd.laysGg35 : Go.Proofs.LaysGg.n35 Tryd.prog Tryd.laysGg35_ren := {
  mixed := by kernel_rfl
  f13 := Tryd.func78.trans (congrArg some (by kernel_rfl))
  f24 := Tryd.func70.trans (congrArg some (by kernel_rfl))
  f25 := Tryd.func89.trans (congrArg some (by kernel_rfl))
  f35 := Tryd.func99.trans (congrArg some (by kernel_rfl))
  t3 := Tryd.underlying3
  a3 := Tryd.isAgg3
  z3 := Tryd.sizeOf3
  v3 := Tryd.zeroValue3
  i3 := by kernel_rfl
  t4 := Tryd.underlying4
  a4 := Tryd.isAgg4
  z4 := Tryd.sizeOf4
  v4 := Tryd.zeroValue4
  i4 := by kernel_rfl
  t5 := Tryd.underlying5
  a5 := Tryd.isAgg5
  z5 := Tryd.sizeOf5
  v5 := Tryd.zeroValue5
  i5 := by kernel_rfl
  t9 := Tryd.underlying9
  a9 := Tryd.isAgg9
  z9 := Tryd.sizeOf9
  v9 := Tryd.zeroValue9
  i9 := by kernel_rfl
  t41 := Tryd.underlying86
  a41 := Tryd.isAgg86
  z41 := Tryd.sizeOf86
  v41 := Tryd.zeroValue86
  i41 := by kernel_rfl
  t49 := Tryd.underlying60
  a49 := Tryd.isAgg60
  z49 := Tryd.sizeOf60
  v49 := Tryd.zeroValue60
  i49 := by kernel_rfl
  t51 := Tryd.underlying120
  a51 := Tryd.isAgg120
  z51 := Tryd.sizeOf120
  v51 := Tryd.zeroValue120
  i51 := by kernel_rfl }
open Go.RowKit Go.Lib Go.Sort in
/-- 'return 1 << bits.Len(uint(length))'. (LAID: no walk: one application.) -/
theorem Tryd.nextPowerOfTwo (n : Nat) (hn : n < 4611686018427387904) (w : World) :
    Calls Tryd.prog 99 #[.int .i64 n] w fun e w' => e = .returned (.int .u64 ((1 <<< bitsLen n : Nat) : Int)) ∧ w' = w := Any.nextPowerOfTwo Tryd.laysGg35 n hn w
def Tryd.laysGg34_ren : Go.Shelf.Ren := ⟨fun | 34 => 98 | n => n, fun | 44 => 115 | 3 => 3 | 0 => 0 | 4 => 4 | 26 => 101 | 37 => 110 | n => n, fun | n => n⟩
theorem Tryd.laysGg34 : Go.Proofs.LaysGg.n34 Tryd.prog Tryd.laysGg34_ren := {
  mixed := by kernel_rfl
  f34 := Tryd.func98.trans (congrArg some (by kernel_rfl))
  t0 := Tryd.underlying0
  a0 := Tryd.isAgg0
  z0 := Tryd.sizeOf0
  v0 := Tryd.zeroValue0
  i0 := by kernel_rfl
  t3 := Tryd.underlying3
  a3 := Tryd.isAgg3
  z3 := Tryd.sizeOf3
  v3 := Tryd.zeroValue3
  i3 := by kernel_rfl
  t4 := Tryd.underlying4
  a4 := Tryd.isAgg4
  z4 := Tryd.sizeOf4
  v4 := Tryd.zeroValue4
  i4 := by kernel_rfl
  t26 := Tryd.underlying101
  a26 := Tryd.isAgg101
  z26 := Tryd.sizeOf101
  v26 := Tryd.zeroValue101
  i26 := by kernel_rfl
  t37 := Tryd.underlying110
  a37 := Tryd.isAgg110
  z37 := Tryd.sizeOf110
  v37 := Tryd.zeroValue110
  i37 := by kernel_rfl
  t44 := Tryd.underlying115
  a44 := Tryd.isAgg115
  z44 := Tryd.sizeOf115
  v44 := Tryd.zeroValue115
  i44 := by kernel_rfl }
open Go.RowKit Go.Lib Go.Sort in
theorem Tryd.siftDown_func_one {α : Type} [Inhabited α] (enc : α → Value) (lt : α → α → Bool) (g : Nat) (lb : Array Value) (sf : Nat) (sb : Array Value) (blk off lo hi first : Nat) (d : Array α) (w : World) (eg : ∀ args w, (callFunc g args).run Tryd.prog w = .ok (.enter g args) w) (hless : LessReads Tryd.prog g lb enc lt blk off d.size w) (hswap : SwapSwaps Tryd.prog sf sb enc blk off d.size) (hH : Holds enc w blk off d) (hblk : blk < w.heap.size) (hlo : lo ≤ hi) (hb : first + hi ≤ d.size) (hsz : d.size < 4611686018427387904) :
    Calls Tryd.prog 98 #[.agg #[.func (.func g) #[] lb, .func (.func sf) #[] sb], .int .i64 lo, .int .i64 hi, .int .i64 first] w fun e w' =>
      e = .returned (.tuple #[]) ∧ ∃ n, w' = putRow enc (Sort.ahead (w.alloc (.cells #[.func (.func g) #[] lb, .func (.func sf) #[] sb] 115)) n) blk off (siftDown lt hi first lo d) := Any.siftDown_func_one Tryd.laysGg34 enc lt g lb sf sb blk off lo hi first d w eg hless hswap hH hblk hlo hb hsz
open Go.RowKit Go.Lib Go.Sort in
/-- sort.siftDown_func, from a world to a 'sortWorld' of it. (LAID: no walk: one application.) -/
theorem Tryd.siftDown_func_w {α : Type} [Inhabited α] (enc : α → Value) (lt : α → α → Bool) (g : Nat) (lb : Array Value) (sf : Nat) (sb : Array Value) (blk off lo hi first : Nat) (d : Array α) (w : World) (eg : ∀ args w, (callFunc g args).run Tryd.prog w = .ok (.enter g args) w) (hless : LessReads Tryd.prog g lb enc lt blk off d.size w) (hswap : SwapSwaps Tryd.prog sf sb enc blk off d.size) (hH : Holds enc w blk off d) (hblk : blk < w.heap.size) (hlo : lo ≤ hi) (hb : first + hi ≤ d.size) (hsz : d.size < 4611686018427387904) :
    Calls Tryd.prog 98 #[.agg #[.func (.func g) #[] lb, .func (.func sf) #[] sb], .int .i64 lo, .int .i64 hi, .int .i64 first] w fun e w' => e = .returned (.tuple #[]) ∧ ∃ n os, w' = sortWorld enc w blk off n (siftDown lt hi first lo d) os := Any.siftDown_func_w Tryd.laysGg34 enc lt g lb sf sb blk off lo hi first d w eg hless hswap hH hblk hlo hb hsz
def Tryd.laysGg27_ren : Go.Shelf.Ren := ⟨fun | 27 => 91 | 34 => 98 | n => n, fun | 44 => 115 | 3 => 3 | 0 => 0 | 4 => 4 | 37 => 110 | 26 => 101 | n => n, fun | n => n⟩
theorem Tryd.laysGg27 : Go.Proofs.LaysGg.n27 Tryd.prog Tryd.laysGg27_ren := {
  mixed := by kernel_rfl
  f27 := Tryd.func91.trans (congrArg some (by kernel_rfl))
  f34 := Tryd.func98.trans (congrArg some (by kernel_rfl))
  t0 := Tryd.underlying0
  a0 := Tryd.isAgg0
  z0 := Tryd.sizeOf0
  v0 := Tryd.zeroValue0
  i0 := by kernel_rfl
  t3 := Tryd.underlying3
  a3 := Tryd.isAgg3
  z3 := Tryd.sizeOf3
  v3 := Tryd.zeroValue3
  i3 := by kernel_rfl
  t4 := Tryd.underlying4
  a4 := Tryd.isAgg4
  z4 := Tryd.sizeOf4
  v4 := Tryd.zeroValue4
  i4 := by kernel_rfl
  t26 := Tryd.underlying101
  a26 := Tryd.isAgg101
  z26 := Tryd.sizeOf101
  v26 := Tryd.zeroValue101
  i26 := by kernel_rfl
  t37 := Tryd.underlying110
  a37 := Tryd.isAgg110
  z37 := Tryd.sizeOf110
  v37 := Tryd.zeroValue110
  i37 := by kernel_rfl
  t44 := Tryd.underlying115
  a44 := Tryd.isAgg115
  z44 := Tryd.sizeOf115
  v44 := Tryd.zeroValue115
  i44 := by kernel_rfl }
open Go.RowKit Go.Lib Go.Sort in
theorem Tryd.heapSort_func_w {α : Type} [Inhabited α] (enc : α → Value) (lt : α → α → Bool) (g : Nat) (lb : Array Value) (sf : Nat) (sb : Array Value) (blk off a b : Nat) (d : Array α) (w : World) (eg : ∀ args w, (callFunc g args).run Tryd.prog w = .ok (.enter g args) w) (hless : LessReads Tryd.prog g lb enc lt blk off d.size w) (hswap : SwapSwaps Tryd.prog sf sb enc blk off d.size) (hH : Holds enc w blk off d) (hblk : blk < w.heap.size) (hab : a ≤ b) (hb : b ≤ d.size) (hsz : d.size < 4611686018427387904) :
    Calls Tryd.prog 91 #[.agg #[.func (.func g) #[] lb, .func (.func sf) #[] sb], .int .i64 a, .int .i64 b] w fun e w' => e = .returned (.tuple #[]) ∧ ∃ n os, w' = sortWorld enc w blk off n (heapSort lt d a b) os := Any.heapSort_func_w Tryd.laysGg27 enc lt g lb sf sb blk off a b d w eg hless hswap hH hblk hab hb hsz
def Tryd.laysGg31_ren : Go.Shelf.Ren := ⟨fun | 31 => 95 | n => n, fun | 44 => 115 | 3 => 3 | 4 => 4 | 0 => 0 | 26 => 101 | 37 => 110 | n => n, fun | n => n⟩
theorem Tryd.laysGg31 : Go.Proofs.LaysGg.n31 Tryd.prog Tryd.laysGg31_ren := {
  mixed := by kernel_rfl
  f31 := Tryd.func95.trans (congrArg some (by kernel_rfl))
  t0 := Tryd.underlying0
  a0 := Tryd.isAgg0
  z0 := Tryd.sizeOf0
  v0 := Tryd.zeroValue0
  i0 := by kernel_rfl
  t3 := Tryd.underlying3
  a3 := Tryd.isAgg3
  z3 := Tryd.sizeOf3
  v3 := Tryd.zeroValue3
  i3 := by kernel_rfl
  t4 := Tryd.underlying4
  a4 := Tryd.isAgg4
  z4 := Tryd.sizeOf4
  v4 := Tryd.zeroValue4
  i4 := by kernel_rfl
  t26 := Tryd.underlying101
  a26 := Tryd.isAgg101
  z26 := Tryd.sizeOf101
  v26 := Tryd.zeroValue101
  i26 := by kernel_rfl
  t37 := Tryd.underlying110
  a37 := Tryd.isAgg110
  z37 := Tryd.sizeOf110
  v37 := Tryd.zeroValue110
  i37 := by kernel_rfl
  t44 := Tryd.underlying115
  a44 := Tryd.isAgg115
  z44 := Tryd.sizeOf115
  v44 := Tryd.zeroValue115
  i44 := by kernel_rfl }
open Go.RowKit Go.Lib Go.Sort in
theorem Tryd.partialInsertionSort_func_one {α : Type} [Inhabited α] (enc : α → Value) (lt : α → α → Bool) (g : Nat) (lb : Array Value) (sf : Nat) (sb : Array Value) (blk off a b : Nat) (d : Array α) (w : World) (eg : ∀ args w, (callFunc g args).run Tryd.prog w = .ok (.enter g args) w) (hless : LessReads Tryd.prog g lb enc lt blk off d.size w) (hswap : SwapSwaps Tryd.prog sf sb enc blk off d.size) (hH : Holds enc w blk off d) (hblk : blk < w.heap.size) (hab : a < b) (hb : b ≤ d.size) (hsz : d.size < 4611686018427387904) :
    Calls Tryd.prog 95 #[.agg #[.func (.func g) #[] lb, .func (.func sf) #[] sb], .int .i64 a, .int .i64 b] w fun e w' =>
      e = .returned (.bool (Sort.partialInsertionSort lt d a b).2) ∧ ∃ n, w' = putRow enc (Sort.ahead (w.alloc (.cells #[.func (.func g) #[] lb, .func (.func sf) #[] sb] 115)) n) blk off (Sort.partialInsertionSort lt d a b).1 := Any.partialInsertionSort_func_one Tryd.laysGg31 enc lt g lb sf sb blk off a b d w eg hless hswap hH hblk hab hb hsz
open Go.RowKit Go.Lib Go.Sort in
/-- sort.partialInsertionSort_func, from a world to a 'sortWorld' of it. (LAID: no walk: one application.) -/
theorem Tryd.partialInsertionSort_func_w {α : Type} [Inhabited α] (enc : α → Value) (lt : α → α → Bool) (g : Nat) (lb : Array Value) (sf : Nat) (sb : Array Value) (blk off a b : Nat) (d : Array α) (w : World) (eg : ∀ args w, (callFunc g args).run Tryd.prog w = .ok (.enter g args) w) (hless : LessReads Tryd.prog g lb enc lt blk off d.size w) (hswap : SwapSwaps Tryd.prog sf sb enc blk off d.size) (hH : Holds enc w blk off d) (hblk : blk < w.heap.size) (hab : a < b) (hb : b ≤ d.size) (hsz : d.size < 4611686018427387904) :
    Calls Tryd.prog 95 #[.agg #[.func (.func g) #[] lb, .func (.func sf) #[] sb], .int .i64 a, .int .i64 b] w fun e w' => e = .returned (.bool (Sort.partialInsertionSort lt d a b).2) ∧ ∃ n os, w' = sortWorld enc w blk off n (Sort.partialInsertionSort lt d a b).1 os := Any.partialInsertionSort_func_w Tryd.laysGg31 enc lt g lb sf sb blk off a b d w eg hless hswap hH hblk hab hb hsz
end Go.Proofs
