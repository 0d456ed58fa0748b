/-
  DERIVED: THE SHELF's CONTRACTS AT THIS DUMP, IN PLAIN WORDS (tools/lay-plain.mjs out of 'YtncaphiimdkniaaGreatDoorShelf.lean', which tools/lay-shelf.mjs wrote): THE SAME DECLARATIONS UNDER THE SAME NAMES: 'import', 'namespace', 'open', 'def', 'theorem' AND NOTHING ELSE: no command of the shelf's: FOR A HAND-IN. Each laying: the table of numbers ('.._ren') and one theorem, a field a fact of the dump's own or the kernel's comparison; each contract: ONE APPLICATION.
-/
import Derived.Shelf.Small.Bits
import Derived.Shelf.Strconv.Itoa0
import Derived.Ground.MnProg
import Derived.Shelf.Bin.BEUint16
import Derived.Shelf.Bin.BEUint32
import Derived.Shelf.Bin.BEUint16Panics
import Derived.Shelf.Bin.BEUint32Panics
import Derived.Ground.GgsProg
import Derived.Shelf.GgSortFunc.Insertion
import Derived.Shelf.Bin.ReadersZ
import Derived.Shelf.GgSortFunc.Small
import Derived.Shelf.GgSortFunc.Tiny
import Derived.Shelf.GgSortFunc.Compose
import Derived.Shelf.GgSortFunc.LotD
import Derived.Shelf.GgSortFunc.Pivot
import Derived.Shelf.GgSortFunc.Partition
import Derived.Shelf.GgSortFunc.Pdq
import Derived.Shelf.GgSortFunc.Whole
import Derived.Shelf.SlSortFunc.Xorshift
import Derived.Shelf.SlSortFunc.SiftDown
import Derived.Shelf.SlSortFunc.HeapSort
import Derived.Shelf.SlSortFunc.PartialInsertion
import Derived.Test.YtncaphiimdkniaaGreatDoorProg
namespace Go.Proofs
open Go.Shelf
def Tryz.lays128_ren : Go.Shelf.Ren := ⟨fun | 128 => 96 | n => n, fun | 51 => 59 | 3 => 3 | 4 => 4 | 46 => 92 | 5 => 5 | 9 => 9 | n => n, fun | n => n⟩
theorem Tryz.lays128 : Go.Proofs.Lays.n128 Tryz.prog Tryz.lays128_ren := {
  mixed := by kernel_rfl
  f128 := Tryz.func96.trans (congrArg some (by kernel_rfl))
  t3 := Tryz.underlying3
  a3 := Tryz.isAgg3
  z3 := Tryz.sizeOf3
  v3 := Tryz.zeroValue3
  t4 := Tryz.underlying4
  a4 := Tryz.isAgg4
  z4 := Tryz.sizeOf4
  v4 := Tryz.zeroValue4
  t5 := Tryz.underlying5
  a5 := Tryz.isAgg5
  z5 := Tryz.sizeOf5
  v5 := Tryz.zeroValue5
  t9 := Tryz.underlying9
  a9 := Tryz.isAgg9
  z9 := Tryz.sizeOf9
  v9 := Tryz.zeroValue9
  t46 := Tryz.underlying92
  a46 := Tryz.isAgg92
  z46 := Tryz.sizeOf92
  v46 := Tryz.zeroValue92
  t51 := Tryz.underlying59
  a51 := Tryz.isAgg59
  z51 := Tryz.sizeOf59
  v51 := Tryz.zeroValue59 }
/-- bits.Len32: "Len32 returns the minimum number of bits required to represent x; the result is 0 for x == 0.": IT RETURNS 'Lib.bitLen x'; the world is as it was. ('h0', 'h1': x is a uint32.) (LAID: no walk: one application.) -/
theorem Tryz.bits_Len32 (x : Int) (w : World) (h0 : 0 ≤ x) (h1 : x ≤ 4294967295) :
    Calls Tryz.prog 96 #[.int .u32 x] w fun e w' => e = .returned (.int .i64 (Lib.bitLen x.toNat)) ∧ w' = w := Any.bits_Len32 Tryz.lays128 x w h0 h1
def Tryz.lays125_ren : Go.Shelf.Ren := ⟨fun | 125 => 102 | 128 => 96 | 129 => 113 | n => n, fun | 46 => 92 | 3 => 3 | 51 => 59 | 53 => 75 | 4 => 4 | 5 => 5 | 9 => 9 | n => n, fun | n => n⟩
theorem Tryz.lays125 : Go.Proofs.Lays.n125 Tryz.prog Tryz.lays125_ren := {
  mixed := by kernel_rfl
  f125 := Tryz.func102.trans (congrArg some (by kernel_rfl))
  f128 := Tryz.func96.trans (congrArg some (by kernel_rfl))
  f129 := Tryz.func113.trans (congrArg some (by kernel_rfl))
  t3 := Tryz.underlying3
  a3 := Tryz.isAgg3
  z3 := Tryz.sizeOf3
  v3 := Tryz.zeroValue3
  t4 := Tryz.underlying4
  a4 := Tryz.isAgg4
  z4 := Tryz.sizeOf4
  v4 := Tryz.zeroValue4
  t5 := Tryz.underlying5
  a5 := Tryz.isAgg5
  z5 := Tryz.sizeOf5
  v5 := Tryz.zeroValue5
  t9 := Tryz.underlying9
  a9 := Tryz.isAgg9
  z9 := Tryz.sizeOf9
  v9 := Tryz.zeroValue9
  t46 := Tryz.underlying92
  a46 := Tryz.isAgg92
  z46 := Tryz.sizeOf92
  v46 := Tryz.zeroValue92
  t51 := Tryz.underlying59
  a51 := Tryz.isAgg59
  z51 := Tryz.sizeOf59
  v51 := Tryz.zeroValue59
  t53 := Tryz.underlying75
  a53 := Tryz.isAgg75
  z53 := Tryz.sizeOf75
  v53 := Tryz.zeroValue75 }
/-- bits.Len: "Len returns the minimum number of bits required to represent x; the result is 0 for x == 0.": IT RETURNS 'Lib.bitLen x'; the world is as it was. (A uint has 64 bits in the model.) ITS CALLEE bits.Len64 IS MET BY ITS OWN CONTRACT OFF THE SHELF (lay that first). (LAID: no walk: one application.) -/
theorem Tryz.bits_Len (x : Int) (w : World) (h0 : 0 ≤ x) (h1 : x ≤ 18446744073709551615) :
    Calls Tryz.prog 102 #[.int .u64 x] w fun e w' => e = .returned (.int .i64 (Lib.bitLen x.toNat)) ∧ w' = w := Any.bits_Len Tryz.lays125 x w h0 h1
def Tryz.lays129_ren : Go.Shelf.Ren := ⟨fun | 129 => 113 | n => n, fun | 53 => 75 | 3 => 3 | 4 => 4 | 46 => 92 | 5 => 5 | 9 => 9 | n => n, fun | n => n⟩
theorem Tryz.lays129 : Go.Proofs.Lays.n129 Tryz.prog Tryz.lays129_ren := {
  mixed := by kernel_rfl
  f129 := Tryz.func113.trans (congrArg some (by kernel_rfl))
  t3 := Tryz.underlying3
  a3 := Tryz.isAgg3
  z3 := Tryz.sizeOf3
  v3 := Tryz.zeroValue3
  t4 := Tryz.underlying4
  a4 := Tryz.isAgg4
  z4 := Tryz.sizeOf4
  v4 := Tryz.zeroValue4
  t5 := Tryz.underlying5
  a5 := Tryz.isAgg5
  z5 := Tryz.sizeOf5
  v5 := Tryz.zeroValue5
  t9 := Tryz.underlying9
  a9 := Tryz.isAgg9
  z9 := Tryz.sizeOf9
  v9 := Tryz.zeroValue9
  t46 := Tryz.underlying92
  a46 := Tryz.isAgg92
  z46 := Tryz.sizeOf92
  v46 := Tryz.zeroValue92
  t53 := Tryz.underlying75
  a53 := Tryz.isAgg75
  z53 := Tryz.sizeOf75
  v53 := Tryz.zeroValue75 }
/-- bits.Len64: "Len64 returns the minimum number of bits required to represent x; the result is 0 for x == 0.": IT RETURNS 'Lib.bitLen x'; the world is as it was. ('h0', 'h1': x is a uint64.) (LAID: no walk: one application.) -/
theorem Tryz.bits_Len64 (x : Int) (w : World) (h0 : 0 ≤ x) (h1 : x ≤ 18446744073709551615) :
    Calls Tryz.prog 113 #[.int .u64 x] w fun e w' => e = .returned (.int .i64 (Lib.bitLen x.toNat)) ∧ w' = w := Any.bits_Len64 Tryz.lays129 x w h0 h1
def Tryz.laysBin36_ren : Go.Shelf.Ren := ⟨fun | 36 => 67 | n => n, fun | 37 => 115 | 22 => 24 | 23 => 119 | 0 => 0 | 5 => 5 | 45 => 92 | n => n, fun | n => n⟩
theorem Tryz.laysBin36 : Go.Proofs.LaysBin.n36 Tryz.prog Tryz.laysBin36_ren := {
  mixed := by kernel_rfl
  f36 := Tryz.func67.trans (congrArg some (by kernel_rfl))
  t0 := Tryz.underlying0
  a0 := Tryz.isAgg0
  z0 := Tryz.sizeOf0
  v0 := Tryz.zeroValue0
  i0 := by kernel_rfl
  t5 := Tryz.underlying5
  a5 := Tryz.isAgg5
  z5 := Tryz.sizeOf5
  v5 := Tryz.zeroValue5
  i5 := by kernel_rfl
  t22 := Tryz.underlying24
  a22 := Tryz.isAgg24
  z22 := Tryz.sizeOf24
  v22 := Tryz.zeroValue24
  i22 := by kernel_rfl
  t23 := Tryz.underlying119
  a23 := Tryz.isAgg119
  z23 := Tryz.sizeOf119
  v23 := Tryz.zeroValue119
  i23 := by kernel_rfl
  t37 := Tryz.underlying115
  a37 := Tryz.isAgg115
  z37 := Tryz.sizeOf115
  v37 := Tryz.zeroValue115
  i37 := by kernel_rfl
  t45 := Tryz.underlying92
  a45 := Tryz.isAgg92
  z45 := Tryz.sizeOf92
  v45 := Tryz.zeroValue92
  i45 := by kernel_rfl }
open Go.RowKit in
/-- binary.BigEndian.Uint16: "Uint16 returns the uint16 representation of b[0:2].": THE NUMBER THAT THE FIRST 2 BYTES SPELL, the greatest byte first ('Lib.beNat'). Of what was there nothing has turned (the receiver, an empty struct, is laid in a new block without cells; the statement's order is drawn). (LAID: no walk: one application.) -/
theorem Tryz.binary_BE_Uint16 (g o n c : Nat) (b0 b1 : UInt8) (w : World) (hn : 2 ≤ n) (c0 : w.cell? ⟨g, o, none⟩ = some (.int .u8 b0.toNat)) (c1 : w.cell? ⟨g, o + 1, none⟩ = some (.int .u8 b1.toNat)) :
    Calls Tryz.prog 67 #[.agg #[], .slice (some ⟨g, o, none⟩) n c] w fun e w' => e = .returned (.int .u16 (Lib.beNat [b0, b1])) ∧ Below w.heap.size w w' := Any.binary_BE_Uint16 Tryz.laysBin36 g o n c b0 b1 w hn c0 c1
def Tryz.laysBin39_ren : Go.Shelf.Ren := ⟨fun | 39 => 61 | n => n, fun | 37 => 115 | 22 => 24 | 29 => 59 | 0 => 0 | 5 => 5 | 45 => 92 | n => n, fun | n => n⟩
theorem Tryz.laysBin39 : Go.Proofs.LaysBin.n39 Tryz.prog Tryz.laysBin39_ren := {
  mixed := by kernel_rfl
  f39 := Tryz.func61.trans (congrArg some (by kernel_rfl))
  t0 := Tryz.underlying0
  a0 := Tryz.isAgg0
  z0 := Tryz.sizeOf0
  v0 := Tryz.zeroValue0
  i0 := by kernel_rfl
  t5 := Tryz.underlying5
  a5 := Tryz.isAgg5
  z5 := Tryz.sizeOf5
  v5 := Tryz.zeroValue5
  i5 := by kernel_rfl
  t22 := Tryz.underlying24
  a22 := Tryz.isAgg24
  z22 := Tryz.sizeOf24
  v22 := Tryz.zeroValue24
  i22 := by kernel_rfl
  t29 := Tryz.underlying59
  a29 := Tryz.isAgg59
  z29 := Tryz.sizeOf59
  v29 := Tryz.zeroValue59
  i29 := by kernel_rfl
  t37 := Tryz.underlying115
  a37 := Tryz.isAgg115
  z37 := Tryz.sizeOf115
  v37 := Tryz.zeroValue115
  i37 := by kernel_rfl
  t45 := Tryz.underlying92
  a45 := Tryz.isAgg92
  z45 := Tryz.sizeOf92
  v45 := Tryz.zeroValue92
  i45 := by kernel_rfl }
open Go.RowKit in
/-- binary.BigEndian.Uint32: "Uint32 returns the uint32 representation of b[0:4].": THE NUMBER THAT THE FIRST 4 BYTES SPELL, the greatest byte first ('Lib.beNat'). Of what was there nothing has turned (the receiver, an empty struct, is laid in a new block without cells; the statement's order is drawn). (LAID: no walk: one application.) -/
theorem Tryz.binary_BE_Uint32 (g o n c : Nat) (b0 b1 b2 b3 : UInt8) (w : World) (hn : 4 ≤ n) (c0 : w.cell? ⟨g, o, none⟩ = some (.int .u8 b0.toNat)) (c1 : w.cell? ⟨g, o + 1, none⟩ = some (.int .u8 b1.toNat)) (c2 : w.cell? ⟨g, o + 2, none⟩ = some (.int .u8 b2.toNat)) (c3 : w.cell? ⟨g, o + 3, none⟩ = some (.int .u8 b3.toNat)) :
    Calls Tryz.prog 61 #[.agg #[], .slice (some ⟨g, o, none⟩) n c] w fun e w' => e = .returned (.int .u32 (Lib.beNat [b0, b1, b2, b3])) ∧ Below w.heap.size w w' := Any.binary_BE_Uint32 Tryz.laysBin39 g o n c b0 b1 b2 b3 w hn c0 c1 c2 c3
open Go.RowKit in
/-- binary.BigEndian.Uint16, b SHORTER THAN 2: IT PANICS: Go's 'runtime error: index out of range [1] with length n' ('Lib.boundsPanicked'). THE WORLD: the receiver's new block without cells, and the draw of the panic's flag. (LAID: no walk: one application.) -/
theorem Tryz.binary_BE_Uint16_panics (ao : Option Addr) (n c : Nat) (w : World) (hn : n < 2) (hnil : ao = none → n = 0) :
    Calls Tryz.prog 67 #[.agg #[], .slice ao n c] w fun e w' => Lib.boundsPanicked Tryz.prog 1 n e ∧ w' = (w.alloc (.cells #[] 115)).drew := Any.binary_BE_Uint16_panics Tryz.laysBin36 ao n c w hn hnil
open Go.RowKit in
/-- binary.BigEndian.Uint32, b SHORTER THAN 4: IT PANICS: Go's 'runtime error: index out of range [3] with length n' ('Lib.boundsPanicked'). THE WORLD: the receiver's new block without cells, and the draw of the panic's flag. (LAID: no walk: one application.) -/
theorem Tryz.binary_BE_Uint32_panics (ao : Option Addr) (n c : Nat) (w : World) (hn : n < 4) (hnil : ao = none → n = 0) :
    Calls Tryz.prog 61 #[.agg #[], .slice ao n c] w fun e w' => Lib.boundsPanicked Tryz.prog 3 n e ∧ w' = (w.alloc (.cells #[] 115)).drew := Any.binary_BE_Uint32_panics Tryz.laysBin39 ao n c w hn hnil
def Tryz.laysGg26_ren : Go.Shelf.Ren := ⟨fun | 26 => 114 | n => n, fun | 44 => 156 | 3 => 3 | 0 => 0 | 4 => 4 | 26 => 145 | 37 => 151 | n => n, fun | n => n⟩
theorem Tryz.laysGg26 : Go.Proofs.LaysGg.n26 Tryz.prog Tryz.laysGg26_ren := {
  mixed := by kernel_rfl
  f26 := Tryz.func114.trans (congrArg some (by kernel_rfl))
  t0 := Tryz.underlying0
  a0 := Tryz.isAgg0
  z0 := Tryz.sizeOf0
  v0 := Tryz.zeroValue0
  i0 := by kernel_rfl
  t3 := Tryz.underlying3
  a3 := Tryz.isAgg3
  z3 := Tryz.sizeOf3
  v3 := Tryz.zeroValue3
  i3 := by kernel_rfl
  t4 := Tryz.underlying4
  a4 := Tryz.isAgg4
  z4 := Tryz.sizeOf4
  v4 := Tryz.zeroValue4
  i4 := by kernel_rfl
  t26 := Tryz.underlying145
  a26 := Tryz.isAgg145
  z26 := Tryz.sizeOf145
  v26 := Tryz.zeroValue145
  i26 := by kernel_rfl
  t37 := Tryz.underlying151
  a37 := Tryz.isAgg151
  z37 := Tryz.sizeOf151
  v37 := Tryz.zeroValue151
  i37 := by kernel_rfl
  t44 := Tryz.underlying156
  a44 := Tryz.isAgg156
  z44 := Tryz.sizeOf156
  v44 := Tryz.zeroValue156
  i44 := by kernel_rfl }
open Go.RowKit Go.Lib Go.Sort in
theorem Tryz.insertionSort_func_one {α : Type} [Inhabited α] (enc : α → Value) (lt : α → α → Bool) (g : Nat) (lb : Array Value) (sf : Nat) (sb : Array Value) (blk off a b : Nat) (d : Array α) (w : World) (eg : ∀ args w, (callFunc g args).run Tryz.prog w = .ok (.enter g args) w) (hless : LessReads Tryz.prog g lb enc lt blk off d.size w) (hswap : SwapSwaps Tryz.prog sf sb enc blk off d.size) (hH : Holds enc w blk off d) (hblk : blk < w.heap.size) (hab : a ≤ b) (hb : b ≤ d.size) (hsz : d.size < 4611686018427387904) :
    Calls Tryz.prog 114 #[.agg #[.func (.func g) #[] lb, .func (.func sf) #[] sb], .int .i64 a, .int .i64 b] w fun e w' =>
      e = .returned (.tuple #[]) ∧ ∃ n, w' = putRow enc (Sort.ahead (w.alloc (.cells #[.func (.func g) #[] lb, .func (.func sf) #[] sb] 156)) n) blk off (Sort.insertionSort lt d a b) := Any.insertionSort_func_one Tryz.laysGg26 enc lt g lb sf sb blk off a b d w eg hless hswap hH hblk hab hb hsz
open Go.RowKit in
/-- binary.BigEndian.Uint16, ITS PREMISES 'open_ints'' CONCLUSION TO THE LETTER: a slice at WHATEVER address a, the numbers zs that its cells hold: THE NUMBER THAT THE FIRST 2 SPELL ('Lib.beZ'). (LAID: no walk: one application.) -/
theorem Tryz.binary_BE_Uint16_z (a : Addr) (n c : Nat) (zs : List Int) (w : World) (hn : 2 ≤ n) (hl : 2 ≤ zs.length) (hcell : ∀ i, i < zs.length → w.cell? (a.add i) = some (.int .u8 (zs.getD i 0))) (hw : ∀ z ∈ zs, (Lit.int .u8 z).wf = true) :
    Calls Tryz.prog 67 #[.agg #[], .slice (some a) n c] w fun e w' => e = .returned (.int .u16 (Lib.beZ (zs.take 2))) ∧ Below w.heap.size w w' := Any.binary_BE_Uint16_z Tryz.laysBin36 a n c zs w hn hl hcell hw
open Go.RowKit in
/-- binary.BigEndian.Uint32, ITS PREMISES 'open_ints'' CONCLUSION TO THE LETTER: a slice at WHATEVER address a, the numbers zs that its cells hold: THE NUMBER THAT THE FIRST 4 SPELL ('Lib.beZ'). (LAID: no walk: one application.) -/
theorem Tryz.binary_BE_Uint32_z (a : Addr) (n c : Nat) (zs : List Int) (w : World) (hn : 4 ≤ n) (hl : 4 ≤ zs.length) (hcell : ∀ i, i < zs.length → w.cell? (a.add i) = some (.int .u8 (zs.getD i 0))) (hw : ∀ z ∈ zs, (Lit.int .u8 z).wf = true) :
    Calls Tryz.prog 61 #[.agg #[], .slice (some a) n c] w fun e w' => e = .returned (.int .u32 (Lib.beZ (zs.take 4))) ∧ Below w.heap.size w w' := Any.binary_BE_Uint32_z Tryz.laysBin39 a n c zs w hn hl hcell hw
def Tryz.laysGg14_ren : Go.Shelf.Ren := ⟨fun | 14 => 103 | 26 => 114 | 27 => 115 | 28 => 116 | 29 => 117 | 30 => 118 | 31 => 119 | 32 => 120 | 33 => 121 | 34 => 122 | 35 => 123 | 36 => 124 | 37 => 125 | 38 => 126 | 13 => 102 | 39 => 127 | 24 => 96 | 25 => 113 | n => n, fun | 44 => 156 | 3 => 3 | 0 => 0 | 4 => 4 | 54 => 163 | 53 => 162 | 26 => 145 | 58 => 167 | 37 => 151 | 60 => 169 | 41 => 92 | 51 => 75 | 64 => 173 | 66 => 175 | 67 => 176 | 49 => 59 | 5 => 5 | 9 => 9 | n => n, fun | n => n⟩
theorem Tryz.laysGg14 : Go.Proofs.LaysGg.n14 Tryz.prog Tryz.laysGg14_ren := {
  mixed := by kernel_rfl
  f13 := Tryz.func102.trans (congrArg some (by kernel_rfl))
  f14 := Tryz.func103.trans (congrArg some (by kernel_rfl))
  f24 := Tryz.func96.trans (congrArg some (by kernel_rfl))
  f25 := Tryz.func113.trans (congrArg some (by kernel_rfl))
  f26 := Tryz.func114.trans (congrArg some (by kernel_rfl))
  f27 := Tryz.func115.trans (congrArg some (by kernel_rfl))
  f28 := Tryz.func116.trans (congrArg some (by kernel_rfl))
  f29 := Tryz.func117.trans (congrArg some (by kernel_rfl))
  f30 := Tryz.func118.trans (congrArg some (by kernel_rfl))
  f31 := Tryz.func119.trans (congrArg some (by kernel_rfl))
  f32 := Tryz.func120.trans (congrArg some (by kernel_rfl))
  f33 := Tryz.func121.trans (congrArg some (by kernel_rfl))
  f34 := Tryz.func122.trans (congrArg some (by kernel_rfl))
  f35 := Tryz.func123.trans (congrArg some (by kernel_rfl))
  f36 := Tryz.func124.trans (congrArg some (by kernel_rfl))
  f37 := Tryz.func125.trans (congrArg some (by kernel_rfl))
  f38 := Tryz.func126.trans (congrArg some (by kernel_rfl))
  f39 := Tryz.func127.trans (congrArg some (by kernel_rfl))
  t0 := Tryz.underlying0
  a0 := Tryz.isAgg0
  z0 := Tryz.sizeOf0
  v0 := Tryz.zeroValue0
  i0 := by kernel_rfl
  t3 := Tryz.underlying3
  a3 := Tryz.isAgg3
  z3 := Tryz.sizeOf3
  v3 := Tryz.zeroValue3
  i3 := by kernel_rfl
  t4 := Tryz.underlying4
  a4 := Tryz.isAgg4
  z4 := Tryz.sizeOf4
  v4 := Tryz.zeroValue4
  i4 := by kernel_rfl
  t5 := Tryz.underlying5
  a5 := Tryz.isAgg5
  z5 := Tryz.sizeOf5
  v5 := Tryz.zeroValue5
  i5 := by kernel_rfl
  t9 := Tryz.underlying9
  a9 := Tryz.isAgg9
  z9 := Tryz.sizeOf9
  v9 := Tryz.zeroValue9
  i9 := by kernel_rfl
  t26 := Tryz.underlying145
  a26 := Tryz.isAgg145
  z26 := Tryz.sizeOf145
  v26 := Tryz.zeroValue145
  i26 := by kernel_rfl
  t37 := Tryz.underlying151
  a37 := Tryz.isAgg151
  z37 := Tryz.sizeOf151
  v37 := Tryz.zeroValue151
  i37 := by kernel_rfl
  t41 := Tryz.underlying92
  a41 := Tryz.isAgg92
  z41 := Tryz.sizeOf92
  v41 := Tryz.zeroValue92
  i41 := by kernel_rfl
  t44 := Tryz.underlying156
  a44 := Tryz.isAgg156
  z44 := Tryz.sizeOf156
  v44 := Tryz.zeroValue156
  i44 := by kernel_rfl
  t49 := Tryz.underlying59
  a49 := Tryz.isAgg59
  z49 := Tryz.sizeOf59
  v49 := Tryz.zeroValue59
  i49 := by kernel_rfl
  t51 := Tryz.underlying75
  a51 := Tryz.isAgg75
  z51 := Tryz.sizeOf75
  v51 := Tryz.zeroValue75
  i51 := by kernel_rfl
  t53 := Tryz.underlying162
  a53 := Tryz.isAgg162
  z53 := Tryz.sizeOf162
  v53 := Tryz.zeroValue162
  i53 := by kernel_rfl
  t54 := Tryz.underlying163
  a54 := Tryz.isAgg163
  z54 := Tryz.sizeOf163
  v54 := Tryz.zeroValue163
  i54 := by kernel_rfl
  t58 := Tryz.underlying167
  a58 := Tryz.isAgg167
  z58 := Tryz.sizeOf167
  v58 := Tryz.zeroValue167
  i58 := by kernel_rfl
  t60 := Tryz.underlying169
  a60 := Tryz.isAgg169
  z60 := Tryz.sizeOf169
  v60 := Tryz.zeroValue169
  i60 := by kernel_rfl
  t64 := Tryz.underlying173
  a64 := Tryz.isAgg173
  z64 := Tryz.sizeOf173
  v64 := Tryz.zeroValue173
  i64 := by kernel_rfl
  t66 := Tryz.underlying175
  a66 := Tryz.isAgg175
  z66 := Tryz.sizeOf175
  v66 := Tryz.zeroValue175
  i66 := by kernel_rfl
  t67 := Tryz.underlying176
  a67 := Tryz.isAgg176
  z67 := Tryz.sizeOf176
  v67 := Tryz.zeroValue176
  i67 := by kernel_rfl }
open Go.RowKit Go.Lib Go.Sort in
/-- sort.pdqsort_func AT A RANGE OF AT MOST 12. (LAID: no walk: one application.) -/
theorem Tryz.pdqsort_func_small {α : Type} [Inhabited α] (enc : α → Value) (lt : α → α → Bool) (g : Nat) (lb : Array Value) (sf : Nat) (sb : Array Value) (blk off a b : Nat) (lim : Int) (d : Array α) (w : World) (eg : ∀ args w, (callFunc g args).run Tryz.prog w = .ok (.enter g args) w) (hless : LessReads Tryz.prog g lb enc lt blk off d.size w) (hswap : SwapSwaps Tryz.prog sf sb enc blk off d.size) (hH : Holds enc w blk off d) (hblk : blk < w.heap.size) (hab : a ≤ b) (hb : b ≤ d.size) (hsz : d.size < 4611686018427387904) (h12 : b - a ≤ 12) :
    Calls Tryz.prog 103 #[.agg #[.func (.func g) #[] lb, .func (.func sf) #[] sb], .int .i64 a, .int .i64 b, .int .i64 lim] w fun e w' =>
      e = .returned (.tuple #[]) ∧ ∃ n, w' = putRow enc (Sort.ahead ((w.alloc (.cells #[.func (.func g) #[] lb, .func (.func sf) #[] sb] 156)).alloc (.cells #[.func (.func g) #[] lb, .func (.func sf) #[] sb] 156)) n) blk off (Sort.insertionSort lt d a b) := Any.pdqsort_func_small Tryz.laysGg14 enc lt g lb sf sb blk off a b lim d w eg hless hswap hH hblk hab hb hsz h12
def Tryz.laysGg6_ren : Go.Shelf.Ren := ⟨fun | 6 => 97 | 10 => 99 | 11 => 100 | 12 => 101 | 13 => 102 | 14 => 103 | 24 => 96 | 25 => 113 | 26 => 114 | 27 => 115 | 28 => 116 | 29 => 117 | 30 => 118 | 31 => 119 | 32 => 120 | 33 => 121 | 34 => 122 | 35 => 123 | 36 => 124 | 37 => 125 | 38 => 126 | 39 => 127 | n => n, fun | 20 => 20 | 26 => 145 | 35 => 149 | 0 => 0 | 37 => 151 | 3 => 3 | 41 => 92 | 44 => 156 | 49 => 59 | 51 => 75 | 4 => 4 | 54 => 163 | 53 => 162 | 58 => 167 | 5 => 5 | 9 => 9 | 60 => 169 | 64 => 173 | 66 => 175 | 67 => 176 | 17 => 17 | 32 => 146 | 33 => 147 | 82 => 140 | 12 => 12 | 75 => 133 | 76 => 134 | 77 => 135 | 78 => 136 | 79 => 137 | 80 => 138 | n => n, fun | n => n⟩
theorem Tryz.laysGg6 : Go.Proofs.LaysGg.n6 Tryz.prog Tryz.laysGg6_ren := {
  mixed := by kernel_rfl
  f6 := Tryz.func97.trans (congrArg some (by kernel_rfl))
  f10 := Tryz.func99.trans (congrArg some (by kernel_rfl))
  f11 := Tryz.func100.trans (congrArg some (by kernel_rfl))
  f12 := Tryz.func101.trans (congrArg some (by kernel_rfl))
  f13 := Tryz.func102.trans (congrArg some (by kernel_rfl))
  f14 := Tryz.func103.trans (congrArg some (by kernel_rfl))
  f24 := Tryz.func96.trans (congrArg some (by kernel_rfl))
  f25 := Tryz.func113.trans (congrArg some (by kernel_rfl))
  f26 := Tryz.func114.trans (congrArg some (by kernel_rfl))
  f27 := Tryz.func115.trans (congrArg some (by kernel_rfl))
  f28 := Tryz.func116.trans (congrArg some (by kernel_rfl))
  f29 := Tryz.func117.trans (congrArg some (by kernel_rfl))
  f30 := Tryz.func118.trans (congrArg some (by kernel_rfl))
  f31 := Tryz.func119.trans (congrArg some (by kernel_rfl))
  f32 := Tryz.func120.trans (congrArg some (by kernel_rfl))
  f33 := Tryz.func121.trans (congrArg some (by kernel_rfl))
  f34 := Tryz.func122.trans (congrArg some (by kernel_rfl))
  f35 := Tryz.func123.trans (congrArg some (by kernel_rfl))
  f36 := Tryz.func124.trans (congrArg some (by kernel_rfl))
  f37 := Tryz.func125.trans (congrArg some (by kernel_rfl))
  f38 := Tryz.func126.trans (congrArg some (by kernel_rfl))
  f39 := Tryz.func127.trans (congrArg some (by kernel_rfl))
  t0 := Tryz.underlying0
  a0 := Tryz.isAgg0
  z0 := Tryz.sizeOf0
  v0 := Tryz.zeroValue0
  i0 := by kernel_rfl
  t3 := Tryz.underlying3
  a3 := Tryz.isAgg3
  z3 := Tryz.sizeOf3
  v3 := Tryz.zeroValue3
  i3 := by kernel_rfl
  t4 := Tryz.underlying4
  a4 := Tryz.isAgg4
  z4 := Tryz.sizeOf4
  v4 := Tryz.zeroValue4
  i4 := by kernel_rfl
  t5 := Tryz.underlying5
  a5 := Tryz.isAgg5
  z5 := Tryz.sizeOf5
  v5 := Tryz.zeroValue5
  i5 := by kernel_rfl
  t9 := Tryz.underlying9
  a9 := Tryz.isAgg9
  z9 := Tryz.sizeOf9
  v9 := Tryz.zeroValue9
  i9 := by kernel_rfl
  t12 := Tryz.underlying12
  a12 := Tryz.isAgg12
  z12 := Tryz.sizeOf12
  v12 := Tryz.zeroValue12
  i12 := by kernel_rfl
  t17 := Tryz.underlying17
  a17 := Tryz.isAgg17
  z17 := Tryz.sizeOf17
  v17 := Tryz.zeroValue17
  i17 := by kernel_rfl
  t20 := Tryz.underlying20
  a20 := Tryz.isAgg20
  z20 := Tryz.sizeOf20
  v20 := Tryz.zeroValue20
  i20 := by kernel_rfl
  t26 := Tryz.underlying145
  a26 := Tryz.isAgg145
  z26 := Tryz.sizeOf145
  v26 := Tryz.zeroValue145
  i26 := by kernel_rfl
  t32 := Tryz.underlying146
  a32 := Tryz.isAgg146
  z32 := Tryz.sizeOf146
  v32 := Tryz.zeroValue146
  i32 := by kernel_rfl
  t33 := Tryz.underlying147
  a33 := Tryz.isAgg147
  z33 := Tryz.sizeOf147
  v33 := Tryz.zeroValue147
  i33 := by kernel_rfl
  t35 := Tryz.underlying149
  a35 := Tryz.isAgg149
  z35 := Tryz.sizeOf149
  v35 := Tryz.zeroValue149
  i35 := by kernel_rfl
  t37 := Tryz.underlying151
  a37 := Tryz.isAgg151
  z37 := Tryz.sizeOf151
  v37 := Tryz.zeroValue151
  i37 := by kernel_rfl
  t41 := Tryz.underlying92
  a41 := Tryz.isAgg92
  z41 := Tryz.sizeOf92
  v41 := Tryz.zeroValue92
  i41 := by kernel_rfl
  t44 := Tryz.underlying156
  a44 := Tryz.isAgg156
  z44 := Tryz.sizeOf156
  v44 := Tryz.zeroValue156
  i44 := by kernel_rfl
  t49 := Tryz.underlying59
  a49 := Tryz.isAgg59
  z49 := Tryz.sizeOf59
  v49 := Tryz.zeroValue59
  i49 := by kernel_rfl
  t51 := Tryz.underlying75
  a51 := Tryz.isAgg75
  z51 := Tryz.sizeOf75
  v51 := Tryz.zeroValue75
  i51 := by kernel_rfl
  t53 := Tryz.underlying162
  a53 := Tryz.isAgg162
  z53 := Tryz.sizeOf162
  v53 := Tryz.zeroValue162
  i53 := by kernel_rfl
  t54 := Tryz.underlying163
  a54 := Tryz.isAgg163
  z54 := Tryz.sizeOf163
  v54 := Tryz.zeroValue163
  i54 := by kernel_rfl
  t58 := Tryz.underlying167
  a58 := Tryz.isAgg167
  z58 := Tryz.sizeOf167
  v58 := Tryz.zeroValue167
  i58 := by kernel_rfl
  t60 := Tryz.underlying169
  a60 := Tryz.isAgg169
  z60 := Tryz.sizeOf169
  v60 := Tryz.zeroValue169
  i60 := by kernel_rfl
  t64 := Tryz.underlying173
  a64 := Tryz.isAgg173
  z64 := Tryz.sizeOf173
  v64 := Tryz.zeroValue173
  i64 := by kernel_rfl
  t66 := Tryz.underlying175
  a66 := Tryz.isAgg175
  z66 := Tryz.sizeOf175
  v66 := Tryz.zeroValue175
  i66 := by kernel_rfl
  t67 := Tryz.underlying176
  a67 := Tryz.isAgg176
  z67 := Tryz.sizeOf176
  v67 := Tryz.zeroValue176
  i67 := by kernel_rfl
  t75 := Tryz.underlying133
  a75 := Tryz.isAgg133
  z75 := Tryz.sizeOf133
  v75 := Tryz.zeroValue133
  i75 := by kernel_rfl
  t76 := Tryz.underlying134
  a76 := Tryz.isAgg134
  z76 := Tryz.sizeOf134
  v76 := Tryz.zeroValue134
  i76 := by kernel_rfl
  t77 := Tryz.underlying135
  a77 := Tryz.isAgg135
  z77 := Tryz.sizeOf135
  v77 := Tryz.zeroValue135
  i77 := by kernel_rfl
  t78 := Tryz.underlying136
  a78 := Tryz.isAgg136
  z78 := Tryz.sizeOf136
  v78 := Tryz.zeroValue136
  i78 := by kernel_rfl
  t79 := Tryz.underlying137
  a79 := Tryz.isAgg137
  z79 := Tryz.sizeOf137
  v79 := Tryz.zeroValue137
  i79 := by kernel_rfl
  t80 := Tryz.underlying138
  a80 := Tryz.isAgg138
  z80 := Tryz.sizeOf138
  v80 := Tryz.zeroValue138
  i80 := by kernel_rfl
  t82 := Tryz.underlying140
  a82 := Tryz.isAgg140
  z82 := Tryz.sizeOf140
  v82 := Tryz.zeroValue140
  i82 := by kernel_rfl }
open Go.RowKit Go.Lib Go.Sort in
theorem Tryz.insertionSort_func_none (lf : Fn) (la lb : Array Value) (f : Nat) (sb : Array Value) (a b : Nat) (h : b ≤ a + 1) (ha : a < 4611686018427387904) (w : World) :
    Calls Tryz.prog 114 #[.agg #[.func lf la lb, .func (.func f) #[] sb], .int .i64 a, .int .i64 b] w fun e w' => e = .returned (.tuple #[]) ∧ w' = w.alloc (.cells #[.func lf la lb, .func (.func f) #[] sb] 156) := Any.insertionSort_func_none Tryz.laysGg26 lf la lb f sb a b h ha w
open Go.RowKit Go.Lib Go.Sort in
theorem Tryz.pdqsort_func_tiny (lf : Fn) (la lb : Array Value) (f : Nat) (sb : Array Value) (n : Nat) (h : n ≤ 1) (lim : Int) (w : World) :
    Calls Tryz.prog 103 #[.agg #[.func lf la lb, .func (.func f) #[] sb], .int .i64 0, .int .i64 n, .int .i64 lim] w fun e w' => e = .returned (.tuple #[]) ∧ w' = (w.alloc (.cells #[.func lf la lb, .func (.func f) #[] sb] 156)).alloc (.cells #[.func lf la lb, .func (.func f) #[] sb] 156) := Any.pdqsort_func_tiny Tryz.laysGg14 lf la lb f sb n h lim w
open Go.RowKit Go.Lib Go.Sort in
/-- sort.insertionSort_func, from a world to a 'sortWorld' of it. (LAID: no walk: one application.) -/
theorem Tryz.insertionSort_func_w {α : Type} [Inhabited α] (enc : α → Value) (lt : α → α → Bool) (g : Nat) (lb : Array Value) (sf : Nat) (sb : Array Value) (blk off a b : Nat) (d : Array α) (w : World) (eg : ∀ args w, (callFunc g args).run Tryz.prog w = .ok (.enter g args) w) (hless : LessReads Tryz.prog g lb enc lt blk off d.size w) (hswap : SwapSwaps Tryz.prog sf sb enc blk off d.size) (hH : Holds enc w blk off d) (hblk : blk < w.heap.size) (hab : a ≤ b) (hb : b ≤ d.size) (hsz : d.size < 4611686018427387904) :
    Calls Tryz.prog 114 #[.agg #[.func (.func g) #[] lb, .func (.func sf) #[] sb], .int .i64 a, .int .i64 b] w fun e w' => e = .returned (.tuple #[]) ∧ ∃ n os, w' = sortWorld enc w blk off n (Sort.insertionSort lt d a b) os := Any.insertionSort_func_w Tryz.laysGg26 enc lt g lb sf sb blk off a b d w eg hless hswap hH hblk hab hb hsz
def Tryz.laysGg30_ren : Go.Shelf.Ren := ⟨fun | 30 => 118 | n => n, fun | 44 => 156 | 3 => 3 | 0 => 0 | 4 => 4 | 37 => 151 | 26 => 145 | n => n, fun | n => n⟩
theorem Tryz.laysGg30 : Go.Proofs.LaysGg.n30 Tryz.prog Tryz.laysGg30_ren := {
  mixed := by kernel_rfl
  f30 := Tryz.func118.trans (congrArg some (by kernel_rfl))
  t0 := Tryz.underlying0
  a0 := Tryz.isAgg0
  z0 := Tryz.sizeOf0
  v0 := Tryz.zeroValue0
  i0 := by kernel_rfl
  t3 := Tryz.underlying3
  a3 := Tryz.isAgg3
  z3 := Tryz.sizeOf3
  v3 := Tryz.zeroValue3
  i3 := by kernel_rfl
  t4 := Tryz.underlying4
  a4 := Tryz.isAgg4
  z4 := Tryz.sizeOf4
  v4 := Tryz.zeroValue4
  i4 := by kernel_rfl
  t26 := Tryz.underlying145
  a26 := Tryz.isAgg145
  z26 := Tryz.sizeOf145
  v26 := Tryz.zeroValue145
  i26 := by kernel_rfl
  t37 := Tryz.underlying151
  a37 := Tryz.isAgg151
  z37 := Tryz.sizeOf151
  v37 := Tryz.zeroValue151
  i37 := by kernel_rfl
  t44 := Tryz.underlying156
  a44 := Tryz.isAgg156
  z44 := Tryz.sizeOf156
  v44 := Tryz.zeroValue156
  i44 := by kernel_rfl }
open Go.RowKit Go.Lib Go.Sort in
theorem Tryz.reverseRange_func_one {α : Type} [Inhabited α] (enc : α → Value) (lf : Fn) (la lb : Array Value) (sf : Nat) (sb : Array Value) (blk off a b : Nat) (d : Array α) (w : World) (hswap : SwapSwaps Tryz.prog sf sb enc blk off d.size) (hH : Holds enc w blk off d) (hblk : blk < w.heap.size) (hab : a ≤ b) (hb : b ≤ d.size) (hsz : d.size < 4611686018427387904) :
    Calls Tryz.prog 118 #[.agg #[.func lf la lb, .func (.func sf) #[] sb], .int .i64 a, .int .i64 b] w fun e w' => e = .returned (.tuple #[]) ∧ ∃ n, w' = putRow enc (Sort.ahead (w.alloc (.cells #[.func lf la lb, .func (.func sf) #[] sb] 156)) n) blk off (reverseRange d a b) := Any.reverseRange_func_one Tryz.laysGg30 enc lf la lb sf sb blk off a b d w hswap hH hblk hab hb hsz
open Go.RowKit Go.Lib Go.Sort in
/-- sort.reverseRange_func, from a world to a 'sortWorld' of it. (LAID: no walk: one application.) -/
theorem Tryz.reverseRange_func_w {α : Type} [Inhabited α] (enc : α → Value) (lf : Fn) (la lb : Array Value) (sf : Nat) (sb : Array Value) (blk off a b : Nat) (d : Array α) (w : World) (hswap : SwapSwaps Tryz.prog sf sb enc blk off d.size) (hH : Holds enc w blk off d) (hblk : blk < w.heap.size) (hab : a ≤ b) (hb : b ≤ d.size) (hsz : d.size < 4611686018427387904) :
    Calls Tryz.prog 118 #[.agg #[.func lf la lb, .func (.func sf) #[] sb], .int .i64 a, .int .i64 b] w fun e w' => e = .returned (.tuple #[]) ∧ ∃ n os, w' = sortWorld enc w blk off n (reverseRange d a b) os := Any.reverseRange_func_w Tryz.laysGg30 enc lf la lb sf sb blk off a b d w hswap hH hblk hab hb hsz
def Tryz.laysGg39_ren : Go.Shelf.Ren := ⟨fun | 39 => 127 | n => n, fun | 44 => 156 | 3 => 3 | 64 => 173 | 0 => 0 | 26 => 145 | 4 => 4 | 37 => 151 | n => n, fun | n => n⟩
theorem Tryz.laysGg39 : Go.Proofs.LaysGg.n39 Tryz.prog Tryz.laysGg39_ren := {
  mixed := by kernel_rfl
  f39 := Tryz.func127.trans (congrArg some (by kernel_rfl))
  t0 := Tryz.underlying0
  a0 := Tryz.isAgg0
  z0 := Tryz.sizeOf0
  v0 := Tryz.zeroValue0
  i0 := by kernel_rfl
  t3 := Tryz.underlying3
  a3 := Tryz.isAgg3
  z3 := Tryz.sizeOf3
  v3 := Tryz.zeroValue3
  i3 := by kernel_rfl
  t4 := Tryz.underlying4
  a4 := Tryz.isAgg4
  z4 := Tryz.sizeOf4
  v4 := Tryz.zeroValue4
  i4 := by kernel_rfl
  t26 := Tryz.underlying145
  a26 := Tryz.isAgg145
  z26 := Tryz.sizeOf145
  v26 := Tryz.zeroValue145
  i26 := by kernel_rfl
  t37 := Tryz.underlying151
  a37 := Tryz.isAgg151
  z37 := Tryz.sizeOf151
  v37 := Tryz.zeroValue151
  i37 := by kernel_rfl
  t44 := Tryz.underlying156
  a44 := Tryz.isAgg156
  z44 := Tryz.sizeOf156
  v44 := Tryz.zeroValue156
  i44 := by kernel_rfl
  t64 := Tryz.underlying173
  a64 := Tryz.isAgg173
  z64 := Tryz.sizeOf173
  v64 := Tryz.zeroValue173
  i64 := by kernel_rfl }
open Go.RowKit Go.Lib Go.Sort in
theorem Tryz.order2_func {α : Type} [Inhabited α] (enc : α → Value) (lt : α → α → Bool) (g : Nat) (lb : Array Value) (sfn : Fn) (sa sb : Array Value) (blk off : Nat) (w0 W : World) (d : Array α) (a b cb co s : Nat) (eg : ∀ args w, (callFunc g args).run Tryz.prog w = .ok (.enter g args) w) (hL : LessReads Tryz.prog g lb enc lt blk off d.size w0) (hW : SW enc w0 blk off d W) (ha : a < d.size) (hb : b < d.size) (hS : Holds (Value.int .i64) W cb co (one s)) (hcb : cb < W.heap.size) (hs : s < 4611686018427387904) :
    Calls Tryz.prog 127 #[.agg #[.func (.func g) #[] lb, .func sfn sa sb], .int .i64 a, .int .i64 b, .pointer (some ⟨cb, co, none⟩)] W fun e w' =>
      e = .returned (.tuple #[.int .i64 (order2 lt d a b s).1, .int .i64 (order2 lt d a b s).2.1]) ∧ ∃ n os, w' = sortWorld (Value.int .i64) W cb co n (one (order2 lt d a b s).2.2) os := Any.order2_func Tryz.laysGg39 enc lt g lb sfn sa sb blk off w0 W d a b cb co s eg hL hW ha hb hS hcb hs
def Tryz.laysGg38_ren : Go.Shelf.Ren := ⟨fun | 38 => 126 | 39 => 127 | n => n, fun | 44 => 156 | 3 => 3 | 64 => 173 | 0 => 0 | 67 => 176 | 26 => 145 | 4 => 4 | 37 => 151 | n => n, fun | n => n⟩
theorem Tryz.laysGg38 : Go.Proofs.LaysGg.n38 Tryz.prog Tryz.laysGg38_ren := {
  mixed := by kernel_rfl
  f38 := Tryz.func126.trans (congrArg some (by kernel_rfl))
  f39 := Tryz.func127.trans (congrArg some (by kernel_rfl))
  t0 := Tryz.underlying0
  a0 := Tryz.isAgg0
  z0 := Tryz.sizeOf0
  v0 := Tryz.zeroValue0
  i0 := by kernel_rfl
  t3 := Tryz.underlying3
  a3 := Tryz.isAgg3
  z3 := Tryz.sizeOf3
  v3 := Tryz.zeroValue3
  i3 := by kernel_rfl
  t4 := Tryz.underlying4
  a4 := Tryz.isAgg4
  z4 := Tryz.sizeOf4
  v4 := Tryz.zeroValue4
  i4 := by kernel_rfl
  t26 := Tryz.underlying145
  a26 := Tryz.isAgg145
  z26 := Tryz.sizeOf145
  v26 := Tryz.zeroValue145
  i26 := by kernel_rfl
  t37 := Tryz.underlying151
  a37 := Tryz.isAgg151
  z37 := Tryz.sizeOf151
  v37 := Tryz.zeroValue151
  i37 := by kernel_rfl
  t44 := Tryz.underlying156
  a44 := Tryz.isAgg156
  z44 := Tryz.sizeOf156
  v44 := Tryz.zeroValue156
  i44 := by kernel_rfl
  t64 := Tryz.underlying173
  a64 := Tryz.isAgg173
  z64 := Tryz.sizeOf173
  v64 := Tryz.zeroValue173
  i64 := by kernel_rfl
  t67 := Tryz.underlying176
  a67 := Tryz.isAgg176
  z67 := Tryz.sizeOf176
  v67 := Tryz.zeroValue176
  i67 := by kernel_rfl }
open Go.RowKit Go.Lib Go.Sort in
theorem Tryz.median_func {α : Type} [Inhabited α] (enc : α → Value) (lt : α → α → Bool) (g : Nat) (lb : Array Value) (sfn : Fn) (sa sb : Array Value) (blk off : Nat) (w0 W : World) (d : Array α) (a b c cb co s : Nat) (eg : ∀ args w, (callFunc g args).run Tryz.prog w = .ok (.enter g args) w) (hL : LessReads Tryz.prog g lb enc lt blk off d.size w0) (hW : SW enc w0 blk off d W) (ha : a < d.size) (hb : b < d.size) (hc : c < d.size) (hS : Holds (Value.int .i64) W cb co (one s)) (hcb0 : w0.heap.size ≤ cb) (hcb : cb < W.heap.size) (hs : s + 3 < 4611686018427387904) :
    Calls Tryz.prog 126 #[.agg #[.func (.func g) #[] lb, .func sfn sa sb], .int .i64 a, .int .i64 b, .int .i64 c, .pointer (some ⟨cb, co, none⟩)] W fun e w' =>
      e = .returned (.int .i64 (median lt d a b c s).1) ∧ ∃ n os, w' = sortWorld (Value.int .i64) W cb co n (one (median lt d a b c s).2) os := Any.median_func Tryz.laysGg38 enc lt g lb sfn sa sb blk off w0 W d a b c cb co s eg hL hW ha hb hc hS hcb0 hcb hs
def Tryz.laysGg37_ren : Go.Shelf.Ren := ⟨fun | 37 => 125 | 38 => 126 | 39 => 127 | n => n, fun | 44 => 156 | 3 => 3 | 64 => 173 | 0 => 0 | 67 => 176 | 26 => 145 | 4 => 4 | 37 => 151 | n => n, fun | n => n⟩
theorem Tryz.laysGg37 : Go.Proofs.LaysGg.n37 Tryz.prog Tryz.laysGg37_ren := {
  mixed := by kernel_rfl
  f37 := Tryz.func125.trans (congrArg some (by kernel_rfl))
  f38 := Tryz.func126.trans (congrArg some (by kernel_rfl))
  f39 := Tryz.func127.trans (congrArg some (by kernel_rfl))
  t0 := Tryz.underlying0
  a0 := Tryz.isAgg0
  z0 := Tryz.sizeOf0
  v0 := Tryz.zeroValue0
  i0 := by kernel_rfl
  t3 := Tryz.underlying3
  a3 := Tryz.isAgg3
  z3 := Tryz.sizeOf3
  v3 := Tryz.zeroValue3
  i3 := by kernel_rfl
  t4 := Tryz.underlying4
  a4 := Tryz.isAgg4
  z4 := Tryz.sizeOf4
  v4 := Tryz.zeroValue4
  i4 := by kernel_rfl
  t26 := Tryz.underlying145
  a26 := Tryz.isAgg145
  z26 := Tryz.sizeOf145
  v26 := Tryz.zeroValue145
  i26 := by kernel_rfl
  t37 := Tryz.underlying151
  a37 := Tryz.isAgg151
  z37 := Tryz.sizeOf151
  v37 := Tryz.zeroValue151
  i37 := by kernel_rfl
  t44 := Tryz.underlying156
  a44 := Tryz.isAgg156
  z44 := Tryz.sizeOf156
  v44 := Tryz.zeroValue156
  i44 := by kernel_rfl
  t64 := Tryz.underlying173
  a64 := Tryz.isAgg173
  z64 := Tryz.sizeOf173
  v64 := Tryz.zeroValue173
  i64 := by kernel_rfl
  t67 := Tryz.underlying176
  a67 := Tryz.isAgg176
  z67 := Tryz.sizeOf176
  v67 := Tryz.zeroValue176
  i67 := by kernel_rfl }
open Go.RowKit Go.Lib Go.Sort in
theorem Tryz.medianAdjacent_func {α : Type} [Inhabited α] (enc : α → Value) (lt : α → α → Bool) (g : Nat) (lb : Array Value) (sfn : Fn) (sa sb : Array Value) (blk off : Nat) (w0 W : World) (d : Array α) (a cb co s : Nat) (eg : ∀ args w, (callFunc g args).run Tryz.prog w = .ok (.enter g args) w) (hL : LessReads Tryz.prog g lb enc lt blk off d.size w0) (hW : SW enc w0 blk off d W) (ha1 : 1 ≤ a) (ha2 : a + 1 < d.size) (hsz : d.size < 4611686018427387904) (hS : Holds (Value.int .i64) W cb co (one s)) (hcb0 : w0.heap.size ≤ cb) (hcb : cb < W.heap.size) (hs : s + 3 < 4611686018427387904) :
    Calls Tryz.prog 125 #[.agg #[.func (.func g) #[] lb, .func sfn sa sb], .int .i64 a, .pointer (some ⟨cb, co, none⟩)] W fun e w' =>
      e = .returned (.int .i64 (medianAdjacent lt d a s).1) ∧ ∃ n os, w' = sortWorld (Value.int .i64) W cb co n (one (medianAdjacent lt d a s).2) os := Any.medianAdjacent_func Tryz.laysGg37 enc lt g lb sfn sa sb blk off w0 W d a cb co s eg hL hW ha1 ha2 hsz hS hcb0 hcb hs
def Tryz.laysGg29_ren : Go.Shelf.Ren := ⟨fun | 29 => 117 | 37 => 125 | 38 => 126 | 39 => 127 | n => n, fun | 44 => 156 | 3 => 3 | 53 => 162 | 0 => 0 | 4 => 4 | 64 => 173 | 67 => 176 | 26 => 145 | 37 => 151 | n => n, fun | n => n⟩
theorem Tryz.laysGg29 : Go.Proofs.LaysGg.n29 Tryz.prog Tryz.laysGg29_ren := {
  mixed := by kernel_rfl
  f29 := Tryz.func117.trans (congrArg some (by kernel_rfl))
  f37 := Tryz.func125.trans (congrArg some (by kernel_rfl))
  f38 := Tryz.func126.trans (congrArg some (by kernel_rfl))
  f39 := Tryz.func127.trans (congrArg some (by kernel_rfl))
  t0 := Tryz.underlying0
  a0 := Tryz.isAgg0
  z0 := Tryz.sizeOf0
  v0 := Tryz.zeroValue0
  i0 := by kernel_rfl
  t3 := Tryz.underlying3
  a3 := Tryz.isAgg3
  z3 := Tryz.sizeOf3
  v3 := Tryz.zeroValue3
  i3 := by kernel_rfl
  t4 := Tryz.underlying4
  a4 := Tryz.isAgg4
  z4 := Tryz.sizeOf4
  v4 := Tryz.zeroValue4
  i4 := by kernel_rfl
  t26 := Tryz.underlying145
  a26 := Tryz.isAgg145
  z26 := Tryz.sizeOf145
  v26 := Tryz.zeroValue145
  i26 := by kernel_rfl
  t37 := Tryz.underlying151
  a37 := Tryz.isAgg151
  z37 := Tryz.sizeOf151
  v37 := Tryz.zeroValue151
  i37 := by kernel_rfl
  t44 := Tryz.underlying156
  a44 := Tryz.isAgg156
  z44 := Tryz.sizeOf156
  v44 := Tryz.zeroValue156
  i44 := by kernel_rfl
  t53 := Tryz.underlying162
  a53 := Tryz.isAgg162
  z53 := Tryz.sizeOf162
  v53 := Tryz.zeroValue162
  i53 := by kernel_rfl
  t64 := Tryz.underlying173
  a64 := Tryz.isAgg173
  z64 := Tryz.sizeOf173
  v64 := Tryz.zeroValue173
  i64 := by kernel_rfl
  t67 := Tryz.underlying176
  a67 := Tryz.isAgg176
  z67 := Tryz.sizeOf176
  v67 := Tryz.zeroValue176
  i67 := by kernel_rfl }
open Go.RowKit Go.Lib Go.Sort in
/-- sort.choosePivot_func: THE LIBRARY's OWN TEXT COMPUTES 'Sort.choosePivot lt d a b'; the row is not turned; W is grown. (After Derived/Sort/Walk11.lean's 'So.choosePivot_int', row for row.) (LAID: no walk: one application.) -/
theorem Tryz.choosePivot_func {α : Type} [Inhabited α] (enc : α → Value) (lt : α → α → Bool) (g : Nat) (lb : Array Value) (sfn : Fn) (sa sb : Array Value) (blk off a b : Nat) (W : World) (d : Array α) (eg : ∀ args w, (callFunc g args).run Tryz.prog w = .ok (.enter g args) w) (hless : LessReads Tryz.prog g lb enc lt blk off d.size W) (hH : Holds enc W blk off d) (hab : a < b) (hb : b ≤ d.size) (hsz : d.size < 4611686018427387904) :
    Calls Tryz.prog 117 #[.agg #[.func (.func g) #[] lb, .func sfn sa sb], .int .i64 a, .int .i64 b] W fun e w' =>
      e = .returned (.tuple #[.int .i64 (choosePivot lt d a b).1, .int .i64 (hintCode (choosePivot lt d a b).2)]) ∧ ∃ n os, w' = grow (Sort.ahead W n) os := Any.choosePivot_func Tryz.laysGg29 enc lt g lb sfn sa sb blk off a b W d eg hless hH hab hb hsz
def Tryz.laysGg32_ren : Go.Shelf.Ren := ⟨fun | 32 => 120 | n => n, fun | 44 => 156 | 3 => 3 | 0 => 0 | 37 => 151 | 4 => 4 | 26 => 145 | n => n, fun | n => n⟩
theorem Tryz.laysGg32 : Go.Proofs.LaysGg.n32 Tryz.prog Tryz.laysGg32_ren := {
  mixed := by kernel_rfl
  f32 := Tryz.func120.trans (congrArg some (by kernel_rfl))
  t0 := Tryz.underlying0
  a0 := Tryz.isAgg0
  z0 := Tryz.sizeOf0
  v0 := Tryz.zeroValue0
  i0 := by kernel_rfl
  t3 := Tryz.underlying3
  a3 := Tryz.isAgg3
  z3 := Tryz.sizeOf3
  v3 := Tryz.zeroValue3
  i3 := by kernel_rfl
  t4 := Tryz.underlying4
  a4 := Tryz.isAgg4
  z4 := Tryz.sizeOf4
  v4 := Tryz.zeroValue4
  i4 := by kernel_rfl
  t26 := Tryz.underlying145
  a26 := Tryz.isAgg145
  z26 := Tryz.sizeOf145
  v26 := Tryz.zeroValue145
  i26 := by kernel_rfl
  t37 := Tryz.underlying151
  a37 := Tryz.isAgg151
  z37 := Tryz.sizeOf151
  v37 := Tryz.zeroValue151
  i37 := by kernel_rfl
  t44 := Tryz.underlying156
  a44 := Tryz.isAgg156
  z44 := Tryz.sizeOf156
  v44 := Tryz.zeroValue156
  i44 := by kernel_rfl }
open Go.RowKit Go.Lib Go.Sort in
theorem Tryz.partitionEqual_func_one {α : Type} [Inhabited α] (enc : α → Value) (lt : α → α → Bool) (g : Nat) (lb : Array Value) (sf : Nat) (sb : Array Value) (blk off a b pivot : Nat) (d : Array α) (W : World) (eg : ∀ args w, (callFunc g args).run Tryz.prog w = .ok (.enter g args) w) (hless : LessReads Tryz.prog g lb enc lt blk off d.size W) (hswap : SwapSwaps Tryz.prog sf sb enc blk off d.size) (hH : Holds enc W blk off d) (hblk : blk < W.heap.size) (hap : a ≤ pivot) (hpb : pivot < b) (hb : b ≤ d.size) (hsz : d.size < 4611686018427387904) :
    Calls Tryz.prog 120 #[.agg #[.func (.func g) #[] lb, .func (.func sf) #[] sb], .int .i64 a, .int .i64 b, .int .i64 pivot] W fun e w' =>
      e = .returned (.int .i64 (Sort.partitionEqual lt d a b pivot).1) ∧ ∃ n, w' = (putRow enc (W.alloc (.cells #[.func (.func g) #[] lb, .func (.func sf) #[] sb] 156)) blk off (Sort.partitionEqual lt d a b pivot).2).drewN n := Any.partitionEqual_func_one Tryz.laysGg32 enc lt g lb sf sb blk off a b pivot d W eg hless hswap hH hblk hap hpb hb hsz
def Tryz.laysGg33_ren : Go.Shelf.Ren := ⟨fun | 33 => 121 | n => n, fun | 44 => 156 | 3 => 3 | 4 => 4 | 0 => 0 | 37 => 151 | 26 => 145 | n => n, fun | n => n⟩
theorem Tryz.laysGg33 : Go.Proofs.LaysGg.n33 Tryz.prog Tryz.laysGg33_ren := {
  mixed := by kernel_rfl
  f33 := Tryz.func121.trans (congrArg some (by kernel_rfl))
  t0 := Tryz.underlying0
  a0 := Tryz.isAgg0
  z0 := Tryz.sizeOf0
  v0 := Tryz.zeroValue0
  i0 := by kernel_rfl
  t3 := Tryz.underlying3
  a3 := Tryz.isAgg3
  z3 := Tryz.sizeOf3
  v3 := Tryz.zeroValue3
  i3 := by kernel_rfl
  t4 := Tryz.underlying4
  a4 := Tryz.isAgg4
  z4 := Tryz.sizeOf4
  v4 := Tryz.zeroValue4
  i4 := by kernel_rfl
  t26 := Tryz.underlying145
  a26 := Tryz.isAgg145
  z26 := Tryz.sizeOf145
  v26 := Tryz.zeroValue145
  i26 := by kernel_rfl
  t37 := Tryz.underlying151
  a37 := Tryz.isAgg151
  z37 := Tryz.sizeOf151
  v37 := Tryz.zeroValue151
  i37 := by kernel_rfl
  t44 := Tryz.underlying156
  a44 := Tryz.isAgg156
  z44 := Tryz.sizeOf156
  v44 := Tryz.zeroValue156
  i44 := by kernel_rfl }
open Go.RowKit Go.Lib Go.Sort in
theorem Tryz.partition_func_one {α : Type} [Inhabited α] (enc : α → Value) (lt : α → α → Bool) (g : Nat) (lb : Array Value) (sf : Nat) (sb : Array Value) (blk off a b pivot : Nat) (d : Array α) (W : World) (eg : ∀ args w, (callFunc g args).run Tryz.prog w = .ok (.enter g args) w) (hless : LessReads Tryz.prog g lb enc lt blk off d.size W) (hswap : SwapSwaps Tryz.prog sf sb enc blk off d.size) (hH : Holds enc W blk off d) (hblk : blk < W.heap.size) (hap : a ≤ pivot) (hpb : pivot < b) (hb : b ≤ d.size) (hsz : d.size < 4611686018427387904) :
    Calls Tryz.prog 121 #[.agg #[.func (.func g) #[] lb, .func (.func sf) #[] sb], .int .i64 a, .int .i64 b, .int .i64 pivot] W fun e w' =>
      e = .returned (.tuple #[.int .i64 (Sort.partition lt d a b pivot).1, .bool (Sort.partition lt d a b pivot).2.1]) ∧ ∃ n, w' = (putRow enc (W.alloc (.cells #[.func (.func g) #[] lb, .func (.func sf) #[] sb] 156)) blk off (Sort.partition lt d a b pivot).2.2).drewN n := Any.partition_func_one Tryz.laysGg33 enc lt g lb sf sb blk off a b pivot d W eg hless hswap hH hblk hap hpb hb hsz
open Go.RowKit Go.Lib Go.Sort in
/-- sort.partitionEqual_func, from a world to a 'sortWorld' of it. (LAID: no walk: one application.) -/
theorem Tryz.partitionEqual_func_w {α : Type} [Inhabited α] (enc : α → Value) (lt : α → α → Bool) (g : Nat) (lb : Array Value) (sf : Nat) (sb : Array Value) (blk off a b pivot : Nat) (d : Array α) (W : World) (eg : ∀ args w, (callFunc g args).run Tryz.prog w = .ok (.enter g args) w) (hless : LessReads Tryz.prog g lb enc lt blk off d.size W) (hswap : SwapSwaps Tryz.prog sf sb enc blk off d.size) (hH : Holds enc W blk off d) (hblk : blk < W.heap.size) (hap : a ≤ pivot) (hpb : pivot < b) (hb : b ≤ d.size) (hsz : d.size < 4611686018427387904) :
    Calls Tryz.prog 120 #[.agg #[.func (.func g) #[] lb, .func (.func sf) #[] sb], .int .i64 a, .int .i64 b, .int .i64 pivot] W fun e w' => e = .returned (.int .i64 (Sort.partitionEqual lt d a b pivot).1) ∧ ∃ n os, w' = sortWorld enc W blk off n (Sort.partitionEqual lt d a b pivot).2 os := Any.partitionEqual_func_w Tryz.laysGg32 enc lt g lb sf sb blk off a b pivot d W eg hless hswap hH hblk hap hpb hb hsz
open Go.RowKit Go.Lib Go.Sort in
/-- sort.partition_func, from a world to a 'sortWorld' of it. (LAID: no walk: one application.) -/
theorem Tryz.partition_func_w {α : Type} [Inhabited α] (enc : α → Value) (lt : α → α → Bool) (g : Nat) (lb : Array Value) (sf : Nat) (sb : Array Value) (blk off a b pivot : Nat) (d : Array α) (W : World) (eg : ∀ args w, (callFunc g args).run Tryz.prog w = .ok (.enter g args) w) (hless : LessReads Tryz.prog g lb enc lt blk off d.size W) (hswap : SwapSwaps Tryz.prog sf sb enc blk off d.size) (hH : Holds enc W blk off d) (hblk : blk < W.heap.size) (hap : a ≤ pivot) (hpb : pivot < b) (hb : b ≤ d.size) (hsz : d.size < 4611686018427387904) :
    Calls Tryz.prog 121 #[.agg #[.func (.func g) #[] lb, .func (.func sf) #[] sb], .int .i64 a, .int .i64 b, .int .i64 pivot] W fun e w' => e = .returned (.tuple #[.int .i64 (Sort.partition lt d a b pivot).1, .bool (Sort.partition lt d a b pivot).2.1]) ∧ ∃ n os, w' = sortWorld enc W blk off n (Sort.partition lt d a b pivot).2.2 os := Any.partition_func_w Tryz.laysGg33 enc lt g lb sf sb blk off a b pivot d W eg hless hswap hH hblk hap hpb hb hsz
open Go.RowKit Go.Lib Go.Sort in
theorem Tryz.pdqsort_func_all {α : Type} [Inhabited α] (enc : α → Value) (lt : α → α → Bool) (hO : SWO lt) (g : Nat) (lb : Array Value) (sf : Nat) (sb : Array Value) (eg : ∀ args w, (callFunc g args).run Tryz.prog w = .ok (.enter g args) w) :
    ∀ (N blk off a b limit : Nat) (d : Array α) (w : World), b - a < N → LessReads Tryz.prog g lb enc lt blk off d.size w → SwapSwaps Tryz.prog sf sb enc blk off d.size → Holds enc w blk off d → blk < w.heap.size → a ≤ b → b ≤ d.size → d.size < 4611686018427387904 → limit < 4611686018427387904 → Below lt a b d →
    Calls Tryz.prog 103 #[.agg #[.func (.func g) #[] lb, .func (.func sf) #[] sb], .int .i64 a, .int .i64 b, .int .i64 limit] w fun e w' => e = .returned (.tuple #[]) ∧ At enc w blk off (pdq lt d a b limit true true) w' := Any.pdqsort_func_all Tryz.laysGg14 enc lt hO g lb sf sb eg
def Tryz.laysGg36_ren : Go.Shelf.Ren := ⟨fun | 36 => 124 | n => n, fun | 66 => 175 | 51 => 75 | 0 => 0 | 60 => 169 | 41 => 92 | n => n, fun | n => n⟩
theorem Tryz.laysGg36 : Go.Proofs.LaysGg.n36 Tryz.prog Tryz.laysGg36_ren := {
  mixed := by kernel_rfl
  f36 := Tryz.func124.trans (congrArg some (by kernel_rfl))
  t0 := Tryz.underlying0
  a0 := Tryz.isAgg0
  z0 := Tryz.sizeOf0
  v0 := Tryz.zeroValue0
  i0 := by kernel_rfl
  t41 := Tryz.underlying92
  a41 := Tryz.isAgg92
  z41 := Tryz.sizeOf92
  v41 := Tryz.zeroValue92
  i41 := by kernel_rfl
  t51 := Tryz.underlying75
  a51 := Tryz.isAgg75
  z51 := Tryz.sizeOf75
  v51 := Tryz.zeroValue75
  i51 := by kernel_rfl
  t60 := Tryz.underlying169
  a60 := Tryz.isAgg169
  z60 := Tryz.sizeOf169
  v60 := Tryz.zeroValue169
  i60 := by kernel_rfl
  t66 := Tryz.underlying175
  a66 := Tryz.isAgg175
  z66 := Tryz.sizeOf175
  v66 := Tryz.zeroValue175
  i66 := by kernel_rfl }
open Go.RowKit Go.Lib Go.Sort in
/-- '*r ^= *r << 13; *r ^= *r >> 7; *r ^= *r << 17; return uint64(*r)': the cell holds 'xorNextN X' and that is handed back; three draws; nothing else turns. (LAID: no walk: one application.) -/
theorem Tryz.xorshift_Next (rb ro X : Nat) (hX : X < 18446744073709551616) (w : World) (hc : w.cell? ⟨rb, ro, none⟩ = some (.int .u64 X)) (hf : w.frozen? ⟨rb, ro, none⟩ = false) :
    Calls Tryz.prog 124 #[.pointer (some ⟨rb, ro, none⟩)] w fun e w' => e = .returned (.int .u64 (xorNextN X : Nat)) ∧ w' = (w.setCell ⟨rb, ro, none⟩ (.int .u64 (xorNextN X : Nat))).drewN 3 := Any.xorshift_Next Tryz.laysGg36 rb ro X hX w hc hf
def Tryz.laysGg35_ren : Go.Shelf.Ren := ⟨fun | 35 => 123 | 13 => 102 | 24 => 96 | 25 => 113 | n => n, fun | 3 => 3 | 41 => 92 | 49 => 59 | 51 => 75 | 4 => 4 | 5 => 5 | 9 => 9 | n => n, fun | n => n⟩
theorem Tryz.laysGg35 : Go.Proofs.LaysGg.n35 Tryz.prog Tryz.laysGg35_ren := {
  mixed := by kernel_rfl
  f13 := Tryz.func102.trans (congrArg some (by kernel_rfl))
  f24 := Tryz.func96.trans (congrArg some (by kernel_rfl))
  f25 := Tryz.func113.trans (congrArg some (by kernel_rfl))
  f35 := Tryz.func123.trans (congrArg some (by kernel_rfl))
  t3 := Tryz.underlying3
  a3 := Tryz.isAgg3
  z3 := Tryz.sizeOf3
  v3 := Tryz.zeroValue3
  i3 := by kernel_rfl
  t4 := Tryz.underlying4
  a4 := Tryz.isAgg4
  z4 := Tryz.sizeOf4
  v4 := Tryz.zeroValue4
  i4 := by kernel_rfl
  t5 := Tryz.underlying5
  a5 := Tryz.isAgg5
  z5 := Tryz.sizeOf5
  v5 := Tryz.zeroValue5
  i5 := by kernel_rfl
  t9 := Tryz.underlying9
  a9 := Tryz.isAgg9
  z9 := Tryz.sizeOf9
  v9 := Tryz.zeroValue9
  i9 := by kernel_rfl
  t41 := Tryz.underlying92
  a41 := Tryz.isAgg92
  z41 := Tryz.sizeOf92
  v41 := Tryz.zeroValue92
  i41 := by kernel_rfl
  t49 := Tryz.underlying59
  a49 := Tryz.isAgg59
  z49 := Tryz.sizeOf59
  v49 := Tryz.zeroValue59
  i49 := by kernel_rfl
  t51 := Tryz.underlying75
  a51 := Tryz.isAgg75
  z51 := Tryz.sizeOf75
  v51 := Tryz.zeroValue75
  i51 := by kernel_rfl }
open Go.RowKit Go.Lib Go.Sort in
/-- 'return 1 << bits.Len(uint(length))'. (LAID: no walk: one application.) -/
theorem Tryz.nextPowerOfTwo (n : Nat) (hn : n < 4611686018427387904) (w : World) :
    Calls Tryz.prog 123 #[.int .i64 n] w fun e w' => e = .returned (.int .u64 ((1 <<< bitsLen n : Nat) : Int)) ∧ w' = w := Any.nextPowerOfTwo Tryz.laysGg35 n hn w
def Tryz.laysGg34_ren : Go.Shelf.Ren := ⟨fun | 34 => 122 | n => n, fun | 44 => 156 | 3 => 3 | 0 => 0 | 4 => 4 | 26 => 145 | 37 => 151 | n => n, fun | n => n⟩
theorem Tryz.laysGg34 : Go.Proofs.LaysGg.n34 Tryz.prog Tryz.laysGg34_ren := {
  mixed := by kernel_rfl
  f34 := Tryz.func122.trans (congrArg some (by kernel_rfl))
  t0 := Tryz.underlying0
  a0 := Tryz.isAgg0
  z0 := Tryz.sizeOf0
  v0 := Tryz.zeroValue0
  i0 := by kernel_rfl
  t3 := Tryz.underlying3
  a3 := Tryz.isAgg3
  z3 := Tryz.sizeOf3
  v3 := Tryz.zeroValue3
  i3 := by kernel_rfl
  t4 := Tryz.underlying4
  a4 := Tryz.isAgg4
  z4 := Tryz.sizeOf4
  v4 := Tryz.zeroValue4
  i4 := by kernel_rfl
  t26 := Tryz.underlying145
  a26 := Tryz.isAgg145
  z26 := Tryz.sizeOf145
  v26 := Tryz.zeroValue145
  i26 := by kernel_rfl
  t37 := Tryz.underlying151
  a37 := Tryz.isAgg151
  z37 := Tryz.sizeOf151
  v37 := Tryz.zeroValue151
  i37 := by kernel_rfl
  t44 := Tryz.underlying156
  a44 := Tryz.isAgg156
  z44 := Tryz.sizeOf156
  v44 := Tryz.zeroValue156
  i44 := by kernel_rfl }
open Go.RowKit Go.Lib Go.Sort in
theorem Tryz.siftDown_func_one {α : Type} [Inhabited α] (enc : α → Value) (lt : α → α → Bool) (g : Nat) (lb : Array Value) (sf : Nat) (sb : Array Value) (blk off lo hi first : Nat) (d : Array α) (w : World) (eg : ∀ args w, (callFunc g args).run Tryz.prog w = .ok (.enter g args) w) (hless : LessReads Tryz.prog g lb enc lt blk off d.size w) (hswap : SwapSwaps Tryz.prog sf sb enc blk off d.size) (hH : Holds enc w blk off d) (hblk : blk < w.heap.size) (hlo : lo ≤ hi) (hb : first + hi ≤ d.size) (hsz : d.size < 4611686018427387904) :
    Calls Tryz.prog 122 #[.agg #[.func (.func g) #[] lb, .func (.func sf) #[] sb], .int .i64 lo, .int .i64 hi, .int .i64 first] w fun e w' =>
      e = .returned (.tuple #[]) ∧ ∃ n, w' = putRow enc (Sort.ahead (w.alloc (.cells #[.func (.func g) #[] lb, .func (.func sf) #[] sb] 156)) n) blk off (siftDown lt hi first lo d) := Any.siftDown_func_one Tryz.laysGg34 enc lt g lb sf sb blk off lo hi first d w eg hless hswap hH hblk hlo hb hsz
open Go.RowKit Go.Lib Go.Sort in
/-- sort.siftDown_func, from a world to a 'sortWorld' of it. (LAID: no walk: one application.) -/
theorem Tryz.siftDown_func_w {α : Type} [Inhabited α] (enc : α → Value) (lt : α → α → Bool) (g : Nat) (lb : Array Value) (sf : Nat) (sb : Array Value) (blk off lo hi first : Nat) (d : Array α) (w : World) (eg : ∀ args w, (callFunc g args).run Tryz.prog w = .ok (.enter g args) w) (hless : LessReads Tryz.prog g lb enc lt blk off d.size w) (hswap : SwapSwaps Tryz.prog sf sb enc blk off d.size) (hH : Holds enc w blk off d) (hblk : blk < w.heap.size) (hlo : lo ≤ hi) (hb : first + hi ≤ d.size) (hsz : d.size < 4611686018427387904) :
    Calls Tryz.prog 122 #[.agg #[.func (.func g) #[] lb, .func (.func sf) #[] sb], .int .i64 lo, .int .i64 hi, .int .i64 first] w fun e w' => e = .returned (.tuple #[]) ∧ ∃ n os, w' = sortWorld enc w blk off n (siftDown lt hi first lo d) os := Any.siftDown_func_w Tryz.laysGg34 enc lt g lb sf sb blk off lo hi first d w eg hless hswap hH hblk hlo hb hsz
def Tryz.laysGg27_ren : Go.Shelf.Ren := ⟨fun | 27 => 115 | 34 => 122 | n => n, fun | 44 => 156 | 3 => 3 | 0 => 0 | 4 => 4 | 37 => 151 | 26 => 145 | n => n, fun | n => n⟩
theorem Tryz.laysGg27 : Go.Proofs.LaysGg.n27 Tryz.prog Tryz.laysGg27_ren := {
  mixed := by kernel_rfl
  f27 := Tryz.func115.trans (congrArg some (by kernel_rfl))
  f34 := Tryz.func122.trans (congrArg some (by kernel_rfl))
  t0 := Tryz.underlying0
  a0 := Tryz.isAgg0
  z0 := Tryz.sizeOf0
  v0 := Tryz.zeroValue0
  i0 := by kernel_rfl
  t3 := Tryz.underlying3
  a3 := Tryz.isAgg3
  z3 := Tryz.sizeOf3
  v3 := Tryz.zeroValue3
  i3 := by kernel_rfl
  t4 := Tryz.underlying4
  a4 := Tryz.isAgg4
  z4 := Tryz.sizeOf4
  v4 := Tryz.zeroValue4
  i4 := by kernel_rfl
  t26 := Tryz.underlying145
  a26 := Tryz.isAgg145
  z26 := Tryz.sizeOf145
  v26 := Tryz.zeroValue145
  i26 := by kernel_rfl
  t37 := Tryz.underlying151
  a37 := Tryz.isAgg151
  z37 := Tryz.sizeOf151
  v37 := Tryz.zeroValue151
  i37 := by kernel_rfl
  t44 := Tryz.underlying156
  a44 := Tryz.isAgg156
  z44 := Tryz.sizeOf156
  v44 := Tryz.zeroValue156
  i44 := by kernel_rfl }
open Go.RowKit Go.Lib Go.Sort in
theorem Tryz.heapSort_func_w {α : Type} [Inhabited α] (enc : α → Value) (lt : α → α → Bool) (g : Nat) (lb : Array Value) (sf : Nat) (sb : Array Value) (blk off a b : Nat) (d : Array α) (w : World) (eg : ∀ args w, (callFunc g args).run Tryz.prog w = .ok (.enter g args) w) (hless : LessReads Tryz.prog g lb enc lt blk off d.size w) (hswap : SwapSwaps Tryz.prog sf sb enc blk off d.size) (hH : Holds enc w blk off d) (hblk : blk < w.heap.size) (hab : a ≤ b) (hb : b ≤ d.size) (hsz : d.size < 4611686018427387904) :
    Calls Tryz.prog 115 #[.agg #[.func (.func g) #[] lb, .func (.func sf) #[] sb], .int .i64 a, .int .i64 b] w fun e w' => e = .returned (.tuple #[]) ∧ ∃ n os, w' = sortWorld enc w blk off n (heapSort lt d a b) os := Any.heapSort_func_w Tryz.laysGg27 enc lt g lb sf sb blk off a b d w eg hless hswap hH hblk hab hb hsz
def Tryz.laysGg31_ren : Go.Shelf.Ren := ⟨fun | 31 => 119 | n => n, fun | 44 => 156 | 3 => 3 | 4 => 4 | 0 => 0 | 26 => 145 | 37 => 151 | n => n, fun | n => n⟩
theorem Tryz.laysGg31 : Go.Proofs.LaysGg.n31 Tryz.prog Tryz.laysGg31_ren := {
  mixed := by kernel_rfl
  f31 := Tryz.func119.trans (congrArg some (by kernel_rfl))
  t0 := Tryz.underlying0
  a0 := Tryz.isAgg0
  z0 := Tryz.sizeOf0
  v0 := Tryz.zeroValue0
  i0 := by kernel_rfl
  t3 := Tryz.underlying3
  a3 := Tryz.isAgg3
  z3 := Tryz.sizeOf3
  v3 := Tryz.zeroValue3
  i3 := by kernel_rfl
  t4 := Tryz.underlying4
  a4 := Tryz.isAgg4
  z4 := Tryz.sizeOf4
  v4 := Tryz.zeroValue4
  i4 := by kernel_rfl
  t26 := Tryz.underlying145
  a26 := Tryz.isAgg145
  z26 := Tryz.sizeOf145
  v26 := Tryz.zeroValue145
  i26 := by kernel_rfl
  t37 := Tryz.underlying151
  a37 := Tryz.isAgg151
  z37 := Tryz.sizeOf151
  v37 := Tryz.zeroValue151
  i37 := by kernel_rfl
  t44 := Tryz.underlying156
  a44 := Tryz.isAgg156
  z44 := Tryz.sizeOf156
  v44 := Tryz.zeroValue156
  i44 := by kernel_rfl }
open Go.RowKit Go.Lib Go.Sort in
theorem Tryz.partialInsertionSort_func_one {α : Type} [Inhabited α] (enc : α → Value) (lt : α → α → Bool) (g : Nat) (lb : Array Value) (sf : Nat) (sb : Array Value) (blk off a b : Nat) (d : Array α) (w : World) (eg : ∀ args w, (callFunc g args).run Tryz.prog w = .ok (.enter g args) w) (hless : LessReads Tryz.prog g lb enc lt blk off d.size w) (hswap : SwapSwaps Tryz.prog sf sb enc blk off d.size) (hH : Holds enc w blk off d) (hblk : blk < w.heap.size) (hab : a < b) (hb : b ≤ d.size) (hsz : d.size < 4611686018427387904) :
    Calls Tryz.prog 119 #[.agg #[.func (.func g) #[] lb, .func (.func sf) #[] sb], .int .i64 a, .int .i64 b] w fun e w' =>
      e = .returned (.bool (Sort.partialInsertionSort lt d a b).2) ∧ ∃ n, w' = putRow enc (Sort.ahead (w.alloc (.cells #[.func (.func g) #[] lb, .func (.func sf) #[] sb] 156)) n) blk off (Sort.partialInsertionSort lt d a b).1 := Any.partialInsertionSort_func_one Tryz.laysGg31 enc lt g lb sf sb blk off a b d w eg hless hswap hH hblk hab hb hsz
open Go.RowKit Go.Lib Go.Sort in
/-- sort.partialInsertionSort_func, from a world to a 'sortWorld' of it. (LAID: no walk: one application.) -/
theorem Tryz.partialInsertionSort_func_w {α : Type} [Inhabited α] (enc : α → Value) (lt : α → α → Bool) (g : Nat) (lb : Array Value) (sf : Nat) (sb : Array Value) (blk off a b : Nat) (d : Array α) (w : World) (eg : ∀ args w, (callFunc g args).run Tryz.prog w = .ok (.enter g args) w) (hless : LessReads Tryz.prog g lb enc lt blk off d.size w) (hswap : SwapSwaps Tryz.prog sf sb enc blk off d.size) (hH : Holds enc w blk off d) (hblk : blk < w.heap.size) (hab : a < b) (hb : b ≤ d.size) (hsz : d.size < 4611686018427387904) :
    Calls Tryz.prog 119 #[.agg #[.func (.func g) #[] lb, .func (.func sf) #[] sb], .int .i64 a, .int .i64 b] w fun e w' => e = .returned (.bool (Sort.partialInsertionSort lt d a b).2) ∧ ∃ n os, w' = sortWorld enc w blk off n (Sort.partialInsertionSort lt d a b).1 os := Any.partialInsertionSort_func_w Tryz.laysGg31 enc lt g lb sf sb blk off a b d w eg hless hswap hH hblk hab hb hsz
end Go.Proofs
