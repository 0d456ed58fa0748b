/-
  DERIVED: LAID BY THE SHELF's lay-shelf.mjs AT THE DUMP 'toys/ytoklbgdafnminaagreatdoor/ytoklbgdafnminaagreatdoor.cut.gsa' (alias 'Tryz'): THE LIBRARY CONTRACTS THAT ARE PROVED ONCE, OVER ANY PROGRAM AND ANY NUMBERING, AS THEOREMS OF THIS PROGRAM: WITHOUT A WALK: 'shelf_lay' reads the table of numbers off the bodies and has the kernel compare each body; then each contract is ONE APPLICATION. EACH COMMAND STANDS UNDER 'shelf_try': one that errs is rolled back and told in the build's print ('SHELF: NOT LAID: <name>: ..'); THE MODULE's LAST ROW OF PRINT COUNTS THEM ('SHELF: n LAID, m NOT LAID'): READ IT: a contract that is not laid is not there to be used.
-/
import Derived.Shelf.Lay
import Derived.Shelf.LaySoft
import Derived.Shelf.Small.Bits
import Derived.Shelf.Strconv.Itoa0
import Derived.Ground.MnProg
import Derived.Shelf.Bin.BEUint16
import Derived.Shelf.Bin.BEUint32
import Derived.Shelf.Bin.BEUint64
import Derived.Shelf.Bin.BEUint16Panics
import Derived.Shelf.Bin.BEUint32Panics
import Derived.Shelf.Bin.BEUint64Panics
import Derived.Ground.GgsProg
import Derived.Shelf.GgSortFunc.Insertion
import Derived.Shelf.Bin.ReadersZ
import Derived.Shelf.GgSortFunc.Small
import Derived.Shelf.GgSortFunc.Tiny
import Derived.Shelf.GgSortFunc.Compose
import Derived.Shelf.GgSortFunc.LotD
import Derived.Shelf.GgSortFunc.Pivot
import Derived.Shelf.GgSortFunc.Partition
import Derived.Shelf.GgSortFunc.Pdq
import Derived.Shelf.GgSortFunc.Whole
import Derived.Shelf.SlSortFunc.Xorshift
import Derived.Shelf.SlSortFunc.SiftDown
import Derived.Shelf.SlSortFunc.HeapSort
import Derived.Shelf.SlSortFunc.PartialInsertion
import Derived.Test.YtoklbgdafnminaaGreatDoorProg
namespace Go.Proofs
open Go.Shelf
shelf_try shelf_lay Lays.n128 Nm 128 at Tryz as Tryz.lays128
shelf_try /-- bits.Len32: "Len32 returns the minimum number of bits required to represent x; the result is 0 for x == 0.": IT RETURNS 'Lib.bitLen x'; the world is as it was. ('h0', 'h1': x is a uint32.) (LAID: no walk: one application.) -/
theorem Tryz.bits_Len32 (x : Int) (w : World) (h0 : 0 ≤ x) (h1 : x ≤ 4294967295) :
    Calls Tryz.prog 153 #[.int .u32 x] w fun e w' => e = .returned (.int .i64 (Lib.bitLen x.toNat)) ∧ w' = w := Any.bits_Len32 Tryz.lays128 x w h0 h1
shelf_try #print axioms Tryz.bits_Len32
shelf_try shelf_lay Lays.n125 Nm 125 at Tryz as Tryz.lays125
shelf_try /-- bits.Len: "Len returns the minimum number of bits required to represent x; the result is 0 for x == 0.": IT RETURNS 'Lib.bitLen x'; the world is as it was. (A uint has 64 bits in the model.) ITS CALLEE bits.Len64 IS MET BY ITS OWN CONTRACT OFF THE SHELF (lay that first). (LAID: no walk: one application.) -/
theorem Tryz.bits_Len (x : Int) (w : World) (h0 : 0 ≤ x) (h1 : x ≤ 18446744073709551615) :
    Calls Tryz.prog 161 #[.int .u64 x] w fun e w' => e = .returned (.int .i64 (Lib.bitLen x.toNat)) ∧ w' = w := Any.bits_Len Tryz.lays125 x w h0 h1
shelf_try #print axioms Tryz.bits_Len
shelf_try shelf_lay Lays.n129 Nm 129 at Tryz as Tryz.lays129
shelf_try /-- bits.Len64: "Len64 returns the minimum number of bits required to represent x; the result is 0 for x == 0.": IT RETURNS 'Lib.bitLen x'; the world is as it was. ('h0', 'h1': x is a uint64.) (LAID: no walk: one application.) -/
theorem Tryz.bits_Len64 (x : Int) (w : World) (h0 : 0 ≤ x) (h1 : x ≤ 18446744073709551615) :
    Calls Tryz.prog 173 #[.int .u64 x] w fun e w' => e = .returned (.int .i64 (Lib.bitLen x.toNat)) ∧ w' = w := Any.bits_Len64 Tryz.lays129 x w h0 h1
shelf_try #print axioms Tryz.bits_Len64
shelf_try shelf_lay LaysBin.n36 Mn 36 at Tryz as Tryz.laysBin36
shelf_try open Go.RowKit in
/-- binary.BigEndian.Uint16: "Uint16 returns the uint16 representation of b[0:2].": THE NUMBER THAT THE FIRST 2 BYTES SPELL, the greatest byte first ('Lib.beNat'). Of what was there nothing has turned (the receiver, an empty struct, is laid in a new block without cells; the statement's order is drawn). (LAID: no walk: one application.) -/
theorem Tryz.binary_BE_Uint16 (g o n c : Nat) (b0 b1 : UInt8) (w : World) (hn : 2 ≤ n) (c0 : w.cell? ⟨g, o, none⟩ = some (.int .u8 b0.toNat)) (c1 : w.cell? ⟨g, o + 1, none⟩ = some (.int .u8 b1.toNat)) :
    Calls Tryz.prog 151 #[.agg #[], .slice (some ⟨g, o, none⟩) n c] w fun e w' => e = .returned (.int .u16 (Lib.beNat [b0, b1])) ∧ Below w.heap.size w w' := Any.binary_BE_Uint16 Tryz.laysBin36 g o n c b0 b1 w hn c0 c1
shelf_try #print axioms Tryz.binary_BE_Uint16
shelf_try shelf_lay LaysBin.n39 Mn 39 at Tryz as Tryz.laysBin39
shelf_try open Go.RowKit in
/-- binary.BigEndian.Uint32: "Uint32 returns the uint32 representation of b[0:4].": THE NUMBER THAT THE FIRST 4 BYTES SPELL, the greatest byte first ('Lib.beNat'). Of what was there nothing has turned (the receiver, an empty struct, is laid in a new block without cells; the statement's order is drawn). (LAID: no walk: one application.) -/
theorem Tryz.binary_BE_Uint32 (g o n c : Nat) (b0 b1 b2 b3 : UInt8) (w : World) (hn : 4 ≤ n) (c0 : w.cell? ⟨g, o, none⟩ = some (.int .u8 b0.toNat)) (c1 : w.cell? ⟨g, o + 1, none⟩ = some (.int .u8 b1.toNat)) (c2 : w.cell? ⟨g, o + 2, none⟩ = some (.int .u8 b2.toNat)) (c3 : w.cell? ⟨g, o + 3, none⟩ = some (.int .u8 b3.toNat)) :
    Calls Tryz.prog 150 #[.agg #[], .slice (some ⟨g, o, none⟩) n c] w fun e w' => e = .returned (.int .u32 (Lib.beNat [b0, b1, b2, b3])) ∧ Below w.heap.size w w' := Any.binary_BE_Uint32 Tryz.laysBin39 g o n c b0 b1 b2 b3 w hn c0 c1 c2 c3
shelf_try #print axioms Tryz.binary_BE_Uint32
shelf_try shelf_lay LaysBin.n42 Mn 42 at Tryz as Tryz.laysBin42
shelf_try open Go.RowKit in
/-- binary.BigEndian.Uint64: "Uint64 returns the uint64 representation of b[0:8].": THE NUMBER THAT THE FIRST 8 BYTES SPELL, the greatest byte first ('Lib.beNat'). Of what was there nothing has turned (the receiver, an empty struct, is laid in a new block without cells; the statement's order is drawn). (LAID: no walk: one application.) -/
theorem Tryz.binary_BE_Uint64 (g o n c : Nat) (b0 b1 b2 b3 b4 b5 b6 b7 : UInt8) (w : World) (hn : 8 ≤ n) (c0 : w.cell? ⟨g, o, none⟩ = some (.int .u8 b0.toNat)) (c1 : w.cell? ⟨g, o + 1, none⟩ = some (.int .u8 b1.toNat)) (c2 : w.cell? ⟨g, o + 2, none⟩ = some (.int .u8 b2.toNat)) (c3 : w.cell? ⟨g, o + 3, none⟩ = some (.int .u8 b3.toNat)) (c4 : w.cell? ⟨g, o + 4, none⟩ = some (.int .u8 b4.toNat)) (c5 : w.cell? ⟨g, o + 5, none⟩ = some (.int .u8 b5.toNat)) (c6 : w.cell? ⟨g, o + 6, none⟩ = some (.int .u8 b6.toNat)) (c7 : w.cell? ⟨g, o + 7, none⟩ = some (.int .u8 b7.toNat)) :
    Calls Tryz.prog 163 #[.agg #[], .slice (some ⟨g, o, none⟩) n c] w fun e w' => e = .returned (.int .u64 (Lib.beNat [b0, b1, b2, b3, b4, b5, b6, b7])) ∧ Below w.heap.size w w' := Any.binary_BE_Uint64 Tryz.laysBin42 g o n c b0 b1 b2 b3 b4 b5 b6 b7 w hn c0 c1 c2 c3 c4 c5 c6 c7
shelf_try #print axioms Tryz.binary_BE_Uint64
shelf_try open Go.RowKit in
/-- binary.BigEndian.Uint16, b SHORTER THAN 2: IT PANICS: Go's 'runtime error: index out of range [1] with length n' ('Lib.boundsPanicked'). THE WORLD: the receiver's new block without cells, and the draw of the panic's flag. (LAID: no walk: one application.) -/
theorem Tryz.binary_BE_Uint16_panics (ao : Option Addr) (n c : Nat) (w : World) (hn : n < 2) (hnil : ao = none → n = 0) :
    Calls Tryz.prog 151 #[.agg #[], .slice ao n c] w fun e w' => Lib.boundsPanicked Tryz.prog 1 n e ∧ w' = (w.alloc (.cells #[] 192)).drew := Any.binary_BE_Uint16_panics Tryz.laysBin36 ao n c w hn hnil
shelf_try #print axioms Tryz.binary_BE_Uint16_panics
shelf_try open Go.RowKit in
/-- binary.BigEndian.Uint32, b SHORTER THAN 4: IT PANICS: Go's 'runtime error: index out of range [3] with length n' ('Lib.boundsPanicked'). THE WORLD: the receiver's new block without cells, and the draw of the panic's flag. (LAID: no walk: one application.) -/
theorem Tryz.binary_BE_Uint32_panics (ao : Option Addr) (n c : Nat) (w : World) (hn : n < 4) (hnil : ao = none → n = 0) :
    Calls Tryz.prog 150 #[.agg #[], .slice ao n c] w fun e w' => Lib.boundsPanicked Tryz.prog 3 n e ∧ w' = (w.alloc (.cells #[] 192)).drew := Any.binary_BE_Uint32_panics Tryz.laysBin39 ao n c w hn hnil
shelf_try #print axioms Tryz.binary_BE_Uint32_panics
shelf_try open Go.RowKit in
/-- binary.BigEndian.Uint64, b SHORTER THAN 8: IT PANICS: Go's 'runtime error: index out of range [7] with length n' ('Lib.boundsPanicked'). THE WORLD: the receiver's new block without cells, and the draw of the panic's flag. (LAID: no walk: one application.) -/
theorem Tryz.binary_BE_Uint64_panics (ao : Option Addr) (n c : Nat) (w : World) (hn : n < 8) (hnil : ao = none → n = 0) :
    Calls Tryz.prog 163 #[.agg #[], .slice ao n c] w fun e w' => Lib.boundsPanicked Tryz.prog 7 n e ∧ w' = (w.alloc (.cells #[] 192)).drew := Any.binary_BE_Uint64_panics Tryz.laysBin42 ao n c w hn hnil
shelf_try #print axioms Tryz.binary_BE_Uint64_panics
shelf_try shelf_lay LaysGg.n26 Ggs 26 at Tryz as Tryz.laysGg26
shelf_try open Go.RowKit Go.Lib Go.Sort in
theorem Tryz.insertionSort_func_one {α : Type} [Inhabited α] (enc : α → Value) (lt : α → α → Bool) (g : Nat) (lb : Array Value) (sf : Nat) (sb : Array Value) (blk off a b : Nat) (d : Array α) (w : World) (eg : ∀ args w, (callFunc g args).run Tryz.prog w = .ok (.enter g args) w) (hless : LessReads Tryz.prog g lb enc lt blk off d.size w) (hswap : SwapSwaps Tryz.prog sf sb enc blk off d.size) (hH : Holds enc w blk off d) (hblk : blk < w.heap.size) (hab : a ≤ b) (hb : b ≤ d.size) (hsz : d.size < 4611686018427387904) :
    Calls Tryz.prog 174 #[.agg #[.func (.func g) #[] lb, .func (.func sf) #[] sb], .int .i64 a, .int .i64 b] w fun e w' =>
      e = .returned (.tuple #[]) ∧ ∃ n, w' = putRow enc (Sort.ahead (w.alloc (.cells #[.func (.func g) #[] lb, .func (.func sf) #[] sb] 211)) n) blk off (Sort.insertionSort lt d a b) := Any.insertionSort_func_one Tryz.laysGg26 enc lt g lb sf sb blk off a b d w eg hless hswap hH hblk hab hb hsz
shelf_try #print axioms Tryz.insertionSort_func_one
shelf_try open Go.RowKit in
/-- binary.BigEndian.Uint16, ITS PREMISES 'open_ints'' CONCLUSION TO THE LETTER: a slice at WHATEVER address a, the numbers zs that its cells hold: THE NUMBER THAT THE FIRST 2 SPELL ('Lib.beZ'). (LAID: no walk: one application.) -/
theorem Tryz.binary_BE_Uint16_z (a : Addr) (n c : Nat) (zs : List Int) (w : World) (hn : 2 ≤ n) (hl : 2 ≤ zs.length) (hcell : ∀ i, i < zs.length → w.cell? (a.add i) = some (.int .u8 (zs.getD i 0))) (hw : ∀ z ∈ zs, (Lit.int .u8 z).wf = true) :
    Calls Tryz.prog 151 #[.agg #[], .slice (some a) n c] w fun e w' => e = .returned (.int .u16 (Lib.beZ (zs.take 2))) ∧ Below w.heap.size w w' := Any.binary_BE_Uint16_z Tryz.laysBin36 a n c zs w hn hl hcell hw
shelf_try #print axioms Tryz.binary_BE_Uint16_z
shelf_try open Go.RowKit in
/-- binary.BigEndian.Uint32, ITS PREMISES 'open_ints'' CONCLUSION TO THE LETTER: a slice at WHATEVER address a, the numbers zs that its cells hold: THE NUMBER THAT THE FIRST 4 SPELL ('Lib.beZ'). (LAID: no walk: one application.) -/
theorem Tryz.binary_BE_Uint32_z (a : Addr) (n c : Nat) (zs : List Int) (w : World) (hn : 4 ≤ n) (hl : 4 ≤ zs.length) (hcell : ∀ i, i < zs.length → w.cell? (a.add i) = some (.int .u8 (zs.getD i 0))) (hw : ∀ z ∈ zs, (Lit.int .u8 z).wf = true) :
    Calls Tryz.prog 150 #[.agg #[], .slice (some a) n c] w fun e w' => e = .returned (.int .u32 (Lib.beZ (zs.take 4))) ∧ Below w.heap.size w w' := Any.binary_BE_Uint32_z Tryz.laysBin39 a n c zs w hn hl hcell hw
shelf_try #print axioms Tryz.binary_BE_Uint32_z
shelf_try open Go.RowKit in
/-- binary.BigEndian.Uint64, ITS PREMISES 'open_ints'' CONCLUSION TO THE LETTER: a slice at WHATEVER address a, the numbers zs that its cells hold: THE NUMBER THAT THE FIRST 8 SPELL ('Lib.beZ'). (LAID: no walk: one application.) -/
theorem Tryz.binary_BE_Uint64_z (a : Addr) (n c : Nat) (zs : List Int) (w : World) (hn : 8 ≤ n) (hl : 8 ≤ zs.length) (hcell : ∀ i, i < zs.length → w.cell? (a.add i) = some (.int .u8 (zs.getD i 0))) (hw : ∀ z ∈ zs, (Lit.int .u8 z).wf = true) :
    Calls Tryz.prog 163 #[.agg #[], .slice (some a) n c] w fun e w' => e = .returned (.int .u64 (Lib.beZ (zs.take 8))) ∧ Below w.heap.size w w' := Any.binary_BE_Uint64_z Tryz.laysBin42 a n c zs w hn hl hcell hw
shelf_try #print axioms Tryz.binary_BE_Uint64_z
shelf_try shelf_lay LaysGg.n14 Ggs 14 at Tryz as Tryz.laysGg14
shelf_try open Go.RowKit Go.Lib Go.Sort in
/-- sort.pdqsort_func AT A RANGE OF AT MOST 12. (LAID: no walk: one application.) -/
theorem Tryz.pdqsort_func_small {α : Type} [Inhabited α] (enc : α → Value) (lt : α → α → Bool) (g : Nat) (lb : Array Value) (sf : Nat) (sb : Array Value) (blk off a b : Nat) (lim : Int) (d : Array α) (w : World) (eg : ∀ args w, (callFunc g args).run Tryz.prog w = .ok (.enter g args) w) (hless : LessReads Tryz.prog g lb enc lt blk off d.size w) (hswap : SwapSwaps Tryz.prog sf sb enc blk off d.size) (hH : Holds enc w blk off d) (hblk : blk < w.heap.size) (hab : a ≤ b) (hb : b ≤ d.size) (hsz : d.size < 4611686018427387904) (h12 : b - a ≤ 12) :
    Calls Tryz.prog 162 #[.agg #[.func (.func g) #[] lb, .func (.func sf) #[] sb], .int .i64 a, .int .i64 b, .int .i64 lim] w fun e w' =>
      e = .returned (.tuple #[]) ∧ ∃ n, w' = putRow enc (Sort.ahead ((w.alloc (.cells #[.func (.func g) #[] lb, .func (.func sf) #[] sb] 211)).alloc (.cells #[.func (.func g) #[] lb, .func (.func sf) #[] sb] 211)) n) blk off (Sort.insertionSort lt d a b) := Any.pdqsort_func_small Tryz.laysGg14 enc lt g lb sf sb blk off a b lim d w eg hless hswap hH hblk hab hb hsz h12
shelf_try #print axioms Tryz.pdqsort_func_small
shelf_try shelf_lay LaysGg.n6 Ggs 6 at Tryz as Tryz.laysGg6
shelf_try open Go.RowKit Go.Lib Go.Sort in
/-- **sort.Slice AT A SLICE OF 2 TO 12 ELEMENTS OF ONE CELL: "Slice sorts the slice x given the provided less function.": THE ROW HOLDS 'Sort.insertionSort lt d 0 d.size'; some draws on; new blocks; nothing else turns.** (LAID: no walk: one application.) -/
theorem Tryz.sort_Slice_small {α : Type} [Inhabited α] (t e : TypeId) (i ie : TypeInfo) (hi : Tryz.prog.info? t = some i) (hd : i.desc = .slice e) (hie : Tryz.prog.info? e = some ie) (ke : Nat) (hke : ∀ w, (Extern.Rtype.kind e).run Tryz.prog w = .ok ke w) (hs1 : ie.size = 1) (hagg : ∀ w, (isAgg e).run Tryz.prog w = .ok false w) (enc : α → Value) (h1 : ∀ x, (enc x).oneCell' = true) (lt : α → α → Bool) (g : Nat) (lb : Array Value) (eg : ∀ args w, (callFunc g args).run Tryz.prog w = .ok (.enter g args) w) (blk off c : Nat) (d : Array α) (h2 : 2 ≤ d.size) (h12 : d.size ≤ 12) (f : Nat) (hf : Tryz.prog.funcs.findIdx? (·.name == "internal/reflectlite" ++ ".Swapper$" ++ toString (swapperK d.size ie ke)) = some f) (gS : Bool) (hx : ∀ args W, (callFunc f args).run Tryz.prog W = ((Extern.ReflectliteSwapper.swap gS args).run Tryz.prog W).andThen fun v w' => .ok (.value v) w') (w : World) (hless : LessReads Tryz.prog g lb enc lt blk off d.size w) (hH : Holds enc w blk off d) (hblk : blk < w.heap.size) :
    Calls Tryz.prog 154 #[.iface t (.slice (some ⟨blk, off, none⟩) d.size c), .func (.func g) #[] lb] w fun e w' =>
      e = .returned (.tuple #[]) ∧ ∃ n os, w' = grow (putRow enc (Sort.ahead w n) blk off (Sort.insertionSort lt d 0 d.size)) os := Any.sort_Slice_small Tryz.laysGg6 t e i ie hi hd hie ke hke hs1 hagg enc h1 lt g lb eg blk off c d h2 h12 f hf gS hx w hless hH hblk
shelf_try #print axioms Tryz.sort_Slice_small
shelf_try open Go.RowKit Go.Lib Go.Sort in
/-- **THE SAME IN THE DOCUMENTATION's OWN TERMS: WHERE 'lt' IS A STRICT WEAK ORDER THE ROW HOLDS A PERMUTATION OF WHAT IT HELD, SORTED BY 'lt'.** Which of two equals comes first is left open ("The sort is not guaranteed to be stable"). By a hand of the authors' house's plain theorem 'Sort.insertionSort_holds' (Derived/Sort/LotA.lean), which is over an abstract 'lt'. (LAID: no walk: one application.) -/
theorem Tryz.sort_Slice_small_sorted {α : Type} [Inhabited α] (t e : TypeId) (i ie : TypeInfo) (hi : Tryz.prog.info? t = some i) (hd : i.desc = .slice e) (hie : Tryz.prog.info? e = some ie) (ke : Nat) (hke : ∀ w, (Extern.Rtype.kind e).run Tryz.prog w = .ok ke w) (hs1 : ie.size = 1) (hagg : ∀ w, (isAgg e).run Tryz.prog w = .ok false w) (enc : α → Value) (h1 : ∀ x, (enc x).oneCell' = true) (lt : α → α → Bool) (hO : SWO lt) (g : Nat) (lb : Array Value) (eg : ∀ args w, (callFunc g args).run Tryz.prog w = .ok (.enter g args) w) (blk off c : Nat) (d : Array α) (h2 : 2 ≤ d.size) (h12 : d.size ≤ 12) (f : Nat) (hf : Tryz.prog.funcs.findIdx? (·.name == "internal/reflectlite" ++ ".Swapper$" ++ toString (swapperK d.size ie ke)) = some f) (gS : Bool) (hx : ∀ args W, (callFunc f args).run Tryz.prog W = ((Extern.ReflectliteSwapper.swap gS args).run Tryz.prog W).andThen fun v w' => .ok (.value v) w') (w : World) (hless : LessReads Tryz.prog g lb enc lt blk off d.size w) (hH : Holds enc w blk off d) (hblk : blk < w.heap.size) :
    Calls Tryz.prog 154 #[.iface t (.slice (some ⟨blk, off, none⟩) d.size c), .func (.func g) #[] lb] w fun e w' =>
      e = .returned (.tuple #[]) ∧ ∃ d' n os, PermIn 0 d.size d d' ∧ SortedIn lt 0 d.size d' ∧ w' = grow (putRow enc (Sort.ahead w n) blk off d') os := Any.sort_Slice_small_sorted Tryz.laysGg6 t e i ie hi hd hie ke hke hs1 hagg enc h1 lt hO g lb eg blk off c d h2 h12 f hf gS hx w hless hH hblk
shelf_try #print axioms Tryz.sort_Slice_small_sorted
shelf_try open Go.RowKit Go.Lib Go.Sort in
theorem Tryz.insertionSort_func_none (lf : Fn) (la lb : Array Value) (f : Nat) (sb : Array Value) (a b : Nat) (h : b ≤ a + 1) (ha : a < 4611686018427387904) (w : World) :
    Calls Tryz.prog 174 #[.agg #[.func lf la lb, .func (.func f) #[] sb], .int .i64 a, .int .i64 b] w fun e w' => e = .returned (.tuple #[]) ∧ w' = w.alloc (.cells #[.func lf la lb, .func (.func f) #[] sb] 211) := Any.insertionSort_func_none Tryz.laysGg26 lf la lb f sb a b h ha w
shelf_try #print axioms Tryz.insertionSort_func_none
shelf_try open Go.RowKit Go.Lib Go.Sort in
theorem Tryz.pdqsort_func_tiny (lf : Fn) (la lb : Array Value) (f : Nat) (sb : Array Value) (n : Nat) (h : n ≤ 1) (lim : Int) (w : World) :
    Calls Tryz.prog 162 #[.agg #[.func lf la lb, .func (.func f) #[] sb], .int .i64 0, .int .i64 n, .int .i64 lim] w fun e w' => e = .returned (.tuple #[]) ∧ w' = (w.alloc (.cells #[.func lf la lb, .func (.func f) #[] sb] 211)).alloc (.cells #[.func lf la lb, .func (.func f) #[] sb] 211) := Any.pdqsort_func_tiny Tryz.laysGg14 lf la lb f sb n h lim w
shelf_try #print axioms Tryz.pdqsort_func_tiny
shelf_try open Go.RowKit Go.Lib Go.Sort in
/-- **sort.Slice AT NO ELEMENT OR ONE.** (LAID: no walk: one application.) -/
theorem Tryz.sort_Slice_tiny (t e : TypeId) (i ie : TypeInfo) (hi : Tryz.prog.info? t = some i) (hd : i.desc = .slice e) (hie : Tryz.prog.info? e = some ie) (ke : Nat) (hke : ∀ w, (Extern.Rtype.kind e).run Tryz.prog w = .ok ke w) (p : Option Addr) (n c : Nat) (h1 : n ≤ 1) (f : Nat) (hf : Tryz.prog.funcs.findIdx? (·.name == "internal/reflectlite" ++ ".Swapper$" ++ toString (swapperK n ie ke)) = some f) (lf : Fn) (la lb : Array Value) (w : World) :
    Calls Tryz.prog 154 #[.iface t (.slice p n c), .func lf la lb] w fun e w' => e = .returned (.tuple #[]) ∧ ∃ os, w' = grow w os := Any.sort_Slice_tiny Tryz.laysGg6 t e i ie hi hd hie ke hke p n c h1 f hf lf la lb w
shelf_try #print axioms Tryz.sort_Slice_tiny
shelf_try open Go.RowKit Go.Lib Go.Sort in
/-- sort.insertionSort_func, from a world to a 'sortWorld' of it. (LAID: no walk: one application.) -/
theorem Tryz.insertionSort_func_w {α : Type} [Inhabited α] (enc : α → Value) (lt : α → α → Bool) (g : Nat) (lb : Array Value) (sf : Nat) (sb : Array Value) (blk off a b : Nat) (d : Array α) (w : World) (eg : ∀ args w, (callFunc g args).run Tryz.prog w = .ok (.enter g args) w) (hless : LessReads Tryz.prog g lb enc lt blk off d.size w) (hswap : SwapSwaps Tryz.prog sf sb enc blk off d.size) (hH : Holds enc w blk off d) (hblk : blk < w.heap.size) (hab : a ≤ b) (hb : b ≤ d.size) (hsz : d.size < 4611686018427387904) :
    Calls Tryz.prog 174 #[.agg #[.func (.func g) #[] lb, .func (.func sf) #[] sb], .int .i64 a, .int .i64 b] w fun e w' => e = .returned (.tuple #[]) ∧ ∃ n os, w' = sortWorld enc w blk off n (Sort.insertionSort lt d a b) os := Any.insertionSort_func_w Tryz.laysGg26 enc lt g lb sf sb blk off a b d w eg hless hswap hH hblk hab hb hsz
shelf_try #print axioms Tryz.insertionSort_func_w
shelf_try shelf_lay LaysGg.n30 Ggs 30 at Tryz as Tryz.laysGg30
shelf_try open Go.RowKit Go.Lib Go.Sort in
theorem Tryz.reverseRange_func_one {α : Type} [Inhabited α] (enc : α → Value) (lf : Fn) (la lb : Array Value) (sf : Nat) (sb : Array Value) (blk off a b : Nat) (d : Array α) (w : World) (hswap : SwapSwaps Tryz.prog sf sb enc blk off d.size) (hH : Holds enc w blk off d) (hblk : blk < w.heap.size) (hab : a ≤ b) (hb : b ≤ d.size) (hsz : d.size < 4611686018427387904) :
    Calls Tryz.prog 178 #[.agg #[.func lf la lb, .func (.func sf) #[] sb], .int .i64 a, .int .i64 b] w fun e w' => e = .returned (.tuple #[]) ∧ ∃ n, w' = putRow enc (Sort.ahead (w.alloc (.cells #[.func lf la lb, .func (.func sf) #[] sb] 211)) n) blk off (reverseRange d a b) := Any.reverseRange_func_one Tryz.laysGg30 enc lf la lb sf sb blk off a b d w hswap hH hblk hab hb hsz
shelf_try #print axioms Tryz.reverseRange_func_one
shelf_try open Go.RowKit Go.Lib Go.Sort in
/-- sort.reverseRange_func, from a world to a 'sortWorld' of it. (LAID: no walk: one application.) -/
theorem Tryz.reverseRange_func_w {α : Type} [Inhabited α] (enc : α → Value) (lf : Fn) (la lb : Array Value) (sf : Nat) (sb : Array Value) (blk off a b : Nat) (d : Array α) (w : World) (hswap : SwapSwaps Tryz.prog sf sb enc blk off d.size) (hH : Holds enc w blk off d) (hblk : blk < w.heap.size) (hab : a ≤ b) (hb : b ≤ d.size) (hsz : d.size < 4611686018427387904) :
    Calls Tryz.prog 178 #[.agg #[.func lf la lb, .func (.func sf) #[] sb], .int .i64 a, .int .i64 b] w fun e w' => e = .returned (.tuple #[]) ∧ ∃ n os, w' = sortWorld enc w blk off n (reverseRange d a b) os := Any.reverseRange_func_w Tryz.laysGg30 enc lf la lb sf sb blk off a b d w hswap hH hblk hab hb hsz
shelf_try #print axioms Tryz.reverseRange_func_w
shelf_try shelf_lay LaysGg.n39 Ggs 39 at Tryz as Tryz.laysGg39
shelf_try open Go.RowKit Go.Lib Go.Sort in
theorem Tryz.order2_func {α : Type} [Inhabited α] (enc : α → Value) (lt : α → α → Bool) (g : Nat) (lb : Array Value) (sfn : Fn) (sa sb : Array Value) (blk off : Nat) (w0 W : World) (d : Array α) (a b cb co s : Nat) (eg : ∀ args w, (callFunc g args).run Tryz.prog w = .ok (.enter g args) w) (hL : LessReads Tryz.prog g lb enc lt blk off d.size w0) (hW : SW enc w0 blk off d W) (ha : a < d.size) (hb : b < d.size) (hS : Holds (Value.int .i64) W cb co (one s)) (hcb : cb < W.heap.size) (hs : s < 4611686018427387904) :
    Calls Tryz.prog 187 #[.agg #[.func (.func g) #[] lb, .func sfn sa sb], .int .i64 a, .int .i64 b, .pointer (some ⟨cb, co, none⟩)] W fun e w' =>
      e = .returned (.tuple #[.int .i64 (order2 lt d a b s).1, .int .i64 (order2 lt d a b s).2.1]) ∧ ∃ n os, w' = sortWorld (Value.int .i64) W cb co n (one (order2 lt d a b s).2.2) os := Any.order2_func Tryz.laysGg39 enc lt g lb sfn sa sb blk off w0 W d a b cb co s eg hL hW ha hb hS hcb hs
shelf_try #print axioms Tryz.order2_func
shelf_try shelf_lay LaysGg.n38 Ggs 38 at Tryz as Tryz.laysGg38
shelf_try open Go.RowKit Go.Lib Go.Sort in
theorem Tryz.median_func {α : Type} [Inhabited α] (enc : α → Value) (lt : α → α → Bool) (g : Nat) (lb : Array Value) (sfn : Fn) (sa sb : Array Value) (blk off : Nat) (w0 W : World) (d : Array α) (a b c cb co s : Nat) (eg : ∀ args w, (callFunc g args).run Tryz.prog w = .ok (.enter g args) w) (hL : LessReads Tryz.prog g lb enc lt blk off d.size w0) (hW : SW enc w0 blk off d W) (ha : a < d.size) (hb : b < d.size) (hc : c < d.size) (hS : Holds (Value.int .i64) W cb co (one s)) (hcb0 : w0.heap.size ≤ cb) (hcb : cb < W.heap.size) (hs : s + 3 < 4611686018427387904) :
    Calls Tryz.prog 186 #[.agg #[.func (.func g) #[] lb, .func sfn sa sb], .int .i64 a, .int .i64 b, .int .i64 c, .pointer (some ⟨cb, co, none⟩)] W fun e w' =>
      e = .returned (.int .i64 (median lt d a b c s).1) ∧ ∃ n os, w' = sortWorld (Value.int .i64) W cb co n (one (median lt d a b c s).2) os := Any.median_func Tryz.laysGg38 enc lt g lb sfn sa sb blk off w0 W d a b c cb co s eg hL hW ha hb hc hS hcb0 hcb hs
shelf_try #print axioms Tryz.median_func
shelf_try shelf_lay LaysGg.n37 Ggs 37 at Tryz as Tryz.laysGg37
shelf_try open Go.RowKit Go.Lib Go.Sort in
theorem Tryz.medianAdjacent_func {α : Type} [Inhabited α] (enc : α → Value) (lt : α → α → Bool) (g : Nat) (lb : Array Value) (sfn : Fn) (sa sb : Array Value) (blk off : Nat) (w0 W : World) (d : Array α) (a cb co s : Nat) (eg : ∀ args w, (callFunc g args).run Tryz.prog w = .ok (.enter g args) w) (hL : LessReads Tryz.prog g lb enc lt blk off d.size w0) (hW : SW enc w0 blk off d W) (ha1 : 1 ≤ a) (ha2 : a + 1 < d.size) (hsz : d.size < 4611686018427387904) (hS : Holds (Value.int .i64) W cb co (one s)) (hcb0 : w0.heap.size ≤ cb) (hcb : cb < W.heap.size) (hs : s + 3 < 4611686018427387904) :
    Calls Tryz.prog 185 #[.agg #[.func (.func g) #[] lb, .func sfn sa sb], .int .i64 a, .pointer (some ⟨cb, co, none⟩)] W fun e w' =>
      e = .returned (.int .i64 (medianAdjacent lt d a s).1) ∧ ∃ n os, w' = sortWorld (Value.int .i64) W cb co n (one (medianAdjacent lt d a s).2) os := Any.medianAdjacent_func Tryz.laysGg37 enc lt g lb sfn sa sb blk off w0 W d a cb co s eg hL hW ha1 ha2 hsz hS hcb0 hcb hs
shelf_try #print axioms Tryz.medianAdjacent_func
shelf_try shelf_lay LaysGg.n29 Ggs 29 at Tryz as Tryz.laysGg29
shelf_try open Go.RowKit Go.Lib Go.Sort in
/-- sort.choosePivot_func: THE LIBRARY's OWN TEXT COMPUTES 'Sort.choosePivot lt d a b'; the row is not turned; W is grown. (After Derived/Sort/Walk11.lean's 'So.choosePivot_int', row for row.) (LAID: no walk: one application.) -/
theorem Tryz.choosePivot_func {α : Type} [Inhabited α] (enc : α → Value) (lt : α → α → Bool) (g : Nat) (lb : Array Value) (sfn : Fn) (sa sb : Array Value) (blk off a b : Nat) (W : World) (d : Array α) (eg : ∀ args w, (callFunc g args).run Tryz.prog w = .ok (.enter g args) w) (hless : LessReads Tryz.prog g lb enc lt blk off d.size W) (hH : Holds enc W blk off d) (hab : a < b) (hb : b ≤ d.size) (hsz : d.size < 4611686018427387904) :
    Calls Tryz.prog 177 #[.agg #[.func (.func g) #[] lb, .func sfn sa sb], .int .i64 a, .int .i64 b] W fun e w' =>
      e = .returned (.tuple #[.int .i64 (choosePivot lt d a b).1, .int .i64 (hintCode (choosePivot lt d a b).2)]) ∧ ∃ n os, w' = grow (Sort.ahead W n) os := Any.choosePivot_func Tryz.laysGg29 enc lt g lb sfn sa sb blk off a b W d eg hless hH hab hb hsz
shelf_try #print axioms Tryz.choosePivot_func
shelf_try shelf_lay LaysGg.n32 Ggs 32 at Tryz as Tryz.laysGg32
shelf_try open Go.RowKit Go.Lib Go.Sort in
theorem Tryz.partitionEqual_func_one {α : Type} [Inhabited α] (enc : α → Value) (lt : α → α → Bool) (g : Nat) (lb : Array Value) (sf : Nat) (sb : Array Value) (blk off a b pivot : Nat) (d : Array α) (W : World) (eg : ∀ args w, (callFunc g args).run Tryz.prog w = .ok (.enter g args) w) (hless : LessReads Tryz.prog g lb enc lt blk off d.size W) (hswap : SwapSwaps Tryz.prog sf sb enc blk off d.size) (hH : Holds enc W blk off d) (hblk : blk < W.heap.size) (hap : a ≤ pivot) (hpb : pivot < b) (hb : b ≤ d.size) (hsz : d.size < 4611686018427387904) :
    Calls Tryz.prog 180 #[.agg #[.func (.func g) #[] lb, .func (.func sf) #[] sb], .int .i64 a, .int .i64 b, .int .i64 pivot] W fun e w' =>
      e = .returned (.int .i64 (Sort.partitionEqual lt d a b pivot).1) ∧ ∃ n, w' = (putRow enc (W.alloc (.cells #[.func (.func g) #[] lb, .func (.func sf) #[] sb] 211)) blk off (Sort.partitionEqual lt d a b pivot).2).drewN n := Any.partitionEqual_func_one Tryz.laysGg32 enc lt g lb sf sb blk off a b pivot d W eg hless hswap hH hblk hap hpb hb hsz
shelf_try #print axioms Tryz.partitionEqual_func_one
shelf_try shelf_lay LaysGg.n33 Ggs 33 at Tryz as Tryz.laysGg33
shelf_try open Go.RowKit Go.Lib Go.Sort in
theorem Tryz.partition_func_one {α : Type} [Inhabited α] (enc : α → Value) (lt : α → α → Bool) (g : Nat) (lb : Array Value) (sf : Nat) (sb : Array Value) (blk off a b pivot : Nat) (d : Array α) (W : World) (eg : ∀ args w, (callFunc g args).run Tryz.prog w = .ok (.enter g args) w) (hless : LessReads Tryz.prog g lb enc lt blk off d.size W) (hswap : SwapSwaps Tryz.prog sf sb enc blk off d.size) (hH : Holds enc W blk off d) (hblk : blk < W.heap.size) (hap : a ≤ pivot) (hpb : pivot < b) (hb : b ≤ d.size) (hsz : d.size < 4611686018427387904) :
    Calls Tryz.prog 181 #[.agg #[.func (.func g) #[] lb, .func (.func sf) #[] sb], .int .i64 a, .int .i64 b, .int .i64 pivot] W fun e w' =>
      e = .returned (.tuple #[.int .i64 (Sort.partition lt d a b pivot).1, .bool (Sort.partition lt d a b pivot).2.1]) ∧ ∃ n, w' = (putRow enc (W.alloc (.cells #[.func (.func g) #[] lb, .func (.func sf) #[] sb] 211)) blk off (Sort.partition lt d a b pivot).2.2).drewN n := Any.partition_func_one Tryz.laysGg33 enc lt g lb sf sb blk off a b pivot d W eg hless hswap hH hblk hap hpb hb hsz
shelf_try #print axioms Tryz.partition_func_one
shelf_try open Go.RowKit Go.Lib Go.Sort in
/-- sort.partitionEqual_func, from a world to a 'sortWorld' of it. (LAID: no walk: one application.) -/
theorem Tryz.partitionEqual_func_w {α : Type} [Inhabited α] (enc : α → Value) (lt : α → α → Bool) (g : Nat) (lb : Array Value) (sf : Nat) (sb : Array Value) (blk off a b pivot : Nat) (d : Array α) (W : World) (eg : ∀ args w, (callFunc g args).run Tryz.prog w = .ok (.enter g args) w) (hless : LessReads Tryz.prog g lb enc lt blk off d.size W) (hswap : SwapSwaps Tryz.prog sf sb enc blk off d.size) (hH : Holds enc W blk off d) (hblk : blk < W.heap.size) (hap : a ≤ pivot) (hpb : pivot < b) (hb : b ≤ d.size) (hsz : d.size < 4611686018427387904) :
    Calls Tryz.prog 180 #[.agg #[.func (.func g) #[] lb, .func (.func sf) #[] sb], .int .i64 a, .int .i64 b, .int .i64 pivot] W fun e w' => e = .returned (.int .i64 (Sort.partitionEqual lt d a b pivot).1) ∧ ∃ n os, w' = sortWorld enc W blk off n (Sort.partitionEqual lt d a b pivot).2 os := Any.partitionEqual_func_w Tryz.laysGg32 enc lt g lb sf sb blk off a b pivot d W eg hless hswap hH hblk hap hpb hb hsz
shelf_try #print axioms Tryz.partitionEqual_func_w
shelf_try open Go.RowKit Go.Lib Go.Sort in
/-- sort.partition_func, from a world to a 'sortWorld' of it. (LAID: no walk: one application.) -/
theorem Tryz.partition_func_w {α : Type} [Inhabited α] (enc : α → Value) (lt : α → α → Bool) (g : Nat) (lb : Array Value) (sf : Nat) (sb : Array Value) (blk off a b pivot : Nat) (d : Array α) (W : World) (eg : ∀ args w, (callFunc g args).run Tryz.prog w = .ok (.enter g args) w) (hless : LessReads Tryz.prog g lb enc lt blk off d.size W) (hswap : SwapSwaps Tryz.prog sf sb enc blk off d.size) (hH : Holds enc W blk off d) (hblk : blk < W.heap.size) (hap : a ≤ pivot) (hpb : pivot < b) (hb : b ≤ d.size) (hsz : d.size < 4611686018427387904) :
    Calls Tryz.prog 181 #[.agg #[.func (.func g) #[] lb, .func (.func sf) #[] sb], .int .i64 a, .int .i64 b, .int .i64 pivot] W fun e w' => e = .returned (.tuple #[.int .i64 (Sort.partition lt d a b pivot).1, .bool (Sort.partition lt d a b pivot).2.1]) ∧ ∃ n os, w' = sortWorld enc W blk off n (Sort.partition lt d a b pivot).2.2 os := Any.partition_func_w Tryz.laysGg33 enc lt g lb sf sb blk off a b pivot d W eg hless hswap hH hblk hap hpb hb hsz
shelf_try #print axioms Tryz.partition_func_w
shelf_try open Go.RowKit Go.Lib Go.Sort in
theorem Tryz.pdqsort_func_all {α : Type} [Inhabited α] (enc : α → Value) (lt : α → α → Bool) (hO : SWO lt) (g : Nat) (lb : Array Value) (sf : Nat) (sb : Array Value) (eg : ∀ args w, (callFunc g args).run Tryz.prog w = .ok (.enter g args) w) :
    ∀ (N blk off a b limit : Nat) (d : Array α) (w : World), b - a < N → LessReads Tryz.prog g lb enc lt blk off d.size w → SwapSwaps Tryz.prog sf sb enc blk off d.size → Holds enc w blk off d → blk < w.heap.size → a ≤ b → b ≤ d.size → d.size < 4611686018427387904 → limit < 4611686018427387904 → Below lt a b d →
    Calls Tryz.prog 162 #[.agg #[.func (.func g) #[] lb, .func (.func sf) #[] sb], .int .i64 a, .int .i64 b, .int .i64 limit] w fun e w' => e = .returned (.tuple #[]) ∧ At enc w blk off (pdq lt d a b limit true true) w' := Any.pdqsort_func_all Tryz.laysGg14 enc lt hO g lb sf sb eg
shelf_try #print axioms Tryz.pdqsort_func_all
shelf_try open Go.RowKit Go.Lib Go.Sort in
/-- **sort.Slice: WHAT THE ROW HOLDS, TO THE ELEMENT.** (LAID: no walk: one application.) -/
theorem Tryz.sort_Slice_eq {α : Type} [Inhabited α] (t e : TypeId) (i ie : TypeInfo) (hi : Tryz.prog.info? t = some i) (hd : i.desc = .slice e) (hie : Tryz.prog.info? e = some ie) (ke : Nat) (hke : ∀ w, (Extern.Rtype.kind e).run Tryz.prog w = .ok ke w) (hs1 : ie.size = 1) (hagg : ∀ w, (isAgg e).run Tryz.prog w = .ok false w) (enc : α → Value) (h1 : ∀ x, (enc x).oneCell' = true) (lt : α → α → Bool) (hO : SWO lt) (g : Nat) (lb : Array Value) (eg : ∀ args w, (callFunc g args).run Tryz.prog w = .ok (.enter g args) w) (blk off c : Nat) (d : Array α) (h2 : 2 ≤ d.size) (hsz : d.size < 4611686018427387904) (f : Nat) (hf : Tryz.prog.funcs.findIdx? (·.name == "internal/reflectlite" ++ ".Swapper$" ++ toString (swapperK d.size ie ke)) = some f) (gS : Bool) (hx : ∀ args W, (callFunc f args).run Tryz.prog W = ((Extern.ReflectliteSwapper.swap gS args).run Tryz.prog W).andThen fun v w' => .ok (.value v) w') (w : World) (hless : LessReads Tryz.prog g lb enc lt blk off d.size w) (hH : Holds enc w blk off d) (hblk : blk < w.heap.size) :
    Calls Tryz.prog 154 #[.iface t (.slice (some ⟨blk, off, none⟩) d.size c), .func (.func g) #[] lb] w fun e w' =>
      e = .returned (.tuple #[]) ∧ ∃ n os, w' = grow (putRow enc (Sort.ahead w n) blk off (pdq lt d 0 d.size (Lib.bitLen d.size) true true)) os := Any.sort_Slice_eq Tryz.laysGg6 t e i ie hi hd hie ke hke hs1 hagg enc h1 lt hO g lb eg blk off c d h2 hsz f hf gS hx w hless hH hblk
shelf_try #print axioms Tryz.sort_Slice_eq
shelf_try open Go.RowKit Go.Lib Go.Sort in
/-- **sort.Slice, IN THE DOCUMENTATION's OWN TERMS: A PERMUTATION OF WHAT THE ROW HELD, SORTED BY 'lt'.** Which of two equals comes first is left open. (LAID: no walk: one application.) -/
theorem Tryz.sort_Slice_sorted {α : Type} [Inhabited α] (t e : TypeId) (i ie : TypeInfo) (hi : Tryz.prog.info? t = some i) (hd : i.desc = .slice e) (hie : Tryz.prog.info? e = some ie) (ke : Nat) (hke : ∀ w, (Extern.Rtype.kind e).run Tryz.prog w = .ok ke w) (hs1 : ie.size = 1) (hagg : ∀ w, (isAgg e).run Tryz.prog w = .ok false w) (enc : α → Value) (h1 : ∀ x, (enc x).oneCell' = true) (lt : α → α → Bool) (hO : SWO lt) (g : Nat) (lb : Array Value) (eg : ∀ args w, (callFunc g args).run Tryz.prog w = .ok (.enter g args) w) (blk off c : Nat) (d : Array α) (h2 : 2 ≤ d.size) (hsz : d.size < 4611686018427387904) (f : Nat) (hf : Tryz.prog.funcs.findIdx? (·.name == "internal/reflectlite" ++ ".Swapper$" ++ toString (swapperK d.size ie ke)) = some f) (gS : Bool) (hx : ∀ args W, (callFunc f args).run Tryz.prog W = ((Extern.ReflectliteSwapper.swap gS args).run Tryz.prog W).andThen fun v w' => .ok (.value v) w') (w : World) (hless : LessReads Tryz.prog g lb enc lt blk off d.size w) (hH : Holds enc w blk off d) (hblk : blk < w.heap.size) :
    Calls Tryz.prog 154 #[.iface t (.slice (some ⟨blk, off, none⟩) d.size c), .func (.func g) #[] lb] w fun e w' =>
      e = .returned (.tuple #[]) ∧ ∃ d' n os, PermIn 0 d.size d d' ∧ SortedIn lt 0 d.size d' ∧ w' = grow (putRow enc (Sort.ahead w n) blk off d') os := Any.sort_Slice_sorted Tryz.laysGg6 t e i ie hi hd hie ke hke hs1 hagg enc h1 lt hO g lb eg blk off c d h2 hsz f hf gS hx w hless hH hblk
shelf_try #print axioms Tryz.sort_Slice_sorted
shelf_try shelf_lay LaysGg.n36 Ggs 36 at Tryz as Tryz.laysGg36
shelf_try open Go.RowKit Go.Lib Go.Sort in
/-- '*r ^= *r << 13; *r ^= *r >> 7; *r ^= *r << 17; return uint64(*r)': the cell holds 'xorNextN X' and that is handed back; three draws; nothing else turns. (LAID: no walk: one application.) -/
theorem Tryz.xorshift_Next (rb ro X : Nat) (hX : X < 18446744073709551616) (w : World) (hc : w.cell? ⟨rb, ro, none⟩ = some (.int .u64 X)) (hf : w.frozen? ⟨rb, ro, none⟩ = false) :
    Calls Tryz.prog 184 #[.pointer (some ⟨rb, ro, none⟩)] w fun e w' => e = .returned (.int .u64 (xorNextN X : Nat)) ∧ w' = (w.setCell ⟨rb, ro, none⟩ (.int .u64 (xorNextN X : Nat))).drewN 3 := Any.xorshift_Next Tryz.laysGg36 rb ro X hX w hc hf
shelf_try #print axioms Tryz.xorshift_Next
shelf_try shelf_lay LaysGg.n35 Ggs 35 at Tryz as Tryz.laysGg35
shelf_try open Go.RowKit Go.Lib Go.Sort in
/-- 'return 1 << bits.Len(uint(length))'. (LAID: no walk: one application.) -/
theorem Tryz.nextPowerOfTwo (n : Nat) (hn : n < 4611686018427387904) (w : World) :
    Calls Tryz.prog 183 #[.int .i64 n] w fun e w' => e = .returned (.int .u64 ((1 <<< bitsLen n : Nat) : Int)) ∧ w' = w := Any.nextPowerOfTwo Tryz.laysGg35 n hn w
shelf_try #print axioms Tryz.nextPowerOfTwo
shelf_try shelf_lay LaysGg.n34 Ggs 34 at Tryz as Tryz.laysGg34
shelf_try open Go.RowKit Go.Lib Go.Sort in
theorem Tryz.siftDown_func_one {α : Type} [Inhabited α] (enc : α → Value) (lt : α → α → Bool) (g : Nat) (lb : Array Value) (sf : Nat) (sb : Array Value) (blk off lo hi first : Nat) (d : Array α) (w : World) (eg : ∀ args w, (callFunc g args).run Tryz.prog w = .ok (.enter g args) w) (hless : LessReads Tryz.prog g lb enc lt blk off d.size w) (hswap : SwapSwaps Tryz.prog sf sb enc blk off d.size) (hH : Holds enc w blk off d) (hblk : blk < w.heap.size) (hlo : lo ≤ hi) (hb : first + hi ≤ d.size) (hsz : d.size < 4611686018427387904) :
    Calls Tryz.prog 182 #[.agg #[.func (.func g) #[] lb, .func (.func sf) #[] sb], .int .i64 lo, .int .i64 hi, .int .i64 first] w fun e w' =>
      e = .returned (.tuple #[]) ∧ ∃ n, w' = putRow enc (Sort.ahead (w.alloc (.cells #[.func (.func g) #[] lb, .func (.func sf) #[] sb] 211)) n) blk off (siftDown lt hi first lo d) := Any.siftDown_func_one Tryz.laysGg34 enc lt g lb sf sb blk off lo hi first d w eg hless hswap hH hblk hlo hb hsz
shelf_try #print axioms Tryz.siftDown_func_one
shelf_try open Go.RowKit Go.Lib Go.Sort in
/-- sort.siftDown_func, from a world to a 'sortWorld' of it. (LAID: no walk: one application.) -/
theorem Tryz.siftDown_func_w {α : Type} [Inhabited α] (enc : α → Value) (lt : α → α → Bool) (g : Nat) (lb : Array Value) (sf : Nat) (sb : Array Value) (blk off lo hi first : Nat) (d : Array α) (w : World) (eg : ∀ args w, (callFunc g args).run Tryz.prog w = .ok (.enter g args) w) (hless : LessReads Tryz.prog g lb enc lt blk off d.size w) (hswap : SwapSwaps Tryz.prog sf sb enc blk off d.size) (hH : Holds enc w blk off d) (hblk : blk < w.heap.size) (hlo : lo ≤ hi) (hb : first + hi ≤ d.size) (hsz : d.size < 4611686018427387904) :
    Calls Tryz.prog 182 #[.agg #[.func (.func g) #[] lb, .func (.func sf) #[] sb], .int .i64 lo, .int .i64 hi, .int .i64 first] w fun e w' => e = .returned (.tuple #[]) ∧ ∃ n os, w' = sortWorld enc w blk off n (siftDown lt hi first lo d) os := Any.siftDown_func_w Tryz.laysGg34 enc lt g lb sf sb blk off lo hi first d w eg hless hswap hH hblk hlo hb hsz
shelf_try #print axioms Tryz.siftDown_func_w
shelf_try shelf_lay LaysGg.n27 Ggs 27 at Tryz as Tryz.laysGg27
shelf_try open Go.RowKit Go.Lib Go.Sort in
theorem Tryz.heapSort_func_w {α : Type} [Inhabited α] (enc : α → Value) (lt : α → α → Bool) (g : Nat) (lb : Array Value) (sf : Nat) (sb : Array Value) (blk off a b : Nat) (d : Array α) (w : World) (eg : ∀ args w, (callFunc g args).run Tryz.prog w = .ok (.enter g args) w) (hless : LessReads Tryz.prog g lb enc lt blk off d.size w) (hswap : SwapSwaps Tryz.prog sf sb enc blk off d.size) (hH : Holds enc w blk off d) (hblk : blk < w.heap.size) (hab : a ≤ b) (hb : b ≤ d.size) (hsz : d.size < 4611686018427387904) :
    Calls Tryz.prog 175 #[.agg #[.func (.func g) #[] lb, .func (.func sf) #[] sb], .int .i64 a, .int .i64 b] w fun e w' => e = .returned (.tuple #[]) ∧ ∃ n os, w' = sortWorld enc w blk off n (heapSort lt d a b) os := Any.heapSort_func_w Tryz.laysGg27 enc lt g lb sf sb blk off a b d w eg hless hswap hH hblk hab hb hsz
shelf_try #print axioms Tryz.heapSort_func_w
shelf_try shelf_lay LaysGg.n31 Ggs 31 at Tryz as Tryz.laysGg31
shelf_try open Go.RowKit Go.Lib Go.Sort in
theorem Tryz.partialInsertionSort_func_one {α : Type} [Inhabited α] (enc : α → Value) (lt : α → α → Bool) (g : Nat) (lb : Array Value) (sf : Nat) (sb : Array Value) (blk off a b : Nat) (d : Array α) (w : World) (eg : ∀ args w, (callFunc g args).run Tryz.prog w = .ok (.enter g args) w) (hless : LessReads Tryz.prog g lb enc lt blk off d.size w) (hswap : SwapSwaps Tryz.prog sf sb enc blk off d.size) (hH : Holds enc w blk off d) (hblk : blk < w.heap.size) (hab : a < b) (hb : b ≤ d.size) (hsz : d.size < 4611686018427387904) :
    Calls Tryz.prog 179 #[.agg #[.func (.func g) #[] lb, .func (.func sf) #[] sb], .int .i64 a, .int .i64 b] w fun e w' =>
      e = .returned (.bool (Sort.partialInsertionSort lt d a b).2) ∧ ∃ n, w' = putRow enc (Sort.ahead (w.alloc (.cells #[.func (.func g) #[] lb, .func (.func sf) #[] sb] 211)) n) blk off (Sort.partialInsertionSort lt d a b).1 := Any.partialInsertionSort_func_one Tryz.laysGg31 enc lt g lb sf sb blk off a b d w eg hless hswap hH hblk hab hb hsz
shelf_try #print axioms Tryz.partialInsertionSort_func_one
shelf_try open Go.RowKit Go.Lib Go.Sort in
/-- sort.partialInsertionSort_func, from a world to a 'sortWorld' of it. (LAID: no walk: one application.) -/
theorem Tryz.partialInsertionSort_func_w {α : Type} [Inhabited α] (enc : α → Value) (lt : α → α → Bool) (g : Nat) (lb : Array Value) (sf : Nat) (sb : Array Value) (blk off a b : Nat) (d : Array α) (w : World) (eg : ∀ args w, (callFunc g args).run Tryz.prog w = .ok (.enter g args) w) (hless : LessReads Tryz.prog g lb enc lt blk off d.size w) (hswap : SwapSwaps Tryz.prog sf sb enc blk off d.size) (hH : Holds enc w blk off d) (hblk : blk < w.heap.size) (hab : a < b) (hb : b ≤ d.size) (hsz : d.size < 4611686018427387904) :
    Calls Tryz.prog 179 #[.agg #[.func (.func g) #[] lb, .func (.func sf) #[] sb], .int .i64 a, .int .i64 b] w fun e w' => e = .returned (.bool (Sort.partialInsertionSort lt d a b).2) ∧ ∃ n os, w' = sortWorld enc w blk off n (Sort.partialInsertionSort lt d a b).1 os := Any.partialInsertionSort_func_w Tryz.laysGg31 enc lt g lb sf sb blk off a b d w eg hless hswap hH hblk hab hb hsz
shelf_try #print axioms Tryz.partialInsertionSort_func_w
shelf_tried
end Go.Proofs
