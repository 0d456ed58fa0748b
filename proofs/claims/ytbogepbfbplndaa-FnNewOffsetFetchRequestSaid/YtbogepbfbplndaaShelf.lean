/-
  DERIVED: LAID BY THE SHELF's lay-shelf.mjs AT THE DUMP 'toys/ytbogepbfbplndaa/ytbogepbfbplndaa.cut.gsa' (alias 'Try'): THE LIBRARY CONTRACTS THAT ARE PROVED ONCE, OVER ANY PROGRAM AND ANY NUMBERING, AS THEOREMS OF THIS PROGRAM: WITHOUT A WALK: 'shelf_lay' reads the table of numbers off the bodies and has the kernel compare each body; then each contract is ONE APPLICATION. EACH COMMAND STANDS UNDER 'shelf_try': one that errs is rolled back and told in the build's print ('SHELF: NOT LAID: <name>: ..'); THE MODULE's LAST ROW OF PRINT COUNTS THEM ('SHELF: n LAID, m NOT LAID'): READ IT: a contract that is not laid is not there to be used.
-/
import Derived.Shelf.Lay
import Derived.Shelf.LaySoft
import Derived.Shelf.Small.Bits
import Derived.Shelf.Strconv.Itoa0
import Derived.Ground.GgsProg
import Derived.Shelf.GgSortFunc.Insertion
import Derived.Shelf.GgSortFunc.Small
import Derived.Shelf.GgSortFunc.Tiny
import Derived.Shelf.GgSortFunc.Compose
import Derived.Shelf.GgSortFunc.LotD
import Derived.Shelf.GgSortFunc.Pivot
import Derived.Shelf.GgSortFunc.Partition
import Derived.Shelf.GgSortFunc.Pdq
import Derived.Shelf.GgSortFunc.Whole
import Derived.Shelf.SlSortFunc.Xorshift
import Derived.Shelf.SlSortFunc.SiftDown
import Derived.Shelf.SlSortFunc.HeapSort
import Derived.Shelf.SlSortFunc.PartialInsertion
import Derived.Test.YtbogepbfbplndaaProg
namespace Go.Proofs
open Go.Shelf
shelf_try shelf_lay Lays.n128 Nm 128 at Try as Try.lays128
shelf_try /-- bits.Len32: "Len32 returns the minimum number of bits required to represent x; the result is 0 for x == 0.": IT RETURNS 'Lib.bitLen x'; the world is as it was. ('h0', 'h1': x is a uint32.) (LAID: no walk: one application.) -/
theorem Try.bits_Len32 (x : Int) (w : World) (h0 : 0 ≤ x) (h1 : x ≤ 4294967295) :
    Calls Try.prog 54 #[.int .u32 x] w fun e w' => e = .returned (.int .i64 (Lib.bitLen x.toNat)) ∧ w' = w := Any.bits_Len32 Try.lays128 x w h0 h1
shelf_try #print axioms Try.bits_Len32
shelf_try shelf_lay Lays.n125 Nm 125 at Try as Try.lays125
shelf_try /-- bits.Len: "Len returns the minimum number of bits required to represent x; the result is 0 for x == 0.": IT RETURNS 'Lib.bitLen x'; the world is as it was. (A uint has 64 bits in the model.) ITS CALLEE bits.Len64 IS MET BY ITS OWN CONTRACT OFF THE SHELF (lay that first). (LAID: no walk: one application.) -/
theorem Try.bits_Len (x : Int) (w : World) (h0 : 0 ≤ x) (h1 : x ≤ 18446744073709551615) :
    Calls Try.prog 60 #[.int .u64 x] w fun e w' => e = .returned (.int .i64 (Lib.bitLen x.toNat)) ∧ w' = w := Any.bits_Len Try.lays125 x w h0 h1
shelf_try #print axioms Try.bits_Len
shelf_try shelf_lay Lays.n129 Nm 129 at Try as Try.lays129
shelf_try /-- bits.Len64: "Len64 returns the minimum number of bits required to represent x; the result is 0 for x == 0.": IT RETURNS 'Lib.bitLen x'; the world is as it was. ('h0', 'h1': x is a uint64.) (LAID: no walk: one application.) -/
theorem Try.bits_Len64 (x : Int) (w : World) (h0 : 0 ≤ x) (h1 : x ≤ 18446744073709551615) :
    Calls Try.prog 71 #[.int .u64 x] w fun e w' => e = .returned (.int .i64 (Lib.bitLen x.toNat)) ∧ w' = w := Any.bits_Len64 Try.lays129 x w h0 h1
shelf_try #print axioms Try.bits_Len64
shelf_try shelf_lay LaysGg.n26 Ggs 26 at Try as Try.laysGg26
shelf_try open Go.RowKit Go.Lib Go.Sort in
theorem Try.insertionSort_func_one {α : Type} [Inhabited α] (enc : α → Value) (lt : α → α → Bool) (g : Nat) (lb : Array Value) (sf : Nat) (sb : Array Value) (blk off a b : Nat) (d : Array α) (w : World) (eg : ∀ args w, (callFunc g args).run Try.prog w = .ok (.enter g args) w) (hless : LessReads Try.prog g lb enc lt blk off d.size w) (hswap : SwapSwaps Try.prog sf sb enc blk off d.size) (hH : Holds enc w blk off d) (hblk : blk < w.heap.size) (hab : a ≤ b) (hb : b ≤ d.size) (hsz : d.size < 4611686018427387904) :
    Calls Try.prog 72 #[.agg #[.func (.func g) #[] lb, .func (.func sf) #[] sb], .int .i64 a, .int .i64 b] w fun e w' =>
      e = .returned (.tuple #[]) ∧ ∃ n, w' = putRow enc (Sort.ahead (w.alloc (.cells #[.func (.func g) #[] lb, .func (.func sf) #[] sb] 114)) n) blk off (Sort.insertionSort lt d a b) := Any.insertionSort_func_one Try.laysGg26 enc lt g lb sf sb blk off a b d w eg hless hswap hH hblk hab hb hsz
shelf_try #print axioms Try.insertionSort_func_one
shelf_try shelf_lay LaysGg.n14 Ggs 14 at Try as Try.laysGg14
shelf_try open Go.RowKit Go.Lib Go.Sort in
/-- sort.pdqsort_func AT A RANGE OF AT MOST 12. (LAID: no walk: one application.) -/
theorem Try.pdqsort_func_small {α : Type} [Inhabited α] (enc : α → Value) (lt : α → α → Bool) (g : Nat) (lb : Array Value) (sf : Nat) (sb : Array Value) (blk off a b : Nat) (lim : Int) (d : Array α) (w : World) (eg : ∀ args w, (callFunc g args).run Try.prog w = .ok (.enter g args) w) (hless : LessReads Try.prog g lb enc lt blk off d.size w) (hswap : SwapSwaps Try.prog sf sb enc blk off d.size) (hH : Holds enc w blk off d) (hblk : blk < w.heap.size) (hab : a ≤ b) (hb : b ≤ d.size) (hsz : d.size < 4611686018427387904) (h12 : b - a ≤ 12) :
    Calls Try.prog 61 #[.agg #[.func (.func g) #[] lb, .func (.func sf) #[] sb], .int .i64 a, .int .i64 b, .int .i64 lim] w fun e w' =>
      e = .returned (.tuple #[]) ∧ ∃ n, w' = putRow enc (Sort.ahead ((w.alloc (.cells #[.func (.func g) #[] lb, .func (.func sf) #[] sb] 114)).alloc (.cells #[.func (.func g) #[] lb, .func (.func sf) #[] sb] 114)) n) blk off (Sort.insertionSort lt d a b) := Any.pdqsort_func_small Try.laysGg14 enc lt g lb sf sb blk off a b lim d w eg hless hswap hH hblk hab hb hsz h12
shelf_try #print axioms Try.pdqsort_func_small
shelf_try shelf_lay LaysGg.n6 Ggs 6 at Try as Try.laysGg6
shelf_try open Go.RowKit Go.Lib Go.Sort in
/-- **sort.Slice AT A SLICE OF 2 TO 12 ELEMENTS OF ONE CELL: "Slice sorts the slice x given the provided less function.": THE ROW HOLDS 'Sort.insertionSort lt d 0 d.size'; some draws on; new blocks; nothing else turns.** (LAID: no walk: one application.) -/
theorem Try.sort_Slice_small {α : Type} [Inhabited α] (t e : TypeId) (i ie : TypeInfo) (hi : Try.prog.info? t = some i) (hd : i.desc = .slice e) (hie : Try.prog.info? e = some ie) (ke : Nat) (hke : ∀ w, (Extern.Rtype.kind e).run Try.prog w = .ok ke w) (hs1 : ie.size = 1) (hagg : ∀ w, (isAgg e).run Try.prog w = .ok false w) (enc : α → Value) (h1 : ∀ x, (enc x).oneCell' = true) (lt : α → α → Bool) (g : Nat) (lb : Array Value) (eg : ∀ args w, (callFunc g args).run Try.prog w = .ok (.enter g args) w) (blk off c : Nat) (d : Array α) (h2 : 2 ≤ d.size) (h12 : d.size ≤ 12) (f : Nat) (hf : Try.prog.funcs.findIdx? (·.name == "internal/reflectlite" ++ ".Swapper$" ++ toString (swapperK d.size ie ke)) = some f) (gS : Bool) (hx : ∀ args W, (callFunc f args).run Try.prog W = ((Extern.ReflectliteSwapper.swap gS args).run Try.prog W).andThen fun v w' => .ok (.value v) w') (w : World) (hless : LessReads Try.prog g lb enc lt blk off d.size w) (hH : Holds enc w blk off d) (hblk : blk < w.heap.size) :
    Calls Try.prog 55 #[.iface t (.slice (some ⟨blk, off, none⟩) d.size c), .func (.func g) #[] lb] w fun e w' =>
      e = .returned (.tuple #[]) ∧ ∃ n os, w' = grow (putRow enc (Sort.ahead w n) blk off (Sort.insertionSort lt d 0 d.size)) os := Any.sort_Slice_small Try.laysGg6 t e i ie hi hd hie ke hke hs1 hagg enc h1 lt g lb eg blk off c d h2 h12 f hf gS hx w hless hH hblk
shelf_try #print axioms Try.sort_Slice_small
shelf_try open Go.RowKit Go.Lib Go.Sort in
/-- **THE SAME IN THE DOCUMENTATION's OWN TERMS: WHERE 'lt' IS A STRICT WEAK ORDER THE ROW HOLDS A PERMUTATION OF WHAT IT HELD, SORTED BY 'lt'.** Which of two equals comes first is left open ("The sort is not guaranteed to be stable"). By a hand of the authors' house's plain theorem 'Sort.insertionSort_holds' (Derived/Sort/LotA.lean), which is over an abstract 'lt'. (LAID: no walk: one application.) -/
theorem Try.sort_Slice_small_sorted {α : Type} [Inhabited α] (t e : TypeId) (i ie : TypeInfo) (hi : Try.prog.info? t = some i) (hd : i.desc = .slice e) (hie : Try.prog.info? e = some ie) (ke : Nat) (hke : ∀ w, (Extern.Rtype.kind e).run Try.prog w = .ok ke w) (hs1 : ie.size = 1) (hagg : ∀ w, (isAgg e).run Try.prog w = .ok false w) (enc : α → Value) (h1 : ∀ x, (enc x).oneCell' = true) (lt : α → α → Bool) (hO : SWO lt) (g : Nat) (lb : Array Value) (eg : ∀ args w, (callFunc g args).run Try.prog w = .ok (.enter g args) w) (blk off c : Nat) (d : Array α) (h2 : 2 ≤ d.size) (h12 : d.size ≤ 12) (f : Nat) (hf : Try.prog.funcs.findIdx? (·.name == "internal/reflectlite" ++ ".Swapper$" ++ toString (swapperK d.size ie ke)) = some f) (gS : Bool) (hx : ∀ args W, (callFunc f args).run Try.prog W = ((Extern.ReflectliteSwapper.swap gS args).run Try.prog W).andThen fun v w' => .ok (.value v) w') (w : World) (hless : LessReads Try.prog g lb enc lt blk off d.size w) (hH : Holds enc w blk off d) (hblk : blk < w.heap.size) :
    Calls Try.prog 55 #[.iface t (.slice (some ⟨blk, off, none⟩) d.size c), .func (.func g) #[] lb] w fun e w' =>
      e = .returned (.tuple #[]) ∧ ∃ d' n os, PermIn 0 d.size d d' ∧ SortedIn lt 0 d.size d' ∧ w' = grow (putRow enc (Sort.ahead w n) blk off d') os := Any.sort_Slice_small_sorted Try.laysGg6 t e i ie hi hd hie ke hke hs1 hagg enc h1 lt hO g lb eg blk off c d h2 h12 f hf gS hx w hless hH hblk
shelf_try #print axioms Try.sort_Slice_small_sorted
shelf_try open Go.RowKit Go.Lib Go.Sort in
theorem Try.insertionSort_func_none (lf : Fn) (la lb : Array Value) (f : Nat) (sb : Array Value) (a b : Nat) (h : b ≤ a + 1) (ha : a < 4611686018427387904) (w : World) :
    Calls Try.prog 72 #[.agg #[.func lf la lb, .func (.func f) #[] sb], .int .i64 a, .int .i64 b] w fun e w' => e = .returned (.tuple #[]) ∧ w' = w.alloc (.cells #[.func lf la lb, .func (.func f) #[] sb] 114) := Any.insertionSort_func_none Try.laysGg26 lf la lb f sb a b h ha w
shelf_try #print axioms Try.insertionSort_func_none
shelf_try open Go.RowKit Go.Lib Go.Sort in
theorem Try.pdqsort_func_tiny (lf : Fn) (la lb : Array Value) (f : Nat) (sb : Array Value) (n : Nat) (h : n ≤ 1) (lim : Int) (w : World) :
    Calls Try.prog 61 #[.agg #[.func lf la lb, .func (.func f) #[] sb], .int .i64 0, .int .i64 n, .int .i64 lim] w fun e w' => e = .returned (.tuple #[]) ∧ w' = (w.alloc (.cells #[.func lf la lb, .func (.func f) #[] sb] 114)).alloc (.cells #[.func lf la lb, .func (.func f) #[] sb] 114) := Any.pdqsort_func_tiny Try.laysGg14 lf la lb f sb n h lim w
shelf_try #print axioms Try.pdqsort_func_tiny
shelf_try open Go.RowKit Go.Lib Go.Sort in
/-- **sort.Slice AT NO ELEMENT OR ONE.** (LAID: no walk: one application.) -/
theorem Try.sort_Slice_tiny (t e : TypeId) (i ie : TypeInfo) (hi : Try.prog.info? t = some i) (hd : i.desc = .slice e) (hie : Try.prog.info? e = some ie) (ke : Nat) (hke : ∀ w, (Extern.Rtype.kind e).run Try.prog w = .ok ke w) (p : Option Addr) (n c : Nat) (h1 : n ≤ 1) (f : Nat) (hf : Try.prog.funcs.findIdx? (·.name == "internal/reflectlite" ++ ".Swapper$" ++ toString (swapperK n ie ke)) = some f) (lf : Fn) (la lb : Array Value) (w : World) :
    Calls Try.prog 55 #[.iface t (.slice p n c), .func lf la lb] w fun e w' => e = .returned (.tuple #[]) ∧ ∃ os, w' = grow w os := Any.sort_Slice_tiny Try.laysGg6 t e i ie hi hd hie ke hke p n c h1 f hf lf la lb w
shelf_try #print axioms Try.sort_Slice_tiny
shelf_try open Go.RowKit Go.Lib Go.Sort in
/-- sort.insertionSort_func, from a world to a 'sortWorld' of it. (LAID: no walk: one application.) -/
theorem Try.insertionSort_func_w {α : Type} [Inhabited α] (enc : α → Value) (lt : α → α → Bool) (g : Nat) (lb : Array Value) (sf : Nat) (sb : Array Value) (blk off a b : Nat) (d : Array α) (w : World) (eg : ∀ args w, (callFunc g args).run Try.prog w = .ok (.enter g args) w) (hless : LessReads Try.prog g lb enc lt blk off d.size w) (hswap : SwapSwaps Try.prog sf sb enc blk off d.size) (hH : Holds enc w blk off d) (hblk : blk < w.heap.size) (hab : a ≤ b) (hb : b ≤ d.size) (hsz : d.size < 4611686018427387904) :
    Calls Try.prog 72 #[.agg #[.func (.func g) #[] lb, .func (.func sf) #[] sb], .int .i64 a, .int .i64 b] w fun e w' => e = .returned (.tuple #[]) ∧ ∃ n os, w' = sortWorld enc w blk off n (Sort.insertionSort lt d a b) os := Any.insertionSort_func_w Try.laysGg26 enc lt g lb sf sb blk off a b d w eg hless hswap hH hblk hab hb hsz
shelf_try #print axioms Try.insertionSort_func_w
shelf_try shelf_lay LaysGg.n30 Ggs 30 at Try as Try.laysGg30
shelf_try open Go.RowKit Go.Lib Go.Sort in
theorem Try.reverseRange_func_one {α : Type} [Inhabited α] (enc : α → Value) (lf : Fn) (la lb : Array Value) (sf : Nat) (sb : Array Value) (blk off a b : Nat) (d : Array α) (w : World) (hswap : SwapSwaps Try.prog sf sb enc blk off d.size) (hH : Holds enc w blk off d) (hblk : blk < w.heap.size) (hab : a ≤ b) (hb : b ≤ d.size) (hsz : d.size < 4611686018427387904) :
    Calls Try.prog 76 #[.agg #[.func lf la lb, .func (.func sf) #[] sb], .int .i64 a, .int .i64 b] w fun e w' => e = .returned (.tuple #[]) ∧ ∃ n, w' = putRow enc (Sort.ahead (w.alloc (.cells #[.func lf la lb, .func (.func sf) #[] sb] 114)) n) blk off (reverseRange d a b) := Any.reverseRange_func_one Try.laysGg30 enc lf la lb sf sb blk off a b d w hswap hH hblk hab hb hsz
shelf_try #print axioms Try.reverseRange_func_one
shelf_try open Go.RowKit Go.Lib Go.Sort in
/-- sort.reverseRange_func, from a world to a 'sortWorld' of it. (LAID: no walk: one application.) -/
theorem Try.reverseRange_func_w {α : Type} [Inhabited α] (enc : α → Value) (lf : Fn) (la lb : Array Value) (sf : Nat) (sb : Array Value) (blk off a b : Nat) (d : Array α) (w : World) (hswap : SwapSwaps Try.prog sf sb enc blk off d.size) (hH : Holds enc w blk off d) (hblk : blk < w.heap.size) (hab : a ≤ b) (hb : b ≤ d.size) (hsz : d.size < 4611686018427387904) :
    Calls Try.prog 76 #[.agg #[.func lf la lb, .func (.func sf) #[] sb], .int .i64 a, .int .i64 b] w fun e w' => e = .returned (.tuple #[]) ∧ ∃ n os, w' = sortWorld enc w blk off n (reverseRange d a b) os := Any.reverseRange_func_w Try.laysGg30 enc lf la lb sf sb blk off a b d w hswap hH hblk hab hb hsz
shelf_try #print axioms Try.reverseRange_func_w
shelf_try shelf_lay LaysGg.n39 Ggs 39 at Try as Try.laysGg39
shelf_try open Go.RowKit Go.Lib Go.Sort in
theorem Try.order2_func {α : Type} [Inhabited α] (enc : α → Value) (lt : α → α → Bool) (g : Nat) (lb : Array Value) (sfn : Fn) (sa sb : Array Value) (blk off : Nat) (w0 W : World) (d : Array α) (a b cb co s : Nat) (eg : ∀ args w, (callFunc g args).run Try.prog w = .ok (.enter g args) w) (hL : LessReads Try.prog g lb enc lt blk off d.size w0) (hW : SW enc w0 blk off d W) (ha : a < d.size) (hb : b < d.size) (hS : Holds (Value.int .i64) W cb co (one s)) (hcb : cb < W.heap.size) (hs : s < 4611686018427387904) :
    Calls Try.prog 85 #[.agg #[.func (.func g) #[] lb, .func sfn sa sb], .int .i64 a, .int .i64 b, .pointer (some ⟨cb, co, none⟩)] W fun e w' =>
      e = .returned (.tuple #[.int .i64 (order2 lt d a b s).1, .int .i64 (order2 lt d a b s).2.1]) ∧ ∃ n os, w' = sortWorld (Value.int .i64) W cb co n (one (order2 lt d a b s).2.2) os := Any.order2_func Try.laysGg39 enc lt g lb sfn sa sb blk off w0 W d a b cb co s eg hL hW ha hb hS hcb hs
shelf_try #print axioms Try.order2_func
shelf_try shelf_lay LaysGg.n38 Ggs 38 at Try as Try.laysGg38
shelf_try open Go.RowKit Go.Lib Go.Sort in
theorem Try.median_func {α : Type} [Inhabited α] (enc : α → Value) (lt : α → α → Bool) (g : Nat) (lb : Array Value) (sfn : Fn) (sa sb : Array Value) (blk off : Nat) (w0 W : World) (d : Array α) (a b c cb co s : Nat) (eg : ∀ args w, (callFunc g args).run Try.prog w = .ok (.enter g args) w) (hL : LessReads Try.prog g lb enc lt blk off d.size w0) (hW : SW enc w0 blk off d W) (ha : a < d.size) (hb : b < d.size) (hc : c < d.size) (hS : Holds (Value.int .i64) W cb co (one s)) (hcb0 : w0.heap.size ≤ cb) (hcb : cb < W.heap.size) (hs : s + 3 < 4611686018427387904) :
    Calls Try.prog 84 #[.agg #[.func (.func g) #[] lb, .func sfn sa sb], .int .i64 a, .int .i64 b, .int .i64 c, .pointer (some ⟨cb, co, none⟩)] W fun e w' =>
      e = .returned (.int .i64 (median lt d a b c s).1) ∧ ∃ n os, w' = sortWorld (Value.int .i64) W cb co n (one (median lt d a b c s).2) os := Any.median_func Try.laysGg38 enc lt g lb sfn sa sb blk off w0 W d a b c cb co s eg hL hW ha hb hc hS hcb0 hcb hs
shelf_try #print axioms Try.median_func
shelf_try shelf_lay LaysGg.n37 Ggs 37 at Try as Try.laysGg37
shelf_try open Go.RowKit Go.Lib Go.Sort in
theorem Try.medianAdjacent_func {α : Type} [Inhabited α] (enc : α → Value) (lt : α → α → Bool) (g : Nat) (lb : Array Value) (sfn : Fn) (sa sb : Array Value) (blk off : Nat) (w0 W : World) (d : Array α) (a cb co s : Nat) (eg : ∀ args w, (callFunc g args).run Try.prog w = .ok (.enter g args) w) (hL : LessReads Try.prog g lb enc lt blk off d.size w0) (hW : SW enc w0 blk off d W) (ha1 : 1 ≤ a) (ha2 : a + 1 < d.size) (hsz : d.size < 4611686018427387904) (hS : Holds (Value.int .i64) W cb co (one s)) (hcb0 : w0.heap.size ≤ cb) (hcb : cb < W.heap.size) (hs : s + 3 < 4611686018427387904) :
    Calls Try.prog 83 #[.agg #[.func (.func g) #[] lb, .func sfn sa sb], .int .i64 a, .pointer (some ⟨cb, co, none⟩)] W fun e w' =>
      e = .returned (.int .i64 (medianAdjacent lt d a s).1) ∧ ∃ n os, w' = sortWorld (Value.int .i64) W cb co n (one (medianAdjacent lt d a s).2) os := Any.medianAdjacent_func Try.laysGg37 enc lt g lb sfn sa sb blk off w0 W d a cb co s eg hL hW ha1 ha2 hsz hS hcb0 hcb hs
shelf_try #print axioms Try.medianAdjacent_func
shelf_try shelf_lay LaysGg.n29 Ggs 29 at Try as Try.laysGg29
shelf_try open Go.RowKit Go.Lib Go.Sort in
/-- sort.choosePivot_func: THE LIBRARY's OWN TEXT COMPUTES 'Sort.choosePivot lt d a b'; the row is not turned; W is grown. (After Derived/Sort/Walk11.lean's 'So.choosePivot_int', row for row.) (LAID: no walk: one application.) -/
theorem Try.choosePivot_func {α : Type} [Inhabited α] (enc : α → Value) (lt : α → α → Bool) (g : Nat) (lb : Array Value) (sfn : Fn) (sa sb : Array Value) (blk off a b : Nat) (W : World) (d : Array α) (eg : ∀ args w, (callFunc g args).run Try.prog w = .ok (.enter g args) w) (hless : LessReads Try.prog g lb enc lt blk off d.size W) (hH : Holds enc W blk off d) (hab : a < b) (hb : b ≤ d.size) (hsz : d.size < 4611686018427387904) :
    Calls Try.prog 75 #[.agg #[.func (.func g) #[] lb, .func sfn sa sb], .int .i64 a, .int .i64 b] W fun e w' =>
      e = .returned (.tuple #[.int .i64 (choosePivot lt d a b).1, .int .i64 (hintCode (choosePivot lt d a b).2)]) ∧ ∃ n os, w' = grow (Sort.ahead W n) os := Any.choosePivot_func Try.laysGg29 enc lt g lb sfn sa sb blk off a b W d eg hless hH hab hb hsz
shelf_try #print axioms Try.choosePivot_func
shelf_try shelf_lay LaysGg.n32 Ggs 32 at Try as Try.laysGg32
shelf_try open Go.RowKit Go.Lib Go.Sort in
theorem Try.partitionEqual_func_one {α : Type} [Inhabited α] (enc : α → Value) (lt : α → α → Bool) (g : Nat) (lb : Array Value) (sf : Nat) (sb : Array Value) (blk off a b pivot : Nat) (d : Array α) (W : World) (eg : ∀ args w, (callFunc g args).run Try.prog w = .ok (.enter g args) w) (hless : LessReads Try.prog g lb enc lt blk off d.size W) (hswap : SwapSwaps Try.prog sf sb enc blk off d.size) (hH : Holds enc W blk off d) (hblk : blk < W.heap.size) (hap : a ≤ pivot) (hpb : pivot < b) (hb : b ≤ d.size) (hsz : d.size < 4611686018427387904) :
    Calls Try.prog 78 #[.agg #[.func (.func g) #[] lb, .func (.func sf) #[] sb], .int .i64 a, .int .i64 b, .int .i64 pivot] W fun e w' =>
      e = .returned (.int .i64 (Sort.partitionEqual lt d a b pivot).1) ∧ ∃ n, w' = (putRow enc (W.alloc (.cells #[.func (.func g) #[] lb, .func (.func sf) #[] sb] 114)) blk off (Sort.partitionEqual lt d a b pivot).2).drewN n := Any.partitionEqual_func_one Try.laysGg32 enc lt g lb sf sb blk off a b pivot d W eg hless hswap hH hblk hap hpb hb hsz
shelf_try #print axioms Try.partitionEqual_func_one
shelf_try shelf_lay LaysGg.n33 Ggs 33 at Try as Try.laysGg33
shelf_try open Go.RowKit Go.Lib Go.Sort in
theorem Try.partition_func_one {α : Type} [Inhabited α] (enc : α → Value) (lt : α → α → Bool) (g : Nat) (lb : Array Value) (sf : Nat) (sb : Array Value) (blk off a b pivot : Nat) (d : Array α) (W : World) (eg : ∀ args w, (callFunc g args).run Try.prog w = .ok (.enter g args) w) (hless : LessReads Try.prog g lb enc lt blk off d.size W) (hswap : SwapSwaps Try.prog sf sb enc blk off d.size) (hH : Holds enc W blk off d) (hblk : blk < W.heap.size) (hap : a ≤ pivot) (hpb : pivot < b) (hb : b ≤ d.size) (hsz : d.size < 4611686018427387904) :
    Calls Try.prog 79 #[.agg #[.func (.func g) #[] lb, .func (.func sf) #[] sb], .int .i64 a, .int .i64 b, .int .i64 pivot] W fun e w' =>
      e = .returned (.tuple #[.int .i64 (Sort.partition lt d a b pivot).1, .bool (Sort.partition lt d a b pivot).2.1]) ∧ ∃ n, w' = (putRow enc (W.alloc (.cells #[.func (.func g) #[] lb, .func (.func sf) #[] sb] 114)) blk off (Sort.partition lt d a b pivot).2.2).drewN n := Any.partition_func_one Try.laysGg33 enc lt g lb sf sb blk off a b pivot d W eg hless hswap hH hblk hap hpb hb hsz
shelf_try #print axioms Try.partition_func_one
shelf_try open Go.RowKit Go.Lib Go.Sort in
/-- sort.partitionEqual_func, from a world to a 'sortWorld' of it. (LAID: no walk: one application.) -/
theorem Try.partitionEqual_func_w {α : Type} [Inhabited α] (enc : α → Value) (lt : α → α → Bool) (g : Nat) (lb : Array Value) (sf : Nat) (sb : Array Value) (blk off a b pivot : Nat) (d : Array α) (W : World) (eg : ∀ args w, (callFunc g args).run Try.prog w = .ok (.enter g args) w) (hless : LessReads Try.prog g lb enc lt blk off d.size W) (hswap : SwapSwaps Try.prog sf sb enc blk off d.size) (hH : Holds enc W blk off d) (hblk : blk < W.heap.size) (hap : a ≤ pivot) (hpb : pivot < b) (hb : b ≤ d.size) (hsz : d.size < 4611686018427387904) :
    Calls Try.prog 78 #[.agg #[.func (.func g) #[] lb, .func (.func sf) #[] sb], .int .i64 a, .int .i64 b, .int .i64 pivot] W fun e w' => e = .returned (.int .i64 (Sort.partitionEqual lt d a b pivot).1) ∧ ∃ n os, w' = sortWorld enc W blk off n (Sort.partitionEqual lt d a b pivot).2 os := Any.partitionEqual_func_w Try.laysGg32 enc lt g lb sf sb blk off a b pivot d W eg hless hswap hH hblk hap hpb hb hsz
shelf_try #print axioms Try.partitionEqual_func_w
shelf_try open Go.RowKit Go.Lib Go.Sort in
/-- sort.partition_func, from a world to a 'sortWorld' of it. (LAID: no walk: one application.) -/
theorem Try.partition_func_w {α : Type} [Inhabited α] (enc : α → Value) (lt : α → α → Bool) (g : Nat) (lb : Array Value) (sf : Nat) (sb : Array Value) (blk off a b pivot : Nat) (d : Array α) (W : World) (eg : ∀ args w, (callFunc g args).run Try.prog w = .ok (.enter g args) w) (hless : LessReads Try.prog g lb enc lt blk off d.size W) (hswap : SwapSwaps Try.prog sf sb enc blk off d.size) (hH : Holds enc W blk off d) (hblk : blk < W.heap.size) (hap : a ≤ pivot) (hpb : pivot < b) (hb : b ≤ d.size) (hsz : d.size < 4611686018427387904) :
    Calls Try.prog 79 #[.agg #[.func (.func g) #[] lb, .func (.func sf) #[] sb], .int .i64 a, .int .i64 b, .int .i64 pivot] W fun e w' => e = .returned (.tuple #[.int .i64 (Sort.partition lt d a b pivot).1, .bool (Sort.partition lt d a b pivot).2.1]) ∧ ∃ n os, w' = sortWorld enc W blk off n (Sort.partition lt d a b pivot).2.2 os := Any.partition_func_w Try.laysGg33 enc lt g lb sf sb blk off a b pivot d W eg hless hswap hH hblk hap hpb hb hsz
shelf_try #print axioms Try.partition_func_w
shelf_try open Go.RowKit Go.Lib Go.Sort in
theorem Try.pdqsort_func_all {α : Type} [Inhabited α] (enc : α → Value) (lt : α → α → Bool) (hO : SWO lt) (g : Nat) (lb : Array Value) (sf : Nat) (sb : Array Value) (eg : ∀ args w, (callFunc g args).run Try.prog w = .ok (.enter g args) w) :
    ∀ (N blk off a b limit : Nat) (d : Array α) (w : World), b - a < N → LessReads Try.prog g lb enc lt blk off d.size w → SwapSwaps Try.prog sf sb enc blk off d.size → Holds enc w blk off d → blk < w.heap.size → a ≤ b → b ≤ d.size → d.size < 4611686018427387904 → limit < 4611686018427387904 → Below lt a b d →
    Calls Try.prog 61 #[.agg #[.func (.func g) #[] lb, .func (.func sf) #[] sb], .int .i64 a, .int .i64 b, .int .i64 limit] w fun e w' => e = .returned (.tuple #[]) ∧ At enc w blk off (pdq lt d a b limit true true) w' := Any.pdqsort_func_all Try.laysGg14 enc lt hO g lb sf sb eg
shelf_try #print axioms Try.pdqsort_func_all
shelf_try open Go.RowKit Go.Lib Go.Sort in
/-- **sort.Slice: WHAT THE ROW HOLDS, TO THE ELEMENT.** (LAID: no walk: one application.) -/
theorem Try.sort_Slice_eq {α : Type} [Inhabited α] (t e : TypeId) (i ie : TypeInfo) (hi : Try.prog.info? t = some i) (hd : i.desc = .slice e) (hie : Try.prog.info? e = some ie) (ke : Nat) (hke : ∀ w, (Extern.Rtype.kind e).run Try.prog w = .ok ke w) (hs1 : ie.size = 1) (hagg : ∀ w, (isAgg e).run Try.prog w = .ok false w) (enc : α → Value) (h1 : ∀ x, (enc x).oneCell' = true) (lt : α → α → Bool) (hO : SWO lt) (g : Nat) (lb : Array Value) (eg : ∀ args w, (callFunc g args).run Try.prog w = .ok (.enter g args) w) (blk off c : Nat) (d : Array α) (h2 : 2 ≤ d.size) (hsz : d.size < 4611686018427387904) (f : Nat) (hf : Try.prog.funcs.findIdx? (·.name == "internal/reflectlite" ++ ".Swapper$" ++ toString (swapperK d.size ie ke)) = some f) (gS : Bool) (hx : ∀ args W, (callFunc f args).run Try.prog W = ((Extern.ReflectliteSwapper.swap gS args).run Try.prog W).andThen fun v w' => .ok (.value v) w') (w : World) (hless : LessReads Try.prog g lb enc lt blk off d.size w) (hH : Holds enc w blk off d) (hblk : blk < w.heap.size) :
    Calls Try.prog 55 #[.iface t (.slice (some ⟨blk, off, none⟩) d.size c), .func (.func g) #[] lb] w fun e w' =>
      e = .returned (.tuple #[]) ∧ ∃ n os, w' = grow (putRow enc (Sort.ahead w n) blk off (pdq lt d 0 d.size (Lib.bitLen d.size) true true)) os := Any.sort_Slice_eq Try.laysGg6 t e i ie hi hd hie ke hke hs1 hagg enc h1 lt hO g lb eg blk off c d h2 hsz f hf gS hx w hless hH hblk
shelf_try #print axioms Try.sort_Slice_eq
shelf_try open Go.RowKit Go.Lib Go.Sort in
/-- **sort.Slice, IN THE DOCUMENTATION's OWN TERMS: A PERMUTATION OF WHAT THE ROW HELD, SORTED BY 'lt'.** Which of two equals comes first is left open. (LAID: no walk: one application.) -/
theorem Try.sort_Slice_sorted {α : Type} [Inhabited α] (t e : TypeId) (i ie : TypeInfo) (hi : Try.prog.info? t = some i) (hd : i.desc = .slice e) (hie : Try.prog.info? e = some ie) (ke : Nat) (hke : ∀ w, (Extern.Rtype.kind e).run Try.prog w = .ok ke w) (hs1 : ie.size = 1) (hagg : ∀ w, (isAgg e).run Try.prog w = .ok false w) (enc : α → Value) (h1 : ∀ x, (enc x).oneCell' = true) (lt : α → α → Bool) (hO : SWO lt) (g : Nat) (lb : Array Value) (eg : ∀ args w, (callFunc g args).run Try.prog w = .ok (.enter g args) w) (blk off c : Nat) (d : Array α) (h2 : 2 ≤ d.size) (hsz : d.size < 4611686018427387904) (f : Nat) (hf : Try.prog.funcs.findIdx? (·.name == "internal/reflectlite" ++ ".Swapper$" ++ toString (swapperK d.size ie ke)) = some f) (gS : Bool) (hx : ∀ args W, (callFunc f args).run Try.prog W = ((Extern.ReflectliteSwapper.swap gS args).run Try.prog W).andThen fun v w' => .ok (.value v) w') (w : World) (hless : LessReads Try.prog g lb enc lt blk off d.size w) (hH : Holds enc w blk off d) (hblk : blk < w.heap.size) :
    Calls Try.prog 55 #[.iface t (.slice (some ⟨blk, off, none⟩) d.size c), .func (.func g) #[] lb] w fun e w' =>
      e = .returned (.tuple #[]) ∧ ∃ d' n os, PermIn 0 d.size d d' ∧ SortedIn lt 0 d.size d' ∧ w' = grow (putRow enc (Sort.ahead w n) blk off d') os := Any.sort_Slice_sorted Try.laysGg6 t e i ie hi hd hie ke hke hs1 hagg enc h1 lt hO g lb eg blk off c d h2 hsz f hf gS hx w hless hH hblk
shelf_try #print axioms Try.sort_Slice_sorted
shelf_try shelf_lay LaysGg.n36 Ggs 36 at Try as Try.laysGg36
shelf_try open Go.RowKit Go.Lib Go.Sort in
/-- '*r ^= *r << 13; *r ^= *r >> 7; *r ^= *r << 17; return uint64(*r)': the cell holds 'xorNextN X' and that is handed back; three draws; nothing else turns. (LAID: no walk: one application.) -/
theorem Try.xorshift_Next (rb ro X : Nat) (hX : X < 18446744073709551616) (w : World) (hc : w.cell? ⟨rb, ro, none⟩ = some (.int .u64 X)) (hf : w.frozen? ⟨rb, ro, none⟩ = false) :
    Calls Try.prog 82 #[.pointer (some ⟨rb, ro, none⟩)] w fun e w' => e = .returned (.int .u64 (xorNextN X : Nat)) ∧ w' = (w.setCell ⟨rb, ro, none⟩ (.int .u64 (xorNextN X : Nat))).drewN 3 := Any.xorshift_Next Try.laysGg36 rb ro X hX w hc hf
shelf_try #print axioms Try.xorshift_Next
shelf_try shelf_lay LaysGg.n35 Ggs 35 at Try as Try.laysGg35
shelf_try open Go.RowKit Go.Lib Go.Sort in
/-- 'return 1 << bits.Len(uint(length))'. (LAID: no walk: one application.) -/
theorem Try.nextPowerOfTwo (n : Nat) (hn : n < 4611686018427387904) (w : World) :
    Calls Try.prog 81 #[.int .i64 n] w fun e w' => e = .returned (.int .u64 ((1 <<< bitsLen n : Nat) : Int)) ∧ w' = w := Any.nextPowerOfTwo Try.laysGg35 n hn w
shelf_try #print axioms Try.nextPowerOfTwo
shelf_try shelf_lay LaysGg.n34 Ggs 34 at Try as Try.laysGg34
shelf_try open Go.RowKit Go.Lib Go.Sort in
theorem Try.siftDown_func_one {α : Type} [Inhabited α] (enc : α → Value) (lt : α → α → Bool) (g : Nat) (lb : Array Value) (sf : Nat) (sb : Array Value) (blk off lo hi first : Nat) (d : Array α) (w : World) (eg : ∀ args w, (callFunc g args).run Try.prog w = .ok (.enter g args) w) (hless : LessReads Try.prog g lb enc lt blk off d.size w) (hswap : SwapSwaps Try.prog sf sb enc blk off d.size) (hH : Holds enc w blk off d) (hblk : blk < w.heap.size) (hlo : lo ≤ hi) (hb : first + hi ≤ d.size) (hsz : d.size < 4611686018427387904) :
    Calls Try.prog 80 #[.agg #[.func (.func g) #[] lb, .func (.func sf) #[] sb], .int .i64 lo, .int .i64 hi, .int .i64 first] w fun e w' =>
      e = .returned (.tuple #[]) ∧ ∃ n, w' = putRow enc (Sort.ahead (w.alloc (.cells #[.func (.func g) #[] lb, .func (.func sf) #[] sb] 114)) n) blk off (siftDown lt hi first lo d) := Any.siftDown_func_one Try.laysGg34 enc lt g lb sf sb blk off lo hi first d w eg hless hswap hH hblk hlo hb hsz
shelf_try #print axioms Try.siftDown_func_one
shelf_try open Go.RowKit Go.Lib Go.Sort in
/-- sort.siftDown_func, from a world to a 'sortWorld' of it. (LAID: no walk: one application.) -/
theorem Try.siftDown_func_w {α : Type} [Inhabited α] (enc : α → Value) (lt : α → α → Bool) (g : Nat) (lb : Array Value) (sf : Nat) (sb : Array Value) (blk off lo hi first : Nat) (d : Array α) (w : World) (eg : ∀ args w, (callFunc g args).run Try.prog w = .ok (.enter g args) w) (hless : LessReads Try.prog g lb enc lt blk off d.size w) (hswap : SwapSwaps Try.prog sf sb enc blk off d.size) (hH : Holds enc w blk off d) (hblk : blk < w.heap.size) (hlo : lo ≤ hi) (hb : first + hi ≤ d.size) (hsz : d.size < 4611686018427387904) :
    Calls Try.prog 80 #[.agg #[.func (.func g) #[] lb, .func (.func sf) #[] sb], .int .i64 lo, .int .i64 hi, .int .i64 first] w fun e w' => e = .returned (.tuple #[]) ∧ ∃ n os, w' = sortWorld enc w blk off n (siftDown lt hi first lo d) os := Any.siftDown_func_w Try.laysGg34 enc lt g lb sf sb blk off lo hi first d w eg hless hswap hH hblk hlo hb hsz
shelf_try #print axioms Try.siftDown_func_w
shelf_try shelf_lay LaysGg.n27 Ggs 27 at Try as Try.laysGg27
shelf_try open Go.RowKit Go.Lib Go.Sort in
theorem Try.heapSort_func_w {α : Type} [Inhabited α] (enc : α → Value) (lt : α → α → Bool) (g : Nat) (lb : Array Value) (sf : Nat) (sb : Array Value) (blk off a b : Nat) (d : Array α) (w : World) (eg : ∀ args w, (callFunc g args).run Try.prog w = .ok (.enter g args) w) (hless : LessReads Try.prog g lb enc lt blk off d.size w) (hswap : SwapSwaps Try.prog sf sb enc blk off d.size) (hH : Holds enc w blk off d) (hblk : blk < w.heap.size) (hab : a ≤ b) (hb : b ≤ d.size) (hsz : d.size < 4611686018427387904) :
    Calls Try.prog 73 #[.agg #[.func (.func g) #[] lb, .func (.func sf) #[] sb], .int .i64 a, .int .i64 b] w fun e w' => e = .returned (.tuple #[]) ∧ ∃ n os, w' = sortWorld enc w blk off n (heapSort lt d a b) os := Any.heapSort_func_w Try.laysGg27 enc lt g lb sf sb blk off a b d w eg hless hswap hH hblk hab hb hsz
shelf_try #print axioms Try.heapSort_func_w
shelf_try shelf_lay LaysGg.n31 Ggs 31 at Try as Try.laysGg31
shelf_try open Go.RowKit Go.Lib Go.Sort in
theorem Try.partialInsertionSort_func_one {α : Type} [Inhabited α] (enc : α → Value) (lt : α → α → Bool) (g : Nat) (lb : Array Value) (sf : Nat) (sb : Array Value) (blk off a b : Nat) (d : Array α) (w : World) (eg : ∀ args w, (callFunc g args).run Try.prog w = .ok (.enter g args) w) (hless : LessReads Try.prog g lb enc lt blk off d.size w) (hswap : SwapSwaps Try.prog sf sb enc blk off d.size) (hH : Holds enc w blk off d) (hblk : blk < w.heap.size) (hab : a < b) (hb : b ≤ d.size) (hsz : d.size < 4611686018427387904) :
    Calls Try.prog 77 #[.agg #[.func (.func g) #[] lb, .func (.func sf) #[] sb], .int .i64 a, .int .i64 b] w fun e w' =>
      e = .returned (.bool (Sort.partialInsertionSort lt d a b).2) ∧ ∃ n, w' = putRow enc (Sort.ahead (w.alloc (.cells #[.func (.func g) #[] lb, .func (.func sf) #[] sb] 114)) n) blk off (Sort.partialInsertionSort lt d a b).1 := Any.partialInsertionSort_func_one Try.laysGg31 enc lt g lb sf sb blk off a b d w eg hless hswap hH hblk hab hb hsz
shelf_try #print axioms Try.partialInsertionSort_func_one
shelf_try open Go.RowKit Go.Lib Go.Sort in
/-- sort.partialInsertionSort_func, from a world to a 'sortWorld' of it. (LAID: no walk: one application.) -/
theorem Try.partialInsertionSort_func_w {α : Type} [Inhabited α] (enc : α → Value) (lt : α → α → Bool) (g : Nat) (lb : Array Value) (sf : Nat) (sb : Array Value) (blk off a b : Nat) (d : Array α) (w : World) (eg : ∀ args w, (callFunc g args).run Try.prog w = .ok (.enter g args) w) (hless : LessReads Try.prog g lb enc lt blk off d.size w) (hswap : SwapSwaps Try.prog sf sb enc blk off d.size) (hH : Holds enc w blk off d) (hblk : blk < w.heap.size) (hab : a < b) (hb : b ≤ d.size) (hsz : d.size < 4611686018427387904) :
    Calls Try.prog 77 #[.agg #[.func (.func g) #[] lb, .func (.func sf) #[] sb], .int .i64 a, .int .i64 b] w fun e w' => e = .returned (.bool (Sort.partialInsertionSort lt d a b).2) ∧ ∃ n os, w' = sortWorld enc w blk off n (Sort.partialInsertionSort lt d a b).1 os := Any.partialInsertionSort_func_w Try.laysGg31 enc lt g lb sf sb blk off a b d w eg hless hswap hH hblk hab hb hsz
shelf_try #print axioms Try.partialInsertionSort_func_w
shelf_tried
end Go.Proofs
