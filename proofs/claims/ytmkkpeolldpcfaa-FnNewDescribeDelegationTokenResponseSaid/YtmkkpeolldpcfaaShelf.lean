/-
  DERIVED: THE SHELF's CONTRACTS AT THIS DUMP, IN PLAIN WORDS (tools/lay-plain.mjs out of 'YtmkkpeolldpcfaaShelf.lean', which tools/lay-shelf.mjs wrote): THE SAME DECLARATIONS UNDER THE SAME NAMES: 'import', 'namespace', 'open', 'def', 'theorem' AND NOTHING ELSE: no command of the shelf's: FOR A HAND-IN. Each laying: the table of numbers ('.._ren') and one theorem, a field a fact of the dump's own or the kernel's comparison; each contract: ONE APPLICATION.
-/
import Derived.Shelf.Small.Bits
import Derived.Shelf.Strconv.Itoa0
import Derived.Ground.GgsProg
import Derived.Shelf.GgSortFunc.Insertion
import Derived.Shelf.GgSortFunc.Small
import Derived.Shelf.GgSortFunc.Tiny
import Derived.Shelf.GgSortFunc.Compose
import Derived.Shelf.GgSortFunc.LotD
import Derived.Shelf.GgSortFunc.Pivot
import Derived.Shelf.GgSortFunc.Partition
import Derived.Shelf.GgSortFunc.Pdq
import Derived.Shelf.GgSortFunc.Whole
import Derived.Shelf.SlSortFunc.Xorshift
import Derived.Shelf.SlSortFunc.SiftDown
import Derived.Shelf.SlSortFunc.HeapSort
import Derived.Shelf.SlSortFunc.PartialInsertion
import Derived.Test.YtmkkpeolldpcfaaProg
namespace Go.Proofs
open Go.Shelf
def Try.lays128_ren : Go.Shelf.Ren := ⟨fun | 128 => 80 | n => n, fun | 51 => 71 | 3 => 3 | 4 => 4 | 46 => 119 | 5 => 5 | 9 => 9 | n => n, fun | n => n⟩
theorem Try.lays128 : Go.Proofs.Lays.n128 Try.prog Try.lays128_ren := {
  mixed := by kernel_rfl
  f128 := Try.func80.trans (congrArg some (by kernel_rfl))
  t3 := Try.underlying3
  a3 := Try.isAgg3
  z3 := Try.sizeOf3
  v3 := Try.zeroValue3
  t4 := Try.underlying4
  a4 := Try.isAgg4
  z4 := Try.sizeOf4
  v4 := Try.zeroValue4
  t5 := Try.underlying5
  a5 := Try.isAgg5
  z5 := Try.sizeOf5
  v5 := Try.zeroValue5
  t9 := Try.underlying9
  a9 := Try.isAgg9
  z9 := Try.sizeOf9
  v9 := Try.zeroValue9
  t46 := Try.underlying119
  a46 := Try.isAgg119
  z46 := Try.sizeOf119
  v46 := Try.zeroValue119
  t51 := Try.underlying71
  a51 := Try.isAgg71
  z51 := Try.sizeOf71
  v51 := Try.zeroValue71 }
/-- bits.Len32: "Len32 returns the minimum number of bits required to represent x; the result is 0 for x == 0.": IT RETURNS 'Lib.bitLen x'; the world is as it was. ('h0', 'h1': x is a uint32.) (LAID: no walk: one application.) -/
theorem Try.bits_Len32 (x : Int) (w : World) (h0 : 0 ≤ x) (h1 : x ≤ 4294967295) :
    Calls Try.prog 80 #[.int .u32 x] w fun e w' => e = .returned (.int .i64 (Lib.bitLen x.toNat)) ∧ w' = w := Any.bits_Len32 Try.lays128 x w h0 h1
def Try.lays125_ren : Go.Shelf.Ren := ⟨fun | 125 => 86 | 128 => 80 | 129 => 97 | n => n, fun | 46 => 119 | 3 => 3 | 51 => 71 | 53 => 79 | 4 => 4 | 5 => 5 | 9 => 9 | n => n, fun | n => n⟩
theorem Try.lays125 : Go.Proofs.Lays.n125 Try.prog Try.lays125_ren := {
  mixed := by kernel_rfl
  f125 := Try.func86.trans (congrArg some (by kernel_rfl))
  f128 := Try.func80.trans (congrArg some (by kernel_rfl))
  f129 := Try.func97.trans (congrArg some (by kernel_rfl))
  t3 := Try.underlying3
  a3 := Try.isAgg3
  z3 := Try.sizeOf3
  v3 := Try.zeroValue3
  t4 := Try.underlying4
  a4 := Try.isAgg4
  z4 := Try.sizeOf4
  v4 := Try.zeroValue4
  t5 := Try.underlying5
  a5 := Try.isAgg5
  z5 := Try.sizeOf5
  v5 := Try.zeroValue5
  t9 := Try.underlying9
  a9 := Try.isAgg9
  z9 := Try.sizeOf9
  v9 := Try.zeroValue9
  t46 := Try.underlying119
  a46 := Try.isAgg119
  z46 := Try.sizeOf119
  v46 := Try.zeroValue119
  t51 := Try.underlying71
  a51 := Try.isAgg71
  z51 := Try.sizeOf71
  v51 := Try.zeroValue71
  t53 := Try.underlying79
  a53 := Try.isAgg79
  z53 := Try.sizeOf79
  v53 := Try.zeroValue79 }
/-- bits.Len: "Len returns the minimum number of bits required to represent x; the result is 0 for x == 0.": IT RETURNS 'Lib.bitLen x'; the world is as it was. (A uint has 64 bits in the model.) ITS CALLEE bits.Len64 IS MET BY ITS OWN CONTRACT OFF THE SHELF (lay that first). (LAID: no walk: one application.) -/
theorem Try.bits_Len (x : Int) (w : World) (h0 : 0 ≤ x) (h1 : x ≤ 18446744073709551615) :
    Calls Try.prog 86 #[.int .u64 x] w fun e w' => e = .returned (.int .i64 (Lib.bitLen x.toNat)) ∧ w' = w := Any.bits_Len Try.lays125 x w h0 h1
def Try.lays129_ren : Go.Shelf.Ren := ⟨fun | 129 => 97 | n => n, fun | 53 => 79 | 3 => 3 | 4 => 4 | 46 => 119 | 5 => 5 | 9 => 9 | n => n, fun | n => n⟩
theorem Try.lays129 : Go.Proofs.Lays.n129 Try.prog Try.lays129_ren := {
  mixed := by kernel_rfl
  f129 := Try.func97.trans (congrArg some (by kernel_rfl))
  t3 := Try.underlying3
  a3 := Try.isAgg3
  z3 := Try.sizeOf3
  v3 := Try.zeroValue3
  t4 := Try.underlying4
  a4 := Try.isAgg4
  z4 := Try.sizeOf4
  v4 := Try.zeroValue4
  t5 := Try.underlying5
  a5 := Try.isAgg5
  z5 := Try.sizeOf5
  v5 := Try.zeroValue5
  t9 := Try.underlying9
  a9 := Try.isAgg9
  z9 := Try.sizeOf9
  v9 := Try.zeroValue9
  t46 := Try.underlying119
  a46 := Try.isAgg119
  z46 := Try.sizeOf119
  v46 := Try.zeroValue119
  t53 := Try.underlying79
  a53 := Try.isAgg79
  z53 := Try.sizeOf79
  v53 := Try.zeroValue79 }
/-- bits.Len64: "Len64 returns the minimum number of bits required to represent x; the result is 0 for x == 0.": IT RETURNS 'Lib.bitLen x'; the world is as it was. ('h0', 'h1': x is a uint64.) (LAID: no walk: one application.) -/
theorem Try.bits_Len64 (x : Int) (w : World) (h0 : 0 ≤ x) (h1 : x ≤ 18446744073709551615) :
    Calls Try.prog 97 #[.int .u64 x] w fun e w' => e = .returned (.int .i64 (Lib.bitLen x.toNat)) ∧ w' = w := Any.bits_Len64 Try.lays129 x w h0 h1
def Try.laysGg26_ren : Go.Shelf.Ren := ⟨fun | 26 => 98 | n => n, fun | 44 => 142 | 3 => 3 | 0 => 0 | 4 => 4 | 26 => 131 | 37 => 137 | n => n, fun | n => n⟩
theorem Try.laysGg26 : Go.Proofs.LaysGg.n26 Try.prog Try.laysGg26_ren := {
  mixed := by kernel_rfl
  f26 := Try.func98.trans (congrArg some (by kernel_rfl))
  t0 := Try.underlying0
  a0 := Try.isAgg0
  z0 := Try.sizeOf0
  v0 := Try.zeroValue0
  i0 := by kernel_rfl
  t3 := Try.underlying3
  a3 := Try.isAgg3
  z3 := Try.sizeOf3
  v3 := Try.zeroValue3
  i3 := by kernel_rfl
  t4 := Try.underlying4
  a4 := Try.isAgg4
  z4 := Try.sizeOf4
  v4 := Try.zeroValue4
  i4 := by kernel_rfl
  t26 := Try.underlying131
  a26 := Try.isAgg131
  z26 := Try.sizeOf131
  v26 := Try.zeroValue131
  i26 := by kernel_rfl
  t37 := Try.underlying137
  a37 := Try.isAgg137
  z37 := Try.sizeOf137
  v37 := Try.zeroValue137
  i37 := by kernel_rfl
  t44 := Try.underlying142
  a44 := Try.isAgg142
  z44 := Try.sizeOf142
  v44 := Try.zeroValue142
  i44 := by kernel_rfl }
open Go.RowKit Go.Lib Go.Sort in
theorem Try.insertionSort_func_one {α : Type} [Inhabited α] (enc : α → Value) (lt : α → α → Bool) (g : Nat) (lb : Array Value) (sf : Nat) (sb : Array Value) (blk off a b : Nat) (d : Array α) (w : World) (eg : ∀ args w, (callFunc g args).run Try.prog w = .ok (.enter g args) w) (hless : LessReads Try.prog g lb enc lt blk off d.size w) (hswap : SwapSwaps Try.prog sf sb enc blk off d.size) (hH : Holds enc w blk off d) (hblk : blk < w.heap.size) (hab : a ≤ b) (hb : b ≤ d.size) (hsz : d.size < 4611686018427387904) :
    Calls Try.prog 98 #[.agg #[.func (.func g) #[] lb, .func (.func sf) #[] sb], .int .i64 a, .int .i64 b] w fun e w' =>
      e = .returned (.tuple #[]) ∧ ∃ n, w' = putRow enc (Sort.ahead (w.alloc (.cells #[.func (.func g) #[] lb, .func (.func sf) #[] sb] 142)) n) blk off (Sort.insertionSort lt d a b) := Any.insertionSort_func_one Try.laysGg26 enc lt g lb sf sb blk off a b d w eg hless hswap hH hblk hab hb hsz
def Try.laysGg14_ren : Go.Shelf.Ren := ⟨fun | 14 => 87 | 26 => 98 | 27 => 99 | 28 => 100 | 29 => 101 | 30 => 102 | 31 => 103 | 32 => 104 | 33 => 105 | 34 => 106 | 35 => 107 | 36 => 108 | 37 => 109 | 38 => 110 | 13 => 86 | 39 => 111 | 24 => 80 | 25 => 97 | n => n, fun | 44 => 142 | 3 => 3 | 0 => 0 | 4 => 4 | 54 => 149 | 53 => 148 | 26 => 131 | 58 => 153 | 37 => 137 | 60 => 155 | 41 => 119 | 51 => 79 | 64 => 159 | 66 => 161 | 67 => 162 | 49 => 71 | 5 => 5 | 9 => 9 | n => n, fun | n => n⟩
theorem Try.laysGg14 : Go.Proofs.LaysGg.n14 Try.prog Try.laysGg14_ren := {
  mixed := by kernel_rfl
  f13 := Try.func86.trans (congrArg some (by kernel_rfl))
  f14 := Try.func87.trans (congrArg some (by kernel_rfl))
  f24 := Try.func80.trans (congrArg some (by kernel_rfl))
  f25 := Try.func97.trans (congrArg some (by kernel_rfl))
  f26 := Try.func98.trans (congrArg some (by kernel_rfl))
  f27 := Try.func99.trans (congrArg some (by kernel_rfl))
  f28 := Try.func100.trans (congrArg some (by kernel_rfl))
  f29 := Try.func101.trans (congrArg some (by kernel_rfl))
  f30 := Try.func102.trans (congrArg some (by kernel_rfl))
  f31 := Try.func103.trans (congrArg some (by kernel_rfl))
  f32 := Try.func104.trans (congrArg some (by kernel_rfl))
  f33 := Try.func105.trans (congrArg some (by kernel_rfl))
  f34 := Try.func106.trans (congrArg some (by kernel_rfl))
  f35 := Try.func107.trans (congrArg some (by kernel_rfl))
  f36 := Try.func108.trans (congrArg some (by kernel_rfl))
  f37 := Try.func109.trans (congrArg some (by kernel_rfl))
  f38 := Try.func110.trans (congrArg some (by kernel_rfl))
  f39 := Try.func111.trans (congrArg some (by kernel_rfl))
  t0 := Try.underlying0
  a0 := Try.isAgg0
  z0 := Try.sizeOf0
  v0 := Try.zeroValue0
  i0 := by kernel_rfl
  t3 := Try.underlying3
  a3 := Try.isAgg3
  z3 := Try.sizeOf3
  v3 := Try.zeroValue3
  i3 := by kernel_rfl
  t4 := Try.underlying4
  a4 := Try.isAgg4
  z4 := Try.sizeOf4
  v4 := Try.zeroValue4
  i4 := by kernel_rfl
  t5 := Try.underlying5
  a5 := Try.isAgg5
  z5 := Try.sizeOf5
  v5 := Try.zeroValue5
  i5 := by kernel_rfl
  t9 := Try.underlying9
  a9 := Try.isAgg9
  z9 := Try.sizeOf9
  v9 := Try.zeroValue9
  i9 := by kernel_rfl
  t26 := Try.underlying131
  a26 := Try.isAgg131
  z26 := Try.sizeOf131
  v26 := Try.zeroValue131
  i26 := by kernel_rfl
  t37 := Try.underlying137
  a37 := Try.isAgg137
  z37 := Try.sizeOf137
  v37 := Try.zeroValue137
  i37 := by kernel_rfl
  t41 := Try.underlying119
  a41 := Try.isAgg119
  z41 := Try.sizeOf119
  v41 := Try.zeroValue119
  i41 := by kernel_rfl
  t44 := Try.underlying142
  a44 := Try.isAgg142
  z44 := Try.sizeOf142
  v44 := Try.zeroValue142
  i44 := by kernel_rfl
  t49 := Try.underlying71
  a49 := Try.isAgg71
  z49 := Try.sizeOf71
  v49 := Try.zeroValue71
  i49 := by kernel_rfl
  t51 := Try.underlying79
  a51 := Try.isAgg79
  z51 := Try.sizeOf79
  v51 := Try.zeroValue79
  i51 := by kernel_rfl
  t53 := Try.underlying148
  a53 := Try.isAgg148
  z53 := Try.sizeOf148
  v53 := Try.zeroValue148
  i53 := by kernel_rfl
  t54 := Try.underlying149
  a54 := Try.isAgg149
  z54 := Try.sizeOf149
  v54 := Try.zeroValue149
  i54 := by kernel_rfl
  t58 := Try.underlying153
  a58 := Try.isAgg153
  z58 := Try.sizeOf153
  v58 := Try.zeroValue153
  i58 := by kernel_rfl
  t60 := Try.underlying155
  a60 := Try.isAgg155
  z60 := Try.sizeOf155
  v60 := Try.zeroValue155
  i60 := by kernel_rfl
  t64 := Try.underlying159
  a64 := Try.isAgg159
  z64 := Try.sizeOf159
  v64 := Try.zeroValue159
  i64 := by kernel_rfl
  t66 := Try.underlying161
  a66 := Try.isAgg161
  z66 := Try.sizeOf161
  v66 := Try.zeroValue161
  i66 := by kernel_rfl
  t67 := Try.underlying162
  a67 := Try.isAgg162
  z67 := Try.sizeOf162
  v67 := Try.zeroValue162
  i67 := by kernel_rfl }
open Go.RowKit Go.Lib Go.Sort in
/-- sort.pdqsort_func AT A RANGE OF AT MOST 12. (LAID: no walk: one application.) -/
theorem Try.pdqsort_func_small {α : Type} [Inhabited α] (enc : α → Value) (lt : α → α → Bool) (g : Nat) (lb : Array Value) (sf : Nat) (sb : Array Value) (blk off a b : Nat) (lim : Int) (d : Array α) (w : World) (eg : ∀ args w, (callFunc g args).run Try.prog w = .ok (.enter g args) w) (hless : LessReads Try.prog g lb enc lt blk off d.size w) (hswap : SwapSwaps Try.prog sf sb enc blk off d.size) (hH : Holds enc w blk off d) (hblk : blk < w.heap.size) (hab : a ≤ b) (hb : b ≤ d.size) (hsz : d.size < 4611686018427387904) (h12 : b - a ≤ 12) :
    Calls Try.prog 87 #[.agg #[.func (.func g) #[] lb, .func (.func sf) #[] sb], .int .i64 a, .int .i64 b, .int .i64 lim] w fun e w' =>
      e = .returned (.tuple #[]) ∧ ∃ n, w' = putRow enc (Sort.ahead ((w.alloc (.cells #[.func (.func g) #[] lb, .func (.func sf) #[] sb] 142)).alloc (.cells #[.func (.func g) #[] lb, .func (.func sf) #[] sb] 142)) n) blk off (Sort.insertionSort lt d a b) := Any.pdqsort_func_small Try.laysGg14 enc lt g lb sf sb blk off a b lim d w eg hless hswap hH hblk hab hb hsz h12
def Try.laysGg6_ren : Go.Shelf.Ren := ⟨fun | 6 => 81 | 10 => 83 | 11 => 84 | 12 => 85 | 13 => 86 | 14 => 87 | 24 => 80 | 25 => 97 | 26 => 98 | 27 => 99 | 28 => 100 | 29 => 101 | 30 => 102 | 31 => 103 | 32 => 104 | 33 => 105 | 34 => 106 | 35 => 107 | 36 => 108 | 37 => 109 | 38 => 110 | 39 => 111 | n => n, fun | 20 => 20 | 26 => 131 | 35 => 135 | 0 => 0 | 37 => 137 | 3 => 3 | 41 => 119 | 44 => 142 | 49 => 71 | 51 => 79 | 4 => 4 | 54 => 149 | 53 => 148 | 58 => 153 | 5 => 5 | 9 => 9 | 60 => 155 | 64 => 159 | 66 => 161 | 67 => 162 | 17 => 17 | 32 => 132 | 33 => 133 | 82 => 177 | 12 => 12 | 75 => 170 | 76 => 171 | 77 => 172 | 78 => 173 | 79 => 174 | 80 => 175 | n => n, fun | n => n⟩
theorem Try.laysGg6 : Go.Proofs.LaysGg.n6 Try.prog Try.laysGg6_ren := {
  mixed := by kernel_rfl
  f6 := Try.func81.trans (congrArg some (by kernel_rfl))
  f10 := Try.func83.trans (congrArg some (by kernel_rfl))
  f11 := Try.func84.trans (congrArg some (by kernel_rfl))
  f12 := Try.func85.trans (congrArg some (by kernel_rfl))
  f13 := Try.func86.trans (congrArg some (by kernel_rfl))
  f14 := Try.func87.trans (congrArg some (by kernel_rfl))
  f24 := Try.func80.trans (congrArg some (by kernel_rfl))
  f25 := Try.func97.trans (congrArg some (by kernel_rfl))
  f26 := Try.func98.trans (congrArg some (by kernel_rfl))
  f27 := Try.func99.trans (congrArg some (by kernel_rfl))
  f28 := Try.func100.trans (congrArg some (by kernel_rfl))
  f29 := Try.func101.trans (congrArg some (by kernel_rfl))
  f30 := Try.func102.trans (congrArg some (by kernel_rfl))
  f31 := Try.func103.trans (congrArg some (by kernel_rfl))
  f32 := Try.func104.trans (congrArg some (by kernel_rfl))
  f33 := Try.func105.trans (congrArg some (by kernel_rfl))
  f34 := Try.func106.trans (congrArg some (by kernel_rfl))
  f35 := Try.func107.trans (congrArg some (by kernel_rfl))
  f36 := Try.func108.trans (congrArg some (by kernel_rfl))
  f37 := Try.func109.trans (congrArg some (by kernel_rfl))
  f38 := Try.func110.trans (congrArg some (by kernel_rfl))
  f39 := Try.func111.trans (congrArg some (by kernel_rfl))
  t0 := Try.underlying0
  a0 := Try.isAgg0
  z0 := Try.sizeOf0
  v0 := Try.zeroValue0
  i0 := by kernel_rfl
  t3 := Try.underlying3
  a3 := Try.isAgg3
  z3 := Try.sizeOf3
  v3 := Try.zeroValue3
  i3 := by kernel_rfl
  t4 := Try.underlying4
  a4 := Try.isAgg4
  z4 := Try.sizeOf4
  v4 := Try.zeroValue4
  i4 := by kernel_rfl
  t5 := Try.underlying5
  a5 := Try.isAgg5
  z5 := Try.sizeOf5
  v5 := Try.zeroValue5
  i5 := by kernel_rfl
  t9 := Try.underlying9
  a9 := Try.isAgg9
  z9 := Try.sizeOf9
  v9 := Try.zeroValue9
  i9 := by kernel_rfl
  t12 := Try.underlying12
  a12 := Try.isAgg12
  z12 := Try.sizeOf12
  v12 := Try.zeroValue12
  i12 := by kernel_rfl
  t17 := Try.underlying17
  a17 := Try.isAgg17
  z17 := Try.sizeOf17
  v17 := Try.zeroValue17
  i17 := by kernel_rfl
  t20 := Try.underlying20
  a20 := Try.isAgg20
  z20 := Try.sizeOf20
  v20 := Try.zeroValue20
  i20 := by kernel_rfl
  t26 := Try.underlying131
  a26 := Try.isAgg131
  z26 := Try.sizeOf131
  v26 := Try.zeroValue131
  i26 := by kernel_rfl
  t32 := Try.underlying132
  a32 := Try.isAgg132
  z32 := Try.sizeOf132
  v32 := Try.zeroValue132
  i32 := by kernel_rfl
  t33 := Try.underlying133
  a33 := Try.isAgg133
  z33 := Try.sizeOf133
  v33 := Try.zeroValue133
  i33 := by kernel_rfl
  t35 := Try.underlying135
  a35 := Try.isAgg135
  z35 := Try.sizeOf135
  v35 := Try.zeroValue135
  i35 := by kernel_rfl
  t37 := Try.underlying137
  a37 := Try.isAgg137
  z37 := Try.sizeOf137
  v37 := Try.zeroValue137
  i37 := by kernel_rfl
  t41 := Try.underlying119
  a41 := Try.isAgg119
  z41 := Try.sizeOf119
  v41 := Try.zeroValue119
  i41 := by kernel_rfl
  t44 := Try.underlying142
  a44 := Try.isAgg142
  z44 := Try.sizeOf142
  v44 := Try.zeroValue142
  i44 := by kernel_rfl
  t49 := Try.underlying71
  a49 := Try.isAgg71
  z49 := Try.sizeOf71
  v49 := Try.zeroValue71
  i49 := by kernel_rfl
  t51 := Try.underlying79
  a51 := Try.isAgg79
  z51 := Try.sizeOf79
  v51 := Try.zeroValue79
  i51 := by kernel_rfl
  t53 := Try.underlying148
  a53 := Try.isAgg148
  z53 := Try.sizeOf148
  v53 := Try.zeroValue148
  i53 := by kernel_rfl
  t54 := Try.underlying149
  a54 := Try.isAgg149
  z54 := Try.sizeOf149
  v54 := Try.zeroValue149
  i54 := by kernel_rfl
  t58 := Try.underlying153
  a58 := Try.isAgg153
  z58 := Try.sizeOf153
  v58 := Try.zeroValue153
  i58 := by kernel_rfl
  t60 := Try.underlying155
  a60 := Try.isAgg155
  z60 := Try.sizeOf155
  v60 := Try.zeroValue155
  i60 := by kernel_rfl
  t64 := Try.underlying159
  a64 := Try.isAgg159
  z64 := Try.sizeOf159
  v64 := Try.zeroValue159
  i64 := by kernel_rfl
  t66 := Try.underlying161
  a66 := Try.isAgg161
  z66 := Try.sizeOf161
  v66 := Try.zeroValue161
  i66 := by kernel_rfl
  t67 := Try.underlying162
  a67 := Try.isAgg162
  z67 := Try.sizeOf162
  v67 := Try.zeroValue162
  i67 := by kernel_rfl
  t75 := Try.underlying170
  a75 := Try.isAgg170
  z75 := Try.sizeOf170
  v75 := Try.zeroValue170
  i75 := by kernel_rfl
  t76 := Try.underlying171
  a76 := Try.isAgg171
  z76 := Try.sizeOf171
  v76 := Try.zeroValue171
  i76 := by kernel_rfl
  t77 := Try.underlying172
  a77 := Try.isAgg172
  z77 := Try.sizeOf172
  v77 := Try.zeroValue172
  i77 := by kernel_rfl
  t78 := Try.underlying173
  a78 := Try.isAgg173
  z78 := Try.sizeOf173
  v78 := Try.zeroValue173
  i78 := by kernel_rfl
  t79 := Try.underlying174
  a79 := Try.isAgg174
  z79 := Try.sizeOf174
  v79 := Try.zeroValue174
  i79 := by kernel_rfl
  t80 := Try.underlying175
  a80 := Try.isAgg175
  z80 := Try.sizeOf175
  v80 := Try.zeroValue175
  i80 := by kernel_rfl
  t82 := Try.underlying177
  a82 := Try.isAgg177
  z82 := Try.sizeOf177
  v82 := Try.zeroValue177
  i82 := by kernel_rfl }
open Go.RowKit Go.Lib Go.Sort in
theorem Try.insertionSort_func_none (lf : Fn) (la lb : Array Value) (f : Nat) (sb : Array Value) (a b : Nat) (h : b ≤ a + 1) (ha : a < 4611686018427387904) (w : World) :
    Calls Try.prog 98 #[.agg #[.func lf la lb, .func (.func f) #[] sb], .int .i64 a, .int .i64 b] w fun e w' => e = .returned (.tuple #[]) ∧ w' = w.alloc (.cells #[.func lf la lb, .func (.func f) #[] sb] 142) := Any.insertionSort_func_none Try.laysGg26 lf la lb f sb a b h ha w
open Go.RowKit Go.Lib Go.Sort in
theorem Try.pdqsort_func_tiny (lf : Fn) (la lb : Array Value) (f : Nat) (sb : Array Value) (n : Nat) (h : n ≤ 1) (lim : Int) (w : World) :
    Calls Try.prog 87 #[.agg #[.func lf la lb, .func (.func f) #[] sb], .int .i64 0, .int .i64 n, .int .i64 lim] w fun e w' => e = .returned (.tuple #[]) ∧ w' = (w.alloc (.cells #[.func lf la lb, .func (.func f) #[] sb] 142)).alloc (.cells #[.func lf la lb, .func (.func f) #[] sb] 142) := Any.pdqsort_func_tiny Try.laysGg14 lf la lb f sb n h lim w
open Go.RowKit Go.Lib Go.Sort in
/-- sort.insertionSort_func, from a world to a 'sortWorld' of it. (LAID: no walk: one application.) -/
theorem Try.insertionSort_func_w {α : Type} [Inhabited α] (enc : α → Value) (lt : α → α → Bool) (g : Nat) (lb : Array Value) (sf : Nat) (sb : Array Value) (blk off a b : Nat) (d : Array α) (w : World) (eg : ∀ args w, (callFunc g args).run Try.prog w = .ok (.enter g args) w) (hless : LessReads Try.prog g lb enc lt blk off d.size w) (hswap : SwapSwaps Try.prog sf sb enc blk off d.size) (hH : Holds enc w blk off d) (hblk : blk < w.heap.size) (hab : a ≤ b) (hb : b ≤ d.size) (hsz : d.size < 4611686018427387904) :
    Calls Try.prog 98 #[.agg #[.func (.func g) #[] lb, .func (.func sf) #[] sb], .int .i64 a, .int .i64 b] w fun e w' => e = .returned (.tuple #[]) ∧ ∃ n os, w' = sortWorld enc w blk off n (Sort.insertionSort lt d a b) os := Any.insertionSort_func_w Try.laysGg26 enc lt g lb sf sb blk off a b d w eg hless hswap hH hblk hab hb hsz
def Try.laysGg30_ren : Go.Shelf.Ren := ⟨fun | 30 => 102 | n => n, fun | 44 => 142 | 3 => 3 | 0 => 0 | 4 => 4 | 37 => 137 | 26 => 131 | n => n, fun | n => n⟩
theorem Try.laysGg30 : Go.Proofs.LaysGg.n30 Try.prog Try.laysGg30_ren := {
  mixed := by kernel_rfl
  f30 := Try.func102.trans (congrArg some (by kernel_rfl))
  t0 := Try.underlying0
  a0 := Try.isAgg0
  z0 := Try.sizeOf0
  v0 := Try.zeroValue0
  i0 := by kernel_rfl
  t3 := Try.underlying3
  a3 := Try.isAgg3
  z3 := Try.sizeOf3
  v3 := Try.zeroValue3
  i3 := by kernel_rfl
  t4 := Try.underlying4
  a4 := Try.isAgg4
  z4 := Try.sizeOf4
  v4 := Try.zeroValue4
  i4 := by kernel_rfl
  t26 := Try.underlying131
  a26 := Try.isAgg131
  z26 := Try.sizeOf131
  v26 := Try.zeroValue131
  i26 := by kernel_rfl
  t37 := Try.underlying137
  a37 := Try.isAgg137
  z37 := Try.sizeOf137
  v37 := Try.zeroValue137
  i37 := by kernel_rfl
  t44 := Try.underlying142
  a44 := Try.isAgg142
  z44 := Try.sizeOf142
  v44 := Try.zeroValue142
  i44 := by kernel_rfl }
open Go.RowKit Go.Lib Go.Sort in
theorem Try.reverseRange_func_one {α : Type} [Inhabited α] (enc : α → Value) (lf : Fn) (la lb : Array Value) (sf : Nat) (sb : Array Value) (blk off a b : Nat) (d : Array α) (w : World) (hswap : SwapSwaps Try.prog sf sb enc blk off d.size) (hH : Holds enc w blk off d) (hblk : blk < w.heap.size) (hab : a ≤ b) (hb : b ≤ d.size) (hsz : d.size < 4611686018427387904) :
    Calls Try.prog 102 #[.agg #[.func lf la lb, .func (.func sf) #[] sb], .int .i64 a, .int .i64 b] w fun e w' => e = .returned (.tuple #[]) ∧ ∃ n, w' = putRow enc (Sort.ahead (w.alloc (.cells #[.func lf la lb, .func (.func sf) #[] sb] 142)) n) blk off (reverseRange d a b) := Any.reverseRange_func_one Try.laysGg30 enc lf la lb sf sb blk off a b d w hswap hH hblk hab hb hsz
open Go.RowKit Go.Lib Go.Sort in
/-- sort.reverseRange_func, from a world to a 'sortWorld' of it. (LAID: no walk: one application.) -/
theorem Try.reverseRange_func_w {α : Type} [Inhabited α] (enc : α → Value) (lf : Fn) (la lb : Array Value) (sf : Nat) (sb : Array Value) (blk off a b : Nat) (d : Array α) (w : World) (hswap : SwapSwaps Try.prog sf sb enc blk off d.size) (hH : Holds enc w blk off d) (hblk : blk < w.heap.size) (hab : a ≤ b) (hb : b ≤ d.size) (hsz : d.size < 4611686018427387904) :
    Calls Try.prog 102 #[.agg #[.func lf la lb, .func (.func sf) #[] sb], .int .i64 a, .int .i64 b] w fun e w' => e = .returned (.tuple #[]) ∧ ∃ n os, w' = sortWorld enc w blk off n (reverseRange d a b) os := Any.reverseRange_func_w Try.laysGg30 enc lf la lb sf sb blk off a b d w hswap hH hblk hab hb hsz
def Try.laysGg39_ren : Go.Shelf.Ren := ⟨fun | 39 => 111 | n => n, fun | 44 => 142 | 3 => 3 | 64 => 159 | 0 => 0 | 26 => 131 | 4 => 4 | 37 => 137 | n => n, fun | n => n⟩
theorem Try.laysGg39 : Go.Proofs.LaysGg.n39 Try.prog Try.laysGg39_ren := {
  mixed := by kernel_rfl
  f39 := Try.func111.trans (congrArg some (by kernel_rfl))
  t0 := Try.underlying0
  a0 := Try.isAgg0
  z0 := Try.sizeOf0
  v0 := Try.zeroValue0
  i0 := by kernel_rfl
  t3 := Try.underlying3
  a3 := Try.isAgg3
  z3 := Try.sizeOf3
  v3 := Try.zeroValue3
  i3 := by kernel_rfl
  t4 := Try.underlying4
  a4 := Try.isAgg4
  z4 := Try.sizeOf4
  v4 := Try.zeroValue4
  i4 := by kernel_rfl
  t26 := Try.underlying131
  a26 := Try.isAgg131
  z26 := Try.sizeOf131
  v26 := Try.zeroValue131
  i26 := by kernel_rfl
  t37 := Try.underlying137
  a37 := Try.isAgg137
  z37 := Try.sizeOf137
  v37 := Try.zeroValue137
  i37 := by kernel_rfl
  t44 := Try.underlying142
  a44 := Try.isAgg142
  z44 := Try.sizeOf142
  v44 := Try.zeroValue142
  i44 := by kernel_rfl
  t64 := Try.underlying159
  a64 := Try.isAgg159
  z64 := Try.sizeOf159
  v64 := Try.zeroValue159
  i64 := by kernel_rfl }
open Go.RowKit Go.Lib Go.Sort in
theorem Try.order2_func {α : Type} [Inhabited α] (enc : α → Value) (lt : α → α → Bool) (g : Nat) (lb : Array Value) (sfn : Fn) (sa sb : Array Value) (blk off : Nat) (w0 W : World) (d : Array α) (a b cb co s : Nat) (eg : ∀ args w, (callFunc g args).run Try.prog w = .ok (.enter g args) w) (hL : LessReads Try.prog g lb enc lt blk off d.size w0) (hW : SW enc w0 blk off d W) (ha : a < d.size) (hb : b < d.size) (hS : Holds (Value.int .i64) W cb co (one s)) (hcb : cb < W.heap.size) (hs : s < 4611686018427387904) :
    Calls Try.prog 111 #[.agg #[.func (.func g) #[] lb, .func sfn sa sb], .int .i64 a, .int .i64 b, .pointer (some ⟨cb, co, none⟩)] W fun e w' =>
      e = .returned (.tuple #[.int .i64 (order2 lt d a b s).1, .int .i64 (order2 lt d a b s).2.1]) ∧ ∃ n os, w' = sortWorld (Value.int .i64) W cb co n (one (order2 lt d a b s).2.2) os := Any.order2_func Try.laysGg39 enc lt g lb sfn sa sb blk off w0 W d a b cb co s eg hL hW ha hb hS hcb hs
def Try.laysGg38_ren : Go.Shelf.Ren := ⟨fun | 38 => 110 | 39 => 111 | n => n, fun | 44 => 142 | 3 => 3 | 64 => 159 | 0 => 0 | 67 => 162 | 26 => 131 | 4 => 4 | 37 => 137 | n => n, fun | n => n⟩
theorem Try.laysGg38 : Go.Proofs.LaysGg.n38 Try.prog Try.laysGg38_ren := {
  mixed := by kernel_rfl
  f38 := Try.func110.trans (congrArg some (by kernel_rfl))
  f39 := Try.func111.trans (congrArg some (by kernel_rfl))
  t0 := Try.underlying0
  a0 := Try.isAgg0
  z0 := Try.sizeOf0
  v0 := Try.zeroValue0
  i0 := by kernel_rfl
  t3 := Try.underlying3
  a3 := Try.isAgg3
  z3 := Try.sizeOf3
  v3 := Try.zeroValue3
  i3 := by kernel_rfl
  t4 := Try.underlying4
  a4 := Try.isAgg4
  z4 := Try.sizeOf4
  v4 := Try.zeroValue4
  i4 := by kernel_rfl
  t26 := Try.underlying131
  a26 := Try.isAgg131
  z26 := Try.sizeOf131
  v26 := Try.zeroValue131
  i26 := by kernel_rfl
  t37 := Try.underlying137
  a37 := Try.isAgg137
  z37 := Try.sizeOf137
  v37 := Try.zeroValue137
  i37 := by kernel_rfl
  t44 := Try.underlying142
  a44 := Try.isAgg142
  z44 := Try.sizeOf142
  v44 := Try.zeroValue142
  i44 := by kernel_rfl
  t64 := Try.underlying159
  a64 := Try.isAgg159
  z64 := Try.sizeOf159
  v64 := Try.zeroValue159
  i64 := by kernel_rfl
  t67 := Try.underlying162
  a67 := Try.isAgg162
  z67 := Try.sizeOf162
  v67 := Try.zeroValue162
  i67 := by kernel_rfl }
open Go.RowKit Go.Lib Go.Sort in
theorem Try.median_func {α : Type} [Inhabited α] (enc : α → Value) (lt : α → α → Bool) (g : Nat) (lb : Array Value) (sfn : Fn) (sa sb : Array Value) (blk off : Nat) (w0 W : World) (d : Array α) (a b c cb co s : Nat) (eg : ∀ args w, (callFunc g args).run Try.prog w = .ok (.enter g args) w) (hL : LessReads Try.prog g lb enc lt blk off d.size w0) (hW : SW enc w0 blk off d W) (ha : a < d.size) (hb : b < d.size) (hc : c < d.size) (hS : Holds (Value.int .i64) W cb co (one s)) (hcb0 : w0.heap.size ≤ cb) (hcb : cb < W.heap.size) (hs : s + 3 < 4611686018427387904) :
    Calls Try.prog 110 #[.agg #[.func (.func g) #[] lb, .func sfn sa sb], .int .i64 a, .int .i64 b, .int .i64 c, .pointer (some ⟨cb, co, none⟩)] W fun e w' =>
      e = .returned (.int .i64 (median lt d a b c s).1) ∧ ∃ n os, w' = sortWorld (Value.int .i64) W cb co n (one (median lt d a b c s).2) os := Any.median_func Try.laysGg38 enc lt g lb sfn sa sb blk off w0 W d a b c cb co s eg hL hW ha hb hc hS hcb0 hcb hs
def Try.laysGg37_ren : Go.Shelf.Ren := ⟨fun | 37 => 109 | 38 => 110 | 39 => 111 | n => n, fun | 44 => 142 | 3 => 3 | 64 => 159 | 0 => 0 | 67 => 162 | 26 => 131 | 4 => 4 | 37 => 137 | n => n, fun | n => n⟩
theorem Try.laysGg37 : Go.Proofs.LaysGg.n37 Try.prog Try.laysGg37_ren := {
  mixed := by kernel_rfl
  f37 := Try.func109.trans (congrArg some (by kernel_rfl))
  f38 := Try.func110.trans (congrArg some (by kernel_rfl))
  f39 := Try.func111.trans (congrArg some (by kernel_rfl))
  t0 := Try.underlying0
  a0 := Try.isAgg0
  z0 := Try.sizeOf0
  v0 := Try.zeroValue0
  i0 := by kernel_rfl
  t3 := Try.underlying3
  a3 := Try.isAgg3
  z3 := Try.sizeOf3
  v3 := Try.zeroValue3
  i3 := by kernel_rfl
  t4 := Try.underlying4
  a4 := Try.isAgg4
  z4 := Try.sizeOf4
  v4 := Try.zeroValue4
  i4 := by kernel_rfl
  t26 := Try.underlying131
  a26 := Try.isAgg131
  z26 := Try.sizeOf131
  v26 := Try.zeroValue131
  i26 := by kernel_rfl
  t37 := Try.underlying137
  a37 := Try.isAgg137
  z37 := Try.sizeOf137
  v37 := Try.zeroValue137
  i37 := by kernel_rfl
  t44 := Try.underlying142
  a44 := Try.isAgg142
  z44 := Try.sizeOf142
  v44 := Try.zeroValue142
  i44 := by kernel_rfl
  t64 := Try.underlying159
  a64 := Try.isAgg159
  z64 := Try.sizeOf159
  v64 := Try.zeroValue159
  i64 := by kernel_rfl
  t67 := Try.underlying162
  a67 := Try.isAgg162
  z67 := Try.sizeOf162
  v67 := Try.zeroValue162
  i67 := by kernel_rfl }
open Go.RowKit Go.Lib Go.Sort in
theorem Try.medianAdjacent_func {α : Type} [Inhabited α] (enc : α → Value) (lt : α → α → Bool) (g : Nat) (lb : Array Value) (sfn : Fn) (sa sb : Array Value) (blk off : Nat) (w0 W : World) (d : Array α) (a cb co s : Nat) (eg : ∀ args w, (callFunc g args).run Try.prog w = .ok (.enter g args) w) (hL : LessReads Try.prog g lb enc lt blk off d.size w0) (hW : SW enc w0 blk off d W) (ha1 : 1 ≤ a) (ha2 : a + 1 < d.size) (hsz : d.size < 4611686018427387904) (hS : Holds (Value.int .i64) W cb co (one s)) (hcb0 : w0.heap.size ≤ cb) (hcb : cb < W.heap.size) (hs : s + 3 < 4611686018427387904) :
    Calls Try.prog 109 #[.agg #[.func (.func g) #[] lb, .func sfn sa sb], .int .i64 a, .pointer (some ⟨cb, co, none⟩)] W fun e w' =>
      e = .returned (.int .i64 (medianAdjacent lt d a s).1) ∧ ∃ n os, w' = sortWorld (Value.int .i64) W cb co n (one (medianAdjacent lt d a s).2) os := Any.medianAdjacent_func Try.laysGg37 enc lt g lb sfn sa sb blk off w0 W d a cb co s eg hL hW ha1 ha2 hsz hS hcb0 hcb hs
def Try.laysGg29_ren : Go.Shelf.Ren := ⟨fun | 29 => 101 | 37 => 109 | 38 => 110 | 39 => 111 | n => n, fun | 44 => 142 | 3 => 3 | 53 => 148 | 0 => 0 | 4 => 4 | 64 => 159 | 67 => 162 | 26 => 131 | 37 => 137 | n => n, fun | n => n⟩
theorem Try.laysGg29 : Go.Proofs.LaysGg.n29 Try.prog Try.laysGg29_ren := {
  mixed := by kernel_rfl
  f29 := Try.func101.trans (congrArg some (by kernel_rfl))
  f37 := Try.func109.trans (congrArg some (by kernel_rfl))
  f38 := Try.func110.trans (congrArg some (by kernel_rfl))
  f39 := Try.func111.trans (congrArg some (by kernel_rfl))
  t0 := Try.underlying0
  a0 := Try.isAgg0
  z0 := Try.sizeOf0
  v0 := Try.zeroValue0
  i0 := by kernel_rfl
  t3 := Try.underlying3
  a3 := Try.isAgg3
  z3 := Try.sizeOf3
  v3 := Try.zeroValue3
  i3 := by kernel_rfl
  t4 := Try.underlying4
  a4 := Try.isAgg4
  z4 := Try.sizeOf4
  v4 := Try.zeroValue4
  i4 := by kernel_rfl
  t26 := Try.underlying131
  a26 := Try.isAgg131
  z26 := Try.sizeOf131
  v26 := Try.zeroValue131
  i26 := by kernel_rfl
  t37 := Try.underlying137
  a37 := Try.isAgg137
  z37 := Try.sizeOf137
  v37 := Try.zeroValue137
  i37 := by kernel_rfl
  t44 := Try.underlying142
  a44 := Try.isAgg142
  z44 := Try.sizeOf142
  v44 := Try.zeroValue142
  i44 := by kernel_rfl
  t53 := Try.underlying148
  a53 := Try.isAgg148
  z53 := Try.sizeOf148
  v53 := Try.zeroValue148
  i53 := by kernel_rfl
  t64 := Try.underlying159
  a64 := Try.isAgg159
  z64 := Try.sizeOf159
  v64 := Try.zeroValue159
  i64 := by kernel_rfl
  t67 := Try.underlying162
  a67 := Try.isAgg162
  z67 := Try.sizeOf162
  v67 := Try.zeroValue162
  i67 := by kernel_rfl }
open Go.RowKit Go.Lib Go.Sort in
/-- sort.choosePivot_func: THE LIBRARY's OWN TEXT COMPUTES 'Sort.choosePivot lt d a b'; the row is not turned; W is grown. (After Derived/Sort/Walk11.lean's 'So.choosePivot_int', row for row.) (LAID: no walk: one application.) -/
theorem Try.choosePivot_func {α : Type} [Inhabited α] (enc : α → Value) (lt : α → α → Bool) (g : Nat) (lb : Array Value) (sfn : Fn) (sa sb : Array Value) (blk off a b : Nat) (W : World) (d : Array α) (eg : ∀ args w, (callFunc g args).run Try.prog w = .ok (.enter g args) w) (hless : LessReads Try.prog g lb enc lt blk off d.size W) (hH : Holds enc W blk off d) (hab : a < b) (hb : b ≤ d.size) (hsz : d.size < 4611686018427387904) :
    Calls Try.prog 101 #[.agg #[.func (.func g) #[] lb, .func sfn sa sb], .int .i64 a, .int .i64 b] W fun e w' =>
      e = .returned (.tuple #[.int .i64 (choosePivot lt d a b).1, .int .i64 (hintCode (choosePivot lt d a b).2)]) ∧ ∃ n os, w' = grow (Sort.ahead W n) os := Any.choosePivot_func Try.laysGg29 enc lt g lb sfn sa sb blk off a b W d eg hless hH hab hb hsz
def Try.laysGg32_ren : Go.Shelf.Ren := ⟨fun | 32 => 104 | n => n, fun | 44 => 142 | 3 => 3 | 0 => 0 | 37 => 137 | 4 => 4 | 26 => 131 | n => n, fun | n => n⟩
theorem Try.laysGg32 : Go.Proofs.LaysGg.n32 Try.prog Try.laysGg32_ren := {
  mixed := by kernel_rfl
  f32 := Try.func104.trans (congrArg some (by kernel_rfl))
  t0 := Try.underlying0
  a0 := Try.isAgg0
  z0 := Try.sizeOf0
  v0 := Try.zeroValue0
  i0 := by kernel_rfl
  t3 := Try.underlying3
  a3 := Try.isAgg3
  z3 := Try.sizeOf3
  v3 := Try.zeroValue3
  i3 := by kernel_rfl
  t4 := Try.underlying4
  a4 := Try.isAgg4
  z4 := Try.sizeOf4
  v4 := Try.zeroValue4
  i4 := by kernel_rfl
  t26 := Try.underlying131
  a26 := Try.isAgg131
  z26 := Try.sizeOf131
  v26 := Try.zeroValue131
  i26 := by kernel_rfl
  t37 := Try.underlying137
  a37 := Try.isAgg137
  z37 := Try.sizeOf137
  v37 := Try.zeroValue137
  i37 := by kernel_rfl
  t44 := Try.underlying142
  a44 := Try.isAgg142
  z44 := Try.sizeOf142
  v44 := Try.zeroValue142
  i44 := by kernel_rfl }
open Go.RowKit Go.Lib Go.Sort in
theorem Try.partitionEqual_func_one {α : Type} [Inhabited α] (enc : α → Value) (lt : α → α → Bool) (g : Nat) (lb : Array Value) (sf : Nat) (sb : Array Value) (blk off a b pivot : Nat) (d : Array α) (W : World) (eg : ∀ args w, (callFunc g args).run Try.prog w = .ok (.enter g args) w) (hless : LessReads Try.prog g lb enc lt blk off d.size W) (hswap : SwapSwaps Try.prog sf sb enc blk off d.size) (hH : Holds enc W blk off d) (hblk : blk < W.heap.size) (hap : a ≤ pivot) (hpb : pivot < b) (hb : b ≤ d.size) (hsz : d.size < 4611686018427387904) :
    Calls Try.prog 104 #[.agg #[.func (.func g) #[] lb, .func (.func sf) #[] sb], .int .i64 a, .int .i64 b, .int .i64 pivot] W fun e w' =>
      e = .returned (.int .i64 (Sort.partitionEqual lt d a b pivot).1) ∧ ∃ n, w' = (putRow enc (W.alloc (.cells #[.func (.func g) #[] lb, .func (.func sf) #[] sb] 142)) blk off (Sort.partitionEqual lt d a b pivot).2).drewN n := Any.partitionEqual_func_one Try.laysGg32 enc lt g lb sf sb blk off a b pivot d W eg hless hswap hH hblk hap hpb hb hsz
def Try.laysGg33_ren : Go.Shelf.Ren := ⟨fun | 33 => 105 | n => n, fun | 44 => 142 | 3 => 3 | 4 => 4 | 0 => 0 | 37 => 137 | 26 => 131 | n => n, fun | n => n⟩
theorem Try.laysGg33 : Go.Proofs.LaysGg.n33 Try.prog Try.laysGg33_ren := {
  mixed := by kernel_rfl
  f33 := Try.func105.trans (congrArg some (by kernel_rfl))
  t0 := Try.underlying0
  a0 := Try.isAgg0
  z0 := Try.sizeOf0
  v0 := Try.zeroValue0
  i0 := by kernel_rfl
  t3 := Try.underlying3
  a3 := Try.isAgg3
  z3 := Try.sizeOf3
  v3 := Try.zeroValue3
  i3 := by kernel_rfl
  t4 := Try.underlying4
  a4 := Try.isAgg4
  z4 := Try.sizeOf4
  v4 := Try.zeroValue4
  i4 := by kernel_rfl
  t26 := Try.underlying131
  a26 := Try.isAgg131
  z26 := Try.sizeOf131
  v26 := Try.zeroValue131
  i26 := by kernel_rfl
  t37 := Try.underlying137
  a37 := Try.isAgg137
  z37 := Try.sizeOf137
  v37 := Try.zeroValue137
  i37 := by kernel_rfl
  t44 := Try.underlying142
  a44 := Try.isAgg142
  z44 := Try.sizeOf142
  v44 := Try.zeroValue142
  i44 := by kernel_rfl }
open Go.RowKit Go.Lib Go.Sort in
theorem Try.partition_func_one {α : Type} [Inhabited α] (enc : α → Value) (lt : α → α → Bool) (g : Nat) (lb : Array Value) (sf : Nat) (sb : Array Value) (blk off a b pivot : Nat) (d : Array α) (W : World) (eg : ∀ args w, (callFunc g args).run Try.prog w = .ok (.enter g args) w) (hless : LessReads Try.prog g lb enc lt blk off d.size W) (hswap : SwapSwaps Try.prog sf sb enc blk off d.size) (hH : Holds enc W blk off d) (hblk : blk < W.heap.size) (hap : a ≤ pivot) (hpb : pivot < b) (hb : b ≤ d.size) (hsz : d.size < 4611686018427387904) :
    Calls Try.prog 105 #[.agg #[.func (.func g) #[] lb, .func (.func sf) #[] sb], .int .i64 a, .int .i64 b, .int .i64 pivot] W fun e w' =>
      e = .returned (.tuple #[.int .i64 (Sort.partition lt d a b pivot).1, .bool (Sort.partition lt d a b pivot).2.1]) ∧ ∃ n, w' = (putRow enc (W.alloc (.cells #[.func (.func g) #[] lb, .func (.func sf) #[] sb] 142)) blk off (Sort.partition lt d a b pivot).2.2).drewN n := Any.partition_func_one Try.laysGg33 enc lt g lb sf sb blk off a b pivot d W eg hless hswap hH hblk hap hpb hb hsz
open Go.RowKit Go.Lib Go.Sort in
/-- sort.partitionEqual_func, from a world to a 'sortWorld' of it. (LAID: no walk: one application.) -/
theorem Try.partitionEqual_func_w {α : Type} [Inhabited α] (enc : α → Value) (lt : α → α → Bool) (g : Nat) (lb : Array Value) (sf : Nat) (sb : Array Value) (blk off a b pivot : Nat) (d : Array α) (W : World) (eg : ∀ args w, (callFunc g args).run Try.prog w = .ok (.enter g args) w) (hless : LessReads Try.prog g lb enc lt blk off d.size W) (hswap : SwapSwaps Try.prog sf sb enc blk off d.size) (hH : Holds enc W blk off d) (hblk : blk < W.heap.size) (hap : a ≤ pivot) (hpb : pivot < b) (hb : b ≤ d.size) (hsz : d.size < 4611686018427387904) :
    Calls Try.prog 104 #[.agg #[.func (.func g) #[] lb, .func (.func sf) #[] sb], .int .i64 a, .int .i64 b, .int .i64 pivot] W fun e w' => e = .returned (.int .i64 (Sort.partitionEqual lt d a b pivot).1) ∧ ∃ n os, w' = sortWorld enc W blk off n (Sort.partitionEqual lt d a b pivot).2 os := Any.partitionEqual_func_w Try.laysGg32 enc lt g lb sf sb blk off a b pivot d W eg hless hswap hH hblk hap hpb hb hsz
open Go.RowKit Go.Lib Go.Sort in
/-- sort.partition_func, from a world to a 'sortWorld' of it. (LAID: no walk: one application.) -/
theorem Try.partition_func_w {α : Type} [Inhabited α] (enc : α → Value) (lt : α → α → Bool) (g : Nat) (lb : Array Value) (sf : Nat) (sb : Array Value) (blk off a b pivot : Nat) (d : Array α) (W : World) (eg : ∀ args w, (callFunc g args).run Try.prog w = .ok (.enter g args) w) (hless : LessReads Try.prog g lb enc lt blk off d.size W) (hswap : SwapSwaps Try.prog sf sb enc blk off d.size) (hH : Holds enc W blk off d) (hblk : blk < W.heap.size) (hap : a ≤ pivot) (hpb : pivot < b) (hb : b ≤ d.size) (hsz : d.size < 4611686018427387904) :
    Calls Try.prog 105 #[.agg #[.func (.func g) #[] lb, .func (.func sf) #[] sb], .int .i64 a, .int .i64 b, .int .i64 pivot] W fun e w' => e = .returned (.tuple #[.int .i64 (Sort.partition lt d a b pivot).1, .bool (Sort.partition lt d a b pivot).2.1]) ∧ ∃ n os, w' = sortWorld enc W blk off n (Sort.partition lt d a b pivot).2.2 os := Any.partition_func_w Try.laysGg33 enc lt g lb sf sb blk off a b pivot d W eg hless hswap hH hblk hap hpb hb hsz
open Go.RowKit Go.Lib Go.Sort in
theorem Try.pdqsort_func_all {α : Type} [Inhabited α] (enc : α → Value) (lt : α → α → Bool) (hO : SWO lt) (g : Nat) (lb : Array Value) (sf : Nat) (sb : Array Value) (eg : ∀ args w, (callFunc g args).run Try.prog w = .ok (.enter g args) w) :
    ∀ (N blk off a b limit : Nat) (d : Array α) (w : World), b - a < N → LessReads Try.prog g lb enc lt blk off d.size w → SwapSwaps Try.prog sf sb enc blk off d.size → Holds enc w blk off d → blk < w.heap.size → a ≤ b → b ≤ d.size → d.size < 4611686018427387904 → limit < 4611686018427387904 → Below lt a b d →
    Calls Try.prog 87 #[.agg #[.func (.func g) #[] lb, .func (.func sf) #[] sb], .int .i64 a, .int .i64 b, .int .i64 limit] w fun e w' => e = .returned (.tuple #[]) ∧ At enc w blk off (pdq lt d a b limit true true) w' := Any.pdqsort_func_all Try.laysGg14 enc lt hO g lb sf sb eg
def Try.laysGg36_ren : Go.Shelf.Ren := ⟨fun | 36 => 108 | n => n, fun | 66 => 161 | 51 => 79 | 0 => 0 | 60 => 155 | 41 => 119 | n => n, fun | n => n⟩
theorem Try.laysGg36 : Go.Proofs.LaysGg.n36 Try.prog Try.laysGg36_ren := {
  mixed := by kernel_rfl
  f36 := Try.func108.trans (congrArg some (by kernel_rfl))
  t0 := Try.underlying0
  a0 := Try.isAgg0
  z0 := Try.sizeOf0
  v0 := Try.zeroValue0
  i0 := by kernel_rfl
  t41 := Try.underlying119
  a41 := Try.isAgg119
  z41 := Try.sizeOf119
  v41 := Try.zeroValue119
  i41 := by kernel_rfl
  t51 := Try.underlying79
  a51 := Try.isAgg79
  z51 := Try.sizeOf79
  v51 := Try.zeroValue79
  i51 := by kernel_rfl
  t60 := Try.underlying155
  a60 := Try.isAgg155
  z60 := Try.sizeOf155
  v60 := Try.zeroValue155
  i60 := by kernel_rfl
  t66 := Try.underlying161
  a66 := Try.isAgg161
  z66 := Try.sizeOf161
  v66 := Try.zeroValue161
  i66 := by kernel_rfl }
open Go.RowKit Go.Lib Go.Sort in
/-- '*r ^= *r << 13; *r ^= *r >> 7; *r ^= *r << 17; return uint64(*r)': the cell holds 'xorNextN X' and that is handed back; three draws; nothing else turns. (LAID: no walk: one application.) -/
theorem Try.xorshift_Next (rb ro X : Nat) (hX : X < 18446744073709551616) (w : World) (hc : w.cell? ⟨rb, ro, none⟩ = some (.int .u64 X)) (hf : w.frozen? ⟨rb, ro, none⟩ = false) :
    Calls Try.prog 108 #[.pointer (some ⟨rb, ro, none⟩)] w fun e w' => e = .returned (.int .u64 (xorNextN X : Nat)) ∧ w' = (w.setCell ⟨rb, ro, none⟩ (.int .u64 (xorNextN X : Nat))).drewN 3 := Any.xorshift_Next Try.laysGg36 rb ro X hX w hc hf
def Try.laysGg35_ren : Go.Shelf.Ren := ⟨fun | 35 => 107 | 13 => 86 | 24 => 80 | 25 => 97 | n => n, fun | 3 => 3 | 41 => 119 | 49 => 71 | 51 => 79 | 4 => 4 | 5 => 5 | 9 => 9 | n => n, fun | n => n⟩
theorem Try.laysGg35 : Go.Proofs.LaysGg.n35 Try.prog Try.laysGg35_ren := {
  mixed := by kernel_rfl
  f13 := Try.func86.trans (congrArg some (by kernel_rfl))
  f24 := Try.func80.trans (congrArg some (by kernel_rfl))
  f25 := Try.func97.trans (congrArg some (by kernel_rfl))
  f35 := Try.func107.trans (congrArg some (by kernel_rfl))
  t3 := Try.underlying3
  a3 := Try.isAgg3
  z3 := Try.sizeOf3
  v3 := Try.zeroValue3
  i3 := by kernel_rfl
  t4 := Try.underlying4
  a4 := Try.isAgg4
  z4 := Try.sizeOf4
  v4 := Try.zeroValue4
  i4 := by kernel_rfl
  t5 := Try.underlying5
  a5 := Try.isAgg5
  z5 := Try.sizeOf5
  v5 := Try.zeroValue5
  i5 := by kernel_rfl
  t9 := Try.underlying9
  a9 := Try.isAgg9
  z9 := Try.sizeOf9
  v9 := Try.zeroValue9
  i9 := by kernel_rfl
  t41 := Try.underlying119
  a41 := Try.isAgg119
  z41 := Try.sizeOf119
  v41 := Try.zeroValue119
  i41 := by kernel_rfl
  t49 := Try.underlying71
  a49 := Try.isAgg71
  z49 := Try.sizeOf71
  v49 := Try.zeroValue71
  i49 := by kernel_rfl
  t51 := Try.underlying79
  a51 := Try.isAgg79
  z51 := Try.sizeOf79
  v51 := Try.zeroValue79
  i51 := by kernel_rfl }
open Go.RowKit Go.Lib Go.Sort in
/-- 'return 1 << bits.Len(uint(length))'. (LAID: no walk: one application.) -/
theorem Try.nextPowerOfTwo (n : Nat) (hn : n < 4611686018427387904) (w : World) :
    Calls Try.prog 107 #[.int .i64 n] w fun e w' => e = .returned (.int .u64 ((1 <<< bitsLen n : Nat) : Int)) ∧ w' = w := Any.nextPowerOfTwo Try.laysGg35 n hn w
def Try.laysGg34_ren : Go.Shelf.Ren := ⟨fun | 34 => 106 | n => n, fun | 44 => 142 | 3 => 3 | 0 => 0 | 4 => 4 | 26 => 131 | 37 => 137 | n => n, fun | n => n⟩
theorem Try.laysGg34 : Go.Proofs.LaysGg.n34 Try.prog Try.laysGg34_ren := {
  mixed := by kernel_rfl
  f34 := Try.func106.trans (congrArg some (by kernel_rfl))
  t0 := Try.underlying0
  a0 := Try.isAgg0
  z0 := Try.sizeOf0
  v0 := Try.zeroValue0
  i0 := by kernel_rfl
  t3 := Try.underlying3
  a3 := Try.isAgg3
  z3 := Try.sizeOf3
  v3 := Try.zeroValue3
  i3 := by kernel_rfl
  t4 := Try.underlying4
  a4 := Try.isAgg4
  z4 := Try.sizeOf4
  v4 := Try.zeroValue4
  i4 := by kernel_rfl
  t26 := Try.underlying131
  a26 := Try.isAgg131
  z26 := Try.sizeOf131
  v26 := Try.zeroValue131
  i26 := by kernel_rfl
  t37 := Try.underlying137
  a37 := Try.isAgg137
  z37 := Try.sizeOf137
  v37 := Try.zeroValue137
  i37 := by kernel_rfl
  t44 := Try.underlying142
  a44 := Try.isAgg142
  z44 := Try.sizeOf142
  v44 := Try.zeroValue142
  i44 := by kernel_rfl }
open Go.RowKit Go.Lib Go.Sort in
theorem Try.siftDown_func_one {α : Type} [Inhabited α] (enc : α → Value) (lt : α → α → Bool) (g : Nat) (lb : Array Value) (sf : Nat) (sb : Array Value) (blk off lo hi first : Nat) (d : Array α) (w : World) (eg : ∀ args w, (callFunc g args).run Try.prog w = .ok (.enter g args) w) (hless : LessReads Try.prog g lb enc lt blk off d.size w) (hswap : SwapSwaps Try.prog sf sb enc blk off d.size) (hH : Holds enc w blk off d) (hblk : blk < w.heap.size) (hlo : lo ≤ hi) (hb : first + hi ≤ d.size) (hsz : d.size < 4611686018427387904) :
    Calls Try.prog 106 #[.agg #[.func (.func g) #[] lb, .func (.func sf) #[] sb], .int .i64 lo, .int .i64 hi, .int .i64 first] w fun e w' =>
      e = .returned (.tuple #[]) ∧ ∃ n, w' = putRow enc (Sort.ahead (w.alloc (.cells #[.func (.func g) #[] lb, .func (.func sf) #[] sb] 142)) n) blk off (siftDown lt hi first lo d) := Any.siftDown_func_one Try.laysGg34 enc lt g lb sf sb blk off lo hi first d w eg hless hswap hH hblk hlo hb hsz
open Go.RowKit Go.Lib Go.Sort in
/-- sort.siftDown_func, from a world to a 'sortWorld' of it. (LAID: no walk: one application.) -/
theorem Try.siftDown_func_w {α : Type} [Inhabited α] (enc : α → Value) (lt : α → α → Bool) (g : Nat) (lb : Array Value) (sf : Nat) (sb : Array Value) (blk off lo hi first : Nat) (d : Array α) (w : World) (eg : ∀ args w, (callFunc g args).run Try.prog w = .ok (.enter g args) w) (hless : LessReads Try.prog g lb enc lt blk off d.size w) (hswap : SwapSwaps Try.prog sf sb enc blk off d.size) (hH : Holds enc w blk off d) (hblk : blk < w.heap.size) (hlo : lo ≤ hi) (hb : first + hi ≤ d.size) (hsz : d.size < 4611686018427387904) :
    Calls Try.prog 106 #[.agg #[.func (.func g) #[] lb, .func (.func sf) #[] sb], .int .i64 lo, .int .i64 hi, .int .i64 first] w fun e w' => e = .returned (.tuple #[]) ∧ ∃ n os, w' = sortWorld enc w blk off n (siftDown lt hi first lo d) os := Any.siftDown_func_w Try.laysGg34 enc lt g lb sf sb blk off lo hi first d w eg hless hswap hH hblk hlo hb hsz
def Try.laysGg27_ren : Go.Shelf.Ren := ⟨fun | 27 => 99 | 34 => 106 | n => n, fun | 44 => 142 | 3 => 3 | 0 => 0 | 4 => 4 | 37 => 137 | 26 => 131 | n => n, fun | n => n⟩
theorem Try.laysGg27 : Go.Proofs.LaysGg.n27 Try.prog Try.laysGg27_ren := {
  mixed := by kernel_rfl
  f27 := Try.func99.trans (congrArg some (by kernel_rfl))
  f34 := Try.func106.trans (congrArg some (by kernel_rfl))
  t0 := Try.underlying0
  a0 := Try.isAgg0
  z0 := Try.sizeOf0
  v0 := Try.zeroValue0
  i0 := by kernel_rfl
  t3 := Try.underlying3
  a3 := Try.isAgg3
  z3 := Try.sizeOf3
  v3 := Try.zeroValue3
  i3 := by kernel_rfl
  t4 := Try.underlying4
  a4 := Try.isAgg4
  z4 := Try.sizeOf4
  v4 := Try.zeroValue4
  i4 := by kernel_rfl
  t26 := Try.underlying131
  a26 := Try.isAgg131
  z26 := Try.sizeOf131
  v26 := Try.zeroValue131
  i26 := by kernel_rfl
  t37 := Try.underlying137
  a37 := Try.isAgg137
  z37 := Try.sizeOf137
  v37 := Try.zeroValue137
  i37 := by kernel_rfl
  t44 := Try.underlying142
  a44 := Try.isAgg142
  z44 := Try.sizeOf142
  v44 := Try.zeroValue142
  i44 := by kernel_rfl }
open Go.RowKit Go.Lib Go.Sort in
theorem Try.heapSort_func_w {α : Type} [Inhabited α] (enc : α → Value) (lt : α → α → Bool) (g : Nat) (lb : Array Value) (sf : Nat) (sb : Array Value) (blk off a b : Nat) (d : Array α) (w : World) (eg : ∀ args w, (callFunc g args).run Try.prog w = .ok (.enter g args) w) (hless : LessReads Try.prog g lb enc lt blk off d.size w) (hswap : SwapSwaps Try.prog sf sb enc blk off d.size) (hH : Holds enc w blk off d) (hblk : blk < w.heap.size) (hab : a ≤ b) (hb : b ≤ d.size) (hsz : d.size < 4611686018427387904) :
    Calls Try.prog 99 #[.agg #[.func (.func g) #[] lb, .func (.func sf) #[] sb], .int .i64 a, .int .i64 b] w fun e w' => e = .returned (.tuple #[]) ∧ ∃ n os, w' = sortWorld enc w blk off n (heapSort lt d a b) os := Any.heapSort_func_w Try.laysGg27 enc lt g lb sf sb blk off a b d w eg hless hswap hH hblk hab hb hsz
def Try.laysGg31_ren : Go.Shelf.Ren := ⟨fun | 31 => 103 | n => n, fun | 44 => 142 | 3 => 3 | 4 => 4 | 0 => 0 | 26 => 131 | 37 => 137 | n => n, fun | n => n⟩
theorem Try.laysGg31 : Go.Proofs.LaysGg.n31 Try.prog Try.laysGg31_ren := {
  mixed := by kernel_rfl
  f31 := Try.func103.trans (congrArg some (by kernel_rfl))
  t0 := Try.underlying0
  a0 := Try.isAgg0
  z0 := Try.sizeOf0
  v0 := Try.zeroValue0
  i0 := by kernel_rfl
  t3 := Try.underlying3
  a3 := Try.isAgg3
  z3 := Try.sizeOf3
  v3 := Try.zeroValue3
  i3 := by kernel_rfl
  t4 := Try.underlying4
  a4 := Try.isAgg4
  z4 := Try.sizeOf4
  v4 := Try.zeroValue4
  i4 := by kernel_rfl
  t26 := Try.underlying131
  a26 := Try.isAgg131
  z26 := Try.sizeOf131
  v26 := Try.zeroValue131
  i26 := by kernel_rfl
  t37 := Try.underlying137
  a37 := Try.isAgg137
  z37 := Try.sizeOf137
  v37 := Try.zeroValue137
  i37 := by kernel_rfl
  t44 := Try.underlying142
  a44 := Try.isAgg142
  z44 := Try.sizeOf142
  v44 := Try.zeroValue142
  i44 := by kernel_rfl }
open Go.RowKit Go.Lib Go.Sort in
theorem Try.partialInsertionSort_func_one {α : Type} [Inhabited α] (enc : α → Value) (lt : α → α → Bool) (g : Nat) (lb : Array Value) (sf : Nat) (sb : Array Value) (blk off a b : Nat) (d : Array α) (w : World) (eg : ∀ args w, (callFunc g args).run Try.prog w = .ok (.enter g args) w) (hless : LessReads Try.prog g lb enc lt blk off d.size w) (hswap : SwapSwaps Try.prog sf sb enc blk off d.size) (hH : Holds enc w blk off d) (hblk : blk < w.heap.size) (hab : a < b) (hb : b ≤ d.size) (hsz : d.size < 4611686018427387904) :
    Calls Try.prog 103 #[.agg #[.func (.func g) #[] lb, .func (.func sf) #[] sb], .int .i64 a, .int .i64 b] w fun e w' =>
      e = .returned (.bool (Sort.partialInsertionSort lt d a b).2) ∧ ∃ n, w' = putRow enc (Sort.ahead (w.alloc (.cells #[.func (.func g) #[] lb, .func (.func sf) #[] sb] 142)) n) blk off (Sort.partialInsertionSort lt d a b).1 := Any.partialInsertionSort_func_one Try.laysGg31 enc lt g lb sf sb blk off a b d w eg hless hswap hH hblk hab hb hsz
open Go.RowKit Go.Lib Go.Sort in
/-- sort.partialInsertionSort_func, from a world to a 'sortWorld' of it. (LAID: no walk: one application.) -/
theorem Try.partialInsertionSort_func_w {α : Type} [Inhabited α] (enc : α → Value) (lt : α → α → Bool) (g : Nat) (lb : Array Value) (sf : Nat) (sb : Array Value) (blk off a b : Nat) (d : Array α) (w : World) (eg : ∀ args w, (callFunc g args).run Try.prog w = .ok (.enter g args) w) (hless : LessReads Try.prog g lb enc lt blk off d.size w) (hswap : SwapSwaps Try.prog sf sb enc blk off d.size) (hH : Holds enc w blk off d) (hblk : blk < w.heap.size) (hab : a < b) (hb : b ≤ d.size) (hsz : d.size < 4611686018427387904) :
    Calls Try.prog 103 #[.agg #[.func (.func g) #[] lb, .func (.func sf) #[] sb], .int .i64 a, .int .i64 b] w fun e w' => e = .returned (.bool (Sort.partialInsertionSort lt d a b).2) ∧ ∃ n os, w' = sortWorld enc w blk off n (Sort.partialInsertionSort lt d a b).1 os := Any.partialInsertionSort_func_w Try.laysGg31 enc lt g lb sf sb blk off a b d w eg hless hswap hH hblk hab hb hsz
end Go.Proofs
