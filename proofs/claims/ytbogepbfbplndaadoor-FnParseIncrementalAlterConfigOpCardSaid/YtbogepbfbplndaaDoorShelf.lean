/-
  DERIVED: THE SHELF's CONTRACTS AT THIS DUMP, IN PLAIN WORDS (tools/lay-plain.mjs out of 'YtbogepbfbplndaaDoorShelf.lean', which tools/lay-shelf.mjs wrote): THE SAME DECLARATIONS UNDER THE SAME NAMES: 'import', 'namespace', 'open', 'def', 'theorem' AND NOTHING ELSE: no command of the shelf's: FOR A HAND-IN. Each laying: the table of numbers ('.._ren') and one theorem, a field a fact of the dump's own or the kernel's comparison; each contract: ONE APPLICATION.
-/
import Derived.Shelf.Strings.Builder1
import Derived.Shelf.Strings.Builder2
import Derived.Shelf.Strings.OnBuilder
import Derived.Shelf.Strings.TrimSpace
import Derived.Shelf.Small.Utf8
import Derived.Shelf.Strings.BuilderF
import Derived.Shelf.Strings.BuilderK
import Derived.Shelf.Strings.BuilderRune
import Derived.Ground.MnProg
import Derived.Shelf.Bin.BEUint16
import Derived.Shelf.Bin.BEUint32
import Derived.Shelf.Bin.BEUint64
import Derived.Shelf.Bin.BEUint16Panics
import Derived.Shelf.Bin.BEUint32Panics
import Derived.Shelf.Bin.BEUint64Panics
import Derived.Shelf.Bin.ReadersZ
import Derived.Shelf.GgClosure.StringsIndexFunc
import Derived.Shelf.Unicode.Latin
import Derived.Shelf.Unicode.Decode
import Derived.Shelf.Unicode.DecodeSlow
import Derived.Shelf.Unicode.DecodeAny
import Derived.Shelf.Unicode.Is16White
import Derived.Shelf.Unicode.IsSpaceAny
import Derived.Shelf.Unicode.DecodeLast
import Derived.Shelf.Strings.TrimSpaceAny
import Derived.Shelf.Unicode.CaseLookup
import Derived.Shelf.Unicode.CaseConvert
import Derived.Shelf.Unicode.CaseTo
import Derived.Shelf.Unicode.CaseLaid
import Derived.Shelf.Unicode.Is16Any
import Derived.Shelf.Unicode.Is32Any
import Derived.Shelf.Unicode.ExclAny
import Derived.Test.YtbogepbfbplndaaDoorProg
namespace Go.Proofs
open Go.Shelf
def Tryd.lays169_ren : Go.Shelf.Ren := ⟨fun | 169 => 92 | n => n, fun | 70 => 152 | 9 => 9 | 0 => 0 | 72 => 154 | 37 => 26 | 127 => 179 | 3 => 3 | 5 => 5 | n => n, fun | n => n⟩
theorem Tryd.lays169 : Go.Proofs.Lays.n169 Tryd.prog Tryd.lays169_ren := {
  mixed := by kernel_rfl
  f169 := Tryd.func92.trans (congrArg some (by kernel_rfl))
  t0 := Tryd.underlying0
  a0 := Tryd.isAgg0
  z0 := Tryd.sizeOf0
  v0 := Tryd.zeroValue0
  t3 := Tryd.underlying3
  a3 := Tryd.isAgg3
  z3 := Tryd.sizeOf3
  v3 := Tryd.zeroValue3
  t9 := Tryd.underlying9
  a9 := Tryd.isAgg9
  z9 := Tryd.sizeOf9
  v9 := Tryd.zeroValue9
  t37 := Tryd.underlying26
  a37 := Tryd.isAgg26
  z37 := Tryd.sizeOf26
  v37 := Tryd.zeroValue26
  t70 := Tryd.underlying152
  a70 := Tryd.isAgg152
  z70 := Tryd.sizeOf152
  v70 := Tryd.zeroValue152
  t72 := Tryd.underlying154
  a72 := Tryd.isAgg154
  z72 := Tryd.sizeOf154
  v72 := Tryd.zeroValue154
  t127 := Tryd.underlying179
  a127 := Tryd.isAgg179
  z127 := Tryd.sizeOf179
  v127 := Tryd.zeroValue179 }
theorem Tryd.Builder_Extra_169 : Builder.Extra Tryd.prog Tryd.lays169_ren := {
  sizeBuilder := by kernel_rfl
  liesBuilder := by kernel_rfl
  t5 := Tryd.underlying5
  a5 := Tryd.isAgg5
  z5 := Tryd.sizeOf5
  v5 := Tryd.zeroValue5
  infoByte := by kernel_rfl
  cellsByte := by kernel_rfl
  sizeByte := by kernel_rfl
  neB5 := by decide }
open Go.RowKit in
/-- (*strings.Builder).String: "String returns the accumulated string.": OF A BUILDER THAT HOLDS AT LEAST ONE BYTE. ✋ THE MODEL FREEZES THOSE BYTES IN THE BUFFER (unsafe.String): a later write INTO them ends the model's run without an answer; a later append BEHIND them goes on. The statement's order of evaluation is drawn: one draw. (LAID: no walk: one application.) -/
theorem Tryd.Builder_String (B b : Nat) (l : List UInt8) (w : World) (h : Lib.IsBuilder 154 5 B b (Lib.byteCells l) w) (h0 : l ≠ []) :
    Calls Tryd.prog 92 #[.pointer (some ⟨b, 0, none⟩)] w fun e w' => e = .returned (.string ⟨l.toArray⟩) ∧ Below B w w' := Any.Builder_String Tryd.lays169 Tryd.Builder_Extra_169 B b l w h h0
open Go.RowKit in
/-- (*strings.Builder).String OF A BUILDER THAT HOLDS NO BYTE: the empty string. (Its buffer is nil, or a row of which it has taken nothing yet; where that row has NO capacity the model lays one new block for unsafe.SliceData's 'some address'.) One draw. (LAID: no walk: one application.) -/
theorem Tryd.Builder_String_empty (B b : Nat) (w : World) (h : Lib.IsBuilder 154 5 B b [] w) (hBw : B ≤ w.heap.size) :
    Calls Tryd.prog 92 #[.pointer (some ⟨b, 0, none⟩)] w fun e w' => e = .returned (.string ⟨#[]⟩) ∧ Below B w w' := Any.Builder_String_empty Tryd.lays169 Tryd.Builder_Extra_169 B b w h hBw
open Go.RowKit in
/-- (*strings.Builder).String: "String returns the accumulated string.": WHATEVER THE BUILDER HOLDS. (LAID: no walk: one application.) -/
theorem Tryd.Builder_String_any (B b : Nat) (l : List UInt8) (w : World) (h : Lib.IsBuilder 154 5 B b (Lib.byteCells l) w) (hBw : B ≤ w.heap.size) :
    Calls Tryd.prog 92 #[.pointer (some ⟨b, 0, none⟩)] w fun e w' => e = .returned (.string ⟨l.toArray⟩) ∧ Below B w w' := Any.Builder_String_any Tryd.lays169 Tryd.Builder_Extra_169 B b l w h hBw
def Tryd.lays241_ren : Go.Shelf.Ren := ⟨fun | 241 => 111 | 277 => 134 | n => n, fun | 70 => 152 | 3 => 3 | 0 => 0 | 72 => 154 | 37 => 26 | 5 => 5 | n => n, fun | n => n⟩
theorem Tryd.lays241 : Go.Proofs.Lays.n241 Tryd.prog Tryd.lays241_ren := {
  mixed := by kernel_rfl
  f241 := Tryd.func111.trans (congrArg some (by kernel_rfl))
  f277 := Tryd.func134.trans (congrArg some (by kernel_rfl))
  t0 := Tryd.underlying0
  a0 := Tryd.isAgg0
  z0 := Tryd.sizeOf0
  v0 := Tryd.zeroValue0
  t3 := Tryd.underlying3
  a3 := Tryd.isAgg3
  z3 := Tryd.sizeOf3
  v3 := Tryd.zeroValue3
  t37 := Tryd.underlying26
  a37 := Tryd.isAgg26
  z37 := Tryd.sizeOf26
  v37 := Tryd.zeroValue26
  t70 := Tryd.underlying152
  a70 := Tryd.isAgg152
  z70 := Tryd.sizeOf152
  v70 := Tryd.zeroValue152
  t72 := Tryd.underlying154
  a72 := Tryd.isAgg154
  z72 := Tryd.sizeOf154
  v72 := Tryd.zeroValue154 }
theorem Tryd.Builder_Extra_241 : Builder.Extra Tryd.prog Tryd.lays241_ren := {
  sizeBuilder := by kernel_rfl
  liesBuilder := by kernel_rfl
  t5 := Tryd.underlying5
  a5 := Tryd.isAgg5
  z5 := Tryd.sizeOf5
  v5 := Tryd.zeroValue5
  infoByte := by kernel_rfl
  cellsByte := by kernel_rfl
  sizeByte := by kernel_rfl
  neB5 := by decide }
open Go.RowKit in
/-- (*strings.Builder).grow (no doc but "grow copies the buffer to a new, larger buffer so that there are at least n bytes of capacity beyond len(b.buf)."): AT A BUILDER WITHOUT A BUFFER: a new row of whatever bytes for its buffer, none of them its own yet. Three draws. (LAID: no walk: one application.) -/
theorem Tryd.Builder_grow_fresh (B b n : Nat) (w : World) (hB : B ≤ b) (hbk : w.heap[b]? = some (.cells #[.pointer (some ⟨b, 0, none⟩), .slice none 0 0] 154 (0, 0))) (hBw : B ≤ w.heap.size) (hn : n ≤ 281474976710656) :
    Calls Tryd.prog 111 #[.pointer (some ⟨b, 0, none⟩), .int .i64 n] w fun e w' => e = .returned (.tuple #[]) ∧ (Lib.BuilderAt 154 5 B b (.pointer (some ⟨b, 0, none⟩)) [] w' ∧ Below B w w') := Any.Builder_grow_fresh Tryd.lays241 Tryd.Builder_Extra_241 B b n w hB hbk hBw hn
def Tryd.lays165_ren : Go.Shelf.Ren := ⟨fun | 165 => 89 | 240 => 110 | 241 => 111 | 276 => 133 | 277 => 134 | n => n, fun | 70 => 152 | 3 => 3 | 0 => 0 | 4 => 4 | 9 => 9 | 20 => 20 | 72 => 154 | 37 => 26 | 164 => 199 | 5 => 5 | n => n, fun | n => n⟩
theorem Tryd.lays165 : Go.Proofs.Lays.n165 Tryd.prog Tryd.lays165_ren := {
  mixed := by kernel_rfl
  f165 := Tryd.func89.trans (congrArg some (by kernel_rfl))
  f240 := Tryd.func110.trans (congrArg some (by kernel_rfl))
  f241 := Tryd.func111.trans (congrArg some (by kernel_rfl))
  f276 := Tryd.func133.trans (congrArg some (by kernel_rfl))
  f277 := Tryd.func134.trans (congrArg some (by kernel_rfl))
  t0 := Tryd.underlying0
  a0 := Tryd.isAgg0
  z0 := Tryd.sizeOf0
  v0 := Tryd.zeroValue0
  t3 := Tryd.underlying3
  a3 := Tryd.isAgg3
  z3 := Tryd.sizeOf3
  v3 := Tryd.zeroValue3
  t4 := Tryd.underlying4
  a4 := Tryd.isAgg4
  z4 := Tryd.sizeOf4
  v4 := Tryd.zeroValue4
  t9 := Tryd.underlying9
  a9 := Tryd.isAgg9
  z9 := Tryd.sizeOf9
  v9 := Tryd.zeroValue9
  t20 := Tryd.underlying20
  a20 := Tryd.isAgg20
  z20 := Tryd.sizeOf20
  v20 := Tryd.zeroValue20
  t37 := Tryd.underlying26
  a37 := Tryd.isAgg26
  z37 := Tryd.sizeOf26
  v37 := Tryd.zeroValue26
  t70 := Tryd.underlying152
  a70 := Tryd.isAgg152
  z70 := Tryd.sizeOf152
  v70 := Tryd.zeroValue152
  t72 := Tryd.underlying154
  a72 := Tryd.isAgg154
  z72 := Tryd.sizeOf154
  v72 := Tryd.zeroValue154
  t164 := Tryd.underlying199
  a164 := Tryd.isAgg199
  z164 := Tryd.sizeOf199
  v164 := Tryd.zeroValue199 }
theorem Tryd.Builder_Extra_165 : Builder.Extra Tryd.prog Tryd.lays165_ren := {
  sizeBuilder := by kernel_rfl
  liesBuilder := by kernel_rfl
  t5 := Tryd.underlying5
  a5 := Tryd.isAgg5
  z5 := Tryd.sizeOf5
  v5 := Tryd.zeroValue5
  infoByte := by kernel_rfl
  cellsByte := by kernel_rfl
  sizeByte := by kernel_rfl
  neB5 := by decide }
open Go.RowKit in
/-- (*strings.Builder).Grow AT A BUILDER THAT HAS NOT BEEN WRITTEN ('var b strings.Builder; b.Grow(n)'): "Grow grows b's capacity, if necessary, to guarantee space for another n bytes.": it holds no byte behind it as before it. (LAID: no walk: one application.) -/
theorem Tryd.Builder_Grow_fresh (B b n : Nat) (w : World) (hB : B ≤ b) (hbk : w.heap[b]? = some (.cells #[.pointer none, .slice none 0 0] 154 (0, 0))) (hBw : B ≤ w.heap.size) (hn : n ≤ 281474976710656) :
    Calls Tryd.prog 89 #[.pointer (some ⟨b, 0, none⟩), .int .i64 n] w fun e w' => e = .returned (.tuple #[]) ∧ (Lib.BuilderAt 154 5 B b (.pointer (some ⟨b, 0, none⟩)) [] w' ∧ Below B w w') := Any.Builder_Grow_fresh Tryd.lays165 Tryd.Builder_Extra_165 B b n w hB hbk hBw hn
def Tryd.lays159_ren : Go.Shelf.Ren := ⟨fun | 159 => 66 | 165 => 89 | 166 => 90 | 167 => 91 | 169 => 92 | 230 => 93 | 204 => 94 | 240 => 110 | 241 => 111 | 197 => 109 | 118 => 112 | 168 => 113 | 270 => 114 | 262 => 115 | 276 => 133 | 277 => 134 | 260 => 132 | 242 => 135 | 313 => 136 | 278 => 141 | 274 => 142 | 275 => 143 | n => n, fun | 9 => 9 | 4 => 4 | 3 => 3 | 5 => 5 | 72 => 154 | 0 => 0 | 76 => 155 | 75 => 60 | 107 => 159 | 70 => 152 | 20 => 20 | 37 => 26 | 127 => 179 | 21 => 21 | 105 => 177 | 164 => 199 | 162 => 204 | 203 => 202 | 119 => 151 | 46 => 122 | 139 => 214 | 138 => 213 | 51 => 170 | 160 => 215 | 208 => 224 | 206 => 222 | 80 => 70 | n => n, fun | 13 => 4 | 3 => 5 | 4 => 6 | n => n⟩
theorem Tryd.lays159 : Go.Proofs.Lays.n159 Tryd.prog Tryd.lays159_ren := {
  mixed := by kernel_rfl
  f118 := Tryd.func112.trans (congrArg some (by kernel_rfl))
  f159 := Tryd.func66.trans (congrArg some (by kernel_rfl))
  f165 := Tryd.func89.trans (congrArg some (by kernel_rfl))
  f166 := Tryd.func90.trans (congrArg some (by kernel_rfl))
  f167 := Tryd.func91.trans (congrArg some (by kernel_rfl))
  f168 := Tryd.func113.trans (congrArg some (by kernel_rfl))
  f169 := Tryd.func92.trans (congrArg some (by kernel_rfl))
  f197 := Tryd.func109.trans (congrArg some (by kernel_rfl))
  f204 := Tryd.func94.trans (congrArg some (by kernel_rfl))
  f230 := Tryd.func93.trans (congrArg some (by kernel_rfl))
  f240 := Tryd.func110.trans (congrArg some (by kernel_rfl))
  f241 := Tryd.func111.trans (congrArg some (by kernel_rfl))
  f242 := Tryd.func135.trans (congrArg some (by kernel_rfl))
  f260 := Tryd.func132.trans (congrArg some (by kernel_rfl))
  f262 := Tryd.func115.trans (congrArg some (by kernel_rfl))
  f270 := Tryd.func114.trans (congrArg some (by kernel_rfl))
  f274 := Tryd.func142.trans (congrArg some (by kernel_rfl))
  f275 := Tryd.func143.trans (congrArg some (by kernel_rfl))
  f276 := Tryd.func133.trans (congrArg some (by kernel_rfl))
  f277 := Tryd.func134.trans (congrArg some (by kernel_rfl))
  f278 := Tryd.func141.trans (congrArg some (by kernel_rfl))
  f313 := Tryd.func136.trans (congrArg some (by kernel_rfl))
  t0 := Tryd.underlying0
  a0 := Tryd.isAgg0
  z0 := Tryd.sizeOf0
  v0 := Tryd.zeroValue0
  t3 := Tryd.underlying3
  a3 := Tryd.isAgg3
  z3 := Tryd.sizeOf3
  v3 := Tryd.zeroValue3
  t4 := Tryd.underlying4
  a4 := Tryd.isAgg4
  z4 := Tryd.sizeOf4
  v4 := Tryd.zeroValue4
  t5 := Tryd.underlying5
  a5 := Tryd.isAgg5
  z5 := Tryd.sizeOf5
  v5 := Tryd.zeroValue5
  t9 := Tryd.underlying9
  a9 := Tryd.isAgg9
  z9 := Tryd.sizeOf9
  v9 := Tryd.zeroValue9
  t20 := Tryd.underlying20
  a20 := Tryd.isAgg20
  z20 := Tryd.sizeOf20
  v20 := Tryd.zeroValue20
  t21 := Tryd.underlying21
  a21 := Tryd.isAgg21
  z21 := Tryd.sizeOf21
  v21 := Tryd.zeroValue21
  t37 := Tryd.underlying26
  a37 := Tryd.isAgg26
  z37 := Tryd.sizeOf26
  v37 := Tryd.zeroValue26
  t46 := Tryd.underlying122
  a46 := Tryd.isAgg122
  z46 := Tryd.sizeOf122
  v46 := Tryd.zeroValue122
  t51 := Tryd.underlying170
  a51 := Tryd.isAgg170
  z51 := Tryd.sizeOf170
  v51 := Tryd.zeroValue170
  t70 := Tryd.underlying152
  a70 := Tryd.isAgg152
  z70 := Tryd.sizeOf152
  v70 := Tryd.zeroValue152
  t72 := Tryd.underlying154
  a72 := Tryd.isAgg154
  z72 := Tryd.sizeOf154
  v72 := Tryd.zeroValue154
  t75 := Tryd.underlying60
  a75 := Tryd.isAgg60
  z75 := Tryd.sizeOf60
  v75 := Tryd.zeroValue60
  t76 := Tryd.underlying155
  a76 := Tryd.isAgg155
  z76 := Tryd.sizeOf155
  v76 := Tryd.zeroValue155
  t105 := Tryd.underlying177
  a105 := Tryd.isAgg177
  z105 := Tryd.sizeOf177
  v105 := Tryd.zeroValue177
  t107 := Tryd.underlying159
  a107 := Tryd.isAgg159
  z107 := Tryd.sizeOf159
  v107 := Tryd.zeroValue159
  t119 := Tryd.underlying151
  a119 := Tryd.isAgg151
  z119 := Tryd.sizeOf151
  t127 := Tryd.underlying179
  a127 := Tryd.isAgg179
  z127 := Tryd.sizeOf179
  v127 := Tryd.zeroValue179
  t138 := Tryd.underlying213
  a138 := Tryd.isAgg213
  z138 := Tryd.sizeOf213
  v138 := Tryd.zeroValue213
  t139 := Tryd.underlying214
  a139 := Tryd.isAgg214
  z139 := Tryd.sizeOf214
  v139 := Tryd.zeroValue214
  t160 := Tryd.underlying215
  a160 := Tryd.isAgg215
  z160 := Tryd.sizeOf215
  v160 := Tryd.zeroValue215
  t162 := Tryd.underlying204
  a162 := Tryd.isAgg204
  z162 := Tryd.sizeOf204
  v162 := Tryd.zeroValue204
  t164 := Tryd.underlying199
  a164 := Tryd.isAgg199
  z164 := Tryd.sizeOf199
  v164 := Tryd.zeroValue199
  t203 := Tryd.underlying202
  a203 := Tryd.isAgg202
  z203 := Tryd.sizeOf202
  v203 := Tryd.zeroValue202
  t206 := Tryd.underlying222
  a206 := Tryd.isAgg222
  z206 := Tryd.sizeOf222
  v206 := Tryd.zeroValue222
  t208 := Tryd.underlying224
  a208 := Tryd.isAgg224
  z208 := Tryd.sizeOf224
  v208 := Tryd.zeroValue224
  g3 := by kernel_rfl
  g4 := by kernel_rfl
  g13 := by kernel_rfl }
theorem Tryd.Builder_Extra_159 : Builder.Extra Tryd.prog Tryd.lays159_ren := {
  sizeBuilder := by kernel_rfl
  liesBuilder := by kernel_rfl
  t5 := Tryd.underlying5
  a5 := Tryd.isAgg5
  z5 := Tryd.sizeOf5
  v5 := Tryd.zeroValue5
  infoByte := by kernel_rfl
  cellsByte := by kernel_rfl
  sizeByte := by kernel_rfl
  neB5 := by decide }
open Go.RowKit in
/-- strings.ToLower: "ToLower returns s with all Unicode letters mapped to their lower case.": ON ASCII TEXT OF AT MOST 2^47 BYTES. Below the heap's end the world is as it was: where a letter turns, the call makes a builder and its buffer. (LAID: no walk: one application.) -/
theorem Tryd.strings_ToLower_ascii (s : ByteArray) (w : World) (hs : s.size ≤ 140737488355328) (hascii : ∀ (j : Nat) (b : UInt8), s.data.toList[j]? = some b → b.toNat < 128) :
    Calls Tryd.prog 66 #[.string s] w fun e w' => e = .returned (.string ⟨(Lib.toLowerA s.data.toList).toArray⟩) ∧ Below w.heap.size w w' := Any.strings_ToLower_ascii Tryd.lays159 Tryd.Builder_Extra_159 s w hs hascii
def Tryd.lays163_ren : Go.Shelf.Ren := ⟨fun | 163 => 65 | 237 => 86 | 199 => 87 | 238 => 88 | 272 => 106 | 261 => 107 | 273 => 108 | 197 => 109 | 315 => 128 | 311 => 129 | 312 => 130 | 271 => 131 | 260 => 132 | 120 => 140 | n => n, fun | 9 => 9 | 37 => 26 | 3 => 3 | 0 => 0 | 5 => 5 | 4 => 4 | 40 => 150 | 119 => 151 | 21 => 21 | 51 => 170 | 141 => 175 | 105 => 177 | 196 => 192 | 193 => 189 | 198 => 194 | 49 => 187 | 194 => 190 | 201 => 197 | 226 => 210 | 46 => 122 | 227 => 211 | 139 => 214 | 138 => 213 | n => n, fun | 0 => 0 | 6 => 3 | 3 => 5 | 4 => 6 | n => n⟩
theorem Tryd.lays163 : Go.Proofs.Lays.n163 Tryd.prog Tryd.lays163_ren := {
  mixed := by kernel_rfl
  f120 := Tryd.func140.trans (congrArg some (by kernel_rfl))
  f163 := Tryd.func65.trans (congrArg some (by kernel_rfl))
  f197 := Tryd.func109.trans (congrArg some (by kernel_rfl))
  f199 := Tryd.func87.trans (congrArg some (by kernel_rfl))
  f237 := Tryd.func86.trans (congrArg some (by kernel_rfl))
  f238 := Tryd.func88.trans (congrArg some (by kernel_rfl))
  f260 := Tryd.func132.trans (congrArg some (by kernel_rfl))
  f261 := Tryd.func107.trans (congrArg some (by kernel_rfl))
  f271 := Tryd.func131.trans (congrArg some (by kernel_rfl))
  f272 := Tryd.func106.trans (congrArg some (by kernel_rfl))
  f273 := Tryd.func108.trans (congrArg some (by kernel_rfl))
  f311 := Tryd.func129.trans (congrArg some (by kernel_rfl))
  f312 := Tryd.func130.trans (congrArg some (by kernel_rfl))
  f315 := Tryd.func128.trans (congrArg some (by kernel_rfl))
  t0 := Tryd.underlying0
  a0 := Tryd.isAgg0
  z0 := Tryd.sizeOf0
  v0 := Tryd.zeroValue0
  t3 := Tryd.underlying3
  a3 := Tryd.isAgg3
  z3 := Tryd.sizeOf3
  v3 := Tryd.zeroValue3
  t4 := Tryd.underlying4
  a4 := Tryd.isAgg4
  z4 := Tryd.sizeOf4
  v4 := Tryd.zeroValue4
  t5 := Tryd.underlying5
  a5 := Tryd.isAgg5
  z5 := Tryd.sizeOf5
  v5 := Tryd.zeroValue5
  t9 := Tryd.underlying9
  a9 := Tryd.isAgg9
  z9 := Tryd.sizeOf9
  v9 := Tryd.zeroValue9
  t21 := Tryd.underlying21
  a21 := Tryd.isAgg21
  z21 := Tryd.sizeOf21
  v21 := Tryd.zeroValue21
  t37 := Tryd.underlying26
  a37 := Tryd.isAgg26
  z37 := Tryd.sizeOf26
  v37 := Tryd.zeroValue26
  t40 := Tryd.underlying150
  a40 := Tryd.isAgg150
  z40 := Tryd.sizeOf150
  v40 := Tryd.zeroValue150
  t46 := Tryd.underlying122
  a46 := Tryd.isAgg122
  z46 := Tryd.sizeOf122
  v46 := Tryd.zeroValue122
  t49 := Tryd.underlying187
  a49 := Tryd.isAgg187
  z49 := Tryd.sizeOf187
  v49 := Tryd.zeroValue187
  t51 := Tryd.underlying170
  a51 := Tryd.isAgg170
  z51 := Tryd.sizeOf170
  v51 := Tryd.zeroValue170
  t105 := Tryd.underlying177
  a105 := Tryd.isAgg177
  z105 := Tryd.sizeOf177
  v105 := Tryd.zeroValue177
  t119 := Tryd.underlying151
  a119 := Tryd.isAgg151
  z119 := Tryd.sizeOf151
  t138 := Tryd.underlying213
  a138 := Tryd.isAgg213
  z138 := Tryd.sizeOf213
  v138 := Tryd.zeroValue213
  t139 := Tryd.underlying214
  a139 := Tryd.isAgg214
  z139 := Tryd.sizeOf214
  v139 := Tryd.zeroValue214
  t141 := Tryd.underlying175
  a141 := Tryd.isAgg175
  z141 := Tryd.sizeOf175
  v141 := Tryd.zeroValue175
  t193 := Tryd.underlying189
  a193 := Tryd.isAgg189
  z193 := Tryd.sizeOf189
  v193 := Tryd.zeroValue189
  t194 := Tryd.underlying190
  a194 := Tryd.isAgg190
  z194 := Tryd.sizeOf190
  v194 := Tryd.zeroValue190
  t196 := Tryd.underlying192
  a196 := Tryd.isAgg192
  z196 := Tryd.sizeOf192
  v196 := Tryd.zeroValue192
  t198 := Tryd.underlying194
  a198 := Tryd.isAgg194
  z198 := Tryd.sizeOf194
  v198 := Tryd.zeroValue194
  t201 := Tryd.underlying197
  a201 := Tryd.isAgg197
  z201 := Tryd.sizeOf197
  v201 := Tryd.zeroValue197
  t226 := Tryd.underlying210
  a226 := Tryd.isAgg210
  z226 := Tryd.sizeOf210
  v226 := Tryd.zeroValue210
  t227 := Tryd.underlying211
  a227 := Tryd.isAgg211
  z227 := Tryd.sizeOf211
  v227 := Tryd.zeroValue211
  g0 := by kernel_rfl
  g3 := by kernel_rfl
  g4 := by kernel_rfl
  g6 := by kernel_rfl }
theorem Tryd.Space_Extra_163 : Space.Extra Tryd.prog Tryd.lays163_ren := {
  gNamed := by kernel_rfl }
open Go.RowKit in
theorem Tryd.strings_TrimSpace (s : ByteArray) (w : World) (hs : s.size ≤ 9223372036854775807) (hascii : ∀ (j : Nat) b, s.data.toList[j]? = some b → b.toNat < 128) (htab : Lib.TabIs Tryd.prog w "strings.asciiSpace" .u8 Lib.asciiSpaceTab) :
    Calls Tryd.prog 65 #[.string s] w fun e w' => e = .returned (.string ⟨(Lib.trimSpace s.data.toList).toArray⟩) ∧ w' = Lib.bytesWorld w 5 s := Any.strings_TrimSpace Tryd.lays163 Tryd.Space_Extra_163 s w hs hascii htab
def Tryd.lays118_ren : Go.Shelf.Ren := ⟨fun | 118 => 112 | n => n, fun | 21 => 21 | 3 => 3 | 4 => 4 | n => n, fun | n => n⟩
theorem Tryd.lays118 : Go.Proofs.Lays.n118 Tryd.prog Tryd.lays118_ren := {
  mixed := by kernel_rfl
  f118 := Tryd.func112.trans (congrArg some (by kernel_rfl))
  t3 := Tryd.underlying3
  a3 := Tryd.isAgg3
  z3 := Tryd.sizeOf3
  v3 := Tryd.zeroValue3
  t4 := Tryd.underlying4
  a4 := Tryd.isAgg4
  z4 := Tryd.sizeOf4
  v4 := Tryd.zeroValue4
  t21 := Tryd.underlying21
  a21 := Tryd.isAgg21
  z21 := Tryd.sizeOf21
  v21 := Tryd.zeroValue21 }
/-- utf8.RuneLen: "RuneLen returns the number of bytes in the UTF-8 encoding of the rune. It returns -1 if the rune is not a valid value to encode in UTF-8.": IT RETURNS 'Lib.runeLen r'; the world is as it was. (LAID: no walk: one application.) -/
theorem Tryd.utf8_RuneLen (r : Int) (w : World) :
    Calls Tryd.prog 112 #[.int .i32 r] w fun e w' => e = .returned (.int .i64 (Lib.runeLen r)) ∧ w' = w := Any.utf8_RuneLen Tryd.lays118 r w
def Tryd.lays120_ren : Go.Shelf.Ren := ⟨fun | 120 => 140 | n => n, fun | 5 => 5 | 4 => 4 | n => n, fun | n => n⟩
theorem Tryd.lays120 : Go.Proofs.Lays.n120 Tryd.prog Tryd.lays120_ren := {
  mixed := by kernel_rfl
  f120 := Tryd.func140.trans (congrArg some (by kernel_rfl))
  t4 := Tryd.underlying4
  a4 := Tryd.isAgg4
  z4 := Tryd.sizeOf4
  v4 := Tryd.zeroValue4
  t5 := Tryd.underlying5
  a5 := Tryd.isAgg5
  z5 := Tryd.sizeOf5
  v5 := Tryd.zeroValue5 }
/-- utf8.RuneStart: "RuneStart reports whether the byte could be the first byte of an encoded, possibly invalid rune. Second and subsequent bytes always have the top two bits set to 10.": IT RETURNS 'Lib.runeStart b'; the world is as it was. ('h0', 'h1': b is a byte: a caller has it of every byte that it was handed.) (LAID: no walk: one application.) -/
theorem Tryd.utf8_RuneStart (b : Int) (w : World) (h0 : 0 ≤ b) (h1 : b < 256) :
    Calls Tryd.prog 140 #[.int .u8 b] w fun e w' => e = .returned (.bool (Lib.runeStart b)) ∧ w' = w := Any.utf8_RuneStart Tryd.lays120 b w h0 h1
open Go.RowKit in
/-- (*strings.Builder).String: "String returns the accumulated string.": OF A BUILDER THAT HOLDS AT LEAST ONE BYTE. ✋ THE MODEL FREEZES THOSE BYTES IN THE BUFFER (unsafe.String): a later write INTO them ends the model's run without an answer; a later append BEHIND them goes on. The statement's order of evaluation is drawn: one draw. THE FORM '_f': IT SAYS BESIDES THAT THE BUILDER IS A BUILDER STILL ('Lib.IsBuilderF', the same bytes): SO IT CAN BE WRITTEN ON: 'b.WriteString(b.String()[:k])'. (LAID: no walk: one application.) -/
theorem Tryd.Builder_String_f (B b : Nat) (l : List UInt8) (w : World) (h : Lib.IsBuilderF 154 5 B b (Lib.byteCells l) w) (h0 : l ≠ []) :
    Calls Tryd.prog 92 #[.pointer (some ⟨b, 0, none⟩)] w fun e w' => e = .returned (.string ⟨l.toArray⟩) ∧ (Lib.IsBuilderF 154 5 B b (Lib.byteCells l) w' ∧ Below B w w') := Any.Builder_String_f Tryd.lays169 Tryd.Builder_Extra_169 B b l w h h0
open Go.RowKit in
/-- (*strings.Builder).String OF A BUILDER THAT HOLDS NO BYTE: the empty string; THE FORM '_f': a builder still. (LAID: no walk: one application.) -/
theorem Tryd.Builder_String_empty_f (B b : Nat) (w : World) (h : Lib.IsBuilderF 154 5 B b [] w) (hBw : B ≤ w.heap.size) :
    Calls Tryd.prog 92 #[.pointer (some ⟨b, 0, none⟩)] w fun e w' => e = .returned (.string ⟨#[]⟩) ∧ (Lib.IsBuilderF 154 5 B b [] w' ∧ Below B w w') := Any.Builder_String_empty_f Tryd.lays169 Tryd.Builder_Extra_169 B b w h hBw
open Go.RowKit in
/-- (*strings.Builder).String: "String returns the accumulated string.": WHATEVER THE BUILDER HOLDS; THE FORM '_f': OF A BUILDER THAT MAY HAVE BEEN READ BEFORE; AND IT IS A BUILDER STILL, holding the same bytes: it can be written on. (LAID: no walk: one application.) -/
theorem Tryd.Builder_String_any_f (B b : Nat) (l : List UInt8) (w : World) (h : Lib.IsBuilderF 154 5 B b (Lib.byteCells l) w) (hBw : B ≤ w.heap.size) :
    Calls Tryd.prog 92 #[.pointer (some ⟨b, 0, none⟩)] w fun e w' => e = .returned (.string ⟨l.toArray⟩) ∧ (Lib.IsBuilderF 154 5 B b (Lib.byteCells l) w' ∧ Below B w w') := Any.Builder_String_any_f Tryd.lays169 Tryd.Builder_Extra_169 B b l w h hBw
open Go.RowKit in
/-- (*strings.Builder).String: "String returns the accumulated string.": OF A BUILDER THAT HOLDS AT LEAST ONE BYTE. ✋ THE MODEL FREEZES THOSE BYTES IN THE BUFFER (unsafe.String): a later write INTO them ends the model's run without an answer; a later append BEHIND them goes on. The statement's order of evaluation is drawn: one draw. THE FORM '_k': OVER 'Lib.IsBuilderF' (a builder that 'String()' may have read), AND WITH THE FRAME THAT REACHES ABOVE THE BUILDER: 'Lib.OthersKept': every block that is not b and is no row of uint8's stands as it stood: the iterator of a range among them. (LAID: no walk: one application.) -/
theorem Tryd.Builder_String_k (B b : Nat) (l : List UInt8) (w : World) (h : Lib.IsBuilderF 154 5 B b (Lib.byteCells l) w) (h0 : l ≠ []) :
    Calls Tryd.prog 92 #[.pointer (some ⟨b, 0, none⟩)] w fun e w' => e = .returned (.string ⟨l.toArray⟩) ∧ (Lib.IsBuilderF 154 5 B b (Lib.byteCells l) w' ∧ Below B w w' ∧ Lib.OthersKept 5 (some b) w w') := Any.Builder_String_k Tryd.lays169 Tryd.Builder_Extra_169 B b l w h h0
open Go.RowKit in
/-- (*strings.Builder).String OF A BUILDER THAT HOLDS NO BYTE: the empty string; THE FORM '_k': OVER 'Lib.IsBuilderF' (a builder that 'String()' may have read), AND WITH THE FRAME THAT REACHES ABOVE THE BUILDER: 'Lib.OthersKept': every block that is not b and is no row of uint8's stands as it stood: the iterator of a range among them. (LAID: no walk: one application.) -/
theorem Tryd.Builder_String_empty_k (B b : Nat) (w : World) (h : Lib.IsBuilderF 154 5 B b [] w) (hBw : B ≤ w.heap.size) :
    Calls Tryd.prog 92 #[.pointer (some ⟨b, 0, none⟩)] w fun e w' => e = .returned (.string ⟨#[]⟩) ∧ (Lib.IsBuilderF 154 5 B b [] w' ∧ Below B w w' ∧ Lib.OthersKept 5 (some b) w w') := Any.Builder_String_empty_k Tryd.lays169 Tryd.Builder_Extra_169 B b w h hBw
open Go.RowKit in
/-- (*strings.Builder).String: "String returns the accumulated string.": WHATEVER THE BUILDER HOLDS; THE FORM '_k': OVER 'Lib.IsBuilderF' (a builder that 'String()' may have read), AND WITH THE FRAME THAT REACHES ABOVE THE BUILDER: 'Lib.OthersKept': every block that is not b and is no row of uint8's stands as it stood: the iterator of a range among them. (LAID: no walk: one application.) -/
theorem Tryd.Builder_String_any_k (B b : Nat) (l : List UInt8) (w : World) (h : Lib.IsBuilderF 154 5 B b (Lib.byteCells l) w) (hBw : B ≤ w.heap.size) :
    Calls Tryd.prog 92 #[.pointer (some ⟨b, 0, none⟩)] w fun e w' => e = .returned (.string ⟨l.toArray⟩) ∧ (Lib.IsBuilderF 154 5 B b (Lib.byteCells l) w' ∧ Below B w w' ∧ Lib.OthersKept 5 (some b) w w') := Any.Builder_String_any_k Tryd.lays169 Tryd.Builder_Extra_169 B b l w h hBw
def Tryd.laysBin36_ren : Go.Shelf.Ren := ⟨fun | 36 => 127 | n => n, fun | 37 => 172 | 22 => 26 | 23 => 187 | 0 => 0 | 5 => 5 | 45 => 122 | n => n, fun | n => n⟩
theorem Tryd.laysBin36 : Go.Proofs.LaysBin.n36 Tryd.prog Tryd.laysBin36_ren := {
  mixed := by kernel_rfl
  f36 := Tryd.func127.trans (congrArg some (by kernel_rfl))
  t0 := Tryd.underlying0
  a0 := Tryd.isAgg0
  z0 := Tryd.sizeOf0
  v0 := Tryd.zeroValue0
  i0 := by kernel_rfl
  t5 := Tryd.underlying5
  a5 := Tryd.isAgg5
  z5 := Tryd.sizeOf5
  v5 := Tryd.zeroValue5
  i5 := by kernel_rfl
  t22 := Tryd.underlying26
  a22 := Tryd.isAgg26
  z22 := Tryd.sizeOf26
  v22 := Tryd.zeroValue26
  i22 := by kernel_rfl
  t23 := Tryd.underlying187
  a23 := Tryd.isAgg187
  z23 := Tryd.sizeOf187
  v23 := Tryd.zeroValue187
  i23 := by kernel_rfl
  t37 := Tryd.underlying172
  a37 := Tryd.isAgg172
  z37 := Tryd.sizeOf172
  v37 := Tryd.zeroValue172
  i37 := by kernel_rfl
  t45 := Tryd.underlying122
  a45 := Tryd.isAgg122
  z45 := Tryd.sizeOf122
  v45 := Tryd.zeroValue122
  i45 := by kernel_rfl }
open Go.RowKit in
/-- binary.BigEndian.Uint16: "Uint16 returns the uint16 representation of b[0:2].": THE NUMBER THAT THE FIRST 2 BYTES SPELL, the greatest byte first ('Lib.beNat'). Of what was there nothing has turned (the receiver, an empty struct, is laid in a new block without cells; the statement's order is drawn). (LAID: no walk: one application.) -/
theorem Tryd.binary_BE_Uint16 (g o n c : Nat) (b0 b1 : UInt8) (w : World) (hn : 2 ≤ n) (c0 : w.cell? ⟨g, o, none⟩ = some (.int .u8 b0.toNat)) (c1 : w.cell? ⟨g, o + 1, none⟩ = some (.int .u8 b1.toNat)) :
    Calls Tryd.prog 127 #[.agg #[], .slice (some ⟨g, o, none⟩) n c] w fun e w' => e = .returned (.int .u16 (Lib.beNat [b0, b1])) ∧ Below w.heap.size w w' := Any.binary_BE_Uint16 Tryd.laysBin36 g o n c b0 b1 w hn c0 c1
def Tryd.laysBin39_ren : Go.Shelf.Ren := ⟨fun | 39 => 105 | n => n, fun | 37 => 172 | 22 => 26 | 29 => 170 | 0 => 0 | 5 => 5 | 45 => 122 | n => n, fun | n => n⟩
theorem Tryd.laysBin39 : Go.Proofs.LaysBin.n39 Tryd.prog Tryd.laysBin39_ren := {
  mixed := by kernel_rfl
  f39 := Tryd.func105.trans (congrArg some (by kernel_rfl))
  t0 := Tryd.underlying0
  a0 := Tryd.isAgg0
  z0 := Tryd.sizeOf0
  v0 := Tryd.zeroValue0
  i0 := by kernel_rfl
  t5 := Tryd.underlying5
  a5 := Tryd.isAgg5
  z5 := Tryd.sizeOf5
  v5 := Tryd.zeroValue5
  i5 := by kernel_rfl
  t22 := Tryd.underlying26
  a22 := Tryd.isAgg26
  z22 := Tryd.sizeOf26
  v22 := Tryd.zeroValue26
  i22 := by kernel_rfl
  t29 := Tryd.underlying170
  a29 := Tryd.isAgg170
  z29 := Tryd.sizeOf170
  v29 := Tryd.zeroValue170
  i29 := by kernel_rfl
  t37 := Tryd.underlying172
  a37 := Tryd.isAgg172
  z37 := Tryd.sizeOf172
  v37 := Tryd.zeroValue172
  i37 := by kernel_rfl
  t45 := Tryd.underlying122
  a45 := Tryd.isAgg122
  z45 := Tryd.sizeOf122
  v45 := Tryd.zeroValue122
  i45 := by kernel_rfl }
open Go.RowKit in
/-- binary.BigEndian.Uint32: "Uint32 returns the uint32 representation of b[0:4].": THE NUMBER THAT THE FIRST 4 BYTES SPELL, the greatest byte first ('Lib.beNat'). Of what was there nothing has turned (the receiver, an empty struct, is laid in a new block without cells; the statement's order is drawn). (LAID: no walk: one application.) -/
theorem Tryd.binary_BE_Uint32 (g o n c : Nat) (b0 b1 b2 b3 : UInt8) (w : World) (hn : 4 ≤ n) (c0 : w.cell? ⟨g, o, none⟩ = some (.int .u8 b0.toNat)) (c1 : w.cell? ⟨g, o + 1, none⟩ = some (.int .u8 b1.toNat)) (c2 : w.cell? ⟨g, o + 2, none⟩ = some (.int .u8 b2.toNat)) (c3 : w.cell? ⟨g, o + 3, none⟩ = some (.int .u8 b3.toNat)) :
    Calls Tryd.prog 105 #[.agg #[], .slice (some ⟨g, o, none⟩) n c] w fun e w' => e = .returned (.int .u32 (Lib.beNat [b0, b1, b2, b3])) ∧ Below w.heap.size w w' := Any.binary_BE_Uint32 Tryd.laysBin39 g o n c b0 b1 b2 b3 w hn c0 c1 c2 c3
def Tryd.laysBin42_ren : Go.Shelf.Ren := ⟨fun | 42 => 144 | n => n, fun | 37 => 172 | 22 => 26 | 33 => 160 | 0 => 0 | 5 => 5 | 45 => 122 | n => n, fun | n => n⟩
theorem Tryd.laysBin42 : Go.Proofs.LaysBin.n42 Tryd.prog Tryd.laysBin42_ren := {
  mixed := by kernel_rfl
  f42 := Tryd.func144.trans (congrArg some (by kernel_rfl))
  t0 := Tryd.underlying0
  a0 := Tryd.isAgg0
  z0 := Tryd.sizeOf0
  v0 := Tryd.zeroValue0
  i0 := by kernel_rfl
  t5 := Tryd.underlying5
  a5 := Tryd.isAgg5
  z5 := Tryd.sizeOf5
  v5 := Tryd.zeroValue5
  i5 := by kernel_rfl
  t22 := Tryd.underlying26
  a22 := Tryd.isAgg26
  z22 := Tryd.sizeOf26
  v22 := Tryd.zeroValue26
  i22 := by kernel_rfl
  t33 := Tryd.underlying160
  a33 := Tryd.isAgg160
  z33 := Tryd.sizeOf160
  v33 := Tryd.zeroValue160
  i33 := by kernel_rfl
  t37 := Tryd.underlying172
  a37 := Tryd.isAgg172
  z37 := Tryd.sizeOf172
  v37 := Tryd.zeroValue172
  i37 := by kernel_rfl
  t45 := Tryd.underlying122
  a45 := Tryd.isAgg122
  z45 := Tryd.sizeOf122
  v45 := Tryd.zeroValue122
  i45 := by kernel_rfl }
open Go.RowKit in
/-- binary.BigEndian.Uint64: "Uint64 returns the uint64 representation of b[0:8].": THE NUMBER THAT THE FIRST 8 BYTES SPELL, the greatest byte first ('Lib.beNat'). Of what was there nothing has turned (the receiver, an empty struct, is laid in a new block without cells; the statement's order is drawn). (LAID: no walk: one application.) -/
theorem Tryd.binary_BE_Uint64 (g o n c : Nat) (b0 b1 b2 b3 b4 b5 b6 b7 : UInt8) (w : World) (hn : 8 ≤ n) (c0 : w.cell? ⟨g, o, none⟩ = some (.int .u8 b0.toNat)) (c1 : w.cell? ⟨g, o + 1, none⟩ = some (.int .u8 b1.toNat)) (c2 : w.cell? ⟨g, o + 2, none⟩ = some (.int .u8 b2.toNat)) (c3 : w.cell? ⟨g, o + 3, none⟩ = some (.int .u8 b3.toNat)) (c4 : w.cell? ⟨g, o + 4, none⟩ = some (.int .u8 b4.toNat)) (c5 : w.cell? ⟨g, o + 5, none⟩ = some (.int .u8 b5.toNat)) (c6 : w.cell? ⟨g, o + 6, none⟩ = some (.int .u8 b6.toNat)) (c7 : w.cell? ⟨g, o + 7, none⟩ = some (.int .u8 b7.toNat)) :
    Calls Tryd.prog 144 #[.agg #[], .slice (some ⟨g, o, none⟩) n c] w fun e w' => e = .returned (.int .u64 (Lib.beNat [b0, b1, b2, b3, b4, b5, b6, b7])) ∧ Below w.heap.size w w' := Any.binary_BE_Uint64 Tryd.laysBin42 g o n c b0 b1 b2 b3 b4 b5 b6 b7 w hn c0 c1 c2 c3 c4 c5 c6 c7
open Go.RowKit in
/-- binary.BigEndian.Uint16, b SHORTER THAN 2: IT PANICS: Go's 'runtime error: index out of range [1] with length n' ('Lib.boundsPanicked'). THE WORLD: the receiver's new block without cells, and the draw of the panic's flag. (LAID: no walk: one application.) -/
theorem Tryd.binary_BE_Uint16_panics (ao : Option Addr) (n c : Nat) (w : World) (hn : n < 2) (hnil : ao = none → n = 0) :
    Calls Tryd.prog 127 #[.agg #[], .slice ao n c] w fun e w' => Lib.boundsPanicked Tryd.prog 1 n e ∧ w' = (w.alloc (.cells #[] 172)).drew := Any.binary_BE_Uint16_panics Tryd.laysBin36 ao n c w hn hnil
open Go.RowKit in
/-- binary.BigEndian.Uint32, b SHORTER THAN 4: IT PANICS: Go's 'runtime error: index out of range [3] with length n' ('Lib.boundsPanicked'). THE WORLD: the receiver's new block without cells, and the draw of the panic's flag. (LAID: no walk: one application.) -/
theorem Tryd.binary_BE_Uint32_panics (ao : Option Addr) (n c : Nat) (w : World) (hn : n < 4) (hnil : ao = none → n = 0) :
    Calls Tryd.prog 105 #[.agg #[], .slice ao n c] w fun e w' => Lib.boundsPanicked Tryd.prog 3 n e ∧ w' = (w.alloc (.cells #[] 172)).drew := Any.binary_BE_Uint32_panics Tryd.laysBin39 ao n c w hn hnil
open Go.RowKit in
/-- binary.BigEndian.Uint64, b SHORTER THAN 8: IT PANICS: Go's 'runtime error: index out of range [7] with length n' ('Lib.boundsPanicked'). THE WORLD: the receiver's new block without cells, and the draw of the panic's flag. (LAID: no walk: one application.) -/
theorem Tryd.binary_BE_Uint64_panics (ao : Option Addr) (n c : Nat) (w : World) (hn : n < 8) (hnil : ao = none → n = 0) :
    Calls Tryd.prog 144 #[.agg #[], .slice ao n c] w fun e w' => Lib.boundsPanicked Tryd.prog 7 n e ∧ w' = (w.alloc (.cells #[] 172)).drew := Any.binary_BE_Uint64_panics Tryd.laysBin42 ao n c w hn hnil
open Go.RowKit in
/-- binary.BigEndian.Uint16, ITS PREMISES 'open_ints'' CONCLUSION TO THE LETTER: a slice at WHATEVER address a, the numbers zs that its cells hold: THE NUMBER THAT THE FIRST 2 SPELL ('Lib.beZ'). (LAID: no walk: one application.) -/
theorem Tryd.binary_BE_Uint16_z (a : Addr) (n c : Nat) (zs : List Int) (w : World) (hn : 2 ≤ n) (hl : 2 ≤ zs.length) (hcell : ∀ i, i < zs.length → w.cell? (a.add i) = some (.int .u8 (zs.getD i 0))) (hw : ∀ z ∈ zs, (Lit.int .u8 z).wf = true) :
    Calls Tryd.prog 127 #[.agg #[], .slice (some a) n c] w fun e w' => e = .returned (.int .u16 (Lib.beZ (zs.take 2))) ∧ Below w.heap.size w w' := Any.binary_BE_Uint16_z Tryd.laysBin36 a n c zs w hn hl hcell hw
open Go.RowKit in
/-- binary.BigEndian.Uint32, ITS PREMISES 'open_ints'' CONCLUSION TO THE LETTER: a slice at WHATEVER address a, the numbers zs that its cells hold: THE NUMBER THAT THE FIRST 4 SPELL ('Lib.beZ'). (LAID: no walk: one application.) -/
theorem Tryd.binary_BE_Uint32_z (a : Addr) (n c : Nat) (zs : List Int) (w : World) (hn : 4 ≤ n) (hl : 4 ≤ zs.length) (hcell : ∀ i, i < zs.length → w.cell? (a.add i) = some (.int .u8 (zs.getD i 0))) (hw : ∀ z ∈ zs, (Lit.int .u8 z).wf = true) :
    Calls Tryd.prog 105 #[.agg #[], .slice (some a) n c] w fun e w' => e = .returned (.int .u32 (Lib.beZ (zs.take 4))) ∧ Below w.heap.size w w' := Any.binary_BE_Uint32_z Tryd.laysBin39 a n c zs w hn hl hcell hw
open Go.RowKit in
/-- binary.BigEndian.Uint64, ITS PREMISES 'open_ints'' CONCLUSION TO THE LETTER: a slice at WHATEVER address a, the numbers zs that its cells hold: THE NUMBER THAT THE FIRST 8 SPELL ('Lib.beZ'). (LAID: no walk: one application.) -/
theorem Tryd.binary_BE_Uint64_z (a : Addr) (n c : Nat) (zs : List Int) (w : World) (hn : 8 ≤ n) (hl : 8 ≤ zs.length) (hcell : ∀ i, i < zs.length → w.cell? (a.add i) = some (.int .u8 (zs.getD i 0))) (hw : ∀ z ∈ zs, (Lit.int .u8 z).wf = true) :
    Calls Tryd.prog 144 #[.agg #[], .slice (some a) n c] w fun e w' => e = .returned (.int .u64 (Lib.beZ (zs.take 8))) ∧ Below w.heap.size w w' := Any.binary_BE_Uint64_z Tryd.laysBin42 a n c zs w hn hl hcell hw
def Tryd.lays315_ren : Go.Shelf.Ren := ⟨fun | 315 => 128 | n => n, fun | 9 => 9 | 40 => 150 | 4 => 4 | 3 => 3 | 0 => 0 | 21 => 21 | n => n, fun | n => n⟩
theorem Tryd.lays315 : Go.Proofs.Lays.n315 Tryd.prog Tryd.lays315_ren := {
  mixed := by kernel_rfl
  f315 := Tryd.func128.trans (congrArg some (by kernel_rfl))
  t0 := Tryd.underlying0
  a0 := Tryd.isAgg0
  z0 := Tryd.sizeOf0
  v0 := Tryd.zeroValue0
  t3 := Tryd.underlying3
  a3 := Tryd.isAgg3
  z3 := Tryd.sizeOf3
  v3 := Tryd.zeroValue3
  t4 := Tryd.underlying4
  a4 := Tryd.isAgg4
  z4 := Tryd.sizeOf4
  v4 := Tryd.zeroValue4
  t9 := Tryd.underlying9
  a9 := Tryd.isAgg9
  z9 := Tryd.sizeOf9
  v9 := Tryd.zeroValue9
  t21 := Tryd.underlying21
  a21 := Tryd.isAgg21
  z21 := Tryd.sizeOf21
  v21 := Tryd.zeroValue21
  t40 := Tryd.underlying150
  a40 := Tryd.isAgg150
  z40 := Tryd.sizeOf150
  v40 := Tryd.zeroValue150 }
open Go.RowKit Go.Lib in
theorem Tryd.strings_indexFunc (g : Nat) (lb : Array Value) (eg : ∀ args w, (callFunc g args).run Tryd.prog w = .ok (.enter g args) w) (p : Nat → Bool) (truth : Bool) (s : ByteArray) (w : World) (hp : PredAt Tryd.prog g lb encR p w) :
    Calls Tryd.prog 128 #[.string s, .func (.func g) #[] lb, .bool truth] w fun e w' => e = .returned (.int .i64 (Lib.idxFunc p truth s)) ∧ Below w.heap.size w w' := Any.strings_indexFunc Tryd.lays315 g lb eg p truth s w hp
def Tryd.lays199_ren : Go.Shelf.Ren := ⟨fun | 199 => 87 | 261 => 107 | 311 => 129 | 312 => 130 | n => n, fun | 21 => 21 | 4 => 4 | 51 => 170 | 141 => 175 | 0 => 0 | 196 => 192 | 193 => 189 | 3 => 3 | 198 => 194 | 49 => 187 | 194 => 190 | 201 => 197 | 226 => 210 | 46 => 122 | 227 => 211 | n => n, fun | 6 => 3 | n => n⟩
theorem Tryd.lays199 : Go.Proofs.Lays.n199 Tryd.prog Tryd.lays199_ren := {
  mixed := by kernel_rfl
  f199 := Tryd.func87.trans (congrArg some (by kernel_rfl))
  f261 := Tryd.func107.trans (congrArg some (by kernel_rfl))
  f311 := Tryd.func129.trans (congrArg some (by kernel_rfl))
  f312 := Tryd.func130.trans (congrArg some (by kernel_rfl))
  t0 := Tryd.underlying0
  a0 := Tryd.isAgg0
  z0 := Tryd.sizeOf0
  v0 := Tryd.zeroValue0
  t3 := Tryd.underlying3
  a3 := Tryd.isAgg3
  z3 := Tryd.sizeOf3
  v3 := Tryd.zeroValue3
  t4 := Tryd.underlying4
  a4 := Tryd.isAgg4
  z4 := Tryd.sizeOf4
  v4 := Tryd.zeroValue4
  t21 := Tryd.underlying21
  a21 := Tryd.isAgg21
  z21 := Tryd.sizeOf21
  v21 := Tryd.zeroValue21
  t46 := Tryd.underlying122
  a46 := Tryd.isAgg122
  z46 := Tryd.sizeOf122
  v46 := Tryd.zeroValue122
  t49 := Tryd.underlying187
  a49 := Tryd.isAgg187
  z49 := Tryd.sizeOf187
  v49 := Tryd.zeroValue187
  t51 := Tryd.underlying170
  a51 := Tryd.isAgg170
  z51 := Tryd.sizeOf170
  v51 := Tryd.zeroValue170
  t141 := Tryd.underlying175
  a141 := Tryd.isAgg175
  z141 := Tryd.sizeOf175
  v141 := Tryd.zeroValue175
  t193 := Tryd.underlying189
  a193 := Tryd.isAgg189
  z193 := Tryd.sizeOf189
  v193 := Tryd.zeroValue189
  t194 := Tryd.underlying190
  a194 := Tryd.isAgg190
  z194 := Tryd.sizeOf190
  v194 := Tryd.zeroValue190
  t196 := Tryd.underlying192
  a196 := Tryd.isAgg192
  z196 := Tryd.sizeOf192
  v196 := Tryd.zeroValue192
  t198 := Tryd.underlying194
  a198 := Tryd.isAgg194
  z198 := Tryd.sizeOf194
  v198 := Tryd.zeroValue194
  t201 := Tryd.underlying197
  a201 := Tryd.isAgg197
  z201 := Tryd.sizeOf197
  v201 := Tryd.zeroValue197
  t226 := Tryd.underlying210
  a226 := Tryd.isAgg210
  z226 := Tryd.sizeOf210
  v226 := Tryd.zeroValue210
  t227 := Tryd.underlying211
  a227 := Tryd.isAgg211
  z227 := Tryd.sizeOf211
  v227 := Tryd.zeroValue211
  g6 := by kernel_rfl }
open Go.RowKit Go.Lib in
theorem Tryd.unicode_IsSpace (r : Int) (w : World) (h0 : 0 ≤ r) (h : r ≤ 255) :
    Calls Tryd.prog 87 #[.int .i32 r] w fun e w' => e = .returned (.bool (Lib.isSpaceL r)) ∧ w' = w := Any.unicode_IsSpace Tryd.lays199 r w h0 h
def Tryd.lays204_ren : Go.Shelf.Ren := ⟨fun | 204 => 94 | 262 => 115 | 313 => 136 | 274 => 142 | 275 => 143 | n => n, fun | 21 => 21 | 4 => 4 | 3 => 3 | 162 => 204 | 203 => 202 | 160 => 215 | 46 => 122 | 0 => 0 | 208 => 224 | 51 => 170 | 206 => 222 | n => n, fun | 13 => 4 | n => n⟩
theorem Tryd.lays204 : Go.Proofs.Lays.n204 Tryd.prog Tryd.lays204_ren := {
  mixed := by kernel_rfl
  f204 := Tryd.func94.trans (congrArg some (by kernel_rfl))
  f262 := Tryd.func115.trans (congrArg some (by kernel_rfl))
  f274 := Tryd.func142.trans (congrArg some (by kernel_rfl))
  f275 := Tryd.func143.trans (congrArg some (by kernel_rfl))
  f313 := Tryd.func136.trans (congrArg some (by kernel_rfl))
  t0 := Tryd.underlying0
  a0 := Tryd.isAgg0
  z0 := Tryd.sizeOf0
  v0 := Tryd.zeroValue0
  t3 := Tryd.underlying3
  a3 := Tryd.isAgg3
  z3 := Tryd.sizeOf3
  v3 := Tryd.zeroValue3
  t4 := Tryd.underlying4
  a4 := Tryd.isAgg4
  z4 := Tryd.sizeOf4
  v4 := Tryd.zeroValue4
  t21 := Tryd.underlying21
  a21 := Tryd.isAgg21
  z21 := Tryd.sizeOf21
  v21 := Tryd.zeroValue21
  t46 := Tryd.underlying122
  a46 := Tryd.isAgg122
  z46 := Tryd.sizeOf122
  v46 := Tryd.zeroValue122
  t51 := Tryd.underlying170
  a51 := Tryd.isAgg170
  z51 := Tryd.sizeOf170
  v51 := Tryd.zeroValue170
  t160 := Tryd.underlying215
  a160 := Tryd.isAgg215
  z160 := Tryd.sizeOf215
  v160 := Tryd.zeroValue215
  t162 := Tryd.underlying204
  a162 := Tryd.isAgg204
  z162 := Tryd.sizeOf204
  v162 := Tryd.zeroValue204
  t203 := Tryd.underlying202
  a203 := Tryd.isAgg202
  z203 := Tryd.sizeOf202
  v203 := Tryd.zeroValue202
  t206 := Tryd.underlying222
  a206 := Tryd.isAgg222
  z206 := Tryd.sizeOf222
  v206 := Tryd.zeroValue222
  t208 := Tryd.underlying224
  a208 := Tryd.isAgg224
  z208 := Tryd.sizeOf224
  v208 := Tryd.zeroValue224
  g13 := by kernel_rfl }
open Go.RowKit Go.Lib in
theorem Tryd.unicode_ToLower (r : Int) (w : World) (h : r ≤ 127) :
    Calls Tryd.prog 94 #[.int .i32 r] w fun e w' => e = .returned (.int .i32 (Lib.toLowerR r)) ∧ w' = w := Any.unicode_ToLower Tryd.lays204 r w h
def Tryd.lays197_ren : Go.Shelf.Ren := ⟨fun | 197 => 109 | 260 => 132 | n => n, fun | 9 => 9 | 21 => 21 | 3 => 3 | 4 => 4 | 5 => 5 | 105 => 177 | 119 => 151 | 0 => 0 | 46 => 122 | 139 => 214 | 138 => 213 | n => n, fun | 3 => 5 | 4 => 6 | n => n⟩
theorem Tryd.lays197 : Go.Proofs.Lays.n197 Tryd.prog Tryd.lays197_ren := {
  mixed := by kernel_rfl
  f197 := Tryd.func109.trans (congrArg some (by kernel_rfl))
  f260 := Tryd.func132.trans (congrArg some (by kernel_rfl))
  t0 := Tryd.underlying0
  a0 := Tryd.isAgg0
  z0 := Tryd.sizeOf0
  v0 := Tryd.zeroValue0
  t3 := Tryd.underlying3
  a3 := Tryd.isAgg3
  z3 := Tryd.sizeOf3
  v3 := Tryd.zeroValue3
  t4 := Tryd.underlying4
  a4 := Tryd.isAgg4
  z4 := Tryd.sizeOf4
  v4 := Tryd.zeroValue4
  t5 := Tryd.underlying5
  a5 := Tryd.isAgg5
  z5 := Tryd.sizeOf5
  v5 := Tryd.zeroValue5
  t9 := Tryd.underlying9
  a9 := Tryd.isAgg9
  z9 := Tryd.sizeOf9
  v9 := Tryd.zeroValue9
  t21 := Tryd.underlying21
  a21 := Tryd.isAgg21
  z21 := Tryd.sizeOf21
  v21 := Tryd.zeroValue21
  t46 := Tryd.underlying122
  a46 := Tryd.isAgg122
  z46 := Tryd.sizeOf122
  v46 := Tryd.zeroValue122
  t105 := Tryd.underlying177
  a105 := Tryd.isAgg177
  z105 := Tryd.sizeOf177
  v105 := Tryd.zeroValue177
  t119 := Tryd.underlying151
  a119 := Tryd.isAgg151
  z119 := Tryd.sizeOf151
  t138 := Tryd.underlying213
  a138 := Tryd.isAgg213
  z138 := Tryd.sizeOf213
  v138 := Tryd.zeroValue213
  t139 := Tryd.underlying214
  a139 := Tryd.isAgg214
  z139 := Tryd.sizeOf214
  v139 := Tryd.zeroValue214
  g3 := by kernel_rfl
  g4 := by kernel_rfl }
open Go.RowKit Go.Lib in
/-- unicode/utf8.DecodeRuneInString: "DecodeRuneInString is like DecodeRune but its input is a string.": ("DecodeRune unpacks the first UTF-8 encoding in p and returns the rune and its width in bytes."): WHERE s BEGINS WITH AN ASCII BYTE x: (x, 1). (LAID: no walk: one application.) -/
theorem Tryd.utf8_DecodeRuneInString_ascii (s : ByteArray) (x : UInt8) (w : World) (h0 : s.data.toList[0]? = some x) (hx : x.toNat < 128) :
    Calls Tryd.prog 109 #[.string s] w fun e w' => e = .returned (.tuple #[.int .i32 x.toNat, .int .i64 1]) ∧ w' = w := Any.utf8_DecodeRuneInString_ascii Tryd.lays197 s x w h0 hx
def Tryd.lays260_ren : Go.Shelf.Ren := ⟨fun | 260 => 132 | n => n, fun | 9 => 9 | 21 => 21 | 3 => 3 | 4 => 4 | 5 => 5 | 119 => 151 | 0 => 0 | 46 => 122 | 139 => 214 | 138 => 213 | n => n, fun | 3 => 5 | 4 => 6 | n => n⟩
theorem Tryd.lays260 : Go.Proofs.Lays.n260 Tryd.prog Tryd.lays260_ren := {
  mixed := by kernel_rfl
  f260 := Tryd.func132.trans (congrArg some (by kernel_rfl))
  t0 := Tryd.underlying0
  a0 := Tryd.isAgg0
  z0 := Tryd.sizeOf0
  v0 := Tryd.zeroValue0
  t3 := Tryd.underlying3
  a3 := Tryd.isAgg3
  z3 := Tryd.sizeOf3
  v3 := Tryd.zeroValue3
  t4 := Tryd.underlying4
  a4 := Tryd.isAgg4
  z4 := Tryd.sizeOf4
  v4 := Tryd.zeroValue4
  t5 := Tryd.underlying5
  a5 := Tryd.isAgg5
  z5 := Tryd.sizeOf5
  v5 := Tryd.zeroValue5
  t9 := Tryd.underlying9
  a9 := Tryd.isAgg9
  z9 := Tryd.sizeOf9
  v9 := Tryd.zeroValue9
  t21 := Tryd.underlying21
  a21 := Tryd.isAgg21
  z21 := Tryd.sizeOf21
  v21 := Tryd.zeroValue21
  t46 := Tryd.underlying122
  a46 := Tryd.isAgg122
  z46 := Tryd.sizeOf122
  v46 := Tryd.zeroValue122
  t119 := Tryd.underlying151
  a119 := Tryd.isAgg151
  z119 := Tryd.sizeOf151
  t138 := Tryd.underlying213
  a138 := Tryd.isAgg213
  z138 := Tryd.sizeOf213
  v138 := Tryd.zeroValue213
  t139 := Tryd.underlying214
  a139 := Tryd.isAgg214
  z139 := Tryd.sizeOf214
  v139 := Tryd.zeroValue214
  g3 := by kernel_rfl
  g4 := by kernel_rfl }
open Go.RowKit Go.Lib in
theorem Tryd.utf8_decodeRuneInStringSlow (s : ByteArray) (w : World) (hT : Lib.Utf8Tabs 5 6 w) :
    Calls Tryd.prog 132 #[.string s] w fun e w' => e = .returned (.tuple #[.int .i32 (Lib.decodeGo s).1, .int .i64 (Lib.decodeGo s).2]) ∧ Below w.heap.size w w' := Any.utf8_decodeRuneInStringSlow Tryd.lays260 s w hT
open Go.RowKit Go.Lib in
/-- **unicode/utf8.DecodeRuneInString AT EVERY STRING.** (LAID: no walk: one application.) -/
theorem Tryd.utf8_DecodeRuneInString (s : ByteArray) (w : World) (hT : Lib.Utf8Tabs 5 6 w) :
    Calls Tryd.prog 109 #[.string s] w fun e w' => e = .returned (.tuple #[.int .i32 (Lib.decodeGo s).1, .int .i64 (Lib.decodeGo s).2]) ∧ Below w.heap.size w w' := Any.utf8_DecodeRuneInString Tryd.lays197 s w hT
def Tryd.lays311_ren : Go.Shelf.Ren := ⟨fun | 311 => 129 | n => n, fun | 193 => 189 | 49 => 187 | 4 => 4 | 3 => 3 | 0 => 0 | 226 => 210 | 198 => 194 | 46 => 122 | n => n, fun | n => n⟩
theorem Tryd.lays311 : Go.Proofs.Lays.n311 Tryd.prog Tryd.lays311_ren := {
  mixed := by kernel_rfl
  f311 := Tryd.func129.trans (congrArg some (by kernel_rfl))
  t0 := Tryd.underlying0
  a0 := Tryd.isAgg0
  z0 := Tryd.sizeOf0
  v0 := Tryd.zeroValue0
  t3 := Tryd.underlying3
  a3 := Tryd.isAgg3
  z3 := Tryd.sizeOf3
  v3 := Tryd.zeroValue3
  t4 := Tryd.underlying4
  a4 := Tryd.isAgg4
  z4 := Tryd.sizeOf4
  v4 := Tryd.zeroValue4
  t46 := Tryd.underlying122
  a46 := Tryd.isAgg122
  z46 := Tryd.sizeOf122
  v46 := Tryd.zeroValue122
  t49 := Tryd.underlying187
  a49 := Tryd.isAgg187
  z49 := Tryd.sizeOf187
  v49 := Tryd.zeroValue187
  t193 := Tryd.underlying189
  a193 := Tryd.isAgg189
  z193 := Tryd.sizeOf189
  v193 := Tryd.zeroValue189
  t198 := Tryd.underlying194
  a198 := Tryd.isAgg194
  z198 := Tryd.sizeOf194
  v198 := Tryd.zeroValue194
  t226 := Tryd.underlying210
  a226 := Tryd.isAgg210
  z226 := Tryd.sizeOf210
  v226 := Tryd.zeroValue210 }
open Go.RowKit Go.Lib in
theorem Tryd.unicode_is16_white (R oR : Nat) (z : Nat) (w : World) (hz : z < 65536) (hz0 : 255 < z) (c6 : w.cell? ⟨R, oR + 6, none⟩ = some (.int .u16 160)) (c7 : w.cell? ⟨R, oR + 7, none⟩ = some (.int .u16 5760)) (c8 : w.cell? ⟨R, oR + 8, none⟩ = some (.int .u16 5600)) (c9 : w.cell? ⟨R, oR + 9, none⟩ = some (.int .u16 8192)) (c10 : w.cell? ⟨R, oR + 10, none⟩ = some (.int .u16 8202)) (c11 : w.cell? ⟨R, oR + 11, none⟩ = some (.int .u16 1)) (c12 : w.cell? ⟨R, oR + 12, none⟩ = some (.int .u16 8232)) (c13 : w.cell? ⟨R, oR + 13, none⟩ = some (.int .u16 8233)) (c14 : w.cell? ⟨R, oR + 14, none⟩ = some (.int .u16 1)) (c15 : w.cell? ⟨R, oR + 15, none⟩ = some (.int .u16 8239)) (c16 : w.cell? ⟨R, oR + 16, none⟩ = some (.int .u16 8287)) (c17 : w.cell? ⟨R, oR + 17, none⟩ = some (.int .u16 48)) (c18 : w.cell? ⟨R, oR + 18, none⟩ = some (.int .u16 12288)) (c19 : w.cell? ⟨R, oR + 19, none⟩ = some (.int .u16 12288)) (c20 : w.cell? ⟨R, oR + 20, none⟩ = some (.int .u16 1)) :
    Calls Tryd.prog 129 #[.slice (some ⟨R, oR + 6, none⟩) 5 5, .int .u16 z] w fun e w' => e = .returned (.bool (Lib.isSpaceR z)) ∧ Below w.heap.size w w' := Any.unicode_is16_white Tryd.lays311 R oR z w hz hz0 c6 c7 c8 c9 c10 c11 c12 c13 c14 c15 c16 c17 c18 c19 c20
def Tryd.lays261_ren : Go.Shelf.Ren := ⟨fun | 261 => 107 | 311 => 129 | 312 => 130 | n => n, fun | 141 => 175 | 21 => 21 | 4 => 4 | 0 => 0 | 196 => 192 | 193 => 189 | 3 => 3 | 51 => 170 | 198 => 194 | 49 => 187 | 194 => 190 | 201 => 197 | 226 => 210 | 46 => 122 | 227 => 211 | n => n, fun | n => n⟩
theorem Tryd.lays261 : Go.Proofs.Lays.n261 Tryd.prog Tryd.lays261_ren := {
  mixed := by kernel_rfl
  f261 := Tryd.func107.trans (congrArg some (by kernel_rfl))
  f311 := Tryd.func129.trans (congrArg some (by kernel_rfl))
  f312 := Tryd.func130.trans (congrArg some (by kernel_rfl))
  t0 := Tryd.underlying0
  a0 := Tryd.isAgg0
  z0 := Tryd.sizeOf0
  v0 := Tryd.zeroValue0
  t3 := Tryd.underlying3
  a3 := Tryd.isAgg3
  z3 := Tryd.sizeOf3
  v3 := Tryd.zeroValue3
  t4 := Tryd.underlying4
  a4 := Tryd.isAgg4
  z4 := Tryd.sizeOf4
  v4 := Tryd.zeroValue4
  t21 := Tryd.underlying21
  a21 := Tryd.isAgg21
  z21 := Tryd.sizeOf21
  v21 := Tryd.zeroValue21
  t46 := Tryd.underlying122
  a46 := Tryd.isAgg122
  z46 := Tryd.sizeOf122
  v46 := Tryd.zeroValue122
  t49 := Tryd.underlying187
  a49 := Tryd.isAgg187
  z49 := Tryd.sizeOf187
  v49 := Tryd.zeroValue187
  t51 := Tryd.underlying170
  a51 := Tryd.isAgg170
  z51 := Tryd.sizeOf170
  v51 := Tryd.zeroValue170
  t141 := Tryd.underlying175
  a141 := Tryd.isAgg175
  z141 := Tryd.sizeOf175
  v141 := Tryd.zeroValue175
  t193 := Tryd.underlying189
  a193 := Tryd.isAgg189
  z193 := Tryd.sizeOf189
  v193 := Tryd.zeroValue189
  t194 := Tryd.underlying190
  a194 := Tryd.isAgg190
  z194 := Tryd.sizeOf190
  v194 := Tryd.zeroValue190
  t196 := Tryd.underlying192
  a196 := Tryd.isAgg192
  z196 := Tryd.sizeOf192
  v196 := Tryd.zeroValue192
  t198 := Tryd.underlying194
  a198 := Tryd.isAgg194
  z198 := Tryd.sizeOf194
  v198 := Tryd.zeroValue194
  t201 := Tryd.underlying197
  a201 := Tryd.isAgg197
  z201 := Tryd.sizeOf197
  v201 := Tryd.zeroValue197
  t226 := Tryd.underlying210
  a226 := Tryd.isAgg210
  z226 := Tryd.sizeOf210
  v226 := Tryd.zeroValue210
  t227 := Tryd.underlying211
  a227 := Tryd.isAgg211
  z227 := Tryd.sizeOf211
  v227 := Tryd.zeroValue211 }
open Go.RowKit Go.Lib in
/-- unicode.isExcludingLatin(White_Space, r), r beyond U+00FF or negative. (LAID: no walk: one application.) -/
theorem Tryd.unicode_isExcludingLatin_white (T oT R oR : Nat) (r : Int) (w : World) (hlo : -2147483648 ≤ r) (hhi : r ≤ 2147483647) (hr : r < 0 ∨ 255 < r) (h2 : w.cell? ⟨T, oT, none⟩ = some (.slice (some ⟨R, oR, none⟩) 7 7)) (h3 : w.cell? ⟨T, oT + 1, none⟩ = some (.slice none 0 0)) (h4 : w.cell? ⟨T, oT + 2, none⟩ = some (.int .i64 2)) (h5 : ∀ i, i < 21 → w.cell? ⟨R, oR + i, none⟩ = some (.int .u16 (whiteT.getD i 0))) :
    Calls Tryd.prog 107 #[.pointer (some ⟨T, oT, none⟩), .int .i32 r] w fun e w' => e = .returned (.bool (Lib.isSpaceZ r)) ∧ Below w.heap.size w w' := Any.unicode_isExcludingLatin_white Tryd.lays261 T oT R oR r w hlo hhi hr h2 h3 h4 h5
open Go.RowKit Go.Lib in
/-- **unicode.IsSpace AT EVERY int32.** (LAID: no walk: one application.) -/
theorem Tryd.unicode_IsSpace_any (r : Int) (w : World) (hlo : -2147483648 ≤ r) (hhi : r ≤ 2147483647) (hW : Lib.WhiteTab 3 w) :
    Calls Tryd.prog 87 #[.int .i32 r] w fun e w' => e = .returned (.bool (Lib.isSpaceZ r)) ∧ Below w.heap.size w w' := Any.unicode_IsSpace_any Tryd.lays199 r w hlo hhi hW
def Tryd.lays271_ren : Go.Shelf.Ren := ⟨fun | 271 => 131 | 120 => 140 | 197 => 109 | 260 => 132 | n => n, fun | 9 => 9 | 21 => 21 | 3 => 3 | 4 => 4 | 5 => 5 | 105 => 177 | 119 => 151 | 0 => 0 | 46 => 122 | 139 => 214 | 138 => 213 | n => n, fun | 3 => 5 | 4 => 6 | n => n⟩
theorem Tryd.lays271 : Go.Proofs.Lays.n271 Tryd.prog Tryd.lays271_ren := {
  mixed := by kernel_rfl
  f120 := Tryd.func140.trans (congrArg some (by kernel_rfl))
  f197 := Tryd.func109.trans (congrArg some (by kernel_rfl))
  f260 := Tryd.func132.trans (congrArg some (by kernel_rfl))
  f271 := Tryd.func131.trans (congrArg some (by kernel_rfl))
  t0 := Tryd.underlying0
  a0 := Tryd.isAgg0
  z0 := Tryd.sizeOf0
  v0 := Tryd.zeroValue0
  t3 := Tryd.underlying3
  a3 := Tryd.isAgg3
  z3 := Tryd.sizeOf3
  v3 := Tryd.zeroValue3
  t4 := Tryd.underlying4
  a4 := Tryd.isAgg4
  z4 := Tryd.sizeOf4
  v4 := Tryd.zeroValue4
  t5 := Tryd.underlying5
  a5 := Tryd.isAgg5
  z5 := Tryd.sizeOf5
  v5 := Tryd.zeroValue5
  t9 := Tryd.underlying9
  a9 := Tryd.isAgg9
  z9 := Tryd.sizeOf9
  v9 := Tryd.zeroValue9
  t21 := Tryd.underlying21
  a21 := Tryd.isAgg21
  z21 := Tryd.sizeOf21
  v21 := Tryd.zeroValue21
  t46 := Tryd.underlying122
  a46 := Tryd.isAgg122
  z46 := Tryd.sizeOf122
  v46 := Tryd.zeroValue122
  t105 := Tryd.underlying177
  a105 := Tryd.isAgg177
  z105 := Tryd.sizeOf177
  v105 := Tryd.zeroValue177
  t119 := Tryd.underlying151
  a119 := Tryd.isAgg151
  z119 := Tryd.sizeOf151
  t138 := Tryd.underlying213
  a138 := Tryd.isAgg213
  z138 := Tryd.sizeOf213
  v138 := Tryd.zeroValue213
  t139 := Tryd.underlying214
  a139 := Tryd.isAgg214
  z139 := Tryd.sizeOf214
  v139 := Tryd.zeroValue214
  g3 := by kernel_rfl
  g4 := by kernel_rfl }
open Go.RowKit Go.Lib in
/-- **unicode/utf8.DecodeLastRuneInString AT EVERY STRING.** (LAID: no walk: one application.) -/
theorem Tryd.utf8_DecodeLastRuneInString (s : ByteArray) (w : World) (hs : s.size ≤ 9223372036854775807) (hT : Lib.Utf8Tabs 5 6 w) :
    Calls Tryd.prog 131 #[.string s] w fun e w' => e = .returned (.tuple #[.int .i32 (Lib.decodeLastL s.data.toList).1, .int .i64 (Lib.decodeLastL s.data.toList).2]) ∧ Below w.heap.size w w' := Any.utf8_DecodeLastRuneInString Tryd.lays271 s w hs hT
open Go.RowKit in
theorem Tryd.strings_TrimSpace_any (s : ByteArray) (w : World) (hs : s.size ≤ 9223372036854775807) (htab : Lib.TabIs Tryd.prog w "strings.asciiSpace" .u8 Lib.asciiSpaceTab) (hU8 : Lib.Utf8Tabs 5 6 w) (hWS : Lib.WhiteTab 3 w) :
    Calls Tryd.prog 65 #[.string s] w fun e w' => e = .returned (.string ⟨(Lib.trimSpaceD s.data.toList).toArray⟩) ∧ Below w.heap.size w w' := Any.strings_TrimSpace_any Tryd.lays163 Tryd.Space_Extra_163 s w hs htab hU8 hWS
def Tryd.lays274_ren : Go.Shelf.Ren := ⟨fun | 274 => 142 | n => n, fun | 21 => 21 | 162 => 204 | 160 => 215 | 3 => 3 | 4 => 4 | 46 => 122 | 0 => 0 | 208 => 224 | 51 => 170 | 206 => 222 | n => n, fun | n => n⟩
theorem Tryd.lays274 : Go.Proofs.Lays.n274 Tryd.prog Tryd.lays274_ren := {
  mixed := by kernel_rfl
  f274 := Tryd.func142.trans (congrArg some (by kernel_rfl))
  t0 := Tryd.underlying0
  a0 := Tryd.isAgg0
  z0 := Tryd.sizeOf0
  v0 := Tryd.zeroValue0
  t3 := Tryd.underlying3
  a3 := Tryd.isAgg3
  z3 := Tryd.sizeOf3
  v3 := Tryd.zeroValue3
  t4 := Tryd.underlying4
  a4 := Tryd.isAgg4
  z4 := Tryd.sizeOf4
  v4 := Tryd.zeroValue4
  t21 := Tryd.underlying21
  a21 := Tryd.isAgg21
  z21 := Tryd.sizeOf21
  v21 := Tryd.zeroValue21
  t46 := Tryd.underlying122
  a46 := Tryd.isAgg122
  z46 := Tryd.sizeOf122
  v46 := Tryd.zeroValue122
  t51 := Tryd.underlying170
  a51 := Tryd.isAgg170
  z51 := Tryd.sizeOf170
  v51 := Tryd.zeroValue170
  t160 := Tryd.underlying215
  a160 := Tryd.isAgg215
  z160 := Tryd.sizeOf215
  v160 := Tryd.zeroValue215
  t162 := Tryd.underlying204
  a162 := Tryd.isAgg204
  z162 := Tryd.sizeOf204
  v162 := Tryd.zeroValue204
  t208 := Tryd.underlying224
  a208 := Tryd.isAgg224
  z208 := Tryd.sizeOf224
  v208 := Tryd.zeroValue224 }
open Go.RowKit Go.Lib in
theorem Tryd.unicode_lookupCaseRange (T : Array CaseRow) (R oR cap : Nat) (r : Int) (w : World) (hT : CaseTab R oR T w) (hok : CaseOk T) (hn : T.size ≤ 1000000000) :
    Calls Tryd.prog 142 #[.int .i32 r, .slice (some ⟨R, oR, none⟩) T.size cap] w fun e w' =>
      e = .returned (match lookupIdx T r (T.size + 1) 0 T.size with | some i => .pointer (some ⟨R, oR + i * 5, none⟩) | none => .pointer none) ∧ w' = w := Any.unicode_lookupCaseRange Tryd.lays274 T R oR cap r w hT hok hn
def Tryd.lays275_ren : Go.Shelf.Ren := ⟨fun | 275 => 143 | n => n, fun | 3 => 3 | 21 => 21 | 160 => 215 | 0 => 0 | 208 => 224 | 206 => 222 | 4 => 4 | 51 => 170 | n => n, fun | n => n⟩
theorem Tryd.lays275 : Go.Proofs.Lays.n275 Tryd.prog Tryd.lays275_ren := {
  mixed := by kernel_rfl
  f275 := Tryd.func143.trans (congrArg some (by kernel_rfl))
  t0 := Tryd.underlying0
  a0 := Tryd.isAgg0
  z0 := Tryd.sizeOf0
  v0 := Tryd.zeroValue0
  t3 := Tryd.underlying3
  a3 := Tryd.isAgg3
  z3 := Tryd.sizeOf3
  v3 := Tryd.zeroValue3
  t4 := Tryd.underlying4
  a4 := Tryd.isAgg4
  z4 := Tryd.sizeOf4
  v4 := Tryd.zeroValue4
  t21 := Tryd.underlying21
  a21 := Tryd.isAgg21
  z21 := Tryd.sizeOf21
  v21 := Tryd.zeroValue21
  t51 := Tryd.underlying170
  a51 := Tryd.isAgg170
  z51 := Tryd.sizeOf170
  v51 := Tryd.zeroValue170
  t160 := Tryd.underlying215
  a160 := Tryd.isAgg215
  z160 := Tryd.sizeOf215
  v160 := Tryd.zeroValue215
  t206 := Tryd.underlying222
  a206 := Tryd.isAgg222
  z206 := Tryd.sizeOf222
  v206 := Tryd.zeroValue222
  t208 := Tryd.underlying224
  a208 := Tryd.isAgg224
  z208 := Tryd.sizeOf224
  v208 := Tryd.zeroValue224 }
open Go.RowKit Go.Lib in
theorem Tryd.unicode_convertCase (c : Nat) (hc : c < 3) (r : Int) (A o : Nat) (x : CaseRow) (w : World) (hlo : (x.1 : Int) ≤ r) (hhi : r ≤ (x.2.1 : Int)) (hH : x.2.1 < 2147483647) (c0 : w.cell? ⟨A, o, none⟩ = some (.int .u32 x.1)) (cD : w.cell? ⟨A, o + 2 + c, none⟩ = some (.int .i32 (x.delta c))) :
    Calls Tryd.prog 143 #[.int .i64 c, .int .i32 r, .pointer (some ⟨A, o, none⟩)] w fun e w' => e = .returned (.int .i32 (wrap32 (convertR c r x))) ∧ ∃ q, w' = w.drewN q := Any.unicode_convertCase Tryd.lays275 c hc r A o x w hlo hhi hH c0 cD
def Tryd.lays313_ren : Go.Shelf.Ren := ⟨fun | 313 => 136 | 274 => 142 | 275 => 143 | n => n, fun | 3 => 3 | 21 => 21 | 162 => 204 | 4 => 4 | 160 => 215 | 46 => 122 | 0 => 0 | 208 => 224 | 51 => 170 | 206 => 222 | n => n, fun | n => n⟩
theorem Tryd.lays313 : Go.Proofs.Lays.n313 Tryd.prog Tryd.lays313_ren := {
  mixed := by kernel_rfl
  f274 := Tryd.func142.trans (congrArg some (by kernel_rfl))
  f275 := Tryd.func143.trans (congrArg some (by kernel_rfl))
  f313 := Tryd.func136.trans (congrArg some (by kernel_rfl))
  t0 := Tryd.underlying0
  a0 := Tryd.isAgg0
  z0 := Tryd.sizeOf0
  v0 := Tryd.zeroValue0
  t3 := Tryd.underlying3
  a3 := Tryd.isAgg3
  z3 := Tryd.sizeOf3
  v3 := Tryd.zeroValue3
  t4 := Tryd.underlying4
  a4 := Tryd.isAgg4
  z4 := Tryd.sizeOf4
  v4 := Tryd.zeroValue4
  t21 := Tryd.underlying21
  a21 := Tryd.isAgg21
  z21 := Tryd.sizeOf21
  v21 := Tryd.zeroValue21
  t46 := Tryd.underlying122
  a46 := Tryd.isAgg122
  z46 := Tryd.sizeOf122
  v46 := Tryd.zeroValue122
  t51 := Tryd.underlying170
  a51 := Tryd.isAgg170
  z51 := Tryd.sizeOf170
  v51 := Tryd.zeroValue170
  t160 := Tryd.underlying215
  a160 := Tryd.isAgg215
  z160 := Tryd.sizeOf215
  v160 := Tryd.zeroValue215
  t162 := Tryd.underlying204
  a162 := Tryd.isAgg204
  z162 := Tryd.sizeOf204
  v162 := Tryd.zeroValue204
  t206 := Tryd.underlying222
  a206 := Tryd.isAgg222
  z206 := Tryd.sizeOf222
  v206 := Tryd.zeroValue222
  t208 := Tryd.underlying224
  a208 := Tryd.isAgg224
  z208 := Tryd.sizeOf224
  v208 := Tryd.zeroValue224 }
open Go.RowKit Go.Lib in
theorem Tryd.unicode_to (c : Nat) (hc : c < 3) (r : Int) (T : Array CaseRow) (R oR cap : Nat) (w : World) (hT : CaseTab R oR T w) (hok : CaseOk2 T) (hn : T.size ≤ 1000000000) :
    Calls Tryd.prog 136 #[.int .i64 c, .int .i32 r, .slice (some ⟨R, oR, none⟩) T.size cap] w fun e w' => e = .returned (.tuple #[.int .i32 (toW T c r), .bool (lookupIdx T r (T.size + 1) 0 T.size).isSome]) ∧ ∃ q, w' = w.drewN q := Any.unicode_to Tryd.lays313 c hc r T R oR cap w hT hok hn
def Tryd.lays262_ren : Go.Shelf.Ren := ⟨fun | 262 => 115 | 313 => 136 | 274 => 142 | 275 => 143 | n => n, fun | 3 => 3 | 21 => 21 | 162 => 204 | 203 => 202 | 4 => 4 | 160 => 215 | 46 => 122 | 0 => 0 | 208 => 224 | 51 => 170 | 206 => 222 | n => n, fun | 13 => 4 | n => n⟩
theorem Tryd.lays262 : Go.Proofs.Lays.n262 Tryd.prog Tryd.lays262_ren := {
  mixed := by kernel_rfl
  f262 := Tryd.func115.trans (congrArg some (by kernel_rfl))
  f274 := Tryd.func142.trans (congrArg some (by kernel_rfl))
  f275 := Tryd.func143.trans (congrArg some (by kernel_rfl))
  f313 := Tryd.func136.trans (congrArg some (by kernel_rfl))
  t0 := Tryd.underlying0
  a0 := Tryd.isAgg0
  z0 := Tryd.sizeOf0
  v0 := Tryd.zeroValue0
  t3 := Tryd.underlying3
  a3 := Tryd.isAgg3
  z3 := Tryd.sizeOf3
  v3 := Tryd.zeroValue3
  t4 := Tryd.underlying4
  a4 := Tryd.isAgg4
  z4 := Tryd.sizeOf4
  v4 := Tryd.zeroValue4
  t21 := Tryd.underlying21
  a21 := Tryd.isAgg21
  z21 := Tryd.sizeOf21
  v21 := Tryd.zeroValue21
  t46 := Tryd.underlying122
  a46 := Tryd.isAgg122
  z46 := Tryd.sizeOf122
  v46 := Tryd.zeroValue122
  t51 := Tryd.underlying170
  a51 := Tryd.isAgg170
  z51 := Tryd.sizeOf170
  v51 := Tryd.zeroValue170
  t160 := Tryd.underlying215
  a160 := Tryd.isAgg215
  z160 := Tryd.sizeOf215
  v160 := Tryd.zeroValue215
  t162 := Tryd.underlying204
  a162 := Tryd.isAgg204
  z162 := Tryd.sizeOf204
  v162 := Tryd.zeroValue204
  t203 := Tryd.underlying202
  a203 := Tryd.isAgg202
  z203 := Tryd.sizeOf202
  v203 := Tryd.zeroValue202
  t206 := Tryd.underlying222
  a206 := Tryd.isAgg222
  z206 := Tryd.sizeOf222
  v206 := Tryd.zeroValue222
  t208 := Tryd.underlying224
  a208 := Tryd.isAgg224
  z208 := Tryd.sizeOf224
  v208 := Tryd.zeroValue224
  g13 := by kernel_rfl }
open Go.RowKit Go.Lib in
theorem Tryd.unicode_To (c : Nat) (hc : c < 3) (r : Int) (T : Array CaseRow) (w : World) (hV : CaseVar 4 T w) (hok : CaseOk2 T) (hn : T.size ≤ 1000000000) :
    Calls Tryd.prog 115 #[.int .i64 c, .int .i32 r] w fun e w' => e = .returned (.int .i32 (toW T c r)) ∧ ∃ q, w' = w.drewN q := Any.unicode_To Tryd.lays262 c hc r T w hV hok hn
open Go.RowKit Go.Lib in
theorem Tryd.unicode_ToLower_any (r : Int) (T : Array CaseRow) (w : World) (hV : CaseVar 4 T w) (hok : CaseOk2 T) (hn : T.size ≤ 1000000000) :
    Calls Tryd.prog 94 #[.int .i32 r] w fun e w' => e = .returned (.int .i32 (Lib.toLowerW T r)) ∧ ∃ q, w' = w.drewN q := Any.unicode_ToLower_any Tryd.lays204 r T w hV hok hn
open Go.RowKit Go.Lib in
theorem Tryd.unicode_ToLower_laid (r : Int) (w : World) (hV : CaseVar 4 caseA w) :
    Calls Tryd.prog 94 #[.int .i32 r] w fun e w' => e = .returned (.int .i32 (toLowerU r)) ∧ ∃ q, w' = w.drewN q := Any.unicode_ToLower_laid Tryd.lays204 r w hV
def Tryd.lays270_ren : Go.Shelf.Ren := ⟨fun | 270 => 114 | n => n, fun | 70 => 152 | 3 => 3 | 0 => 0 | 72 => 154 | 37 => 26 | 5 => 5 | n => n, fun | n => n⟩
theorem Tryd.lays270 : Go.Proofs.Lays.n270 Tryd.prog Tryd.lays270_ren := {
  mixed := by kernel_rfl
  f270 := Tryd.func114.trans (congrArg some (by kernel_rfl))
  t0 := Tryd.underlying0
  a0 := Tryd.isAgg0
  z0 := Tryd.sizeOf0
  v0 := Tryd.zeroValue0
  t3 := Tryd.underlying3
  a3 := Tryd.isAgg3
  z3 := Tryd.sizeOf3
  v3 := Tryd.zeroValue3
  t37 := Tryd.underlying26
  a37 := Tryd.isAgg26
  z37 := Tryd.sizeOf26
  v37 := Tryd.zeroValue26
  t70 := Tryd.underlying152
  a70 := Tryd.isAgg152
  z70 := Tryd.sizeOf152
  v70 := Tryd.zeroValue152
  t72 := Tryd.underlying154
  a72 := Tryd.isAgg154
  z72 := Tryd.sizeOf154
  v72 := Tryd.zeroValue154 }
def Tryd.lays230_ren : Go.Shelf.Ren := ⟨fun | 230 => 93 | 197 => 109 | 118 => 112 | 165 => 89 | 166 => 90 | 168 => 113 | 270 => 114 | 167 => 91 | 169 => 92 | 260 => 132 | 240 => 110 | 241 => 111 | 242 => 135 | 276 => 133 | 277 => 134 | 278 => 141 | n => n, fun | 107 => 159 | 9 => 9 | 72 => 154 | 0 => 0 | 4 => 4 | 3 => 3 | 21 => 21 | 105 => 177 | 76 => 155 | 5 => 5 | 75 => 60 | 70 => 152 | 20 => 20 | 37 => 26 | 127 => 179 | 119 => 151 | 46 => 122 | 139 => 214 | 138 => 213 | 164 => 199 | 51 => 170 | 80 => 70 | n => n, fun | 3 => 5 | 4 => 6 | n => n⟩
theorem Tryd.lays230 : Go.Proofs.Lays.n230 Tryd.prog Tryd.lays230_ren := {
  mixed := by kernel_rfl
  f118 := Tryd.func112.trans (congrArg some (by kernel_rfl))
  f165 := Tryd.func89.trans (congrArg some (by kernel_rfl))
  f166 := Tryd.func90.trans (congrArg some (by kernel_rfl))
  f167 := Tryd.func91.trans (congrArg some (by kernel_rfl))
  f168 := Tryd.func113.trans (congrArg some (by kernel_rfl))
  f169 := Tryd.func92.trans (congrArg some (by kernel_rfl))
  f197 := Tryd.func109.trans (congrArg some (by kernel_rfl))
  f230 := Tryd.func93.trans (congrArg some (by kernel_rfl))
  f240 := Tryd.func110.trans (congrArg some (by kernel_rfl))
  f241 := Tryd.func111.trans (congrArg some (by kernel_rfl))
  f242 := Tryd.func135.trans (congrArg some (by kernel_rfl))
  f260 := Tryd.func132.trans (congrArg some (by kernel_rfl))
  f270 := Tryd.func114.trans (congrArg some (by kernel_rfl))
  f276 := Tryd.func133.trans (congrArg some (by kernel_rfl))
  f277 := Tryd.func134.trans (congrArg some (by kernel_rfl))
  f278 := Tryd.func141.trans (congrArg some (by kernel_rfl))
  t0 := Tryd.underlying0
  a0 := Tryd.isAgg0
  z0 := Tryd.sizeOf0
  v0 := Tryd.zeroValue0
  t3 := Tryd.underlying3
  a3 := Tryd.isAgg3
  z3 := Tryd.sizeOf3
  v3 := Tryd.zeroValue3
  t4 := Tryd.underlying4
  a4 := Tryd.isAgg4
  z4 := Tryd.sizeOf4
  v4 := Tryd.zeroValue4
  t5 := Tryd.underlying5
  a5 := Tryd.isAgg5
  z5 := Tryd.sizeOf5
  v5 := Tryd.zeroValue5
  t9 := Tryd.underlying9
  a9 := Tryd.isAgg9
  z9 := Tryd.sizeOf9
  v9 := Tryd.zeroValue9
  t20 := Tryd.underlying20
  a20 := Tryd.isAgg20
  z20 := Tryd.sizeOf20
  v20 := Tryd.zeroValue20
  t21 := Tryd.underlying21
  a21 := Tryd.isAgg21
  z21 := Tryd.sizeOf21
  v21 := Tryd.zeroValue21
  t37 := Tryd.underlying26
  a37 := Tryd.isAgg26
  z37 := Tryd.sizeOf26
  v37 := Tryd.zeroValue26
  t46 := Tryd.underlying122
  a46 := Tryd.isAgg122
  z46 := Tryd.sizeOf122
  v46 := Tryd.zeroValue122
  t51 := Tryd.underlying170
  a51 := Tryd.isAgg170
  z51 := Tryd.sizeOf170
  v51 := Tryd.zeroValue170
  t70 := Tryd.underlying152
  a70 := Tryd.isAgg152
  z70 := Tryd.sizeOf152
  v70 := Tryd.zeroValue152
  t72 := Tryd.underlying154
  a72 := Tryd.isAgg154
  z72 := Tryd.sizeOf154
  v72 := Tryd.zeroValue154
  t75 := Tryd.underlying60
  a75 := Tryd.isAgg60
  z75 := Tryd.sizeOf60
  v75 := Tryd.zeroValue60
  t76 := Tryd.underlying155
  a76 := Tryd.isAgg155
  z76 := Tryd.sizeOf155
  v76 := Tryd.zeroValue155
  t105 := Tryd.underlying177
  a105 := Tryd.isAgg177
  z105 := Tryd.sizeOf177
  v105 := Tryd.zeroValue177
  t107 := Tryd.underlying159
  a107 := Tryd.isAgg159
  z107 := Tryd.sizeOf159
  v107 := Tryd.zeroValue159
  t119 := Tryd.underlying151
  a119 := Tryd.isAgg151
  z119 := Tryd.sizeOf151
  t127 := Tryd.underlying179
  a127 := Tryd.isAgg179
  z127 := Tryd.sizeOf179
  v127 := Tryd.zeroValue179
  t138 := Tryd.underlying213
  a138 := Tryd.isAgg213
  z138 := Tryd.sizeOf213
  v138 := Tryd.zeroValue213
  t139 := Tryd.underlying214
  a139 := Tryd.isAgg214
  z139 := Tryd.sizeOf214
  v139 := Tryd.zeroValue214
  t164 := Tryd.underlying199
  a164 := Tryd.isAgg199
  z164 := Tryd.sizeOf199
  v164 := Tryd.zeroValue199
  g3 := by kernel_rfl
  g4 := by kernel_rfl }
theorem Tryd.Builder_Extra_230 : Builder.Extra Tryd.prog Tryd.lays230_ren := {
  sizeBuilder := by kernel_rfl
  liesBuilder := by kernel_rfl
  t5 := Tryd.underlying5
  a5 := Tryd.isAgg5
  z5 := Tryd.sizeOf5
  v5 := Tryd.zeroValue5
  infoByte := by kernel_rfl
  cellsByte := by kernel_rfl
  sizeByte := by kernel_rfl
  neB5 := by decide }
open Go.RowKit Go.Lib in
theorem Tryd.unicode_is16_any (T : Array Rg) (R oR cap : Nat) (z : Nat) (w : World) (hz : z < 65536) (hT : RgTab .u16 R oR T w) (hok : RgOk 65536 T) (hn : T.size ≤ 1000000000) :
    Calls Tryd.prog 129 #[.slice (some ⟨R, oR, none⟩) T.size cap, .int .u16 z] w fun e w' => e = .returned (.bool (is16Go T z)) ∧ ∃ q, w' = w.drewN q := Any.unicode_is16_any Tryd.lays311 T R oR cap z w hz hT hok hn
def Tryd.lays312_ren : Go.Shelf.Ren := ⟨fun | 312 => 130 | n => n, fun | 194 => 190 | 51 => 170 | 4 => 4 | 3 => 3 | 0 => 0 | 227 => 211 | 201 => 197 | 46 => 122 | n => n, fun | n => n⟩
theorem Tryd.lays312 : Go.Proofs.Lays.n312 Tryd.prog Tryd.lays312_ren := {
  mixed := by kernel_rfl
  f312 := Tryd.func130.trans (congrArg some (by kernel_rfl))
  t0 := Tryd.underlying0
  a0 := Tryd.isAgg0
  z0 := Tryd.sizeOf0
  v0 := Tryd.zeroValue0
  t3 := Tryd.underlying3
  a3 := Tryd.isAgg3
  z3 := Tryd.sizeOf3
  v3 := Tryd.zeroValue3
  t4 := Tryd.underlying4
  a4 := Tryd.isAgg4
  z4 := Tryd.sizeOf4
  v4 := Tryd.zeroValue4
  t46 := Tryd.underlying122
  a46 := Tryd.isAgg122
  z46 := Tryd.sizeOf122
  v46 := Tryd.zeroValue122
  t51 := Tryd.underlying170
  a51 := Tryd.isAgg170
  z51 := Tryd.sizeOf170
  v51 := Tryd.zeroValue170
  t194 := Tryd.underlying190
  a194 := Tryd.isAgg190
  z194 := Tryd.sizeOf190
  v194 := Tryd.zeroValue190
  t201 := Tryd.underlying197
  a201 := Tryd.isAgg197
  z201 := Tryd.sizeOf197
  v201 := Tryd.zeroValue197
  t227 := Tryd.underlying211
  a227 := Tryd.isAgg211
  z227 := Tryd.sizeOf211
  v227 := Tryd.zeroValue211 }
open Go.RowKit Go.Lib in
theorem Tryd.unicode_is32_any (T : Array Rg) (R oR cap : Nat) (z : Nat) (w : World) (hz : z < 4294967296) (hT : RgTab .u32 R oR T w) (hok : RgOk 4294967296 T) (hn : T.size ≤ 1000000000) :
    Calls Tryd.prog 130 #[.slice (some ⟨R, oR, none⟩) T.size cap, .int .u32 z] w fun e w' => e = .returned (.bool (is32Go T z)) ∧ Below w.heap.size w w' := Any.unicode_is32_any Tryd.lays312 T R oR cap z w hz hT hok hn
open Go.RowKit Go.Lib in
theorem Tryd.unicode_isExcludingLatin_any (Tb oT : Nat) (T : RTab) (r : Int) (w : World) (hlo : -2147483648 ≤ r) (hhi : r ≤ 2147483647) (hA : RTabAt Tb oT T w) (hok : RTabOk T) :
    Calls Tryd.prog 107 #[.pointer (some ⟨Tb, oT, none⟩), .int .i32 r] w fun e w' => e = .returned (.bool (exclGo T r)) ∧ Below w.heap.size w w' := Any.unicode_isExcludingLatin_any Tryd.lays261 Tb oT T r w hlo hhi hA hok
end Go.Proofs
