/-
  DERIVED: THE SHELF's CONTRACTS AT THIS DUMP, IN PLAIN WORDS (tools/lay-plain.mjs out of 'TryzShelf.lean', which tools/lay-shelf.mjs wrote): THE SAME DECLARATIONS UNDER THE SAME NAMES: 'import', 'namespace', 'open', 'def', 'theorem' AND NOTHING ELSE: no command of the shelf's: FOR A HAND-IN. Each laying: the table of numbers ('.._ren') and one theorem, a field a fact of the dump's own or the kernel's comparison; each contract: ONE APPLICATION.
-/
import Derived.Test.YtbcnhcpgloncdaaGreatDoorA2
import Derived.Test.YtbcnhcpgloncdaaGreatDoorProg
import Derived.Shelf.Strings.Builder1
import Derived.Shelf.Strings.Builder2
import Derived.Shelf.Strings.OnBuilder
import Derived.Shelf.Small.Utf8
import Derived.Shelf.Small.Bits
import Derived.Shelf.Strings.BuilderF
import Derived.Shelf.Strings.BuilderK
import Derived.Shelf.Strings.BuilderRune
import Derived.Shelf.Strconv.Itoa0
import Derived.Shelf.Strconv.Itoa1
import Derived.Shelf.LaysM
import Derived.Shelf.Strconv.Itoa2
import Derived.Shelf.Strconv.Itoa3
import Derived.Shelf.Sort.Plain
import Derived.Shelf.Strings.Prefix
import Derived.Shelf.Unicode.Latin
import Derived.Shelf.Unicode.Decode
import Derived.Shelf.Bits.Mul64
import Derived.Shelf.Unicode.DecodeSlow
import Derived.Shelf.Unicode.DecodeAny
import Derived.Shelf.Unicode.CaseLookup
import Derived.Shelf.Unicode.CaseConvert
import Derived.Shelf.Unicode.CaseTo
import Derived.Shelf.Unicode.CaseLaid
import Derived.Shelf.Strings.MapAny
import Derived.Shelf.Strings.CaseAny
namespace Go.Proofs
open Go.Shelf
def Tryz.lays169_ren : Go.Shelf.Ren := ⟨fun | 169 => 139 | n => n, fun | 70 => 127 | 9 => 9 | 0 => 0 | 72 => 130 | 37 => 128 | 127 => 162 | 3 => 3 | 5 => 5 | n => n, fun | n => n⟩
theorem Tryz.lays169 : Go.Proofs.Lays.n169 Tryz.prog Tryz.lays169_ren := {
  mixed := by kernel_rfl
  f169 := Tryz.func139.trans (congrArg some (by kernel_rfl))
  t0 := Tryz.underlying0
  a0 := Tryz.isAgg0
  z0 := Tryz.sizeOf0
  v0 := Tryz.zeroValue0
  t3 := Tryz.underlying3
  a3 := Tryz.isAgg3
  z3 := Tryz.sizeOf3
  v3 := Tryz.zeroValue3
  t9 := Tryz.underlying9
  a9 := Tryz.isAgg9
  z9 := Tryz.sizeOf9
  v9 := Tryz.zeroValue9
  t37 := Tryz.underlying128
  a37 := Tryz.isAgg128
  z37 := Tryz.sizeOf128
  v37 := Tryz.zeroValue128
  t70 := Tryz.underlying127
  a70 := Tryz.isAgg127
  z70 := Tryz.sizeOf127
  v70 := Tryz.zeroValue127
  t72 := Tryz.underlying130
  a72 := Tryz.isAgg130
  z72 := Tryz.sizeOf130
  v72 := Tryz.zeroValue130
  t127 := Tryz.underlying162
  a127 := Tryz.isAgg162
  z127 := Tryz.sizeOf162
  v127 := Tryz.zeroValue162 }
theorem Tryz.Builder_Extra_169 : Builder.Extra Tryz.prog Tryz.lays169_ren := {
  sizeBuilder := by kernel_rfl
  liesBuilder := by kernel_rfl
  t5 := Tryz.underlying5
  a5 := Tryz.isAgg5
  z5 := Tryz.sizeOf5
  v5 := Tryz.zeroValue5
  infoByte := by kernel_rfl
  cellsByte := by kernel_rfl
  sizeByte := by kernel_rfl
  neB5 := by decide }
open Go.RowKit in
/-- (*strings.Builder).String: "String returns the accumulated string.": OF A BUILDER THAT HOLDS AT LEAST ONE BYTE. ✋ THE MODEL FREEZES THOSE BYTES IN THE BUFFER (unsafe.String): a later write INTO them ends the model's run without an answer; a later append BEHIND them goes on. The statement's order of evaluation is drawn: one draw. (LAID: no walk: one application.) -/
theorem Tryz.Builder_String (B b : Nat) (l : List UInt8) (w : World) (h : Lib.IsBuilder 130 5 B b (Lib.byteCells l) w) (h0 : l ≠ []) :
    Calls Tryz.prog 139 #[.pointer (some ⟨b, 0, none⟩)] w fun e w' => e = .returned (.string ⟨l.toArray⟩) ∧ Below B w w' := Any.Builder_String Tryz.lays169 Tryz.Builder_Extra_169 B b l w h h0
open Go.RowKit in
/-- (*strings.Builder).String OF A BUILDER THAT HOLDS NO BYTE: the empty string. (Its buffer is nil, or a row of which it has taken nothing yet; where that row has NO capacity the model lays one new block for unsafe.SliceData's 'some address'.) One draw. (LAID: no walk: one application.) -/
theorem Tryz.Builder_String_empty (B b : Nat) (w : World) (h : Lib.IsBuilder 130 5 B b [] w) (hBw : B ≤ w.heap.size) :
    Calls Tryz.prog 139 #[.pointer (some ⟨b, 0, none⟩)] w fun e w' => e = .returned (.string ⟨#[]⟩) ∧ Below B w w' := Any.Builder_String_empty Tryz.lays169 Tryz.Builder_Extra_169 B b w h hBw
open Go.RowKit in
/-- (*strings.Builder).String: "String returns the accumulated string.": WHATEVER THE BUILDER HOLDS. (LAID: no walk: one application.) -/
theorem Tryz.Builder_String_any (B b : Nat) (l : List UInt8) (w : World) (h : Lib.IsBuilder 130 5 B b (Lib.byteCells l) w) (hBw : B ≤ w.heap.size) :
    Calls Tryz.prog 139 #[.pointer (some ⟨b, 0, none⟩)] w fun e w' => e = .returned (.string ⟨l.toArray⟩) ∧ Below B w w' := Any.Builder_String_any Tryz.lays169 Tryz.Builder_Extra_169 B b l w h hBw
def Tryz.lays241_ren : Go.Shelf.Ren := ⟨fun | 241 => 162 | 277 => 177 | n => n, fun | 70 => 127 | 3 => 3 | 0 => 0 | 72 => 130 | 37 => 128 | 5 => 5 | n => n, fun | n => n⟩
theorem Tryz.lays241 : Go.Proofs.Lays.n241 Tryz.prog Tryz.lays241_ren := {
  mixed := by kernel_rfl
  f241 := Tryz.func162.trans (congrArg some (by kernel_rfl))
  f277 := Tryz.func177.trans (congrArg some (by kernel_rfl))
  t0 := Tryz.underlying0
  a0 := Tryz.isAgg0
  z0 := Tryz.sizeOf0
  v0 := Tryz.zeroValue0
  t3 := Tryz.underlying3
  a3 := Tryz.isAgg3
  z3 := Tryz.sizeOf3
  v3 := Tryz.zeroValue3
  t37 := Tryz.underlying128
  a37 := Tryz.isAgg128
  z37 := Tryz.sizeOf128
  v37 := Tryz.zeroValue128
  t70 := Tryz.underlying127
  a70 := Tryz.isAgg127
  z70 := Tryz.sizeOf127
  v70 := Tryz.zeroValue127
  t72 := Tryz.underlying130
  a72 := Tryz.isAgg130
  z72 := Tryz.sizeOf130
  v72 := Tryz.zeroValue130 }
theorem Tryz.Builder_Extra_241 : Builder.Extra Tryz.prog Tryz.lays241_ren := {
  sizeBuilder := by kernel_rfl
  liesBuilder := by kernel_rfl
  t5 := Tryz.underlying5
  a5 := Tryz.isAgg5
  z5 := Tryz.sizeOf5
  v5 := Tryz.zeroValue5
  infoByte := by kernel_rfl
  cellsByte := by kernel_rfl
  sizeByte := by kernel_rfl
  neB5 := by decide }
open Go.RowKit in
/-- (*strings.Builder).grow (no doc but "grow copies the buffer to a new, larger buffer so that there are at least n bytes of capacity beyond len(b.buf)."): AT A BUILDER WITHOUT A BUFFER: a new row of whatever bytes for its buffer, none of them its own yet. Three draws. (LAID: no walk: one application.) -/
theorem Tryz.Builder_grow_fresh (B b n : Nat) (w : World) (hB : B ≤ b) (hbk : w.heap[b]? = some (.cells #[.pointer (some ⟨b, 0, none⟩), .slice none 0 0] 130 (0, 0))) (hBw : B ≤ w.heap.size) (hn : n ≤ 281474976710656) :
    Calls Tryz.prog 162 #[.pointer (some ⟨b, 0, none⟩), .int .i64 n] w fun e w' => e = .returned (.tuple #[]) ∧ (Lib.BuilderAt 130 5 B b (.pointer (some ⟨b, 0, none⟩)) [] w' ∧ Below B w w') := Any.Builder_grow_fresh Tryz.lays241 Tryz.Builder_Extra_241 B b n w hB hbk hBw hn
def Tryz.lays165_ren : Go.Shelf.Ren := ⟨fun | 165 => 136 | 240 => 161 | 241 => 162 | 276 => 176 | 277 => 177 | n => n, fun | 70 => 127 | 3 => 3 | 0 => 0 | 4 => 4 | 9 => 9 | 20 => 20 | 72 => 130 | 37 => 128 | 164 => 180 | 5 => 5 | n => n, fun | n => n⟩
theorem Tryz.lays165 : Go.Proofs.Lays.n165 Tryz.prog Tryz.lays165_ren := {
  mixed := by kernel_rfl
  f165 := Tryz.func136.trans (congrArg some (by kernel_rfl))
  f240 := Tryz.func161.trans (congrArg some (by kernel_rfl))
  f241 := Tryz.func162.trans (congrArg some (by kernel_rfl))
  f276 := Tryz.func176.trans (congrArg some (by kernel_rfl))
  f277 := Tryz.func177.trans (congrArg some (by kernel_rfl))
  t0 := Tryz.underlying0
  a0 := Tryz.isAgg0
  z0 := Tryz.sizeOf0
  v0 := Tryz.zeroValue0
  t3 := Tryz.underlying3
  a3 := Tryz.isAgg3
  z3 := Tryz.sizeOf3
  v3 := Tryz.zeroValue3
  t4 := Tryz.underlying4
  a4 := Tryz.isAgg4
  z4 := Tryz.sizeOf4
  v4 := Tryz.zeroValue4
  t9 := Tryz.underlying9
  a9 := Tryz.isAgg9
  z9 := Tryz.sizeOf9
  v9 := Tryz.zeroValue9
  t20 := Tryz.underlying20
  a20 := Tryz.isAgg20
  z20 := Tryz.sizeOf20
  v20 := Tryz.zeroValue20
  t37 := Tryz.underlying128
  a37 := Tryz.isAgg128
  z37 := Tryz.sizeOf128
  v37 := Tryz.zeroValue128
  t70 := Tryz.underlying127
  a70 := Tryz.isAgg127
  z70 := Tryz.sizeOf127
  v70 := Tryz.zeroValue127
  t72 := Tryz.underlying130
  a72 := Tryz.isAgg130
  z72 := Tryz.sizeOf130
  v72 := Tryz.zeroValue130
  t164 := Tryz.underlying180
  a164 := Tryz.isAgg180
  z164 := Tryz.sizeOf180
  v164 := Tryz.zeroValue180 }
theorem Tryz.Builder_Extra_165 : Builder.Extra Tryz.prog Tryz.lays165_ren := {
  sizeBuilder := by kernel_rfl
  liesBuilder := by kernel_rfl
  t5 := Tryz.underlying5
  a5 := Tryz.isAgg5
  z5 := Tryz.sizeOf5
  v5 := Tryz.zeroValue5
  infoByte := by kernel_rfl
  cellsByte := by kernel_rfl
  sizeByte := by kernel_rfl
  neB5 := by decide }
open Go.RowKit in
/-- (*strings.Builder).Grow AT A BUILDER THAT HAS NOT BEEN WRITTEN ('var b strings.Builder; b.Grow(n)'): "Grow grows b's capacity, if necessary, to guarantee space for another n bytes.": it holds no byte behind it as before it. (LAID: no walk: one application.) -/
theorem Tryz.Builder_Grow_fresh (B b n : Nat) (w : World) (hB : B ≤ b) (hbk : w.heap[b]? = some (.cells #[.pointer none, .slice none 0 0] 130 (0, 0))) (hBw : B ≤ w.heap.size) (hn : n ≤ 281474976710656) :
    Calls Tryz.prog 136 #[.pointer (some ⟨b, 0, none⟩), .int .i64 n] w fun e w' => e = .returned (.tuple #[]) ∧ (Lib.BuilderAt 130 5 B b (.pointer (some ⟨b, 0, none⟩)) [] w' ∧ Below B w w') := Any.Builder_Grow_fresh Tryz.lays165 Tryz.Builder_Extra_165 B b n w hB hbk hBw hn
def Tryz.lays159_ren : Go.Shelf.Ren := ⟨fun | 159 => 126 | 165 => 136 | 166 => 137 | 167 => 138 | 169 => 139 | 230 => 140 | 204 => 141 | 240 => 161 | 241 => 162 | 197 => 163 | 118 => 164 | 168 => 165 | 270 => 166 | 262 => 167 | 276 => 176 | 277 => 177 | 260 => 178 | 242 => 179 | 313 => 180 | 278 => 212 | 274 => 213 | 275 => 214 | n => n, fun | 9 => 9 | 4 => 4 | 3 => 3 | 5 => 5 | 72 => 130 | 0 => 0 | 76 => 132 | 75 => 61 | 107 => 137 | 70 => 127 | 20 => 20 | 37 => 128 | 127 => 162 | 21 => 21 | 105 => 163 | 164 => 180 | 162 => 186 | 203 => 184 | 119 => 235 | 46 => 189 | 139 => 238 | 138 => 237 | 51 => 191 | 160 => 239 | 208 => 280 | 206 => 278 | 80 => 135 | n => n, fun | 13 => 2 | 3 => 7 | 4 => 8 | n => n⟩
theorem Tryz.lays159 : Go.Proofs.Lays.n159 Tryz.prog Tryz.lays159_ren := {
  mixed := by kernel_rfl
  f118 := Tryz.func164.trans (congrArg some (by kernel_rfl))
  f159 := Tryz.func126.trans (congrArg some (by kernel_rfl))
  f165 := Tryz.func136.trans (congrArg some (by kernel_rfl))
  f166 := Tryz.func137.trans (congrArg some (by kernel_rfl))
  f167 := Tryz.func138.trans (congrArg some (by kernel_rfl))
  f168 := Tryz.func165.trans (congrArg some (by kernel_rfl))
  f169 := Tryz.func139.trans (congrArg some (by kernel_rfl))
  f197 := Tryz.func163.trans (congrArg some (by kernel_rfl))
  f204 := Tryz.func141.trans (congrArg some (by kernel_rfl))
  f230 := Tryz.func140.trans (congrArg some (by kernel_rfl))
  f240 := Tryz.func161.trans (congrArg some (by kernel_rfl))
  f241 := Tryz.func162.trans (congrArg some (by kernel_rfl))
  f242 := Tryz.func179.trans (congrArg some (by kernel_rfl))
  f260 := Tryz.func178.trans (congrArg some (by kernel_rfl))
  f262 := Tryz.func167.trans (congrArg some (by kernel_rfl))
  f270 := Tryz.func166.trans (congrArg some (by kernel_rfl))
  f274 := Tryz.func213.trans (congrArg some (by kernel_rfl))
  f275 := Tryz.func214.trans (congrArg some (by kernel_rfl))
  f276 := Tryz.func176.trans (congrArg some (by kernel_rfl))
  f277 := Tryz.func177.trans (congrArg some (by kernel_rfl))
  f278 := Tryz.func212.trans (congrArg some (by kernel_rfl))
  f313 := Tryz.func180.trans (congrArg some (by kernel_rfl))
  t0 := Tryz.underlying0
  a0 := Tryz.isAgg0
  z0 := Tryz.sizeOf0
  v0 := Tryz.zeroValue0
  t3 := Tryz.underlying3
  a3 := Tryz.isAgg3
  z3 := Tryz.sizeOf3
  v3 := Tryz.zeroValue3
  t4 := Tryz.underlying4
  a4 := Tryz.isAgg4
  z4 := Tryz.sizeOf4
  v4 := Tryz.zeroValue4
  t5 := Tryz.underlying5
  a5 := Tryz.isAgg5
  z5 := Tryz.sizeOf5
  v5 := Tryz.zeroValue5
  t9 := Tryz.underlying9
  a9 := Tryz.isAgg9
  z9 := Tryz.sizeOf9
  v9 := Tryz.zeroValue9
  t20 := Tryz.underlying20
  a20 := Tryz.isAgg20
  z20 := Tryz.sizeOf20
  v20 := Tryz.zeroValue20
  t21 := Tryz.underlying21
  a21 := Tryz.isAgg21
  z21 := Tryz.sizeOf21
  v21 := Tryz.zeroValue21
  t37 := Tryz.underlying128
  a37 := Tryz.isAgg128
  z37 := Tryz.sizeOf128
  v37 := Tryz.zeroValue128
  t46 := Tryz.underlying189
  a46 := Tryz.isAgg189
  z46 := Tryz.sizeOf189
  v46 := Tryz.zeroValue189
  t51 := Tryz.underlying191
  a51 := Tryz.isAgg191
  z51 := Tryz.sizeOf191
  v51 := Tryz.zeroValue191
  t70 := Tryz.underlying127
  a70 := Tryz.isAgg127
  z70 := Tryz.sizeOf127
  v70 := Tryz.zeroValue127
  t72 := Tryz.underlying130
  a72 := Tryz.isAgg130
  z72 := Tryz.sizeOf130
  v72 := Tryz.zeroValue130
  t75 := Tryz.underlying61
  a75 := Tryz.isAgg61
  z75 := Tryz.sizeOf61
  v75 := Tryz.zeroValue61
  t76 := Tryz.underlying132
  a76 := Tryz.isAgg132
  z76 := Tryz.sizeOf132
  v76 := Tryz.zeroValue132
  t105 := Tryz.underlying163
  a105 := Tryz.isAgg163
  z105 := Tryz.sizeOf163
  v105 := Tryz.zeroValue163
  t107 := Tryz.underlying137
  a107 := Tryz.isAgg137
  z107 := Tryz.sizeOf137
  v107 := Tryz.zeroValue137
  t119 := Tryz.underlying235
  a119 := Tryz.isAgg235
  z119 := Tryz.sizeOf235
  t127 := Tryz.underlying162
  a127 := Tryz.isAgg162
  z127 := Tryz.sizeOf162
  v127 := Tryz.zeroValue162
  t138 := Tryz.underlying237
  a138 := Tryz.isAgg237
  z138 := Tryz.sizeOf237
  v138 := Tryz.zeroValue237
  t139 := Tryz.underlying238
  a139 := Tryz.isAgg238
  z139 := Tryz.sizeOf238
  v139 := Tryz.zeroValue238
  t160 := Tryz.underlying239
  a160 := Tryz.isAgg239
  z160 := Tryz.sizeOf239
  v160 := Tryz.zeroValue239
  t162 := Tryz.underlying186
  a162 := Tryz.isAgg186
  z162 := Tryz.sizeOf186
  v162 := Tryz.zeroValue186
  t164 := Tryz.underlying180
  a164 := Tryz.isAgg180
  z164 := Tryz.sizeOf180
  v164 := Tryz.zeroValue180
  t203 := Tryz.underlying184
  a203 := Tryz.isAgg184
  z203 := Tryz.sizeOf184
  v203 := Tryz.zeroValue184
  t206 := Tryz.underlying278
  a206 := Tryz.isAgg278
  z206 := Tryz.sizeOf278
  v206 := Tryz.zeroValue278
  t208 := Tryz.underlying280
  a208 := Tryz.isAgg280
  z208 := Tryz.sizeOf280
  v208 := Tryz.zeroValue280
  g3 := by kernel_rfl
  g4 := by kernel_rfl
  g13 := by kernel_rfl }
theorem Tryz.Builder_Extra_159 : Builder.Extra Tryz.prog Tryz.lays159_ren := {
  sizeBuilder := by kernel_rfl
  liesBuilder := by kernel_rfl
  t5 := Tryz.underlying5
  a5 := Tryz.isAgg5
  z5 := Tryz.sizeOf5
  v5 := Tryz.zeroValue5
  infoByte := by kernel_rfl
  cellsByte := by kernel_rfl
  sizeByte := by kernel_rfl
  neB5 := by decide }
open Go.RowKit in
/-- strings.ToLower: "ToLower returns s with all Unicode letters mapped to their lower case.": ON ASCII TEXT OF AT MOST 2^47 BYTES. Below the heap's end the world is as it was: where a letter turns, the call makes a builder and its buffer. (LAID: no walk: one application.) -/
theorem Tryz.strings_ToLower_ascii (s : ByteArray) (w : World) (hs : s.size ≤ 140737488355328) (hascii : ∀ (j : Nat) (b : UInt8), s.data.toList[j]? = some b → b.toNat < 128) :
    Calls Tryz.prog 126 #[.string s] w fun e w' => e = .returned (.string ⟨(Lib.toLowerA s.data.toList).toArray⟩) ∧ Below w.heap.size w w' := Any.strings_ToLower_ascii Tryz.lays159 Tryz.Builder_Extra_159 s w hs hascii
def Tryz.lays118_ren : Go.Shelf.Ren := ⟨fun | 118 => 164 | n => n, fun | 21 => 21 | 3 => 3 | 4 => 4 | n => n, fun | n => n⟩
theorem Tryz.lays118 : Go.Proofs.Lays.n118 Tryz.prog Tryz.lays118_ren := {
  mixed := by kernel_rfl
  f118 := Tryz.func164.trans (congrArg some (by kernel_rfl))
  t3 := Tryz.underlying3
  a3 := Tryz.isAgg3
  z3 := Tryz.sizeOf3
  v3 := Tryz.zeroValue3
  t4 := Tryz.underlying4
  a4 := Tryz.isAgg4
  z4 := Tryz.sizeOf4
  v4 := Tryz.zeroValue4
  t21 := Tryz.underlying21
  a21 := Tryz.isAgg21
  z21 := Tryz.sizeOf21
  v21 := Tryz.zeroValue21 }
/-- utf8.RuneLen: "RuneLen returns the number of bytes in the UTF-8 encoding of the rune. It returns -1 if the rune is not a valid value to encode in UTF-8.": IT RETURNS 'Lib.runeLen r'; the world is as it was. (LAID: no walk: one application.) -/
theorem Tryz.utf8_RuneLen (r : Int) (w : World) :
    Calls Tryz.prog 164 #[.int .i32 r] w fun e w' => e = .returned (.int .i64 (Lib.runeLen r)) ∧ w' = w := Any.utf8_RuneLen Tryz.lays118 r w
def Tryz.lays128_ren : Go.Shelf.Ren := ⟨fun | 128 => 224 | n => n, fun | 51 => 191 | 3 => 3 | 4 => 4 | 46 => 189 | 5 => 5 | 9 => 9 | n => n, fun | n => n⟩
theorem Tryz.lays128 : Go.Proofs.Lays.n128 Tryz.prog Tryz.lays128_ren := {
  mixed := by kernel_rfl
  f128 := Tryz.func224.trans (congrArg some (by kernel_rfl))
  t3 := Tryz.underlying3
  a3 := Tryz.isAgg3
  z3 := Tryz.sizeOf3
  v3 := Tryz.zeroValue3
  t4 := Tryz.underlying4
  a4 := Tryz.isAgg4
  z4 := Tryz.sizeOf4
  v4 := Tryz.zeroValue4
  t5 := Tryz.underlying5
  a5 := Tryz.isAgg5
  z5 := Tryz.sizeOf5
  v5 := Tryz.zeroValue5
  t9 := Tryz.underlying9
  a9 := Tryz.isAgg9
  z9 := Tryz.sizeOf9
  v9 := Tryz.zeroValue9
  t46 := Tryz.underlying189
  a46 := Tryz.isAgg189
  z46 := Tryz.sizeOf189
  v46 := Tryz.zeroValue189
  t51 := Tryz.underlying191
  a51 := Tryz.isAgg191
  z51 := Tryz.sizeOf191
  v51 := Tryz.zeroValue191 }
/-- bits.Len32: "Len32 returns the minimum number of bits required to represent x; the result is 0 for x == 0.": IT RETURNS 'Lib.bitLen x'; the world is as it was. ('h0', 'h1': x is a uint32.) (LAID: no walk: one application.) -/
theorem Tryz.bits_Len32 (x : Int) (w : World) (h0 : 0 ≤ x) (h1 : x ≤ 4294967295) :
    Calls Tryz.prog 224 #[.int .u32 x] w fun e w' => e = .returned (.int .i64 (Lib.bitLen x.toNat)) ∧ w' = w := Any.bits_Len32 Tryz.lays128 x w h0 h1
def Tryz.lays125_ren : Go.Shelf.Ren := ⟨fun | 125 => 182 | 128 => 224 | 129 => 188 | n => n, fun | 46 => 189 | 3 => 3 | 51 => 191 | 53 => 190 | 4 => 4 | 5 => 5 | 9 => 9 | n => n, fun | n => n⟩
theorem Tryz.lays125 : Go.Proofs.Lays.n125 Tryz.prog Tryz.lays125_ren := {
  mixed := by kernel_rfl
  f125 := Tryz.func182.trans (congrArg some (by kernel_rfl))
  f128 := Tryz.func224.trans (congrArg some (by kernel_rfl))
  f129 := Tryz.func188.trans (congrArg some (by kernel_rfl))
  t3 := Tryz.underlying3
  a3 := Tryz.isAgg3
  z3 := Tryz.sizeOf3
  v3 := Tryz.zeroValue3
  t4 := Tryz.underlying4
  a4 := Tryz.isAgg4
  z4 := Tryz.sizeOf4
  v4 := Tryz.zeroValue4
  t5 := Tryz.underlying5
  a5 := Tryz.isAgg5
  z5 := Tryz.sizeOf5
  v5 := Tryz.zeroValue5
  t9 := Tryz.underlying9
  a9 := Tryz.isAgg9
  z9 := Tryz.sizeOf9
  v9 := Tryz.zeroValue9
  t46 := Tryz.underlying189
  a46 := Tryz.isAgg189
  z46 := Tryz.sizeOf189
  v46 := Tryz.zeroValue189
  t51 := Tryz.underlying191
  a51 := Tryz.isAgg191
  z51 := Tryz.sizeOf191
  v51 := Tryz.zeroValue191
  t53 := Tryz.underlying190
  a53 := Tryz.isAgg190
  z53 := Tryz.sizeOf190
  v53 := Tryz.zeroValue190 }
/-- bits.Len: "Len returns the minimum number of bits required to represent x; the result is 0 for x == 0.": IT RETURNS 'Lib.bitLen x'; the world is as it was. (A uint has 64 bits in the model.) ITS CALLEE bits.Len64 IS MET BY ITS OWN CONTRACT OFF THE SHELF (lay that first). (LAID: no walk: one application.) -/
theorem Tryz.bits_Len (x : Int) (w : World) (h0 : 0 ≤ x) (h1 : x ≤ 18446744073709551615) :
    Calls Tryz.prog 182 #[.int .u64 x] w fun e w' => e = .returned (.int .i64 (Lib.bitLen x.toNat)) ∧ w' = w := Any.bits_Len Tryz.lays125 x w h0 h1
open Go.RowKit in
/-- (*strings.Builder).String: "String returns the accumulated string.": OF A BUILDER THAT HOLDS AT LEAST ONE BYTE. ✋ THE MODEL FREEZES THOSE BYTES IN THE BUFFER (unsafe.String): a later write INTO them ends the model's run without an answer; a later append BEHIND them goes on. The statement's order of evaluation is drawn: one draw. THE FORM '_f': IT SAYS BESIDES THAT THE BUILDER IS A BUILDER STILL ('Lib.IsBuilderF', the same bytes): SO IT CAN BE WRITTEN ON: 'b.WriteString(b.String()[:k])'. (LAID: no walk: one application.) -/
theorem Tryz.Builder_String_f (B b : Nat) (l : List UInt8) (w : World) (h : Lib.IsBuilderF 130 5 B b (Lib.byteCells l) w) (h0 : l ≠ []) :
    Calls Tryz.prog 139 #[.pointer (some ⟨b, 0, none⟩)] w fun e w' => e = .returned (.string ⟨l.toArray⟩) ∧ (Lib.IsBuilderF 130 5 B b (Lib.byteCells l) w' ∧ Below B w w') := Any.Builder_String_f Tryz.lays169 Tryz.Builder_Extra_169 B b l w h h0
open Go.RowKit in
/-- (*strings.Builder).String OF A BUILDER THAT HOLDS NO BYTE: the empty string; THE FORM '_f': a builder still. (LAID: no walk: one application.) -/
theorem Tryz.Builder_String_empty_f (B b : Nat) (w : World) (h : Lib.IsBuilderF 130 5 B b [] w) (hBw : B ≤ w.heap.size) :
    Calls Tryz.prog 139 #[.pointer (some ⟨b, 0, none⟩)] w fun e w' => e = .returned (.string ⟨#[]⟩) ∧ (Lib.IsBuilderF 130 5 B b [] w' ∧ Below B w w') := Any.Builder_String_empty_f Tryz.lays169 Tryz.Builder_Extra_169 B b w h hBw
open Go.RowKit in
/-- (*strings.Builder).String: "String returns the accumulated string.": WHATEVER THE BUILDER HOLDS; THE FORM '_f': OF A BUILDER THAT MAY HAVE BEEN READ BEFORE; AND IT IS A BUILDER STILL, holding the same bytes: it can be written on. (LAID: no walk: one application.) -/
theorem Tryz.Builder_String_any_f (B b : Nat) (l : List UInt8) (w : World) (h : Lib.IsBuilderF 130 5 B b (Lib.byteCells l) w) (hBw : B ≤ w.heap.size) :
    Calls Tryz.prog 139 #[.pointer (some ⟨b, 0, none⟩)] w fun e w' => e = .returned (.string ⟨l.toArray⟩) ∧ (Lib.IsBuilderF 130 5 B b (Lib.byteCells l) w' ∧ Below B w w') := Any.Builder_String_any_f Tryz.lays169 Tryz.Builder_Extra_169 B b l w h hBw
open Go.RowKit in
/-- (*strings.Builder).String: "String returns the accumulated string.": OF A BUILDER THAT HOLDS AT LEAST ONE BYTE. ✋ THE MODEL FREEZES THOSE BYTES IN THE BUFFER (unsafe.String): a later write INTO them ends the model's run without an answer; a later append BEHIND them goes on. The statement's order of evaluation is drawn: one draw. THE FORM '_k': OVER 'Lib.IsBuilderF' (a builder that 'String()' may have read), AND WITH THE FRAME THAT REACHES ABOVE THE BUILDER: 'Lib.OthersKept': every block that is not b and is no row of uint8's stands as it stood: the iterator of a range among them. (LAID: no walk: one application.) -/
theorem Tryz.Builder_String_k (B b : Nat) (l : List UInt8) (w : World) (h : Lib.IsBuilderF 130 5 B b (Lib.byteCells l) w) (h0 : l ≠ []) :
    Calls Tryz.prog 139 #[.pointer (some ⟨b, 0, none⟩)] w fun e w' => e = .returned (.string ⟨l.toArray⟩) ∧ (Lib.IsBuilderF 130 5 B b (Lib.byteCells l) w' ∧ Below B w w' ∧ Lib.OthersKept 5 (some b) w w') := Any.Builder_String_k Tryz.lays169 Tryz.Builder_Extra_169 B b l w h h0
open Go.RowKit in
/-- (*strings.Builder).String OF A BUILDER THAT HOLDS NO BYTE: the empty string; THE FORM '_k': OVER 'Lib.IsBuilderF' (a builder that 'String()' may have read), AND WITH THE FRAME THAT REACHES ABOVE THE BUILDER: 'Lib.OthersKept': every block that is not b and is no row of uint8's stands as it stood: the iterator of a range among them. (LAID: no walk: one application.) -/
theorem Tryz.Builder_String_empty_k (B b : Nat) (w : World) (h : Lib.IsBuilderF 130 5 B b [] w) (hBw : B ≤ w.heap.size) :
    Calls Tryz.prog 139 #[.pointer (some ⟨b, 0, none⟩)] w fun e w' => e = .returned (.string ⟨#[]⟩) ∧ (Lib.IsBuilderF 130 5 B b [] w' ∧ Below B w w' ∧ Lib.OthersKept 5 (some b) w w') := Any.Builder_String_empty_k Tryz.lays169 Tryz.Builder_Extra_169 B b w h hBw
open Go.RowKit in
/-- (*strings.Builder).String: "String returns the accumulated string.": WHATEVER THE BUILDER HOLDS; THE FORM '_k': OVER 'Lib.IsBuilderF' (a builder that 'String()' may have read), AND WITH THE FRAME THAT REACHES ABOVE THE BUILDER: 'Lib.OthersKept': every block that is not b and is no row of uint8's stands as it stood: the iterator of a range among them. (LAID: no walk: one application.) -/
theorem Tryz.Builder_String_any_k (B b : Nat) (l : List UInt8) (w : World) (h : Lib.IsBuilderF 130 5 B b (Lib.byteCells l) w) (hBw : B ≤ w.heap.size) :
    Calls Tryz.prog 139 #[.pointer (some ⟨b, 0, none⟩)] w fun e w' => e = .returned (.string ⟨l.toArray⟩) ∧ (Lib.IsBuilderF 130 5 B b (Lib.byteCells l) w' ∧ Below B w w' ∧ Lib.OthersKept 5 (some b) w w') := Any.Builder_String_any_k Tryz.lays169 Tryz.Builder_Extra_169 B b l w h hBw
def Tryz.lays129_ren : Go.Shelf.Ren := ⟨fun | 129 => 188 | n => n, fun | 53 => 190 | 3 => 3 | 4 => 4 | 46 => 189 | 5 => 5 | 9 => 9 | n => n, fun | n => n⟩
theorem Tryz.lays129 : Go.Proofs.Lays.n129 Tryz.prog Tryz.lays129_ren := {
  mixed := by kernel_rfl
  f129 := Tryz.func188.trans (congrArg some (by kernel_rfl))
  t3 := Tryz.underlying3
  a3 := Tryz.isAgg3
  z3 := Tryz.sizeOf3
  v3 := Tryz.zeroValue3
  t4 := Tryz.underlying4
  a4 := Tryz.isAgg4
  z4 := Tryz.sizeOf4
  v4 := Tryz.zeroValue4
  t5 := Tryz.underlying5
  a5 := Tryz.isAgg5
  z5 := Tryz.sizeOf5
  v5 := Tryz.zeroValue5
  t9 := Tryz.underlying9
  a9 := Tryz.isAgg9
  z9 := Tryz.sizeOf9
  v9 := Tryz.zeroValue9
  t46 := Tryz.underlying189
  a46 := Tryz.isAgg189
  z46 := Tryz.sizeOf189
  v46 := Tryz.zeroValue189
  t53 := Tryz.underlying190
  a53 := Tryz.isAgg190
  z53 := Tryz.sizeOf190
  v53 := Tryz.zeroValue190 }
/-- bits.Len64: "Len64 returns the minimum number of bits required to represent x; the result is 0 for x == 0.": IT RETURNS 'Lib.bitLen x'; the world is as it was. ('h0', 'h1': x is a uint64.) (LAID: no walk: one application.) -/
theorem Tryz.bits_Len64 (x : Int) (w : World) (h0 : 0 ≤ x) (h1 : x ≤ 18446744073709551615) :
    Calls Tryz.prog 188 #[.int .u64 x] w fun e w' => e = .returned (.int .i64 (Lib.bitLen x.toNat)) ∧ w' = w := Any.bits_Len64 Tryz.lays129 x w h0 h1
def Tryz.lays317_ren : Go.Shelf.Ren := ⟨fun | 317 => 192 | n => n, fun | 3 => 3 | 46 => 189 | n => n, fun | n => n⟩
theorem Tryz.lays317 : Go.Proofs.Lays.n317 Tryz.prog Tryz.lays317_ren := {
  mixed := by kernel_rfl
  f317 := Tryz.func192.trans (congrArg some (by kernel_rfl))
  t3 := Tryz.underlying3
  a3 := Tryz.isAgg3
  z3 := Tryz.sizeOf3
  v3 := Tryz.zeroValue3
  t46 := Tryz.underlying189
  a46 := Tryz.isAgg189
  z46 := Tryz.sizeOf189
  v46 := Tryz.zeroValue189 }
open Go.Lib in
/-- internal/strconv.log10Pow2: "log10Pow2(x) returns ⌊log₁₀ 2**x⌋ = ⌊x * log₁₀ 2⌋.": '(x * 78913) >> 18', at an x up to 64 (a length in bits). The world is as it was. (LAID: no walk: one application.) -/
theorem Tryz.internal_strconv_log10Pow2 (x : Nat) (h : x ≤ 64) (w : World) :
    Calls Tryz.prog 192 #[.int .i64 x] w fun e w' => e = .returned (.int .i64 (Lib.l10 x)) ∧ w' = w := Any.internal_strconv_log10Pow2 Tryz.lays317 x h w
def Tryz.lays318_ren : Go.Shelf.Ren := ⟨fun | 318 => 237 | n => n, fun | 3 => 3 | 4 => 4 | n => n, fun | n => n⟩
theorem Tryz.lays318 : Go.Proofs.Lays.n318 Tryz.prog Tryz.lays318_ren := {
  mixed := by kernel_rfl
  f318 := Tryz.func237.trans (congrArg some (by kernel_rfl))
  t3 := Tryz.underlying3
  a3 := Tryz.isAgg3
  z3 := Tryz.sizeOf3
  v3 := Tryz.zeroValue3
  t4 := Tryz.underlying4
  a4 := Tryz.isAgg4
  z4 := Tryz.sizeOf4
  v4 := Tryz.zeroValue4 }
open Go.Lib in
/-- internal/strconv.bool2: "bool2 converts b to an integer: 1 for true, 0 for false." The world is as it was. (LAID: no walk: one application.) -/
theorem Tryz.internal_strconv_bool2_int (b : Bool) (w : World) :
    Calls Tryz.prog 237 #[.bool b] w fun e w' => e = .returned (.int .i64 (if b then 1 else 0)) ∧ w' = w := Any.internal_strconv_bool2_int Tryz.lays318 b w
def Tryz.lays283_ren : Go.Shelf.Ren := ⟨fun | 283 => 260 | n => n, fun | 3 => 3 | 9 => 9 | 4 => 4 | n => n, fun | n => n⟩
theorem Tryz.lays283 : Go.Proofs.Lays.n283 Tryz.prog Tryz.lays283_ren := {
  mixed := by kernel_rfl
  f283 := Tryz.func260.trans (congrArg some (by kernel_rfl))
  t3 := Tryz.underlying3
  a3 := Tryz.isAgg3
  z3 := Tryz.sizeOf3
  v3 := Tryz.zeroValue3
  t4 := Tryz.underlying4
  a4 := Tryz.isAgg4
  z4 := Tryz.sizeOf4
  v4 := Tryz.zeroValue4
  t9 := Tryz.underlying9
  a9 := Tryz.isAgg9
  z9 := Tryz.sizeOf9
  v9 := Tryz.zeroValue9 }
open Go.Lib in
/-- internal/strconv.small: "small returns the string for an i with 0 <= i < nSmalls.": i's decimal numeral. The world is as it was. (LAID: no walk: one application.) -/
theorem Tryz.internal_strconv_small (i : Nat) (h : i < 100) (w : World) :
    Calls Tryz.prog 260 #[.int .i64 i] w fun e w' => e = .returned (.string ⟨(Lib.decDigits i).toArray⟩) ∧ w' = w := Any.internal_strconv_small Tryz.lays283 i h w
def Tryz.laysM284_ren : Go.Shelf.Ren := ⟨fun | 284 => 191 | 129 => 188 | 317 => 192 | 318 => 237 | n => n, fun | 53 => 190 | 3 => 3 | 212 => 264 | 0 => 0 | 4 => 4 | 46 => 189 | 5 => 5 | 9 => 9 | n => n, fun | 17 => 9 | n => n⟩
theorem Tryz.laysM284 : Go.Proofs.LaysM.n284 Tryz.prog Tryz.laysM284_ren := {
  mixed := by kernel_rfl
  f129 := Tryz.func188.trans (congrArg some (by kernel_rfl))
  f284 := Tryz.func191.trans (congrArg some (by kernel_rfl))
  f317 := Tryz.func192.trans (congrArg some (by kernel_rfl))
  f318 := Tryz.func237.trans (congrArg some (by kernel_rfl))
  t0 := Tryz.underlying0
  a0 := Tryz.isAgg0
  z0 := Tryz.sizeOf0
  v0 := Tryz.zeroValue0
  t3 := Tryz.underlying3
  a3 := Tryz.isAgg3
  z3 := Tryz.sizeOf3
  v3 := Tryz.zeroValue3
  t4 := Tryz.underlying4
  a4 := Tryz.isAgg4
  z4 := Tryz.sizeOf4
  v4 := Tryz.zeroValue4
  t5 := Tryz.underlying5
  a5 := Tryz.isAgg5
  z5 := Tryz.sizeOf5
  v5 := Tryz.zeroValue5
  t9 := Tryz.underlying9
  a9 := Tryz.isAgg9
  z9 := Tryz.sizeOf9
  v9 := Tryz.zeroValue9
  t46 := Tryz.underlying189
  a46 := Tryz.isAgg189
  z46 := Tryz.sizeOf189
  v46 := Tryz.zeroValue189
  t53 := Tryz.underlying190
  a53 := Tryz.isAgg190
  z53 := Tryz.sizeOf190
  v53 := Tryz.zeroValue190
  t212 := Tryz.underlying264
  a212 := Tryz.isAgg264
  z212 := Tryz.sizeOf264
  v212 := Tryz.zeroValue264
  g17 := by kernel_rfl
  i0 := by kernel_rfl
  i3 := by kernel_rfl
  i4 := by kernel_rfl
  i5 := by kernel_rfl
  i9 := by kernel_rfl
  i46 := by kernel_rfl
  i53 := by kernel_rfl
  i212 := by kernel_rfl
  m17 := by kernel_rfl }
open Go.Lib in
/-- internal/strconv.numDigits, at a d that is not 0: THE NUMBER OF d's DECIMAL DIGITS. The world is as it was. (LAID: no walk: one application.) -/
theorem Tryz.internal_strconv_numDigits (u : Nat) (h1 : 1 ≤ u) (h2 : u < 18446744073709551616) (w : World) (htab : Lib.TabIs Tryz.prog w "internal/strconv.uint64pow10" .u64 Lib.pow10Tab) :
    Calls Tryz.prog 191 #[.int .u64 u] w fun e w' => e = .returned (.int .i64 (Lib.nDigits u)) ∧ w' = w := Any.internal_strconv_numDigits Tryz.laysM284 u h1 h2 w htab
def Tryz.lays285_ren : Go.Shelf.Ren := ⟨fun | 285 => 236 | n => n, fun | 37 => 128 | 53 => 190 | 3 => 3 | 4 => 4 | 51 => 191 | 9 => 9 | 5 => 5 | 0 => 0 | n => n, fun | n => n⟩
theorem Tryz.lays285 : Go.Proofs.Lays.n285 Tryz.prog Tryz.lays285_ren := {
  mixed := by kernel_rfl
  f285 := Tryz.func236.trans (congrArg some (by kernel_rfl))
  t0 := Tryz.underlying0
  a0 := Tryz.isAgg0
  z0 := Tryz.sizeOf0
  v0 := Tryz.zeroValue0
  t3 := Tryz.underlying3
  a3 := Tryz.isAgg3
  z3 := Tryz.sizeOf3
  v3 := Tryz.zeroValue3
  t4 := Tryz.underlying4
  a4 := Tryz.isAgg4
  z4 := Tryz.sizeOf4
  v4 := Tryz.zeroValue4
  t5 := Tryz.underlying5
  a5 := Tryz.isAgg5
  z5 := Tryz.sizeOf5
  v5 := Tryz.zeroValue5
  t9 := Tryz.underlying9
  a9 := Tryz.isAgg9
  z9 := Tryz.sizeOf9
  v9 := Tryz.zeroValue9
  t37 := Tryz.underlying128
  a37 := Tryz.isAgg128
  z37 := Tryz.sizeOf128
  v37 := Tryz.zeroValue128
  t51 := Tryz.underlying191
  a51 := Tryz.isAgg191
  z51 := Tryz.sizeOf191
  v51 := Tryz.zeroValue191
  t53 := Tryz.underlying190
  a53 := Tryz.isAgg190
  z53 := Tryz.sizeOf190
  v53 := Tryz.zeroValue190 }
open Go.RowKit Go.Sort Go.Lib in
/-- internal/strconv.formatBase10: "formatBase10 formats the decimal representation of u into a. The caller is responsible for ensuring that a is big enough to hold u. If a is too big, leading zeros will be filled in as needed.": THE ROW HOLDS u's DIGITS ('FmtInv .. 0 ..': every place t holds 'dg u (len - 1 - t)'); all else is as it was but for the count of draws. (LAID: no walk: one application.) -/
theorem Tryz.internal_strconv_formatBase10 (blk off cap : Nat) (u : Nat) (d : Array UInt8) (w : World) (hH : Holds (fun (b : UInt8) => Value.int .u8 (b.toNat : Int)) w blk off d) (hu : u < 10 ^ d.size) (hu64 : u < 18446744073709551616) (hsz : d.size < 4611686018427387904) :
    Calls Tryz.prog 236 #[.slice (some ⟨blk, off, none⟩) d.size cap, .int .u64 u] w fun e w' =>
      e = .returned (.tuple #[]) ∧ ∃ (n v' : Nat) (dk : Array UInt8), w' = (putRow (fun (b : UInt8) => Value.int .u8 (b.toNat : Int)) w blk off dk).drewN n ∧ FmtInv d.size u 0 v' dk := Any.internal_strconv_formatBase10 Tryz.lays285 blk off cap u d w hH hu hu64 hsz
def Tryz.laysM246_ren : Go.Shelf.Ren := ⟨fun | 246 => 253 | 283 => 260 | 284 => 191 | 285 => 236 | 286 => 261 | 129 => 188 | 317 => 192 | 318 => 237 | 319 => 266 | 320 => 267 | 337 => 268 | 338 => 269 | n => n, fun | 2 => 2 | 3 => 3 | 9 => 9 | 4 => 4 | 171 => 204 | 0 => 0 | 53 => 190 | 37 => 128 | 5 => 5 | 173 => 285 | 212 => 264 | 51 => 191 | 20 => 20 | 213 => 299 | 46 => 189 | 232 => 197 | 233 => 301 | n => n, fun | 17 => 9 | 18 => 15 | 19 => 16 | n => n⟩
theorem Tryz.laysM246 : Go.Proofs.LaysM.n246 Tryz.prog Tryz.laysM246_ren := {
  mixed := by kernel_rfl
  f129 := Tryz.func188.trans (congrArg some (by kernel_rfl))
  f246 := Tryz.func253.trans (congrArg some (by kernel_rfl))
  f283 := Tryz.func260.trans (congrArg some (by kernel_rfl))
  f284 := Tryz.func191.trans (congrArg some (by kernel_rfl))
  f285 := Tryz.func236.trans (congrArg some (by kernel_rfl))
  f286 := Tryz.func261.trans (congrArg some (by kernel_rfl))
  f317 := Tryz.func192.trans (congrArg some (by kernel_rfl))
  f318 := Tryz.func237.trans (congrArg some (by kernel_rfl))
  f319 := Tryz.func266.trans (congrArg some (by kernel_rfl))
  f320 := Tryz.func267.trans (congrArg some (by kernel_rfl))
  f337 := Tryz.func268.trans (congrArg some (by kernel_rfl))
  f338 := Tryz.func269.trans (congrArg some (by kernel_rfl))
  t0 := Tryz.underlying0
  a0 := Tryz.isAgg0
  z0 := Tryz.sizeOf0
  v0 := Tryz.zeroValue0
  t2 := Tryz.underlying2
  a2 := Tryz.isAgg2
  z2 := Tryz.sizeOf2
  v2 := Tryz.zeroValue2
  t3 := Tryz.underlying3
  a3 := Tryz.isAgg3
  z3 := Tryz.sizeOf3
  v3 := Tryz.zeroValue3
  t4 := Tryz.underlying4
  a4 := Tryz.isAgg4
  z4 := Tryz.sizeOf4
  v4 := Tryz.zeroValue4
  t5 := Tryz.underlying5
  a5 := Tryz.isAgg5
  z5 := Tryz.sizeOf5
  v5 := Tryz.zeroValue5
  t9 := Tryz.underlying9
  a9 := Tryz.isAgg9
  z9 := Tryz.sizeOf9
  v9 := Tryz.zeroValue9
  t20 := Tryz.underlying20
  a20 := Tryz.isAgg20
  z20 := Tryz.sizeOf20
  v20 := Tryz.zeroValue20
  t37 := Tryz.underlying128
  a37 := Tryz.isAgg128
  z37 := Tryz.sizeOf128
  v37 := Tryz.zeroValue128
  t46 := Tryz.underlying189
  a46 := Tryz.isAgg189
  z46 := Tryz.sizeOf189
  v46 := Tryz.zeroValue189
  t51 := Tryz.underlying191
  a51 := Tryz.isAgg191
  z51 := Tryz.sizeOf191
  v51 := Tryz.zeroValue191
  t53 := Tryz.underlying190
  a53 := Tryz.isAgg190
  z53 := Tryz.sizeOf190
  v53 := Tryz.zeroValue190
  t171 := Tryz.underlying204
  a171 := Tryz.isAgg204
  z171 := Tryz.sizeOf204
  v171 := Tryz.zeroValue204
  t173 := Tryz.underlying285
  a173 := Tryz.isAgg285
  z173 := Tryz.sizeOf285
  v173 := Tryz.zeroValue285
  t212 := Tryz.underlying264
  a212 := Tryz.isAgg264
  z212 := Tryz.sizeOf264
  v212 := Tryz.zeroValue264
  t213 := Tryz.underlying299
  a213 := Tryz.isAgg299
  z213 := Tryz.sizeOf299
  t232 := Tryz.underlying197
  a232 := Tryz.isAgg197
  z232 := Tryz.sizeOf197
  v232 := Tryz.zeroValue197
  t233 := Tryz.underlying301
  a233 := Tryz.isAgg301
  z233 := Tryz.sizeOf301
  v233 := Tryz.zeroValue301
  g17 := by kernel_rfl
  g18 := by kernel_rfl
  g19 := by kernel_rfl
  i0 := by kernel_rfl
  i2 := by kernel_rfl
  i3 := by kernel_rfl
  i4 := by kernel_rfl
  i5 := by kernel_rfl
  i9 := by kernel_rfl
  i20 := by kernel_rfl
  i37 := by kernel_rfl
  i46 := by kernel_rfl
  i51 := by kernel_rfl
  i53 := by kernel_rfl
  i171 := by kernel_rfl
  i173 := by kernel_rfl
  i212 := by kernel_rfl
  i232 := by kernel_rfl
  i233 := by kernel_rfl
  m17 := by kernel_rfl
  m18 := by kernel_rfl
  m19 := by kernel_rfl }
open Go.RowKit Go.Sort Go.Lib in
/-- internal/strconv.FormatInt: "FormatInt returns the string representation of i in the given base": AT BASE 10: i's decimal numeral, for every int64. The world behind the call: the world before it, new blocks behind the heap, draws. (LAID: no walk: one application.) -/
theorem Tryz.internal_strconv_FormatInt_10 (n : Int) (h0 : -9223372036854775808 ≤ n) (h1 : n ≤ 9223372036854775807) (w : World) (htab : Lib.TabIs Tryz.prog w "internal/strconv.uint64pow10" .u64 Lib.pow10Tab) :
    Calls Tryz.prog 253 #[.int .i64 n, .int .i64 10] w fun e w' => e = .returned (.string ⟨(Lib.itoa n).toArray⟩) ∧ ∃ k os, w' = grow (w.drewN k) os := Any.internal_strconv_FormatInt_10 Tryz.laysM246 n h0 h1 w htab
def Tryz.lays246_ren : Go.Shelf.Ren := ⟨fun | 246 => 253 | 283 => 260 | 284 => 191 | 285 => 236 | 286 => 261 | 129 => 188 | 317 => 192 | 318 => 237 | 319 => 266 | 320 => 267 | 337 => 268 | 338 => 269 | n => n, fun | 2 => 2 | 3 => 3 | 9 => 9 | 4 => 4 | 171 => 204 | 0 => 0 | 53 => 190 | 37 => 128 | 5 => 5 | 173 => 285 | 212 => 264 | 51 => 191 | 20 => 20 | 213 => 299 | 46 => 189 | 232 => 197 | 233 => 301 | n => n, fun | 17 => 9 | 18 => 15 | 19 => 16 | n => n⟩
theorem Tryz.lays246 : Go.Proofs.Lays.n246 Tryz.prog Tryz.lays246_ren := {
  mixed := by kernel_rfl
  f129 := Tryz.func188.trans (congrArg some (by kernel_rfl))
  f246 := Tryz.func253.trans (congrArg some (by kernel_rfl))
  f283 := Tryz.func260.trans (congrArg some (by kernel_rfl))
  f284 := Tryz.func191.trans (congrArg some (by kernel_rfl))
  f285 := Tryz.func236.trans (congrArg some (by kernel_rfl))
  f286 := Tryz.func261.trans (congrArg some (by kernel_rfl))
  f317 := Tryz.func192.trans (congrArg some (by kernel_rfl))
  f318 := Tryz.func237.trans (congrArg some (by kernel_rfl))
  f319 := Tryz.func266.trans (congrArg some (by kernel_rfl))
  f320 := Tryz.func267.trans (congrArg some (by kernel_rfl))
  f337 := Tryz.func268.trans (congrArg some (by kernel_rfl))
  f338 := Tryz.func269.trans (congrArg some (by kernel_rfl))
  t0 := Tryz.underlying0
  a0 := Tryz.isAgg0
  z0 := Tryz.sizeOf0
  v0 := Tryz.zeroValue0
  t2 := Tryz.underlying2
  a2 := Tryz.isAgg2
  z2 := Tryz.sizeOf2
  v2 := Tryz.zeroValue2
  t3 := Tryz.underlying3
  a3 := Tryz.isAgg3
  z3 := Tryz.sizeOf3
  v3 := Tryz.zeroValue3
  t4 := Tryz.underlying4
  a4 := Tryz.isAgg4
  z4 := Tryz.sizeOf4
  v4 := Tryz.zeroValue4
  t5 := Tryz.underlying5
  a5 := Tryz.isAgg5
  z5 := Tryz.sizeOf5
  v5 := Tryz.zeroValue5
  t9 := Tryz.underlying9
  a9 := Tryz.isAgg9
  z9 := Tryz.sizeOf9
  v9 := Tryz.zeroValue9
  t20 := Tryz.underlying20
  a20 := Tryz.isAgg20
  z20 := Tryz.sizeOf20
  v20 := Tryz.zeroValue20
  t37 := Tryz.underlying128
  a37 := Tryz.isAgg128
  z37 := Tryz.sizeOf128
  v37 := Tryz.zeroValue128
  t46 := Tryz.underlying189
  a46 := Tryz.isAgg189
  z46 := Tryz.sizeOf189
  v46 := Tryz.zeroValue189
  t51 := Tryz.underlying191
  a51 := Tryz.isAgg191
  z51 := Tryz.sizeOf191
  v51 := Tryz.zeroValue191
  t53 := Tryz.underlying190
  a53 := Tryz.isAgg190
  z53 := Tryz.sizeOf190
  v53 := Tryz.zeroValue190
  t171 := Tryz.underlying204
  a171 := Tryz.isAgg204
  z171 := Tryz.sizeOf204
  v171 := Tryz.zeroValue204
  t173 := Tryz.underlying285
  a173 := Tryz.isAgg285
  z173 := Tryz.sizeOf285
  v173 := Tryz.zeroValue285
  t212 := Tryz.underlying264
  a212 := Tryz.isAgg264
  z212 := Tryz.sizeOf264
  v212 := Tryz.zeroValue264
  t213 := Tryz.underlying299
  a213 := Tryz.isAgg299
  z213 := Tryz.sizeOf299
  t232 := Tryz.underlying197
  a232 := Tryz.isAgg197
  z232 := Tryz.sizeOf197
  v232 := Tryz.zeroValue197
  t233 := Tryz.underlying301
  a233 := Tryz.isAgg301
  z233 := Tryz.sizeOf301
  v233 := Tryz.zeroValue301
  g17 := by kernel_rfl
  g18 := by kernel_rfl
  g19 := by kernel_rfl }
open Go.RowKit Go.Sort Go.Lib in
/-- THE ROAD WITHOUT THE TABLE: 0 <= i < 100: two constants are read, nothing is laid: no premise on the world, and the world is as it was. (LAID: no walk: one application.) -/
theorem Tryz.internal_strconv_FormatInt_10_small (i : Nat) (hi : i < 100) (w : World) :
    Calls Tryz.prog 253 #[.int .i64 i, .int .i64 10] w fun e w' => e = .returned (.string ⟨(Lib.decDigits i).toArray⟩) ∧ w' = w := Any.internal_strconv_FormatInt_10_small Tryz.lays246 i hi w
def Tryz.laysM243_ren : Go.Shelf.Ren := ⟨fun | 243 => 211 | 246 => 253 | 283 => 260 | 284 => 191 | 285 => 236 | 286 => 261 | 129 => 188 | 317 => 192 | 318 => 237 | 319 => 266 | 320 => 267 | 337 => 268 | 338 => 269 | n => n, fun | 3 => 3 | 9 => 9 | 2 => 2 | 4 => 4 | 171 => 204 | 0 => 0 | 53 => 190 | 37 => 128 | 5 => 5 | 173 => 285 | 212 => 264 | 51 => 191 | 20 => 20 | 213 => 299 | 46 => 189 | 232 => 197 | 233 => 301 | n => n, fun | 17 => 9 | 18 => 15 | 19 => 16 | n => n⟩
theorem Tryz.laysM243 : Go.Proofs.LaysM.n243 Tryz.prog Tryz.laysM243_ren := {
  mixed := by kernel_rfl
  f129 := Tryz.func188.trans (congrArg some (by kernel_rfl))
  f243 := Tryz.func211.trans (congrArg some (by kernel_rfl))
  f246 := Tryz.func253.trans (congrArg some (by kernel_rfl))
  f283 := Tryz.func260.trans (congrArg some (by kernel_rfl))
  f284 := Tryz.func191.trans (congrArg some (by kernel_rfl))
  f285 := Tryz.func236.trans (congrArg some (by kernel_rfl))
  f286 := Tryz.func261.trans (congrArg some (by kernel_rfl))
  f317 := Tryz.func192.trans (congrArg some (by kernel_rfl))
  f318 := Tryz.func237.trans (congrArg some (by kernel_rfl))
  f319 := Tryz.func266.trans (congrArg some (by kernel_rfl))
  f320 := Tryz.func267.trans (congrArg some (by kernel_rfl))
  f337 := Tryz.func268.trans (congrArg some (by kernel_rfl))
  f338 := Tryz.func269.trans (congrArg some (by kernel_rfl))
  t0 := Tryz.underlying0
  a0 := Tryz.isAgg0
  z0 := Tryz.sizeOf0
  v0 := Tryz.zeroValue0
  t2 := Tryz.underlying2
  a2 := Tryz.isAgg2
  z2 := Tryz.sizeOf2
  v2 := Tryz.zeroValue2
  t3 := Tryz.underlying3
  a3 := Tryz.isAgg3
  z3 := Tryz.sizeOf3
  v3 := Tryz.zeroValue3
  t4 := Tryz.underlying4
  a4 := Tryz.isAgg4
  z4 := Tryz.sizeOf4
  v4 := Tryz.zeroValue4
  t5 := Tryz.underlying5
  a5 := Tryz.isAgg5
  z5 := Tryz.sizeOf5
  v5 := Tryz.zeroValue5
  t9 := Tryz.underlying9
  a9 := Tryz.isAgg9
  z9 := Tryz.sizeOf9
  v9 := Tryz.zeroValue9
  t20 := Tryz.underlying20
  a20 := Tryz.isAgg20
  z20 := Tryz.sizeOf20
  v20 := Tryz.zeroValue20
  t37 := Tryz.underlying128
  a37 := Tryz.isAgg128
  z37 := Tryz.sizeOf128
  v37 := Tryz.zeroValue128
  t46 := Tryz.underlying189
  a46 := Tryz.isAgg189
  z46 := Tryz.sizeOf189
  v46 := Tryz.zeroValue189
  t51 := Tryz.underlying191
  a51 := Tryz.isAgg191
  z51 := Tryz.sizeOf191
  v51 := Tryz.zeroValue191
  t53 := Tryz.underlying190
  a53 := Tryz.isAgg190
  z53 := Tryz.sizeOf190
  v53 := Tryz.zeroValue190
  t171 := Tryz.underlying204
  a171 := Tryz.isAgg204
  z171 := Tryz.sizeOf204
  v171 := Tryz.zeroValue204
  t173 := Tryz.underlying285
  a173 := Tryz.isAgg285
  z173 := Tryz.sizeOf285
  v173 := Tryz.zeroValue285
  t212 := Tryz.underlying264
  a212 := Tryz.isAgg264
  z212 := Tryz.sizeOf264
  v212 := Tryz.zeroValue264
  t213 := Tryz.underlying299
  a213 := Tryz.isAgg299
  z213 := Tryz.sizeOf299
  t232 := Tryz.underlying197
  a232 := Tryz.isAgg197
  z232 := Tryz.sizeOf197
  v232 := Tryz.zeroValue197
  t233 := Tryz.underlying301
  a233 := Tryz.isAgg301
  z233 := Tryz.sizeOf301
  v233 := Tryz.zeroValue301
  g17 := by kernel_rfl
  g18 := by kernel_rfl
  g19 := by kernel_rfl
  i0 := by kernel_rfl
  i2 := by kernel_rfl
  i3 := by kernel_rfl
  i4 := by kernel_rfl
  i5 := by kernel_rfl
  i9 := by kernel_rfl
  i20 := by kernel_rfl
  i37 := by kernel_rfl
  i46 := by kernel_rfl
  i51 := by kernel_rfl
  i53 := by kernel_rfl
  i171 := by kernel_rfl
  i173 := by kernel_rfl
  i212 := by kernel_rfl
  i232 := by kernel_rfl
  i233 := by kernel_rfl
  m17 := by kernel_rfl
  m18 := by kernel_rfl
  m19 := by kernel_rfl }
open Go.RowKit Go.Sort Go.Lib in
/-- internal/strconv.Itoa: "Itoa is equivalent to FormatInt(int64(i), 10).": i's decimal numeral, for every int. (LAID: no walk: one application.) -/
theorem Tryz.internal_strconv_Itoa (n : Int) (h0 : -9223372036854775808 ≤ n) (h1 : n ≤ 9223372036854775807) (w : World) (htab : Lib.TabIs Tryz.prog w "internal/strconv.uint64pow10" .u64 Lib.pow10Tab) :
    Calls Tryz.prog 211 #[.int .i64 n] w fun e w' => e = .returned (.string ⟨(Lib.itoa n).toArray⟩) ∧ ∃ k os, w' = grow (w.drewN k) os := Any.internal_strconv_Itoa Tryz.laysM243 n h0 h1 w htab
def Tryz.lays243_ren : Go.Shelf.Ren := ⟨fun | 243 => 211 | 246 => 253 | 283 => 260 | 284 => 191 | 285 => 236 | 286 => 261 | 129 => 188 | 317 => 192 | 318 => 237 | 319 => 266 | 320 => 267 | 337 => 268 | 338 => 269 | n => n, fun | 3 => 3 | 9 => 9 | 2 => 2 | 4 => 4 | 171 => 204 | 0 => 0 | 53 => 190 | 37 => 128 | 5 => 5 | 173 => 285 | 212 => 264 | 51 => 191 | 20 => 20 | 213 => 299 | 46 => 189 | 232 => 197 | 233 => 301 | n => n, fun | 17 => 9 | 18 => 15 | 19 => 16 | n => n⟩
theorem Tryz.lays243 : Go.Proofs.Lays.n243 Tryz.prog Tryz.lays243_ren := {
  mixed := by kernel_rfl
  f129 := Tryz.func188.trans (congrArg some (by kernel_rfl))
  f243 := Tryz.func211.trans (congrArg some (by kernel_rfl))
  f246 := Tryz.func253.trans (congrArg some (by kernel_rfl))
  f283 := Tryz.func260.trans (congrArg some (by kernel_rfl))
  f284 := Tryz.func191.trans (congrArg some (by kernel_rfl))
  f285 := Tryz.func236.trans (congrArg some (by kernel_rfl))
  f286 := Tryz.func261.trans (congrArg some (by kernel_rfl))
  f317 := Tryz.func192.trans (congrArg some (by kernel_rfl))
  f318 := Tryz.func237.trans (congrArg some (by kernel_rfl))
  f319 := Tryz.func266.trans (congrArg some (by kernel_rfl))
  f320 := Tryz.func267.trans (congrArg some (by kernel_rfl))
  f337 := Tryz.func268.trans (congrArg some (by kernel_rfl))
  f338 := Tryz.func269.trans (congrArg some (by kernel_rfl))
  t0 := Tryz.underlying0
  a0 := Tryz.isAgg0
  z0 := Tryz.sizeOf0
  v0 := Tryz.zeroValue0
  t2 := Tryz.underlying2
  a2 := Tryz.isAgg2
  z2 := Tryz.sizeOf2
  v2 := Tryz.zeroValue2
  t3 := Tryz.underlying3
  a3 := Tryz.isAgg3
  z3 := Tryz.sizeOf3
  v3 := Tryz.zeroValue3
  t4 := Tryz.underlying4
  a4 := Tryz.isAgg4
  z4 := Tryz.sizeOf4
  v4 := Tryz.zeroValue4
  t5 := Tryz.underlying5
  a5 := Tryz.isAgg5
  z5 := Tryz.sizeOf5
  v5 := Tryz.zeroValue5
  t9 := Tryz.underlying9
  a9 := Tryz.isAgg9
  z9 := Tryz.sizeOf9
  v9 := Tryz.zeroValue9
  t20 := Tryz.underlying20
  a20 := Tryz.isAgg20
  z20 := Tryz.sizeOf20
  v20 := Tryz.zeroValue20
  t37 := Tryz.underlying128
  a37 := Tryz.isAgg128
  z37 := Tryz.sizeOf128
  v37 := Tryz.zeroValue128
  t46 := Tryz.underlying189
  a46 := Tryz.isAgg189
  z46 := Tryz.sizeOf189
  v46 := Tryz.zeroValue189
  t51 := Tryz.underlying191
  a51 := Tryz.isAgg191
  z51 := Tryz.sizeOf191
  v51 := Tryz.zeroValue191
  t53 := Tryz.underlying190
  a53 := Tryz.isAgg190
  z53 := Tryz.sizeOf190
  v53 := Tryz.zeroValue190
  t171 := Tryz.underlying204
  a171 := Tryz.isAgg204
  z171 := Tryz.sizeOf204
  v171 := Tryz.zeroValue204
  t173 := Tryz.underlying285
  a173 := Tryz.isAgg285
  z173 := Tryz.sizeOf285
  v173 := Tryz.zeroValue285
  t212 := Tryz.underlying264
  a212 := Tryz.isAgg264
  z212 := Tryz.sizeOf264
  v212 := Tryz.zeroValue264
  t213 := Tryz.underlying299
  a213 := Tryz.isAgg299
  z213 := Tryz.sizeOf299
  t232 := Tryz.underlying197
  a232 := Tryz.isAgg197
  z232 := Tryz.sizeOf197
  v232 := Tryz.zeroValue197
  t233 := Tryz.underlying301
  a233 := Tryz.isAgg301
  z233 := Tryz.sizeOf301
  v233 := Tryz.zeroValue301
  g17 := by kernel_rfl
  g18 := by kernel_rfl
  g19 := by kernel_rfl }
open Go.RowKit Go.Sort Go.Lib in
/-- THE ROAD WITHOUT THE TABLE: 0 <= i < 100. (LAID: no walk: one application.) -/
theorem Tryz.internal_strconv_Itoa_small (i : Nat) (hi : i < 100) (w : World) :
    Calls Tryz.prog 211 #[.int .i64 i] w fun e w' => e = .returned (.string ⟨(Lib.decDigits i).toArray⟩) ∧ w' = w := Any.internal_strconv_Itoa_small Tryz.lays243 i hi w
def Tryz.laysM171_ren : Go.Shelf.Ren := ⟨fun | 171 => 175 | 243 => 211 | 246 => 253 | 283 => 260 | 284 => 191 | 285 => 236 | 286 => 261 | 129 => 188 | 317 => 192 | 318 => 237 | 319 => 266 | 320 => 267 | 337 => 268 | 338 => 269 | n => n, fun | 3 => 3 | 9 => 9 | 2 => 2 | 4 => 4 | 171 => 204 | 0 => 0 | 53 => 190 | 37 => 128 | 5 => 5 | 173 => 285 | 212 => 264 | 51 => 191 | 20 => 20 | 213 => 299 | 46 => 189 | 232 => 197 | 233 => 301 | n => n, fun | 17 => 9 | 18 => 15 | 19 => 16 | n => n⟩
theorem Tryz.laysM171 : Go.Proofs.LaysM.n171 Tryz.prog Tryz.laysM171_ren := {
  mixed := by kernel_rfl
  f129 := Tryz.func188.trans (congrArg some (by kernel_rfl))
  f171 := Tryz.func175.trans (congrArg some (by kernel_rfl))
  f243 := Tryz.func211.trans (congrArg some (by kernel_rfl))
  f246 := Tryz.func253.trans (congrArg some (by kernel_rfl))
  f283 := Tryz.func260.trans (congrArg some (by kernel_rfl))
  f284 := Tryz.func191.trans (congrArg some (by kernel_rfl))
  f285 := Tryz.func236.trans (congrArg some (by kernel_rfl))
  f286 := Tryz.func261.trans (congrArg some (by kernel_rfl))
  f317 := Tryz.func192.trans (congrArg some (by kernel_rfl))
  f318 := Tryz.func237.trans (congrArg some (by kernel_rfl))
  f319 := Tryz.func266.trans (congrArg some (by kernel_rfl))
  f320 := Tryz.func267.trans (congrArg some (by kernel_rfl))
  f337 := Tryz.func268.trans (congrArg some (by kernel_rfl))
  f338 := Tryz.func269.trans (congrArg some (by kernel_rfl))
  t0 := Tryz.underlying0
  a0 := Tryz.isAgg0
  z0 := Tryz.sizeOf0
  v0 := Tryz.zeroValue0
  t2 := Tryz.underlying2
  a2 := Tryz.isAgg2
  z2 := Tryz.sizeOf2
  v2 := Tryz.zeroValue2
  t3 := Tryz.underlying3
  a3 := Tryz.isAgg3
  z3 := Tryz.sizeOf3
  v3 := Tryz.zeroValue3
  t4 := Tryz.underlying4
  a4 := Tryz.isAgg4
  z4 := Tryz.sizeOf4
  v4 := Tryz.zeroValue4
  t5 := Tryz.underlying5
  a5 := Tryz.isAgg5
  z5 := Tryz.sizeOf5
  v5 := Tryz.zeroValue5
  t9 := Tryz.underlying9
  a9 := Tryz.isAgg9
  z9 := Tryz.sizeOf9
  v9 := Tryz.zeroValue9
  t20 := Tryz.underlying20
  a20 := Tryz.isAgg20
  z20 := Tryz.sizeOf20
  v20 := Tryz.zeroValue20
  t37 := Tryz.underlying128
  a37 := Tryz.isAgg128
  z37 := Tryz.sizeOf128
  v37 := Tryz.zeroValue128
  t46 := Tryz.underlying189
  a46 := Tryz.isAgg189
  z46 := Tryz.sizeOf189
  v46 := Tryz.zeroValue189
  t51 := Tryz.underlying191
  a51 := Tryz.isAgg191
  z51 := Tryz.sizeOf191
  v51 := Tryz.zeroValue191
  t53 := Tryz.underlying190
  a53 := Tryz.isAgg190
  z53 := Tryz.sizeOf190
  v53 := Tryz.zeroValue190
  t171 := Tryz.underlying204
  a171 := Tryz.isAgg204
  z171 := Tryz.sizeOf204
  v171 := Tryz.zeroValue204
  t173 := Tryz.underlying285
  a173 := Tryz.isAgg285
  z173 := Tryz.sizeOf285
  v173 := Tryz.zeroValue285
  t212 := Tryz.underlying264
  a212 := Tryz.isAgg264
  z212 := Tryz.sizeOf264
  v212 := Tryz.zeroValue264
  t213 := Tryz.underlying299
  a213 := Tryz.isAgg299
  z213 := Tryz.sizeOf299
  t232 := Tryz.underlying197
  a232 := Tryz.isAgg197
  z232 := Tryz.sizeOf197
  v232 := Tryz.zeroValue197
  t233 := Tryz.underlying301
  a233 := Tryz.isAgg301
  z233 := Tryz.sizeOf301
  v233 := Tryz.zeroValue301
  g17 := by kernel_rfl
  g18 := by kernel_rfl
  g19 := by kernel_rfl
  i0 := by kernel_rfl
  i2 := by kernel_rfl
  i3 := by kernel_rfl
  i4 := by kernel_rfl
  i5 := by kernel_rfl
  i9 := by kernel_rfl
  i20 := by kernel_rfl
  i37 := by kernel_rfl
  i46 := by kernel_rfl
  i51 := by kernel_rfl
  i53 := by kernel_rfl
  i171 := by kernel_rfl
  i173 := by kernel_rfl
  i212 := by kernel_rfl
  i232 := by kernel_rfl
  i233 := by kernel_rfl
  m17 := by kernel_rfl
  m18 := by kernel_rfl
  m19 := by kernel_rfl }
open Go.RowKit Go.Sort Go.Lib in
/-- strconv.Itoa: "Itoa is equivalent to FormatInt(int64(i), 10).": i's DECIMAL NUMERAL ('Lib.itoa': a '-' where i is negative, then the digits), FOR EVERY int. The world behind the call: the world before it, new blocks behind the heap (the library's 'var a [24]byte'), draws. (LAID: no walk: one application.) -/
theorem Tryz.strconv_Itoa (n : Int) (h0 : -9223372036854775808 ≤ n) (h1 : n ≤ 9223372036854775807) (w : World) (htab : Lib.TabIs Tryz.prog w "internal/strconv.uint64pow10" .u64 Lib.pow10Tab) :
    Calls Tryz.prog 175 #[.int .i64 n] w fun e w' => e = .returned (.string ⟨(Lib.itoa n).toArray⟩) ∧ ∃ k os, w' = grow (w.drewN k) os := Any.strconv_Itoa Tryz.laysM171 n h0 h1 w htab
def Tryz.lays171_ren : Go.Shelf.Ren := ⟨fun | 171 => 175 | 243 => 211 | 246 => 253 | 283 => 260 | 284 => 191 | 285 => 236 | 286 => 261 | 129 => 188 | 317 => 192 | 318 => 237 | 319 => 266 | 320 => 267 | 337 => 268 | 338 => 269 | n => n, fun | 3 => 3 | 9 => 9 | 2 => 2 | 4 => 4 | 171 => 204 | 0 => 0 | 53 => 190 | 37 => 128 | 5 => 5 | 173 => 285 | 212 => 264 | 51 => 191 | 20 => 20 | 213 => 299 | 46 => 189 | 232 => 197 | 233 => 301 | n => n, fun | 17 => 9 | 18 => 15 | 19 => 16 | n => n⟩
theorem Tryz.lays171 : Go.Proofs.Lays.n171 Tryz.prog Tryz.lays171_ren := {
  mixed := by kernel_rfl
  f129 := Tryz.func188.trans (congrArg some (by kernel_rfl))
  f171 := Tryz.func175.trans (congrArg some (by kernel_rfl))
  f243 := Tryz.func211.trans (congrArg some (by kernel_rfl))
  f246 := Tryz.func253.trans (congrArg some (by kernel_rfl))
  f283 := Tryz.func260.trans (congrArg some (by kernel_rfl))
  f284 := Tryz.func191.trans (congrArg some (by kernel_rfl))
  f285 := Tryz.func236.trans (congrArg some (by kernel_rfl))
  f286 := Tryz.func261.trans (congrArg some (by kernel_rfl))
  f317 := Tryz.func192.trans (congrArg some (by kernel_rfl))
  f318 := Tryz.func237.trans (congrArg some (by kernel_rfl))
  f319 := Tryz.func266.trans (congrArg some (by kernel_rfl))
  f320 := Tryz.func267.trans (congrArg some (by kernel_rfl))
  f337 := Tryz.func268.trans (congrArg some (by kernel_rfl))
  f338 := Tryz.func269.trans (congrArg some (by kernel_rfl))
  t0 := Tryz.underlying0
  a0 := Tryz.isAgg0
  z0 := Tryz.sizeOf0
  v0 := Tryz.zeroValue0
  t2 := Tryz.underlying2
  a2 := Tryz.isAgg2
  z2 := Tryz.sizeOf2
  v2 := Tryz.zeroValue2
  t3 := Tryz.underlying3
  a3 := Tryz.isAgg3
  z3 := Tryz.sizeOf3
  v3 := Tryz.zeroValue3
  t4 := Tryz.underlying4
  a4 := Tryz.isAgg4
  z4 := Tryz.sizeOf4
  v4 := Tryz.zeroValue4
  t5 := Tryz.underlying5
  a5 := Tryz.isAgg5
  z5 := Tryz.sizeOf5
  v5 := Tryz.zeroValue5
  t9 := Tryz.underlying9
  a9 := Tryz.isAgg9
  z9 := Tryz.sizeOf9
  v9 := Tryz.zeroValue9
  t20 := Tryz.underlying20
  a20 := Tryz.isAgg20
  z20 := Tryz.sizeOf20
  v20 := Tryz.zeroValue20
  t37 := Tryz.underlying128
  a37 := Tryz.isAgg128
  z37 := Tryz.sizeOf128
  v37 := Tryz.zeroValue128
  t46 := Tryz.underlying189
  a46 := Tryz.isAgg189
  z46 := Tryz.sizeOf189
  v46 := Tryz.zeroValue189
  t51 := Tryz.underlying191
  a51 := Tryz.isAgg191
  z51 := Tryz.sizeOf191
  v51 := Tryz.zeroValue191
  t53 := Tryz.underlying190
  a53 := Tryz.isAgg190
  z53 := Tryz.sizeOf190
  v53 := Tryz.zeroValue190
  t171 := Tryz.underlying204
  a171 := Tryz.isAgg204
  z171 := Tryz.sizeOf204
  v171 := Tryz.zeroValue204
  t173 := Tryz.underlying285
  a173 := Tryz.isAgg285
  z173 := Tryz.sizeOf285
  v173 := Tryz.zeroValue285
  t212 := Tryz.underlying264
  a212 := Tryz.isAgg264
  z212 := Tryz.sizeOf264
  v212 := Tryz.zeroValue264
  t213 := Tryz.underlying299
  a213 := Tryz.isAgg299
  z213 := Tryz.sizeOf299
  t232 := Tryz.underlying197
  a232 := Tryz.isAgg197
  z232 := Tryz.sizeOf197
  v232 := Tryz.zeroValue197
  t233 := Tryz.underlying301
  a233 := Tryz.isAgg301
  z233 := Tryz.sizeOf301
  v233 := Tryz.zeroValue301
  g17 := by kernel_rfl
  g18 := by kernel_rfl
  g19 := by kernel_rfl }
open Go.RowKit Go.Sort Go.Lib in
/-- THE ROAD WITHOUT THE TABLE: 0 <= i < 100: NO PREMISE ON THE WORLD, AND THE WORLD IS AS IT WAS: a row that keeps its argument in that range need list no table ('laid = []'). (LAID: no walk: one application.) -/
theorem Tryz.strconv_Itoa_small (i : Nat) (hi : i < 100) (w : World) :
    Calls Tryz.prog 175 #[.int .i64 i] w fun e w' => e = .returned (.string ⟨(Lib.decDigits i).toArray⟩) ∧ w' = w := Any.strconv_Itoa_small Tryz.lays171 i hi w
def Tryz.lays190_ren : Go.Shelf.Ren := ⟨fun | 190 => 168 | 125 => 182 | 258 => 181 | 128 => 224 | 129 => 188 | 302 => 215 | 303 => 216 | 304 => 217 | 305 => 218 | 306 => 219 | 307 => 220 | 308 => 221 | 309 => 222 | 310 => 223 | 333 => 254 | 329 => 255 | 330 => 256 | 334 => 257 | 335 => 258 | 336 => 259 | 344 => 265 | n => n, fun | 31 => 23 | 9 => 9 | 3 => 3 | 46 => 189 | 0 => 0 | 51 => 191 | 53 => 190 | 4 => 4 | 183 => 244 | 182 => 243 | 131 => 248 | 5 => 5 | 218 => 281 | 222 => 106 | 228 => 297 | 229 => 201 | n => n, fun | n => n⟩
theorem Tryz.lays190 : Go.Proofs.Lays.n190 Tryz.prog Tryz.lays190_ren := {
  mixed := by kernel_rfl
  f125 := Tryz.func182.trans (congrArg some (by kernel_rfl))
  f128 := Tryz.func224.trans (congrArg some (by kernel_rfl))
  f129 := Tryz.func188.trans (congrArg some (by kernel_rfl))
  f190 := Tryz.func168.trans (congrArg some (by kernel_rfl))
  f258 := Tryz.func181.trans (congrArg some (by kernel_rfl))
  f302 := Tryz.func215.trans (congrArg some (by kernel_rfl))
  f303 := Tryz.func216.trans (congrArg some (by kernel_rfl))
  f304 := Tryz.func217.trans (congrArg some (by kernel_rfl))
  f305 := Tryz.func218.trans (congrArg some (by kernel_rfl))
  f306 := Tryz.func219.trans (congrArg some (by kernel_rfl))
  f307 := Tryz.func220.trans (congrArg some (by kernel_rfl))
  f308 := Tryz.func221.trans (congrArg some (by kernel_rfl))
  f309 := Tryz.func222.trans (congrArg some (by kernel_rfl))
  f310 := Tryz.func223.trans (congrArg some (by kernel_rfl))
  f329 := Tryz.func255.trans (congrArg some (by kernel_rfl))
  f330 := Tryz.func256.trans (congrArg some (by kernel_rfl))
  f333 := Tryz.func254.trans (congrArg some (by kernel_rfl))
  f334 := Tryz.func257.trans (congrArg some (by kernel_rfl))
  f335 := Tryz.func258.trans (congrArg some (by kernel_rfl))
  f336 := Tryz.func259.trans (congrArg some (by kernel_rfl))
  f344 := Tryz.func265.trans (congrArg some (by kernel_rfl))
  t0 := Tryz.underlying0
  a0 := Tryz.isAgg0
  z0 := Tryz.sizeOf0
  v0 := Tryz.zeroValue0
  t3 := Tryz.underlying3
  a3 := Tryz.isAgg3
  z3 := Tryz.sizeOf3
  v3 := Tryz.zeroValue3
  t4 := Tryz.underlying4
  a4 := Tryz.isAgg4
  z4 := Tryz.sizeOf4
  v4 := Tryz.zeroValue4
  t5 := Tryz.underlying5
  a5 := Tryz.isAgg5
  z5 := Tryz.sizeOf5
  v5 := Tryz.zeroValue5
  t9 := Tryz.underlying9
  a9 := Tryz.isAgg9
  z9 := Tryz.sizeOf9
  v9 := Tryz.zeroValue9
  t31 := Tryz.underlying23
  a31 := Tryz.isAgg23
  z31 := Tryz.sizeOf23
  v31 := Tryz.zeroValue23
  t46 := Tryz.underlying189
  a46 := Tryz.isAgg189
  z46 := Tryz.sizeOf189
  v46 := Tryz.zeroValue189
  t51 := Tryz.underlying191
  a51 := Tryz.isAgg191
  z51 := Tryz.sizeOf191
  v51 := Tryz.zeroValue191
  t53 := Tryz.underlying190
  a53 := Tryz.isAgg190
  z53 := Tryz.sizeOf190
  v53 := Tryz.zeroValue190
  t131 := Tryz.underlying248
  a131 := Tryz.isAgg248
  z131 := Tryz.sizeOf248
  v131 := Tryz.zeroValue248
  t182 := Tryz.underlying243
  a182 := Tryz.isAgg243
  z182 := Tryz.sizeOf243
  v182 := Tryz.zeroValue243
  t183 := Tryz.underlying244
  a183 := Tryz.isAgg244
  z183 := Tryz.sizeOf244
  v183 := Tryz.zeroValue244
  t218 := Tryz.underlying281
  a218 := Tryz.isAgg281
  z218 := Tryz.sizeOf281
  v218 := Tryz.zeroValue281
  t222 := Tryz.underlying106
  a222 := Tryz.isAgg106
  z222 := Tryz.sizeOf106
  v222 := Tryz.zeroValue106
  t228 := Tryz.underlying297
  a228 := Tryz.isAgg297
  z228 := Tryz.sizeOf297
  v228 := Tryz.zeroValue297
  t229 := Tryz.underlying201
  a229 := Tryz.isAgg201
  z229 := Tryz.sizeOf201
  v229 := Tryz.zeroValue201 }
open Go.Sort Go.RowKit in
theorem Tryz.slices_Sort_string (blk off cap : Nat) (ss : List (List UInt8)) (w : World) (hH : Holds encStr w blk off ss.toArray) (hblk : blk < w.heap.size) (hsz : ss.length < 4611686018427387904) :
    Calls Tryz.prog 168 #[.slice (some ⟨blk, off, none⟩) ss.length cap] w fun e w' =>
      e = .returned (.tuple #[]) ∧ ∃ n os, w' = grow (putRow encStr (Sort.ahead w n) blk off (ss.mergeSort fun x y => decide (x ≤ y)).toArray) os := Any.slices_Sort_string Tryz.lays190 blk off cap ss w hH hblk hsz
def Tryz.lays207_ren : Go.Shelf.Ren := ⟨fun | 207 => 160 | n => n, fun | 9 => 9 | 4 => 4 | 3 => 3 | n => n, fun | n => n⟩
theorem Tryz.lays207 : Go.Proofs.Lays.n207 Tryz.prog Tryz.lays207_ren := {
  mixed := by kernel_rfl
  f207 := Tryz.func160.trans (congrArg some (by kernel_rfl))
  t3 := Tryz.underlying3
  a3 := Tryz.isAgg3
  z3 := Tryz.sizeOf3
  v3 := Tryz.zeroValue3
  t4 := Tryz.underlying4
  a4 := Tryz.isAgg4
  z4 := Tryz.sizeOf4
  v4 := Tryz.zeroValue4
  t9 := Tryz.underlying9
  a9 := Tryz.isAgg9
  z9 := Tryz.sizeOf9
  v9 := Tryz.zeroValue9 }
open Go.RowKit Go.Lib in
/-- internal/stringslite.HasSuffix (what strings.HasSuffix calls). (LAID: no walk: one application.) -/
theorem Tryz.stringslite_HasSuffix (s p : ByteArray) (w : World) (hs : s.size ≤ 9223372036854775807) :
    Calls Tryz.prog 160 #[.string s, .string p] w fun e w' => e = .returned (.bool (Lib.hasSuffix s.data.toList p.data.toList)) ∧ w' = w := Any.stringslite_HasSuffix Tryz.lays207 s p w hs
def Tryz.lays100_ren : Go.Shelf.Ren := ⟨fun | 100 => 132 | 207 => 160 | n => n, fun | 9 => 9 | 4 => 4 | 3 => 3 | n => n, fun | n => n⟩
theorem Tryz.lays100 : Go.Proofs.Lays.n100 Tryz.prog Tryz.lays100_ren := {
  mixed := by kernel_rfl
  f100 := Tryz.func132.trans (congrArg some (by kernel_rfl))
  f207 := Tryz.func160.trans (congrArg some (by kernel_rfl))
  t3 := Tryz.underlying3
  a3 := Tryz.isAgg3
  z3 := Tryz.sizeOf3
  v3 := Tryz.zeroValue3
  t4 := Tryz.underlying4
  a4 := Tryz.isAgg4
  z4 := Tryz.sizeOf4
  v4 := Tryz.zeroValue4
  t9 := Tryz.underlying9
  a9 := Tryz.isAgg9
  z9 := Tryz.sizeOf9
  v9 := Tryz.zeroValue9 }
open Go.RowKit Go.Lib in
/-- strings.HasSuffix: "HasSuffix reports whether the string s ends with suffix.": IT RETURNS 'Lib.hasSuffix s suffix'; the world is as it was. ('hs': no Go string is longer: a caller has it of every string that it was handed.) (LAID: no walk: one application.) -/
theorem Tryz.strings_HasSuffix (s p : ByteArray) (w : World) (hs : s.size ≤ 9223372036854775807) :
    Calls Tryz.prog 132 #[.string s, .string p] w fun e w' => e = .returned (.bool (Lib.hasSuffix s.data.toList p.data.toList)) ∧ w' = w := Any.strings_HasSuffix Tryz.lays100 s p w hs
def Tryz.lays204_ren : Go.Shelf.Ren := ⟨fun | 204 => 141 | 262 => 167 | 313 => 180 | 274 => 213 | 275 => 214 | n => n, fun | 21 => 21 | 4 => 4 | 3 => 3 | 162 => 186 | 203 => 184 | 160 => 239 | 46 => 189 | 0 => 0 | 208 => 280 | 51 => 191 | 206 => 278 | n => n, fun | 13 => 2 | n => n⟩
theorem Tryz.lays204 : Go.Proofs.Lays.n204 Tryz.prog Tryz.lays204_ren := {
  mixed := by kernel_rfl
  f204 := Tryz.func141.trans (congrArg some (by kernel_rfl))
  f262 := Tryz.func167.trans (congrArg some (by kernel_rfl))
  f274 := Tryz.func213.trans (congrArg some (by kernel_rfl))
  f275 := Tryz.func214.trans (congrArg some (by kernel_rfl))
  f313 := Tryz.func180.trans (congrArg some (by kernel_rfl))
  t0 := Tryz.underlying0
  a0 := Tryz.isAgg0
  z0 := Tryz.sizeOf0
  v0 := Tryz.zeroValue0
  t3 := Tryz.underlying3
  a3 := Tryz.isAgg3
  z3 := Tryz.sizeOf3
  v3 := Tryz.zeroValue3
  t4 := Tryz.underlying4
  a4 := Tryz.isAgg4
  z4 := Tryz.sizeOf4
  v4 := Tryz.zeroValue4
  t21 := Tryz.underlying21
  a21 := Tryz.isAgg21
  z21 := Tryz.sizeOf21
  v21 := Tryz.zeroValue21
  t46 := Tryz.underlying189
  a46 := Tryz.isAgg189
  z46 := Tryz.sizeOf189
  v46 := Tryz.zeroValue189
  t51 := Tryz.underlying191
  a51 := Tryz.isAgg191
  z51 := Tryz.sizeOf191
  v51 := Tryz.zeroValue191
  t160 := Tryz.underlying239
  a160 := Tryz.isAgg239
  z160 := Tryz.sizeOf239
  v160 := Tryz.zeroValue239
  t162 := Tryz.underlying186
  a162 := Tryz.isAgg186
  z162 := Tryz.sizeOf186
  v162 := Tryz.zeroValue186
  t203 := Tryz.underlying184
  a203 := Tryz.isAgg184
  z203 := Tryz.sizeOf184
  v203 := Tryz.zeroValue184
  t206 := Tryz.underlying278
  a206 := Tryz.isAgg278
  z206 := Tryz.sizeOf278
  v206 := Tryz.zeroValue278
  t208 := Tryz.underlying280
  a208 := Tryz.isAgg280
  z208 := Tryz.sizeOf280
  v208 := Tryz.zeroValue280
  g13 := by kernel_rfl }
open Go.RowKit Go.Lib in
theorem Tryz.unicode_ToLower (r : Int) (w : World) (h : r ≤ 127) :
    Calls Tryz.prog 141 #[.int .i32 r] w fun e w' => e = .returned (.int .i32 (Lib.toLowerR r)) ∧ w' = w := Any.unicode_ToLower Tryz.lays204 r w h
def Tryz.lays197_ren : Go.Shelf.Ren := ⟨fun | 197 => 163 | 260 => 178 | n => n, fun | 9 => 9 | 21 => 21 | 3 => 3 | 4 => 4 | 5 => 5 | 105 => 163 | 119 => 235 | 0 => 0 | 46 => 189 | 139 => 238 | 138 => 237 | n => n, fun | 3 => 7 | 4 => 8 | n => n⟩
theorem Tryz.lays197 : Go.Proofs.Lays.n197 Tryz.prog Tryz.lays197_ren := {
  mixed := by kernel_rfl
  f197 := Tryz.func163.trans (congrArg some (by kernel_rfl))
  f260 := Tryz.func178.trans (congrArg some (by kernel_rfl))
  t0 := Tryz.underlying0
  a0 := Tryz.isAgg0
  z0 := Tryz.sizeOf0
  v0 := Tryz.zeroValue0
  t3 := Tryz.underlying3
  a3 := Tryz.isAgg3
  z3 := Tryz.sizeOf3
  v3 := Tryz.zeroValue3
  t4 := Tryz.underlying4
  a4 := Tryz.isAgg4
  z4 := Tryz.sizeOf4
  v4 := Tryz.zeroValue4
  t5 := Tryz.underlying5
  a5 := Tryz.isAgg5
  z5 := Tryz.sizeOf5
  v5 := Tryz.zeroValue5
  t9 := Tryz.underlying9
  a9 := Tryz.isAgg9
  z9 := Tryz.sizeOf9
  v9 := Tryz.zeroValue9
  t21 := Tryz.underlying21
  a21 := Tryz.isAgg21
  z21 := Tryz.sizeOf21
  v21 := Tryz.zeroValue21
  t46 := Tryz.underlying189
  a46 := Tryz.isAgg189
  z46 := Tryz.sizeOf189
  v46 := Tryz.zeroValue189
  t105 := Tryz.underlying163
  a105 := Tryz.isAgg163
  z105 := Tryz.sizeOf163
  v105 := Tryz.zeroValue163
  t119 := Tryz.underlying235
  a119 := Tryz.isAgg235
  z119 := Tryz.sizeOf235
  t138 := Tryz.underlying237
  a138 := Tryz.isAgg237
  z138 := Tryz.sizeOf237
  v138 := Tryz.zeroValue237
  t139 := Tryz.underlying238
  a139 := Tryz.isAgg238
  z139 := Tryz.sizeOf238
  v139 := Tryz.zeroValue238
  g3 := by kernel_rfl
  g4 := by kernel_rfl }
open Go.RowKit Go.Lib in
/-- unicode/utf8.DecodeRuneInString: "DecodeRuneInString is like DecodeRune but its input is a string.": ("DecodeRune unpacks the first UTF-8 encoding in p and returns the rune and its width in bytes."): WHERE s BEGINS WITH AN ASCII BYTE x: (x, 1). (LAID: no walk: one application.) -/
theorem Tryz.utf8_DecodeRuneInString_ascii (s : ByteArray) (x : UInt8) (w : World) (h0 : s.data.toList[0]? = some x) (hx : x.toNat < 128) :
    Calls Tryz.prog 163 #[.string s] w fun e w' => e = .returned (.tuple #[.int .i32 x.toNat, .int .i64 1]) ∧ w' = w := Any.utf8_DecodeRuneInString_ascii Tryz.lays197 s x w h0 hx
def Tryz.lays264_ren : Go.Shelf.Ren := ⟨fun | 264 => 262 | n => n, fun | 53 => 190 | 46 => 189 | n => n, fun | n => n⟩
theorem Tryz.lays264 : Go.Proofs.Lays.n264 Tryz.prog Tryz.lays264_ren := {
  mixed := by kernel_rfl
  f264 := Tryz.func262.trans (congrArg some (by kernel_rfl))
  t46 := Tryz.underlying189
  a46 := Tryz.isAgg189
  z46 := Tryz.sizeOf189
  v46 := Tryz.zeroValue189
  t53 := Tryz.underlying190
  a53 := Tryz.isAgg190
  z53 := Tryz.sizeOf190
  v53 := Tryz.zeroValue190 }
open Go.RowKit Go.Lib in
theorem Tryz.bits_Mul64 (x y : Nat) (hx : x < 18446744073709551616) (hy : y < 18446744073709551616) (w : World) :
    Calls Tryz.prog 262 #[.int .u64 x, .int .u64 y] w fun e w' => e = .returned (.tuple #[.int .u64 ((x * y / 18446744073709551616 : Nat) : Int), .int .u64 ((x * y % 18446744073709551616 : Nat) : Int)]) ∧ w' = w := Any.bits_Mul64 Tryz.lays264 x y hx hy w
def Tryz.lays260_ren : Go.Shelf.Ren := ⟨fun | 260 => 178 | n => n, fun | 9 => 9 | 21 => 21 | 3 => 3 | 4 => 4 | 5 => 5 | 119 => 235 | 0 => 0 | 46 => 189 | 139 => 238 | 138 => 237 | n => n, fun | 3 => 7 | 4 => 8 | n => n⟩
theorem Tryz.lays260 : Go.Proofs.Lays.n260 Tryz.prog Tryz.lays260_ren := {
  mixed := by kernel_rfl
  f260 := Tryz.func178.trans (congrArg some (by kernel_rfl))
  t0 := Tryz.underlying0
  a0 := Tryz.isAgg0
  z0 := Tryz.sizeOf0
  v0 := Tryz.zeroValue0
  t3 := Tryz.underlying3
  a3 := Tryz.isAgg3
  z3 := Tryz.sizeOf3
  v3 := Tryz.zeroValue3
  t4 := Tryz.underlying4
  a4 := Tryz.isAgg4
  z4 := Tryz.sizeOf4
  v4 := Tryz.zeroValue4
  t5 := Tryz.underlying5
  a5 := Tryz.isAgg5
  z5 := Tryz.sizeOf5
  v5 := Tryz.zeroValue5
  t9 := Tryz.underlying9
  a9 := Tryz.isAgg9
  z9 := Tryz.sizeOf9
  v9 := Tryz.zeroValue9
  t21 := Tryz.underlying21
  a21 := Tryz.isAgg21
  z21 := Tryz.sizeOf21
  v21 := Tryz.zeroValue21
  t46 := Tryz.underlying189
  a46 := Tryz.isAgg189
  z46 := Tryz.sizeOf189
  v46 := Tryz.zeroValue189
  t119 := Tryz.underlying235
  a119 := Tryz.isAgg235
  z119 := Tryz.sizeOf235
  t138 := Tryz.underlying237
  a138 := Tryz.isAgg237
  z138 := Tryz.sizeOf237
  v138 := Tryz.zeroValue237
  t139 := Tryz.underlying238
  a139 := Tryz.isAgg238
  z139 := Tryz.sizeOf238
  v139 := Tryz.zeroValue238
  g3 := by kernel_rfl
  g4 := by kernel_rfl }
open Go.RowKit Go.Lib in
theorem Tryz.utf8_decodeRuneInStringSlow (s : ByteArray) (w : World) (hT : Lib.Utf8Tabs 7 8 w) :
    Calls Tryz.prog 178 #[.string s] w fun e w' => e = .returned (.tuple #[.int .i32 (Lib.decodeGo s).1, .int .i64 (Lib.decodeGo s).2]) ∧ Below w.heap.size w w' := Any.utf8_decodeRuneInStringSlow Tryz.lays260 s w hT
open Go.RowKit Go.Lib in
/-- **unicode/utf8.DecodeRuneInString AT EVERY STRING.** (LAID: no walk: one application.) -/
theorem Tryz.utf8_DecodeRuneInString (s : ByteArray) (w : World) (hT : Lib.Utf8Tabs 7 8 w) :
    Calls Tryz.prog 163 #[.string s] w fun e w' => e = .returned (.tuple #[.int .i32 (Lib.decodeGo s).1, .int .i64 (Lib.decodeGo s).2]) ∧ Below w.heap.size w w' := Any.utf8_DecodeRuneInString Tryz.lays197 s w hT
def Tryz.lays274_ren : Go.Shelf.Ren := ⟨fun | 274 => 213 | n => n, fun | 21 => 21 | 162 => 186 | 160 => 239 | 3 => 3 | 4 => 4 | 46 => 189 | 0 => 0 | 208 => 280 | 51 => 191 | 206 => 278 | n => n, fun | n => n⟩
theorem Tryz.lays274 : Go.Proofs.Lays.n274 Tryz.prog Tryz.lays274_ren := {
  mixed := by kernel_rfl
  f274 := Tryz.func213.trans (congrArg some (by kernel_rfl))
  t0 := Tryz.underlying0
  a0 := Tryz.isAgg0
  z0 := Tryz.sizeOf0
  v0 := Tryz.zeroValue0
  t3 := Tryz.underlying3
  a3 := Tryz.isAgg3
  z3 := Tryz.sizeOf3
  v3 := Tryz.zeroValue3
  t4 := Tryz.underlying4
  a4 := Tryz.isAgg4
  z4 := Tryz.sizeOf4
  v4 := Tryz.zeroValue4
  t21 := Tryz.underlying21
  a21 := Tryz.isAgg21
  z21 := Tryz.sizeOf21
  v21 := Tryz.zeroValue21
  t46 := Tryz.underlying189
  a46 := Tryz.isAgg189
  z46 := Tryz.sizeOf189
  v46 := Tryz.zeroValue189
  t51 := Tryz.underlying191
  a51 := Tryz.isAgg191
  z51 := Tryz.sizeOf191
  v51 := Tryz.zeroValue191
  t160 := Tryz.underlying239
  a160 := Tryz.isAgg239
  z160 := Tryz.sizeOf239
  v160 := Tryz.zeroValue239
  t162 := Tryz.underlying186
  a162 := Tryz.isAgg186
  z162 := Tryz.sizeOf186
  v162 := Tryz.zeroValue186
  t208 := Tryz.underlying280
  a208 := Tryz.isAgg280
  z208 := Tryz.sizeOf280
  v208 := Tryz.zeroValue280 }
open Go.RowKit Go.Lib in
theorem Tryz.unicode_lookupCaseRange (T : Array CaseRow) (R oR cap : Nat) (r : Int) (w : World) (hT : CaseTab R oR T w) (hok : CaseOk T) (hn : T.size ≤ 1000000000) :
    Calls Tryz.prog 213 #[.int .i32 r, .slice (some ⟨R, oR, none⟩) T.size cap] w fun e w' =>
      e = .returned (match lookupIdx T r (T.size + 1) 0 T.size with | some i => .pointer (some ⟨R, oR + i * 5, none⟩) | none => .pointer none) ∧ w' = w := Any.unicode_lookupCaseRange Tryz.lays274 T R oR cap r w hT hok hn
def Tryz.lays275_ren : Go.Shelf.Ren := ⟨fun | 275 => 214 | n => n, fun | 3 => 3 | 21 => 21 | 160 => 239 | 0 => 0 | 208 => 280 | 206 => 278 | 4 => 4 | 51 => 191 | n => n, fun | n => n⟩
theorem Tryz.lays275 : Go.Proofs.Lays.n275 Tryz.prog Tryz.lays275_ren := {
  mixed := by kernel_rfl
  f275 := Tryz.func214.trans (congrArg some (by kernel_rfl))
  t0 := Tryz.underlying0
  a0 := Tryz.isAgg0
  z0 := Tryz.sizeOf0
  v0 := Tryz.zeroValue0
  t3 := Tryz.underlying3
  a3 := Tryz.isAgg3
  z3 := Tryz.sizeOf3
  v3 := Tryz.zeroValue3
  t4 := Tryz.underlying4
  a4 := Tryz.isAgg4
  z4 := Tryz.sizeOf4
  v4 := Tryz.zeroValue4
  t21 := Tryz.underlying21
  a21 := Tryz.isAgg21
  z21 := Tryz.sizeOf21
  v21 := Tryz.zeroValue21
  t51 := Tryz.underlying191
  a51 := Tryz.isAgg191
  z51 := Tryz.sizeOf191
  v51 := Tryz.zeroValue191
  t160 := Tryz.underlying239
  a160 := Tryz.isAgg239
  z160 := Tryz.sizeOf239
  v160 := Tryz.zeroValue239
  t206 := Tryz.underlying278
  a206 := Tryz.isAgg278
  z206 := Tryz.sizeOf278
  v206 := Tryz.zeroValue278
  t208 := Tryz.underlying280
  a208 := Tryz.isAgg280
  z208 := Tryz.sizeOf280
  v208 := Tryz.zeroValue280 }
open Go.RowKit Go.Lib in
theorem Tryz.unicode_convertCase (c : Nat) (hc : c < 3) (r : Int) (A o : Nat) (x : CaseRow) (w : World) (hlo : (x.1 : Int) ≤ r) (hhi : r ≤ (x.2.1 : Int)) (hH : x.2.1 < 2147483647) (c0 : w.cell? ⟨A, o, none⟩ = some (.int .u32 x.1)) (cD : w.cell? ⟨A, o + 2 + c, none⟩ = some (.int .i32 (x.delta c))) :
    Calls Tryz.prog 214 #[.int .i64 c, .int .i32 r, .pointer (some ⟨A, o, none⟩)] w fun e w' => e = .returned (.int .i32 (wrap32 (convertR c r x))) ∧ ∃ q, w' = w.drewN q := Any.unicode_convertCase Tryz.lays275 c hc r A o x w hlo hhi hH c0 cD
def Tryz.lays313_ren : Go.Shelf.Ren := ⟨fun | 313 => 180 | 274 => 213 | 275 => 214 | n => n, fun | 3 => 3 | 21 => 21 | 162 => 186 | 4 => 4 | 160 => 239 | 46 => 189 | 0 => 0 | 208 => 280 | 51 => 191 | 206 => 278 | n => n, fun | n => n⟩
theorem Tryz.lays313 : Go.Proofs.Lays.n313 Tryz.prog Tryz.lays313_ren := {
  mixed := by kernel_rfl
  f274 := Tryz.func213.trans (congrArg some (by kernel_rfl))
  f275 := Tryz.func214.trans (congrArg some (by kernel_rfl))
  f313 := Tryz.func180.trans (congrArg some (by kernel_rfl))
  t0 := Tryz.underlying0
  a0 := Tryz.isAgg0
  z0 := Tryz.sizeOf0
  v0 := Tryz.zeroValue0
  t3 := Tryz.underlying3
  a3 := Tryz.isAgg3
  z3 := Tryz.sizeOf3
  v3 := Tryz.zeroValue3
  t4 := Tryz.underlying4
  a4 := Tryz.isAgg4
  z4 := Tryz.sizeOf4
  v4 := Tryz.zeroValue4
  t21 := Tryz.underlying21
  a21 := Tryz.isAgg21
  z21 := Tryz.sizeOf21
  v21 := Tryz.zeroValue21
  t46 := Tryz.underlying189
  a46 := Tryz.isAgg189
  z46 := Tryz.sizeOf189
  v46 := Tryz.zeroValue189
  t51 := Tryz.underlying191
  a51 := Tryz.isAgg191
  z51 := Tryz.sizeOf191
  v51 := Tryz.zeroValue191
  t160 := Tryz.underlying239
  a160 := Tryz.isAgg239
  z160 := Tryz.sizeOf239
  v160 := Tryz.zeroValue239
  t162 := Tryz.underlying186
  a162 := Tryz.isAgg186
  z162 := Tryz.sizeOf186
  v162 := Tryz.zeroValue186
  t206 := Tryz.underlying278
  a206 := Tryz.isAgg278
  z206 := Tryz.sizeOf278
  v206 := Tryz.zeroValue278
  t208 := Tryz.underlying280
  a208 := Tryz.isAgg280
  z208 := Tryz.sizeOf280
  v208 := Tryz.zeroValue280 }
open Go.RowKit Go.Lib in
theorem Tryz.unicode_to (c : Nat) (hc : c < 3) (r : Int) (T : Array CaseRow) (R oR cap : Nat) (w : World) (hT : CaseTab R oR T w) (hok : CaseOk2 T) (hn : T.size ≤ 1000000000) :
    Calls Tryz.prog 180 #[.int .i64 c, .int .i32 r, .slice (some ⟨R, oR, none⟩) T.size cap] w fun e w' => e = .returned (.tuple #[.int .i32 (toW T c r), .bool (lookupIdx T r (T.size + 1) 0 T.size).isSome]) ∧ ∃ q, w' = w.drewN q := Any.unicode_to Tryz.lays313 c hc r T R oR cap w hT hok hn
def Tryz.lays262_ren : Go.Shelf.Ren := ⟨fun | 262 => 167 | 313 => 180 | 274 => 213 | 275 => 214 | n => n, fun | 3 => 3 | 21 => 21 | 162 => 186 | 203 => 184 | 4 => 4 | 160 => 239 | 46 => 189 | 0 => 0 | 208 => 280 | 51 => 191 | 206 => 278 | n => n, fun | 13 => 2 | n => n⟩
theorem Tryz.lays262 : Go.Proofs.Lays.n262 Tryz.prog Tryz.lays262_ren := {
  mixed := by kernel_rfl
  f262 := Tryz.func167.trans (congrArg some (by kernel_rfl))
  f274 := Tryz.func213.trans (congrArg some (by kernel_rfl))
  f275 := Tryz.func214.trans (congrArg some (by kernel_rfl))
  f313 := Tryz.func180.trans (congrArg some (by kernel_rfl))
  t0 := Tryz.underlying0
  a0 := Tryz.isAgg0
  z0 := Tryz.sizeOf0
  v0 := Tryz.zeroValue0
  t3 := Tryz.underlying3
  a3 := Tryz.isAgg3
  z3 := Tryz.sizeOf3
  v3 := Tryz.zeroValue3
  t4 := Tryz.underlying4
  a4 := Tryz.isAgg4
  z4 := Tryz.sizeOf4
  v4 := Tryz.zeroValue4
  t21 := Tryz.underlying21
  a21 := Tryz.isAgg21
  z21 := Tryz.sizeOf21
  v21 := Tryz.zeroValue21
  t46 := Tryz.underlying189
  a46 := Tryz.isAgg189
  z46 := Tryz.sizeOf189
  v46 := Tryz.zeroValue189
  t51 := Tryz.underlying191
  a51 := Tryz.isAgg191
  z51 := Tryz.sizeOf191
  v51 := Tryz.zeroValue191
  t160 := Tryz.underlying239
  a160 := Tryz.isAgg239
  z160 := Tryz.sizeOf239
  v160 := Tryz.zeroValue239
  t162 := Tryz.underlying186
  a162 := Tryz.isAgg186
  z162 := Tryz.sizeOf186
  v162 := Tryz.zeroValue186
  t203 := Tryz.underlying184
  a203 := Tryz.isAgg184
  z203 := Tryz.sizeOf184
  v203 := Tryz.zeroValue184
  t206 := Tryz.underlying278
  a206 := Tryz.isAgg278
  z206 := Tryz.sizeOf278
  v206 := Tryz.zeroValue278
  t208 := Tryz.underlying280
  a208 := Tryz.isAgg280
  z208 := Tryz.sizeOf280
  v208 := Tryz.zeroValue280
  g13 := by kernel_rfl }
open Go.RowKit Go.Lib in
theorem Tryz.unicode_To (c : Nat) (hc : c < 3) (r : Int) (T : Array CaseRow) (w : World) (hV : CaseVar 2 T w) (hok : CaseOk2 T) (hn : T.size ≤ 1000000000) :
    Calls Tryz.prog 167 #[.int .i64 c, .int .i32 r] w fun e w' => e = .returned (.int .i32 (toW T c r)) ∧ ∃ q, w' = w.drewN q := Any.unicode_To Tryz.lays262 c hc r T w hV hok hn
open Go.RowKit Go.Lib in
theorem Tryz.unicode_ToLower_any (r : Int) (T : Array CaseRow) (w : World) (hV : CaseVar 2 T w) (hok : CaseOk2 T) (hn : T.size ≤ 1000000000) :
    Calls Tryz.prog 141 #[.int .i32 r] w fun e w' => e = .returned (.int .i32 (Lib.toLowerW T r)) ∧ ∃ q, w' = w.drewN q := Any.unicode_ToLower_any Tryz.lays204 r T w hV hok hn
open Go.RowKit Go.Lib in
theorem Tryz.unicode_ToLower_laid (r : Int) (w : World) (hV : CaseVar 2 caseA w) :
    Calls Tryz.prog 141 #[.int .i32 r] w fun e w' => e = .returned (.int .i32 (toLowerU r)) ∧ ∃ q, w' = w.drewN q := Any.unicode_ToLower_laid Tryz.lays204 r w hV
def Tryz.lays270_ren : Go.Shelf.Ren := ⟨fun | 270 => 166 | n => n, fun | 70 => 127 | 3 => 3 | 0 => 0 | 72 => 130 | 37 => 128 | 5 => 5 | n => n, fun | n => n⟩
theorem Tryz.lays270 : Go.Proofs.Lays.n270 Tryz.prog Tryz.lays270_ren := {
  mixed := by kernel_rfl
  f270 := Tryz.func166.trans (congrArg some (by kernel_rfl))
  t0 := Tryz.underlying0
  a0 := Tryz.isAgg0
  z0 := Tryz.sizeOf0
  v0 := Tryz.zeroValue0
  t3 := Tryz.underlying3
  a3 := Tryz.isAgg3
  z3 := Tryz.sizeOf3
  v3 := Tryz.zeroValue3
  t37 := Tryz.underlying128
  a37 := Tryz.isAgg128
  z37 := Tryz.sizeOf128
  v37 := Tryz.zeroValue128
  t70 := Tryz.underlying127
  a70 := Tryz.isAgg127
  z70 := Tryz.sizeOf127
  v70 := Tryz.zeroValue127
  t72 := Tryz.underlying130
  a72 := Tryz.isAgg130
  z72 := Tryz.sizeOf130
  v72 := Tryz.zeroValue130 }
open Go.RowKit Go.Lib in
/-- (*strings.Builder).Cap: "Cap returns the capacity of the builder's underlying byte slice." (LAID: no walk: one application.) -/
theorem Tryz.Builder_Cap_cell (b : Nat) (p : Option Addr) (n cap : Nat) (w : World) (c1 : w.cell? ⟨b, 1, none⟩ = some (.slice p n cap)) :
    Calls Tryz.prog 166 #[.pointer (some ⟨b, 0, none⟩)] w fun e w' => e = .returned (.int .i64 cap) ∧ w' = w := Any.Builder_Cap_cell Tryz.lays270 b p n cap w c1
def Tryz.lays230_ren : Go.Shelf.Ren := ⟨fun | 230 => 140 | 197 => 163 | 118 => 164 | 165 => 136 | 166 => 137 | 168 => 165 | 270 => 166 | 167 => 138 | 169 => 139 | 260 => 178 | 240 => 161 | 241 => 162 | 242 => 179 | 276 => 176 | 277 => 177 | 278 => 212 | n => n, fun | 107 => 137 | 9 => 9 | 72 => 130 | 0 => 0 | 4 => 4 | 3 => 3 | 21 => 21 | 105 => 163 | 76 => 132 | 5 => 5 | 75 => 61 | 70 => 127 | 20 => 20 | 37 => 128 | 127 => 162 | 119 => 235 | 46 => 189 | 139 => 238 | 138 => 237 | 164 => 180 | 51 => 191 | 80 => 135 | n => n, fun | 3 => 7 | 4 => 8 | n => n⟩
theorem Tryz.lays230 : Go.Proofs.Lays.n230 Tryz.prog Tryz.lays230_ren := {
  mixed := by kernel_rfl
  f118 := Tryz.func164.trans (congrArg some (by kernel_rfl))
  f165 := Tryz.func136.trans (congrArg some (by kernel_rfl))
  f166 := Tryz.func137.trans (congrArg some (by kernel_rfl))
  f167 := Tryz.func138.trans (congrArg some (by kernel_rfl))
  f168 := Tryz.func165.trans (congrArg some (by kernel_rfl))
  f169 := Tryz.func139.trans (congrArg some (by kernel_rfl))
  f197 := Tryz.func163.trans (congrArg some (by kernel_rfl))
  f230 := Tryz.func140.trans (congrArg some (by kernel_rfl))
  f240 := Tryz.func161.trans (congrArg some (by kernel_rfl))
  f241 := Tryz.func162.trans (congrArg some (by kernel_rfl))
  f242 := Tryz.func179.trans (congrArg some (by kernel_rfl))
  f260 := Tryz.func178.trans (congrArg some (by kernel_rfl))
  f270 := Tryz.func166.trans (congrArg some (by kernel_rfl))
  f276 := Tryz.func176.trans (congrArg some (by kernel_rfl))
  f277 := Tryz.func177.trans (congrArg some (by kernel_rfl))
  f278 := Tryz.func212.trans (congrArg some (by kernel_rfl))
  t0 := Tryz.underlying0
  a0 := Tryz.isAgg0
  z0 := Tryz.sizeOf0
  v0 := Tryz.zeroValue0
  t3 := Tryz.underlying3
  a3 := Tryz.isAgg3
  z3 := Tryz.sizeOf3
  v3 := Tryz.zeroValue3
  t4 := Tryz.underlying4
  a4 := Tryz.isAgg4
  z4 := Tryz.sizeOf4
  v4 := Tryz.zeroValue4
  t5 := Tryz.underlying5
  a5 := Tryz.isAgg5
  z5 := Tryz.sizeOf5
  v5 := Tryz.zeroValue5
  t9 := Tryz.underlying9
  a9 := Tryz.isAgg9
  z9 := Tryz.sizeOf9
  v9 := Tryz.zeroValue9
  t20 := Tryz.underlying20
  a20 := Tryz.isAgg20
  z20 := Tryz.sizeOf20
  v20 := Tryz.zeroValue20
  t21 := Tryz.underlying21
  a21 := Tryz.isAgg21
  z21 := Tryz.sizeOf21
  v21 := Tryz.zeroValue21
  t37 := Tryz.underlying128
  a37 := Tryz.isAgg128
  z37 := Tryz.sizeOf128
  v37 := Tryz.zeroValue128
  t46 := Tryz.underlying189
  a46 := Tryz.isAgg189
  z46 := Tryz.sizeOf189
  v46 := Tryz.zeroValue189
  t51 := Tryz.underlying191
  a51 := Tryz.isAgg191
  z51 := Tryz.sizeOf191
  v51 := Tryz.zeroValue191
  t70 := Tryz.underlying127
  a70 := Tryz.isAgg127
  z70 := Tryz.sizeOf127
  v70 := Tryz.zeroValue127
  t72 := Tryz.underlying130
  a72 := Tryz.isAgg130
  z72 := Tryz.sizeOf130
  v72 := Tryz.zeroValue130
  t75 := Tryz.underlying61
  a75 := Tryz.isAgg61
  z75 := Tryz.sizeOf61
  v75 := Tryz.zeroValue61
  t76 := Tryz.underlying132
  a76 := Tryz.isAgg132
  z76 := Tryz.sizeOf132
  v76 := Tryz.zeroValue132
  t105 := Tryz.underlying163
  a105 := Tryz.isAgg163
  z105 := Tryz.sizeOf163
  v105 := Tryz.zeroValue163
  t107 := Tryz.underlying137
  a107 := Tryz.isAgg137
  z107 := Tryz.sizeOf137
  v107 := Tryz.zeroValue137
  t119 := Tryz.underlying235
  a119 := Tryz.isAgg235
  z119 := Tryz.sizeOf235
  t127 := Tryz.underlying162
  a127 := Tryz.isAgg162
  z127 := Tryz.sizeOf162
  v127 := Tryz.zeroValue162
  t138 := Tryz.underlying237
  a138 := Tryz.isAgg237
  z138 := Tryz.sizeOf237
  v138 := Tryz.zeroValue237
  t139 := Tryz.underlying238
  a139 := Tryz.isAgg238
  z139 := Tryz.sizeOf238
  v139 := Tryz.zeroValue238
  t164 := Tryz.underlying180
  a164 := Tryz.isAgg180
  z164 := Tryz.sizeOf180
  v164 := Tryz.zeroValue180
  g3 := by kernel_rfl
  g4 := by kernel_rfl }
theorem Tryz.Builder_Extra_230 : Builder.Extra Tryz.prog Tryz.lays230_ren := {
  sizeBuilder := by kernel_rfl
  liesBuilder := by kernel_rfl
  t5 := Tryz.underlying5
  a5 := Tryz.isAgg5
  z5 := Tryz.sizeOf5
  v5 := Tryz.zeroValue5
  infoByte := by kernel_rfl
  cellsByte := by kernel_rfl
  sizeByte := by kernel_rfl
  neB5 := by decide }
open Go.RowKit Go.Lib in
theorem Tryz.strings_Map_runes (g : Nat) (lb : Array Value) (eg : ∀ args w, (callFunc g args).run Tryz.prog w = .ok (.enter g args) w) (f : Int → Int) (s : ByteArray) (w : World) (hs : s.size < 35184372088832) (hf : MapAtRunes Tryz.prog g lb f w) (hnn : ∀ x : Nat, x ≤ 1114111 → 0 ≤ f x ∧ f x ≤ 2147483647) (hT : Lib.Utf8Tabs 7 8 w) :
    Calls Tryz.prog 140 #[.func (.func g) #[] lb, .string s] w fun e w' => e = .returned (.string ⟨(Lib.mapD f s.data.toList).toArray⟩) ∧ Below w.heap.size w w' := Any.strings_Map_runes Tryz.lays230 Tryz.Builder_Extra_230 g lb eg f s w hs hf hnn hT
open Go.RowKit Go.Lib in
theorem Tryz.strings_ToLower_beyond (s : ByteArray) (w : World) (hs : s.size < 35184372088832) (hhigh : ∃ (j : Nat) (b : UInt8), s.data.toList[j]? = some b ∧ 128 ≤ b.toNat) (hV : CaseVar 2 caseA w) (hT : Lib.Utf8Tabs 7 8 w) :
    Calls Tryz.prog 126 #[.string s] w fun e w' => e = .returned (.string ⟨(Lib.toLowerD s.data.toList).toArray⟩) ∧ Below w.heap.size w w' := Any.strings_ToLower_beyond Tryz.lays159 Tryz.Builder_Extra_159 s w hs hhigh hV hT
open Go.RowKit Go.Lib in
/-- **strings.ToLower AT EVERY STRING, VALID UTF-8 OR NOT.** (LAID: no walk: one application.) -/
theorem Tryz.strings_ToLower_any (s : ByteArray) (w : World) (hs : s.size < 35184372088832) (hV : CaseVar 2 caseA w) (hT : Lib.Utf8Tabs 7 8 w) :
    Calls Tryz.prog 126 #[.string s] w fun e w' => e = .returned (.string ⟨(Lib.toLowerD s.data.toList).toArray⟩) ∧ Below w.heap.size w w' := Any.strings_ToLower_any Tryz.lays159 Tryz.Builder_Extra_159 s w hs hV hT
end Go.Proofs

/-
  THE TABLES THAT THE LIBRARY READS, AND THE SETTER OF A multi_match QUERY's TYPE.
-/
namespace Go.Proofs.YtbcnhcpgloncdaaGreatDoor
open Go.RowKit Go.Sort Go.ChangeMaps Go.MapKept Go.Lib

/-- What the library's tables hold. -/
structure Glob (w : World) : Prop where
  case : CaseVar 2 caseA w
  utf : Lib.Utf8Tabs 7 8 w
  pow : Lib.TabIs Tryz.prog w "internal/strconv.uint64pow10" .u64 Lib.pow10Tab
  opt : w.cell? ⟨3, 0, none⟩ = some (.bool true)
  hi6 : w.cell? ⟨13, 708, none⟩ = some (.int .u64 17592186044416000000)
  lo6 : w.cell? ⟨13, 709, none⟩ = some (.int .u64 0)
  hi7 : w.cell? ⟨13, 710, none⟩ = some (.int .u64 10995116277760000000)
  lo7 : w.cell? ⟨13, 711, none⟩ = some (.int .u64 0)

theorem TabIs_below {w w' : World} {name : String} {k : IntKind} {zs : List Int} (h : Lib.TabIs Tryz.prog w name k zs) (hb : Below w.heap.size w w') : Lib.TabIs Tryz.prog w' name k zs := by
  unfold Lib.TabIs World.var? at *
  cases hg : Tryz.prog.globalNamed name with
  | none => rw [hg] at h; simp at h
  | some g =>
    rw [hg] at h
    simp only [Option.bind_some] at h ⊢
    rcases Nat.lt_or_ge g w.heap.size with hlt | hge
    · rw [hb.block g hlt]; exact h
    · rw [Array.getElem?_eq_none hge] at h; simp at h

theorem Glob.below {w w' : World} (h : Glob w) (hb : Below w.heap.size w w') : Glob w' := by
  have hc : ∀ b o v, w.cell? ⟨b, o, none⟩ = some v → w'.cell? ⟨b, o, none⟩ = some v := fun b o v hv => (hb.cell (World.block_lt_of_cell? w _ hv)).trans hv
  obtain ⟨⟨R, oR, cap, h1, h2⟩, h3, hp, ho, t1, t2, t3, t4⟩ := h
  refine ⟨⟨R, oR, cap, hc _ _ _ h1, fun i hi => ?_⟩, ?_, TabIs_below hp hb, hc _ _ _ ho, hc _ _ _ t1, hc _ _ _ t2, hc _ _ _ t3, hc _ _ _ t4⟩
  · obtain ⟨a1, a2, a3, a4, a5⟩ := h2 i hi
    exact ⟨hc _ _ _ a1, hc _ _ _ a2, hc _ _ _ a3, hc _ _ _ a4, hc _ _ _ a5⟩
  · exact ⟨fun c hcc => hc _ _ _ (h3.1 c hcc), fun i hi => ⟨hc _ _ _ (h3.2 i hi).1, hc _ _ _ (h3.2 i hi).2⟩⟩

/-- The type that a multi_match query takes from a text, lower-cased. -/
def typeOf (u : ByteArray) : ByteArray :=
  if u.toList == [109, 111, 115, 116, 95, 102, 105, 101, 108, 100, 115] then ⟨#[109, 111, 115, 116, 95, 102, 105, 101, 108, 100, 115]⟩ else
  if u.toList == [99, 114, 111, 115, 115, 95, 102, 105, 101, 108, 100, 115] then ⟨#[99, 114, 111, 115, 115, 95, 102, 105, 101, 108, 100, 115]⟩ else
  if u.toList == [112, 104, 114, 97, 115, 101] then ⟨#[112, 104, 114, 97, 115, 101]⟩ else
  if u.toList == [112, 104, 114, 97, 115, 101, 95, 112, 114, 101, 102, 105, 120] then ⟨#[112, 104, 114, 97, 115, 101, 95, 112, 114, 101, 102, 105, 120]⟩ else
  if u.toList == [98, 111, 111, 108, 95, 112, 114, 101, 102, 105, 120] then ⟨#[98, 111, 111, 108, 95, 112, 114, 101, 102, 105, 120]⟩ else ⟨#[98, 101, 115, 116, 95, 102, 105, 101, 108, 100, 115]⟩
def lowerB (s : ByteArray) : ByteArray := ⟨(Lib.toLowerD s.data.toList).toArray⟩

set_option maxHeartbeats 800000 in
theorem set_49 {w : World} {lo bq : Nat} {q : Q} (h : QAt w lo bq gMM q) (hlo : lo ≤ w.heap.size) (hG : Glob w) (s : ByteArray) (hs : s.size < 35184372088832) :
    Calls Tryz.prog 49 #[.pointer (some ⟨bq, 0, none⟩), .string s] w (RetQ w lo bq gMM { q with f := upd q.f 3 (.val (.string (typeOf (lowerB s)))) }) := by
  have H := hide h
  have HG := hide hG
  clear h hG
  have HT := hide (rfl : typeOf (lowerB s) = typeOf (lowerB s))
  go_enter Tryz.func49, Tryz.ntmps49
  go_wp2_with fail
  refine (Tryz.strings_ToLower_any s _ hs HG.out.case HG.out.utf).mono ?_
  rintro e w1 ⟨rfl, hb1⟩
  have hu : lowerB s = ⟨(Lib.toLowerD s.data.toList).toArray⟩ := rfl
  rw [← hu]
  clear hu
  generalize lowerB s = u at *
  have H1 := hide (H.out.kept hb1)
  have HB := hide hb1
  have hlo1 : lo ≤ w1.heap.size := Nat.le_trans hlo hb1.size
  obtain ⟨⟨u0, h1⟩, h2⟩ := H1.out.cell 3 (by decide)
  clear hb1
  cases t1 : (u.toList == [109, 111, 115, 116, 95, 102, 105, 101, 108, 100, 115])
  case' false => cases t2 : (u.toList == [99, 114, 111, 115, 115, 95, 102, 105, 101, 108, 100, 115])
  case' false.false => cases t3 : (u.toList == [112, 104, 114, 97, 115, 101])
  case' false.false.false => cases t4 : (u.toList == [112, 104, 114, 97, 115, 101, 95, 112, 114, 101, 102, 105, 120])
  case' false.false.false.false => cases t5 : (u.toList == [98, 111, 111, 108, 95, 112, 114, 101, 102, 105, 120])
  all_goals
    go_wp2
    go_returns
    refine ⟨rfl, ?_, (HB.out.mono hlo).trans (Below.setCell_lo _ H1.out.lo_le)⟩
    simp only [typeOf, *]
    exact H1.out.set (by decide) (by decide) rfl
end Go.Proofs.YtbcnhcpgloncdaaGreatDoor

/-
  WHAT A BUILDER's SETTINGS COME TO.
-/
namespace Go.Proofs.YtbcnhcpgloncdaaGreatDoor
open Go.RowKit Go.Sort Go.ChangeMaps Go.MapKept Go.Lib

/-- int(x) of a number that is whole. -/
def wholeOf (n : Nat) : Int := (floatToIntVal .f64 n .i64).getD 0
/-- What a setting makes of a field. -/
def fvK (k : Nat) (t : T) : FV := match k with
  | 0 => .val (.string t.text)
  | 1 => .opt 22 (.float .f64 t.num)
  | 2 => .opt 3 (.int .i64 (wholeOf t.num))
  | 3 => .opt 4 (.bool t.yes)
  | 4 => .val (.string (typeOf (lowerB t.text)))
  | _ => .val (.int .i64 (wholeOf t.num))
def nField : List UInt8 := [102, 105, 101, 108, 100]
def nBoost : List UInt8 := [102, 105, 101, 108, 100, 95, 119, 105, 116, 104, 95, 98, 111, 111, 115, 116]
abbrev QTab := List (List UInt8 × Nat × Nat)
/-- What a setting does. -/
def stepQ (tab : QTab) (q : Q) (s : S) : Q :=
  if s.name.data.toList = nField then { q with fields := q.fields ++ [s.value.text] }
  else if s.name.data.toList = nBoost then { q with fields := q.fields ++ [s.value.text], boosts := q.boosts ++ [(s.value.text, s.value.num)] }
  else match tab.find? (fun r => r.1 == s.name.data.toList) with
    | some r => { q with f := upd q.f r.2.1 (fvK r.2.2 s.value) }
    | none => q
def runQ (tab : QTab) (q : Q) (ss : List S) : Q := ss.foldl (stepQ tab) q
theorem runQ_snoc (tab : QTab) (q : Q) (ss : List S) (s : S) : runQ tab q (ss ++ [s]) = stepQ tab (runQ tab q ss) s := by simp [runQ, List.foldl_append]
theorem runQ_take (tab : QTab) (q : Q) (ss : List S) (k : Nat) (h : k < ss.length) : runQ tab q (ss.take (k + 1)) = stepQ tab (runQ tab q (ss.take k)) ss[k] := by
  rw [List.take_succ_eq_append_getElem h, runQ_snoc]
theorem stepQ_len (tab : QTab) (q : Q) (s : S) : (stepQ tab q s).fields.length ≤ q.fields.length + 1 ∧ (stepQ tab q s).boosts.length ≤ q.boosts.length + 1 := by
  unfold stepQ
  split
  · simp
  · split
    · simp
    · split <;> simp <;> omega
theorem runQ_len (tab : QTab) : ∀ (ss : List S) (q : Q), (runQ tab q ss).fields.length ≤ q.fields.length + ss.length ∧ (runQ tab q ss).boosts.length ≤ q.boosts.length + ss.length
  | [], q => ⟨Nat.le_refl _, Nat.le_refl _⟩
  | s :: ss, q => by
    have h1 := stepQ_len tab q s
    have h2 := runQ_len tab ss (stepQ tab q s)
    simp only [runQ, List.foldl_cons, List.length_cons] at *
    omega

theorem bs_toList (l : List UInt8) : (bs l).toList = l := ByteArray.toList_mk l
/-- A setting of a builder bears one of its names. -/
theorem name_of_kind {rs : List (List UInt8 × List UInt8)} {name : ByteArray} (h : kindF rs name ≠ []) : ∃ r ∈ rs, name = bs r.1 ∧ kindF rs name = r.2 := by
  unfold kindF at *
  cases hf : rs.find? (fun r => eqB (bs r.1) name) with
  | none => rw [hf] at h; exact absurd rfl h
  | some r =>
    have h1 := List.find?_some hf
    exact ⟨r, List.mem_of_find?_eq_some hf, ((eqB_iff _ _).1 h1).symm, rfl⟩

def qtMM : QTab := [([97, 110, 97, 108, 121, 122, 101, 114], 5, 0), ([98, 111, 111, 115, 116], 6, 1), ([99, 117, 116, 111, 102, 102, 95, 102, 114, 101, 113, 117, 101, 110, 99, 121], 16, 1), ([102, 117, 122, 122, 105, 110, 101, 115, 115], 8, 0), ([102, 117, 122, 122, 121, 95, 114, 101, 119, 114, 105, 116, 101], 13, 0), ([108, 101, 110, 105, 101, 110, 116], 15, 3), ([109, 97, 120, 95, 101, 120, 112, 97, 110, 115, 105, 111, 110, 115], 10, 2), ([109, 105, 110, 105, 109, 117, 109, 95, 115, 104, 111, 117, 108, 100, 95, 109, 97, 116, 99, 104], 11, 0), ([111, 112, 101, 114, 97, 116, 111, 114], 4, 0), ([112, 114, 101, 102, 105, 120, 95, 108, 101, 110, 103, 116, 104], 9, 2), ([114, 101, 119, 114, 105, 116, 101], 12, 0), ([115, 108, 111, 112], 7, 2), ([116, 105, 101, 95, 98, 114, 101, 97, 107, 101, 114], 14, 1), ([116, 121, 112, 101], 3, 4), ([122, 101, 114, 111, 95, 116, 101, 114, 109, 115, 95, 113, 117, 101, 114, 121], 17, 0), ([95, 110, 97, 109, 101], 18, 0)]
theorem rowsMM_is : MM.rows = [([102, 105, 101, 108, 100], [116]), ([102, 105, 101, 108, 100, 95, 119, 105, 116, 104, 95, 98, 111, 111, 115, 116], [102]), ([97, 110, 97, 108, 121, 122, 101, 114], [116]), ([98, 111, 111, 115, 116], [110]), ([99, 117, 116, 111, 102, 102, 95, 102, 114, 101, 113, 117, 101, 110, 99, 121], [110]), ([102, 117, 122, 122, 105, 110, 101, 115, 115], [116]), ([102, 117, 122, 122, 121, 95, 114, 101, 119, 114, 105, 116, 101], [116]), ([108, 101, 110, 105, 101, 110, 116], [98]), ([109, 97, 120, 95, 101, 120, 112, 97, 110, 115, 105, 111, 110, 115], [119]), ([109, 105, 110, 105, 109, 117, 109, 95, 115, 104, 111, 117, 108, 100, 95, 109, 97, 116, 99, 104], [116]), ([111, 112, 101, 114, 97, 116, 111, 114], [116]), ([112, 114, 101, 102, 105, 120, 95, 108, 101, 110, 103, 116, 104], [119]), ([114, 101, 119, 114, 105, 116, 101], [116]), ([115, 108, 111, 112], [119]), ([116, 105, 101, 95, 98, 114, 101, 97, 107, 101, 114], [110]), ([116, 121, 112, 101], [116]), ([122, 101, 114, 111, 95, 116, 101, 114, 109, 115, 95, 113, 117, 101, 114, 121], [116]), ([95, 110, 97, 109, 101], [116])] := by decide +kernel
def qtCF : QTab := [([97, 117, 116, 111, 95, 103, 101, 110, 101, 114, 97, 116, 101, 95, 115, 121, 110, 111, 110, 121, 109, 115, 95, 112, 104, 114, 97, 115, 101, 95, 113, 117, 101, 114, 121], 3, 3), ([109, 105, 110, 105, 109, 117, 109, 95, 115, 104, 111, 117, 108, 100, 95, 109, 97, 116, 99, 104], 5, 0), ([111, 112, 101, 114, 97, 116, 111, 114], 4, 0), ([122, 101, 114, 111, 95, 116, 101, 114, 109, 115, 95, 113, 117, 101, 114, 121], 6, 0)]
theorem rowsCF_is : CF.rows = [([102, 105, 101, 108, 100], [116]), ([102, 105, 101, 108, 100, 95, 119, 105, 116, 104, 95, 98, 111, 111, 115, 116], [102]), ([97, 117, 116, 111, 95, 103, 101, 110, 101, 114, 97, 116, 101, 95, 115, 121, 110, 111, 110, 121, 109, 115, 95, 112, 104, 114, 97, 115, 101, 95, 113, 117, 101, 114, 121], [98]), ([109, 105, 110, 105, 109, 117, 109, 95, 115, 104, 111, 117, 108, 100, 95, 109, 97, 116, 99, 104], [116]), ([111, 112, 101, 114, 97, 116, 111, 114], [116]), ([122, 101, 114, 111, 95, 116, 101, 114, 109, 115, 95, 113, 117, 101, 114, 121], [116])] := by decide +kernel
def qtSQ : QTab := [([97, 110, 97, 108, 121, 122, 101, 95, 119, 105, 108, 100, 99, 97, 114, 100], 11, 3), ([97, 110, 97, 108, 121, 122, 101, 114], 1, 0), ([97, 117, 116, 111, 95, 103, 101, 110, 101, 114, 97, 116, 101, 95, 115, 121, 110, 111, 110, 121, 109, 115, 95, 112, 104, 114, 97, 115, 101, 95, 113, 117, 101, 114, 121], 14, 3), ([98, 111, 111, 115, 116], 8, 1), ([100, 101, 102, 97, 117, 108, 116, 95, 111, 112, 101, 114, 97, 116, 111, 114], 3, 0), ([102, 108, 97, 103, 115], 7, 0), ([102, 117, 122, 122, 121, 95, 109, 97, 120, 95, 101, 120, 112, 97, 110, 115, 105, 111, 110, 115], 16, 5), ([102, 117, 122, 122, 121, 95, 112, 114, 101, 102, 105, 120, 95, 108, 101, 110, 103, 116, 104], 15, 5), ([102, 117, 122, 122, 121, 95, 116, 114, 97, 110, 115, 112, 111, 115, 105, 116, 105, 111, 110, 115], 17, 3), ([108, 101, 110, 105, 101, 110, 116], 10, 3), ([109, 105, 110, 105, 109, 117, 109, 95, 115, 104, 111, 117, 108, 100, 95, 109, 97, 116, 99, 104], 6, 0), ([113, 117, 111, 116, 101, 95, 102, 105, 101, 108, 100, 95, 115, 117, 102, 102, 105, 120], 2, 0), ([95, 110, 97, 109, 101], 13, 0)]
theorem rowsSQ_is : SQ.rows = [([102, 105, 101, 108, 100], [116]), ([102, 105, 101, 108, 100, 95, 119, 105, 116, 104, 95, 98, 111, 111, 115, 116], [102]), ([97, 110, 97, 108, 121, 122, 101, 95, 119, 105, 108, 100, 99, 97, 114, 100], [98]), ([97, 110, 97, 108, 121, 122, 101, 114], [116]), ([97, 117, 116, 111, 95, 103, 101, 110, 101, 114, 97, 116, 101, 95, 115, 121, 110, 111, 110, 121, 109, 115, 95, 112, 104, 114, 97, 115, 101, 95, 113, 117, 101, 114, 121], [98]), ([98, 111, 111, 115, 116], [110]), ([100, 101, 102, 97, 117, 108, 116, 95, 111, 112, 101, 114, 97, 116, 111, 114], [116]), ([102, 108, 97, 103, 115], [116]), ([102, 117, 122, 122, 121, 95, 109, 97, 120, 95, 101, 120, 112, 97, 110, 115, 105, 111, 110, 115], [119]), ([102, 117, 122, 122, 121, 95, 112, 114, 101, 102, 105, 120, 95, 108, 101, 110, 103, 116, 104], [119]), ([102, 117, 122, 122, 121, 95, 116, 114, 97, 110, 115, 112, 111, 115, 105, 116, 105, 111, 110, 115], [98]), ([108, 101, 110, 105, 101, 110, 116], [98]), ([109, 105, 110, 105, 109, 117, 109, 95, 115, 104, 111, 117, 108, 100, 95, 109, 97, 116, 99, 104], [116]), ([113, 117, 111, 116, 101, 95, 102, 105, 101, 108, 100, 95, 115, 117, 102, 102, 105, 120], [116]), ([95, 110, 97, 109, 101], [116])] := by decide +kernel
def qtQS : QTab := [([97, 108, 108, 111, 119, 95, 108, 101, 97, 100, 105, 110, 103, 95, 119, 105, 108, 100, 99, 97, 114, 100], 6, 3), ([97, 110, 97, 108, 121, 122, 101, 95, 119, 105, 108, 100, 99, 97, 114, 100], 9, 3), ([97, 110, 97, 108, 121, 122, 101, 114], 3, 0), ([98, 111, 111, 115, 116], 11, 1), ([100, 101, 102, 97, 117, 108, 116, 95, 102, 105, 101, 108, 100], 1, 0), ([100, 101, 102, 97, 117, 108, 116, 95, 111, 112, 101, 114, 97, 116, 111, 114], 2, 0), ([101, 110, 97, 98, 108, 101, 95, 112, 111, 115, 105, 116, 105, 111, 110, 95, 105, 110, 99, 114, 101, 109, 101, 110, 116, 115], 8, 3), ([101, 115, 99, 97, 112, 101], 26, 3), ([102, 117, 122, 122, 105, 110, 101, 115, 115], 12, 0), ([102, 117, 122, 122, 121, 95, 109, 97, 120, 95, 101, 120, 112, 97, 110, 115, 105, 111, 110, 115], 14, 2), ([102, 117, 122, 122, 121, 95, 112, 114, 101, 102, 105, 120, 95, 108, 101, 110, 103, 116, 104], 13, 2), ([102, 117, 122, 122, 121, 95, 114, 101, 119, 114, 105, 116, 101], 15, 0), ([108, 101, 110, 105, 101, 110, 116], 22, 3), ([109, 97, 120, 95, 100, 101, 116, 101, 114, 109, 105, 110, 105, 122, 101, 100, 95, 115, 116, 97, 116, 101, 115], 25, 2), ([109, 105, 110, 105, 109, 117, 109, 95, 115, 104, 111, 117, 108, 100, 95, 109, 97, 116, 99, 104], 21, 0), ([112, 104, 114, 97, 115, 101, 95, 115, 108, 111, 112], 16, 2), ([113, 117, 111, 116, 101, 95, 97, 110, 97, 108, 121, 122, 101, 114], 4, 0), ([113, 117, 111, 116, 101, 95, 102, 105, 101, 108, 100, 95, 115, 117, 102, 102, 105, 120], 5, 0), ([114, 101, 119, 114, 105, 116, 101], 20, 0), ([116, 105, 101, 95, 98, 114, 101, 97, 107, 101, 114], 19, 1), ([116, 105, 109, 101, 95, 122, 111, 110, 101], 24, 0), ([116, 121, 112, 101], 27, 0), ([95, 110, 97, 109, 101], 23, 0)]
theorem rowsQS_is : QS.rows = [([102, 105, 101, 108, 100], [116]), ([102, 105, 101, 108, 100, 95, 119, 105, 116, 104, 95, 98, 111, 111, 115, 116], [102]), ([97, 108, 108, 111, 119, 95, 108, 101, 97, 100, 105, 110, 103, 95, 119, 105, 108, 100, 99, 97, 114, 100], [98]), ([97, 110, 97, 108, 121, 122, 101, 95, 119, 105, 108, 100, 99, 97, 114, 100], [98]), ([97, 110, 97, 108, 121, 122, 101, 114], [116]), ([98, 111, 111, 115, 116], [110]), ([100, 101, 102, 97, 117, 108, 116, 95, 102, 105, 101, 108, 100], [116]), ([100, 101, 102, 97, 117, 108, 116, 95, 111, 112, 101, 114, 97, 116, 111, 114], [116]), ([101, 110, 97, 98, 108, 101, 95, 112, 111, 115, 105, 116, 105, 111, 110, 95, 105, 110, 99, 114, 101, 109, 101, 110, 116, 115], [98]), ([101, 115, 99, 97, 112, 101], [98]), ([102, 117, 122, 122, 105, 110, 101, 115, 115], [116]), ([102, 117, 122, 122, 121, 95, 109, 97, 120, 95, 101, 120, 112, 97, 110, 115, 105, 111, 110, 115], [119]), ([102, 117, 122, 122, 121, 95, 112, 114, 101, 102, 105, 120, 95, 108, 101, 110, 103, 116, 104], [119]), ([102, 117, 122, 122, 121, 95, 114, 101, 119, 114, 105, 116, 101], [116]), ([108, 101, 110, 105, 101, 110, 116], [98]), ([109, 97, 120, 95, 100, 101, 116, 101, 114, 109, 105, 110, 105, 122, 101, 100, 95, 115, 116, 97, 116, 101, 115], [119]), ([109, 105, 110, 105, 109, 117, 109, 95, 115, 104, 111, 117, 108, 100, 95, 109, 97, 116, 99, 104], [116]), ([112, 104, 114, 97, 115, 101, 95, 115, 108, 111, 112], [119]), ([113, 117, 111, 116, 101, 95, 97, 110, 97, 108, 121, 122, 101, 114], [116]), ([113, 117, 111, 116, 101, 95, 102, 105, 101, 108, 100, 95, 115, 117, 102, 102, 105, 120], [116]), ([114, 101, 119, 114, 105, 116, 101], [116]), ([116, 105, 101, 95, 98, 114, 101, 97, 107, 101, 114], [110]), ([116, 105, 109, 101, 95, 122, 111, 110, 101], [116]), ([116, 121, 112, 101], [116]), ([95, 110, 97, 109, 101], [116])] := by decide +kernel

/-- The value of a setting, told by its kind. -/
theorem fits_kind {B : Builder} {s : S} (h : fitsAt B s = true) : ∃ r ∈ B.rows, s.name = bs r.1 ∧ fitB r.2 s.value = true := by
  unfold fitsAt at h
  have hne : kindF B.rows s.name ≠ [] := by intro e; rw [e] at h; simp [fitB] at h
  obtain ⟨r, hr, hn, hk⟩ := name_of_kind hne
  exact ⟨r, hr, hn, by rw [← hk]; exact h⟩


theorem whole_of {t : T} (h : fitB [119] t = true) : ∃ m, floatToIntVal .f64 t.num .i64 = some m ∧ wholeOf t.num = m ∧ 0 ≤ m ∧ m ≤ 1000000 := by
  simp [fitB, scalarT] at h
  obtain ⟨hk, hs, hw⟩ := h
  have hnum : isNum t.num = true := by
    rw [← fin_num]
    rw [hk] at hs
    simpa using hs.2
  unfold wholeB at hw
  simp only [Bool.and_eq_true] at hw
  obtain ⟨m, hm, h0, h1⟩ := whole_int hnum hw.1 hw.2.1
  exact ⟨m, hm, by unfold wholeOf; rw [hm]; rfl, h0, h1⟩

theorem round_start {tab : QTab} {q0 : Q} {ss : List S} {k : Nat} (hlt : k < ss.length) (h1 : q0.fields.length + ss.length ≤ 4194304) (h2 : q0.boosts.length + ss.length ≤ 4194304) :
    (runQ tab q0 (ss.take k)).fields.length ≤ 4194304 ∧ (runQ tab q0 (ss.take k)).boosts.length ≤ 4194304 ∧ runQ tab q0 (ss.take (k + 1)) = stepQ tab (runQ tab q0 (ss.take k)) ss[k] := by
  have h := runQ_len tab (ss.take k) q0
  rw [List.length_take] at h
  exact ⟨by omega, by omega, runQ_take tab q0 ss k hlt⟩

def newB (n : Nat) : Nat → Prop := fun k => n ≤ k
/-- What treeOf makes of a value, now and later. -/
def Tells (w : World) (u : Value) (R : T → Prop) : Prop :=
  ∀ w', Below w.heap.size w w' → Calls Tryz.prog 127 #[u] w' fun e w'' => ∃ v t, e = .returned v ∧ TreeAt w'' (newB w'.heap.size) v t ∧ R t ∧ Below w'.heap.size w' w''
def RetSrc (w : World) (R : T → Prop) (e : Ending) (w' : World) : Prop := ∃ u, e = .returned (.tuple #[u, .nilIface]) ∧ Tells w' u R ∧ Below w.heap.size w w'
def RetTold (w : World) (R : T → Prop) (e : Ending) (w' : World) : Prop := ∃ v t, e = .returned (.tuple #[v, .bool true]) ∧ TreeAt w' (newB w.heap.size) v t ∧ R t ∧ Below w.heap.size w w'

theorem same_setCell {ok : Nat → Prop} {w w' : World} {b i : Nat} (u : Value) (h : Same ok w w') (hb : ¬ ok b) : Same ok w (w'.setCell ⟨b, i, none⟩ u) := fun k hk hlt => by
  rw [heap_setCell_other _ _ _ _ (fun e => hb (by rw [← show k = b from e]; exact hk))]
  exact h k hk hlt

/-- The cells of a block that stands. -/
theorem old_cells {w w1 : World} {c : Array Value} {t : TypeId} (hb : Below (w.alloc (.cells c t (0, 0))).heap.size (w.alloc (.cells c t (0, 0))) w1) :
    (∀ j u, c[j]? = some u → w1.cell? ⟨w.heap.size, j, none⟩ = some u) ∧ ∀ j, w1.frozen? ⟨w.heap.size, j, none⟩ = false := by
  have h : w1.heap[w.heap.size]? = some (.cells c t (0, 0)) := (hb.block _ (by simp)).trans (heap_alloc_new _ _)
  exact ⟨fun j u hu => by rw [cell_of_row w1 _ j c t (0, 0) h]; exact hu, fun j => frozen_of_row w1 _ j c t h⟩

/-- A tree's value laid into a block of six cells. -/
theorem set6 {w1 : World} {b : Nat} {z0 z1 z2 z3 z4 z5 : Value} (h : w1.heap[b]? = some (.cells #[z0, z1, z2, z3, z4, z5] 26 (0, 0))) (v0 v1 v2 v3 v4 v5 : Value) :
    ((((((w1.setCell ⟨b, 0, none⟩ v0).setCell ⟨b, 1, none⟩ v1).setCell ⟨b, 2, none⟩ v2).setCell ⟨b, 3, none⟩ v3).setCell ⟨b, 4, none⟩ v4).setCell ⟨b, 5, none⟩ v5).heap[b]? = some (.cells #[v0, v1, v2, v3, v4, v5] 26 (0, 0)) :=
  heap_setCell_same _ _ _ _ _ _ (heap_setCell_same _ _ _ _ _ _ (heap_setCell_same _ _ _ _ _ _ (heap_setCell_same _ _ _ _ _ _ (heap_setCell_same _ _ _ _ _ _ (heap_setCell_same _ _ _ _ _ _ h)))))
theorem below6 {w1 : World} {b n : Nat} (hn : n ≤ b) (v0 v1 v2 v3 v4 v5 : Value) : Below n w1 ((((((w1.setCell ⟨b, 0, none⟩ v0).setCell ⟨b, 1, none⟩ v1).setCell ⟨b, 2, none⟩ v2).setCell ⟨b, 3, none⟩ v3).setCell ⟨b, 4, none⟩ v4).setCell ⟨b, 5, none⟩ v5) :=
  Below.setCell (Below.setCell (Below.setCell (Below.setCell (Below.setCell (Below.setCell (Below.refl _ _) hn _) hn _) hn _) hn _) hn _) hn _
theorem same6 {ok : Nat → Prop} {w1 : World} {b : Nat} (hn : ¬ ok b) (v0 v1 v2 v3 v4 v5 : Value) : Same ok w1 ((((((w1.setCell ⟨b, 0, none⟩ v0).setCell ⟨b, 1, none⟩ v1).setCell ⟨b, 2, none⟩ v2).setCell ⟨b, 3, none⟩ v3).setCell ⟨b, 4, none⟩ v4).setCell ⟨b, 5, none⟩ v5) :=
  same_setCell _ (same_setCell _ (same_setCell _ (same_setCell _ (same_setCell _ (same_setCell _ (fun _ _ _ => rfl) hn) hn) hn) hn) hn) hn

set_option maxHeartbeats 400000 in
theorem told_any {w : World} {u : Value} {R : T → Prop} (h : Tells w u R) : Calls Tryz.prog 52 #[u, .nilIface] w (RetTold w R) := by
  have H := hide h
  clear h
  go_enter Tryz.func52, Tryz.ntmps52
  go_wp2_with fail
  refine (H.out _ (by go_grown)).mono ?_
  rintro e w1 ⟨v, t, rfl, ht, hr, hb⟩
  obtain ⟨a, cap, a', cap', c, rfl, -⟩ := ht.open
  have HT := hide ht
  have HB := hide hb
  have hblk : w1.heap[w.heap.size]? = some (.cells #[.int .i64 0, .string ⟨#[]⟩, .float .f64 0, .bool false, .slice none 0 0, .slice none 0 0] 26 (0, 0)) := (hb.block _ (by simp)).trans (heap_alloc_new _ _)
  obtain ⟨hc, hf⟩ := old_cells hb
  have c0 : w1.cell? ⟨w.heap.size, 0, none⟩ = some (.int .i64 0) := hc 0 _ rfl
  have c1 : w1.cell? ⟨w.heap.size, 1, none⟩ = some (.string ⟨#[]⟩) := hc 1 _ rfl
  have c2 : w1.cell? ⟨w.heap.size, 2, none⟩ = some (.float .f64 0) := hc 2 _ rfl
  have c3 : w1.cell? ⟨w.heap.size, 3, none⟩ = some (.bool false) := hc 3 _ rfl
  have c4 : w1.cell? ⟨w.heap.size, 4, none⟩ = some (.slice none 0 0) := hc 4 _ rfl
  have c5 : w1.cell? ⟨w.heap.size, 5, none⟩ = some (.slice none 0 0) := hc 5 _ rfl
  have HZ := hide (set6 hblk (.int .i64 t.kind) (.string t.text) (.float .f64 t.num) (.bool t.yes) (.slice a t.keys.length cap) (.slice a' t.kids.length cap'))
  have HS := hide (same6 (ok := newB (w.heap.size + 1)) (w1 := w1) (b := w.heap.size) (by simp [newB]) (.int .i64 t.kind) (.string t.text) (.float .f64 t.num) (.bool t.yes) (.slice a t.keys.length cap) (.slice a' t.kids.length cap'))
  have HL := hide (below6 (w1 := w1) (Nat.le_refl w.heap.size) (.int .i64 t.kind) (.string t.text) (.float .f64 t.num) (.bool t.yes) (.slice a t.keys.length cap) (.slice a' t.kids.length cap'))
  clear ht hb hc hblk
  go_wp2_with fail
  generalize ((((((w1.setCell ⟨w.heap.size, 0, none⟩ (.int .i64 t.kind)).setCell ⟨w.heap.size, 1, none⟩ (.string t.text)).setCell ⟨w.heap.size, 2, none⟩ (.float .f64 t.num)).setCell ⟨w.heap.size, 3, none⟩ (.bool t.yes)).setCell ⟨w.heap.size, 4, none⟩ (.slice a t.keys.length cap)).setCell ⟨w.heap.size, 5, none⟩ (.slice a' t.kids.length cap')) = wz at *
  have e0 : wz.cell? ⟨w.heap.size, 0, none⟩ = some (.int .i64 t.kind) := by rw [cell_of_row wz _ 0 _ _ _ HZ.out]; rfl
  have e1 : wz.cell? ⟨w.heap.size, 1, none⟩ = some (.string t.text) := by rw [cell_of_row wz _ 1 _ _ _ HZ.out]; rfl
  have e2 : wz.cell? ⟨w.heap.size, 2, none⟩ = some (.float .f64 t.num) := by rw [cell_of_row wz _ 2 _ _ _ HZ.out]; rfl
  have e3 : wz.cell? ⟨w.heap.size, 3, none⟩ = some (.bool t.yes) := by rw [cell_of_row wz _ 3 _ _ _ HZ.out]; rfl
  have e4 : wz.cell? ⟨w.heap.size, 4, none⟩ = some (.slice a t.keys.length cap) := by rw [cell_of_row wz _ 4 _ _ _ HZ.out]; rfl
  have e5 : wz.cell? ⟨w.heap.size, 5, none⟩ = some (.slice a' t.kids.length cap') := by rw [cell_of_row wz _ 5 _ _ _ HZ.out]; rfl
  refine bodyPost_ret (by simp [results, Tryz.results52, go_sem, e0, e1, e2, e3, e4, e5]; try rfl) rfl ?_
  refine ⟨_, t, rfl, ?_, hr, ?_⟩
  · refine TreeAt.weaken (fun k hk _ => ?_) ((HT.out.weaken (ok' := newB (w.heap.size + 1)) (fun k hk _ => by simpa [newB] using hk)).same HS.out)
    unfold newB at *; omega
  · exact (Below.trans (by go_grown) (HB.out.mono (by simp))).trans HL.out
end Go.Proofs.YtbcnhcpgloncdaaGreatDoor
