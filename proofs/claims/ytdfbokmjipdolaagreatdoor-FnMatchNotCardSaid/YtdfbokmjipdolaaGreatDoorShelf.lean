/-
  DERIVED: THE SHELF's CONTRACTS AT THIS DUMP, IN PLAIN WORDS (tools/lay-plain.mjs out of 'TryzShelf.lean', which tools/lay-shelf.mjs wrote): THE SAME DECLARATIONS UNDER THE SAME NAMES: 'import', 'namespace', 'open', 'def', 'theorem' AND NOTHING ELSE: no command of the shelf's: FOR A HAND-IN. Each laying: the table of numbers ('.._ren') and one theorem, a field a fact of the dump's own or the kernel's comparison; each contract: ONE APPLICATION.
-/
import Derived.Shelf.Strings.Builder1
import Derived.Shelf.Strings.Builder2
import Derived.Shelf.Strings.OnBuilder
import Derived.Shelf.Small.Utf8
import Derived.Shelf.Strings.BuilderF
import Derived.Shelf.Strings.BuilderK
import Derived.Shelf.Strings.BuilderRune
import Derived.Shelf.Strconv.Itoa0
import Derived.Shelf.LaysM
import Derived.Shelf.Strconv.Clone
import Derived.Shelf.LaysC
import Derived.Shelf.Strconv.Lower
import Derived.Shelf.Strings.Prefix
import Derived.Shelf.Strings.Fold
import Derived.Shelf.Unicode.Latin
import Derived.Shelf.Bits.Mul64
import Derived.Shelf.Unicode.DecodeSlow
import Derived.Shelf.Unicode.DecodeAny
import Derived.Shelf.Unicode.CaseLookup
import Derived.Shelf.Unicode.CaseConvert
import Derived.Shelf.Unicode.CaseTo
import Derived.Shelf.Unicode.CaseLaid
import Derived.Shelf.Strings.MapAny
import Derived.Shelf.Strings.CaseAny
import Derived.Test.YtdfbokmjipdolaaGreatDoorProg
set_option linter.unusedVariables false
set_option linter.unusedSimpArgs false
namespace Go.Proofs
open Go.Shelf
def Tryz.lays169_ren : Go.Shelf.Ren := ⟨fun | 169 => 61 | n => n, fun | 70 => 112 | 9 => 9 | 0 => 0 | 72 => 114 | 37 => 73 | 127 => 142 | 3 => 3 | 5 => 5 | n => n, fun | n => n⟩
theorem Tryz.lays169 : Go.Proofs.Lays.n169 Tryz.prog Tryz.lays169_ren := {
  mixed := by kernel_rfl
  f169 := Tryz.func61.trans (congrArg some (by kernel_rfl))
  t0 := Tryz.underlying0
  a0 := Tryz.isAgg0
  z0 := Tryz.sizeOf0
  v0 := Tryz.zeroValue0
  t3 := Tryz.underlying3
  a3 := Tryz.isAgg3
  z3 := Tryz.sizeOf3
  v3 := Tryz.zeroValue3
  t9 := Tryz.underlying9
  a9 := Tryz.isAgg9
  z9 := Tryz.sizeOf9
  v9 := Tryz.zeroValue9
  t37 := Tryz.underlying73
  a37 := Tryz.isAgg73
  z37 := Tryz.sizeOf73
  v37 := Tryz.zeroValue73
  t70 := Tryz.underlying112
  a70 := Tryz.isAgg112
  z70 := Tryz.sizeOf112
  v70 := Tryz.zeroValue112
  t72 := Tryz.underlying114
  a72 := Tryz.isAgg114
  z72 := Tryz.sizeOf114
  v72 := Tryz.zeroValue114
  t127 := Tryz.underlying142
  a127 := Tryz.isAgg142
  z127 := Tryz.sizeOf142
  v127 := Tryz.zeroValue142 }
theorem Tryz.Builder_Extra_169 : Builder.Extra Tryz.prog Tryz.lays169_ren := {
  sizeBuilder := by kernel_rfl
  liesBuilder := by kernel_rfl
  t5 := Tryz.underlying5
  a5 := Tryz.isAgg5
  z5 := Tryz.sizeOf5
  v5 := Tryz.zeroValue5
  infoByte := by kernel_rfl
  cellsByte := by kernel_rfl
  sizeByte := by kernel_rfl
  neB5 := by decide }
open Go.RowKit in
/-- (*strings.Builder).String: "String returns the accumulated string.": OF A BUILDER THAT HOLDS AT LEAST ONE BYTE. ✋ THE MODEL FREEZES THOSE BYTES IN THE BUFFER (unsafe.String): a later write INTO them ends the model's run without an answer; a later append BEHIND them goes on. The statement's order of evaluation is drawn: one draw. (LAID: no walk: one application.) -/
theorem Tryz.Builder_String (B b : Nat) (l : List UInt8) (w : World) (h : Lib.IsBuilder 114 5 B b (Lib.byteCells l) w) (h0 : l ≠ []) :
    Calls Tryz.prog 61 #[.pointer (some ⟨b, 0, none⟩)] w fun e w' => e = .returned (.string ⟨l.toArray⟩) ∧ Below B w w' := Any.Builder_String Tryz.lays169 Tryz.Builder_Extra_169 B b l w h h0
open Go.RowKit in
/-- (*strings.Builder).String OF A BUILDER THAT HOLDS NO BYTE: the empty string. (Its buffer is nil, or a row of which it has taken nothing yet; where that row has NO capacity the model lays one new block for unsafe.SliceData's 'some address'.) One draw. (LAID: no walk: one application.) -/
theorem Tryz.Builder_String_empty (B b : Nat) (w : World) (h : Lib.IsBuilder 114 5 B b [] w) (hBw : B ≤ w.heap.size) :
    Calls Tryz.prog 61 #[.pointer (some ⟨b, 0, none⟩)] w fun e w' => e = .returned (.string ⟨#[]⟩) ∧ Below B w w' := Any.Builder_String_empty Tryz.lays169 Tryz.Builder_Extra_169 B b w h hBw
open Go.RowKit in
/-- (*strings.Builder).String: "String returns the accumulated string.": WHATEVER THE BUILDER HOLDS. (LAID: no walk: one application.) -/
theorem Tryz.Builder_String_any (B b : Nat) (l : List UInt8) (w : World) (h : Lib.IsBuilder 114 5 B b (Lib.byteCells l) w) (hBw : B ≤ w.heap.size) :
    Calls Tryz.prog 61 #[.pointer (some ⟨b, 0, none⟩)] w fun e w' => e = .returned (.string ⟨l.toArray⟩) ∧ Below B w w' := Any.Builder_String_any Tryz.lays169 Tryz.Builder_Extra_169 B b l w h hBw
def Tryz.lays241_ren : Go.Shelf.Ren := ⟨fun | 241 => 94 | 277 => 120 | n => n, fun | 70 => 112 | 3 => 3 | 0 => 0 | 72 => 114 | 37 => 73 | 5 => 5 | n => n, fun | n => n⟩
theorem Tryz.lays241 : Go.Proofs.Lays.n241 Tryz.prog Tryz.lays241_ren := {
  mixed := by kernel_rfl
  f241 := Tryz.func94.trans (congrArg some (by kernel_rfl))
  f277 := Tryz.func120.trans (congrArg some (by kernel_rfl))
  t0 := Tryz.underlying0
  a0 := Tryz.isAgg0
  z0 := Tryz.sizeOf0
  v0 := Tryz.zeroValue0
  t3 := Tryz.underlying3
  a3 := Tryz.isAgg3
  z3 := Tryz.sizeOf3
  v3 := Tryz.zeroValue3
  t37 := Tryz.underlying73
  a37 := Tryz.isAgg73
  z37 := Tryz.sizeOf73
  v37 := Tryz.zeroValue73
  t70 := Tryz.underlying112
  a70 := Tryz.isAgg112
  z70 := Tryz.sizeOf112
  v70 := Tryz.zeroValue112
  t72 := Tryz.underlying114
  a72 := Tryz.isAgg114
  z72 := Tryz.sizeOf114
  v72 := Tryz.zeroValue114 }
theorem Tryz.Builder_Extra_241 : Builder.Extra Tryz.prog Tryz.lays241_ren := {
  sizeBuilder := by kernel_rfl
  liesBuilder := by kernel_rfl
  t5 := Tryz.underlying5
  a5 := Tryz.isAgg5
  z5 := Tryz.sizeOf5
  v5 := Tryz.zeroValue5
  infoByte := by kernel_rfl
  cellsByte := by kernel_rfl
  sizeByte := by kernel_rfl
  neB5 := by decide }
open Go.RowKit in
/-- (*strings.Builder).grow (no doc but "grow copies the buffer to a new, larger buffer so that there are at least n bytes of capacity beyond len(b.buf)."): AT A BUILDER WITHOUT A BUFFER: a new row of whatever bytes for its buffer, none of them its own yet. Three draws. (LAID: no walk: one application.) -/
theorem Tryz.Builder_grow_fresh (B b n : Nat) (w : World) (hB : B ≤ b) (hbk : w.heap[b]? = some (.cells #[.pointer (some ⟨b, 0, none⟩), .slice none 0 0] 114 (0, 0))) (hBw : B ≤ w.heap.size) (hn : n ≤ 281474976710656) :
    Calls Tryz.prog 94 #[.pointer (some ⟨b, 0, none⟩), .int .i64 n] w fun e w' => e = .returned (.tuple #[]) ∧ (Lib.BuilderAt 114 5 B b (.pointer (some ⟨b, 0, none⟩)) [] w' ∧ Below B w w') := Any.Builder_grow_fresh Tryz.lays241 Tryz.Builder_Extra_241 B b n w hB hbk hBw hn
def Tryz.lays165_ren : Go.Shelf.Ren := ⟨fun | 165 => 58 | 240 => 93 | 241 => 94 | 276 => 119 | 277 => 120 | n => n, fun | 70 => 112 | 3 => 3 | 0 => 0 | 4 => 4 | 9 => 9 | 20 => 20 | 72 => 114 | 37 => 73 | 164 => 194 | 5 => 5 | n => n, fun | n => n⟩
theorem Tryz.lays165 : Go.Proofs.Lays.n165 Tryz.prog Tryz.lays165_ren := {
  mixed := by kernel_rfl
  f165 := Tryz.func58.trans (congrArg some (by kernel_rfl))
  f240 := Tryz.func93.trans (congrArg some (by kernel_rfl))
  f241 := Tryz.func94.trans (congrArg some (by kernel_rfl))
  f276 := Tryz.func119.trans (congrArg some (by kernel_rfl))
  f277 := Tryz.func120.trans (congrArg some (by kernel_rfl))
  t0 := Tryz.underlying0
  a0 := Tryz.isAgg0
  z0 := Tryz.sizeOf0
  v0 := Tryz.zeroValue0
  t3 := Tryz.underlying3
  a3 := Tryz.isAgg3
  z3 := Tryz.sizeOf3
  v3 := Tryz.zeroValue3
  t4 := Tryz.underlying4
  a4 := Tryz.isAgg4
  z4 := Tryz.sizeOf4
  v4 := Tryz.zeroValue4
  t9 := Tryz.underlying9
  a9 := Tryz.isAgg9
  z9 := Tryz.sizeOf9
  v9 := Tryz.zeroValue9
  t20 := Tryz.underlying20
  a20 := Tryz.isAgg20
  z20 := Tryz.sizeOf20
  v20 := Tryz.zeroValue20
  t37 := Tryz.underlying73
  a37 := Tryz.isAgg73
  z37 := Tryz.sizeOf73
  v37 := Tryz.zeroValue73
  t70 := Tryz.underlying112
  a70 := Tryz.isAgg112
  z70 := Tryz.sizeOf112
  v70 := Tryz.zeroValue112
  t72 := Tryz.underlying114
  a72 := Tryz.isAgg114
  z72 := Tryz.sizeOf114
  v72 := Tryz.zeroValue114
  t164 := Tryz.underlying194
  a164 := Tryz.isAgg194
  z164 := Tryz.sizeOf194
  v164 := Tryz.zeroValue194 }
theorem Tryz.Builder_Extra_165 : Builder.Extra Tryz.prog Tryz.lays165_ren := {
  sizeBuilder := by kernel_rfl
  liesBuilder := by kernel_rfl
  t5 := Tryz.underlying5
  a5 := Tryz.isAgg5
  z5 := Tryz.sizeOf5
  v5 := Tryz.zeroValue5
  infoByte := by kernel_rfl
  cellsByte := by kernel_rfl
  sizeByte := by kernel_rfl
  neB5 := by decide }
open Go.RowKit in
/-- (*strings.Builder).Grow AT A BUILDER THAT HAS NOT BEEN WRITTEN ('var b strings.Builder; b.Grow(n)'): "Grow grows b's capacity, if necessary, to guarantee space for another n bytes.": it holds no byte behind it as before it. (LAID: no walk: one application.) -/
theorem Tryz.Builder_Grow_fresh (B b n : Nat) (w : World) (hB : B ≤ b) (hbk : w.heap[b]? = some (.cells #[.pointer none, .slice none 0 0] 114 (0, 0))) (hBw : B ≤ w.heap.size) (hn : n ≤ 281474976710656) :
    Calls Tryz.prog 58 #[.pointer (some ⟨b, 0, none⟩), .int .i64 n] w fun e w' => e = .returned (.tuple #[]) ∧ (Lib.BuilderAt 114 5 B b (.pointer (some ⟨b, 0, none⟩)) [] w' ∧ Below B w w') := Any.Builder_Grow_fresh Tryz.lays165 Tryz.Builder_Extra_165 B b n w hB hbk hBw hn
def Tryz.lays159_ren : Go.Shelf.Ren := ⟨fun | 159 => 37 | 165 => 58 | 166 => 59 | 167 => 60 | 169 => 61 | 230 => 62 | 204 => 63 | 240 => 93 | 241 => 94 | 197 => 46 | 118 => 95 | 168 => 96 | 270 => 97 | 262 => 98 | 276 => 119 | 277 => 120 | 260 => 81 | 242 => 121 | 313 => 122 | 278 => 131 | 274 => 82 | 275 => 83 | n => n, fun | 9 => 9 | 4 => 4 | 3 => 3 | 5 => 5 | 72 => 114 | 0 => 0 | 76 => 116 | 75 => 41 | 107 => 95 | 70 => 112 | 20 => 20 | 37 => 73 | 127 => 142 | 21 => 21 | 105 => 93 | 164 => 194 | 162 => 154 | 203 => 198 | 119 => 185 | 46 => 127 | 139 => 188 | 138 => 187 | 51 => 97 | 160 => 152 | 208 => 192 | 206 => 190 | 80 => 119 | n => n, fun | 13 => 7 | 3 => 12 | 4 => 13 | n => n⟩
theorem Tryz.lays159 : Go.Proofs.Lays.n159 Tryz.prog Tryz.lays159_ren := {
  mixed := by kernel_rfl
  f118 := Tryz.func95.trans (congrArg some (by kernel_rfl))
  f159 := Tryz.func37.trans (congrArg some (by kernel_rfl))
  f165 := Tryz.func58.trans (congrArg some (by kernel_rfl))
  f166 := Tryz.func59.trans (congrArg some (by kernel_rfl))
  f167 := Tryz.func60.trans (congrArg some (by kernel_rfl))
  f168 := Tryz.func96.trans (congrArg some (by kernel_rfl))
  f169 := Tryz.func61.trans (congrArg some (by kernel_rfl))
  f197 := Tryz.func46.trans (congrArg some (by kernel_rfl))
  f204 := Tryz.func63.trans (congrArg some (by kernel_rfl))
  f230 := Tryz.func62.trans (congrArg some (by kernel_rfl))
  f240 := Tryz.func93.trans (congrArg some (by kernel_rfl))
  f241 := Tryz.func94.trans (congrArg some (by kernel_rfl))
  f242 := Tryz.func121.trans (congrArg some (by kernel_rfl))
  f260 := Tryz.func81.trans (congrArg some (by kernel_rfl))
  f262 := Tryz.func98.trans (congrArg some (by kernel_rfl))
  f270 := Tryz.func97.trans (congrArg some (by kernel_rfl))
  f274 := Tryz.func82.trans (congrArg some (by kernel_rfl))
  f275 := Tryz.func83.trans (congrArg some (by kernel_rfl))
  f276 := Tryz.func119.trans (congrArg some (by kernel_rfl))
  f277 := Tryz.func120.trans (congrArg some (by kernel_rfl))
  f278 := Tryz.func131.trans (congrArg some (by kernel_rfl))
  f313 := Tryz.func122.trans (congrArg some (by kernel_rfl))
  t0 := Tryz.underlying0
  a0 := Tryz.isAgg0
  z0 := Tryz.sizeOf0
  v0 := Tryz.zeroValue0
  t3 := Tryz.underlying3
  a3 := Tryz.isAgg3
  z3 := Tryz.sizeOf3
  v3 := Tryz.zeroValue3
  t4 := Tryz.underlying4
  a4 := Tryz.isAgg4
  z4 := Tryz.sizeOf4
  v4 := Tryz.zeroValue4
  t5 := Tryz.underlying5
  a5 := Tryz.isAgg5
  z5 := Tryz.sizeOf5
  v5 := Tryz.zeroValue5
  t9 := Tryz.underlying9
  a9 := Tryz.isAgg9
  z9 := Tryz.sizeOf9
  v9 := Tryz.zeroValue9
  t20 := Tryz.underlying20
  a20 := Tryz.isAgg20
  z20 := Tryz.sizeOf20
  v20 := Tryz.zeroValue20
  t21 := Tryz.underlying21
  a21 := Tryz.isAgg21
  z21 := Tryz.sizeOf21
  v21 := Tryz.zeroValue21
  t37 := Tryz.underlying73
  a37 := Tryz.isAgg73
  z37 := Tryz.sizeOf73
  v37 := Tryz.zeroValue73
  t46 := Tryz.underlying127
  a46 := Tryz.isAgg127
  z46 := Tryz.sizeOf127
  v46 := Tryz.zeroValue127
  t51 := Tryz.underlying97
  a51 := Tryz.isAgg97
  z51 := Tryz.sizeOf97
  v51 := Tryz.zeroValue97
  t70 := Tryz.underlying112
  a70 := Tryz.isAgg112
  z70 := Tryz.sizeOf112
  v70 := Tryz.zeroValue112
  t72 := Tryz.underlying114
  a72 := Tryz.isAgg114
  z72 := Tryz.sizeOf114
  v72 := Tryz.zeroValue114
  t75 := Tryz.underlying41
  a75 := Tryz.isAgg41
  z75 := Tryz.sizeOf41
  v75 := Tryz.zeroValue41
  t76 := Tryz.underlying116
  a76 := Tryz.isAgg116
  z76 := Tryz.sizeOf116
  v76 := Tryz.zeroValue116
  t105 := Tryz.underlying93
  a105 := Tryz.isAgg93
  z105 := Tryz.sizeOf93
  v105 := Tryz.zeroValue93
  t107 := Tryz.underlying95
  a107 := Tryz.isAgg95
  z107 := Tryz.sizeOf95
  v107 := Tryz.zeroValue95
  t119 := Tryz.underlying185
  a119 := Tryz.isAgg185
  z119 := Tryz.sizeOf185
  t127 := Tryz.underlying142
  a127 := Tryz.isAgg142
  z127 := Tryz.sizeOf142
  v127 := Tryz.zeroValue142
  t138 := Tryz.underlying187
  a138 := Tryz.isAgg187
  z138 := Tryz.sizeOf187
  v138 := Tryz.zeroValue187
  t139 := Tryz.underlying188
  a139 := Tryz.isAgg188
  z139 := Tryz.sizeOf188
  v139 := Tryz.zeroValue188
  t160 := Tryz.underlying152
  a160 := Tryz.isAgg152
  z160 := Tryz.sizeOf152
  v160 := Tryz.zeroValue152
  t162 := Tryz.underlying154
  a162 := Tryz.isAgg154
  z162 := Tryz.sizeOf154
  v162 := Tryz.zeroValue154
  t164 := Tryz.underlying194
  a164 := Tryz.isAgg194
  z164 := Tryz.sizeOf194
  v164 := Tryz.zeroValue194
  t203 := Tryz.underlying198
  a203 := Tryz.isAgg198
  z203 := Tryz.sizeOf198
  v203 := Tryz.zeroValue198
  t206 := Tryz.underlying190
  a206 := Tryz.isAgg190
  z206 := Tryz.sizeOf190
  v206 := Tryz.zeroValue190
  t208 := Tryz.underlying192
  a208 := Tryz.isAgg192
  z208 := Tryz.sizeOf192
  v208 := Tryz.zeroValue192
  g3 := by kernel_rfl
  g4 := by kernel_rfl
  g13 := by kernel_rfl }
theorem Tryz.Builder_Extra_159 : Builder.Extra Tryz.prog Tryz.lays159_ren := {
  sizeBuilder := by kernel_rfl
  liesBuilder := by kernel_rfl
  t5 := Tryz.underlying5
  a5 := Tryz.isAgg5
  z5 := Tryz.sizeOf5
  v5 := Tryz.zeroValue5
  infoByte := by kernel_rfl
  cellsByte := by kernel_rfl
  sizeByte := by kernel_rfl
  neB5 := by decide }
open Go.RowKit in
/-- strings.ToLower: "ToLower returns s with all Unicode letters mapped to their lower case.": ON ASCII TEXT OF AT MOST 2^47 BYTES. Below the heap's end the world is as it was: where a letter turns, the call makes a builder and its buffer. (LAID: no walk: one application.) -/
theorem Tryz.strings_ToLower_ascii (s : ByteArray) (w : World) (hs : s.size ≤ 140737488355328) (hascii : ∀ (j : Nat) (b : UInt8), s.data.toList[j]? = some b → b.toNat < 128) :
    Calls Tryz.prog 37 #[.string s] w fun e w' => e = .returned (.string ⟨(Lib.toLowerA s.data.toList).toArray⟩) ∧ Below w.heap.size w w' := Any.strings_ToLower_ascii Tryz.lays159 Tryz.Builder_Extra_159 s w hs hascii
def Tryz.lays118_ren : Go.Shelf.Ren := ⟨fun | 118 => 95 | n => n, fun | 21 => 21 | 3 => 3 | 4 => 4 | n => n, fun | n => n⟩
theorem Tryz.lays118 : Go.Proofs.Lays.n118 Tryz.prog Tryz.lays118_ren := {
  mixed := by kernel_rfl
  f118 := Tryz.func95.trans (congrArg some (by kernel_rfl))
  t3 := Tryz.underlying3
  a3 := Tryz.isAgg3
  z3 := Tryz.sizeOf3
  v3 := Tryz.zeroValue3
  t4 := Tryz.underlying4
  a4 := Tryz.isAgg4
  z4 := Tryz.sizeOf4
  v4 := Tryz.zeroValue4
  t21 := Tryz.underlying21
  a21 := Tryz.isAgg21
  z21 := Tryz.sizeOf21
  v21 := Tryz.zeroValue21 }
/-- utf8.RuneLen: "RuneLen returns the number of bytes in the UTF-8 encoding of the rune. It returns -1 if the rune is not a valid value to encode in UTF-8.": IT RETURNS 'Lib.runeLen r'; the world is as it was. (LAID: no walk: one application.) -/
theorem Tryz.utf8_RuneLen (r : Int) (w : World) :
    Calls Tryz.prog 95 #[.int .i32 r] w fun e w' => e = .returned (.int .i64 (Lib.runeLen r)) ∧ w' = w := Any.utf8_RuneLen Tryz.lays118 r w
open Go.RowKit in
/-- (*strings.Builder).String: "String returns the accumulated string.": OF A BUILDER THAT HOLDS AT LEAST ONE BYTE. ✋ THE MODEL FREEZES THOSE BYTES IN THE BUFFER (unsafe.String): a later write INTO them ends the model's run without an answer; a later append BEHIND them goes on. The statement's order of evaluation is drawn: one draw. THE FORM '_f': IT SAYS BESIDES THAT THE BUILDER IS A BUILDER STILL ('Lib.IsBuilderF', the same bytes): SO IT CAN BE WRITTEN ON: 'b.WriteString(b.String()[:k])'. (LAID: no walk: one application.) -/
theorem Tryz.Builder_String_f (B b : Nat) (l : List UInt8) (w : World) (h : Lib.IsBuilderF 114 5 B b (Lib.byteCells l) w) (h0 : l ≠ []) :
    Calls Tryz.prog 61 #[.pointer (some ⟨b, 0, none⟩)] w fun e w' => e = .returned (.string ⟨l.toArray⟩) ∧ (Lib.IsBuilderF 114 5 B b (Lib.byteCells l) w' ∧ Below B w w') := Any.Builder_String_f Tryz.lays169 Tryz.Builder_Extra_169 B b l w h h0
open Go.RowKit in
/-- (*strings.Builder).String OF A BUILDER THAT HOLDS NO BYTE: the empty string; THE FORM '_f': a builder still. (LAID: no walk: one application.) -/
theorem Tryz.Builder_String_empty_f (B b : Nat) (w : World) (h : Lib.IsBuilderF 114 5 B b [] w) (hBw : B ≤ w.heap.size) :
    Calls Tryz.prog 61 #[.pointer (some ⟨b, 0, none⟩)] w fun e w' => e = .returned (.string ⟨#[]⟩) ∧ (Lib.IsBuilderF 114 5 B b [] w' ∧ Below B w w') := Any.Builder_String_empty_f Tryz.lays169 Tryz.Builder_Extra_169 B b w h hBw
open Go.RowKit in
/-- (*strings.Builder).String: "String returns the accumulated string.": WHATEVER THE BUILDER HOLDS; THE FORM '_f': OF A BUILDER THAT MAY HAVE BEEN READ BEFORE; AND IT IS A BUILDER STILL, holding the same bytes: it can be written on. (LAID: no walk: one application.) -/
theorem Tryz.Builder_String_any_f (B b : Nat) (l : List UInt8) (w : World) (h : Lib.IsBuilderF 114 5 B b (Lib.byteCells l) w) (hBw : B ≤ w.heap.size) :
    Calls Tryz.prog 61 #[.pointer (some ⟨b, 0, none⟩)] w fun e w' => e = .returned (.string ⟨l.toArray⟩) ∧ (Lib.IsBuilderF 114 5 B b (Lib.byteCells l) w' ∧ Below B w w') := Any.Builder_String_any_f Tryz.lays169 Tryz.Builder_Extra_169 B b l w h hBw
open Go.RowKit in
/-- (*strings.Builder).String: "String returns the accumulated string.": OF A BUILDER THAT HOLDS AT LEAST ONE BYTE. ✋ THE MODEL FREEZES THOSE BYTES IN THE BUFFER (unsafe.String): a later write INTO them ends the model's run without an answer; a later append BEHIND them goes on. The statement's order of evaluation is drawn: one draw. THE FORM '_k': OVER 'Lib.IsBuilderF' (a builder that 'String()' may have read), AND WITH THE FRAME THAT REACHES ABOVE THE BUILDER: 'Lib.OthersKept': every block that is not b and is no row of uint8's stands as it stood: the iterator of a range among them. (LAID: no walk: one application.) -/
theorem Tryz.Builder_String_k (B b : Nat) (l : List UInt8) (w : World) (h : Lib.IsBuilderF 114 5 B b (Lib.byteCells l) w) (h0 : l ≠ []) :
    Calls Tryz.prog 61 #[.pointer (some ⟨b, 0, none⟩)] w fun e w' => e = .returned (.string ⟨l.toArray⟩) ∧ (Lib.IsBuilderF 114 5 B b (Lib.byteCells l) w' ∧ Below B w w' ∧ Lib.OthersKept 5 (some b) w w') := Any.Builder_String_k Tryz.lays169 Tryz.Builder_Extra_169 B b l w h h0
open Go.RowKit in
/-- (*strings.Builder).String OF A BUILDER THAT HOLDS NO BYTE: the empty string; THE FORM '_k': OVER 'Lib.IsBuilderF' (a builder that 'String()' may have read), AND WITH THE FRAME THAT REACHES ABOVE THE BUILDER: 'Lib.OthersKept': every block that is not b and is no row of uint8's stands as it stood: the iterator of a range among them. (LAID: no walk: one application.) -/
theorem Tryz.Builder_String_empty_k (B b : Nat) (w : World) (h : Lib.IsBuilderF 114 5 B b [] w) (hBw : B ≤ w.heap.size) :
    Calls Tryz.prog 61 #[.pointer (some ⟨b, 0, none⟩)] w fun e w' => e = .returned (.string ⟨#[]⟩) ∧ (Lib.IsBuilderF 114 5 B b [] w' ∧ Below B w w' ∧ Lib.OthersKept 5 (some b) w w') := Any.Builder_String_empty_k Tryz.lays169 Tryz.Builder_Extra_169 B b w h hBw
open Go.RowKit in
/-- (*strings.Builder).String: "String returns the accumulated string.": WHATEVER THE BUILDER HOLDS; THE FORM '_k': OVER 'Lib.IsBuilderF' (a builder that 'String()' may have read), AND WITH THE FRAME THAT REACHES ABOVE THE BUILDER: 'Lib.OthersKept': every block that is not b and is no row of uint8's stands as it stood: the iterator of a range among them. (LAID: no walk: one application.) -/
theorem Tryz.Builder_String_any_k (B b : Nat) (l : List UInt8) (w : World) (h : Lib.IsBuilderF 114 5 B b (Lib.byteCells l) w) (hBw : B ≤ w.heap.size) :
    Calls Tryz.prog 61 #[.pointer (some ⟨b, 0, none⟩)] w fun e w' => e = .returned (.string ⟨l.toArray⟩) ∧ (Lib.IsBuilderF 114 5 B b (Lib.byteCells l) w' ∧ Below B w w' ∧ Lib.OthersKept 5 (some b) w w') := Any.Builder_String_any_k Tryz.lays169 Tryz.Builder_Extra_169 B b l w h hBw
def Tryz.lays129_ren : Go.Shelf.Ren := ⟨fun | 129 => 104 | n => n, fun | 53 => 102 | 3 => 3 | 4 => 4 | 46 => 127 | 5 => 5 | 9 => 9 | n => n, fun | n => n⟩
theorem Tryz.lays129 : Go.Proofs.Lays.n129 Tryz.prog Tryz.lays129_ren := {
  mixed := by kernel_rfl
  f129 := Tryz.func104.trans (congrArg some (by kernel_rfl))
  t3 := Tryz.underlying3
  a3 := Tryz.isAgg3
  z3 := Tryz.sizeOf3
  v3 := Tryz.zeroValue3
  t4 := Tryz.underlying4
  a4 := Tryz.isAgg4
  z4 := Tryz.sizeOf4
  v4 := Tryz.zeroValue4
  t5 := Tryz.underlying5
  a5 := Tryz.isAgg5
  z5 := Tryz.sizeOf5
  v5 := Tryz.zeroValue5
  t9 := Tryz.underlying9
  a9 := Tryz.isAgg9
  z9 := Tryz.sizeOf9
  v9 := Tryz.zeroValue9
  t46 := Tryz.underlying127
  a46 := Tryz.isAgg127
  z46 := Tryz.sizeOf127
  v46 := Tryz.zeroValue127
  t53 := Tryz.underlying102
  a53 := Tryz.isAgg102
  z53 := Tryz.sizeOf102
  v53 := Tryz.zeroValue102 }
/-- bits.Len64: "Len64 returns the minimum number of bits required to represent x; the result is 0 for x == 0.": IT RETURNS 'Lib.bitLen x'; the world is as it was. ('h0', 'h1': x is a uint64.) (LAID: no walk: one application.) -/
theorem Tryz.bits_Len64 (x : Int) (w : World) (h0 : 0 ≤ x) (h1 : x ≤ 18446744073709551615) :
    Calls Tryz.prog 104 #[.int .u64 x] w fun e w' => e = .returned (.int .i64 (Lib.bitLen x.toNat)) ∧ w' = w := Any.bits_Len64 Tryz.lays129 x w h0 h1
def Tryz.laysM316_ren : Go.Shelf.Ren := ⟨fun | 316 => 42 | n => n, fun | 9 => 9 | 3 => 3 | 4 => 4 | 37 => 73 | 0 => 0 | 127 => 142 | 5 => 5 | n => n, fun | n => n⟩
theorem Tryz.laysM316 : Go.Proofs.LaysM.n316 Tryz.prog Tryz.laysM316_ren := {
  mixed := by kernel_rfl
  f316 := Tryz.func42.trans (congrArg some (by kernel_rfl))
  t0 := Tryz.underlying0
  a0 := Tryz.isAgg0
  z0 := Tryz.sizeOf0
  v0 := Tryz.zeroValue0
  t3 := Tryz.underlying3
  a3 := Tryz.isAgg3
  z3 := Tryz.sizeOf3
  v3 := Tryz.zeroValue3
  t4 := Tryz.underlying4
  a4 := Tryz.isAgg4
  z4 := Tryz.sizeOf4
  v4 := Tryz.zeroValue4
  t9 := Tryz.underlying9
  a9 := Tryz.isAgg9
  z9 := Tryz.sizeOf9
  v9 := Tryz.zeroValue9
  t37 := Tryz.underlying73
  a37 := Tryz.isAgg73
  z37 := Tryz.sizeOf73
  v37 := Tryz.zeroValue73
  t127 := Tryz.underlying142
  a127 := Tryz.isAgg142
  z127 := Tryz.sizeOf142
  v127 := Tryz.zeroValue142
  t5 := Tryz.underlying5
  a5 := Tryz.isAgg5
  z5 := Tryz.sizeOf5
  v5 := Tryz.zeroValue5
  i0 := by kernel_rfl
  i3 := by kernel_rfl
  i4 := by kernel_rfl
  i5 := by kernel_rfl
  i9 := by kernel_rfl
  i37 := by kernel_rfl
  i127 := by kernel_rfl }
open Go.RowKit in
/-- internal/stringslite.Clone (what strings.Clone calls): "Clone returns a fresh copy of s.": THE SAME BYTES. Of what was there nothing has turned (a new row is laid, and frozen, where s is not empty). (LAID: no walk: one application.) -/
theorem Tryz.stringslite_Clone (s : ByteArray) (w : World) (hlim : s.size ≤ 281474976710656) :
    Calls Tryz.prog 42 #[.string s] w fun e w' => e = .returned (.string s) ∧ Below w.heap.size w w' := Any.stringslite_Clone Tryz.laysM316 s w hlim
def Tryz.lays321_ren : Go.Shelf.Ren := ⟨fun | 321 => 102 | n => n, fun | 5 => 5 | n => n, fun | n => n⟩
theorem Tryz.lays321 : Go.Proofs.Lays.n321 Tryz.prog Tryz.lays321_ren := {
  mixed := by kernel_rfl
  f321 := Tryz.func102.trans (congrArg some (by kernel_rfl))
  t5 := Tryz.underlying5
  a5 := Tryz.isAgg5
  z5 := Tryz.sizeOf5
  v5 := Tryz.zeroValue5 }
open Go.RowKit in
/-- internal/strconv.lower: 'c | ('x' - 'X')': the bit 32 set. The world is as it was. (LAID: no walk: one application.) -/
theorem Tryz.internal_strconv_lower (c : Int) (w : World) :
    Calls Tryz.prog 102 #[.int .u8 c] w fun e w' => e = .returned (.int .u8 (bits .or .u8 c 32)) ∧ w' = w := Any.internal_strconv_lower Tryz.lays321 c w
def Tryz.lays206_ren : Go.Shelf.Ren := ⟨fun | 206 => 64 | n => n, fun | 9 => 9 | 4 => 4 | 3 => 3 | n => n, fun | n => n⟩
theorem Tryz.lays206 : Go.Proofs.Lays.n206 Tryz.prog Tryz.lays206_ren := {
  mixed := by kernel_rfl
  f206 := Tryz.func64.trans (congrArg some (by kernel_rfl))
  t3 := Tryz.underlying3
  a3 := Tryz.isAgg3
  z3 := Tryz.sizeOf3
  v3 := Tryz.zeroValue3
  t4 := Tryz.underlying4
  a4 := Tryz.isAgg4
  z4 := Tryz.sizeOf4
  v4 := Tryz.zeroValue4
  t9 := Tryz.underlying9
  a9 := Tryz.isAgg9
  z9 := Tryz.sizeOf9
  v9 := Tryz.zeroValue9 }
open Go.RowKit Go.Lib in
/-- internal/stringslite.HasPrefix (what strings.HasPrefix calls). (LAID: no walk: one application.) -/
theorem Tryz.stringslite_HasPrefix (s p : ByteArray) (w : World) :
    Calls Tryz.prog 64 #[.string s, .string p] w fun e w' => e = .returned (.bool (Lib.hasPrefix s.data.toList p.data.toList)) ∧ w' = w := Any.stringslite_HasPrefix Tryz.lays206 s p w
def Tryz.lays99_ren : Go.Shelf.Ren := ⟨fun | 99 => 38 | 206 => 64 | n => n, fun | 9 => 9 | 4 => 4 | 3 => 3 | n => n, fun | n => n⟩
theorem Tryz.lays99 : Go.Proofs.Lays.n99 Tryz.prog Tryz.lays99_ren := {
  mixed := by kernel_rfl
  f99 := Tryz.func38.trans (congrArg some (by kernel_rfl))
  f206 := Tryz.func64.trans (congrArg some (by kernel_rfl))
  t3 := Tryz.underlying3
  a3 := Tryz.isAgg3
  z3 := Tryz.sizeOf3
  v3 := Tryz.zeroValue3
  t4 := Tryz.underlying4
  a4 := Tryz.isAgg4
  z4 := Tryz.sizeOf4
  v4 := Tryz.zeroValue4
  t9 := Tryz.underlying9
  a9 := Tryz.isAgg9
  z9 := Tryz.sizeOf9
  v9 := Tryz.zeroValue9 }
open Go.RowKit Go.Lib in
/-- strings.HasPrefix: "HasPrefix reports whether the string s begins with prefix.": IT RETURNS 'Lib.hasPrefix s prefix'; the world is as it was. (LAID: no walk: one application.) -/
theorem Tryz.strings_HasPrefix (s p : ByteArray) (w : World) :
    Calls Tryz.prog 38 #[.string s, .string p] w fun e w' => e = .returned (.bool (Lib.hasPrefix s.data.toList p.data.toList)) ∧ w' = w := Any.strings_HasPrefix Tryz.lays99 s p w
def Tryz.lays207_ren : Go.Shelf.Ren := ⟨fun | 207 => 65 | n => n, fun | 9 => 9 | 4 => 4 | 3 => 3 | n => n, fun | n => n⟩
theorem Tryz.lays207 : Go.Proofs.Lays.n207 Tryz.prog Tryz.lays207_ren := {
  mixed := by kernel_rfl
  f207 := Tryz.func65.trans (congrArg some (by kernel_rfl))
  t3 := Tryz.underlying3
  a3 := Tryz.isAgg3
  z3 := Tryz.sizeOf3
  v3 := Tryz.zeroValue3
  t4 := Tryz.underlying4
  a4 := Tryz.isAgg4
  z4 := Tryz.sizeOf4
  v4 := Tryz.zeroValue4
  t9 := Tryz.underlying9
  a9 := Tryz.isAgg9
  z9 := Tryz.sizeOf9
  v9 := Tryz.zeroValue9 }
open Go.RowKit Go.Lib in
/-- internal/stringslite.HasSuffix (what strings.HasSuffix calls). (LAID: no walk: one application.) -/
theorem Tryz.stringslite_HasSuffix (s p : ByteArray) (w : World) (hs : s.size ≤ 9223372036854775807) :
    Calls Tryz.prog 65 #[.string s, .string p] w fun e w' => e = .returned (.bool (Lib.hasSuffix s.data.toList p.data.toList)) ∧ w' = w := Any.stringslite_HasSuffix Tryz.lays207 s p w hs
def Tryz.lays100_ren : Go.Shelf.Ren := ⟨fun | 100 => 39 | 207 => 65 | n => n, fun | 9 => 9 | 4 => 4 | 3 => 3 | n => n, fun | n => n⟩
theorem Tryz.lays100 : Go.Proofs.Lays.n100 Tryz.prog Tryz.lays100_ren := {
  mixed := by kernel_rfl
  f100 := Tryz.func39.trans (congrArg some (by kernel_rfl))
  f207 := Tryz.func65.trans (congrArg some (by kernel_rfl))
  t3 := Tryz.underlying3
  a3 := Tryz.isAgg3
  z3 := Tryz.sizeOf3
  v3 := Tryz.zeroValue3
  t4 := Tryz.underlying4
  a4 := Tryz.isAgg4
  z4 := Tryz.sizeOf4
  v4 := Tryz.zeroValue4
  t9 := Tryz.underlying9
  a9 := Tryz.isAgg9
  z9 := Tryz.sizeOf9
  v9 := Tryz.zeroValue9 }
open Go.RowKit Go.Lib in
/-- strings.HasSuffix: "HasSuffix reports whether the string s ends with suffix.": IT RETURNS 'Lib.hasSuffix s suffix'; the world is as it was. ('hs': no Go string is longer: a caller has it of every string that it was handed.) (LAID: no walk: one application.) -/
theorem Tryz.strings_HasSuffix (s p : ByteArray) (w : World) (hs : s.size ≤ 9223372036854775807) :
    Calls Tryz.prog 39 #[.string s, .string p] w fun e w' => e = .returned (.bool (Lib.hasSuffix s.data.toList p.data.toList)) ∧ w' = w := Any.strings_HasSuffix Tryz.lays100 s p w hs
def Tryz.lays164_ren : Go.Shelf.Ren := ⟨fun | 164 => 34 | 197 => 46 | 239 => 47 | 260 => 81 | 274 => 82 | 275 => 83 | n => n, fun | 9 => 9 | 4 => 4 | 3 => 3 | 5 => 5 | 0 => 0 | 21 => 21 | 105 => 93 | 156 => 148 | 49 => 147 | 157 => 149 | 46 => 127 | 159 => 151 | 162 => 154 | 160 => 152 | 119 => 185 | 139 => 188 | 138 => 187 | 208 => 192 | 51 => 97 | 206 => 190 | n => n, fun | 11 => 5 | 12 => 6 | 13 => 7 | 3 => 12 | 4 => 13 | n => n⟩
theorem Tryz.lays164 : Go.Proofs.Lays.n164 Tryz.prog Tryz.lays164_ren := {
  mixed := by kernel_rfl
  f164 := Tryz.func34.trans (congrArg some (by kernel_rfl))
  f197 := Tryz.func46.trans (congrArg some (by kernel_rfl))
  f239 := Tryz.func47.trans (congrArg some (by kernel_rfl))
  f260 := Tryz.func81.trans (congrArg some (by kernel_rfl))
  f274 := Tryz.func82.trans (congrArg some (by kernel_rfl))
  f275 := Tryz.func83.trans (congrArg some (by kernel_rfl))
  t0 := Tryz.underlying0
  a0 := Tryz.isAgg0
  z0 := Tryz.sizeOf0
  v0 := Tryz.zeroValue0
  t3 := Tryz.underlying3
  a3 := Tryz.isAgg3
  z3 := Tryz.sizeOf3
  v3 := Tryz.zeroValue3
  t4 := Tryz.underlying4
  a4 := Tryz.isAgg4
  z4 := Tryz.sizeOf4
  v4 := Tryz.zeroValue4
  t5 := Tryz.underlying5
  a5 := Tryz.isAgg5
  z5 := Tryz.sizeOf5
  v5 := Tryz.zeroValue5
  t9 := Tryz.underlying9
  a9 := Tryz.isAgg9
  z9 := Tryz.sizeOf9
  v9 := Tryz.zeroValue9
  t21 := Tryz.underlying21
  a21 := Tryz.isAgg21
  z21 := Tryz.sizeOf21
  v21 := Tryz.zeroValue21
  t46 := Tryz.underlying127
  a46 := Tryz.isAgg127
  z46 := Tryz.sizeOf127
  v46 := Tryz.zeroValue127
  t49 := Tryz.underlying147
  a49 := Tryz.isAgg147
  z49 := Tryz.sizeOf147
  v49 := Tryz.zeroValue147
  t51 := Tryz.underlying97
  a51 := Tryz.isAgg97
  z51 := Tryz.sizeOf97
  v51 := Tryz.zeroValue97
  t105 := Tryz.underlying93
  a105 := Tryz.isAgg93
  z105 := Tryz.sizeOf93
  v105 := Tryz.zeroValue93
  t119 := Tryz.underlying185
  a119 := Tryz.isAgg185
  z119 := Tryz.sizeOf185
  t138 := Tryz.underlying187
  a138 := Tryz.isAgg187
  z138 := Tryz.sizeOf187
  v138 := Tryz.zeroValue187
  t139 := Tryz.underlying188
  a139 := Tryz.isAgg188
  z139 := Tryz.sizeOf188
  v139 := Tryz.zeroValue188
  t156 := Tryz.underlying148
  a156 := Tryz.isAgg148
  z156 := Tryz.sizeOf148
  t157 := Tryz.underlying149
  a157 := Tryz.isAgg149
  z157 := Tryz.sizeOf149
  v157 := Tryz.zeroValue149
  t159 := Tryz.underlying151
  a159 := Tryz.isAgg151
  z159 := Tryz.sizeOf151
  v159 := Tryz.zeroValue151
  t160 := Tryz.underlying152
  a160 := Tryz.isAgg152
  z160 := Tryz.sizeOf152
  v160 := Tryz.zeroValue152
  t162 := Tryz.underlying154
  a162 := Tryz.isAgg154
  z162 := Tryz.sizeOf154
  v162 := Tryz.zeroValue154
  t206 := Tryz.underlying190
  a206 := Tryz.isAgg190
  z206 := Tryz.sizeOf190
  v206 := Tryz.zeroValue190
  t208 := Tryz.underlying192
  a208 := Tryz.isAgg192
  z208 := Tryz.sizeOf192
  v208 := Tryz.zeroValue192
  g3 := by kernel_rfl
  g4 := by kernel_rfl
  g11 := by kernel_rfl
  g12 := by kernel_rfl
  g13 := by kernel_rfl }
open Go.RowKit Go.Lib in
theorem Tryz.strings_EqualFold (s t : ByteArray) (w : World) (hs : s.size < 4294967281) (has : ∀ (j : Nat) b, s.data.toList[j]? = some b → b.toNat < 128) (hat : ∀ (j : Nat) b, t.data.toList[j]? = some b → b.toNat < 128) :
    Calls Tryz.prog 34 #[.string s, .string t] w fun e w' => e = .returned (.bool (Lib.equalFold s.data.toList t.data.toList)) ∧ w' = w := Any.strings_EqualFold Tryz.lays164 s t w hs has hat
def Tryz.lays204_ren : Go.Shelf.Ren := ⟨fun | 204 => 63 | 262 => 98 | 313 => 122 | 274 => 82 | 275 => 83 | n => n, fun | 21 => 21 | 4 => 4 | 3 => 3 | 162 => 154 | 203 => 198 | 160 => 152 | 46 => 127 | 0 => 0 | 208 => 192 | 51 => 97 | 206 => 190 | n => n, fun | 13 => 7 | n => n⟩
theorem Tryz.lays204 : Go.Proofs.Lays.n204 Tryz.prog Tryz.lays204_ren := {
  mixed := by kernel_rfl
  f204 := Tryz.func63.trans (congrArg some (by kernel_rfl))
  f262 := Tryz.func98.trans (congrArg some (by kernel_rfl))
  f274 := Tryz.func82.trans (congrArg some (by kernel_rfl))
  f275 := Tryz.func83.trans (congrArg some (by kernel_rfl))
  f313 := Tryz.func122.trans (congrArg some (by kernel_rfl))
  t0 := Tryz.underlying0
  a0 := Tryz.isAgg0
  z0 := Tryz.sizeOf0
  v0 := Tryz.zeroValue0
  t3 := Tryz.underlying3
  a3 := Tryz.isAgg3
  z3 := Tryz.sizeOf3
  v3 := Tryz.zeroValue3
  t4 := Tryz.underlying4
  a4 := Tryz.isAgg4
  z4 := Tryz.sizeOf4
  v4 := Tryz.zeroValue4
  t21 := Tryz.underlying21
  a21 := Tryz.isAgg21
  z21 := Tryz.sizeOf21
  v21 := Tryz.zeroValue21
  t46 := Tryz.underlying127
  a46 := Tryz.isAgg127
  z46 := Tryz.sizeOf127
  v46 := Tryz.zeroValue127
  t51 := Tryz.underlying97
  a51 := Tryz.isAgg97
  z51 := Tryz.sizeOf97
  v51 := Tryz.zeroValue97
  t160 := Tryz.underlying152
  a160 := Tryz.isAgg152
  z160 := Tryz.sizeOf152
  v160 := Tryz.zeroValue152
  t162 := Tryz.underlying154
  a162 := Tryz.isAgg154
  z162 := Tryz.sizeOf154
  v162 := Tryz.zeroValue154
  t203 := Tryz.underlying198
  a203 := Tryz.isAgg198
  z203 := Tryz.sizeOf198
  v203 := Tryz.zeroValue198
  t206 := Tryz.underlying190
  a206 := Tryz.isAgg190
  z206 := Tryz.sizeOf190
  v206 := Tryz.zeroValue190
  t208 := Tryz.underlying192
  a208 := Tryz.isAgg192
  z208 := Tryz.sizeOf192
  v208 := Tryz.zeroValue192
  g13 := by kernel_rfl }
open Go.RowKit Go.Lib in
theorem Tryz.unicode_ToLower (r : Int) (w : World) (h : r ≤ 127) :
    Calls Tryz.prog 63 #[.int .i32 r] w fun e w' => e = .returned (.int .i32 (Lib.toLowerR r)) ∧ w' = w := Any.unicode_ToLower Tryz.lays204 r w h
def Tryz.lays264_ren : Go.Shelf.Ren := ⟨fun | 264 => 123 | n => n, fun | 53 => 102 | 46 => 127 | n => n, fun | n => n⟩
theorem Tryz.lays264 : Go.Proofs.Lays.n264 Tryz.prog Tryz.lays264_ren := {
  mixed := by kernel_rfl
  f264 := Tryz.func123.trans (congrArg some (by kernel_rfl))
  t46 := Tryz.underlying127
  a46 := Tryz.isAgg127
  z46 := Tryz.sizeOf127
  v46 := Tryz.zeroValue127
  t53 := Tryz.underlying102
  a53 := Tryz.isAgg102
  z53 := Tryz.sizeOf102
  v53 := Tryz.zeroValue102 }
open Go.RowKit Go.Lib in
theorem Tryz.bits_Mul64 (x y : Nat) (hx : x < 18446744073709551616) (hy : y < 18446744073709551616) (w : World) :
    Calls Tryz.prog 123 #[.int .u64 x, .int .u64 y] w fun e w' => e = .returned (.tuple #[.int .u64 ((x * y / 18446744073709551616 : Nat) : Int), .int .u64 ((x * y % 18446744073709551616 : Nat) : Int)]) ∧ w' = w := Any.bits_Mul64 Tryz.lays264 x y hx hy w
def Tryz.lays260_ren : Go.Shelf.Ren := ⟨fun | 260 => 81 | n => n, fun | 9 => 9 | 21 => 21 | 3 => 3 | 4 => 4 | 5 => 5 | 119 => 185 | 0 => 0 | 46 => 127 | 139 => 188 | 138 => 187 | n => n, fun | 3 => 12 | 4 => 13 | n => n⟩
theorem Tryz.lays260 : Go.Proofs.Lays.n260 Tryz.prog Tryz.lays260_ren := {
  mixed := by kernel_rfl
  f260 := Tryz.func81.trans (congrArg some (by kernel_rfl))
  t0 := Tryz.underlying0
  a0 := Tryz.isAgg0
  z0 := Tryz.sizeOf0
  v0 := Tryz.zeroValue0
  t3 := Tryz.underlying3
  a3 := Tryz.isAgg3
  z3 := Tryz.sizeOf3
  v3 := Tryz.zeroValue3
  t4 := Tryz.underlying4
  a4 := Tryz.isAgg4
  z4 := Tryz.sizeOf4
  v4 := Tryz.zeroValue4
  t5 := Tryz.underlying5
  a5 := Tryz.isAgg5
  z5 := Tryz.sizeOf5
  v5 := Tryz.zeroValue5
  t9 := Tryz.underlying9
  a9 := Tryz.isAgg9
  z9 := Tryz.sizeOf9
  v9 := Tryz.zeroValue9
  t21 := Tryz.underlying21
  a21 := Tryz.isAgg21
  z21 := Tryz.sizeOf21
  v21 := Tryz.zeroValue21
  t46 := Tryz.underlying127
  a46 := Tryz.isAgg127
  z46 := Tryz.sizeOf127
  v46 := Tryz.zeroValue127
  t119 := Tryz.underlying185
  a119 := Tryz.isAgg185
  z119 := Tryz.sizeOf185
  t138 := Tryz.underlying187
  a138 := Tryz.isAgg187
  z138 := Tryz.sizeOf187
  v138 := Tryz.zeroValue187
  t139 := Tryz.underlying188
  a139 := Tryz.isAgg188
  z139 := Tryz.sizeOf188
  v139 := Tryz.zeroValue188
  g3 := by kernel_rfl
  g4 := by kernel_rfl }
open Go.RowKit Go.Lib in
theorem Tryz.utf8_decodeRuneInStringSlow (s : ByteArray) (w : World) (hT : Lib.Utf8Tabs 12 13 w) :
    Calls Tryz.prog 81 #[.string s] w fun e w' => e = .returned (.tuple #[.int .i32 (Lib.decodeGo s).1, .int .i64 (Lib.decodeGo s).2]) ∧ Below w.heap.size w w' := Any.utf8_decodeRuneInStringSlow Tryz.lays260 s w hT
def Tryz.lays197_ren : Go.Shelf.Ren := ⟨fun | 197 => 46 | 260 => 81 | n => n, fun | 9 => 9 | 21 => 21 | 3 => 3 | 4 => 4 | 5 => 5 | 105 => 93 | 119 => 185 | 0 => 0 | 46 => 127 | 139 => 188 | 138 => 187 | n => n, fun | 3 => 12 | 4 => 13 | n => n⟩
theorem Tryz.lays197 : Go.Proofs.Lays.n197 Tryz.prog Tryz.lays197_ren := {
  mixed := by kernel_rfl
  f197 := Tryz.func46.trans (congrArg some (by kernel_rfl))
  f260 := Tryz.func81.trans (congrArg some (by kernel_rfl))
  t0 := Tryz.underlying0
  a0 := Tryz.isAgg0
  z0 := Tryz.sizeOf0
  v0 := Tryz.zeroValue0
  t3 := Tryz.underlying3
  a3 := Tryz.isAgg3
  z3 := Tryz.sizeOf3
  v3 := Tryz.zeroValue3
  t4 := Tryz.underlying4
  a4 := Tryz.isAgg4
  z4 := Tryz.sizeOf4
  v4 := Tryz.zeroValue4
  t5 := Tryz.underlying5
  a5 := Tryz.isAgg5
  z5 := Tryz.sizeOf5
  v5 := Tryz.zeroValue5
  t9 := Tryz.underlying9
  a9 := Tryz.isAgg9
  z9 := Tryz.sizeOf9
  v9 := Tryz.zeroValue9
  t21 := Tryz.underlying21
  a21 := Tryz.isAgg21
  z21 := Tryz.sizeOf21
  v21 := Tryz.zeroValue21
  t46 := Tryz.underlying127
  a46 := Tryz.isAgg127
  z46 := Tryz.sizeOf127
  v46 := Tryz.zeroValue127
  t105 := Tryz.underlying93
  a105 := Tryz.isAgg93
  z105 := Tryz.sizeOf93
  v105 := Tryz.zeroValue93
  t119 := Tryz.underlying185
  a119 := Tryz.isAgg185
  z119 := Tryz.sizeOf185
  t138 := Tryz.underlying187
  a138 := Tryz.isAgg187
  z138 := Tryz.sizeOf187
  v138 := Tryz.zeroValue187
  t139 := Tryz.underlying188
  a139 := Tryz.isAgg188
  z139 := Tryz.sizeOf188
  v139 := Tryz.zeroValue188
  g3 := by kernel_rfl
  g4 := by kernel_rfl }
open Go.RowKit Go.Lib in
/-- **unicode/utf8.DecodeRuneInString AT EVERY STRING.** (LAID: no walk: one application.) -/
theorem Tryz.utf8_DecodeRuneInString (s : ByteArray) (w : World) (hT : Lib.Utf8Tabs 12 13 w) :
    Calls Tryz.prog 46 #[.string s] w fun e w' => e = .returned (.tuple #[.int .i32 (Lib.decodeGo s).1, .int .i64 (Lib.decodeGo s).2]) ∧ Below w.heap.size w w' := Any.utf8_DecodeRuneInString Tryz.lays197 s w hT
def Tryz.lays274_ren : Go.Shelf.Ren := ⟨fun | 274 => 82 | n => n, fun | 21 => 21 | 162 => 154 | 160 => 152 | 3 => 3 | 4 => 4 | 46 => 127 | 0 => 0 | 208 => 192 | 51 => 97 | 206 => 190 | n => n, fun | n => n⟩
theorem Tryz.lays274 : Go.Proofs.Lays.n274 Tryz.prog Tryz.lays274_ren := {
  mixed := by kernel_rfl
  f274 := Tryz.func82.trans (congrArg some (by kernel_rfl))
  t0 := Tryz.underlying0
  a0 := Tryz.isAgg0
  z0 := Tryz.sizeOf0
  v0 := Tryz.zeroValue0
  t3 := Tryz.underlying3
  a3 := Tryz.isAgg3
  z3 := Tryz.sizeOf3
  v3 := Tryz.zeroValue3
  t4 := Tryz.underlying4
  a4 := Tryz.isAgg4
  z4 := Tryz.sizeOf4
  v4 := Tryz.zeroValue4
  t21 := Tryz.underlying21
  a21 := Tryz.isAgg21
  z21 := Tryz.sizeOf21
  v21 := Tryz.zeroValue21
  t46 := Tryz.underlying127
  a46 := Tryz.isAgg127
  z46 := Tryz.sizeOf127
  v46 := Tryz.zeroValue127
  t51 := Tryz.underlying97
  a51 := Tryz.isAgg97
  z51 := Tryz.sizeOf97
  v51 := Tryz.zeroValue97
  t160 := Tryz.underlying152
  a160 := Tryz.isAgg152
  z160 := Tryz.sizeOf152
  v160 := Tryz.zeroValue152
  t162 := Tryz.underlying154
  a162 := Tryz.isAgg154
  z162 := Tryz.sizeOf154
  v162 := Tryz.zeroValue154
  t208 := Tryz.underlying192
  a208 := Tryz.isAgg192
  z208 := Tryz.sizeOf192
  v208 := Tryz.zeroValue192 }
open Go.RowKit Go.Lib in
theorem Tryz.unicode_lookupCaseRange (T : Array CaseRow) (R oR cap : Nat) (r : Int) (w : World) (hT : CaseTab R oR T w) (hok : CaseOk T) (hn : T.size ≤ 1000000000) :
    Calls Tryz.prog 82 #[.int .i32 r, .slice (some ⟨R, oR, none⟩) T.size cap] w fun e w' =>
      e = .returned (match lookupIdx T r (T.size + 1) 0 T.size with | some i => .pointer (some ⟨R, oR + i * 5, none⟩) | none => .pointer none) ∧ w' = w := Any.unicode_lookupCaseRange Tryz.lays274 T R oR cap r w hT hok hn
def Tryz.lays275_ren : Go.Shelf.Ren := ⟨fun | 275 => 83 | n => n, fun | 3 => 3 | 21 => 21 | 160 => 152 | 0 => 0 | 208 => 192 | 206 => 190 | 4 => 4 | 51 => 97 | n => n, fun | n => n⟩
theorem Tryz.lays275 : Go.Proofs.Lays.n275 Tryz.prog Tryz.lays275_ren := {
  mixed := by kernel_rfl
  f275 := Tryz.func83.trans (congrArg some (by kernel_rfl))
  t0 := Tryz.underlying0
  a0 := Tryz.isAgg0
  z0 := Tryz.sizeOf0
  v0 := Tryz.zeroValue0
  t3 := Tryz.underlying3
  a3 := Tryz.isAgg3
  z3 := Tryz.sizeOf3
  v3 := Tryz.zeroValue3
  t4 := Tryz.underlying4
  a4 := Tryz.isAgg4
  z4 := Tryz.sizeOf4
  v4 := Tryz.zeroValue4
  t21 := Tryz.underlying21
  a21 := Tryz.isAgg21
  z21 := Tryz.sizeOf21
  v21 := Tryz.zeroValue21
  t51 := Tryz.underlying97
  a51 := Tryz.isAgg97
  z51 := Tryz.sizeOf97
  v51 := Tryz.zeroValue97
  t160 := Tryz.underlying152
  a160 := Tryz.isAgg152
  z160 := Tryz.sizeOf152
  v160 := Tryz.zeroValue152
  t206 := Tryz.underlying190
  a206 := Tryz.isAgg190
  z206 := Tryz.sizeOf190
  v206 := Tryz.zeroValue190
  t208 := Tryz.underlying192
  a208 := Tryz.isAgg192
  z208 := Tryz.sizeOf192
  v208 := Tryz.zeroValue192 }
open Go.RowKit Go.Lib in
theorem Tryz.unicode_convertCase (c : Nat) (hc : c < 3) (r : Int) (A o : Nat) (x : CaseRow) (w : World) (hlo : (x.1 : Int) ≤ r) (hhi : r ≤ (x.2.1 : Int)) (hH : x.2.1 < 2147483647) (c0 : w.cell? ⟨A, o, none⟩ = some (.int .u32 x.1)) (cD : w.cell? ⟨A, o + 2 + c, none⟩ = some (.int .i32 (x.delta c))) :
    Calls Tryz.prog 83 #[.int .i64 c, .int .i32 r, .pointer (some ⟨A, o, none⟩)] w fun e w' => e = .returned (.int .i32 (wrap32 (convertR c r x))) ∧ ∃ q, w' = w.drewN q := Any.unicode_convertCase Tryz.lays275 c hc r A o x w hlo hhi hH c0 cD
def Tryz.lays313_ren : Go.Shelf.Ren := ⟨fun | 313 => 122 | 274 => 82 | 275 => 83 | n => n, fun | 3 => 3 | 21 => 21 | 162 => 154 | 4 => 4 | 160 => 152 | 46 => 127 | 0 => 0 | 208 => 192 | 51 => 97 | 206 => 190 | n => n, fun | n => n⟩
theorem Tryz.lays313 : Go.Proofs.Lays.n313 Tryz.prog Tryz.lays313_ren := {
  mixed := by kernel_rfl
  f274 := Tryz.func82.trans (congrArg some (by kernel_rfl))
  f275 := Tryz.func83.trans (congrArg some (by kernel_rfl))
  f313 := Tryz.func122.trans (congrArg some (by kernel_rfl))
  t0 := Tryz.underlying0
  a0 := Tryz.isAgg0
  z0 := Tryz.sizeOf0
  v0 := Tryz.zeroValue0
  t3 := Tryz.underlying3
  a3 := Tryz.isAgg3
  z3 := Tryz.sizeOf3
  v3 := Tryz.zeroValue3
  t4 := Tryz.underlying4
  a4 := Tryz.isAgg4
  z4 := Tryz.sizeOf4
  v4 := Tryz.zeroValue4
  t21 := Tryz.underlying21
  a21 := Tryz.isAgg21
  z21 := Tryz.sizeOf21
  v21 := Tryz.zeroValue21
  t46 := Tryz.underlying127
  a46 := Tryz.isAgg127
  z46 := Tryz.sizeOf127
  v46 := Tryz.zeroValue127
  t51 := Tryz.underlying97
  a51 := Tryz.isAgg97
  z51 := Tryz.sizeOf97
  v51 := Tryz.zeroValue97
  t160 := Tryz.underlying152
  a160 := Tryz.isAgg152
  z160 := Tryz.sizeOf152
  v160 := Tryz.zeroValue152
  t162 := Tryz.underlying154
  a162 := Tryz.isAgg154
  z162 := Tryz.sizeOf154
  v162 := Tryz.zeroValue154
  t206 := Tryz.underlying190
  a206 := Tryz.isAgg190
  z206 := Tryz.sizeOf190
  v206 := Tryz.zeroValue190
  t208 := Tryz.underlying192
  a208 := Tryz.isAgg192
  z208 := Tryz.sizeOf192
  v208 := Tryz.zeroValue192 }
open Go.RowKit Go.Lib in
theorem Tryz.unicode_to (c : Nat) (hc : c < 3) (r : Int) (T : Array CaseRow) (R oR cap : Nat) (w : World) (hT : CaseTab R oR T w) (hok : CaseOk2 T) (hn : T.size ≤ 1000000000) :
    Calls Tryz.prog 122 #[.int .i64 c, .int .i32 r, .slice (some ⟨R, oR, none⟩) T.size cap] w fun e w' => e = .returned (.tuple #[.int .i32 (toW T c r), .bool (lookupIdx T r (T.size + 1) 0 T.size).isSome]) ∧ ∃ q, w' = w.drewN q := Any.unicode_to Tryz.lays313 c hc r T R oR cap w hT hok hn
def Tryz.lays262_ren : Go.Shelf.Ren := ⟨fun | 262 => 98 | 313 => 122 | 274 => 82 | 275 => 83 | n => n, fun | 3 => 3 | 21 => 21 | 162 => 154 | 203 => 198 | 4 => 4 | 160 => 152 | 46 => 127 | 0 => 0 | 208 => 192 | 51 => 97 | 206 => 190 | n => n, fun | 13 => 7 | n => n⟩
theorem Tryz.lays262 : Go.Proofs.Lays.n262 Tryz.prog Tryz.lays262_ren := {
  mixed := by kernel_rfl
  f262 := Tryz.func98.trans (congrArg some (by kernel_rfl))
  f274 := Tryz.func82.trans (congrArg some (by kernel_rfl))
  f275 := Tryz.func83.trans (congrArg some (by kernel_rfl))
  f313 := Tryz.func122.trans (congrArg some (by kernel_rfl))
  t0 := Tryz.underlying0
  a0 := Tryz.isAgg0
  z0 := Tryz.sizeOf0
  v0 := Tryz.zeroValue0
  t3 := Tryz.underlying3
  a3 := Tryz.isAgg3
  z3 := Tryz.sizeOf3
  v3 := Tryz.zeroValue3
  t4 := Tryz.underlying4
  a4 := Tryz.isAgg4
  z4 := Tryz.sizeOf4
  v4 := Tryz.zeroValue4
  t21 := Tryz.underlying21
  a21 := Tryz.isAgg21
  z21 := Tryz.sizeOf21
  v21 := Tryz.zeroValue21
  t46 := Tryz.underlying127
  a46 := Tryz.isAgg127
  z46 := Tryz.sizeOf127
  v46 := Tryz.zeroValue127
  t51 := Tryz.underlying97
  a51 := Tryz.isAgg97
  z51 := Tryz.sizeOf97
  v51 := Tryz.zeroValue97
  t160 := Tryz.underlying152
  a160 := Tryz.isAgg152
  z160 := Tryz.sizeOf152
  v160 := Tryz.zeroValue152
  t162 := Tryz.underlying154
  a162 := Tryz.isAgg154
  z162 := Tryz.sizeOf154
  v162 := Tryz.zeroValue154
  t203 := Tryz.underlying198
  a203 := Tryz.isAgg198
  z203 := Tryz.sizeOf198
  v203 := Tryz.zeroValue198
  t206 := Tryz.underlying190
  a206 := Tryz.isAgg190
  z206 := Tryz.sizeOf190
  v206 := Tryz.zeroValue190
  t208 := Tryz.underlying192
  a208 := Tryz.isAgg192
  z208 := Tryz.sizeOf192
  v208 := Tryz.zeroValue192
  g13 := by kernel_rfl }
open Go.RowKit Go.Lib in
theorem Tryz.unicode_To (c : Nat) (hc : c < 3) (r : Int) (T : Array CaseRow) (w : World) (hV : CaseVar 7 T w) (hok : CaseOk2 T) (hn : T.size ≤ 1000000000) :
    Calls Tryz.prog 98 #[.int .i64 c, .int .i32 r] w fun e w' => e = .returned (.int .i32 (toW T c r)) ∧ ∃ q, w' = w.drewN q := Any.unicode_To Tryz.lays262 c hc r T w hV hok hn
open Go.RowKit Go.Lib in
theorem Tryz.unicode_ToLower_any (r : Int) (T : Array CaseRow) (w : World) (hV : CaseVar 7 T w) (hok : CaseOk2 T) (hn : T.size ≤ 1000000000) :
    Calls Tryz.prog 63 #[.int .i32 r] w fun e w' => e = .returned (.int .i32 (Lib.toLowerW T r)) ∧ ∃ q, w' = w.drewN q := Any.unicode_ToLower_any Tryz.lays204 r T w hV hok hn
open Go.RowKit Go.Lib in
theorem Tryz.unicode_ToLower_laid (r : Int) (w : World) (hV : CaseVar 7 caseA w) :
    Calls Tryz.prog 63 #[.int .i32 r] w fun e w' => e = .returned (.int .i32 (toLowerU r)) ∧ ∃ q, w' = w.drewN q := Any.unicode_ToLower_laid Tryz.lays204 r w hV
def Tryz.lays270_ren : Go.Shelf.Ren := ⟨fun | 270 => 97 | n => n, fun | 70 => 112 | 3 => 3 | 0 => 0 | 72 => 114 | 37 => 73 | 5 => 5 | n => n, fun | n => n⟩
theorem Tryz.lays270 : Go.Proofs.Lays.n270 Tryz.prog Tryz.lays270_ren := {
  mixed := by kernel_rfl
  f270 := Tryz.func97.trans (congrArg some (by kernel_rfl))
  t0 := Tryz.underlying0
  a0 := Tryz.isAgg0
  z0 := Tryz.sizeOf0
  v0 := Tryz.zeroValue0
  t3 := Tryz.underlying3
  a3 := Tryz.isAgg3
  z3 := Tryz.sizeOf3
  v3 := Tryz.zeroValue3
  t37 := Tryz.underlying73
  a37 := Tryz.isAgg73
  z37 := Tryz.sizeOf73
  v37 := Tryz.zeroValue73
  t70 := Tryz.underlying112
  a70 := Tryz.isAgg112
  z70 := Tryz.sizeOf112
  v70 := Tryz.zeroValue112
  t72 := Tryz.underlying114
  a72 := Tryz.isAgg114
  z72 := Tryz.sizeOf114
  v72 := Tryz.zeroValue114 }
open Go.RowKit Go.Lib in
/-- (*strings.Builder).Cap: "Cap returns the capacity of the builder's underlying byte slice." (LAID: no walk: one application.) -/
theorem Tryz.Builder_Cap_cell (b : Nat) (p : Option Addr) (n cap : Nat) (w : World) (c1 : w.cell? ⟨b, 1, none⟩ = some (.slice p n cap)) :
    Calls Tryz.prog 97 #[.pointer (some ⟨b, 0, none⟩)] w fun e w' => e = .returned (.int .i64 cap) ∧ w' = w := Any.Builder_Cap_cell Tryz.lays270 b p n cap w c1
def Tryz.lays230_ren : Go.Shelf.Ren := ⟨fun | 230 => 62 | 197 => 46 | 118 => 95 | 165 => 58 | 166 => 59 | 168 => 96 | 270 => 97 | 167 => 60 | 169 => 61 | 260 => 81 | 240 => 93 | 241 => 94 | 242 => 121 | 276 => 119 | 277 => 120 | 278 => 131 | n => n, fun | 107 => 95 | 9 => 9 | 72 => 114 | 0 => 0 | 4 => 4 | 3 => 3 | 21 => 21 | 105 => 93 | 76 => 116 | 5 => 5 | 75 => 41 | 70 => 112 | 20 => 20 | 37 => 73 | 127 => 142 | 119 => 185 | 46 => 127 | 139 => 188 | 138 => 187 | 164 => 194 | 51 => 97 | 80 => 119 | n => n, fun | 3 => 12 | 4 => 13 | n => n⟩
theorem Tryz.lays230 : Go.Proofs.Lays.n230 Tryz.prog Tryz.lays230_ren := {
  mixed := by kernel_rfl
  f118 := Tryz.func95.trans (congrArg some (by kernel_rfl))
  f165 := Tryz.func58.trans (congrArg some (by kernel_rfl))
  f166 := Tryz.func59.trans (congrArg some (by kernel_rfl))
  f167 := Tryz.func60.trans (congrArg some (by kernel_rfl))
  f168 := Tryz.func96.trans (congrArg some (by kernel_rfl))
  f169 := Tryz.func61.trans (congrArg some (by kernel_rfl))
  f197 := Tryz.func46.trans (congrArg some (by kernel_rfl))
  f230 := Tryz.func62.trans (congrArg some (by kernel_rfl))
  f240 := Tryz.func93.trans (congrArg some (by kernel_rfl))
  f241 := Tryz.func94.trans (congrArg some (by kernel_rfl))
  f242 := Tryz.func121.trans (congrArg some (by kernel_rfl))
  f260 := Tryz.func81.trans (congrArg some (by kernel_rfl))
  f270 := Tryz.func97.trans (congrArg some (by kernel_rfl))
  f276 := Tryz.func119.trans (congrArg some (by kernel_rfl))
  f277 := Tryz.func120.trans (congrArg some (by kernel_rfl))
  f278 := Tryz.func131.trans (congrArg some (by kernel_rfl))
  t0 := Tryz.underlying0
  a0 := Tryz.isAgg0
  z0 := Tryz.sizeOf0
  v0 := Tryz.zeroValue0
  t3 := Tryz.underlying3
  a3 := Tryz.isAgg3
  z3 := Tryz.sizeOf3
  v3 := Tryz.zeroValue3
  t4 := Tryz.underlying4
  a4 := Tryz.isAgg4
  z4 := Tryz.sizeOf4
  v4 := Tryz.zeroValue4
  t5 := Tryz.underlying5
  a5 := Tryz.isAgg5
  z5 := Tryz.sizeOf5
  v5 := Tryz.zeroValue5
  t9 := Tryz.underlying9
  a9 := Tryz.isAgg9
  z9 := Tryz.sizeOf9
  v9 := Tryz.zeroValue9
  t20 := Tryz.underlying20
  a20 := Tryz.isAgg20
  z20 := Tryz.sizeOf20
  v20 := Tryz.zeroValue20
  t21 := Tryz.underlying21
  a21 := Tryz.isAgg21
  z21 := Tryz.sizeOf21
  v21 := Tryz.zeroValue21
  t37 := Tryz.underlying73
  a37 := Tryz.isAgg73
  z37 := Tryz.sizeOf73
  v37 := Tryz.zeroValue73
  t46 := Tryz.underlying127
  a46 := Tryz.isAgg127
  z46 := Tryz.sizeOf127
  v46 := Tryz.zeroValue127
  t51 := Tryz.underlying97
  a51 := Tryz.isAgg97
  z51 := Tryz.sizeOf97
  v51 := Tryz.zeroValue97
  t70 := Tryz.underlying112
  a70 := Tryz.isAgg112
  z70 := Tryz.sizeOf112
  v70 := Tryz.zeroValue112
  t72 := Tryz.underlying114
  a72 := Tryz.isAgg114
  z72 := Tryz.sizeOf114
  v72 := Tryz.zeroValue114
  t75 := Tryz.underlying41
  a75 := Tryz.isAgg41
  z75 := Tryz.sizeOf41
  v75 := Tryz.zeroValue41
  t76 := Tryz.underlying116
  a76 := Tryz.isAgg116
  z76 := Tryz.sizeOf116
  v76 := Tryz.zeroValue116
  t105 := Tryz.underlying93
  a105 := Tryz.isAgg93
  z105 := Tryz.sizeOf93
  v105 := Tryz.zeroValue93
  t107 := Tryz.underlying95
  a107 := Tryz.isAgg95
  z107 := Tryz.sizeOf95
  v107 := Tryz.zeroValue95
  t119 := Tryz.underlying185
  a119 := Tryz.isAgg185
  z119 := Tryz.sizeOf185
  t127 := Tryz.underlying142
  a127 := Tryz.isAgg142
  z127 := Tryz.sizeOf142
  v127 := Tryz.zeroValue142
  t138 := Tryz.underlying187
  a138 := Tryz.isAgg187
  z138 := Tryz.sizeOf187
  v138 := Tryz.zeroValue187
  t139 := Tryz.underlying188
  a139 := Tryz.isAgg188
  z139 := Tryz.sizeOf188
  v139 := Tryz.zeroValue188
  t164 := Tryz.underlying194
  a164 := Tryz.isAgg194
  z164 := Tryz.sizeOf194
  v164 := Tryz.zeroValue194
  g3 := by kernel_rfl
  g4 := by kernel_rfl }
theorem Tryz.Builder_Extra_230 : Builder.Extra Tryz.prog Tryz.lays230_ren := {
  sizeBuilder := by kernel_rfl
  liesBuilder := by kernel_rfl
  t5 := Tryz.underlying5
  a5 := Tryz.isAgg5
  z5 := Tryz.sizeOf5
  v5 := Tryz.zeroValue5
  infoByte := by kernel_rfl
  cellsByte := by kernel_rfl
  sizeByte := by kernel_rfl
  neB5 := by decide }
open Go.RowKit Go.Lib in
theorem Tryz.strings_Map_runes (g : Nat) (lb : Array Value) (eg : ∀ args w, (callFunc g args).run Tryz.prog w = .ok (.enter g args) w) (f : Int → Int) (s : ByteArray) (w : World) (hs : s.size < 35184372088832) (hf : MapAtRunes Tryz.prog g lb f w) (hnn : ∀ x : Nat, x ≤ 1114111 → 0 ≤ f x ∧ f x ≤ 2147483647) (hT : Lib.Utf8Tabs 12 13 w) :
    Calls Tryz.prog 62 #[.func (.func g) #[] lb, .string s] w fun e w' => e = .returned (.string ⟨(Lib.mapD f s.data.toList).toArray⟩) ∧ Below w.heap.size w w' := Any.strings_Map_runes Tryz.lays230 Tryz.Builder_Extra_230 g lb eg f s w hs hf hnn hT
open Go.RowKit Go.Lib in
theorem Tryz.strings_ToLower_beyond (s : ByteArray) (w : World) (hs : s.size < 35184372088832) (hhigh : ∃ (j : Nat) (b : UInt8), s.data.toList[j]? = some b ∧ 128 ≤ b.toNat) (hV : CaseVar 7 caseA w) (hT : Lib.Utf8Tabs 12 13 w) :
    Calls Tryz.prog 37 #[.string s] w fun e w' => e = .returned (.string ⟨(Lib.toLowerD s.data.toList).toArray⟩) ∧ Below w.heap.size w w' := Any.strings_ToLower_beyond Tryz.lays159 Tryz.Builder_Extra_159 s w hs hhigh hV hT
open Go.RowKit Go.Lib in
/-- **strings.ToLower AT EVERY STRING, VALID UTF-8 OR NOT.** (LAID: no walk: one application.) -/
theorem Tryz.strings_ToLower_any (s : ByteArray) (w : World) (hs : s.size < 35184372088832) (hV : CaseVar 7 caseA w) (hT : Lib.Utf8Tabs 12 13 w) :
    Calls Tryz.prog 37 #[.string s] w fun e w' => e = .returned (.string ⟨(Lib.toLowerD s.data.toList).toArray⟩) ∧ Below w.heap.size w w' := Any.strings_ToLower_any Tryz.lays159 Tryz.Builder_Extra_159 s w hs hV hT
end Go.Proofs
