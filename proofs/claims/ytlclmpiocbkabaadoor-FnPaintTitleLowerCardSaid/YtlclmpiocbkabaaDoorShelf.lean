/-
  DERIVED: THE SHELF's CONTRACTS AT THIS DUMP, IN PLAIN WORDS (tools/lay-plain.mjs out of 'TrydShelf.lean', which tools/lay-shelf.mjs wrote): THE SAME DECLARATIONS UNDER THE SAME NAMES: 'import', 'namespace', 'open', 'def', 'theorem' AND NOTHING ELSE: no command of the shelf's: FOR A HAND-IN. Each laying: the table of numbers ('.._ren') and one theorem, a field a fact of the dump's own or the kernel's comparison; each contract: ONE APPLICATION.
-/
import Derived.Shelf.Strings.Builder1
import Derived.Shelf.Strings.Builder2
import Derived.Shelf.Strings.OnBuilder
import Derived.Shelf.Strings.TrimSpace
import Derived.Shelf.Small.Utf8
import Derived.Shelf.Small.Bits
import Derived.Shelf.Strings.BuilderF
import Derived.Shelf.Strings.BuilderK
import Derived.Shelf.Strings.BuilderRune
import Derived.Shelf.Utf8.AppendRune
import Derived.Shelf.Utf8.AppendRunePlain
import Derived.Shelf.Strings.Builder2Cap
import Derived.Shelf.Strconv.Itoa0
import Derived.Shelf.Strconv.Itoa1
import Derived.Shelf.LaysM
import Derived.Shelf.Strconv.Itoa2
import Derived.Shelf.Strconv.Itoa3
import Derived.Shelf.Sort.Plain
import Derived.Shelf.GgClosure.StringsIndexFunc
import Derived.Shelf.Unicode.Latin
import Derived.Shelf.Unicode.Props
import Derived.Shelf.Unicode.DecodeSlow
import Derived.Shelf.Unicode.DecodeAny
import Derived.Shelf.Unicode.Is16White
import Derived.Shelf.Unicode.IsSpaceAny
import Derived.Shelf.Unicode.DecodeLast
import Derived.Shelf.Strings.TrimSpaceAny
import Derived.Shelf.Unicode.CaseLookup
import Derived.Shelf.Unicode.CaseConvert
import Derived.Shelf.Unicode.CaseTo
import Derived.Shelf.Unicode.CaseLaid
import Derived.Shelf.Strings.MapAny
import Derived.Shelf.Strings.CaseAny
import Derived.Shelf.Unicode.Is16Any
import Derived.Shelf.Unicode.Is32Any
import Derived.Shelf.Unicode.ExclAny
import Derived.Shelf.Unicode.PredsAny
import Derived.Shelf.Strings.BuilderCap
import Derived.Shelf.Bytes.Small
import Derived.Test.YtlclmpiocbkabaaDoorProg
namespace Go.Proofs
open Go.Shelf
def Tryd.lays169_ren : Go.Shelf.Ren := ⟨fun | 169 => 51 | n => n, fun | 70 => 80 | 9 => 9 | 0 => 0 | 72 => 82 | 37 => 62 | 127 => 100 | 3 => 3 | 5 => 5 | n => n, fun | n => n⟩
theorem Tryd.lays169 : Go.Proofs.Lays.n169 Tryd.prog Tryd.lays169_ren := {
  mixed := by kernel_rfl
  f169 := Tryd.func51.trans (congrArg some (by kernel_rfl))
  t0 := Tryd.underlying0
  a0 := Tryd.isAgg0
  z0 := Tryd.sizeOf0
  v0 := Tryd.zeroValue0
  t3 := Tryd.underlying3
  a3 := Tryd.isAgg3
  z3 := Tryd.sizeOf3
  v3 := Tryd.zeroValue3
  t9 := Tryd.underlying9
  a9 := Tryd.isAgg9
  z9 := Tryd.sizeOf9
  v9 := Tryd.zeroValue9
  t37 := Tryd.underlying62
  a37 := Tryd.isAgg62
  z37 := Tryd.sizeOf62
  v37 := Tryd.zeroValue62
  t70 := Tryd.underlying80
  a70 := Tryd.isAgg80
  z70 := Tryd.sizeOf80
  v70 := Tryd.zeroValue80
  t72 := Tryd.underlying82
  a72 := Tryd.isAgg82
  z72 := Tryd.sizeOf82
  v72 := Tryd.zeroValue82
  t127 := Tryd.underlying100
  a127 := Tryd.isAgg100
  z127 := Tryd.sizeOf100
  v127 := Tryd.zeroValue100 }
theorem Tryd.Builder_Extra_169 : Builder.Extra Tryd.prog Tryd.lays169_ren := {
  sizeBuilder := by kernel_rfl
  liesBuilder := by kernel_rfl
  t5 := Tryd.underlying5
  a5 := Tryd.isAgg5
  z5 := Tryd.sizeOf5
  v5 := Tryd.zeroValue5
  infoByte := by kernel_rfl
  cellsByte := by kernel_rfl
  sizeByte := by kernel_rfl
  neB5 := by decide }
open Go.RowKit in
/-- (*strings.Builder).String: "String returns the accumulated string.": OF A BUILDER THAT HOLDS AT LEAST ONE BYTE. ✋ THE MODEL FREEZES THOSE BYTES IN THE BUFFER (unsafe.String): a later write INTO them ends the model's run without an answer; a later append BEHIND them goes on. The statement's order of evaluation is drawn: one draw. (LAID: no walk: one application.) -/
theorem Tryd.Builder_String (B b : Nat) (l : List UInt8) (w : World) (h : Lib.IsBuilder 82 5 B b (Lib.byteCells l) w) (h0 : l ≠ []) :
    Calls Tryd.prog 51 #[.pointer (some ⟨b, 0, none⟩)] w fun e w' => e = .returned (.string ⟨l.toArray⟩) ∧ Below B w w' := Any.Builder_String Tryd.lays169 Tryd.Builder_Extra_169 B b l w h h0
open Go.RowKit in
/-- (*strings.Builder).String OF A BUILDER THAT HOLDS NO BYTE: the empty string. (Its buffer is nil, or a row of which it has taken nothing yet; where that row has NO capacity the model lays one new block for unsafe.SliceData's 'some address'.) One draw. (LAID: no walk: one application.) -/
theorem Tryd.Builder_String_empty (B b : Nat) (w : World) (h : Lib.IsBuilder 82 5 B b [] w) (hBw : B ≤ w.heap.size) :
    Calls Tryd.prog 51 #[.pointer (some ⟨b, 0, none⟩)] w fun e w' => e = .returned (.string ⟨#[]⟩) ∧ Below B w w' := Any.Builder_String_empty Tryd.lays169 Tryd.Builder_Extra_169 B b w h hBw
open Go.RowKit in
/-- (*strings.Builder).String: "String returns the accumulated string.": WHATEVER THE BUILDER HOLDS. (LAID: no walk: one application.) -/
theorem Tryd.Builder_String_any (B b : Nat) (l : List UInt8) (w : World) (h : Lib.IsBuilder 82 5 B b (Lib.byteCells l) w) (hBw : B ≤ w.heap.size) :
    Calls Tryd.prog 51 #[.pointer (some ⟨b, 0, none⟩)] w fun e w' => e = .returned (.string ⟨l.toArray⟩) ∧ Below B w w' := Any.Builder_String_any Tryd.lays169 Tryd.Builder_Extra_169 B b l w h hBw
def Tryd.lays241_ren : Go.Shelf.Ren := ⟨fun | 241 => 75 | 277 => 96 | n => n, fun | 70 => 80 | 3 => 3 | 0 => 0 | 72 => 82 | 37 => 62 | 5 => 5 | n => n, fun | n => n⟩
theorem Tryd.lays241 : Go.Proofs.Lays.n241 Tryd.prog Tryd.lays241_ren := {
  mixed := by kernel_rfl
  f241 := Tryd.func75.trans (congrArg some (by kernel_rfl))
  f277 := Tryd.func96.trans (congrArg some (by kernel_rfl))
  t0 := Tryd.underlying0
  a0 := Tryd.isAgg0
  z0 := Tryd.sizeOf0
  v0 := Tryd.zeroValue0
  t3 := Tryd.underlying3
  a3 := Tryd.isAgg3
  z3 := Tryd.sizeOf3
  v3 := Tryd.zeroValue3
  t37 := Tryd.underlying62
  a37 := Tryd.isAgg62
  z37 := Tryd.sizeOf62
  v37 := Tryd.zeroValue62
  t70 := Tryd.underlying80
  a70 := Tryd.isAgg80
  z70 := Tryd.sizeOf80
  v70 := Tryd.zeroValue80
  t72 := Tryd.underlying82
  a72 := Tryd.isAgg82
  z72 := Tryd.sizeOf82
  v72 := Tryd.zeroValue82 }
theorem Tryd.Builder_Extra_241 : Builder.Extra Tryd.prog Tryd.lays241_ren := {
  sizeBuilder := by kernel_rfl
  liesBuilder := by kernel_rfl
  t5 := Tryd.underlying5
  a5 := Tryd.isAgg5
  z5 := Tryd.sizeOf5
  v5 := Tryd.zeroValue5
  infoByte := by kernel_rfl
  cellsByte := by kernel_rfl
  sizeByte := by kernel_rfl
  neB5 := by decide }
open Go.RowKit in
/-- (*strings.Builder).grow (no doc but "grow copies the buffer to a new, larger buffer so that there are at least n bytes of capacity beyond len(b.buf)."): AT A BUILDER WITHOUT A BUFFER: a new row of whatever bytes for its buffer, none of them its own yet. Three draws. (LAID: no walk: one application.) -/
theorem Tryd.Builder_grow_fresh (B b n : Nat) (w : World) (hB : B ≤ b) (hbk : w.heap[b]? = some (.cells #[.pointer (some ⟨b, 0, none⟩), .slice none 0 0] 82 (0, 0))) (hBw : B ≤ w.heap.size) (hn : n ≤ 281474976710656) :
    Calls Tryd.prog 75 #[.pointer (some ⟨b, 0, none⟩), .int .i64 n] w fun e w' => e = .returned (.tuple #[]) ∧ (Lib.BuilderAt 82 5 B b (.pointer (some ⟨b, 0, none⟩)) [] w' ∧ Below B w w') := Any.Builder_grow_fresh Tryd.lays241 Tryd.Builder_Extra_241 B b n w hB hbk hBw hn
def Tryd.lays165_ren : Go.Shelf.Ren := ⟨fun | 165 => 54 | 240 => 70 | 241 => 75 | 276 => 93 | 277 => 96 | n => n, fun | 70 => 80 | 3 => 3 | 0 => 0 | 4 => 4 | 9 => 9 | 20 => 20 | 72 => 82 | 37 => 62 | 164 => 115 | 5 => 5 | n => n, fun | n => n⟩
theorem Tryd.lays165 : Go.Proofs.Lays.n165 Tryd.prog Tryd.lays165_ren := {
  mixed := by kernel_rfl
  f165 := Tryd.func54.trans (congrArg some (by kernel_rfl))
  f240 := Tryd.func70.trans (congrArg some (by kernel_rfl))
  f241 := Tryd.func75.trans (congrArg some (by kernel_rfl))
  f276 := Tryd.func93.trans (congrArg some (by kernel_rfl))
  f277 := Tryd.func96.trans (congrArg some (by kernel_rfl))
  t0 := Tryd.underlying0
  a0 := Tryd.isAgg0
  z0 := Tryd.sizeOf0
  v0 := Tryd.zeroValue0
  t3 := Tryd.underlying3
  a3 := Tryd.isAgg3
  z3 := Tryd.sizeOf3
  v3 := Tryd.zeroValue3
  t4 := Tryd.underlying4
  a4 := Tryd.isAgg4
  z4 := Tryd.sizeOf4
  v4 := Tryd.zeroValue4
  t9 := Tryd.underlying9
  a9 := Tryd.isAgg9
  z9 := Tryd.sizeOf9
  v9 := Tryd.zeroValue9
  t20 := Tryd.underlying20
  a20 := Tryd.isAgg20
  z20 := Tryd.sizeOf20
  v20 := Tryd.zeroValue20
  t37 := Tryd.underlying62
  a37 := Tryd.isAgg62
  z37 := Tryd.sizeOf62
  v37 := Tryd.zeroValue62
  t70 := Tryd.underlying80
  a70 := Tryd.isAgg80
  z70 := Tryd.sizeOf80
  v70 := Tryd.zeroValue80
  t72 := Tryd.underlying82
  a72 := Tryd.isAgg82
  z72 := Tryd.sizeOf82
  v72 := Tryd.zeroValue82
  t164 := Tryd.underlying115
  a164 := Tryd.isAgg115
  z164 := Tryd.sizeOf115
  v164 := Tryd.zeroValue115 }
theorem Tryd.Builder_Extra_165 : Builder.Extra Tryd.prog Tryd.lays165_ren := {
  sizeBuilder := by kernel_rfl
  liesBuilder := by kernel_rfl
  t5 := Tryd.underlying5
  a5 := Tryd.isAgg5
  z5 := Tryd.sizeOf5
  v5 := Tryd.zeroValue5
  infoByte := by kernel_rfl
  cellsByte := by kernel_rfl
  sizeByte := by kernel_rfl
  neB5 := by decide }
open Go.RowKit in
/-- (*strings.Builder).Grow AT A BUILDER THAT HAS NOT BEEN WRITTEN ('var b strings.Builder; b.Grow(n)'): "Grow grows b's capacity, if necessary, to guarantee space for another n bytes.": it holds no byte behind it as before it. (LAID: no walk: one application.) -/
theorem Tryd.Builder_Grow_fresh (B b n : Nat) (w : World) (hB : B ≤ b) (hbk : w.heap[b]? = some (.cells #[.pointer none, .slice none 0 0] 82 (0, 0))) (hBw : B ≤ w.heap.size) (hn : n ≤ 281474976710656) :
    Calls Tryd.prog 54 #[.pointer (some ⟨b, 0, none⟩), .int .i64 n] w fun e w' => e = .returned (.tuple #[]) ∧ (Lib.BuilderAt 82 5 B b (.pointer (some ⟨b, 0, none⟩)) [] w' ∧ Below B w w') := Any.Builder_Grow_fresh Tryd.lays165 Tryd.Builder_Extra_165 B b n w hB hbk hBw hn
def Tryd.lays159_ren : Go.Shelf.Ren := ⟨fun | 159 => 39 | 165 => 54 | 166 => 48 | 167 => 55 | 169 => 51 | 230 => 56 | 204 => 57 | 240 => 70 | 241 => 75 | 197 => 76 | 118 => 77 | 168 => 49 | 270 => 78 | 262 => 79 | 276 => 93 | 277 => 96 | 260 => 97 | 242 => 43 | 313 => 98 | 278 => 62 | 274 => 122 | 275 => 123 | n => n, fun | 9 => 9 | 4 => 4 | 3 => 3 | 5 => 5 | 72 => 82 | 0 => 0 | 76 => 85 | 75 => 84 | 107 => 92 | 70 => 80 | 20 => 20 | 37 => 62 | 127 => 100 | 21 => 21 | 105 => 101 | 164 => 115 | 162 => 122 | 203 => 120 | 119 => 123 | 46 => 106 | 139 => 151 | 138 => 150 | 51 => 93 | 160 => 152 | 208 => 183 | 206 => 181 | 80 => 68 | n => n, fun | 13 => 0 | 3 => 7 | 4 => 8 | n => n⟩
theorem Tryd.lays159 : Go.Proofs.Lays.n159 Tryd.prog Tryd.lays159_ren := {
  mixed := by kernel_rfl
  f118 := Tryd.func77.trans (congrArg some (by kernel_rfl))
  f159 := Tryd.func39.trans (congrArg some (by kernel_rfl))
  f165 := Tryd.func54.trans (congrArg some (by kernel_rfl))
  f166 := Tryd.func48.trans (congrArg some (by kernel_rfl))
  f167 := Tryd.func55.trans (congrArg some (by kernel_rfl))
  f168 := Tryd.func49.trans (congrArg some (by kernel_rfl))
  f169 := Tryd.func51.trans (congrArg some (by kernel_rfl))
  f197 := Tryd.func76.trans (congrArg some (by kernel_rfl))
  f204 := Tryd.func57.trans (congrArg some (by kernel_rfl))
  f230 := Tryd.func56.trans (congrArg some (by kernel_rfl))
  f240 := Tryd.func70.trans (congrArg some (by kernel_rfl))
  f241 := Tryd.func75.trans (congrArg some (by kernel_rfl))
  f242 := Tryd.func43.trans (congrArg some (by kernel_rfl))
  f260 := Tryd.func97.trans (congrArg some (by kernel_rfl))
  f262 := Tryd.func79.trans (congrArg some (by kernel_rfl))
  f270 := Tryd.func78.trans (congrArg some (by kernel_rfl))
  f274 := Tryd.func122.trans (congrArg some (by kernel_rfl))
  f275 := Tryd.func123.trans (congrArg some (by kernel_rfl))
  f276 := Tryd.func93.trans (congrArg some (by kernel_rfl))
  f277 := Tryd.func96.trans (congrArg some (by kernel_rfl))
  f278 := Tryd.func62.trans (congrArg some (by kernel_rfl))
  f313 := Tryd.func98.trans (congrArg some (by kernel_rfl))
  t0 := Tryd.underlying0
  a0 := Tryd.isAgg0
  z0 := Tryd.sizeOf0
  v0 := Tryd.zeroValue0
  t3 := Tryd.underlying3
  a3 := Tryd.isAgg3
  z3 := Tryd.sizeOf3
  v3 := Tryd.zeroValue3
  t4 := Tryd.underlying4
  a4 := Tryd.isAgg4
  z4 := Tryd.sizeOf4
  v4 := Tryd.zeroValue4
  t5 := Tryd.underlying5
  a5 := Tryd.isAgg5
  z5 := Tryd.sizeOf5
  v5 := Tryd.zeroValue5
  t9 := Tryd.underlying9
  a9 := Tryd.isAgg9
  z9 := Tryd.sizeOf9
  v9 := Tryd.zeroValue9
  t20 := Tryd.underlying20
  a20 := Tryd.isAgg20
  z20 := Tryd.sizeOf20
  v20 := Tryd.zeroValue20
  t21 := Tryd.underlying21
  a21 := Tryd.isAgg21
  z21 := Tryd.sizeOf21
  v21 := Tryd.zeroValue21
  t37 := Tryd.underlying62
  a37 := Tryd.isAgg62
  z37 := Tryd.sizeOf62
  v37 := Tryd.zeroValue62
  t46 := Tryd.underlying106
  a46 := Tryd.isAgg106
  z46 := Tryd.sizeOf106
  v46 := Tryd.zeroValue106
  t51 := Tryd.underlying93
  a51 := Tryd.isAgg93
  z51 := Tryd.sizeOf93
  v51 := Tryd.zeroValue93
  t70 := Tryd.underlying80
  a70 := Tryd.isAgg80
  z70 := Tryd.sizeOf80
  v70 := Tryd.zeroValue80
  t72 := Tryd.underlying82
  a72 := Tryd.isAgg82
  z72 := Tryd.sizeOf82
  v72 := Tryd.zeroValue82
  t75 := Tryd.underlying84
  a75 := Tryd.isAgg84
  z75 := Tryd.sizeOf84
  v75 := Tryd.zeroValue84
  t76 := Tryd.underlying85
  a76 := Tryd.isAgg85
  z76 := Tryd.sizeOf85
  v76 := Tryd.zeroValue85
  t105 := Tryd.underlying101
  a105 := Tryd.isAgg101
  z105 := Tryd.sizeOf101
  v105 := Tryd.zeroValue101
  t107 := Tryd.underlying92
  a107 := Tryd.isAgg92
  z107 := Tryd.sizeOf92
  v107 := Tryd.zeroValue92
  t119 := Tryd.underlying123
  a119 := Tryd.isAgg123
  z119 := Tryd.sizeOf123
  t127 := Tryd.underlying100
  a127 := Tryd.isAgg100
  z127 := Tryd.sizeOf100
  v127 := Tryd.zeroValue100
  t138 := Tryd.underlying150
  a138 := Tryd.isAgg150
  z138 := Tryd.sizeOf150
  v138 := Tryd.zeroValue150
  t139 := Tryd.underlying151
  a139 := Tryd.isAgg151
  z139 := Tryd.sizeOf151
  v139 := Tryd.zeroValue151
  t160 := Tryd.underlying152
  a160 := Tryd.isAgg152
  z160 := Tryd.sizeOf152
  v160 := Tryd.zeroValue152
  t162 := Tryd.underlying122
  a162 := Tryd.isAgg122
  z162 := Tryd.sizeOf122
  v162 := Tryd.zeroValue122
  t164 := Tryd.underlying115
  a164 := Tryd.isAgg115
  z164 := Tryd.sizeOf115
  v164 := Tryd.zeroValue115
  t203 := Tryd.underlying120
  a203 := Tryd.isAgg120
  z203 := Tryd.sizeOf120
  v203 := Tryd.zeroValue120
  t206 := Tryd.underlying181
  a206 := Tryd.isAgg181
  z206 := Tryd.sizeOf181
  v206 := Tryd.zeroValue181
  t208 := Tryd.underlying183
  a208 := Tryd.isAgg183
  z208 := Tryd.sizeOf183
  v208 := Tryd.zeroValue183
  g3 := by kernel_rfl
  g4 := by kernel_rfl
  g13 := by kernel_rfl }
theorem Tryd.Builder_Extra_159 : Builder.Extra Tryd.prog Tryd.lays159_ren := {
  sizeBuilder := by kernel_rfl
  liesBuilder := by kernel_rfl
  t5 := Tryd.underlying5
  a5 := Tryd.isAgg5
  z5 := Tryd.sizeOf5
  v5 := Tryd.zeroValue5
  infoByte := by kernel_rfl
  cellsByte := by kernel_rfl
  sizeByte := by kernel_rfl
  neB5 := by decide }
open Go.RowKit in
/-- strings.ToLower: "ToLower returns s with all Unicode letters mapped to their lower case.": ON ASCII TEXT OF AT MOST 2^47 BYTES. Below the heap's end the world is as it was: where a letter turns, the call makes a builder and its buffer. (LAID: no walk: one application.) -/
theorem Tryd.strings_ToLower_ascii (s : ByteArray) (w : World) (hs : s.size ≤ 140737488355328) (hascii : ∀ (j : Nat) (b : UInt8), s.data.toList[j]? = some b → b.toNat < 128) :
    Calls Tryd.prog 39 #[.string s] w fun e w' => e = .returned (.string ⟨(Lib.toLowerA s.data.toList).toArray⟩) ∧ Below w.heap.size w w' := Any.strings_ToLower_ascii Tryd.lays159 Tryd.Builder_Extra_159 s w hs hascii
def Tryd.lays163_ren : Go.Shelf.Ren := ⟨fun | 163 => 85 | 237 => 101 | 199 => 82 | 238 => 102 | 272 => 126 | 261 => 99 | 273 => 127 | 197 => 76 | 315 => 139 | 311 => 124 | 312 => 125 | 271 => 140 | 260 => 97 | 120 => 146 | n => n, fun | 9 => 9 | 37 => 62 | 3 => 3 | 0 => 0 | 5 => 5 | 4 => 4 | 40 => 55 | 119 => 123 | 21 => 21 | 51 => 93 | 141 => 125 | 105 => 101 | 196 => 158 | 193 => 155 | 198 => 161 | 49 => 159 | 194 => 156 | 201 => 164 | 226 => 184 | 46 => 106 | 227 => 185 | 139 => 151 | 138 => 150 | n => n, fun | 0 => 5 | 6 => 4 | 3 => 7 | 4 => 8 | n => n⟩
theorem Tryd.lays163 : Go.Proofs.Lays.n163 Tryd.prog Tryd.lays163_ren := {
  mixed := by kernel_rfl
  f120 := Tryd.func146.trans (congrArg some (by kernel_rfl))
  f163 := Tryd.func85.trans (congrArg some (by kernel_rfl))
  f197 := Tryd.func76.trans (congrArg some (by kernel_rfl))
  f199 := Tryd.func82.trans (congrArg some (by kernel_rfl))
  f237 := Tryd.func101.trans (congrArg some (by kernel_rfl))
  f238 := Tryd.func102.trans (congrArg some (by kernel_rfl))
  f260 := Tryd.func97.trans (congrArg some (by kernel_rfl))
  f261 := Tryd.func99.trans (congrArg some (by kernel_rfl))
  f271 := Tryd.func140.trans (congrArg some (by kernel_rfl))
  f272 := Tryd.func126.trans (congrArg some (by kernel_rfl))
  f273 := Tryd.func127.trans (congrArg some (by kernel_rfl))
  f311 := Tryd.func124.trans (congrArg some (by kernel_rfl))
  f312 := Tryd.func125.trans (congrArg some (by kernel_rfl))
  f315 := Tryd.func139.trans (congrArg some (by kernel_rfl))
  t0 := Tryd.underlying0
  a0 := Tryd.isAgg0
  z0 := Tryd.sizeOf0
  v0 := Tryd.zeroValue0
  t3 := Tryd.underlying3
  a3 := Tryd.isAgg3
  z3 := Tryd.sizeOf3
  v3 := Tryd.zeroValue3
  t4 := Tryd.underlying4
  a4 := Tryd.isAgg4
  z4 := Tryd.sizeOf4
  v4 := Tryd.zeroValue4
  t5 := Tryd.underlying5
  a5 := Tryd.isAgg5
  z5 := Tryd.sizeOf5
  v5 := Tryd.zeroValue5
  t9 := Tryd.underlying9
  a9 := Tryd.isAgg9
  z9 := Tryd.sizeOf9
  v9 := Tryd.zeroValue9
  t21 := Tryd.underlying21
  a21 := Tryd.isAgg21
  z21 := Tryd.sizeOf21
  v21 := Tryd.zeroValue21
  t37 := Tryd.underlying62
  a37 := Tryd.isAgg62
  z37 := Tryd.sizeOf62
  v37 := Tryd.zeroValue62
  t40 := Tryd.underlying55
  a40 := Tryd.isAgg55
  z40 := Tryd.sizeOf55
  v40 := Tryd.zeroValue55
  t46 := Tryd.underlying106
  a46 := Tryd.isAgg106
  z46 := Tryd.sizeOf106
  v46 := Tryd.zeroValue106
  t49 := Tryd.underlying159
  a49 := Tryd.isAgg159
  z49 := Tryd.sizeOf159
  v49 := Tryd.zeroValue159
  t51 := Tryd.underlying93
  a51 := Tryd.isAgg93
  z51 := Tryd.sizeOf93
  v51 := Tryd.zeroValue93
  t105 := Tryd.underlying101
  a105 := Tryd.isAgg101
  z105 := Tryd.sizeOf101
  v105 := Tryd.zeroValue101
  t119 := Tryd.underlying123
  a119 := Tryd.isAgg123
  z119 := Tryd.sizeOf123
  t138 := Tryd.underlying150
  a138 := Tryd.isAgg150
  z138 := Tryd.sizeOf150
  v138 := Tryd.zeroValue150
  t139 := Tryd.underlying151
  a139 := Tryd.isAgg151
  z139 := Tryd.sizeOf151
  v139 := Tryd.zeroValue151
  t141 := Tryd.underlying125
  a141 := Tryd.isAgg125
  z141 := Tryd.sizeOf125
  v141 := Tryd.zeroValue125
  t193 := Tryd.underlying155
  a193 := Tryd.isAgg155
  z193 := Tryd.sizeOf155
  v193 := Tryd.zeroValue155
  t194 := Tryd.underlying156
  a194 := Tryd.isAgg156
  z194 := Tryd.sizeOf156
  v194 := Tryd.zeroValue156
  t196 := Tryd.underlying158
  a196 := Tryd.isAgg158
  z196 := Tryd.sizeOf158
  v196 := Tryd.zeroValue158
  t198 := Tryd.underlying161
  a198 := Tryd.isAgg161
  z198 := Tryd.sizeOf161
  v198 := Tryd.zeroValue161
  t201 := Tryd.underlying164
  a201 := Tryd.isAgg164
  z201 := Tryd.sizeOf164
  v201 := Tryd.zeroValue164
  t226 := Tryd.underlying184
  a226 := Tryd.isAgg184
  z226 := Tryd.sizeOf184
  v226 := Tryd.zeroValue184
  t227 := Tryd.underlying185
  a227 := Tryd.isAgg185
  z227 := Tryd.sizeOf185
  v227 := Tryd.zeroValue185
  g0 := by kernel_rfl
  g3 := by kernel_rfl
  g4 := by kernel_rfl
  g6 := by kernel_rfl }
theorem Tryd.Space_Extra_163 : Space.Extra Tryd.prog Tryd.lays163_ren := {
  gNamed := by kernel_rfl }
open Go.RowKit in
theorem Tryd.strings_TrimSpace (s : ByteArray) (w : World) (hs : s.size ≤ 9223372036854775807) (hascii : ∀ (j : Nat) b, s.data.toList[j]? = some b → b.toNat < 128) (htab : Lib.TabIs Tryd.prog w "strings.asciiSpace" .u8 Lib.asciiSpaceTab) :
    Calls Tryd.prog 85 #[.string s] w fun e w' => e = .returned (.string ⟨(Lib.trimSpace s.data.toList).toArray⟩) ∧ w' = Lib.bytesWorld w 5 s := Any.strings_TrimSpace Tryd.lays163 Tryd.Space_Extra_163 s w hs hascii htab
def Tryd.lays118_ren : Go.Shelf.Ren := ⟨fun | 118 => 77 | n => n, fun | 21 => 21 | 3 => 3 | 4 => 4 | n => n, fun | n => n⟩
theorem Tryd.lays118 : Go.Proofs.Lays.n118 Tryd.prog Tryd.lays118_ren := {
  mixed := by kernel_rfl
  f118 := Tryd.func77.trans (congrArg some (by kernel_rfl))
  t3 := Tryd.underlying3
  a3 := Tryd.isAgg3
  z3 := Tryd.sizeOf3
  v3 := Tryd.zeroValue3
  t4 := Tryd.underlying4
  a4 := Tryd.isAgg4
  z4 := Tryd.sizeOf4
  v4 := Tryd.zeroValue4
  t21 := Tryd.underlying21
  a21 := Tryd.isAgg21
  z21 := Tryd.sizeOf21
  v21 := Tryd.zeroValue21 }
/-- utf8.RuneLen: "RuneLen returns the number of bytes in the UTF-8 encoding of the rune. It returns -1 if the rune is not a valid value to encode in UTF-8.": IT RETURNS 'Lib.runeLen r'; the world is as it was. (LAID: no walk: one application.) -/
theorem Tryd.utf8_RuneLen (r : Int) (w : World) :
    Calls Tryd.prog 77 #[.int .i32 r] w fun e w' => e = .returned (.int .i64 (Lib.runeLen r)) ∧ w' = w := Any.utf8_RuneLen Tryd.lays118 r w
def Tryd.lays120_ren : Go.Shelf.Ren := ⟨fun | 120 => 146 | n => n, fun | 5 => 5 | 4 => 4 | n => n, fun | n => n⟩
theorem Tryd.lays120 : Go.Proofs.Lays.n120 Tryd.prog Tryd.lays120_ren := {
  mixed := by kernel_rfl
  f120 := Tryd.func146.trans (congrArg some (by kernel_rfl))
  t4 := Tryd.underlying4
  a4 := Tryd.isAgg4
  z4 := Tryd.sizeOf4
  v4 := Tryd.zeroValue4
  t5 := Tryd.underlying5
  a5 := Tryd.isAgg5
  z5 := Tryd.sizeOf5
  v5 := Tryd.zeroValue5 }
/-- utf8.RuneStart: "RuneStart reports whether the byte could be the first byte of an encoded, possibly invalid rune. Second and subsequent bytes always have the top two bits set to 10.": IT RETURNS 'Lib.runeStart b'; the world is as it was. ('h0', 'h1': b is a byte: a caller has it of every byte that it was handed.) (LAID: no walk: one application.) -/
theorem Tryd.utf8_RuneStart (b : Int) (w : World) (h0 : 0 ≤ b) (h1 : b < 256) :
    Calls Tryd.prog 146 #[.int .u8 b] w fun e w' => e = .returned (.bool (Lib.runeStart b)) ∧ w' = w := Any.utf8_RuneStart Tryd.lays120 b w h0 h1
def Tryd.lays128_ren : Go.Shelf.Ren := ⟨fun | 128 => 116 | n => n, fun | 51 => 93 | 3 => 3 | 4 => 4 | 46 => 106 | 5 => 5 | 9 => 9 | n => n, fun | n => n⟩
theorem Tryd.lays128 : Go.Proofs.Lays.n128 Tryd.prog Tryd.lays128_ren := {
  mixed := by kernel_rfl
  f128 := Tryd.func116.trans (congrArg some (by kernel_rfl))
  t3 := Tryd.underlying3
  a3 := Tryd.isAgg3
  z3 := Tryd.sizeOf3
  v3 := Tryd.zeroValue3
  t4 := Tryd.underlying4
  a4 := Tryd.isAgg4
  z4 := Tryd.sizeOf4
  v4 := Tryd.zeroValue4
  t5 := Tryd.underlying5
  a5 := Tryd.isAgg5
  z5 := Tryd.sizeOf5
  v5 := Tryd.zeroValue5
  t9 := Tryd.underlying9
  a9 := Tryd.isAgg9
  z9 := Tryd.sizeOf9
  v9 := Tryd.zeroValue9
  t46 := Tryd.underlying106
  a46 := Tryd.isAgg106
  z46 := Tryd.sizeOf106
  v46 := Tryd.zeroValue106
  t51 := Tryd.underlying93
  a51 := Tryd.isAgg93
  z51 := Tryd.sizeOf93
  v51 := Tryd.zeroValue93 }
/-- bits.Len32: "Len32 returns the minimum number of bits required to represent x; the result is 0 for x == 0.": IT RETURNS 'Lib.bitLen x'; the world is as it was. ('h0', 'h1': x is a uint32.) (LAID: no walk: one application.) -/
theorem Tryd.bits_Len32 (x : Int) (w : World) (h0 : 0 ≤ x) (h1 : x ≤ 4294967295) :
    Calls Tryd.prog 116 #[.int .u32 x] w fun e w' => e = .returned (.int .i64 (Lib.bitLen x.toNat)) ∧ w' = w := Any.bits_Len32 Tryd.lays128 x w h0 h1
def Tryd.lays125_ren : Go.Shelf.Ren := ⟨fun | 125 => 92 | 128 => 116 | 129 => 117 | n => n, fun | 46 => 106 | 3 => 3 | 51 => 93 | 53 => 118 | 4 => 4 | 5 => 5 | 9 => 9 | n => n, fun | n => n⟩
theorem Tryd.lays125 : Go.Proofs.Lays.n125 Tryd.prog Tryd.lays125_ren := {
  mixed := by kernel_rfl
  f125 := Tryd.func92.trans (congrArg some (by kernel_rfl))
  f128 := Tryd.func116.trans (congrArg some (by kernel_rfl))
  f129 := Tryd.func117.trans (congrArg some (by kernel_rfl))
  t3 := Tryd.underlying3
  a3 := Tryd.isAgg3
  z3 := Tryd.sizeOf3
  v3 := Tryd.zeroValue3
  t4 := Tryd.underlying4
  a4 := Tryd.isAgg4
  z4 := Tryd.sizeOf4
  v4 := Tryd.zeroValue4
  t5 := Tryd.underlying5
  a5 := Tryd.isAgg5
  z5 := Tryd.sizeOf5
  v5 := Tryd.zeroValue5
  t9 := Tryd.underlying9
  a9 := Tryd.isAgg9
  z9 := Tryd.sizeOf9
  v9 := Tryd.zeroValue9
  t46 := Tryd.underlying106
  a46 := Tryd.isAgg106
  z46 := Tryd.sizeOf106
  v46 := Tryd.zeroValue106
  t51 := Tryd.underlying93
  a51 := Tryd.isAgg93
  z51 := Tryd.sizeOf93
  v51 := Tryd.zeroValue93
  t53 := Tryd.underlying118
  a53 := Tryd.isAgg118
  z53 := Tryd.sizeOf118
  v53 := Tryd.zeroValue118 }
/-- bits.Len: "Len returns the minimum number of bits required to represent x; the result is 0 for x == 0.": IT RETURNS 'Lib.bitLen x'; the world is as it was. (A uint has 64 bits in the model.) ITS CALLEE bits.Len64 IS MET BY ITS OWN CONTRACT OFF THE SHELF (lay that first). (LAID: no walk: one application.) -/
theorem Tryd.bits_Len (x : Int) (w : World) (h0 : 0 ≤ x) (h1 : x ≤ 18446744073709551615) :
    Calls Tryd.prog 92 #[.int .u64 x] w fun e w' => e = .returned (.int .i64 (Lib.bitLen x.toNat)) ∧ w' = w := Any.bits_Len Tryd.lays125 x w h0 h1
open Go.RowKit in
/-- (*strings.Builder).String: "String returns the accumulated string.": OF A BUILDER THAT HOLDS AT LEAST ONE BYTE. ✋ THE MODEL FREEZES THOSE BYTES IN THE BUFFER (unsafe.String): a later write INTO them ends the model's run without an answer; a later append BEHIND them goes on. The statement's order of evaluation is drawn: one draw. THE FORM '_f': IT SAYS BESIDES THAT THE BUILDER IS A BUILDER STILL ('Lib.IsBuilderF', the same bytes): SO IT CAN BE WRITTEN ON: 'b.WriteString(b.String()[:k])'. (LAID: no walk: one application.) -/
theorem Tryd.Builder_String_f (B b : Nat) (l : List UInt8) (w : World) (h : Lib.IsBuilderF 82 5 B b (Lib.byteCells l) w) (h0 : l ≠ []) :
    Calls Tryd.prog 51 #[.pointer (some ⟨b, 0, none⟩)] w fun e w' => e = .returned (.string ⟨l.toArray⟩) ∧ (Lib.IsBuilderF 82 5 B b (Lib.byteCells l) w' ∧ Below B w w') := Any.Builder_String_f Tryd.lays169 Tryd.Builder_Extra_169 B b l w h h0
open Go.RowKit in
/-- (*strings.Builder).String OF A BUILDER THAT HOLDS NO BYTE: the empty string; THE FORM '_f': a builder still. (LAID: no walk: one application.) -/
theorem Tryd.Builder_String_empty_f (B b : Nat) (w : World) (h : Lib.IsBuilderF 82 5 B b [] w) (hBw : B ≤ w.heap.size) :
    Calls Tryd.prog 51 #[.pointer (some ⟨b, 0, none⟩)] w fun e w' => e = .returned (.string ⟨#[]⟩) ∧ (Lib.IsBuilderF 82 5 B b [] w' ∧ Below B w w') := Any.Builder_String_empty_f Tryd.lays169 Tryd.Builder_Extra_169 B b w h hBw
open Go.RowKit in
/-- (*strings.Builder).String: "String returns the accumulated string.": WHATEVER THE BUILDER HOLDS; THE FORM '_f': OF A BUILDER THAT MAY HAVE BEEN READ BEFORE; AND IT IS A BUILDER STILL, holding the same bytes: it can be written on. (LAID: no walk: one application.) -/
theorem Tryd.Builder_String_any_f (B b : Nat) (l : List UInt8) (w : World) (h : Lib.IsBuilderF 82 5 B b (Lib.byteCells l) w) (hBw : B ≤ w.heap.size) :
    Calls Tryd.prog 51 #[.pointer (some ⟨b, 0, none⟩)] w fun e w' => e = .returned (.string ⟨l.toArray⟩) ∧ (Lib.IsBuilderF 82 5 B b (Lib.byteCells l) w' ∧ Below B w w') := Any.Builder_String_any_f Tryd.lays169 Tryd.Builder_Extra_169 B b l w h hBw
open Go.RowKit in
/-- (*strings.Builder).String: "String returns the accumulated string.": OF A BUILDER THAT HOLDS AT LEAST ONE BYTE. ✋ THE MODEL FREEZES THOSE BYTES IN THE BUFFER (unsafe.String): a later write INTO them ends the model's run without an answer; a later append BEHIND them goes on. The statement's order of evaluation is drawn: one draw. THE FORM '_k': OVER 'Lib.IsBuilderF' (a builder that 'String()' may have read), AND WITH THE FRAME THAT REACHES ABOVE THE BUILDER: 'Lib.OthersKept': every block that is not b and is no row of uint8's stands as it stood: the iterator of a range among them. (LAID: no walk: one application.) -/
theorem Tryd.Builder_String_k (B b : Nat) (l : List UInt8) (w : World) (h : Lib.IsBuilderF 82 5 B b (Lib.byteCells l) w) (h0 : l ≠ []) :
    Calls Tryd.prog 51 #[.pointer (some ⟨b, 0, none⟩)] w fun e w' => e = .returned (.string ⟨l.toArray⟩) ∧ (Lib.IsBuilderF 82 5 B b (Lib.byteCells l) w' ∧ Below B w w' ∧ Lib.OthersKept 5 (some b) w w') := Any.Builder_String_k Tryd.lays169 Tryd.Builder_Extra_169 B b l w h h0
open Go.RowKit in
/-- (*strings.Builder).String OF A BUILDER THAT HOLDS NO BYTE: the empty string; THE FORM '_k': OVER 'Lib.IsBuilderF' (a builder that 'String()' may have read), AND WITH THE FRAME THAT REACHES ABOVE THE BUILDER: 'Lib.OthersKept': every block that is not b and is no row of uint8's stands as it stood: the iterator of a range among them. (LAID: no walk: one application.) -/
theorem Tryd.Builder_String_empty_k (B b : Nat) (w : World) (h : Lib.IsBuilderF 82 5 B b [] w) (hBw : B ≤ w.heap.size) :
    Calls Tryd.prog 51 #[.pointer (some ⟨b, 0, none⟩)] w fun e w' => e = .returned (.string ⟨#[]⟩) ∧ (Lib.IsBuilderF 82 5 B b [] w' ∧ Below B w w' ∧ Lib.OthersKept 5 (some b) w w') := Any.Builder_String_empty_k Tryd.lays169 Tryd.Builder_Extra_169 B b w h hBw
open Go.RowKit in
/-- (*strings.Builder).String: "String returns the accumulated string.": WHATEVER THE BUILDER HOLDS; THE FORM '_k': OVER 'Lib.IsBuilderF' (a builder that 'String()' may have read), AND WITH THE FRAME THAT REACHES ABOVE THE BUILDER: 'Lib.OthersKept': every block that is not b and is no row of uint8's stands as it stood: the iterator of a range among them. (LAID: no walk: one application.) -/
theorem Tryd.Builder_String_any_k (B b : Nat) (l : List UInt8) (w : World) (h : Lib.IsBuilderF 82 5 B b (Lib.byteCells l) w) (hBw : B ≤ w.heap.size) :
    Calls Tryd.prog 51 #[.pointer (some ⟨b, 0, none⟩)] w fun e w' => e = .returned (.string ⟨l.toArray⟩) ∧ (Lib.IsBuilderF 82 5 B b (Lib.byteCells l) w' ∧ Below B w w' ∧ Lib.OthersKept 5 (some b) w w') := Any.Builder_String_any_k Tryd.lays169 Tryd.Builder_Extra_169 B b l w h hBw
def Tryd.lays278_ren : Go.Shelf.Ren := ⟨fun | 278 => 62 | n => n, fun | 37 => 62 | 21 => 21 | 51 => 93 | 4 => 4 | 46 => 106 | 5 => 5 | n => n, fun | n => n⟩
theorem Tryd.lays278 : Go.Proofs.Lays.n278 Tryd.prog Tryd.lays278_ren := {
  mixed := by kernel_rfl
  f278 := Tryd.func62.trans (congrArg some (by kernel_rfl))
  t4 := Tryd.underlying4
  a4 := Tryd.isAgg4
  z4 := Tryd.sizeOf4
  v4 := Tryd.zeroValue4
  t5 := Tryd.underlying5
  a5 := Tryd.isAgg5
  z5 := Tryd.sizeOf5
  v5 := Tryd.zeroValue5
  t21 := Tryd.underlying21
  a21 := Tryd.isAgg21
  z21 := Tryd.sizeOf21
  v21 := Tryd.zeroValue21
  t37 := Tryd.underlying62
  a37 := Tryd.isAgg62
  z37 := Tryd.sizeOf62
  v37 := Tryd.zeroValue62
  t46 := Tryd.underlying106
  a46 := Tryd.isAgg106
  z46 := Tryd.sizeOf106
  v46 := Tryd.zeroValue106
  t51 := Tryd.underlying93
  a51 := Tryd.isAgg93
  z51 := Tryd.sizeOf93
  v51 := Tryd.zeroValue93 }
open Go.RowKit in
/-- unicode/utf8.appendRuneNonASCII (what AppendRune calls for all but ASCII), ONTO A ROW OF BYTES THAT THE CALL OWNS: every int32 that is no ASCII rune: 'Lib.runeCells r' goes in behind what the row holds. (LAID: no walk: one application.) -/
theorem Tryd.utf8_appendRuneNonASCII_row (B : Nat) (v : Value) (n : Nat) (xs : List Value) (r : Int) (hr0 : -2147483648 ≤ r) (hr1 : r ≤ 2147483647) (hna : r < 0 ∨ 128 ≤ r) (w : World) (hown : w.ownsRowF B 5 1 v n xs) (hlen : n + 4 ≤ 140737488355328) (hBw : B ≤ w.heap.size) :
    Calls Tryd.prog 62 #[v, .int .i32 r] w fun e w' => ∃ v', e = .returned v' ∧ w'.ownsRowF B 5 1 v' (n + (Lib.runeCells r).length) (xs ++ Lib.runeCells r) ∧ ∃ o, (w.alloc o).grownBy w' v.ownBlock := Any.utf8_appendRuneNonASCII_row Tryd.lays278 (by kernel_rfl) B v n xs r hr0 hr1 hna w hown hlen hBw
def Tryd.lays242_ren : Go.Shelf.Ren := ⟨fun | 242 => 43 | 278 => 62 | n => n, fun | 37 => 62 | 21 => 21 | 51 => 93 | 4 => 4 | 5 => 5 | 46 => 106 | n => n, fun | n => n⟩
theorem Tryd.lays242 : Go.Proofs.Lays.n242 Tryd.prog Tryd.lays242_ren := {
  mixed := by kernel_rfl
  f242 := Tryd.func43.trans (congrArg some (by kernel_rfl))
  f278 := Tryd.func62.trans (congrArg some (by kernel_rfl))
  t4 := Tryd.underlying4
  a4 := Tryd.isAgg4
  z4 := Tryd.sizeOf4
  v4 := Tryd.zeroValue4
  t5 := Tryd.underlying5
  a5 := Tryd.isAgg5
  z5 := Tryd.sizeOf5
  v5 := Tryd.zeroValue5
  t21 := Tryd.underlying21
  a21 := Tryd.isAgg21
  z21 := Tryd.sizeOf21
  v21 := Tryd.zeroValue21
  t37 := Tryd.underlying62
  a37 := Tryd.isAgg62
  z37 := Tryd.sizeOf62
  v37 := Tryd.zeroValue62
  t46 := Tryd.underlying106
  a46 := Tryd.isAgg106
  z46 := Tryd.sizeOf106
  v46 := Tryd.zeroValue106
  t51 := Tryd.underlying93
  a51 := Tryd.isAgg93
  z51 := Tryd.sizeOf93
  v51 := Tryd.zeroValue93 }
open Go.RowKit in
/-- unicode/utf8.AppendRune: "AppendRune appends the UTF-8 encoding of r to the end of p and returns the extended buffer. If the rune is out of range, it appends the encoding of RuneError.": ONTO A ROW OF BYTES THAT THE CALL OWNS (its head frozen or not): EVERY int32: 'Lib.runeCells r' goes in behind what the row holds; the world: one new block (the bytes as the call's variadic argument), then what 'append' does to the row. (LAID: no walk: one application.) -/
theorem Tryd.utf8_AppendRune_row (B : Nat) (v : Value) (n : Nat) (xs : List Value) (r : Int) (hr0 : -2147483648 ≤ r) (hr1 : r ≤ 2147483647) (w : World) (hown : w.ownsRowF B 5 1 v n xs) (hlen : n + 4 ≤ 140737488355328) (hBw : B ≤ w.heap.size) :
    Calls Tryd.prog 43 #[v, .int .i32 r] w fun e w' => ∃ v', e = .returned v' ∧ w'.ownsRowF B 5 1 v' (n + (Lib.runeCells r).length) (xs ++ Lib.runeCells r) ∧ ∃ o, (w.alloc o).grownBy w' v.ownBlock := Any.utf8_AppendRune_row Tryd.lays242 (by kernel_rfl) B v n xs r hr0 hr1 w hown hlen hBw
open Go.RowKit in
/-- unicode/utf8.appendRuneNonASCII (what AppendRune calls for all but ASCII), ONTO A ROW OF BYTES THAT THE CALL OWNS: every int32 that is no ASCII rune: 'Lib.runeCells r' goes in behind what the row holds. (LAID: no walk: one application.) -/
theorem Tryd.utf8_appendRuneNonASCII_plain (B : Nat) (v : Value) (n : Nat) (xs : List Value) (r : Int) (hr0 : -2147483648 ≤ r) (hr1 : r ≤ 2147483647) (hna : r < 0 ∨ 128 ≤ r) (w : World) (hown : w.ownsRow B 5 1 v n xs) (hlen : n + 4 ≤ 140737488355328) (hBw : B ≤ w.heap.size) :
    Calls Tryd.prog 62 #[v, .int .i32 r] w fun e w' => ∃ v', e = .returned v' ∧ w'.ownsRow B 5 1 v' (n + (Lib.runeCells r).length) (xs ++ Lib.runeCells r) ∧ ∃ o, (w.alloc o).grownBy w' v.ownBlock := Any.utf8_appendRuneNonASCII_plain Tryd.lays278 (by kernel_rfl) B v n xs r hr0 hr1 hna w hown hlen hBw
open Go.RowKit in
/-- unicode/utf8.AppendRune: "AppendRune appends the UTF-8 encoding of r to the end of p and returns the extended buffer. If the rune is out of range, it appends the encoding of RuneError.": ONTO A ROW OF BYTES THAT THE CALL OWNS (its head frozen or not): EVERY int32: 'Lib.runeCells r' goes in behind what the row holds; the world: one new block (the bytes as the call's variadic argument), then what 'append' does to the row. (LAID: no walk: one application.) -/
theorem Tryd.utf8_AppendRune_plain (B : Nat) (v : Value) (n : Nat) (xs : List Value) (r : Int) (hr0 : -2147483648 ≤ r) (hr1 : r ≤ 2147483647) (w : World) (hown : w.ownsRow B 5 1 v n xs) (hlen : n + 4 ≤ 140737488355328) (hBw : B ≤ w.heap.size) :
    Calls Tryd.prog 43 #[v, .int .i32 r] w fun e w' => ∃ v', e = .returned v' ∧ w'.ownsRow B 5 1 v' (n + (Lib.runeCells r).length) (xs ++ Lib.runeCells r) ∧ ∃ o, (w.alloc o).grownBy w' v.ownBlock := Any.utf8_AppendRune_plain Tryd.lays242 (by kernel_rfl) B v n xs r hr0 hr1 w hown hlen hBw
open Go.RowKit in
/-- (*strings.Builder).grow (no doc but "grow copies the buffer to a new, larger buffer so that there are at least n bytes of capacity beyond len(b.buf)."): AT A BUILDER WITHOUT A BUFFER: a new row of whatever bytes for its buffer, none of them its own yet. Three draws. (LAID: no walk: one application.) -/
theorem Tryd.Builder_grow_fresh_cap (B b n : Nat) (w : World) (hB : B ≤ b) (hbk : w.heap[b]? = some (.cells #[.pointer (some ⟨b, 0, none⟩), .slice none 0 0] 82 (0, 0))) (hBw : B ≤ w.heap.size) (hn : n ≤ 281474976710656) :
    Calls Tryd.prog 75 #[.pointer (some ⟨b, 0, none⟩), .int .i64 n] w fun e w' => e = .returned (.tuple #[]) ∧ (Lib.BuilderAt 82 5 B b (.pointer (some ⟨b, 0, none⟩)) [] w' ∧ Below B w w') ∧ ∃ p cap, w'.cell? ⟨b, 1, none⟩ = some (.slice p 0 cap) ∧ n ≤ cap := Any.Builder_grow_fresh_cap Tryd.lays241 Tryd.Builder_Extra_241 B b n w hB hbk hBw hn
open Go.RowKit in
/-- (*strings.Builder).Grow AT A BUILDER THAT HAS NOT BEEN WRITTEN ('var b strings.Builder; b.Grow(n)'): "Grow grows b's capacity, if necessary, to guarantee space for another n bytes.": it holds no byte behind it as before it. (LAID: no walk: one application.) -/
theorem Tryd.Builder_Grow_fresh_cap (B b n : Nat) (w : World) (hB : B ≤ b) (hbk : w.heap[b]? = some (.cells #[.pointer none, .slice none 0 0] 82 (0, 0))) (hBw : B ≤ w.heap.size) (hn : n ≤ 281474976710656) :
    Calls Tryd.prog 54 #[.pointer (some ⟨b, 0, none⟩), .int .i64 n] w fun e w' => e = .returned (.tuple #[]) ∧ (Lib.BuilderAt 82 5 B b (.pointer (some ⟨b, 0, none⟩)) [] w' ∧ Below B w w') ∧ ∃ p cap, w'.cell? ⟨b, 1, none⟩ = some (.slice p 0 cap) ∧ n ≤ cap := Any.Builder_Grow_fresh_cap Tryd.lays165 Tryd.Builder_Extra_165 B b n w hB hbk hBw hn
def Tryd.lays129_ren : Go.Shelf.Ren := ⟨fun | 129 => 117 | n => n, fun | 53 => 118 | 3 => 3 | 4 => 4 | 46 => 106 | 5 => 5 | 9 => 9 | n => n, fun | n => n⟩
theorem Tryd.lays129 : Go.Proofs.Lays.n129 Tryd.prog Tryd.lays129_ren := {
  mixed := by kernel_rfl
  f129 := Tryd.func117.trans (congrArg some (by kernel_rfl))
  t3 := Tryd.underlying3
  a3 := Tryd.isAgg3
  z3 := Tryd.sizeOf3
  v3 := Tryd.zeroValue3
  t4 := Tryd.underlying4
  a4 := Tryd.isAgg4
  z4 := Tryd.sizeOf4
  v4 := Tryd.zeroValue4
  t5 := Tryd.underlying5
  a5 := Tryd.isAgg5
  z5 := Tryd.sizeOf5
  v5 := Tryd.zeroValue5
  t9 := Tryd.underlying9
  a9 := Tryd.isAgg9
  z9 := Tryd.sizeOf9
  v9 := Tryd.zeroValue9
  t46 := Tryd.underlying106
  a46 := Tryd.isAgg106
  z46 := Tryd.sizeOf106
  v46 := Tryd.zeroValue106
  t53 := Tryd.underlying118
  a53 := Tryd.isAgg118
  z53 := Tryd.sizeOf118
  v53 := Tryd.zeroValue118 }
/-- bits.Len64: "Len64 returns the minimum number of bits required to represent x; the result is 0 for x == 0.": IT RETURNS 'Lib.bitLen x'; the world is as it was. ('h0', 'h1': x is a uint64.) (LAID: no walk: one application.) -/
theorem Tryd.bits_Len64 (x : Int) (w : World) (h0 : 0 ≤ x) (h1 : x ≤ 18446744073709551615) :
    Calls Tryd.prog 117 #[.int .u64 x] w fun e w' => e = .returned (.int .i64 (Lib.bitLen x.toNat)) ∧ w' = w := Any.bits_Len64 Tryd.lays129 x w h0 h1
def Tryd.lays317_ren : Go.Shelf.Ren := ⟨fun | 317 => 135 | n => n, fun | 3 => 3 | 46 => 106 | n => n, fun | n => n⟩
theorem Tryd.lays317 : Go.Proofs.Lays.n317 Tryd.prog Tryd.lays317_ren := {
  mixed := by kernel_rfl
  f317 := Tryd.func135.trans (congrArg some (by kernel_rfl))
  t3 := Tryd.underlying3
  a3 := Tryd.isAgg3
  z3 := Tryd.sizeOf3
  v3 := Tryd.zeroValue3
  t46 := Tryd.underlying106
  a46 := Tryd.isAgg106
  z46 := Tryd.sizeOf106
  v46 := Tryd.zeroValue106 }
open Go.Lib in
/-- internal/strconv.log10Pow2: "log10Pow2(x) returns ⌊log₁₀ 2**x⌋ = ⌊x * log₁₀ 2⌋.": '(x * 78913) >> 18', at an x up to 64 (a length in bits). The world is as it was. (LAID: no walk: one application.) -/
theorem Tryd.internal_strconv_log10Pow2 (x : Nat) (h : x ≤ 64) (w : World) :
    Calls Tryd.prog 135 #[.int .i64 x] w fun e w' => e = .returned (.int .i64 (Lib.l10 x)) ∧ w' = w := Any.internal_strconv_log10Pow2 Tryd.lays317 x h w
def Tryd.lays318_ren : Go.Shelf.Ren := ⟨fun | 318 => 136 | n => n, fun | 3 => 3 | 4 => 4 | n => n, fun | n => n⟩
theorem Tryd.lays318 : Go.Proofs.Lays.n318 Tryd.prog Tryd.lays318_ren := {
  mixed := by kernel_rfl
  f318 := Tryd.func136.trans (congrArg some (by kernel_rfl))
  t3 := Tryd.underlying3
  a3 := Tryd.isAgg3
  z3 := Tryd.sizeOf3
  v3 := Tryd.zeroValue3
  t4 := Tryd.underlying4
  a4 := Tryd.isAgg4
  z4 := Tryd.sizeOf4
  v4 := Tryd.zeroValue4 }
open Go.Lib in
/-- internal/strconv.bool2: "bool2 converts b to an integer: 1 for true, 0 for false." The world is as it was. (LAID: no walk: one application.) -/
theorem Tryd.internal_strconv_bool2_int (b : Bool) (w : World) :
    Calls Tryd.prog 136 #[.bool b] w fun e w' => e = .returned (.int .i64 (if b then 1 else 0)) ∧ w' = w := Any.internal_strconv_bool2_int Tryd.lays318 b w
def Tryd.lays283_ren : Go.Shelf.Ren := ⟨fun | 283 => 118 | n => n, fun | 3 => 3 | 9 => 9 | 4 => 4 | n => n, fun | n => n⟩
theorem Tryd.lays283 : Go.Proofs.Lays.n283 Tryd.prog Tryd.lays283_ren := {
  mixed := by kernel_rfl
  f283 := Tryd.func118.trans (congrArg some (by kernel_rfl))
  t3 := Tryd.underlying3
  a3 := Tryd.isAgg3
  z3 := Tryd.sizeOf3
  v3 := Tryd.zeroValue3
  t4 := Tryd.underlying4
  a4 := Tryd.isAgg4
  z4 := Tryd.sizeOf4
  v4 := Tryd.zeroValue4
  t9 := Tryd.underlying9
  a9 := Tryd.isAgg9
  z9 := Tryd.sizeOf9
  v9 := Tryd.zeroValue9 }
open Go.Lib in
/-- internal/strconv.small: "small returns the string for an i with 0 <= i < nSmalls.": i's decimal numeral. The world is as it was. (LAID: no walk: one application.) -/
theorem Tryd.internal_strconv_small (i : Nat) (h : i < 100) (w : World) :
    Calls Tryd.prog 118 #[.int .i64 i] w fun e w' => e = .returned (.string ⟨(Lib.decDigits i).toArray⟩) ∧ w' = w := Any.internal_strconv_small Tryd.lays283 i h w
def Tryd.laysM284_ren : Go.Shelf.Ren := ⟨fun | 284 => 119 | 129 => 117 | 317 => 135 | 318 => 136 | n => n, fun | 53 => 118 | 3 => 3 | 212 => 178 | 0 => 0 | 4 => 4 | 46 => 106 | 5 => 5 | 9 => 9 | n => n, fun | 17 => 9 | n => n⟩
theorem Tryd.laysM284 : Go.Proofs.LaysM.n284 Tryd.prog Tryd.laysM284_ren := {
  mixed := by kernel_rfl
  f129 := Tryd.func117.trans (congrArg some (by kernel_rfl))
  f284 := Tryd.func119.trans (congrArg some (by kernel_rfl))
  f317 := Tryd.func135.trans (congrArg some (by kernel_rfl))
  f318 := Tryd.func136.trans (congrArg some (by kernel_rfl))
  t0 := Tryd.underlying0
  a0 := Tryd.isAgg0
  z0 := Tryd.sizeOf0
  v0 := Tryd.zeroValue0
  t3 := Tryd.underlying3
  a3 := Tryd.isAgg3
  z3 := Tryd.sizeOf3
  v3 := Tryd.zeroValue3
  t4 := Tryd.underlying4
  a4 := Tryd.isAgg4
  z4 := Tryd.sizeOf4
  v4 := Tryd.zeroValue4
  t5 := Tryd.underlying5
  a5 := Tryd.isAgg5
  z5 := Tryd.sizeOf5
  v5 := Tryd.zeroValue5
  t9 := Tryd.underlying9
  a9 := Tryd.isAgg9
  z9 := Tryd.sizeOf9
  v9 := Tryd.zeroValue9
  t46 := Tryd.underlying106
  a46 := Tryd.isAgg106
  z46 := Tryd.sizeOf106
  v46 := Tryd.zeroValue106
  t53 := Tryd.underlying118
  a53 := Tryd.isAgg118
  z53 := Tryd.sizeOf118
  v53 := Tryd.zeroValue118
  t212 := Tryd.underlying178
  a212 := Tryd.isAgg178
  z212 := Tryd.sizeOf178
  v212 := Tryd.zeroValue178
  g17 := by kernel_rfl
  i0 := by kernel_rfl
  i3 := by kernel_rfl
  i4 := by kernel_rfl
  i5 := by kernel_rfl
  i9 := by kernel_rfl
  i46 := by kernel_rfl
  i53 := by kernel_rfl
  i212 := by kernel_rfl
  m17 := by kernel_rfl }
open Go.Lib in
/-- internal/strconv.numDigits, at a d that is not 0: THE NUMBER OF d's DECIMAL DIGITS. The world is as it was. (LAID: no walk: one application.) -/
theorem Tryd.internal_strconv_numDigits (u : Nat) (h1 : 1 ≤ u) (h2 : u < 18446744073709551616) (w : World) (htab : Lib.TabIs Tryd.prog w "internal/strconv.uint64pow10" .u64 Lib.pow10Tab) :
    Calls Tryd.prog 119 #[.int .u64 u] w fun e w' => e = .returned (.int .i64 (Lib.nDigits u)) ∧ w' = w := Any.internal_strconv_numDigits Tryd.laysM284 u h1 h2 w htab
def Tryd.lays285_ren : Go.Shelf.Ren := ⟨fun | 285 => 120 | n => n, fun | 37 => 62 | 53 => 118 | 3 => 3 | 4 => 4 | 51 => 93 | 9 => 9 | 5 => 5 | 0 => 0 | n => n, fun | n => n⟩
theorem Tryd.lays285 : Go.Proofs.Lays.n285 Tryd.prog Tryd.lays285_ren := {
  mixed := by kernel_rfl
  f285 := Tryd.func120.trans (congrArg some (by kernel_rfl))
  t0 := Tryd.underlying0
  a0 := Tryd.isAgg0
  z0 := Tryd.sizeOf0
  v0 := Tryd.zeroValue0
  t3 := Tryd.underlying3
  a3 := Tryd.isAgg3
  z3 := Tryd.sizeOf3
  v3 := Tryd.zeroValue3
  t4 := Tryd.underlying4
  a4 := Tryd.isAgg4
  z4 := Tryd.sizeOf4
  v4 := Tryd.zeroValue4
  t5 := Tryd.underlying5
  a5 := Tryd.isAgg5
  z5 := Tryd.sizeOf5
  v5 := Tryd.zeroValue5
  t9 := Tryd.underlying9
  a9 := Tryd.isAgg9
  z9 := Tryd.sizeOf9
  v9 := Tryd.zeroValue9
  t37 := Tryd.underlying62
  a37 := Tryd.isAgg62
  z37 := Tryd.sizeOf62
  v37 := Tryd.zeroValue62
  t51 := Tryd.underlying93
  a51 := Tryd.isAgg93
  z51 := Tryd.sizeOf93
  v51 := Tryd.zeroValue93
  t53 := Tryd.underlying118
  a53 := Tryd.isAgg118
  z53 := Tryd.sizeOf118
  v53 := Tryd.zeroValue118 }
open Go.RowKit Go.Sort Go.Lib in
/-- internal/strconv.formatBase10: "formatBase10 formats the decimal representation of u into a. The caller is responsible for ensuring that a is big enough to hold u. If a is too big, leading zeros will be filled in as needed.": THE ROW HOLDS u's DIGITS ('FmtInv .. 0 ..': every place t holds 'dg u (len - 1 - t)'); all else is as it was but for the count of draws. (LAID: no walk: one application.) -/
theorem Tryd.internal_strconv_formatBase10 (blk off cap : Nat) (u : Nat) (d : Array UInt8) (w : World) (hH : Holds (fun (b : UInt8) => Value.int .u8 (b.toNat : Int)) w blk off d) (hu : u < 10 ^ d.size) (hu64 : u < 18446744073709551616) (hsz : d.size < 4611686018427387904) :
    Calls Tryd.prog 120 #[.slice (some ⟨blk, off, none⟩) d.size cap, .int .u64 u] w fun e w' =>
      e = .returned (.tuple #[]) ∧ ∃ (n v' : Nat) (dk : Array UInt8), w' = (putRow (fun (b : UInt8) => Value.int .u8 (b.toNat : Int)) w blk off dk).drewN n ∧ FmtInv d.size u 0 v' dk := Any.internal_strconv_formatBase10 Tryd.lays285 blk off cap u d w hH hu hu64 hsz
def Tryd.laysM246_ren : Go.Shelf.Ren := ⟨fun | 246 => 95 | 283 => 118 | 284 => 119 | 285 => 120 | 286 => 121 | 129 => 117 | 317 => 135 | 318 => 136 | 319 => 137 | 320 => 138 | 337 => 144 | 338 => 145 | n => n, fun | 2 => 2 | 3 => 3 | 9 => 9 | 4 => 4 | 171 => 145 | 0 => 0 | 53 => 118 | 37 => 62 | 5 => 5 | 173 => 147 | 212 => 178 | 51 => 93 | 20 => 20 | 213 => 179 | 46 => 106 | 232 => 191 | 233 => 144 | n => n, fun | 17 => 9 | 18 => 10 | 19 => 11 | n => n⟩
theorem Tryd.laysM246 : Go.Proofs.LaysM.n246 Tryd.prog Tryd.laysM246_ren := {
  mixed := by kernel_rfl
  f129 := Tryd.func117.trans (congrArg some (by kernel_rfl))
  f246 := Tryd.func95.trans (congrArg some (by kernel_rfl))
  f283 := Tryd.func118.trans (congrArg some (by kernel_rfl))
  f284 := Tryd.func119.trans (congrArg some (by kernel_rfl))
  f285 := Tryd.func120.trans (congrArg some (by kernel_rfl))
  f286 := Tryd.func121.trans (congrArg some (by kernel_rfl))
  f317 := Tryd.func135.trans (congrArg some (by kernel_rfl))
  f318 := Tryd.func136.trans (congrArg some (by kernel_rfl))
  f319 := Tryd.func137.trans (congrArg some (by kernel_rfl))
  f320 := Tryd.func138.trans (congrArg some (by kernel_rfl))
  f337 := Tryd.func144.trans (congrArg some (by kernel_rfl))
  f338 := Tryd.func145.trans (congrArg some (by kernel_rfl))
  t0 := Tryd.underlying0
  a0 := Tryd.isAgg0
  z0 := Tryd.sizeOf0
  v0 := Tryd.zeroValue0
  t2 := Tryd.underlying2
  a2 := Tryd.isAgg2
  z2 := Tryd.sizeOf2
  v2 := Tryd.zeroValue2
  t3 := Tryd.underlying3
  a3 := Tryd.isAgg3
  z3 := Tryd.sizeOf3
  v3 := Tryd.zeroValue3
  t4 := Tryd.underlying4
  a4 := Tryd.isAgg4
  z4 := Tryd.sizeOf4
  v4 := Tryd.zeroValue4
  t5 := Tryd.underlying5
  a5 := Tryd.isAgg5
  z5 := Tryd.sizeOf5
  v5 := Tryd.zeroValue5
  t9 := Tryd.underlying9
  a9 := Tryd.isAgg9
  z9 := Tryd.sizeOf9
  v9 := Tryd.zeroValue9
  t20 := Tryd.underlying20
  a20 := Tryd.isAgg20
  z20 := Tryd.sizeOf20
  v20 := Tryd.zeroValue20
  t37 := Tryd.underlying62
  a37 := Tryd.isAgg62
  z37 := Tryd.sizeOf62
  v37 := Tryd.zeroValue62
  t46 := Tryd.underlying106
  a46 := Tryd.isAgg106
  z46 := Tryd.sizeOf106
  v46 := Tryd.zeroValue106
  t51 := Tryd.underlying93
  a51 := Tryd.isAgg93
  z51 := Tryd.sizeOf93
  v51 := Tryd.zeroValue93
  t53 := Tryd.underlying118
  a53 := Tryd.isAgg118
  z53 := Tryd.sizeOf118
  v53 := Tryd.zeroValue118
  t171 := Tryd.underlying145
  a171 := Tryd.isAgg145
  z171 := Tryd.sizeOf145
  v171 := Tryd.zeroValue145
  t173 := Tryd.underlying147
  a173 := Tryd.isAgg147
  z173 := Tryd.sizeOf147
  v173 := Tryd.zeroValue147
  t212 := Tryd.underlying178
  a212 := Tryd.isAgg178
  z212 := Tryd.sizeOf178
  v212 := Tryd.zeroValue178
  t213 := Tryd.underlying179
  a213 := Tryd.isAgg179
  z213 := Tryd.sizeOf179
  t232 := Tryd.underlying191
  a232 := Tryd.isAgg191
  z232 := Tryd.sizeOf191
  v232 := Tryd.zeroValue191
  t233 := Tryd.underlying144
  a233 := Tryd.isAgg144
  z233 := Tryd.sizeOf144
  v233 := Tryd.zeroValue144
  g17 := by kernel_rfl
  g18 := by kernel_rfl
  g19 := by kernel_rfl
  i0 := by kernel_rfl
  i2 := by kernel_rfl
  i3 := by kernel_rfl
  i4 := by kernel_rfl
  i5 := by kernel_rfl
  i9 := by kernel_rfl
  i20 := by kernel_rfl
  i37 := by kernel_rfl
  i46 := by kernel_rfl
  i51 := by kernel_rfl
  i53 := by kernel_rfl
  i171 := by kernel_rfl
  i173 := by kernel_rfl
  i212 := by kernel_rfl
  i232 := by kernel_rfl
  i233 := by kernel_rfl
  m17 := by kernel_rfl
  m18 := by kernel_rfl
  m19 := by kernel_rfl }
open Go.RowKit Go.Sort Go.Lib in
/-- internal/strconv.FormatInt: "FormatInt returns the string representation of i in the given base": AT BASE 10: i's decimal numeral, for every int64. The world behind the call: the world before it, new blocks behind the heap, draws. (LAID: no walk: one application.) -/
theorem Tryd.internal_strconv_FormatInt_10 (n : Int) (h0 : -9223372036854775808 ≤ n) (h1 : n ≤ 9223372036854775807) (w : World) (htab : Lib.TabIs Tryd.prog w "internal/strconv.uint64pow10" .u64 Lib.pow10Tab) :
    Calls Tryd.prog 95 #[.int .i64 n, .int .i64 10] w fun e w' => e = .returned (.string ⟨(Lib.itoa n).toArray⟩) ∧ ∃ k os, w' = grow (w.drewN k) os := Any.internal_strconv_FormatInt_10 Tryd.laysM246 n h0 h1 w htab
def Tryd.lays246_ren : Go.Shelf.Ren := ⟨fun | 246 => 95 | 283 => 118 | 284 => 119 | 285 => 120 | 286 => 121 | 129 => 117 | 317 => 135 | 318 => 136 | 319 => 137 | 320 => 138 | 337 => 144 | 338 => 145 | n => n, fun | 2 => 2 | 3 => 3 | 9 => 9 | 4 => 4 | 171 => 145 | 0 => 0 | 53 => 118 | 37 => 62 | 5 => 5 | 173 => 147 | 212 => 178 | 51 => 93 | 20 => 20 | 213 => 179 | 46 => 106 | 232 => 191 | 233 => 144 | n => n, fun | 17 => 9 | 18 => 10 | 19 => 11 | n => n⟩
theorem Tryd.lays246 : Go.Proofs.Lays.n246 Tryd.prog Tryd.lays246_ren := {
  mixed := by kernel_rfl
  f129 := Tryd.func117.trans (congrArg some (by kernel_rfl))
  f246 := Tryd.func95.trans (congrArg some (by kernel_rfl))
  f283 := Tryd.func118.trans (congrArg some (by kernel_rfl))
  f284 := Tryd.func119.trans (congrArg some (by kernel_rfl))
  f285 := Tryd.func120.trans (congrArg some (by kernel_rfl))
  f286 := Tryd.func121.trans (congrArg some (by kernel_rfl))
  f317 := Tryd.func135.trans (congrArg some (by kernel_rfl))
  f318 := Tryd.func136.trans (congrArg some (by kernel_rfl))
  f319 := Tryd.func137.trans (congrArg some (by kernel_rfl))
  f320 := Tryd.func138.trans (congrArg some (by kernel_rfl))
  f337 := Tryd.func144.trans (congrArg some (by kernel_rfl))
  f338 := Tryd.func145.trans (congrArg some (by kernel_rfl))
  t0 := Tryd.underlying0
  a0 := Tryd.isAgg0
  z0 := Tryd.sizeOf0
  v0 := Tryd.zeroValue0
  t2 := Tryd.underlying2
  a2 := Tryd.isAgg2
  z2 := Tryd.sizeOf2
  v2 := Tryd.zeroValue2
  t3 := Tryd.underlying3
  a3 := Tryd.isAgg3
  z3 := Tryd.sizeOf3
  v3 := Tryd.zeroValue3
  t4 := Tryd.underlying4
  a4 := Tryd.isAgg4
  z4 := Tryd.sizeOf4
  v4 := Tryd.zeroValue4
  t5 := Tryd.underlying5
  a5 := Tryd.isAgg5
  z5 := Tryd.sizeOf5
  v5 := Tryd.zeroValue5
  t9 := Tryd.underlying9
  a9 := Tryd.isAgg9
  z9 := Tryd.sizeOf9
  v9 := Tryd.zeroValue9
  t20 := Tryd.underlying20
  a20 := Tryd.isAgg20
  z20 := Tryd.sizeOf20
  v20 := Tryd.zeroValue20
  t37 := Tryd.underlying62
  a37 := Tryd.isAgg62
  z37 := Tryd.sizeOf62
  v37 := Tryd.zeroValue62
  t46 := Tryd.underlying106
  a46 := Tryd.isAgg106
  z46 := Tryd.sizeOf106
  v46 := Tryd.zeroValue106
  t51 := Tryd.underlying93
  a51 := Tryd.isAgg93
  z51 := Tryd.sizeOf93
  v51 := Tryd.zeroValue93
  t53 := Tryd.underlying118
  a53 := Tryd.isAgg118
  z53 := Tryd.sizeOf118
  v53 := Tryd.zeroValue118
  t171 := Tryd.underlying145
  a171 := Tryd.isAgg145
  z171 := Tryd.sizeOf145
  v171 := Tryd.zeroValue145
  t173 := Tryd.underlying147
  a173 := Tryd.isAgg147
  z173 := Tryd.sizeOf147
  v173 := Tryd.zeroValue147
  t212 := Tryd.underlying178
  a212 := Tryd.isAgg178
  z212 := Tryd.sizeOf178
  v212 := Tryd.zeroValue178
  t213 := Tryd.underlying179
  a213 := Tryd.isAgg179
  z213 := Tryd.sizeOf179
  t232 := Tryd.underlying191
  a232 := Tryd.isAgg191
  z232 := Tryd.sizeOf191
  v232 := Tryd.zeroValue191
  t233 := Tryd.underlying144
  a233 := Tryd.isAgg144
  z233 := Tryd.sizeOf144
  v233 := Tryd.zeroValue144
  g17 := by kernel_rfl
  g18 := by kernel_rfl
  g19 := by kernel_rfl }
open Go.RowKit Go.Sort Go.Lib in
/-- THE ROAD WITHOUT THE TABLE: 0 <= i < 100: two constants are read, nothing is laid: no premise on the world, and the world is as it was. (LAID: no walk: one application.) -/
theorem Tryd.internal_strconv_FormatInt_10_small (i : Nat) (hi : i < 100) (w : World) :
    Calls Tryd.prog 95 #[.int .i64 i, .int .i64 10] w fun e w' => e = .returned (.string ⟨(Lib.decDigits i).toArray⟩) ∧ w' = w := Any.internal_strconv_FormatInt_10_small Tryd.lays246 i hi w
def Tryd.laysM243_ren : Go.Shelf.Ren := ⟨fun | 243 => 74 | 246 => 95 | 283 => 118 | 284 => 119 | 285 => 120 | 286 => 121 | 129 => 117 | 317 => 135 | 318 => 136 | 319 => 137 | 320 => 138 | 337 => 144 | 338 => 145 | n => n, fun | 3 => 3 | 9 => 9 | 2 => 2 | 4 => 4 | 171 => 145 | 0 => 0 | 53 => 118 | 37 => 62 | 5 => 5 | 173 => 147 | 212 => 178 | 51 => 93 | 20 => 20 | 213 => 179 | 46 => 106 | 232 => 191 | 233 => 144 | n => n, fun | 17 => 9 | 18 => 10 | 19 => 11 | n => n⟩
theorem Tryd.laysM243 : Go.Proofs.LaysM.n243 Tryd.prog Tryd.laysM243_ren := {
  mixed := by kernel_rfl
  f129 := Tryd.func117.trans (congrArg some (by kernel_rfl))
  f243 := Tryd.func74.trans (congrArg some (by kernel_rfl))
  f246 := Tryd.func95.trans (congrArg some (by kernel_rfl))
  f283 := Tryd.func118.trans (congrArg some (by kernel_rfl))
  f284 := Tryd.func119.trans (congrArg some (by kernel_rfl))
  f285 := Tryd.func120.trans (congrArg some (by kernel_rfl))
  f286 := Tryd.func121.trans (congrArg some (by kernel_rfl))
  f317 := Tryd.func135.trans (congrArg some (by kernel_rfl))
  f318 := Tryd.func136.trans (congrArg some (by kernel_rfl))
  f319 := Tryd.func137.trans (congrArg some (by kernel_rfl))
  f320 := Tryd.func138.trans (congrArg some (by kernel_rfl))
  f337 := Tryd.func144.trans (congrArg some (by kernel_rfl))
  f338 := Tryd.func145.trans (congrArg some (by kernel_rfl))
  t0 := Tryd.underlying0
  a0 := Tryd.isAgg0
  z0 := Tryd.sizeOf0
  v0 := Tryd.zeroValue0
  t2 := Tryd.underlying2
  a2 := Tryd.isAgg2
  z2 := Tryd.sizeOf2
  v2 := Tryd.zeroValue2
  t3 := Tryd.underlying3
  a3 := Tryd.isAgg3
  z3 := Tryd.sizeOf3
  v3 := Tryd.zeroValue3
  t4 := Tryd.underlying4
  a4 := Tryd.isAgg4
  z4 := Tryd.sizeOf4
  v4 := Tryd.zeroValue4
  t5 := Tryd.underlying5
  a5 := Tryd.isAgg5
  z5 := Tryd.sizeOf5
  v5 := Tryd.zeroValue5
  t9 := Tryd.underlying9
  a9 := Tryd.isAgg9
  z9 := Tryd.sizeOf9
  v9 := Tryd.zeroValue9
  t20 := Tryd.underlying20
  a20 := Tryd.isAgg20
  z20 := Tryd.sizeOf20
  v20 := Tryd.zeroValue20
  t37 := Tryd.underlying62
  a37 := Tryd.isAgg62
  z37 := Tryd.sizeOf62
  v37 := Tryd.zeroValue62
  t46 := Tryd.underlying106
  a46 := Tryd.isAgg106
  z46 := Tryd.sizeOf106
  v46 := Tryd.zeroValue106
  t51 := Tryd.underlying93
  a51 := Tryd.isAgg93
  z51 := Tryd.sizeOf93
  v51 := Tryd.zeroValue93
  t53 := Tryd.underlying118
  a53 := Tryd.isAgg118
  z53 := Tryd.sizeOf118
  v53 := Tryd.zeroValue118
  t171 := Tryd.underlying145
  a171 := Tryd.isAgg145
  z171 := Tryd.sizeOf145
  v171 := Tryd.zeroValue145
  t173 := Tryd.underlying147
  a173 := Tryd.isAgg147
  z173 := Tryd.sizeOf147
  v173 := Tryd.zeroValue147
  t212 := Tryd.underlying178
  a212 := Tryd.isAgg178
  z212 := Tryd.sizeOf178
  v212 := Tryd.zeroValue178
  t213 := Tryd.underlying179
  a213 := Tryd.isAgg179
  z213 := Tryd.sizeOf179
  t232 := Tryd.underlying191
  a232 := Tryd.isAgg191
  z232 := Tryd.sizeOf191
  v232 := Tryd.zeroValue191
  t233 := Tryd.underlying144
  a233 := Tryd.isAgg144
  z233 := Tryd.sizeOf144
  v233 := Tryd.zeroValue144
  g17 := by kernel_rfl
  g18 := by kernel_rfl
  g19 := by kernel_rfl
  i0 := by kernel_rfl
  i2 := by kernel_rfl
  i3 := by kernel_rfl
  i4 := by kernel_rfl
  i5 := by kernel_rfl
  i9 := by kernel_rfl
  i20 := by kernel_rfl
  i37 := by kernel_rfl
  i46 := by kernel_rfl
  i51 := by kernel_rfl
  i53 := by kernel_rfl
  i171 := by kernel_rfl
  i173 := by kernel_rfl
  i212 := by kernel_rfl
  i232 := by kernel_rfl
  i233 := by kernel_rfl
  m17 := by kernel_rfl
  m18 := by kernel_rfl
  m19 := by kernel_rfl }
open Go.RowKit Go.Sort Go.Lib in
/-- internal/strconv.Itoa: "Itoa is equivalent to FormatInt(int64(i), 10).": i's decimal numeral, for every int. (LAID: no walk: one application.) -/
theorem Tryd.internal_strconv_Itoa (n : Int) (h0 : -9223372036854775808 ≤ n) (h1 : n ≤ 9223372036854775807) (w : World) (htab : Lib.TabIs Tryd.prog w "internal/strconv.uint64pow10" .u64 Lib.pow10Tab) :
    Calls Tryd.prog 74 #[.int .i64 n] w fun e w' => e = .returned (.string ⟨(Lib.itoa n).toArray⟩) ∧ ∃ k os, w' = grow (w.drewN k) os := Any.internal_strconv_Itoa Tryd.laysM243 n h0 h1 w htab
def Tryd.lays243_ren : Go.Shelf.Ren := ⟨fun | 243 => 74 | 246 => 95 | 283 => 118 | 284 => 119 | 285 => 120 | 286 => 121 | 129 => 117 | 317 => 135 | 318 => 136 | 319 => 137 | 320 => 138 | 337 => 144 | 338 => 145 | n => n, fun | 3 => 3 | 9 => 9 | 2 => 2 | 4 => 4 | 171 => 145 | 0 => 0 | 53 => 118 | 37 => 62 | 5 => 5 | 173 => 147 | 212 => 178 | 51 => 93 | 20 => 20 | 213 => 179 | 46 => 106 | 232 => 191 | 233 => 144 | n => n, fun | 17 => 9 | 18 => 10 | 19 => 11 | n => n⟩
theorem Tryd.lays243 : Go.Proofs.Lays.n243 Tryd.prog Tryd.lays243_ren := {
  mixed := by kernel_rfl
  f129 := Tryd.func117.trans (congrArg some (by kernel_rfl))
  f243 := Tryd.func74.trans (congrArg some (by kernel_rfl))
  f246 := Tryd.func95.trans (congrArg some (by kernel_rfl))
  f283 := Tryd.func118.trans (congrArg some (by kernel_rfl))
  f284 := Tryd.func119.trans (congrArg some (by kernel_rfl))
  f285 := Tryd.func120.trans (congrArg some (by kernel_rfl))
  f286 := Tryd.func121.trans (congrArg some (by kernel_rfl))
  f317 := Tryd.func135.trans (congrArg some (by kernel_rfl))
  f318 := Tryd.func136.trans (congrArg some (by kernel_rfl))
  f319 := Tryd.func137.trans (congrArg some (by kernel_rfl))
  f320 := Tryd.func138.trans (congrArg some (by kernel_rfl))
  f337 := Tryd.func144.trans (congrArg some (by kernel_rfl))
  f338 := Tryd.func145.trans (congrArg some (by kernel_rfl))
  t0 := Tryd.underlying0
  a0 := Tryd.isAgg0
  z0 := Tryd.sizeOf0
  v0 := Tryd.zeroValue0
  t2 := Tryd.underlying2
  a2 := Tryd.isAgg2
  z2 := Tryd.sizeOf2
  v2 := Tryd.zeroValue2
  t3 := Tryd.underlying3
  a3 := Tryd.isAgg3
  z3 := Tryd.sizeOf3
  v3 := Tryd.zeroValue3
  t4 := Tryd.underlying4
  a4 := Tryd.isAgg4
  z4 := Tryd.sizeOf4
  v4 := Tryd.zeroValue4
  t5 := Tryd.underlying5
  a5 := Tryd.isAgg5
  z5 := Tryd.sizeOf5
  v5 := Tryd.zeroValue5
  t9 := Tryd.underlying9
  a9 := Tryd.isAgg9
  z9 := Tryd.sizeOf9
  v9 := Tryd.zeroValue9
  t20 := Tryd.underlying20
  a20 := Tryd.isAgg20
  z20 := Tryd.sizeOf20
  v20 := Tryd.zeroValue20
  t37 := Tryd.underlying62
  a37 := Tryd.isAgg62
  z37 := Tryd.sizeOf62
  v37 := Tryd.zeroValue62
  t46 := Tryd.underlying106
  a46 := Tryd.isAgg106
  z46 := Tryd.sizeOf106
  v46 := Tryd.zeroValue106
  t51 := Tryd.underlying93
  a51 := Tryd.isAgg93
  z51 := Tryd.sizeOf93
  v51 := Tryd.zeroValue93
  t53 := Tryd.underlying118
  a53 := Tryd.isAgg118
  z53 := Tryd.sizeOf118
  v53 := Tryd.zeroValue118
  t171 := Tryd.underlying145
  a171 := Tryd.isAgg145
  z171 := Tryd.sizeOf145
  v171 := Tryd.zeroValue145
  t173 := Tryd.underlying147
  a173 := Tryd.isAgg147
  z173 := Tryd.sizeOf147
  v173 := Tryd.zeroValue147
  t212 := Tryd.underlying178
  a212 := Tryd.isAgg178
  z212 := Tryd.sizeOf178
  v212 := Tryd.zeroValue178
  t213 := Tryd.underlying179
  a213 := Tryd.isAgg179
  z213 := Tryd.sizeOf179
  t232 := Tryd.underlying191
  a232 := Tryd.isAgg191
  z232 := Tryd.sizeOf191
  v232 := Tryd.zeroValue191
  t233 := Tryd.underlying144
  a233 := Tryd.isAgg144
  z233 := Tryd.sizeOf144
  v233 := Tryd.zeroValue144
  g17 := by kernel_rfl
  g18 := by kernel_rfl
  g19 := by kernel_rfl }
open Go.RowKit Go.Sort Go.Lib in
/-- THE ROAD WITHOUT THE TABLE: 0 <= i < 100. (LAID: no walk: one application.) -/
theorem Tryd.internal_strconv_Itoa_small (i : Nat) (hi : i < 100) (w : World) :
    Calls Tryd.prog 74 #[.int .i64 i] w fun e w' => e = .returned (.string ⟨(Lib.decDigits i).toArray⟩) ∧ w' = w := Any.internal_strconv_Itoa_small Tryd.lays243 i hi w
def Tryd.laysM171_ren : Go.Shelf.Ren := ⟨fun | 171 => 53 | 243 => 74 | 246 => 95 | 283 => 118 | 284 => 119 | 285 => 120 | 286 => 121 | 129 => 117 | 317 => 135 | 318 => 136 | 319 => 137 | 320 => 138 | 337 => 144 | 338 => 145 | n => n, fun | 3 => 3 | 9 => 9 | 2 => 2 | 4 => 4 | 171 => 145 | 0 => 0 | 53 => 118 | 37 => 62 | 5 => 5 | 173 => 147 | 212 => 178 | 51 => 93 | 20 => 20 | 213 => 179 | 46 => 106 | 232 => 191 | 233 => 144 | n => n, fun | 17 => 9 | 18 => 10 | 19 => 11 | n => n⟩
theorem Tryd.laysM171 : Go.Proofs.LaysM.n171 Tryd.prog Tryd.laysM171_ren := {
  mixed := by kernel_rfl
  f129 := Tryd.func117.trans (congrArg some (by kernel_rfl))
  f171 := Tryd.func53.trans (congrArg some (by kernel_rfl))
  f243 := Tryd.func74.trans (congrArg some (by kernel_rfl))
  f246 := Tryd.func95.trans (congrArg some (by kernel_rfl))
  f283 := Tryd.func118.trans (congrArg some (by kernel_rfl))
  f284 := Tryd.func119.trans (congrArg some (by kernel_rfl))
  f285 := Tryd.func120.trans (congrArg some (by kernel_rfl))
  f286 := Tryd.func121.trans (congrArg some (by kernel_rfl))
  f317 := Tryd.func135.trans (congrArg some (by kernel_rfl))
  f318 := Tryd.func136.trans (congrArg some (by kernel_rfl))
  f319 := Tryd.func137.trans (congrArg some (by kernel_rfl))
  f320 := Tryd.func138.trans (congrArg some (by kernel_rfl))
  f337 := Tryd.func144.trans (congrArg some (by kernel_rfl))
  f338 := Tryd.func145.trans (congrArg some (by kernel_rfl))
  t0 := Tryd.underlying0
  a0 := Tryd.isAgg0
  z0 := Tryd.sizeOf0
  v0 := Tryd.zeroValue0
  t2 := Tryd.underlying2
  a2 := Tryd.isAgg2
  z2 := Tryd.sizeOf2
  v2 := Tryd.zeroValue2
  t3 := Tryd.underlying3
  a3 := Tryd.isAgg3
  z3 := Tryd.sizeOf3
  v3 := Tryd.zeroValue3
  t4 := Tryd.underlying4
  a4 := Tryd.isAgg4
  z4 := Tryd.sizeOf4
  v4 := Tryd.zeroValue4
  t5 := Tryd.underlying5
  a5 := Tryd.isAgg5
  z5 := Tryd.sizeOf5
  v5 := Tryd.zeroValue5
  t9 := Tryd.underlying9
  a9 := Tryd.isAgg9
  z9 := Tryd.sizeOf9
  v9 := Tryd.zeroValue9
  t20 := Tryd.underlying20
  a20 := Tryd.isAgg20
  z20 := Tryd.sizeOf20
  v20 := Tryd.zeroValue20
  t37 := Tryd.underlying62
  a37 := Tryd.isAgg62
  z37 := Tryd.sizeOf62
  v37 := Tryd.zeroValue62
  t46 := Tryd.underlying106
  a46 := Tryd.isAgg106
  z46 := Tryd.sizeOf106
  v46 := Tryd.zeroValue106
  t51 := Tryd.underlying93
  a51 := Tryd.isAgg93
  z51 := Tryd.sizeOf93
  v51 := Tryd.zeroValue93
  t53 := Tryd.underlying118
  a53 := Tryd.isAgg118
  z53 := Tryd.sizeOf118
  v53 := Tryd.zeroValue118
  t171 := Tryd.underlying145
  a171 := Tryd.isAgg145
  z171 := Tryd.sizeOf145
  v171 := Tryd.zeroValue145
  t173 := Tryd.underlying147
  a173 := Tryd.isAgg147
  z173 := Tryd.sizeOf147
  v173 := Tryd.zeroValue147
  t212 := Tryd.underlying178
  a212 := Tryd.isAgg178
  z212 := Tryd.sizeOf178
  v212 := Tryd.zeroValue178
  t213 := Tryd.underlying179
  a213 := Tryd.isAgg179
  z213 := Tryd.sizeOf179
  t232 := Tryd.underlying191
  a232 := Tryd.isAgg191
  z232 := Tryd.sizeOf191
  v232 := Tryd.zeroValue191
  t233 := Tryd.underlying144
  a233 := Tryd.isAgg144
  z233 := Tryd.sizeOf144
  v233 := Tryd.zeroValue144
  g17 := by kernel_rfl
  g18 := by kernel_rfl
  g19 := by kernel_rfl
  i0 := by kernel_rfl
  i2 := by kernel_rfl
  i3 := by kernel_rfl
  i4 := by kernel_rfl
  i5 := by kernel_rfl
  i9 := by kernel_rfl
  i20 := by kernel_rfl
  i37 := by kernel_rfl
  i46 := by kernel_rfl
  i51 := by kernel_rfl
  i53 := by kernel_rfl
  i171 := by kernel_rfl
  i173 := by kernel_rfl
  i212 := by kernel_rfl
  i232 := by kernel_rfl
  i233 := by kernel_rfl
  m17 := by kernel_rfl
  m18 := by kernel_rfl
  m19 := by kernel_rfl }
open Go.RowKit Go.Sort Go.Lib in
/-- strconv.Itoa: "Itoa is equivalent to FormatInt(int64(i), 10).": i's DECIMAL NUMERAL ('Lib.itoa': a '-' where i is negative, then the digits), FOR EVERY int. The world behind the call: the world before it, new blocks behind the heap (the library's 'var a [24]byte'), draws. (LAID: no walk: one application.) -/
theorem Tryd.strconv_Itoa (n : Int) (h0 : -9223372036854775808 ≤ n) (h1 : n ≤ 9223372036854775807) (w : World) (htab : Lib.TabIs Tryd.prog w "internal/strconv.uint64pow10" .u64 Lib.pow10Tab) :
    Calls Tryd.prog 53 #[.int .i64 n] w fun e w' => e = .returned (.string ⟨(Lib.itoa n).toArray⟩) ∧ ∃ k os, w' = grow (w.drewN k) os := Any.strconv_Itoa Tryd.laysM171 n h0 h1 w htab
def Tryd.lays171_ren : Go.Shelf.Ren := ⟨fun | 171 => 53 | 243 => 74 | 246 => 95 | 283 => 118 | 284 => 119 | 285 => 120 | 286 => 121 | 129 => 117 | 317 => 135 | 318 => 136 | 319 => 137 | 320 => 138 | 337 => 144 | 338 => 145 | n => n, fun | 3 => 3 | 9 => 9 | 2 => 2 | 4 => 4 | 171 => 145 | 0 => 0 | 53 => 118 | 37 => 62 | 5 => 5 | 173 => 147 | 212 => 178 | 51 => 93 | 20 => 20 | 213 => 179 | 46 => 106 | 232 => 191 | 233 => 144 | n => n, fun | 17 => 9 | 18 => 10 | 19 => 11 | n => n⟩
theorem Tryd.lays171 : Go.Proofs.Lays.n171 Tryd.prog Tryd.lays171_ren := {
  mixed := by kernel_rfl
  f129 := Tryd.func117.trans (congrArg some (by kernel_rfl))
  f171 := Tryd.func53.trans (congrArg some (by kernel_rfl))
  f243 := Tryd.func74.trans (congrArg some (by kernel_rfl))
  f246 := Tryd.func95.trans (congrArg some (by kernel_rfl))
  f283 := Tryd.func118.trans (congrArg some (by kernel_rfl))
  f284 := Tryd.func119.trans (congrArg some (by kernel_rfl))
  f285 := Tryd.func120.trans (congrArg some (by kernel_rfl))
  f286 := Tryd.func121.trans (congrArg some (by kernel_rfl))
  f317 := Tryd.func135.trans (congrArg some (by kernel_rfl))
  f318 := Tryd.func136.trans (congrArg some (by kernel_rfl))
  f319 := Tryd.func137.trans (congrArg some (by kernel_rfl))
  f320 := Tryd.func138.trans (congrArg some (by kernel_rfl))
  f337 := Tryd.func144.trans (congrArg some (by kernel_rfl))
  f338 := Tryd.func145.trans (congrArg some (by kernel_rfl))
  t0 := Tryd.underlying0
  a0 := Tryd.isAgg0
  z0 := Tryd.sizeOf0
  v0 := Tryd.zeroValue0
  t2 := Tryd.underlying2
  a2 := Tryd.isAgg2
  z2 := Tryd.sizeOf2
  v2 := Tryd.zeroValue2
  t3 := Tryd.underlying3
  a3 := Tryd.isAgg3
  z3 := Tryd.sizeOf3
  v3 := Tryd.zeroValue3
  t4 := Tryd.underlying4
  a4 := Tryd.isAgg4
  z4 := Tryd.sizeOf4
  v4 := Tryd.zeroValue4
  t5 := Tryd.underlying5
  a5 := Tryd.isAgg5
  z5 := Tryd.sizeOf5
  v5 := Tryd.zeroValue5
  t9 := Tryd.underlying9
  a9 := Tryd.isAgg9
  z9 := Tryd.sizeOf9
  v9 := Tryd.zeroValue9
  t20 := Tryd.underlying20
  a20 := Tryd.isAgg20
  z20 := Tryd.sizeOf20
  v20 := Tryd.zeroValue20
  t37 := Tryd.underlying62
  a37 := Tryd.isAgg62
  z37 := Tryd.sizeOf62
  v37 := Tryd.zeroValue62
  t46 := Tryd.underlying106
  a46 := Tryd.isAgg106
  z46 := Tryd.sizeOf106
  v46 := Tryd.zeroValue106
  t51 := Tryd.underlying93
  a51 := Tryd.isAgg93
  z51 := Tryd.sizeOf93
  v51 := Tryd.zeroValue93
  t53 := Tryd.underlying118
  a53 := Tryd.isAgg118
  z53 := Tryd.sizeOf118
  v53 := Tryd.zeroValue118
  t171 := Tryd.underlying145
  a171 := Tryd.isAgg145
  z171 := Tryd.sizeOf145
  v171 := Tryd.zeroValue145
  t173 := Tryd.underlying147
  a173 := Tryd.isAgg147
  z173 := Tryd.sizeOf147
  v173 := Tryd.zeroValue147
  t212 := Tryd.underlying178
  a212 := Tryd.isAgg178
  z212 := Tryd.sizeOf178
  v212 := Tryd.zeroValue178
  t213 := Tryd.underlying179
  a213 := Tryd.isAgg179
  z213 := Tryd.sizeOf179
  t232 := Tryd.underlying191
  a232 := Tryd.isAgg191
  z232 := Tryd.sizeOf191
  v232 := Tryd.zeroValue191
  t233 := Tryd.underlying144
  a233 := Tryd.isAgg144
  z233 := Tryd.sizeOf144
  v233 := Tryd.zeroValue144
  g17 := by kernel_rfl
  g18 := by kernel_rfl
  g19 := by kernel_rfl }
open Go.RowKit Go.Sort Go.Lib in
/-- THE ROAD WITHOUT THE TABLE: 0 <= i < 100: NO PREMISE ON THE WORLD, AND THE WORLD IS AS IT WAS: a row that keeps its argument in that range need list no table ('laid = []'). (LAID: no walk: one application.) -/
theorem Tryd.strconv_Itoa_small (i : Nat) (hi : i < 100) (w : World) :
    Calls Tryd.prog 53 #[.int .i64 i] w fun e w' => e = .returned (.string ⟨(Lib.decDigits i).toArray⟩) ∧ w' = w := Any.strconv_Itoa_small Tryd.lays171 i hi w
def Tryd.lays189_ren : Go.Shelf.Ren := ⟨fun | 189 => 69 | 125 => 92 | 257 => 91 | 128 => 116 | 129 => 117 | 294 => 107 | 295 => 108 | 296 => 109 | 297 => 110 | 298 => 111 | 299 => 112 | 216 => 113 | 300 => 114 | 301 => 115 | 328 => 129 | 329 => 130 | 330 => 131 | 331 => 132 | 332 => 133 | 215 => 134 | 343 => 143 | n => n, fun | 28 => 25 | 3 => 3 | 46 => 106 | 0 => 0 | 51 => 93 | 53 => 118 | 4 => 4 | 183 => 135 | 182 => 134 | 131 => 140 | 5 => 5 | 9 => 9 | 218 => 170 | 222 => 174 | 228 => 187 | 229 => 188 | n => n, fun | n => n⟩
theorem Tryd.lays189 : Go.Proofs.Lays.n189 Tryd.prog Tryd.lays189_ren := {
  mixed := by kernel_rfl
  f125 := Tryd.func92.trans (congrArg some (by kernel_rfl))
  f128 := Tryd.func116.trans (congrArg some (by kernel_rfl))
  f129 := Tryd.func117.trans (congrArg some (by kernel_rfl))
  f189 := Tryd.func69.trans (congrArg some (by kernel_rfl))
  f215 := Tryd.func134.trans (congrArg some (by kernel_rfl))
  f216 := Tryd.func113.trans (congrArg some (by kernel_rfl))
  f257 := Tryd.func91.trans (congrArg some (by kernel_rfl))
  f294 := Tryd.func107.trans (congrArg some (by kernel_rfl))
  f295 := Tryd.func108.trans (congrArg some (by kernel_rfl))
  f296 := Tryd.func109.trans (congrArg some (by kernel_rfl))
  f297 := Tryd.func110.trans (congrArg some (by kernel_rfl))
  f298 := Tryd.func111.trans (congrArg some (by kernel_rfl))
  f299 := Tryd.func112.trans (congrArg some (by kernel_rfl))
  f300 := Tryd.func114.trans (congrArg some (by kernel_rfl))
  f301 := Tryd.func115.trans (congrArg some (by kernel_rfl))
  f328 := Tryd.func129.trans (congrArg some (by kernel_rfl))
  f329 := Tryd.func130.trans (congrArg some (by kernel_rfl))
  f330 := Tryd.func131.trans (congrArg some (by kernel_rfl))
  f331 := Tryd.func132.trans (congrArg some (by kernel_rfl))
  f332 := Tryd.func133.trans (congrArg some (by kernel_rfl))
  f343 := Tryd.func143.trans (congrArg some (by kernel_rfl))
  t0 := Tryd.underlying0
  a0 := Tryd.isAgg0
  z0 := Tryd.sizeOf0
  v0 := Tryd.zeroValue0
  t3 := Tryd.underlying3
  a3 := Tryd.isAgg3
  z3 := Tryd.sizeOf3
  v3 := Tryd.zeroValue3
  t4 := Tryd.underlying4
  a4 := Tryd.isAgg4
  z4 := Tryd.sizeOf4
  v4 := Tryd.zeroValue4
  t5 := Tryd.underlying5
  a5 := Tryd.isAgg5
  z5 := Tryd.sizeOf5
  v5 := Tryd.zeroValue5
  t9 := Tryd.underlying9
  a9 := Tryd.isAgg9
  z9 := Tryd.sizeOf9
  v9 := Tryd.zeroValue9
  t28 := Tryd.underlying25
  a28 := Tryd.isAgg25
  z28 := Tryd.sizeOf25
  v28 := Tryd.zeroValue25
  t46 := Tryd.underlying106
  a46 := Tryd.isAgg106
  z46 := Tryd.sizeOf106
  v46 := Tryd.zeroValue106
  t51 := Tryd.underlying93
  a51 := Tryd.isAgg93
  z51 := Tryd.sizeOf93
  v51 := Tryd.zeroValue93
  t53 := Tryd.underlying118
  a53 := Tryd.isAgg118
  z53 := Tryd.sizeOf118
  v53 := Tryd.zeroValue118
  t131 := Tryd.underlying140
  a131 := Tryd.isAgg140
  z131 := Tryd.sizeOf140
  v131 := Tryd.zeroValue140
  t182 := Tryd.underlying134
  a182 := Tryd.isAgg134
  z182 := Tryd.sizeOf134
  v182 := Tryd.zeroValue134
  t183 := Tryd.underlying135
  a183 := Tryd.isAgg135
  z183 := Tryd.sizeOf135
  v183 := Tryd.zeroValue135
  t218 := Tryd.underlying170
  a218 := Tryd.isAgg170
  z218 := Tryd.sizeOf170
  v218 := Tryd.zeroValue170
  t222 := Tryd.underlying174
  a222 := Tryd.isAgg174
  z222 := Tryd.sizeOf174
  v222 := Tryd.zeroValue174
  t228 := Tryd.underlying187
  a228 := Tryd.isAgg187
  z228 := Tryd.sizeOf187
  v228 := Tryd.zeroValue187
  t229 := Tryd.underlying188
  a229 := Tryd.isAgg188
  z229 := Tryd.sizeOf188
  v229 := Tryd.zeroValue188 }
open Go.Sort Go.RowKit in
theorem Tryd.slices_Sort_int (blk off cap : Nat) (zs : List Int) (w : World) (hH : Holds (Value.int .i64) w blk off zs.toArray) (hblk : blk < w.heap.size) (hsz : zs.length < 4611686018427387904) :
    Calls Tryd.prog 69 #[.slice (some ⟨blk, off, none⟩) zs.length cap] w fun e w' =>
      e = .returned (.tuple #[]) ∧ ∃ n os, w' = grow (putRow (Value.int .i64) (Sort.ahead w n) blk off (zs.mergeSort fun x y => decide (x ≤ y)).toArray) os := Any.slices_Sort_int Tryd.lays189 blk off cap zs w hH hblk hsz
def Tryd.lays191_ren : Go.Shelf.Ren := ⟨fun | 191 => 47 | 189 => 69 | 125 => 92 | 257 => 91 | 128 => 116 | 129 => 117 | 294 => 107 | 295 => 108 | 296 => 109 | 297 => 110 | 298 => 111 | 299 => 112 | 216 => 113 | 300 => 114 | 301 => 115 | 328 => 129 | 329 => 130 | 330 => 131 | 331 => 132 | 332 => 133 | 215 => 134 | 343 => 143 | n => n, fun | 28 => 25 | 0 => 0 | 3 => 3 | 46 => 106 | 51 => 93 | 53 => 118 | 4 => 4 | 183 => 135 | 182 => 134 | 131 => 140 | 5 => 5 | 9 => 9 | 218 => 170 | 222 => 174 | 228 => 187 | 229 => 188 | n => n, fun | n => n⟩
theorem Tryd.lays191 : Go.Proofs.Lays.n191 Tryd.prog Tryd.lays191_ren := {
  mixed := by kernel_rfl
  f125 := Tryd.func92.trans (congrArg some (by kernel_rfl))
  f128 := Tryd.func116.trans (congrArg some (by kernel_rfl))
  f129 := Tryd.func117.trans (congrArg some (by kernel_rfl))
  f189 := Tryd.func69.trans (congrArg some (by kernel_rfl))
  f191 := Tryd.func47.trans (congrArg some (by kernel_rfl))
  f215 := Tryd.func134.trans (congrArg some (by kernel_rfl))
  f216 := Tryd.func113.trans (congrArg some (by kernel_rfl))
  f257 := Tryd.func91.trans (congrArg some (by kernel_rfl))
  f294 := Tryd.func107.trans (congrArg some (by kernel_rfl))
  f295 := Tryd.func108.trans (congrArg some (by kernel_rfl))
  f296 := Tryd.func109.trans (congrArg some (by kernel_rfl))
  f297 := Tryd.func110.trans (congrArg some (by kernel_rfl))
  f298 := Tryd.func111.trans (congrArg some (by kernel_rfl))
  f299 := Tryd.func112.trans (congrArg some (by kernel_rfl))
  f300 := Tryd.func114.trans (congrArg some (by kernel_rfl))
  f301 := Tryd.func115.trans (congrArg some (by kernel_rfl))
  f328 := Tryd.func129.trans (congrArg some (by kernel_rfl))
  f329 := Tryd.func130.trans (congrArg some (by kernel_rfl))
  f330 := Tryd.func131.trans (congrArg some (by kernel_rfl))
  f331 := Tryd.func132.trans (congrArg some (by kernel_rfl))
  f332 := Tryd.func133.trans (congrArg some (by kernel_rfl))
  f343 := Tryd.func143.trans (congrArg some (by kernel_rfl))
  t0 := Tryd.underlying0
  a0 := Tryd.isAgg0
  z0 := Tryd.sizeOf0
  v0 := Tryd.zeroValue0
  t3 := Tryd.underlying3
  a3 := Tryd.isAgg3
  z3 := Tryd.sizeOf3
  v3 := Tryd.zeroValue3
  t4 := Tryd.underlying4
  a4 := Tryd.isAgg4
  z4 := Tryd.sizeOf4
  v4 := Tryd.zeroValue4
  t5 := Tryd.underlying5
  a5 := Tryd.isAgg5
  z5 := Tryd.sizeOf5
  v5 := Tryd.zeroValue5
  t9 := Tryd.underlying9
  a9 := Tryd.isAgg9
  z9 := Tryd.sizeOf9
  v9 := Tryd.zeroValue9
  t28 := Tryd.underlying25
  a28 := Tryd.isAgg25
  z28 := Tryd.sizeOf25
  v28 := Tryd.zeroValue25
  t46 := Tryd.underlying106
  a46 := Tryd.isAgg106
  z46 := Tryd.sizeOf106
  v46 := Tryd.zeroValue106
  t51 := Tryd.underlying93
  a51 := Tryd.isAgg93
  z51 := Tryd.sizeOf93
  v51 := Tryd.zeroValue93
  t53 := Tryd.underlying118
  a53 := Tryd.isAgg118
  z53 := Tryd.sizeOf118
  v53 := Tryd.zeroValue118
  t131 := Tryd.underlying140
  a131 := Tryd.isAgg140
  z131 := Tryd.sizeOf140
  v131 := Tryd.zeroValue140
  t182 := Tryd.underlying134
  a182 := Tryd.isAgg134
  z182 := Tryd.sizeOf134
  v182 := Tryd.zeroValue134
  t183 := Tryd.underlying135
  a183 := Tryd.isAgg135
  z183 := Tryd.sizeOf135
  v183 := Tryd.zeroValue135
  t218 := Tryd.underlying170
  a218 := Tryd.isAgg170
  z218 := Tryd.sizeOf170
  v218 := Tryd.zeroValue170
  t222 := Tryd.underlying174
  a222 := Tryd.isAgg174
  z222 := Tryd.sizeOf174
  v222 := Tryd.zeroValue174
  t228 := Tryd.underlying187
  a228 := Tryd.isAgg187
  z228 := Tryd.sizeOf187
  v228 := Tryd.zeroValue187
  t229 := Tryd.underlying188
  a229 := Tryd.isAgg188
  z229 := Tryd.sizeOf188
  v229 := Tryd.zeroValue188 }
open Go.Sort Go.RowKit in
theorem Tryd.sort_Ints (blk off cap : Nat) (zs : List Int) (w : World) (hH : Holds (Value.int .i64) w blk off zs.toArray) (hblk : blk < w.heap.size) (hsz : zs.length < 4611686018427387904) :
    Calls Tryd.prog 47 #[.slice (some ⟨blk, off, none⟩) zs.length cap] w fun e w' =>
      e = .returned (.tuple #[]) ∧ ∃ n os, w' = grow (putRow (Value.int .i64) (Sort.ahead w n) blk off (zs.mergeSort fun x y => decide (x ≤ y)).toArray) os := Any.sort_Ints Tryd.lays191 blk off cap zs w hH hblk hsz
def Tryd.lays315_ren : Go.Shelf.Ren := ⟨fun | 315 => 139 | n => n, fun | 9 => 9 | 40 => 55 | 4 => 4 | 3 => 3 | 0 => 0 | 21 => 21 | n => n, fun | n => n⟩
theorem Tryd.lays315 : Go.Proofs.Lays.n315 Tryd.prog Tryd.lays315_ren := {
  mixed := by kernel_rfl
  f315 := Tryd.func139.trans (congrArg some (by kernel_rfl))
  t0 := Tryd.underlying0
  a0 := Tryd.isAgg0
  z0 := Tryd.sizeOf0
  v0 := Tryd.zeroValue0
  t3 := Tryd.underlying3
  a3 := Tryd.isAgg3
  z3 := Tryd.sizeOf3
  v3 := Tryd.zeroValue3
  t4 := Tryd.underlying4
  a4 := Tryd.isAgg4
  z4 := Tryd.sizeOf4
  v4 := Tryd.zeroValue4
  t9 := Tryd.underlying9
  a9 := Tryd.isAgg9
  z9 := Tryd.sizeOf9
  v9 := Tryd.zeroValue9
  t21 := Tryd.underlying21
  a21 := Tryd.isAgg21
  z21 := Tryd.sizeOf21
  v21 := Tryd.zeroValue21
  t40 := Tryd.underlying55
  a40 := Tryd.isAgg55
  z40 := Tryd.sizeOf55
  v40 := Tryd.zeroValue55 }
open Go.RowKit Go.Lib in
theorem Tryd.strings_indexFunc (g : Nat) (lb : Array Value) (eg : ∀ args w, (callFunc g args).run Tryd.prog w = .ok (.enter g args) w) (p : Nat → Bool) (truth : Bool) (s : ByteArray) (w : World) (hp : PredAt Tryd.prog g lb encR p w) :
    Calls Tryd.prog 139 #[.string s, .func (.func g) #[] lb, .bool truth] w fun e w' => e = .returned (.int .i64 (Lib.idxFunc p truth s)) ∧ Below w.heap.size w w' := Any.strings_indexFunc Tryd.lays315 g lb eg p truth s w hp
def Tryd.lays198_ren : Go.Shelf.Ren := ⟨fun | 198 => 81 | 261 => 99 | 311 => 124 | 312 => 125 | n => n, fun | 21 => 21 | 4 => 4 | 141 => 125 | 0 => 0 | 196 => 158 | 193 => 155 | 3 => 3 | 51 => 93 | 198 => 161 | 49 => 159 | 194 => 156 | 201 => 164 | 226 => 184 | 46 => 106 | 227 => 185 | n => n, fun | 5 => 3 | n => n⟩
theorem Tryd.lays198 : Go.Proofs.Lays.n198 Tryd.prog Tryd.lays198_ren := {
  mixed := by kernel_rfl
  f198 := Tryd.func81.trans (congrArg some (by kernel_rfl))
  f261 := Tryd.func99.trans (congrArg some (by kernel_rfl))
  f311 := Tryd.func124.trans (congrArg some (by kernel_rfl))
  f312 := Tryd.func125.trans (congrArg some (by kernel_rfl))
  t0 := Tryd.underlying0
  a0 := Tryd.isAgg0
  z0 := Tryd.sizeOf0
  v0 := Tryd.zeroValue0
  t3 := Tryd.underlying3
  a3 := Tryd.isAgg3
  z3 := Tryd.sizeOf3
  v3 := Tryd.zeroValue3
  t4 := Tryd.underlying4
  a4 := Tryd.isAgg4
  z4 := Tryd.sizeOf4
  v4 := Tryd.zeroValue4
  t21 := Tryd.underlying21
  a21 := Tryd.isAgg21
  z21 := Tryd.sizeOf21
  v21 := Tryd.zeroValue21
  t46 := Tryd.underlying106
  a46 := Tryd.isAgg106
  z46 := Tryd.sizeOf106
  v46 := Tryd.zeroValue106
  t49 := Tryd.underlying159
  a49 := Tryd.isAgg159
  z49 := Tryd.sizeOf159
  v49 := Tryd.zeroValue159
  t51 := Tryd.underlying93
  a51 := Tryd.isAgg93
  z51 := Tryd.sizeOf93
  v51 := Tryd.zeroValue93
  t141 := Tryd.underlying125
  a141 := Tryd.isAgg125
  z141 := Tryd.sizeOf125
  v141 := Tryd.zeroValue125
  t193 := Tryd.underlying155
  a193 := Tryd.isAgg155
  z193 := Tryd.sizeOf155
  v193 := Tryd.zeroValue155
  t194 := Tryd.underlying156
  a194 := Tryd.isAgg156
  z194 := Tryd.sizeOf156
  v194 := Tryd.zeroValue156
  t196 := Tryd.underlying158
  a196 := Tryd.isAgg158
  z196 := Tryd.sizeOf158
  v196 := Tryd.zeroValue158
  t198 := Tryd.underlying161
  a198 := Tryd.isAgg161
  z198 := Tryd.sizeOf161
  v198 := Tryd.zeroValue161
  t201 := Tryd.underlying164
  a201 := Tryd.isAgg164
  z201 := Tryd.sizeOf164
  v201 := Tryd.zeroValue164
  t226 := Tryd.underlying184
  a226 := Tryd.isAgg184
  z226 := Tryd.sizeOf184
  v226 := Tryd.zeroValue184
  t227 := Tryd.underlying185
  a227 := Tryd.isAgg185
  z227 := Tryd.sizeOf185
  v227 := Tryd.zeroValue185
  g5 := by kernel_rfl }
open Go.RowKit Go.Lib in
theorem Tryd.unicode_IsDigit (r : Int) (w : World) (h : r ≤ 255) :
    Calls Tryd.prog 81 #[.int .i32 r] w fun e w' => e = .returned (.bool (Lib.isDigitL r)) ∧ w' = w := Any.unicode_IsDigit Tryd.lays198 r w h
def Tryd.lays199_ren : Go.Shelf.Ren := ⟨fun | 199 => 82 | 261 => 99 | 311 => 124 | 312 => 125 | n => n, fun | 21 => 21 | 4 => 4 | 51 => 93 | 141 => 125 | 0 => 0 | 196 => 158 | 193 => 155 | 3 => 3 | 198 => 161 | 49 => 159 | 194 => 156 | 201 => 164 | 226 => 184 | 46 => 106 | 227 => 185 | n => n, fun | 6 => 4 | n => n⟩
theorem Tryd.lays199 : Go.Proofs.Lays.n199 Tryd.prog Tryd.lays199_ren := {
  mixed := by kernel_rfl
  f199 := Tryd.func82.trans (congrArg some (by kernel_rfl))
  f261 := Tryd.func99.trans (congrArg some (by kernel_rfl))
  f311 := Tryd.func124.trans (congrArg some (by kernel_rfl))
  f312 := Tryd.func125.trans (congrArg some (by kernel_rfl))
  t0 := Tryd.underlying0
  a0 := Tryd.isAgg0
  z0 := Tryd.sizeOf0
  v0 := Tryd.zeroValue0
  t3 := Tryd.underlying3
  a3 := Tryd.isAgg3
  z3 := Tryd.sizeOf3
  v3 := Tryd.zeroValue3
  t4 := Tryd.underlying4
  a4 := Tryd.isAgg4
  z4 := Tryd.sizeOf4
  v4 := Tryd.zeroValue4
  t21 := Tryd.underlying21
  a21 := Tryd.isAgg21
  z21 := Tryd.sizeOf21
  v21 := Tryd.zeroValue21
  t46 := Tryd.underlying106
  a46 := Tryd.isAgg106
  z46 := Tryd.sizeOf106
  v46 := Tryd.zeroValue106
  t49 := Tryd.underlying159
  a49 := Tryd.isAgg159
  z49 := Tryd.sizeOf159
  v49 := Tryd.zeroValue159
  t51 := Tryd.underlying93
  a51 := Tryd.isAgg93
  z51 := Tryd.sizeOf93
  v51 := Tryd.zeroValue93
  t141 := Tryd.underlying125
  a141 := Tryd.isAgg125
  z141 := Tryd.sizeOf125
  v141 := Tryd.zeroValue125
  t193 := Tryd.underlying155
  a193 := Tryd.isAgg155
  z193 := Tryd.sizeOf155
  v193 := Tryd.zeroValue155
  t194 := Tryd.underlying156
  a194 := Tryd.isAgg156
  z194 := Tryd.sizeOf156
  v194 := Tryd.zeroValue156
  t196 := Tryd.underlying158
  a196 := Tryd.isAgg158
  z196 := Tryd.sizeOf158
  v196 := Tryd.zeroValue158
  t198 := Tryd.underlying161
  a198 := Tryd.isAgg161
  z198 := Tryd.sizeOf161
  v198 := Tryd.zeroValue161
  t201 := Tryd.underlying164
  a201 := Tryd.isAgg164
  z201 := Tryd.sizeOf164
  v201 := Tryd.zeroValue164
  t226 := Tryd.underlying184
  a226 := Tryd.isAgg184
  z226 := Tryd.sizeOf184
  v226 := Tryd.zeroValue184
  t227 := Tryd.underlying185
  a227 := Tryd.isAgg185
  z227 := Tryd.sizeOf185
  v227 := Tryd.zeroValue185
  g6 := by kernel_rfl }
open Go.RowKit Go.Lib in
theorem Tryd.unicode_IsSpace (r : Int) (w : World) (h0 : 0 ≤ r) (h : r ≤ 255) :
    Calls Tryd.prog 82 #[.int .i32 r] w fun e w' => e = .returned (.bool (Lib.isSpaceL r)) ∧ w' = w := Any.unicode_IsSpace Tryd.lays199 r w h0 h
def Tryd.lays203_ren : Go.Shelf.Ren := ⟨fun | 203 => 60 | 262 => 79 | 313 => 98 | 274 => 122 | 275 => 123 | n => n, fun | 21 => 21 | 4 => 4 | 3 => 3 | 162 => 122 | 203 => 120 | 160 => 152 | 46 => 106 | 0 => 0 | 208 => 183 | 51 => 93 | 206 => 181 | n => n, fun | 13 => 0 | n => n⟩
theorem Tryd.lays203 : Go.Proofs.Lays.n203 Tryd.prog Tryd.lays203_ren := {
  mixed := by kernel_rfl
  f203 := Tryd.func60.trans (congrArg some (by kernel_rfl))
  f262 := Tryd.func79.trans (congrArg some (by kernel_rfl))
  f274 := Tryd.func122.trans (congrArg some (by kernel_rfl))
  f275 := Tryd.func123.trans (congrArg some (by kernel_rfl))
  f313 := Tryd.func98.trans (congrArg some (by kernel_rfl))
  t0 := Tryd.underlying0
  a0 := Tryd.isAgg0
  z0 := Tryd.sizeOf0
  v0 := Tryd.zeroValue0
  t3 := Tryd.underlying3
  a3 := Tryd.isAgg3
  z3 := Tryd.sizeOf3
  v3 := Tryd.zeroValue3
  t4 := Tryd.underlying4
  a4 := Tryd.isAgg4
  z4 := Tryd.sizeOf4
  v4 := Tryd.zeroValue4
  t21 := Tryd.underlying21
  a21 := Tryd.isAgg21
  z21 := Tryd.sizeOf21
  v21 := Tryd.zeroValue21
  t46 := Tryd.underlying106
  a46 := Tryd.isAgg106
  z46 := Tryd.sizeOf106
  v46 := Tryd.zeroValue106
  t51 := Tryd.underlying93
  a51 := Tryd.isAgg93
  z51 := Tryd.sizeOf93
  v51 := Tryd.zeroValue93
  t160 := Tryd.underlying152
  a160 := Tryd.isAgg152
  z160 := Tryd.sizeOf152
  v160 := Tryd.zeroValue152
  t162 := Tryd.underlying122
  a162 := Tryd.isAgg122
  z162 := Tryd.sizeOf122
  v162 := Tryd.zeroValue122
  t203 := Tryd.underlying120
  a203 := Tryd.isAgg120
  z203 := Tryd.sizeOf120
  v203 := Tryd.zeroValue120
  t206 := Tryd.underlying181
  a206 := Tryd.isAgg181
  z206 := Tryd.sizeOf181
  v206 := Tryd.zeroValue181
  t208 := Tryd.underlying183
  a208 := Tryd.isAgg183
  z208 := Tryd.sizeOf183
  v208 := Tryd.zeroValue183
  g13 := by kernel_rfl }
open Go.RowKit Go.Lib in
theorem Tryd.unicode_ToUpper (r : Int) (w : World) (h : r ≤ 127) :
    Calls Tryd.prog 60 #[.int .i32 r] w fun e w' => e = .returned (.int .i32 (Lib.toUpperR r)) ∧ w' = w := Any.unicode_ToUpper Tryd.lays203 r w h
def Tryd.lays204_ren : Go.Shelf.Ren := ⟨fun | 204 => 57 | 262 => 79 | 313 => 98 | 274 => 122 | 275 => 123 | n => n, fun | 21 => 21 | 4 => 4 | 3 => 3 | 162 => 122 | 203 => 120 | 160 => 152 | 46 => 106 | 0 => 0 | 208 => 183 | 51 => 93 | 206 => 181 | n => n, fun | 13 => 0 | n => n⟩
theorem Tryd.lays204 : Go.Proofs.Lays.n204 Tryd.prog Tryd.lays204_ren := {
  mixed := by kernel_rfl
  f204 := Tryd.func57.trans (congrArg some (by kernel_rfl))
  f262 := Tryd.func79.trans (congrArg some (by kernel_rfl))
  f274 := Tryd.func122.trans (congrArg some (by kernel_rfl))
  f275 := Tryd.func123.trans (congrArg some (by kernel_rfl))
  f313 := Tryd.func98.trans (congrArg some (by kernel_rfl))
  t0 := Tryd.underlying0
  a0 := Tryd.isAgg0
  z0 := Tryd.sizeOf0
  v0 := Tryd.zeroValue0
  t3 := Tryd.underlying3
  a3 := Tryd.isAgg3
  z3 := Tryd.sizeOf3
  v3 := Tryd.zeroValue3
  t4 := Tryd.underlying4
  a4 := Tryd.isAgg4
  z4 := Tryd.sizeOf4
  v4 := Tryd.zeroValue4
  t21 := Tryd.underlying21
  a21 := Tryd.isAgg21
  z21 := Tryd.sizeOf21
  v21 := Tryd.zeroValue21
  t46 := Tryd.underlying106
  a46 := Tryd.isAgg106
  z46 := Tryd.sizeOf106
  v46 := Tryd.zeroValue106
  t51 := Tryd.underlying93
  a51 := Tryd.isAgg93
  z51 := Tryd.sizeOf93
  v51 := Tryd.zeroValue93
  t160 := Tryd.underlying152
  a160 := Tryd.isAgg152
  z160 := Tryd.sizeOf152
  v160 := Tryd.zeroValue152
  t162 := Tryd.underlying122
  a162 := Tryd.isAgg122
  z162 := Tryd.sizeOf122
  v162 := Tryd.zeroValue122
  t203 := Tryd.underlying120
  a203 := Tryd.isAgg120
  z203 := Tryd.sizeOf120
  v203 := Tryd.zeroValue120
  t206 := Tryd.underlying181
  a206 := Tryd.isAgg181
  z206 := Tryd.sizeOf181
  v206 := Tryd.zeroValue181
  t208 := Tryd.underlying183
  a208 := Tryd.isAgg183
  z208 := Tryd.sizeOf183
  v208 := Tryd.zeroValue183
  g13 := by kernel_rfl }
open Go.RowKit Go.Lib in
theorem Tryd.unicode_ToLower (r : Int) (w : World) (h : r ≤ 127) :
    Calls Tryd.prog 57 #[.int .i32 r] w fun e w' => e = .returned (.int .i32 (Lib.toLowerR r)) ∧ w' = w := Any.unicode_ToLower Tryd.lays204 r w h
def Tryd.lays200_ren : Go.Shelf.Ren := ⟨fun | 200 => 80 | 261 => 99 | 311 => 124 | 312 => 125 | n => n, fun | 21 => 21 | 4 => 4 | 51 => 93 | 5 => 5 | 119 => 123 | 0 => 0 | 141 => 125 | 196 => 158 | 193 => 155 | 3 => 3 | 198 => 161 | 49 => 159 | 194 => 156 | 201 => 164 | 226 => 184 | 46 => 106 | 227 => 185 | n => n, fun | 7 => 1 | 8 => 2 | n => n⟩
theorem Tryd.lays200 : Go.Proofs.Lays.n200 Tryd.prog Tryd.lays200_ren := {
  mixed := by kernel_rfl
  f200 := Tryd.func80.trans (congrArg some (by kernel_rfl))
  f261 := Tryd.func99.trans (congrArg some (by kernel_rfl))
  f311 := Tryd.func124.trans (congrArg some (by kernel_rfl))
  f312 := Tryd.func125.trans (congrArg some (by kernel_rfl))
  t0 := Tryd.underlying0
  a0 := Tryd.isAgg0
  z0 := Tryd.sizeOf0
  v0 := Tryd.zeroValue0
  t3 := Tryd.underlying3
  a3 := Tryd.isAgg3
  z3 := Tryd.sizeOf3
  v3 := Tryd.zeroValue3
  t4 := Tryd.underlying4
  a4 := Tryd.isAgg4
  z4 := Tryd.sizeOf4
  v4 := Tryd.zeroValue4
  t5 := Tryd.underlying5
  a5 := Tryd.isAgg5
  z5 := Tryd.sizeOf5
  v5 := Tryd.zeroValue5
  t21 := Tryd.underlying21
  a21 := Tryd.isAgg21
  z21 := Tryd.sizeOf21
  v21 := Tryd.zeroValue21
  t46 := Tryd.underlying106
  a46 := Tryd.isAgg106
  z46 := Tryd.sizeOf106
  v46 := Tryd.zeroValue106
  t49 := Tryd.underlying159
  a49 := Tryd.isAgg159
  z49 := Tryd.sizeOf159
  v49 := Tryd.zeroValue159
  t51 := Tryd.underlying93
  a51 := Tryd.isAgg93
  z51 := Tryd.sizeOf93
  v51 := Tryd.zeroValue93
  t119 := Tryd.underlying123
  a119 := Tryd.isAgg123
  z119 := Tryd.sizeOf123
  t141 := Tryd.underlying125
  a141 := Tryd.isAgg125
  z141 := Tryd.sizeOf125
  v141 := Tryd.zeroValue125
  t193 := Tryd.underlying155
  a193 := Tryd.isAgg155
  z193 := Tryd.sizeOf155
  v193 := Tryd.zeroValue155
  t194 := Tryd.underlying156
  a194 := Tryd.isAgg156
  z194 := Tryd.sizeOf156
  v194 := Tryd.zeroValue156
  t196 := Tryd.underlying158
  a196 := Tryd.isAgg158
  z196 := Tryd.sizeOf158
  v196 := Tryd.zeroValue158
  t198 := Tryd.underlying161
  a198 := Tryd.isAgg161
  z198 := Tryd.sizeOf161
  v198 := Tryd.zeroValue161
  t201 := Tryd.underlying164
  a201 := Tryd.isAgg164
  z201 := Tryd.sizeOf164
  v201 := Tryd.zeroValue164
  t226 := Tryd.underlying184
  a226 := Tryd.isAgg184
  z226 := Tryd.sizeOf184
  v226 := Tryd.zeroValue184
  t227 := Tryd.underlying185
  a227 := Tryd.isAgg185
  z227 := Tryd.sizeOf185
  v227 := Tryd.zeroValue185
  g7 := by kernel_rfl
  g8 := by kernel_rfl }
open Go.RowKit Go.Lib in
theorem Tryd.unicode_IsLetter (c : Nat) (w : World) (hc : c < 256) (htab : Lib.TabIs Tryd.prog w "unicode.properties" .u8 Lib.propertiesTab) :
    Calls Tryd.prog 80 #[.int .i32 c] w fun e w' => e = .returned (.bool (Lib.isLetterL c)) ∧ w' = w := Any.unicode_IsLetter Tryd.lays200 (by kernel_rfl) c w hc htab
def Tryd.lays260_ren : Go.Shelf.Ren := ⟨fun | 260 => 97 | n => n, fun | 9 => 9 | 21 => 21 | 3 => 3 | 4 => 4 | 5 => 5 | 119 => 123 | 0 => 0 | 46 => 106 | 139 => 151 | 138 => 150 | n => n, fun | 3 => 7 | 4 => 8 | n => n⟩
theorem Tryd.lays260 : Go.Proofs.Lays.n260 Tryd.prog Tryd.lays260_ren := {
  mixed := by kernel_rfl
  f260 := Tryd.func97.trans (congrArg some (by kernel_rfl))
  t0 := Tryd.underlying0
  a0 := Tryd.isAgg0
  z0 := Tryd.sizeOf0
  v0 := Tryd.zeroValue0
  t3 := Tryd.underlying3
  a3 := Tryd.isAgg3
  z3 := Tryd.sizeOf3
  v3 := Tryd.zeroValue3
  t4 := Tryd.underlying4
  a4 := Tryd.isAgg4
  z4 := Tryd.sizeOf4
  v4 := Tryd.zeroValue4
  t5 := Tryd.underlying5
  a5 := Tryd.isAgg5
  z5 := Tryd.sizeOf5
  v5 := Tryd.zeroValue5
  t9 := Tryd.underlying9
  a9 := Tryd.isAgg9
  z9 := Tryd.sizeOf9
  v9 := Tryd.zeroValue9
  t21 := Tryd.underlying21
  a21 := Tryd.isAgg21
  z21 := Tryd.sizeOf21
  v21 := Tryd.zeroValue21
  t46 := Tryd.underlying106
  a46 := Tryd.isAgg106
  z46 := Tryd.sizeOf106
  v46 := Tryd.zeroValue106
  t119 := Tryd.underlying123
  a119 := Tryd.isAgg123
  z119 := Tryd.sizeOf123
  t138 := Tryd.underlying150
  a138 := Tryd.isAgg150
  z138 := Tryd.sizeOf150
  v138 := Tryd.zeroValue150
  t139 := Tryd.underlying151
  a139 := Tryd.isAgg151
  z139 := Tryd.sizeOf151
  v139 := Tryd.zeroValue151
  g3 := by kernel_rfl
  g4 := by kernel_rfl }
open Go.RowKit Go.Lib in
theorem Tryd.utf8_decodeRuneInStringSlow (s : ByteArray) (w : World) (hT : Lib.Utf8Tabs 7 8 w) :
    Calls Tryd.prog 97 #[.string s] w fun e w' => e = .returned (.tuple #[.int .i32 (Lib.decodeGo s).1, .int .i64 (Lib.decodeGo s).2]) ∧ Below w.heap.size w w' := Any.utf8_decodeRuneInStringSlow Tryd.lays260 s w hT
def Tryd.lays197_ren : Go.Shelf.Ren := ⟨fun | 197 => 76 | 260 => 97 | n => n, fun | 9 => 9 | 21 => 21 | 3 => 3 | 4 => 4 | 5 => 5 | 105 => 101 | 119 => 123 | 0 => 0 | 46 => 106 | 139 => 151 | 138 => 150 | n => n, fun | 3 => 7 | 4 => 8 | n => n⟩
theorem Tryd.lays197 : Go.Proofs.Lays.n197 Tryd.prog Tryd.lays197_ren := {
  mixed := by kernel_rfl
  f197 := Tryd.func76.trans (congrArg some (by kernel_rfl))
  f260 := Tryd.func97.trans (congrArg some (by kernel_rfl))
  t0 := Tryd.underlying0
  a0 := Tryd.isAgg0
  z0 := Tryd.sizeOf0
  v0 := Tryd.zeroValue0
  t3 := Tryd.underlying3
  a3 := Tryd.isAgg3
  z3 := Tryd.sizeOf3
  v3 := Tryd.zeroValue3
  t4 := Tryd.underlying4
  a4 := Tryd.isAgg4
  z4 := Tryd.sizeOf4
  v4 := Tryd.zeroValue4
  t5 := Tryd.underlying5
  a5 := Tryd.isAgg5
  z5 := Tryd.sizeOf5
  v5 := Tryd.zeroValue5
  t9 := Tryd.underlying9
  a9 := Tryd.isAgg9
  z9 := Tryd.sizeOf9
  v9 := Tryd.zeroValue9
  t21 := Tryd.underlying21
  a21 := Tryd.isAgg21
  z21 := Tryd.sizeOf21
  v21 := Tryd.zeroValue21
  t46 := Tryd.underlying106
  a46 := Tryd.isAgg106
  z46 := Tryd.sizeOf106
  v46 := Tryd.zeroValue106
  t105 := Tryd.underlying101
  a105 := Tryd.isAgg101
  z105 := Tryd.sizeOf101
  v105 := Tryd.zeroValue101
  t119 := Tryd.underlying123
  a119 := Tryd.isAgg123
  z119 := Tryd.sizeOf123
  t138 := Tryd.underlying150
  a138 := Tryd.isAgg150
  z138 := Tryd.sizeOf150
  v138 := Tryd.zeroValue150
  t139 := Tryd.underlying151
  a139 := Tryd.isAgg151
  z139 := Tryd.sizeOf151
  v139 := Tryd.zeroValue151
  g3 := by kernel_rfl
  g4 := by kernel_rfl }
open Go.RowKit Go.Lib in
/-- **unicode/utf8.DecodeRuneInString AT EVERY STRING.** (LAID: no walk: one application.) -/
theorem Tryd.utf8_DecodeRuneInString (s : ByteArray) (w : World) (hT : Lib.Utf8Tabs 7 8 w) :
    Calls Tryd.prog 76 #[.string s] w fun e w' => e = .returned (.tuple #[.int .i32 (Lib.decodeGo s).1, .int .i64 (Lib.decodeGo s).2]) ∧ Below w.heap.size w w' := Any.utf8_DecodeRuneInString Tryd.lays197 s w hT
def Tryd.lays311_ren : Go.Shelf.Ren := ⟨fun | 311 => 124 | n => n, fun | 193 => 155 | 49 => 159 | 4 => 4 | 3 => 3 | 0 => 0 | 226 => 184 | 198 => 161 | 46 => 106 | n => n, fun | n => n⟩
theorem Tryd.lays311 : Go.Proofs.Lays.n311 Tryd.prog Tryd.lays311_ren := {
  mixed := by kernel_rfl
  f311 := Tryd.func124.trans (congrArg some (by kernel_rfl))
  t0 := Tryd.underlying0
  a0 := Tryd.isAgg0
  z0 := Tryd.sizeOf0
  v0 := Tryd.zeroValue0
  t3 := Tryd.underlying3
  a3 := Tryd.isAgg3
  z3 := Tryd.sizeOf3
  v3 := Tryd.zeroValue3
  t4 := Tryd.underlying4
  a4 := Tryd.isAgg4
  z4 := Tryd.sizeOf4
  v4 := Tryd.zeroValue4
  t46 := Tryd.underlying106
  a46 := Tryd.isAgg106
  z46 := Tryd.sizeOf106
  v46 := Tryd.zeroValue106
  t49 := Tryd.underlying159
  a49 := Tryd.isAgg159
  z49 := Tryd.sizeOf159
  v49 := Tryd.zeroValue159
  t193 := Tryd.underlying155
  a193 := Tryd.isAgg155
  z193 := Tryd.sizeOf155
  v193 := Tryd.zeroValue155
  t198 := Tryd.underlying161
  a198 := Tryd.isAgg161
  z198 := Tryd.sizeOf161
  v198 := Tryd.zeroValue161
  t226 := Tryd.underlying184
  a226 := Tryd.isAgg184
  z226 := Tryd.sizeOf184
  v226 := Tryd.zeroValue184 }
open Go.RowKit Go.Lib in
theorem Tryd.unicode_is16_white (R oR : Nat) (z : Nat) (w : World) (hz : z < 65536) (hz0 : 255 < z) (c6 : w.cell? ⟨R, oR + 6, none⟩ = some (.int .u16 160)) (c7 : w.cell? ⟨R, oR + 7, none⟩ = some (.int .u16 5760)) (c8 : w.cell? ⟨R, oR + 8, none⟩ = some (.int .u16 5600)) (c9 : w.cell? ⟨R, oR + 9, none⟩ = some (.int .u16 8192)) (c10 : w.cell? ⟨R, oR + 10, none⟩ = some (.int .u16 8202)) (c11 : w.cell? ⟨R, oR + 11, none⟩ = some (.int .u16 1)) (c12 : w.cell? ⟨R, oR + 12, none⟩ = some (.int .u16 8232)) (c13 : w.cell? ⟨R, oR + 13, none⟩ = some (.int .u16 8233)) (c14 : w.cell? ⟨R, oR + 14, none⟩ = some (.int .u16 1)) (c15 : w.cell? ⟨R, oR + 15, none⟩ = some (.int .u16 8239)) (c16 : w.cell? ⟨R, oR + 16, none⟩ = some (.int .u16 8287)) (c17 : w.cell? ⟨R, oR + 17, none⟩ = some (.int .u16 48)) (c18 : w.cell? ⟨R, oR + 18, none⟩ = some (.int .u16 12288)) (c19 : w.cell? ⟨R, oR + 19, none⟩ = some (.int .u16 12288)) (c20 : w.cell? ⟨R, oR + 20, none⟩ = some (.int .u16 1)) :
    Calls Tryd.prog 124 #[.slice (some ⟨R, oR + 6, none⟩) 5 5, .int .u16 z] w fun e w' => e = .returned (.bool (Lib.isSpaceR z)) ∧ Below w.heap.size w w' := Any.unicode_is16_white Tryd.lays311 R oR z w hz hz0 c6 c7 c8 c9 c10 c11 c12 c13 c14 c15 c16 c17 c18 c19 c20
def Tryd.lays261_ren : Go.Shelf.Ren := ⟨fun | 261 => 99 | 311 => 124 | 312 => 125 | n => n, fun | 141 => 125 | 21 => 21 | 4 => 4 | 0 => 0 | 196 => 158 | 193 => 155 | 3 => 3 | 51 => 93 | 198 => 161 | 49 => 159 | 194 => 156 | 201 => 164 | 226 => 184 | 46 => 106 | 227 => 185 | n => n, fun | n => n⟩
theorem Tryd.lays261 : Go.Proofs.Lays.n261 Tryd.prog Tryd.lays261_ren := {
  mixed := by kernel_rfl
  f261 := Tryd.func99.trans (congrArg some (by kernel_rfl))
  f311 := Tryd.func124.trans (congrArg some (by kernel_rfl))
  f312 := Tryd.func125.trans (congrArg some (by kernel_rfl))
  t0 := Tryd.underlying0
  a0 := Tryd.isAgg0
  z0 := Tryd.sizeOf0
  v0 := Tryd.zeroValue0
  t3 := Tryd.underlying3
  a3 := Tryd.isAgg3
  z3 := Tryd.sizeOf3
  v3 := Tryd.zeroValue3
  t4 := Tryd.underlying4
  a4 := Tryd.isAgg4
  z4 := Tryd.sizeOf4
  v4 := Tryd.zeroValue4
  t21 := Tryd.underlying21
  a21 := Tryd.isAgg21
  z21 := Tryd.sizeOf21
  v21 := Tryd.zeroValue21
  t46 := Tryd.underlying106
  a46 := Tryd.isAgg106
  z46 := Tryd.sizeOf106
  v46 := Tryd.zeroValue106
  t49 := Tryd.underlying159
  a49 := Tryd.isAgg159
  z49 := Tryd.sizeOf159
  v49 := Tryd.zeroValue159
  t51 := Tryd.underlying93
  a51 := Tryd.isAgg93
  z51 := Tryd.sizeOf93
  v51 := Tryd.zeroValue93
  t141 := Tryd.underlying125
  a141 := Tryd.isAgg125
  z141 := Tryd.sizeOf125
  v141 := Tryd.zeroValue125
  t193 := Tryd.underlying155
  a193 := Tryd.isAgg155
  z193 := Tryd.sizeOf155
  v193 := Tryd.zeroValue155
  t194 := Tryd.underlying156
  a194 := Tryd.isAgg156
  z194 := Tryd.sizeOf156
  v194 := Tryd.zeroValue156
  t196 := Tryd.underlying158
  a196 := Tryd.isAgg158
  z196 := Tryd.sizeOf158
  v196 := Tryd.zeroValue158
  t198 := Tryd.underlying161
  a198 := Tryd.isAgg161
  z198 := Tryd.sizeOf161
  v198 := Tryd.zeroValue161
  t201 := Tryd.underlying164
  a201 := Tryd.isAgg164
  z201 := Tryd.sizeOf164
  v201 := Tryd.zeroValue164
  t226 := Tryd.underlying184
  a226 := Tryd.isAgg184
  z226 := Tryd.sizeOf184
  v226 := Tryd.zeroValue184
  t227 := Tryd.underlying185
  a227 := Tryd.isAgg185
  z227 := Tryd.sizeOf185
  v227 := Tryd.zeroValue185 }
open Go.RowKit Go.Lib in
/-- unicode.isExcludingLatin(White_Space, r), r beyond U+00FF or negative. (LAID: no walk: one application.) -/
theorem Tryd.unicode_isExcludingLatin_white (T oT R oR : Nat) (r : Int) (w : World) (hlo : -2147483648 ≤ r) (hhi : r ≤ 2147483647) (hr : r < 0 ∨ 255 < r) (h2 : w.cell? ⟨T, oT, none⟩ = some (.slice (some ⟨R, oR, none⟩) 7 7)) (h3 : w.cell? ⟨T, oT + 1, none⟩ = some (.slice none 0 0)) (h4 : w.cell? ⟨T, oT + 2, none⟩ = some (.int .i64 2)) (h5 : ∀ i, i < 21 → w.cell? ⟨R, oR + i, none⟩ = some (.int .u16 (whiteT.getD i 0))) :
    Calls Tryd.prog 99 #[.pointer (some ⟨T, oT, none⟩), .int .i32 r] w fun e w' => e = .returned (.bool (Lib.isSpaceZ r)) ∧ Below w.heap.size w w' := Any.unicode_isExcludingLatin_white Tryd.lays261 T oT R oR r w hlo hhi hr h2 h3 h4 h5
open Go.RowKit Go.Lib in
/-- **unicode.IsSpace AT EVERY int32.** (LAID: no walk: one application.) -/
theorem Tryd.unicode_IsSpace_any (r : Int) (w : World) (hlo : -2147483648 ≤ r) (hhi : r ≤ 2147483647) (hW : Lib.WhiteTab 4 w) :
    Calls Tryd.prog 82 #[.int .i32 r] w fun e w' => e = .returned (.bool (Lib.isSpaceZ r)) ∧ Below w.heap.size w w' := Any.unicode_IsSpace_any Tryd.lays199 r w hlo hhi hW
def Tryd.lays271_ren : Go.Shelf.Ren := ⟨fun | 271 => 140 | 120 => 146 | 197 => 76 | 260 => 97 | n => n, fun | 9 => 9 | 21 => 21 | 3 => 3 | 4 => 4 | 5 => 5 | 105 => 101 | 119 => 123 | 0 => 0 | 46 => 106 | 139 => 151 | 138 => 150 | n => n, fun | 3 => 7 | 4 => 8 | n => n⟩
theorem Tryd.lays271 : Go.Proofs.Lays.n271 Tryd.prog Tryd.lays271_ren := {
  mixed := by kernel_rfl
  f120 := Tryd.func146.trans (congrArg some (by kernel_rfl))
  f197 := Tryd.func76.trans (congrArg some (by kernel_rfl))
  f260 := Tryd.func97.trans (congrArg some (by kernel_rfl))
  f271 := Tryd.func140.trans (congrArg some (by kernel_rfl))
  t0 := Tryd.underlying0
  a0 := Tryd.isAgg0
  z0 := Tryd.sizeOf0
  v0 := Tryd.zeroValue0
  t3 := Tryd.underlying3
  a3 := Tryd.isAgg3
  z3 := Tryd.sizeOf3
  v3 := Tryd.zeroValue3
  t4 := Tryd.underlying4
  a4 := Tryd.isAgg4
  z4 := Tryd.sizeOf4
  v4 := Tryd.zeroValue4
  t5 := Tryd.underlying5
  a5 := Tryd.isAgg5
  z5 := Tryd.sizeOf5
  v5 := Tryd.zeroValue5
  t9 := Tryd.underlying9
  a9 := Tryd.isAgg9
  z9 := Tryd.sizeOf9
  v9 := Tryd.zeroValue9
  t21 := Tryd.underlying21
  a21 := Tryd.isAgg21
  z21 := Tryd.sizeOf21
  v21 := Tryd.zeroValue21
  t46 := Tryd.underlying106
  a46 := Tryd.isAgg106
  z46 := Tryd.sizeOf106
  v46 := Tryd.zeroValue106
  t105 := Tryd.underlying101
  a105 := Tryd.isAgg101
  z105 := Tryd.sizeOf101
  v105 := Tryd.zeroValue101
  t119 := Tryd.underlying123
  a119 := Tryd.isAgg123
  z119 := Tryd.sizeOf123
  t138 := Tryd.underlying150
  a138 := Tryd.isAgg150
  z138 := Tryd.sizeOf150
  v138 := Tryd.zeroValue150
  t139 := Tryd.underlying151
  a139 := Tryd.isAgg151
  z139 := Tryd.sizeOf151
  v139 := Tryd.zeroValue151
  g3 := by kernel_rfl
  g4 := by kernel_rfl }
open Go.RowKit Go.Lib in
/-- **unicode/utf8.DecodeLastRuneInString AT EVERY STRING.** (LAID: no walk: one application.) -/
theorem Tryd.utf8_DecodeLastRuneInString (s : ByteArray) (w : World) (hs : s.size ≤ 9223372036854775807) (hT : Lib.Utf8Tabs 7 8 w) :
    Calls Tryd.prog 140 #[.string s] w fun e w' => e = .returned (.tuple #[.int .i32 (Lib.decodeLastL s.data.toList).1, .int .i64 (Lib.decodeLastL s.data.toList).2]) ∧ Below w.heap.size w w' := Any.utf8_DecodeLastRuneInString Tryd.lays271 s w hs hT
open Go.RowKit in
theorem Tryd.strings_TrimSpace_any (s : ByteArray) (w : World) (hs : s.size ≤ 9223372036854775807) (htab : Lib.TabIs Tryd.prog w "strings.asciiSpace" .u8 Lib.asciiSpaceTab) (hU8 : Lib.Utf8Tabs 7 8 w) (hWS : Lib.WhiteTab 4 w) :
    Calls Tryd.prog 85 #[.string s] w fun e w' => e = .returned (.string ⟨(Lib.trimSpaceD s.data.toList).toArray⟩) ∧ Below w.heap.size w w' := Any.strings_TrimSpace_any Tryd.lays163 Tryd.Space_Extra_163 s w hs htab hU8 hWS
def Tryd.lays274_ren : Go.Shelf.Ren := ⟨fun | 274 => 122 | n => n, fun | 21 => 21 | 162 => 122 | 160 => 152 | 3 => 3 | 4 => 4 | 46 => 106 | 0 => 0 | 208 => 183 | 51 => 93 | 206 => 181 | n => n, fun | n => n⟩
theorem Tryd.lays274 : Go.Proofs.Lays.n274 Tryd.prog Tryd.lays274_ren := {
  mixed := by kernel_rfl
  f274 := Tryd.func122.trans (congrArg some (by kernel_rfl))
  t0 := Tryd.underlying0
  a0 := Tryd.isAgg0
  z0 := Tryd.sizeOf0
  v0 := Tryd.zeroValue0
  t3 := Tryd.underlying3
  a3 := Tryd.isAgg3
  z3 := Tryd.sizeOf3
  v3 := Tryd.zeroValue3
  t4 := Tryd.underlying4
  a4 := Tryd.isAgg4
  z4 := Tryd.sizeOf4
  v4 := Tryd.zeroValue4
  t21 := Tryd.underlying21
  a21 := Tryd.isAgg21
  z21 := Tryd.sizeOf21
  v21 := Tryd.zeroValue21
  t46 := Tryd.underlying106
  a46 := Tryd.isAgg106
  z46 := Tryd.sizeOf106
  v46 := Tryd.zeroValue106
  t51 := Tryd.underlying93
  a51 := Tryd.isAgg93
  z51 := Tryd.sizeOf93
  v51 := Tryd.zeroValue93
  t160 := Tryd.underlying152
  a160 := Tryd.isAgg152
  z160 := Tryd.sizeOf152
  v160 := Tryd.zeroValue152
  t162 := Tryd.underlying122
  a162 := Tryd.isAgg122
  z162 := Tryd.sizeOf122
  v162 := Tryd.zeroValue122
  t208 := Tryd.underlying183
  a208 := Tryd.isAgg183
  z208 := Tryd.sizeOf183
  v208 := Tryd.zeroValue183 }
open Go.RowKit Go.Lib in
theorem Tryd.unicode_lookupCaseRange (T : Array CaseRow) (R oR cap : Nat) (r : Int) (w : World) (hT : CaseTab R oR T w) (hok : CaseOk T) (hn : T.size ≤ 1000000000) :
    Calls Tryd.prog 122 #[.int .i32 r, .slice (some ⟨R, oR, none⟩) T.size cap] w fun e w' =>
      e = .returned (match lookupIdx T r (T.size + 1) 0 T.size with | some i => .pointer (some ⟨R, oR + i * 5, none⟩) | none => .pointer none) ∧ w' = w := Any.unicode_lookupCaseRange Tryd.lays274 T R oR cap r w hT hok hn
def Tryd.lays275_ren : Go.Shelf.Ren := ⟨fun | 275 => 123 | n => n, fun | 3 => 3 | 21 => 21 | 160 => 152 | 0 => 0 | 208 => 183 | 206 => 181 | 4 => 4 | 51 => 93 | n => n, fun | n => n⟩
theorem Tryd.lays275 : Go.Proofs.Lays.n275 Tryd.prog Tryd.lays275_ren := {
  mixed := by kernel_rfl
  f275 := Tryd.func123.trans (congrArg some (by kernel_rfl))
  t0 := Tryd.underlying0
  a0 := Tryd.isAgg0
  z0 := Tryd.sizeOf0
  v0 := Tryd.zeroValue0
  t3 := Tryd.underlying3
  a3 := Tryd.isAgg3
  z3 := Tryd.sizeOf3
  v3 := Tryd.zeroValue3
  t4 := Tryd.underlying4
  a4 := Tryd.isAgg4
  z4 := Tryd.sizeOf4
  v4 := Tryd.zeroValue4
  t21 := Tryd.underlying21
  a21 := Tryd.isAgg21
  z21 := Tryd.sizeOf21
  v21 := Tryd.zeroValue21
  t51 := Tryd.underlying93
  a51 := Tryd.isAgg93
  z51 := Tryd.sizeOf93
  v51 := Tryd.zeroValue93
  t160 := Tryd.underlying152
  a160 := Tryd.isAgg152
  z160 := Tryd.sizeOf152
  v160 := Tryd.zeroValue152
  t206 := Tryd.underlying181
  a206 := Tryd.isAgg181
  z206 := Tryd.sizeOf181
  v206 := Tryd.zeroValue181
  t208 := Tryd.underlying183
  a208 := Tryd.isAgg183
  z208 := Tryd.sizeOf183
  v208 := Tryd.zeroValue183 }
open Go.RowKit Go.Lib in
theorem Tryd.unicode_convertCase (c : Nat) (hc : c < 3) (r : Int) (A o : Nat) (x : CaseRow) (w : World) (hlo : (x.1 : Int) ≤ r) (hhi : r ≤ (x.2.1 : Int)) (hH : x.2.1 < 2147483647) (c0 : w.cell? ⟨A, o, none⟩ = some (.int .u32 x.1)) (cD : w.cell? ⟨A, o + 2 + c, none⟩ = some (.int .i32 (x.delta c))) :
    Calls Tryd.prog 123 #[.int .i64 c, .int .i32 r, .pointer (some ⟨A, o, none⟩)] w fun e w' => e = .returned (.int .i32 (wrap32 (convertR c r x))) ∧ ∃ q, w' = w.drewN q := Any.unicode_convertCase Tryd.lays275 c hc r A o x w hlo hhi hH c0 cD
def Tryd.lays313_ren : Go.Shelf.Ren := ⟨fun | 313 => 98 | 274 => 122 | 275 => 123 | n => n, fun | 3 => 3 | 21 => 21 | 162 => 122 | 4 => 4 | 160 => 152 | 46 => 106 | 0 => 0 | 208 => 183 | 51 => 93 | 206 => 181 | n => n, fun | n => n⟩
theorem Tryd.lays313 : Go.Proofs.Lays.n313 Tryd.prog Tryd.lays313_ren := {
  mixed := by kernel_rfl
  f274 := Tryd.func122.trans (congrArg some (by kernel_rfl))
  f275 := Tryd.func123.trans (congrArg some (by kernel_rfl))
  f313 := Tryd.func98.trans (congrArg some (by kernel_rfl))
  t0 := Tryd.underlying0
  a0 := Tryd.isAgg0
  z0 := Tryd.sizeOf0
  v0 := Tryd.zeroValue0
  t3 := Tryd.underlying3
  a3 := Tryd.isAgg3
  z3 := Tryd.sizeOf3
  v3 := Tryd.zeroValue3
  t4 := Tryd.underlying4
  a4 := Tryd.isAgg4
  z4 := Tryd.sizeOf4
  v4 := Tryd.zeroValue4
  t21 := Tryd.underlying21
  a21 := Tryd.isAgg21
  z21 := Tryd.sizeOf21
  v21 := Tryd.zeroValue21
  t46 := Tryd.underlying106
  a46 := Tryd.isAgg106
  z46 := Tryd.sizeOf106
  v46 := Tryd.zeroValue106
  t51 := Tryd.underlying93
  a51 := Tryd.isAgg93
  z51 := Tryd.sizeOf93
  v51 := Tryd.zeroValue93
  t160 := Tryd.underlying152
  a160 := Tryd.isAgg152
  z160 := Tryd.sizeOf152
  v160 := Tryd.zeroValue152
  t162 := Tryd.underlying122
  a162 := Tryd.isAgg122
  z162 := Tryd.sizeOf122
  v162 := Tryd.zeroValue122
  t206 := Tryd.underlying181
  a206 := Tryd.isAgg181
  z206 := Tryd.sizeOf181
  v206 := Tryd.zeroValue181
  t208 := Tryd.underlying183
  a208 := Tryd.isAgg183
  z208 := Tryd.sizeOf183
  v208 := Tryd.zeroValue183 }
open Go.RowKit Go.Lib in
theorem Tryd.unicode_to (c : Nat) (hc : c < 3) (r : Int) (T : Array CaseRow) (R oR cap : Nat) (w : World) (hT : CaseTab R oR T w) (hok : CaseOk2 T) (hn : T.size ≤ 1000000000) :
    Calls Tryd.prog 98 #[.int .i64 c, .int .i32 r, .slice (some ⟨R, oR, none⟩) T.size cap] w fun e w' => e = .returned (.tuple #[.int .i32 (toW T c r), .bool (lookupIdx T r (T.size + 1) 0 T.size).isSome]) ∧ ∃ q, w' = w.drewN q := Any.unicode_to Tryd.lays313 c hc r T R oR cap w hT hok hn
def Tryd.lays262_ren : Go.Shelf.Ren := ⟨fun | 262 => 79 | 313 => 98 | 274 => 122 | 275 => 123 | n => n, fun | 3 => 3 | 21 => 21 | 162 => 122 | 203 => 120 | 4 => 4 | 160 => 152 | 46 => 106 | 0 => 0 | 208 => 183 | 51 => 93 | 206 => 181 | n => n, fun | 13 => 0 | n => n⟩
theorem Tryd.lays262 : Go.Proofs.Lays.n262 Tryd.prog Tryd.lays262_ren := {
  mixed := by kernel_rfl
  f262 := Tryd.func79.trans (congrArg some (by kernel_rfl))
  f274 := Tryd.func122.trans (congrArg some (by kernel_rfl))
  f275 := Tryd.func123.trans (congrArg some (by kernel_rfl))
  f313 := Tryd.func98.trans (congrArg some (by kernel_rfl))
  t0 := Tryd.underlying0
  a0 := Tryd.isAgg0
  z0 := Tryd.sizeOf0
  v0 := Tryd.zeroValue0
  t3 := Tryd.underlying3
  a3 := Tryd.isAgg3
  z3 := Tryd.sizeOf3
  v3 := Tryd.zeroValue3
  t4 := Tryd.underlying4
  a4 := Tryd.isAgg4
  z4 := Tryd.sizeOf4
  v4 := Tryd.zeroValue4
  t21 := Tryd.underlying21
  a21 := Tryd.isAgg21
  z21 := Tryd.sizeOf21
  v21 := Tryd.zeroValue21
  t46 := Tryd.underlying106
  a46 := Tryd.isAgg106
  z46 := Tryd.sizeOf106
  v46 := Tryd.zeroValue106
  t51 := Tryd.underlying93
  a51 := Tryd.isAgg93
  z51 := Tryd.sizeOf93
  v51 := Tryd.zeroValue93
  t160 := Tryd.underlying152
  a160 := Tryd.isAgg152
  z160 := Tryd.sizeOf152
  v160 := Tryd.zeroValue152
  t162 := Tryd.underlying122
  a162 := Tryd.isAgg122
  z162 := Tryd.sizeOf122
  v162 := Tryd.zeroValue122
  t203 := Tryd.underlying120
  a203 := Tryd.isAgg120
  z203 := Tryd.sizeOf120
  v203 := Tryd.zeroValue120
  t206 := Tryd.underlying181
  a206 := Tryd.isAgg181
  z206 := Tryd.sizeOf181
  v206 := Tryd.zeroValue181
  t208 := Tryd.underlying183
  a208 := Tryd.isAgg183
  z208 := Tryd.sizeOf183
  v208 := Tryd.zeroValue183
  g13 := by kernel_rfl }
open Go.RowKit Go.Lib in
theorem Tryd.unicode_To (c : Nat) (hc : c < 3) (r : Int) (T : Array CaseRow) (w : World) (hV : CaseVar 0 T w) (hok : CaseOk2 T) (hn : T.size ≤ 1000000000) :
    Calls Tryd.prog 79 #[.int .i64 c, .int .i32 r] w fun e w' => e = .returned (.int .i32 (toW T c r)) ∧ ∃ q, w' = w.drewN q := Any.unicode_To Tryd.lays262 c hc r T w hV hok hn
open Go.RowKit Go.Lib in
theorem Tryd.unicode_ToLower_any (r : Int) (T : Array CaseRow) (w : World) (hV : CaseVar 0 T w) (hok : CaseOk2 T) (hn : T.size ≤ 1000000000) :
    Calls Tryd.prog 57 #[.int .i32 r] w fun e w' => e = .returned (.int .i32 (Lib.toLowerW T r)) ∧ ∃ q, w' = w.drewN q := Any.unicode_ToLower_any Tryd.lays204 r T w hV hok hn
open Go.RowKit Go.Lib in
theorem Tryd.unicode_ToUpper_any (r : Int) (T : Array CaseRow) (w : World) (hV : CaseVar 0 T w) (hok : CaseOk2 T) (hn : T.size ≤ 1000000000) :
    Calls Tryd.prog 60 #[.int .i32 r] w fun e w' => e = .returned (.int .i32 (Lib.toUpperW T r)) ∧ ∃ q, w' = w.drewN q := Any.unicode_ToUpper_any Tryd.lays203 r T w hV hok hn
open Go.RowKit Go.Lib in
theorem Tryd.unicode_ToLower_laid (r : Int) (w : World) (hV : CaseVar 0 caseA w) :
    Calls Tryd.prog 57 #[.int .i32 r] w fun e w' => e = .returned (.int .i32 (toLowerU r)) ∧ ∃ q, w' = w.drewN q := Any.unicode_ToLower_laid Tryd.lays204 r w hV
open Go.RowKit Go.Lib in
theorem Tryd.unicode_ToUpper_laid (r : Int) (w : World) (hV : CaseVar 0 caseA w) :
    Calls Tryd.prog 60 #[.int .i32 r] w fun e w' => e = .returned (.int .i32 (toUpperU r)) ∧ ∃ q, w' = w.drewN q := Any.unicode_ToUpper_laid Tryd.lays203 r w hV
def Tryd.lays270_ren : Go.Shelf.Ren := ⟨fun | 270 => 78 | n => n, fun | 70 => 80 | 3 => 3 | 0 => 0 | 72 => 82 | 37 => 62 | 5 => 5 | n => n, fun | n => n⟩
theorem Tryd.lays270 : Go.Proofs.Lays.n270 Tryd.prog Tryd.lays270_ren := {
  mixed := by kernel_rfl
  f270 := Tryd.func78.trans (congrArg some (by kernel_rfl))
  t0 := Tryd.underlying0
  a0 := Tryd.isAgg0
  z0 := Tryd.sizeOf0
  v0 := Tryd.zeroValue0
  t3 := Tryd.underlying3
  a3 := Tryd.isAgg3
  z3 := Tryd.sizeOf3
  v3 := Tryd.zeroValue3
  t37 := Tryd.underlying62
  a37 := Tryd.isAgg62
  z37 := Tryd.sizeOf62
  v37 := Tryd.zeroValue62
  t70 := Tryd.underlying80
  a70 := Tryd.isAgg80
  z70 := Tryd.sizeOf80
  v70 := Tryd.zeroValue80
  t72 := Tryd.underlying82
  a72 := Tryd.isAgg82
  z72 := Tryd.sizeOf82
  v72 := Tryd.zeroValue82 }
open Go.RowKit Go.Lib in
/-- (*strings.Builder).Cap: "Cap returns the capacity of the builder's underlying byte slice." (LAID: no walk: one application.) -/
theorem Tryd.Builder_Cap_cell (b : Nat) (p : Option Addr) (n cap : Nat) (w : World) (c1 : w.cell? ⟨b, 1, none⟩ = some (.slice p n cap)) :
    Calls Tryd.prog 78 #[.pointer (some ⟨b, 0, none⟩)] w fun e w' => e = .returned (.int .i64 cap) ∧ w' = w := Any.Builder_Cap_cell Tryd.lays270 b p n cap w c1
def Tryd.lays230_ren : Go.Shelf.Ren := ⟨fun | 230 => 56 | 197 => 76 | 118 => 77 | 165 => 54 | 166 => 48 | 168 => 49 | 270 => 78 | 167 => 55 | 169 => 51 | 260 => 97 | 240 => 70 | 241 => 75 | 242 => 43 | 276 => 93 | 277 => 96 | 278 => 62 | n => n, fun | 107 => 92 | 9 => 9 | 72 => 82 | 0 => 0 | 4 => 4 | 3 => 3 | 21 => 21 | 105 => 101 | 76 => 85 | 5 => 5 | 75 => 84 | 70 => 80 | 20 => 20 | 37 => 62 | 127 => 100 | 119 => 123 | 46 => 106 | 139 => 151 | 138 => 150 | 164 => 115 | 51 => 93 | 80 => 68 | n => n, fun | 3 => 7 | 4 => 8 | n => n⟩
theorem Tryd.lays230 : Go.Proofs.Lays.n230 Tryd.prog Tryd.lays230_ren := {
  mixed := by kernel_rfl
  f118 := Tryd.func77.trans (congrArg some (by kernel_rfl))
  f165 := Tryd.func54.trans (congrArg some (by kernel_rfl))
  f166 := Tryd.func48.trans (congrArg some (by kernel_rfl))
  f167 := Tryd.func55.trans (congrArg some (by kernel_rfl))
  f168 := Tryd.func49.trans (congrArg some (by kernel_rfl))
  f169 := Tryd.func51.trans (congrArg some (by kernel_rfl))
  f197 := Tryd.func76.trans (congrArg some (by kernel_rfl))
  f230 := Tryd.func56.trans (congrArg some (by kernel_rfl))
  f240 := Tryd.func70.trans (congrArg some (by kernel_rfl))
  f241 := Tryd.func75.trans (congrArg some (by kernel_rfl))
  f242 := Tryd.func43.trans (congrArg some (by kernel_rfl))
  f260 := Tryd.func97.trans (congrArg some (by kernel_rfl))
  f270 := Tryd.func78.trans (congrArg some (by kernel_rfl))
  f276 := Tryd.func93.trans (congrArg some (by kernel_rfl))
  f277 := Tryd.func96.trans (congrArg some (by kernel_rfl))
  f278 := Tryd.func62.trans (congrArg some (by kernel_rfl))
  t0 := Tryd.underlying0
  a0 := Tryd.isAgg0
  z0 := Tryd.sizeOf0
  v0 := Tryd.zeroValue0
  t3 := Tryd.underlying3
  a3 := Tryd.isAgg3
  z3 := Tryd.sizeOf3
  v3 := Tryd.zeroValue3
  t4 := Tryd.underlying4
  a4 := Tryd.isAgg4
  z4 := Tryd.sizeOf4
  v4 := Tryd.zeroValue4
  t5 := Tryd.underlying5
  a5 := Tryd.isAgg5
  z5 := Tryd.sizeOf5
  v5 := Tryd.zeroValue5
  t9 := Tryd.underlying9
  a9 := Tryd.isAgg9
  z9 := Tryd.sizeOf9
  v9 := Tryd.zeroValue9
  t20 := Tryd.underlying20
  a20 := Tryd.isAgg20
  z20 := Tryd.sizeOf20
  v20 := Tryd.zeroValue20
  t21 := Tryd.underlying21
  a21 := Tryd.isAgg21
  z21 := Tryd.sizeOf21
  v21 := Tryd.zeroValue21
  t37 := Tryd.underlying62
  a37 := Tryd.isAgg62
  z37 := Tryd.sizeOf62
  v37 := Tryd.zeroValue62
  t46 := Tryd.underlying106
  a46 := Tryd.isAgg106
  z46 := Tryd.sizeOf106
  v46 := Tryd.zeroValue106
  t51 := Tryd.underlying93
  a51 := Tryd.isAgg93
  z51 := Tryd.sizeOf93
  v51 := Tryd.zeroValue93
  t70 := Tryd.underlying80
  a70 := Tryd.isAgg80
  z70 := Tryd.sizeOf80
  v70 := Tryd.zeroValue80
  t72 := Tryd.underlying82
  a72 := Tryd.isAgg82
  z72 := Tryd.sizeOf82
  v72 := Tryd.zeroValue82
  t75 := Tryd.underlying84
  a75 := Tryd.isAgg84
  z75 := Tryd.sizeOf84
  v75 := Tryd.zeroValue84
  t76 := Tryd.underlying85
  a76 := Tryd.isAgg85
  z76 := Tryd.sizeOf85
  v76 := Tryd.zeroValue85
  t105 := Tryd.underlying101
  a105 := Tryd.isAgg101
  z105 := Tryd.sizeOf101
  v105 := Tryd.zeroValue101
  t107 := Tryd.underlying92
  a107 := Tryd.isAgg92
  z107 := Tryd.sizeOf92
  v107 := Tryd.zeroValue92
  t119 := Tryd.underlying123
  a119 := Tryd.isAgg123
  z119 := Tryd.sizeOf123
  t127 := Tryd.underlying100
  a127 := Tryd.isAgg100
  z127 := Tryd.sizeOf100
  v127 := Tryd.zeroValue100
  t138 := Tryd.underlying150
  a138 := Tryd.isAgg150
  z138 := Tryd.sizeOf150
  v138 := Tryd.zeroValue150
  t139 := Tryd.underlying151
  a139 := Tryd.isAgg151
  z139 := Tryd.sizeOf151
  v139 := Tryd.zeroValue151
  t164 := Tryd.underlying115
  a164 := Tryd.isAgg115
  z164 := Tryd.sizeOf115
  v164 := Tryd.zeroValue115
  g3 := by kernel_rfl
  g4 := by kernel_rfl }
theorem Tryd.Builder_Extra_230 : Builder.Extra Tryd.prog Tryd.lays230_ren := {
  sizeBuilder := by kernel_rfl
  liesBuilder := by kernel_rfl
  t5 := Tryd.underlying5
  a5 := Tryd.isAgg5
  z5 := Tryd.sizeOf5
  v5 := Tryd.zeroValue5
  infoByte := by kernel_rfl
  cellsByte := by kernel_rfl
  sizeByte := by kernel_rfl
  neB5 := by decide }
open Go.RowKit Go.Lib in
theorem Tryd.strings_Map_runes (g : Nat) (lb : Array Value) (eg : ∀ args w, (callFunc g args).run Tryd.prog w = .ok (.enter g args) w) (f : Int → Int) (s : ByteArray) (w : World) (hs : s.size < 35184372088832) (hf : MapAtRunes Tryd.prog g lb f w) (hnn : ∀ x : Nat, x ≤ 1114111 → 0 ≤ f x ∧ f x ≤ 2147483647) (hT : Lib.Utf8Tabs 7 8 w) :
    Calls Tryd.prog 56 #[.func (.func g) #[] lb, .string s] w fun e w' => e = .returned (.string ⟨(Lib.mapD f s.data.toList).toArray⟩) ∧ Below w.heap.size w w' := Any.strings_Map_runes Tryd.lays230 Tryd.Builder_Extra_230 g lb eg f s w hs hf hnn hT
open Go.RowKit Go.Lib in
theorem Tryd.strings_ToLower_beyond (s : ByteArray) (w : World) (hs : s.size < 35184372088832) (hhigh : ∃ (j : Nat) (b : UInt8), s.data.toList[j]? = some b ∧ 128 ≤ b.toNat) (hV : CaseVar 0 caseA w) (hT : Lib.Utf8Tabs 7 8 w) :
    Calls Tryd.prog 39 #[.string s] w fun e w' => e = .returned (.string ⟨(Lib.toLowerD s.data.toList).toArray⟩) ∧ Below w.heap.size w w' := Any.strings_ToLower_beyond Tryd.lays159 Tryd.Builder_Extra_159 s w hs hhigh hV hT
open Go.RowKit Go.Lib in
/-- **strings.ToLower AT EVERY STRING, VALID UTF-8 OR NOT.** (LAID: no walk: one application.) -/
theorem Tryd.strings_ToLower_any (s : ByteArray) (w : World) (hs : s.size < 35184372088832) (hV : CaseVar 0 caseA w) (hT : Lib.Utf8Tabs 7 8 w) :
    Calls Tryd.prog 39 #[.string s] w fun e w' => e = .returned (.string ⟨(Lib.toLowerD s.data.toList).toArray⟩) ∧ Below w.heap.size w w' := Any.strings_ToLower_any Tryd.lays159 Tryd.Builder_Extra_159 s w hs hV hT
open Go.RowKit Go.Lib in
theorem Tryd.unicode_is16_any (T : Array Rg) (R oR cap : Nat) (z : Nat) (w : World) (hz : z < 65536) (hT : RgTab .u16 R oR T w) (hok : RgOk 65536 T) (hn : T.size ≤ 1000000000) :
    Calls Tryd.prog 124 #[.slice (some ⟨R, oR, none⟩) T.size cap, .int .u16 z] w fun e w' => e = .returned (.bool (is16Go T z)) ∧ ∃ q, w' = w.drewN q := Any.unicode_is16_any Tryd.lays311 T R oR cap z w hz hT hok hn
def Tryd.lays312_ren : Go.Shelf.Ren := ⟨fun | 312 => 125 | n => n, fun | 194 => 156 | 51 => 93 | 4 => 4 | 3 => 3 | 0 => 0 | 227 => 185 | 201 => 164 | 46 => 106 | n => n, fun | n => n⟩
theorem Tryd.lays312 : Go.Proofs.Lays.n312 Tryd.prog Tryd.lays312_ren := {
  mixed := by kernel_rfl
  f312 := Tryd.func125.trans (congrArg some (by kernel_rfl))
  t0 := Tryd.underlying0
  a0 := Tryd.isAgg0
  z0 := Tryd.sizeOf0
  v0 := Tryd.zeroValue0
  t3 := Tryd.underlying3
  a3 := Tryd.isAgg3
  z3 := Tryd.sizeOf3
  v3 := Tryd.zeroValue3
  t4 := Tryd.underlying4
  a4 := Tryd.isAgg4
  z4 := Tryd.sizeOf4
  v4 := Tryd.zeroValue4
  t46 := Tryd.underlying106
  a46 := Tryd.isAgg106
  z46 := Tryd.sizeOf106
  v46 := Tryd.zeroValue106
  t51 := Tryd.underlying93
  a51 := Tryd.isAgg93
  z51 := Tryd.sizeOf93
  v51 := Tryd.zeroValue93
  t194 := Tryd.underlying156
  a194 := Tryd.isAgg156
  z194 := Tryd.sizeOf156
  v194 := Tryd.zeroValue156
  t201 := Tryd.underlying164
  a201 := Tryd.isAgg164
  z201 := Tryd.sizeOf164
  v201 := Tryd.zeroValue164
  t227 := Tryd.underlying185
  a227 := Tryd.isAgg185
  z227 := Tryd.sizeOf185
  v227 := Tryd.zeroValue185 }
open Go.RowKit Go.Lib in
theorem Tryd.unicode_is32_any (T : Array Rg) (R oR cap : Nat) (z : Nat) (w : World) (hz : z < 4294967296) (hT : RgTab .u32 R oR T w) (hok : RgOk 4294967296 T) (hn : T.size ≤ 1000000000) :
    Calls Tryd.prog 125 #[.slice (some ⟨R, oR, none⟩) T.size cap, .int .u32 z] w fun e w' => e = .returned (.bool (is32Go T z)) ∧ Below w.heap.size w w' := Any.unicode_is32_any Tryd.lays312 T R oR cap z w hz hT hok hn
open Go.RowKit Go.Lib in
theorem Tryd.unicode_isExcludingLatin_any (Tb oT : Nat) (T : RTab) (r : Int) (w : World) (hlo : -2147483648 ≤ r) (hhi : r ≤ 2147483647) (hA : RTabAt Tb oT T w) (hok : RTabOk T) :
    Calls Tryd.prog 99 #[.pointer (some ⟨Tb, oT, none⟩), .int .i32 r] w fun e w' => e = .returned (.bool (exclGo T r)) ∧ Below w.heap.size w w' := Any.unicode_isExcludingLatin_any Tryd.lays261 Tb oT T r w hlo hhi hA hok
open Go.RowKit Go.Lib in
/-- unicode.IsLetter(r) AT EVERY int32, over whatever table the variable unicode.Letter leads to. (LAID: no walk: one application.) -/
theorem Tryd.unicode_IsLetter_any (T : RTab) (r : Int) (w : World) (hlo : -2147483648 ≤ r) (hhi : r ≤ 2147483647) (htab : Lib.TabIs Tryd.prog w "unicode.properties" .u8 Lib.propertiesTab) (hV : RVar 2 T w) (hok : RTabOk T) :
    Calls Tryd.prog 80 #[.int .i32 r] w fun e w' => e = .returned (.bool (if latin1 r then isLetterL r else exclGo T r)) ∧ Below w.heap.size w w' := Any.unicode_IsLetter_any Tryd.lays200 (by kernel_rfl) T r w hlo hhi htab hV hok
open Go.RowKit Go.Lib in
/-- unicode.IsDigit(r) AT EVERY int32, over whatever table the variable unicode.Digit leads to. (LAID: no walk: one application.) -/
theorem Tryd.unicode_IsDigit_any (T : RTab) (r : Int) (w : World) (hlo : -2147483648 ≤ r) (hhi : r ≤ 2147483647) (hV : RVar 3 T w) (hok : RTabOk T) :
    Calls Tryd.prog 81 #[.int .i32 r] w fun e w' => e = .returned (.bool (if r ≤ 255 then isDigitL r else exclGo T r)) ∧ Below w.heap.size w w' := Any.unicode_IsDigit_any Tryd.lays198 T r w hlo hhi hV hok
def Tryd.lays115_ren : Go.Shelf.Ren := ⟨fun | 115 => 63 | n => n, fun | 37 => 62 | 4 => 4 | 9 => 9 | 5 => 5 | n => n, fun | n => n⟩
theorem Tryd.lays115 : Go.Proofs.Lays.n115 Tryd.prog Tryd.lays115_ren := {
  mixed := by kernel_rfl
  f115 := Tryd.func63.trans (congrArg some (by kernel_rfl))
  t4 := Tryd.underlying4
  a4 := Tryd.isAgg4
  z4 := Tryd.sizeOf4
  v4 := Tryd.zeroValue4
  t9 := Tryd.underlying9
  a9 := Tryd.isAgg9
  z9 := Tryd.sizeOf9
  v9 := Tryd.zeroValue9
  t37 := Tryd.underlying62
  a37 := Tryd.isAgg62
  z37 := Tryd.sizeOf62
  v37 := Tryd.zeroValue62 }
/-- bytes.Equal: "Equal reports whether a and b are the same length and contain the same bytes. A nil argument is equivalent to an empty slice.": IT RETURNS 'the bytes of the one == the bytes of the other'; the world is as it was. THE TWO ARGUMENTS COME AS WHATEVER VALUES, each with the one fact that the walk wants of it: what 'string(..)' of it gives: for a slice whose cells you know: 'run_convert_bytes_arg' (Derived/Laws/BytesArg.lean) hands that fact; for a nil one: 'run_convert_bytes_nil' (with xs := []). (LAID: no walk: one application.) -/
theorem Tryd.bytes_Equal (v1 v2 : Value) (xs ys : List Int) (w : World) (h1 : (convert 62 9 v1).run Tryd.prog w = .ok (.string (strOfNums xs)) w) (h2 : (convert 62 9 v2).run Tryd.prog w = .ok (.string (strOfNums ys)) w) :
    Calls Tryd.prog 63 #[v1, v2] w fun e w' => e = .returned (.bool (Lib.bytesOf xs == Lib.bytesOf ys)) ∧ w' = w := Any.bytes_Equal Tryd.lays115 v1 v2 xs ys w h1 h2
def Tryd.laysnb116_ren : Go.Shelf.Ren := ⟨fun | 116 => 44 | 115 => 63 | n => n, fun | 37 => 62 | 4 => 4 | 3 => 3 | 9 => 9 | 5 => 5 | n => n, fun | n => n⟩
theorem Tryd.laysnb116 : Go.Proofs.Lays.nb116 Tryd.prog Tryd.laysnb116_ren := {
  mixed := by kernel_rfl
  f115 := Tryd.func63.trans (congrArg some (by kernel_rfl))
  f116 := Tryd.func44.trans (congrArg some (by kernel_rfl))
  t3 := Tryd.underlying3
  a3 := Tryd.isAgg3
  z3 := Tryd.sizeOf3
  v3 := Tryd.zeroValue3
  t4 := Tryd.underlying4
  a4 := Tryd.isAgg4
  z4 := Tryd.sizeOf4
  v4 := Tryd.zeroValue4
  t9 := Tryd.underlying9
  a9 := Tryd.isAgg9
  z9 := Tryd.sizeOf9
  v9 := Tryd.zeroValue9
  t37 := Tryd.underlying62
  a37 := Tryd.isAgg62
  z37 := Tryd.sizeOf62
  v37 := Tryd.zeroValue62
  t5 := Tryd.underlying5
  a5 := Tryd.isAgg5
  z5 := Tryd.sizeOf5
  v5 := Tryd.zeroValue5 }
/-- bytes.HasPrefix: "HasPrefix reports whether the byte slice s begins with prefix.": IT RETURNS 'Lib.hasPrefix (the bytes of s) (the bytes of prefix)'; the world is as it was. ITS CALLEE bytes.Equal IS MET BY ITS OWN CONTRACT OFF THE SHELF (lay that first). 'xs', 'ys': the numbers that the two slices' cells hold. (LAID: no walk: one application.) -/
theorem Tryd.bytes_HasPrefix (b1 o1 n c b2 o2 m d : Nat) (xs ys : List Int) (w : World) (hx : xs.length = n) (hy : ys.length = m) (hnc : n ≤ c) (hc1 : ∀ i, i < n → w.cell? ⟨b1, o1 + i, none⟩ = some (.int .u8 (xs.getD i 0))) (hc2 : ∀ i, i < m → w.cell? ⟨b2, o2 + i, none⟩ = some (.int .u8 (ys.getD i 0))) :
    Calls Tryd.prog 44 #[.slice (some ⟨b1, o1, none⟩) n c, .slice (some ⟨b2, o2, none⟩) m d] w fun e w' => e = .returned (.bool (Lib.hasPrefix (Lib.bytesOf xs) (Lib.bytesOf ys))) ∧ w' = w := Any.bytes_HasPrefix Tryd.laysnb116 b1 o1 n c b2 o2 m d xs ys w hx hy hnc hc1 hc2
def Tryd.laysnb117_ren : Go.Shelf.Ren := ⟨fun | 117 => 68 | 115 => 63 | n => n, fun | 37 => 62 | 4 => 4 | 3 => 3 | 9 => 9 | 5 => 5 | n => n, fun | n => n⟩
theorem Tryd.laysnb117 : Go.Proofs.Lays.nb117 Tryd.prog Tryd.laysnb117_ren := {
  mixed := by kernel_rfl
  f115 := Tryd.func63.trans (congrArg some (by kernel_rfl))
  f117 := Tryd.func68.trans (congrArg some (by kernel_rfl))
  t3 := Tryd.underlying3
  a3 := Tryd.isAgg3
  z3 := Tryd.sizeOf3
  v3 := Tryd.zeroValue3
  t4 := Tryd.underlying4
  a4 := Tryd.isAgg4
  z4 := Tryd.sizeOf4
  v4 := Tryd.zeroValue4
  t9 := Tryd.underlying9
  a9 := Tryd.isAgg9
  z9 := Tryd.sizeOf9
  v9 := Tryd.zeroValue9
  t37 := Tryd.underlying62
  a37 := Tryd.isAgg62
  z37 := Tryd.sizeOf62
  v37 := Tryd.zeroValue62
  t5 := Tryd.underlying5
  a5 := Tryd.isAgg5
  z5 := Tryd.sizeOf5
  v5 := Tryd.zeroValue5 }
/-- bytes.HasSuffix: "HasSuffix reports whether the byte slice s ends with suffix.": IT RETURNS 'Lib.hasSuffix (the bytes of s) (the bytes of suffix)'; the world is as it was. ITS CALLEE bytes.Equal IS MET BY ITS OWN CONTRACT OFF THE SHELF (lay that first). (An empty suffix too: there the model's slicing may keep the slice's address, where the cut falls at its very capacity: the value bears an 'if': 'gA' pays both arms.) (LAID: no walk: one application.) -/
theorem Tryd.bytes_HasSuffix (b1 o1 n c b2 o2 m d : Nat) (xs ys : List Int) (w : World) (hx : xs.length = n) (hy : ys.length = m) (hnc : n ≤ c) (hbig : n ≤ 9223372036854775807) (hc1 : ∀ i, i < n → w.cell? ⟨b1, o1 + i, none⟩ = some (.int .u8 (xs.getD i 0))) (hc2 : ∀ i, i < m → w.cell? ⟨b2, o2 + i, none⟩ = some (.int .u8 (ys.getD i 0))) :
    Calls Tryd.prog 68 #[.slice (some ⟨b1, o1, none⟩) n c, .slice (some ⟨b2, o2, none⟩) m d] w fun e w' => e = .returned (.bool (Lib.hasSuffix (Lib.bytesOf xs) (Lib.bytesOf ys))) ∧ w' = w := Any.bytes_HasSuffix Tryd.laysnb117 b1 o1 n c b2 o2 m d xs ys w hx hy hnc hbig hc1 hc2
def Tryd.lays240_ren : Go.Shelf.Ren := ⟨fun | 240 => 70 | 276 => 93 | n => n, fun | 0 => 0 | 4 => 4 | 5 => 5 | 9 => 9 | 20 => 20 | 37 => 62 | 70 => 80 | 72 => 82 | 80 => 68 | 164 => 115 | n => n, fun | n => n⟩
theorem Tryd.lays240 : Go.Proofs.Lays.n240 Tryd.prog Tryd.lays240_ren := {
  mixed := by kernel_rfl
  f240 := Tryd.func70.trans (congrArg some (by kernel_rfl))
  f276 := Tryd.func93.trans (congrArg some (by kernel_rfl))
  t0 := Tryd.underlying0
  a0 := Tryd.isAgg0
  z0 := Tryd.sizeOf0
  v0 := Tryd.zeroValue0
  t4 := Tryd.underlying4
  a4 := Tryd.isAgg4
  z4 := Tryd.sizeOf4
  v4 := Tryd.zeroValue4
  t9 := Tryd.underlying9
  a9 := Tryd.isAgg9
  z9 := Tryd.sizeOf9
  v9 := Tryd.zeroValue9
  t20 := Tryd.underlying20
  a20 := Tryd.isAgg20
  z20 := Tryd.sizeOf20
  v20 := Tryd.zeroValue20
  t70 := Tryd.underlying80
  a70 := Tryd.isAgg80
  z70 := Tryd.sizeOf80
  v70 := Tryd.zeroValue80
  t72 := Tryd.underlying82
  a72 := Tryd.isAgg82
  z72 := Tryd.sizeOf82
  v72 := Tryd.zeroValue82
  t164 := Tryd.underlying115
  a164 := Tryd.isAgg115
  z164 := Tryd.sizeOf115
  v164 := Tryd.zeroValue115 }
theorem Tryd.Builder_X72_240 : Builder.X72 Tryd.prog Tryd.lays240_ren := {
  sizeBuilder := by kernel_rfl
  liesBuilder := by kernel_rfl }
open Go.RowKit in
/-- (*strings.Builder).copyCheck (what every writing method calls first): behind it the builder is 'used': 'addr' holds its own address; its bytes are as they were. (LAID: no walk: one application.) -/
theorem Tryd.Builder_copyCheck (B b : Nat) (bs : List Value) (w : World) (h : Lib.IsBuilder 82 5 B b bs w) :
    Calls Tryd.prog 70 #[.pointer (some ⟨b, 0, none⟩)] w fun e w' => e = .returned (.tuple #[]) ∧ (Lib.BuilderAt 82 5 B b (.pointer (some ⟨b, 0, none⟩)) bs w' ∧ Below B w w') := Any.Builder_copyCheck Tryd.lays240 Tryd.Builder_X72_240 B b bs w h
def Tryd.lays167_ren : Go.Shelf.Ren := ⟨fun | 167 => 55 | 240 => 70 | 276 => 93 | n => n, fun | 0 => 0 | 4 => 4 | 5 => 5 | 9 => 9 | 20 => 20 | 37 => 62 | 70 => 80 | 72 => 82 | 75 => 84 | 80 => 68 | 164 => 115 | n => n, fun | n => n⟩
theorem Tryd.lays167 : Go.Proofs.Lays.n167 Tryd.prog Tryd.lays167_ren := {
  mixed := by kernel_rfl
  f167 := Tryd.func55.trans (congrArg some (by kernel_rfl))
  f240 := Tryd.func70.trans (congrArg some (by kernel_rfl))
  f276 := Tryd.func93.trans (congrArg some (by kernel_rfl))
  t0 := Tryd.underlying0
  a0 := Tryd.isAgg0
  z0 := Tryd.sizeOf0
  v0 := Tryd.zeroValue0
  t4 := Tryd.underlying4
  a4 := Tryd.isAgg4
  z4 := Tryd.sizeOf4
  v4 := Tryd.zeroValue4
  t5 := Tryd.underlying5
  a5 := Tryd.isAgg5
  z5 := Tryd.sizeOf5
  v5 := Tryd.zeroValue5
  t9 := Tryd.underlying9
  a9 := Tryd.isAgg9
  z9 := Tryd.sizeOf9
  v9 := Tryd.zeroValue9
  t20 := Tryd.underlying20
  a20 := Tryd.isAgg20
  z20 := Tryd.sizeOf20
  v20 := Tryd.zeroValue20
  t37 := Tryd.underlying62
  a37 := Tryd.isAgg62
  z37 := Tryd.sizeOf62
  v37 := Tryd.zeroValue62
  t70 := Tryd.underlying80
  a70 := Tryd.isAgg80
  z70 := Tryd.sizeOf80
  v70 := Tryd.zeroValue80
  t72 := Tryd.underlying82
  a72 := Tryd.isAgg82
  z72 := Tryd.sizeOf82
  v72 := Tryd.zeroValue82
  t75 := Tryd.underlying84
  a75 := Tryd.isAgg84
  z75 := Tryd.sizeOf84
  v75 := Tryd.zeroValue84
  t164 := Tryd.underlying115
  a164 := Tryd.isAgg115
  z164 := Tryd.sizeOf115
  v164 := Tryd.zeroValue115 }
theorem Tryd.Builder_Extra_167 : Builder.Extra Tryd.prog Tryd.lays167_ren := {
  sizeBuilder := by kernel_rfl
  liesBuilder := by kernel_rfl
  t5 := Tryd.underlying5
  a5 := Tryd.isAgg5
  z5 := Tryd.sizeOf5
  v5 := Tryd.zeroValue5
  infoByte := by kernel_rfl
  cellsByte := by kernel_rfl
  sizeByte := by kernel_rfl
  neB5 := by decide }
open Go.RowKit in
/-- (*strings.Builder).WriteByte: "WriteByte appends the byte c to b's buffer. The returned error is always nil.": UNDER Go's OWN LIMIT: the new length takes at most 2^47 bytes. (LAID: no walk: one application.) -/
theorem Tryd.Builder_WriteByte (B b : Nat) (bs : List Value) (c : Int) (w : World) (h : Lib.IsBuilder 82 5 B b bs w) (hlen : bs.length + 1 ≤ 140737488355328) (hBw : B ≤ w.heap.size) :
    Calls Tryd.prog 55 #[.pointer (some ⟨b, 0, none⟩), .int .u8 c] w fun e w' => e = .returned .nilIface ∧ (Lib.BuilderAt 82 5 B b (.pointer (some ⟨b, 0, none⟩)) (bs ++ [.int .u8 c]) w' ∧ Below B w w') := Any.Builder_WriteByte Tryd.lays167 Tryd.Builder_Extra_167 B b bs c w h hlen hBw
def Tryd.lays166_ren : Go.Shelf.Ren := ⟨fun | 166 => 48 | 240 => 70 | 276 => 93 | n => n, fun | 0 => 0 | 3 => 3 | 4 => 4 | 5 => 5 | 9 => 9 | 20 => 20 | 37 => 62 | 70 => 80 | 72 => 82 | 75 => 84 | 80 => 68 | 164 => 115 | n => n, fun | n => n⟩
theorem Tryd.lays166 : Go.Proofs.Lays.n166 Tryd.prog Tryd.lays166_ren := {
  mixed := by kernel_rfl
  f166 := Tryd.func48.trans (congrArg some (by kernel_rfl))
  f240 := Tryd.func70.trans (congrArg some (by kernel_rfl))
  f276 := Tryd.func93.trans (congrArg some (by kernel_rfl))
  t0 := Tryd.underlying0
  a0 := Tryd.isAgg0
  z0 := Tryd.sizeOf0
  v0 := Tryd.zeroValue0
  t3 := Tryd.underlying3
  a3 := Tryd.isAgg3
  z3 := Tryd.sizeOf3
  v3 := Tryd.zeroValue3
  t4 := Tryd.underlying4
  a4 := Tryd.isAgg4
  z4 := Tryd.sizeOf4
  v4 := Tryd.zeroValue4
  t9 := Tryd.underlying9
  a9 := Tryd.isAgg9
  z9 := Tryd.sizeOf9
  v9 := Tryd.zeroValue9
  t20 := Tryd.underlying20
  a20 := Tryd.isAgg20
  z20 := Tryd.sizeOf20
  v20 := Tryd.zeroValue20
  t37 := Tryd.underlying62
  a37 := Tryd.isAgg62
  z37 := Tryd.sizeOf62
  v37 := Tryd.zeroValue62
  t70 := Tryd.underlying80
  a70 := Tryd.isAgg80
  z70 := Tryd.sizeOf80
  v70 := Tryd.zeroValue80
  t72 := Tryd.underlying82
  a72 := Tryd.isAgg82
  z72 := Tryd.sizeOf82
  v72 := Tryd.zeroValue82
  t75 := Tryd.underlying84
  a75 := Tryd.isAgg84
  z75 := Tryd.sizeOf84
  v75 := Tryd.zeroValue84
  t164 := Tryd.underlying115
  a164 := Tryd.isAgg115
  z164 := Tryd.sizeOf115
  v164 := Tryd.zeroValue115 }
theorem Tryd.Builder_Extra_166 : Builder.Extra Tryd.prog Tryd.lays166_ren := {
  sizeBuilder := by kernel_rfl
  liesBuilder := by kernel_rfl
  t5 := Tryd.underlying5
  a5 := Tryd.isAgg5
  z5 := Tryd.sizeOf5
  v5 := Tryd.zeroValue5
  infoByte := by kernel_rfl
  cellsByte := by kernel_rfl
  sizeByte := by kernel_rfl
  neB5 := by decide }
open Go.RowKit in
/-- (*strings.Builder).WriteString: "WriteString appends the contents of s to b's buffer. It returns the length of s and a nil error.": UNDER Go's OWN LIMIT: the new length takes at most 2^47 bytes. (LAID: no walk: one application.) -/
theorem Tryd.Builder_WriteString (B b : Nat) (bs : List Value) (s : ByteArray) (w : World) (h : Lib.IsBuilder 82 5 B b bs w) (hlen : bs.length + s.size ≤ 140737488355328) (hBw : B ≤ w.heap.size) :
    Calls Tryd.prog 48 #[.pointer (some ⟨b, 0, none⟩), .string s] w fun e w' => e = .returned (.tuple #[.int .i64 s.size, .nilIface]) ∧ (Lib.BuilderAt 82 5 B b (.pointer (some ⟨b, 0, none⟩)) (bs ++ Lib.strCells s) w' ∧ Below B w w') := Any.Builder_WriteString Tryd.lays166 Tryd.Builder_Extra_166 B b bs s w h hlen hBw
open Go.RowKit in
/-- (*strings.Builder).copyCheck (what every writing method calls first): behind it the builder is 'used': 'addr' holds its own address; its bytes are as they were. (THE FORM '_f': OF A BUILDER WHOSE BUFFER's HEAD MAY BE FROZEN: 'Lib.IsBuilderF': one that 'String()' has read.) (LAID: no walk: one application.) -/
theorem Tryd.Builder_copyCheck_f (B b : Nat) (bs : List Value) (w : World) (h : Lib.IsBuilderF 82 5 B b bs w) :
    Calls Tryd.prog 70 #[.pointer (some ⟨b, 0, none⟩)] w fun e w' => e = .returned (.tuple #[]) ∧ (Lib.BuilderAtF 82 5 B b (.pointer (some ⟨b, 0, none⟩)) bs w' ∧ Below B w w') := Any.Builder_copyCheck_f Tryd.lays240 Tryd.Builder_X72_240 B b bs w h
open Go.RowKit in
/-- (*strings.Builder).WriteString: "WriteString appends the contents of s to b's buffer. It returns the length of s and a nil error.": UNDER Go's OWN LIMIT: the new length takes at most 2^47 bytes. (THE FORM '_f': OF A BUILDER THAT 'String()' HAS READ, TOO: the bytes go in BEHIND what is frozen, or, where there is no room, all goes over into a new row.) (LAID: no walk: one application.) -/
theorem Tryd.Builder_WriteString_f (B b : Nat) (bs : List Value) (s : ByteArray) (w : World) (h : Lib.IsBuilderF 82 5 B b bs w) (hlen : bs.length + s.size ≤ 140737488355328) (hBw : B ≤ w.heap.size) :
    Calls Tryd.prog 48 #[.pointer (some ⟨b, 0, none⟩), .string s] w fun e w' => e = .returned (.tuple #[.int .i64 s.size, .nilIface]) ∧ (Lib.BuilderAtF 82 5 B b (.pointer (some ⟨b, 0, none⟩)) (bs ++ Lib.strCells s) w' ∧ Below B w w') := Any.Builder_WriteString_f Tryd.lays166 Tryd.Builder_Extra_166 B b bs s w h hlen hBw
open Go.RowKit in
/-- (*strings.Builder).copyCheck (what every writing method calls first): behind it the builder is 'used': 'addr' holds its own address; its bytes are as they were. THE FORM '_k': OVER 'Lib.IsBuilderF' (a builder that 'String()' may have read), AND WITH THE FRAME THAT REACHES ABOVE THE BUILDER: 'Lib.OthersKept': every block that is not b and is no row of uint8's stands as it stood: the iterator of a range among them.' has read.) (LAID: no walk: one application.) -/
theorem Tryd.Builder_copyCheck_k (B b : Nat) (bs : List Value) (w : World) (h : Lib.IsBuilderF 82 5 B b bs w) :
    Calls Tryd.prog 70 #[.pointer (some ⟨b, 0, none⟩)] w fun e w' => e = .returned (.tuple #[]) ∧ (Lib.BuilderAtF 82 5 B b (.pointer (some ⟨b, 0, none⟩)) bs w' ∧ Below B w w' ∧ Lib.OthersKept 5 (some b) w w') := Any.Builder_copyCheck_k Tryd.lays240 Tryd.Builder_X72_240 B b bs w h
open Go.RowKit in
/-- (*strings.Builder).WriteByte: "WriteByte appends the byte c to b's buffer. The returned error is always nil.": UNDER Go's OWN LIMIT: the new length takes at most 2^47 bytes. (LAID: no walk: one application.) -/
theorem Tryd.Builder_WriteByte_k (B b : Nat) (bs : List Value) (c : Int) (w : World) (h : Lib.IsBuilderF 82 5 B b bs w) (hlen : bs.length + 1 ≤ 140737488355328) (hBw : B ≤ w.heap.size) :
    Calls Tryd.prog 55 #[.pointer (some ⟨b, 0, none⟩), .int .u8 c] w fun e w' => e = .returned .nilIface ∧ (Lib.BuilderAtF 82 5 B b (.pointer (some ⟨b, 0, none⟩)) (bs ++ [.int .u8 c]) w' ∧ Below B w w' ∧ Lib.OthersKept 5 (some b) w w') := Any.Builder_WriteByte_k Tryd.lays167 Tryd.Builder_Extra_167 B b bs c w h hlen hBw
open Go.RowKit in
/-- (*strings.Builder).WriteString: "WriteString appends the contents of s to b's buffer. It returns the length of s and a nil error.": UNDER Go's OWN LIMIT: the new length takes at most 2^47 bytes. THE FORM '_k': OVER 'Lib.IsBuilderF' (a builder that 'String()' may have read), AND WITH THE FRAME THAT REACHES ABOVE THE BUILDER: 'Lib.OthersKept': every block that is not b and is no row of uint8's stands as it stood: the iterator of a range among them.' HAS READ, TOO: the bytes go in BEHIND what is frozen, or, where there is no room, all goes over into a new row.) (LAID: no walk: one application.) -/
theorem Tryd.Builder_WriteString_k (B b : Nat) (bs : List Value) (s : ByteArray) (w : World) (h : Lib.IsBuilderF 82 5 B b bs w) (hlen : bs.length + s.size ≤ 140737488355328) (hBw : B ≤ w.heap.size) :
    Calls Tryd.prog 48 #[.pointer (some ⟨b, 0, none⟩), .string s] w fun e w' => e = .returned (.tuple #[.int .i64 s.size, .nilIface]) ∧ (Lib.BuilderAtF 82 5 B b (.pointer (some ⟨b, 0, none⟩)) (bs ++ Lib.strCells s) w' ∧ Below B w w' ∧ Lib.OthersKept 5 (some b) w w') := Any.Builder_WriteString_k Tryd.lays166 Tryd.Builder_Extra_166 B b bs s w h hlen hBw
def Tryd.lays168_ren : Go.Shelf.Ren := ⟨fun | 168 => 49 | 240 => 70 | 242 => 43 | 276 => 93 | 278 => 62 | n => n, fun | 0 => 0 | 3 => 3 | 4 => 4 | 5 => 5 | 9 => 9 | 20 => 20 | 21 => 21 | 37 => 62 | 46 => 106 | 51 => 93 | 70 => 80 | 72 => 82 | 75 => 84 | 80 => 68 | 164 => 115 | n => n, fun | n => n⟩
theorem Tryd.lays168 : Go.Proofs.Lays.n168 Tryd.prog Tryd.lays168_ren := {
  mixed := by kernel_rfl
  f168 := Tryd.func49.trans (congrArg some (by kernel_rfl))
  f240 := Tryd.func70.trans (congrArg some (by kernel_rfl))
  f242 := Tryd.func43.trans (congrArg some (by kernel_rfl))
  f276 := Tryd.func93.trans (congrArg some (by kernel_rfl))
  f278 := Tryd.func62.trans (congrArg some (by kernel_rfl))
  t0 := Tryd.underlying0
  a0 := Tryd.isAgg0
  z0 := Tryd.sizeOf0
  v0 := Tryd.zeroValue0
  t3 := Tryd.underlying3
  a3 := Tryd.isAgg3
  z3 := Tryd.sizeOf3
  v3 := Tryd.zeroValue3
  t4 := Tryd.underlying4
  a4 := Tryd.isAgg4
  z4 := Tryd.sizeOf4
  v4 := Tryd.zeroValue4
  t5 := Tryd.underlying5
  a5 := Tryd.isAgg5
  z5 := Tryd.sizeOf5
  v5 := Tryd.zeroValue5
  t9 := Tryd.underlying9
  a9 := Tryd.isAgg9
  z9 := Tryd.sizeOf9
  v9 := Tryd.zeroValue9
  t20 := Tryd.underlying20
  a20 := Tryd.isAgg20
  z20 := Tryd.sizeOf20
  v20 := Tryd.zeroValue20
  t21 := Tryd.underlying21
  a21 := Tryd.isAgg21
  z21 := Tryd.sizeOf21
  v21 := Tryd.zeroValue21
  t37 := Tryd.underlying62
  a37 := Tryd.isAgg62
  z37 := Tryd.sizeOf62
  v37 := Tryd.zeroValue62
  t46 := Tryd.underlying106
  a46 := Tryd.isAgg106
  z46 := Tryd.sizeOf106
  v46 := Tryd.zeroValue106
  t51 := Tryd.underlying93
  a51 := Tryd.isAgg93
  z51 := Tryd.sizeOf93
  v51 := Tryd.zeroValue93
  t70 := Tryd.underlying80
  a70 := Tryd.isAgg80
  z70 := Tryd.sizeOf80
  v70 := Tryd.zeroValue80
  t72 := Tryd.underlying82
  a72 := Tryd.isAgg82
  z72 := Tryd.sizeOf82
  v72 := Tryd.zeroValue82
  t75 := Tryd.underlying84
  a75 := Tryd.isAgg84
  z75 := Tryd.sizeOf84
  v75 := Tryd.zeroValue84
  t164 := Tryd.underlying115
  a164 := Tryd.isAgg115
  z164 := Tryd.sizeOf115
  v164 := Tryd.zeroValue115 }
theorem Tryd.Builder_Extra_168 : Builder.Extra Tryd.prog Tryd.lays168_ren := {
  sizeBuilder := by kernel_rfl
  liesBuilder := by kernel_rfl
  t5 := Tryd.underlying5
  a5 := Tryd.isAgg5
  z5 := Tryd.sizeOf5
  v5 := Tryd.zeroValue5
  infoByte := by kernel_rfl
  cellsByte := by kernel_rfl
  sizeByte := by kernel_rfl
  neB5 := by decide }
open Go.RowKit in
/-- (*strings.Builder).WriteRune: "WriteRune appends the UTF-8 encoding of Unicode code point r to b's buffer. It returns the length of r and a nil error.": EVERY RUNE (every int32: what is no rune goes in as U+FFFD's three bytes): 'Lib.runeCells r' (as bytes: 'Lib.encodeRune r': 'Lib.byteCells_encodeRune'); UNDER Go's OWN LIMIT: the new length takes at most 2^47 bytes. THE FORM '_k': OVER 'Lib.IsBuilderF', WITH THE FRAME THAT REACHES ABOVE THE BUILDER ('Lib.OthersKept'). (LAID: no walk: one application.) -/
theorem Tryd.Builder_WriteRune_k (B b : Nat) (bs : List Value) (r : Int) (hr0 : -2147483648 ≤ r) (hr1 : r ≤ 2147483647) (w : World) (h : Lib.IsBuilderF 82 5 B b bs w) (hlen : bs.length + 4 ≤ 140737488355328) (hBw : B ≤ w.heap.size) :
    Calls Tryd.prog 49 #[.pointer (some ⟨b, 0, none⟩), .int .i32 r] w fun e w' => e = .returned (.tuple #[.int .i64 (Lib.runeCells r).length, .nilIface]) ∧ (Lib.BuilderAtF 82 5 B b (.pointer (some ⟨b, 0, none⟩)) (bs ++ Lib.runeCells r) w' ∧ Below B w w' ∧ Lib.OthersKept 5 (some b) w w') := Any.Builder_WriteRune_k Tryd.lays168 Tryd.Builder_Extra_168 B b bs r hr0 hr1 w h hlen hBw
open Go.RowKit in
theorem Tryd.Builder_copyCheck_kc (B b : Nat) (bs : List Value) (w : World) (h : Lib.IsBuilderF 82 5 B b bs w) :
    Calls Tryd.prog 70 #[.pointer (some ⟨b, 0, none⟩)] w fun e w' => e = .returned (.tuple #[]) ∧ (Lib.BuilderAtF 82 5 B b (.pointer (some ⟨b, 0, none⟩)) bs w' ∧ Below B w w' ∧ Lib.OthersKept 5 (some b) w w') ∧ w'.cell? ⟨b, 1, none⟩ = w.cell? ⟨b, 1, none⟩ := Any.Builder_copyCheck_kc Tryd.lays240 Tryd.Builder_X72_240 B b bs w h
open Go.RowKit in
theorem Tryd.Builder_WriteString_kc (B b : Nat) (bs : List Value) (s : ByteArray) (w : World) (h : Lib.IsBuilderF 82 5 B b bs w) (hlen : bs.length + s.size ≤ 140737488355328) (hBw : B ≤ w.heap.size) :
    Calls Tryd.prog 48 #[.pointer (some ⟨b, 0, none⟩), .string s] w fun e w' => e = .returned (.tuple #[.int .i64 s.size, .nilIface]) ∧ (Lib.BuilderAtF 82 5 B b (.pointer (some ⟨b, 0, none⟩)) (bs ++ Lib.strCells s) w' ∧ Below B w w' ∧ Lib.OthersKept 5 (some b) w w') ∧ ∀ v0, w.cell? ⟨b, 1, none⟩ = some v0 → ∃ v1, w'.cell? ⟨b, 1, none⟩ = some v1 ∧ v0.capOf ≤ v1.capOf := Any.Builder_WriteString_kc Tryd.lays166 Tryd.Builder_Extra_166 B b bs s w h hlen hBw
end Go.Proofs
