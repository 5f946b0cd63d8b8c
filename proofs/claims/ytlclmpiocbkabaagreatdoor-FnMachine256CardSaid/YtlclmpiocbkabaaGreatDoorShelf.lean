/-
  DERIVED: THE SHELF's CONTRACTS AT THIS DUMP, IN PLAIN WORDS (tools/lay-plain.mjs out of 'TryzShelf.lean', which tools/lay-shelf.mjs wrote): THE SAME DECLARATIONS UNDER THE SAME NAMES: 'import', 'namespace', 'open', 'def', 'theorem' AND NOTHING ELSE: no command of the shelf's: FOR A HAND-IN. Each laying: the table of numbers ('.._ren') and one theorem, a field a fact of the dump's own or the kernel's comparison; each contract: ONE APPLICATION.
-/
import Derived.Shelf.Strings.Builder1
import Derived.Shelf.Strings.TrimSpace
import Derived.Shelf.Small.Utf8
import Derived.Shelf.Small.Bits
import Derived.Shelf.Strings.BuilderF
import Derived.Shelf.Strings.BuilderK
import Derived.Shelf.Strings.BuilderRune
import Derived.Shelf.Utf8.AppendRune
import Derived.Shelf.Utf8.AppendRunePlain
import Derived.Shelf.Strconv.Itoa0
import Derived.Shelf.Strconv.Itoa1
import Derived.Shelf.LaysM
import Derived.Shelf.Strconv.Itoa2
import Derived.Shelf.Strconv.Itoa3
import Derived.Shelf.Sort.Plain
import Derived.Shelf.GgClosure.StringsIndexFunc
import Derived.Shelf.Unicode.Latin
import Derived.Shelf.Unicode.DecodeSlow
import Derived.Shelf.Unicode.DecodeAny
import Derived.Shelf.Unicode.Is16White
import Derived.Shelf.Unicode.IsSpaceAny
import Derived.Shelf.Unicode.DecodeLast
import Derived.Shelf.Strings.TrimSpaceAny
import Derived.Shelf.Unicode.Is16Any
import Derived.Shelf.Unicode.Is32Any
import Derived.Shelf.Unicode.ExclAny
import Derived.Shelf.Strings.BuilderCap
import Derived.Shelf.Bytes.Small
import Derived.Test.YtlclmpiocbkabaaGreatDoorProg
namespace Go.Proofs
open Go.Shelf
def Tryz.lays169_ren : Go.Shelf.Ren := ⟨fun | 169 => 44 | n => n, fun | 70 => 70 | 9 => 9 | 0 => 0 | 72 => 72 | 37 => 50 | 127 => 85 | 3 => 3 | 5 => 5 | n => n, fun | n => n⟩
theorem Tryz.lays169 : Go.Proofs.Lays.n169 Tryz.prog Tryz.lays169_ren := {
  mixed := by kernel_rfl
  f169 := Tryz.func44.trans (congrArg some (by kernel_rfl))
  t0 := Tryz.underlying0
  a0 := Tryz.isAgg0
  z0 := Tryz.sizeOf0
  v0 := Tryz.zeroValue0
  t3 := Tryz.underlying3
  a3 := Tryz.isAgg3
  z3 := Tryz.sizeOf3
  v3 := Tryz.zeroValue3
  t9 := Tryz.underlying9
  a9 := Tryz.isAgg9
  z9 := Tryz.sizeOf9
  v9 := Tryz.zeroValue9
  t37 := Tryz.underlying50
  a37 := Tryz.isAgg50
  z37 := Tryz.sizeOf50
  v37 := Tryz.zeroValue50
  t70 := Tryz.underlying70
  a70 := Tryz.isAgg70
  z70 := Tryz.sizeOf70
  v70 := Tryz.zeroValue70
  t72 := Tryz.underlying72
  a72 := Tryz.isAgg72
  z72 := Tryz.sizeOf72
  v72 := Tryz.zeroValue72
  t127 := Tryz.underlying85
  a127 := Tryz.isAgg85
  z127 := Tryz.sizeOf85
  v127 := Tryz.zeroValue85 }
theorem Tryz.Builder_Extra_169 : Builder.Extra Tryz.prog Tryz.lays169_ren := {
  sizeBuilder := by kernel_rfl
  liesBuilder := by kernel_rfl
  t5 := Tryz.underlying5
  a5 := Tryz.isAgg5
  z5 := Tryz.sizeOf5
  v5 := Tryz.zeroValue5
  infoByte := by kernel_rfl
  cellsByte := by kernel_rfl
  sizeByte := by kernel_rfl
  neB5 := by decide }
open Go.RowKit in
/-- (*strings.Builder).String: "String returns the accumulated string.": OF A BUILDER THAT HOLDS AT LEAST ONE BYTE. ✋ THE MODEL FREEZES THOSE BYTES IN THE BUFFER (unsafe.String): a later write INTO them ends the model's run without an answer; a later append BEHIND them goes on. The statement's order of evaluation is drawn: one draw. (LAID: no walk: one application.) -/
theorem Tryz.Builder_String (B b : Nat) (l : List UInt8) (w : World) (h : Lib.IsBuilder 72 5 B b (Lib.byteCells l) w) (h0 : l ≠ []) :
    Calls Tryz.prog 44 #[.pointer (some ⟨b, 0, none⟩)] w fun e w' => e = .returned (.string ⟨l.toArray⟩) ∧ Below B w w' := Any.Builder_String Tryz.lays169 Tryz.Builder_Extra_169 B b l w h h0
open Go.RowKit in
/-- (*strings.Builder).String OF A BUILDER THAT HOLDS NO BYTE: the empty string. (Its buffer is nil, or a row of which it has taken nothing yet; where that row has NO capacity the model lays one new block for unsafe.SliceData's 'some address'.) One draw. (LAID: no walk: one application.) -/
theorem Tryz.Builder_String_empty (B b : Nat) (w : World) (h : Lib.IsBuilder 72 5 B b [] w) (hBw : B ≤ w.heap.size) :
    Calls Tryz.prog 44 #[.pointer (some ⟨b, 0, none⟩)] w fun e w' => e = .returned (.string ⟨#[]⟩) ∧ Below B w w' := Any.Builder_String_empty Tryz.lays169 Tryz.Builder_Extra_169 B b w h hBw
open Go.RowKit in
/-- (*strings.Builder).String: "String returns the accumulated string.": WHATEVER THE BUILDER HOLDS. (LAID: no walk: one application.) -/
theorem Tryz.Builder_String_any (B b : Nat) (l : List UInt8) (w : World) (h : Lib.IsBuilder 72 5 B b (Lib.byteCells l) w) (hBw : B ≤ w.heap.size) :
    Calls Tryz.prog 44 #[.pointer (some ⟨b, 0, none⟩)] w fun e w' => e = .returned (.string ⟨l.toArray⟩) ∧ Below B w w' := Any.Builder_String_any Tryz.lays169 Tryz.Builder_Extra_169 B b l w h hBw
def Tryz.lays163_ren : Go.Shelf.Ren := ⟨fun | 163 => 62 | 237 => 78 | 199 => 79 | 238 => 80 | 272 => 97 | 261 => 98 | 273 => 99 | 197 => 100 | 315 => 108 | 311 => 109 | 312 => 110 | 271 => 111 | 260 => 112 | 120 => 116 | n => n, fun | 9 => 9 | 37 => 50 | 3 => 3 | 0 => 0 | 5 => 5 | 4 => 4 | 40 => 68 | 119 => 110 | 21 => 21 | 51 => 79 | 141 => 127 | 105 => 129 | 196 => 144 | 193 => 141 | 198 => 147 | 49 => 145 | 194 => 142 | 201 => 150 | 226 => 157 | 46 => 92 | 227 => 158 | 139 => 162 | 138 => 161 | n => n, fun | 0 => 1 | 6 => 2 | 3 => 5 | 4 => 6 | n => n⟩
theorem Tryz.lays163 : Go.Proofs.Lays.n163 Tryz.prog Tryz.lays163_ren := {
  mixed := by kernel_rfl
  f120 := Tryz.func116.trans (congrArg some (by kernel_rfl))
  f163 := Tryz.func62.trans (congrArg some (by kernel_rfl))
  f197 := Tryz.func100.trans (congrArg some (by kernel_rfl))
  f199 := Tryz.func79.trans (congrArg some (by kernel_rfl))
  f237 := Tryz.func78.trans (congrArg some (by kernel_rfl))
  f238 := Tryz.func80.trans (congrArg some (by kernel_rfl))
  f260 := Tryz.func112.trans (congrArg some (by kernel_rfl))
  f261 := Tryz.func98.trans (congrArg some (by kernel_rfl))
  f271 := Tryz.func111.trans (congrArg some (by kernel_rfl))
  f272 := Tryz.func97.trans (congrArg some (by kernel_rfl))
  f273 := Tryz.func99.trans (congrArg some (by kernel_rfl))
  f311 := Tryz.func109.trans (congrArg some (by kernel_rfl))
  f312 := Tryz.func110.trans (congrArg some (by kernel_rfl))
  f315 := Tryz.func108.trans (congrArg some (by kernel_rfl))
  t0 := Tryz.underlying0
  a0 := Tryz.isAgg0
  z0 := Tryz.sizeOf0
  v0 := Tryz.zeroValue0
  t3 := Tryz.underlying3
  a3 := Tryz.isAgg3
  z3 := Tryz.sizeOf3
  v3 := Tryz.zeroValue3
  t4 := Tryz.underlying4
  a4 := Tryz.isAgg4
  z4 := Tryz.sizeOf4
  v4 := Tryz.zeroValue4
  t5 := Tryz.underlying5
  a5 := Tryz.isAgg5
  z5 := Tryz.sizeOf5
  v5 := Tryz.zeroValue5
  t9 := Tryz.underlying9
  a9 := Tryz.isAgg9
  z9 := Tryz.sizeOf9
  v9 := Tryz.zeroValue9
  t21 := Tryz.underlying21
  a21 := Tryz.isAgg21
  z21 := Tryz.sizeOf21
  v21 := Tryz.zeroValue21
  t37 := Tryz.underlying50
  a37 := Tryz.isAgg50
  z37 := Tryz.sizeOf50
  v37 := Tryz.zeroValue50
  t40 := Tryz.underlying68
  a40 := Tryz.isAgg68
  z40 := Tryz.sizeOf68
  v40 := Tryz.zeroValue68
  t46 := Tryz.underlying92
  a46 := Tryz.isAgg92
  z46 := Tryz.sizeOf92
  v46 := Tryz.zeroValue92
  t49 := Tryz.underlying145
  a49 := Tryz.isAgg145
  z49 := Tryz.sizeOf145
  v49 := Tryz.zeroValue145
  t51 := Tryz.underlying79
  a51 := Tryz.isAgg79
  z51 := Tryz.sizeOf79
  v51 := Tryz.zeroValue79
  t105 := Tryz.underlying129
  a105 := Tryz.isAgg129
  z105 := Tryz.sizeOf129
  v105 := Tryz.zeroValue129
  t119 := Tryz.underlying110
  a119 := Tryz.isAgg110
  z119 := Tryz.sizeOf110
  t138 := Tryz.underlying161
  a138 := Tryz.isAgg161
  z138 := Tryz.sizeOf161
  v138 := Tryz.zeroValue161
  t139 := Tryz.underlying162
  a139 := Tryz.isAgg162
  z139 := Tryz.sizeOf162
  v139 := Tryz.zeroValue162
  t141 := Tryz.underlying127
  a141 := Tryz.isAgg127
  z141 := Tryz.sizeOf127
  v141 := Tryz.zeroValue127
  t193 := Tryz.underlying141
  a193 := Tryz.isAgg141
  z193 := Tryz.sizeOf141
  v193 := Tryz.zeroValue141
  t194 := Tryz.underlying142
  a194 := Tryz.isAgg142
  z194 := Tryz.sizeOf142
  v194 := Tryz.zeroValue142
  t196 := Tryz.underlying144
  a196 := Tryz.isAgg144
  z196 := Tryz.sizeOf144
  v196 := Tryz.zeroValue144
  t198 := Tryz.underlying147
  a198 := Tryz.isAgg147
  z198 := Tryz.sizeOf147
  v198 := Tryz.zeroValue147
  t201 := Tryz.underlying150
  a201 := Tryz.isAgg150
  z201 := Tryz.sizeOf150
  v201 := Tryz.zeroValue150
  t226 := Tryz.underlying157
  a226 := Tryz.isAgg157
  z226 := Tryz.sizeOf157
  v226 := Tryz.zeroValue157
  t227 := Tryz.underlying158
  a227 := Tryz.isAgg158
  z227 := Tryz.sizeOf158
  v227 := Tryz.zeroValue158
  g0 := by kernel_rfl
  g3 := by kernel_rfl
  g4 := by kernel_rfl
  g6 := by kernel_rfl }
theorem Tryz.Space_Extra_163 : Space.Extra Tryz.prog Tryz.lays163_ren := {
  gNamed := by kernel_rfl }
open Go.RowKit in
theorem Tryz.strings_TrimSpace (s : ByteArray) (w : World) (hs : s.size ≤ 9223372036854775807) (hascii : ∀ (j : Nat) b, s.data.toList[j]? = some b → b.toNat < 128) (htab : Lib.TabIs Tryz.prog w "strings.asciiSpace" .u8 Lib.asciiSpaceTab) :
    Calls Tryz.prog 62 #[.string s] w fun e w' => e = .returned (.string ⟨(Lib.trimSpace s.data.toList).toArray⟩) ∧ w' = Lib.bytesWorld w 5 s := Any.strings_TrimSpace Tryz.lays163 Tryz.Space_Extra_163 s w hs hascii htab
def Tryz.lays120_ren : Go.Shelf.Ren := ⟨fun | 120 => 116 | n => n, fun | 5 => 5 | 4 => 4 | n => n, fun | n => n⟩
theorem Tryz.lays120 : Go.Proofs.Lays.n120 Tryz.prog Tryz.lays120_ren := {
  mixed := by kernel_rfl
  f120 := Tryz.func116.trans (congrArg some (by kernel_rfl))
  t4 := Tryz.underlying4
  a4 := Tryz.isAgg4
  z4 := Tryz.sizeOf4
  v4 := Tryz.zeroValue4
  t5 := Tryz.underlying5
  a5 := Tryz.isAgg5
  z5 := Tryz.sizeOf5
  v5 := Tryz.zeroValue5 }
/-- utf8.RuneStart: "RuneStart reports whether the byte could be the first byte of an encoded, possibly invalid rune. Second and subsequent bytes always have the top two bits set to 10.": IT RETURNS 'Lib.runeStart b'; the world is as it was. ('h0', 'h1': b is a byte: a caller has it of every byte that it was handed.) (LAID: no walk: one application.) -/
theorem Tryz.utf8_RuneStart (b : Int) (w : World) (h0 : 0 ≤ b) (h1 : b < 256) :
    Calls Tryz.prog 116 #[.int .u8 b] w fun e w' => e = .returned (.bool (Lib.runeStart b)) ∧ w' = w := Any.utf8_RuneStart Tryz.lays120 b w h0 h1
def Tryz.lays128_ren : Go.Shelf.Ren := ⟨fun | 128 => 94 | n => n, fun | 51 => 79 | 3 => 3 | 4 => 4 | 46 => 92 | 5 => 5 | 9 => 9 | n => n, fun | n => n⟩
theorem Tryz.lays128 : Go.Proofs.Lays.n128 Tryz.prog Tryz.lays128_ren := {
  mixed := by kernel_rfl
  f128 := Tryz.func94.trans (congrArg some (by kernel_rfl))
  t3 := Tryz.underlying3
  a3 := Tryz.isAgg3
  z3 := Tryz.sizeOf3
  v3 := Tryz.zeroValue3
  t4 := Tryz.underlying4
  a4 := Tryz.isAgg4
  z4 := Tryz.sizeOf4
  v4 := Tryz.zeroValue4
  t5 := Tryz.underlying5
  a5 := Tryz.isAgg5
  z5 := Tryz.sizeOf5
  v5 := Tryz.zeroValue5
  t9 := Tryz.underlying9
  a9 := Tryz.isAgg9
  z9 := Tryz.sizeOf9
  v9 := Tryz.zeroValue9
  t46 := Tryz.underlying92
  a46 := Tryz.isAgg92
  z46 := Tryz.sizeOf92
  v46 := Tryz.zeroValue92
  t51 := Tryz.underlying79
  a51 := Tryz.isAgg79
  z51 := Tryz.sizeOf79
  v51 := Tryz.zeroValue79 }
/-- bits.Len32: "Len32 returns the minimum number of bits required to represent x; the result is 0 for x == 0.": IT RETURNS 'Lib.bitLen x'; the world is as it was. ('h0', 'h1': x is a uint32.) (LAID: no walk: one application.) -/
theorem Tryz.bits_Len32 (x : Int) (w : World) (h0 : 0 ≤ x) (h1 : x ≤ 4294967295) :
    Calls Tryz.prog 94 #[.int .u32 x] w fun e w' => e = .returned (.int .i64 (Lib.bitLen x.toNat)) ∧ w' = w := Any.bits_Len32 Tryz.lays128 x w h0 h1
def Tryz.lays125_ren : Go.Shelf.Ren := ⟨fun | 125 => 69 | 128 => 94 | 129 => 73 | n => n, fun | 46 => 92 | 3 => 3 | 51 => 79 | 53 => 87 | 4 => 4 | 5 => 5 | 9 => 9 | n => n, fun | n => n⟩
theorem Tryz.lays125 : Go.Proofs.Lays.n125 Tryz.prog Tryz.lays125_ren := {
  mixed := by kernel_rfl
  f125 := Tryz.func69.trans (congrArg some (by kernel_rfl))
  f128 := Tryz.func94.trans (congrArg some (by kernel_rfl))
  f129 := Tryz.func73.trans (congrArg some (by kernel_rfl))
  t3 := Tryz.underlying3
  a3 := Tryz.isAgg3
  z3 := Tryz.sizeOf3
  v3 := Tryz.zeroValue3
  t4 := Tryz.underlying4
  a4 := Tryz.isAgg4
  z4 := Tryz.sizeOf4
  v4 := Tryz.zeroValue4
  t5 := Tryz.underlying5
  a5 := Tryz.isAgg5
  z5 := Tryz.sizeOf5
  v5 := Tryz.zeroValue5
  t9 := Tryz.underlying9
  a9 := Tryz.isAgg9
  z9 := Tryz.sizeOf9
  v9 := Tryz.zeroValue9
  t46 := Tryz.underlying92
  a46 := Tryz.isAgg92
  z46 := Tryz.sizeOf92
  v46 := Tryz.zeroValue92
  t51 := Tryz.underlying79
  a51 := Tryz.isAgg79
  z51 := Tryz.sizeOf79
  v51 := Tryz.zeroValue79
  t53 := Tryz.underlying87
  a53 := Tryz.isAgg87
  z53 := Tryz.sizeOf87
  v53 := Tryz.zeroValue87 }
/-- bits.Len: "Len returns the minimum number of bits required to represent x; the result is 0 for x == 0.": IT RETURNS 'Lib.bitLen x'; the world is as it was. (A uint has 64 bits in the model.) ITS CALLEE bits.Len64 IS MET BY ITS OWN CONTRACT OFF THE SHELF (lay that first). (LAID: no walk: one application.) -/
theorem Tryz.bits_Len (x : Int) (w : World) (h0 : 0 ≤ x) (h1 : x ≤ 18446744073709551615) :
    Calls Tryz.prog 69 #[.int .u64 x] w fun e w' => e = .returned (.int .i64 (Lib.bitLen x.toNat)) ∧ w' = w := Any.bits_Len Tryz.lays125 x w h0 h1
open Go.RowKit in
/-- (*strings.Builder).String: "String returns the accumulated string.": OF A BUILDER THAT HOLDS AT LEAST ONE BYTE. ✋ THE MODEL FREEZES THOSE BYTES IN THE BUFFER (unsafe.String): a later write INTO them ends the model's run without an answer; a later append BEHIND them goes on. The statement's order of evaluation is drawn: one draw. THE FORM '_f': IT SAYS BESIDES THAT THE BUILDER IS A BUILDER STILL ('Lib.IsBuilderF', the same bytes): SO IT CAN BE WRITTEN ON: 'b.WriteString(b.String()[:k])'. (LAID: no walk: one application.) -/
theorem Tryz.Builder_String_f (B b : Nat) (l : List UInt8) (w : World) (h : Lib.IsBuilderF 72 5 B b (Lib.byteCells l) w) (h0 : l ≠ []) :
    Calls Tryz.prog 44 #[.pointer (some ⟨b, 0, none⟩)] w fun e w' => e = .returned (.string ⟨l.toArray⟩) ∧ (Lib.IsBuilderF 72 5 B b (Lib.byteCells l) w' ∧ Below B w w') := Any.Builder_String_f Tryz.lays169 Tryz.Builder_Extra_169 B b l w h h0
open Go.RowKit in
/-- (*strings.Builder).String OF A BUILDER THAT HOLDS NO BYTE: the empty string; THE FORM '_f': a builder still. (LAID: no walk: one application.) -/
theorem Tryz.Builder_String_empty_f (B b : Nat) (w : World) (h : Lib.IsBuilderF 72 5 B b [] w) (hBw : B ≤ w.heap.size) :
    Calls Tryz.prog 44 #[.pointer (some ⟨b, 0, none⟩)] w fun e w' => e = .returned (.string ⟨#[]⟩) ∧ (Lib.IsBuilderF 72 5 B b [] w' ∧ Below B w w') := Any.Builder_String_empty_f Tryz.lays169 Tryz.Builder_Extra_169 B b w h hBw
open Go.RowKit in
/-- (*strings.Builder).String: "String returns the accumulated string.": WHATEVER THE BUILDER HOLDS; THE FORM '_f': OF A BUILDER THAT MAY HAVE BEEN READ BEFORE; AND IT IS A BUILDER STILL, holding the same bytes: it can be written on. (LAID: no walk: one application.) -/
theorem Tryz.Builder_String_any_f (B b : Nat) (l : List UInt8) (w : World) (h : Lib.IsBuilderF 72 5 B b (Lib.byteCells l) w) (hBw : B ≤ w.heap.size) :
    Calls Tryz.prog 44 #[.pointer (some ⟨b, 0, none⟩)] w fun e w' => e = .returned (.string ⟨l.toArray⟩) ∧ (Lib.IsBuilderF 72 5 B b (Lib.byteCells l) w' ∧ Below B w w') := Any.Builder_String_any_f Tryz.lays169 Tryz.Builder_Extra_169 B b l w h hBw
open Go.RowKit in
/-- (*strings.Builder).String: "String returns the accumulated string.": OF A BUILDER THAT HOLDS AT LEAST ONE BYTE. ✋ THE MODEL FREEZES THOSE BYTES IN THE BUFFER (unsafe.String): a later write INTO them ends the model's run without an answer; a later append BEHIND them goes on. The statement's order of evaluation is drawn: one draw. THE FORM '_k': OVER 'Lib.IsBuilderF' (a builder that 'String()' may have read), AND WITH THE FRAME THAT REACHES ABOVE THE BUILDER: 'Lib.OthersKept': every block that is not b and is no row of uint8's stands as it stood: the iterator of a range among them. (LAID: no walk: one application.) -/
theorem Tryz.Builder_String_k (B b : Nat) (l : List UInt8) (w : World) (h : Lib.IsBuilderF 72 5 B b (Lib.byteCells l) w) (h0 : l ≠ []) :
    Calls Tryz.prog 44 #[.pointer (some ⟨b, 0, none⟩)] w fun e w' => e = .returned (.string ⟨l.toArray⟩) ∧ (Lib.IsBuilderF 72 5 B b (Lib.byteCells l) w' ∧ Below B w w' ∧ Lib.OthersKept 5 (some b) w w') := Any.Builder_String_k Tryz.lays169 Tryz.Builder_Extra_169 B b l w h h0
open Go.RowKit in
/-- (*strings.Builder).String OF A BUILDER THAT HOLDS NO BYTE: the empty string; THE FORM '_k': OVER 'Lib.IsBuilderF' (a builder that 'String()' may have read), AND WITH THE FRAME THAT REACHES ABOVE THE BUILDER: 'Lib.OthersKept': every block that is not b and is no row of uint8's stands as it stood: the iterator of a range among them. (LAID: no walk: one application.) -/
theorem Tryz.Builder_String_empty_k (B b : Nat) (w : World) (h : Lib.IsBuilderF 72 5 B b [] w) (hBw : B ≤ w.heap.size) :
    Calls Tryz.prog 44 #[.pointer (some ⟨b, 0, none⟩)] w fun e w' => e = .returned (.string ⟨#[]⟩) ∧ (Lib.IsBuilderF 72 5 B b [] w' ∧ Below B w w' ∧ Lib.OthersKept 5 (some b) w w') := Any.Builder_String_empty_k Tryz.lays169 Tryz.Builder_Extra_169 B b w h hBw
open Go.RowKit in
/-- (*strings.Builder).String: "String returns the accumulated string.": WHATEVER THE BUILDER HOLDS; THE FORM '_k': OVER 'Lib.IsBuilderF' (a builder that 'String()' may have read), AND WITH THE FRAME THAT REACHES ABOVE THE BUILDER: 'Lib.OthersKept': every block that is not b and is no row of uint8's stands as it stood: the iterator of a range among them. (LAID: no walk: one application.) -/
theorem Tryz.Builder_String_any_k (B b : Nat) (l : List UInt8) (w : World) (h : Lib.IsBuilderF 72 5 B b (Lib.byteCells l) w) (hBw : B ≤ w.heap.size) :
    Calls Tryz.prog 44 #[.pointer (some ⟨b, 0, none⟩)] w fun e w' => e = .returned (.string ⟨l.toArray⟩) ∧ (Lib.IsBuilderF 72 5 B b (Lib.byteCells l) w' ∧ Below B w w' ∧ Lib.OthersKept 5 (some b) w w') := Any.Builder_String_any_k Tryz.lays169 Tryz.Builder_Extra_169 B b l w h hBw
def Tryz.lays278_ren : Go.Shelf.Ren := ⟨fun | 278 => 46 | n => n, fun | 37 => 50 | 21 => 21 | 51 => 79 | 4 => 4 | 46 => 92 | 5 => 5 | n => n, fun | n => n⟩
theorem Tryz.lays278 : Go.Proofs.Lays.n278 Tryz.prog Tryz.lays278_ren := {
  mixed := by kernel_rfl
  f278 := Tryz.func46.trans (congrArg some (by kernel_rfl))
  t4 := Tryz.underlying4
  a4 := Tryz.isAgg4
  z4 := Tryz.sizeOf4
  v4 := Tryz.zeroValue4
  t5 := Tryz.underlying5
  a5 := Tryz.isAgg5
  z5 := Tryz.sizeOf5
  v5 := Tryz.zeroValue5
  t21 := Tryz.underlying21
  a21 := Tryz.isAgg21
  z21 := Tryz.sizeOf21
  v21 := Tryz.zeroValue21
  t37 := Tryz.underlying50
  a37 := Tryz.isAgg50
  z37 := Tryz.sizeOf50
  v37 := Tryz.zeroValue50
  t46 := Tryz.underlying92
  a46 := Tryz.isAgg92
  z46 := Tryz.sizeOf92
  v46 := Tryz.zeroValue92
  t51 := Tryz.underlying79
  a51 := Tryz.isAgg79
  z51 := Tryz.sizeOf79
  v51 := Tryz.zeroValue79 }
open Go.RowKit in
/-- unicode/utf8.appendRuneNonASCII (what AppendRune calls for all but ASCII), ONTO A ROW OF BYTES THAT THE CALL OWNS: every int32 that is no ASCII rune: 'Lib.runeCells r' goes in behind what the row holds. (LAID: no walk: one application.) -/
theorem Tryz.utf8_appendRuneNonASCII_row (B : Nat) (v : Value) (n : Nat) (xs : List Value) (r : Int) (hr0 : -2147483648 ≤ r) (hr1 : r ≤ 2147483647) (hna : r < 0 ∨ 128 ≤ r) (w : World) (hown : w.ownsRowF B 5 1 v n xs) (hlen : n + 4 ≤ 140737488355328) (hBw : B ≤ w.heap.size) :
    Calls Tryz.prog 46 #[v, .int .i32 r] w fun e w' => ∃ v', e = .returned v' ∧ w'.ownsRowF B 5 1 v' (n + (Lib.runeCells r).length) (xs ++ Lib.runeCells r) ∧ ∃ o, (w.alloc o).grownBy w' v.ownBlock := Any.utf8_appendRuneNonASCII_row Tryz.lays278 (by kernel_rfl) B v n xs r hr0 hr1 hna w hown hlen hBw
def Tryz.lays242_ren : Go.Shelf.Ren := ⟨fun | 242 => 36 | 278 => 46 | n => n, fun | 37 => 50 | 21 => 21 | 51 => 79 | 4 => 4 | 5 => 5 | 46 => 92 | n => n, fun | n => n⟩
theorem Tryz.lays242 : Go.Proofs.Lays.n242 Tryz.prog Tryz.lays242_ren := {
  mixed := by kernel_rfl
  f242 := Tryz.func36.trans (congrArg some (by kernel_rfl))
  f278 := Tryz.func46.trans (congrArg some (by kernel_rfl))
  t4 := Tryz.underlying4
  a4 := Tryz.isAgg4
  z4 := Tryz.sizeOf4
  v4 := Tryz.zeroValue4
  t5 := Tryz.underlying5
  a5 := Tryz.isAgg5
  z5 := Tryz.sizeOf5
  v5 := Tryz.zeroValue5
  t21 := Tryz.underlying21
  a21 := Tryz.isAgg21
  z21 := Tryz.sizeOf21
  v21 := Tryz.zeroValue21
  t37 := Tryz.underlying50
  a37 := Tryz.isAgg50
  z37 := Tryz.sizeOf50
  v37 := Tryz.zeroValue50
  t46 := Tryz.underlying92
  a46 := Tryz.isAgg92
  z46 := Tryz.sizeOf92
  v46 := Tryz.zeroValue92
  t51 := Tryz.underlying79
  a51 := Tryz.isAgg79
  z51 := Tryz.sizeOf79
  v51 := Tryz.zeroValue79 }
open Go.RowKit in
/-- unicode/utf8.AppendRune: "AppendRune appends the UTF-8 encoding of r to the end of p and returns the extended buffer. If the rune is out of range, it appends the encoding of RuneError.": ONTO A ROW OF BYTES THAT THE CALL OWNS (its head frozen or not): EVERY int32: 'Lib.runeCells r' goes in behind what the row holds; the world: one new block (the bytes as the call's variadic argument), then what 'append' does to the row. (LAID: no walk: one application.) -/
theorem Tryz.utf8_AppendRune_row (B : Nat) (v : Value) (n : Nat) (xs : List Value) (r : Int) (hr0 : -2147483648 ≤ r) (hr1 : r ≤ 2147483647) (w : World) (hown : w.ownsRowF B 5 1 v n xs) (hlen : n + 4 ≤ 140737488355328) (hBw : B ≤ w.heap.size) :
    Calls Tryz.prog 36 #[v, .int .i32 r] w fun e w' => ∃ v', e = .returned v' ∧ w'.ownsRowF B 5 1 v' (n + (Lib.runeCells r).length) (xs ++ Lib.runeCells r) ∧ ∃ o, (w.alloc o).grownBy w' v.ownBlock := Any.utf8_AppendRune_row Tryz.lays242 (by kernel_rfl) B v n xs r hr0 hr1 w hown hlen hBw
open Go.RowKit in
/-- unicode/utf8.appendRuneNonASCII (what AppendRune calls for all but ASCII), ONTO A ROW OF BYTES THAT THE CALL OWNS: every int32 that is no ASCII rune: 'Lib.runeCells r' goes in behind what the row holds. (LAID: no walk: one application.) -/
theorem Tryz.utf8_appendRuneNonASCII_plain (B : Nat) (v : Value) (n : Nat) (xs : List Value) (r : Int) (hr0 : -2147483648 ≤ r) (hr1 : r ≤ 2147483647) (hna : r < 0 ∨ 128 ≤ r) (w : World) (hown : w.ownsRow B 5 1 v n xs) (hlen : n + 4 ≤ 140737488355328) (hBw : B ≤ w.heap.size) :
    Calls Tryz.prog 46 #[v, .int .i32 r] w fun e w' => ∃ v', e = .returned v' ∧ w'.ownsRow B 5 1 v' (n + (Lib.runeCells r).length) (xs ++ Lib.runeCells r) ∧ ∃ o, (w.alloc o).grownBy w' v.ownBlock := Any.utf8_appendRuneNonASCII_plain Tryz.lays278 (by kernel_rfl) B v n xs r hr0 hr1 hna w hown hlen hBw
open Go.RowKit in
/-- unicode/utf8.AppendRune: "AppendRune appends the UTF-8 encoding of r to the end of p and returns the extended buffer. If the rune is out of range, it appends the encoding of RuneError.": ONTO A ROW OF BYTES THAT THE CALL OWNS (its head frozen or not): EVERY int32: 'Lib.runeCells r' goes in behind what the row holds; the world: one new block (the bytes as the call's variadic argument), then what 'append' does to the row. (LAID: no walk: one application.) -/
theorem Tryz.utf8_AppendRune_plain (B : Nat) (v : Value) (n : Nat) (xs : List Value) (r : Int) (hr0 : -2147483648 ≤ r) (hr1 : r ≤ 2147483647) (w : World) (hown : w.ownsRow B 5 1 v n xs) (hlen : n + 4 ≤ 140737488355328) (hBw : B ≤ w.heap.size) :
    Calls Tryz.prog 36 #[v, .int .i32 r] w fun e w' => ∃ v', e = .returned v' ∧ w'.ownsRow B 5 1 v' (n + (Lib.runeCells r).length) (xs ++ Lib.runeCells r) ∧ ∃ o, (w.alloc o).grownBy w' v.ownBlock := Any.utf8_AppendRune_plain Tryz.lays242 (by kernel_rfl) B v n xs r hr0 hr1 w hown hlen hBw
def Tryz.lays129_ren : Go.Shelf.Ren := ⟨fun | 129 => 73 | n => n, fun | 53 => 87 | 3 => 3 | 4 => 4 | 46 => 92 | 5 => 5 | 9 => 9 | n => n, fun | n => n⟩
theorem Tryz.lays129 : Go.Proofs.Lays.n129 Tryz.prog Tryz.lays129_ren := {
  mixed := by kernel_rfl
  f129 := Tryz.func73.trans (congrArg some (by kernel_rfl))
  t3 := Tryz.underlying3
  a3 := Tryz.isAgg3
  z3 := Tryz.sizeOf3
  v3 := Tryz.zeroValue3
  t4 := Tryz.underlying4
  a4 := Tryz.isAgg4
  z4 := Tryz.sizeOf4
  v4 := Tryz.zeroValue4
  t5 := Tryz.underlying5
  a5 := Tryz.isAgg5
  z5 := Tryz.sizeOf5
  v5 := Tryz.zeroValue5
  t9 := Tryz.underlying9
  a9 := Tryz.isAgg9
  z9 := Tryz.sizeOf9
  v9 := Tryz.zeroValue9
  t46 := Tryz.underlying92
  a46 := Tryz.isAgg92
  z46 := Tryz.sizeOf92
  v46 := Tryz.zeroValue92
  t53 := Tryz.underlying87
  a53 := Tryz.isAgg87
  z53 := Tryz.sizeOf87
  v53 := Tryz.zeroValue87 }
/-- bits.Len64: "Len64 returns the minimum number of bits required to represent x; the result is 0 for x == 0.": IT RETURNS 'Lib.bitLen x'; the world is as it was. ('h0', 'h1': x is a uint64.) (LAID: no walk: one application.) -/
theorem Tryz.bits_Len64 (x : Int) (w : World) (h0 : 0 ≤ x) (h1 : x ≤ 18446744073709551615) :
    Calls Tryz.prog 73 #[.int .u64 x] w fun e w' => e = .returned (.int .i64 (Lib.bitLen x.toNat)) ∧ w' = w := Any.bits_Len64 Tryz.lays129 x w h0 h1
def Tryz.lays317_ren : Go.Shelf.Ren := ⟨fun | 317 => 72 | n => n, fun | 3 => 3 | 46 => 92 | n => n, fun | n => n⟩
theorem Tryz.lays317 : Go.Proofs.Lays.n317 Tryz.prog Tryz.lays317_ren := {
  mixed := by kernel_rfl
  f317 := Tryz.func72.trans (congrArg some (by kernel_rfl))
  t3 := Tryz.underlying3
  a3 := Tryz.isAgg3
  z3 := Tryz.sizeOf3
  v3 := Tryz.zeroValue3
  t46 := Tryz.underlying92
  a46 := Tryz.isAgg92
  z46 := Tryz.sizeOf92
  v46 := Tryz.zeroValue92 }
open Go.Lib in
/-- internal/strconv.log10Pow2: "log10Pow2(x) returns ⌊log₁₀ 2**x⌋ = ⌊x * log₁₀ 2⌋.": '(x * 78913) >> 18', at an x up to 64 (a length in bits). The world is as it was. (LAID: no walk: one application.) -/
theorem Tryz.internal_strconv_log10Pow2 (x : Nat) (h : x ≤ 64) (w : World) :
    Calls Tryz.prog 72 #[.int .i64 x] w fun e w' => e = .returned (.int .i64 (Lib.l10 x)) ∧ w' = w := Any.internal_strconv_log10Pow2 Tryz.lays317 x h w
def Tryz.lays318_ren : Go.Shelf.Ren := ⟨fun | 318 => 74 | n => n, fun | 3 => 3 | 4 => 4 | n => n, fun | n => n⟩
theorem Tryz.lays318 : Go.Proofs.Lays.n318 Tryz.prog Tryz.lays318_ren := {
  mixed := by kernel_rfl
  f318 := Tryz.func74.trans (congrArg some (by kernel_rfl))
  t3 := Tryz.underlying3
  a3 := Tryz.isAgg3
  z3 := Tryz.sizeOf3
  v3 := Tryz.zeroValue3
  t4 := Tryz.underlying4
  a4 := Tryz.isAgg4
  z4 := Tryz.sizeOf4
  v4 := Tryz.zeroValue4 }
open Go.Lib in
/-- internal/strconv.bool2: "bool2 converts b to an integer: 1 for true, 0 for false." The world is as it was. (LAID: no walk: one application.) -/
theorem Tryz.internal_strconv_bool2_int (b : Bool) (w : World) :
    Calls Tryz.prog 74 #[.bool b] w fun e w' => e = .returned (.int .i64 (if b then 1 else 0)) ∧ w' = w := Any.internal_strconv_bool2_int Tryz.lays318 b w
def Tryz.lays283_ren : Go.Shelf.Ren := ⟨fun | 283 => 56 | n => n, fun | 3 => 3 | 9 => 9 | 4 => 4 | n => n, fun | n => n⟩
theorem Tryz.lays283 : Go.Proofs.Lays.n283 Tryz.prog Tryz.lays283_ren := {
  mixed := by kernel_rfl
  f283 := Tryz.func56.trans (congrArg some (by kernel_rfl))
  t3 := Tryz.underlying3
  a3 := Tryz.isAgg3
  z3 := Tryz.sizeOf3
  v3 := Tryz.zeroValue3
  t4 := Tryz.underlying4
  a4 := Tryz.isAgg4
  z4 := Tryz.sizeOf4
  v4 := Tryz.zeroValue4
  t9 := Tryz.underlying9
  a9 := Tryz.isAgg9
  z9 := Tryz.sizeOf9
  v9 := Tryz.zeroValue9 }
open Go.Lib in
/-- internal/strconv.small: "small returns the string for an i with 0 <= i < nSmalls.": i's decimal numeral. The world is as it was. (LAID: no walk: one application.) -/
theorem Tryz.internal_strconv_small (i : Nat) (h : i < 100) (w : World) :
    Calls Tryz.prog 56 #[.int .i64 i] w fun e w' => e = .returned (.string ⟨(Lib.decDigits i).toArray⟩) ∧ w' = w := Any.internal_strconv_small Tryz.lays283 i h w
def Tryz.laysM284_ren : Go.Shelf.Ren := ⟨fun | 284 => 57 | 129 => 73 | 317 => 72 | 318 => 74 | n => n, fun | 53 => 87 | 3 => 3 | 212 => 106 | 0 => 0 | 4 => 4 | 46 => 92 | 5 => 5 | 9 => 9 | n => n, fun | 17 => 0 | n => n⟩
theorem Tryz.laysM284 : Go.Proofs.LaysM.n284 Tryz.prog Tryz.laysM284_ren := {
  mixed := by kernel_rfl
  f129 := Tryz.func73.trans (congrArg some (by kernel_rfl))
  f284 := Tryz.func57.trans (congrArg some (by kernel_rfl))
  f317 := Tryz.func72.trans (congrArg some (by kernel_rfl))
  f318 := Tryz.func74.trans (congrArg some (by kernel_rfl))
  t0 := Tryz.underlying0
  a0 := Tryz.isAgg0
  z0 := Tryz.sizeOf0
  v0 := Tryz.zeroValue0
  t3 := Tryz.underlying3
  a3 := Tryz.isAgg3
  z3 := Tryz.sizeOf3
  v3 := Tryz.zeroValue3
  t4 := Tryz.underlying4
  a4 := Tryz.isAgg4
  z4 := Tryz.sizeOf4
  v4 := Tryz.zeroValue4
  t5 := Tryz.underlying5
  a5 := Tryz.isAgg5
  z5 := Tryz.sizeOf5
  v5 := Tryz.zeroValue5
  t9 := Tryz.underlying9
  a9 := Tryz.isAgg9
  z9 := Tryz.sizeOf9
  v9 := Tryz.zeroValue9
  t46 := Tryz.underlying92
  a46 := Tryz.isAgg92
  z46 := Tryz.sizeOf92
  v46 := Tryz.zeroValue92
  t53 := Tryz.underlying87
  a53 := Tryz.isAgg87
  z53 := Tryz.sizeOf87
  v53 := Tryz.zeroValue87
  t212 := Tryz.underlying106
  a212 := Tryz.isAgg106
  z212 := Tryz.sizeOf106
  v212 := Tryz.zeroValue106
  g17 := by kernel_rfl
  i0 := by kernel_rfl
  i3 := by kernel_rfl
  i4 := by kernel_rfl
  i5 := by kernel_rfl
  i9 := by kernel_rfl
  i46 := by kernel_rfl
  i53 := by kernel_rfl
  i212 := by kernel_rfl
  m17 := by kernel_rfl }
open Go.Lib in
/-- internal/strconv.numDigits, at a d that is not 0: THE NUMBER OF d's DECIMAL DIGITS. The world is as it was. (LAID: no walk: one application.) -/
theorem Tryz.internal_strconv_numDigits (u : Nat) (h1 : 1 ≤ u) (h2 : u < 18446744073709551616) (w : World) (htab : Lib.TabIs Tryz.prog w "internal/strconv.uint64pow10" .u64 Lib.pow10Tab) :
    Calls Tryz.prog 57 #[.int .u64 u] w fun e w' => e = .returned (.int .i64 (Lib.nDigits u)) ∧ w' = w := Any.internal_strconv_numDigits Tryz.laysM284 u h1 h2 w htab
def Tryz.lays285_ren : Go.Shelf.Ren := ⟨fun | 285 => 58 | n => n, fun | 37 => 50 | 53 => 87 | 3 => 3 | 4 => 4 | 51 => 79 | 9 => 9 | 5 => 5 | 0 => 0 | n => n, fun | n => n⟩
theorem Tryz.lays285 : Go.Proofs.Lays.n285 Tryz.prog Tryz.lays285_ren := {
  mixed := by kernel_rfl
  f285 := Tryz.func58.trans (congrArg some (by kernel_rfl))
  t0 := Tryz.underlying0
  a0 := Tryz.isAgg0
  z0 := Tryz.sizeOf0
  v0 := Tryz.zeroValue0
  t3 := Tryz.underlying3
  a3 := Tryz.isAgg3
  z3 := Tryz.sizeOf3
  v3 := Tryz.zeroValue3
  t4 := Tryz.underlying4
  a4 := Tryz.isAgg4
  z4 := Tryz.sizeOf4
  v4 := Tryz.zeroValue4
  t5 := Tryz.underlying5
  a5 := Tryz.isAgg5
  z5 := Tryz.sizeOf5
  v5 := Tryz.zeroValue5
  t9 := Tryz.underlying9
  a9 := Tryz.isAgg9
  z9 := Tryz.sizeOf9
  v9 := Tryz.zeroValue9
  t37 := Tryz.underlying50
  a37 := Tryz.isAgg50
  z37 := Tryz.sizeOf50
  v37 := Tryz.zeroValue50
  t51 := Tryz.underlying79
  a51 := Tryz.isAgg79
  z51 := Tryz.sizeOf79
  v51 := Tryz.zeroValue79
  t53 := Tryz.underlying87
  a53 := Tryz.isAgg87
  z53 := Tryz.sizeOf87
  v53 := Tryz.zeroValue87 }
open Go.RowKit Go.Sort Go.Lib in
/-- internal/strconv.formatBase10: "formatBase10 formats the decimal representation of u into a. The caller is responsible for ensuring that a is big enough to hold u. If a is too big, leading zeros will be filled in as needed.": THE ROW HOLDS u's DIGITS ('FmtInv .. 0 ..': every place t holds 'dg u (len - 1 - t)'); all else is as it was but for the count of draws. (LAID: no walk: one application.) -/
theorem Tryz.internal_strconv_formatBase10 (blk off cap : Nat) (u : Nat) (d : Array UInt8) (w : World) (hH : Holds (fun (b : UInt8) => Value.int .u8 (b.toNat : Int)) w blk off d) (hu : u < 10 ^ d.size) (hu64 : u < 18446744073709551616) (hsz : d.size < 4611686018427387904) :
    Calls Tryz.prog 58 #[.slice (some ⟨blk, off, none⟩) d.size cap, .int .u64 u] w fun e w' =>
      e = .returned (.tuple #[]) ∧ ∃ (n v' : Nat) (dk : Array UInt8), w' = (putRow (fun (b : UInt8) => Value.int .u8 (b.toNat : Int)) w blk off dk).drewN n ∧ FmtInv d.size u 0 v' dk := Any.internal_strconv_formatBase10 Tryz.lays285 blk off cap u d w hH hu hu64 hsz
def Tryz.laysM246_ren : Go.Shelf.Ren := ⟨fun | 246 => 45 | 283 => 56 | 284 => 57 | 285 => 58 | 286 => 59 | 129 => 73 | 317 => 72 | 318 => 74 | 319 => 75 | 320 => 76 | 337 => 95 | 338 => 96 | n => n, fun | 2 => 2 | 3 => 3 | 9 => 9 | 4 => 4 | 171 => 86 | 0 => 0 | 53 => 87 | 37 => 50 | 5 => 5 | 173 => 90 | 212 => 106 | 51 => 79 | 20 => 20 | 213 => 107 | 46 => 92 | 232 => 140 | 233 => 125 | n => n, fun | 17 => 0 | 18 => 3 | 19 => 4 | n => n⟩
theorem Tryz.laysM246 : Go.Proofs.LaysM.n246 Tryz.prog Tryz.laysM246_ren := {
  mixed := by kernel_rfl
  f129 := Tryz.func73.trans (congrArg some (by kernel_rfl))
  f246 := Tryz.func45.trans (congrArg some (by kernel_rfl))
  f283 := Tryz.func56.trans (congrArg some (by kernel_rfl))
  f284 := Tryz.func57.trans (congrArg some (by kernel_rfl))
  f285 := Tryz.func58.trans (congrArg some (by kernel_rfl))
  f286 := Tryz.func59.trans (congrArg some (by kernel_rfl))
  f317 := Tryz.func72.trans (congrArg some (by kernel_rfl))
  f318 := Tryz.func74.trans (congrArg some (by kernel_rfl))
  f319 := Tryz.func75.trans (congrArg some (by kernel_rfl))
  f320 := Tryz.func76.trans (congrArg some (by kernel_rfl))
  f337 := Tryz.func95.trans (congrArg some (by kernel_rfl))
  f338 := Tryz.func96.trans (congrArg some (by kernel_rfl))
  t0 := Tryz.underlying0
  a0 := Tryz.isAgg0
  z0 := Tryz.sizeOf0
  v0 := Tryz.zeroValue0
  t2 := Tryz.underlying2
  a2 := Tryz.isAgg2
  z2 := Tryz.sizeOf2
  v2 := Tryz.zeroValue2
  t3 := Tryz.underlying3
  a3 := Tryz.isAgg3
  z3 := Tryz.sizeOf3
  v3 := Tryz.zeroValue3
  t4 := Tryz.underlying4
  a4 := Tryz.isAgg4
  z4 := Tryz.sizeOf4
  v4 := Tryz.zeroValue4
  t5 := Tryz.underlying5
  a5 := Tryz.isAgg5
  z5 := Tryz.sizeOf5
  v5 := Tryz.zeroValue5
  t9 := Tryz.underlying9
  a9 := Tryz.isAgg9
  z9 := Tryz.sizeOf9
  v9 := Tryz.zeroValue9
  t20 := Tryz.underlying20
  a20 := Tryz.isAgg20
  z20 := Tryz.sizeOf20
  v20 := Tryz.zeroValue20
  t37 := Tryz.underlying50
  a37 := Tryz.isAgg50
  z37 := Tryz.sizeOf50
  v37 := Tryz.zeroValue50
  t46 := Tryz.underlying92
  a46 := Tryz.isAgg92
  z46 := Tryz.sizeOf92
  v46 := Tryz.zeroValue92
  t51 := Tryz.underlying79
  a51 := Tryz.isAgg79
  z51 := Tryz.sizeOf79
  v51 := Tryz.zeroValue79
  t53 := Tryz.underlying87
  a53 := Tryz.isAgg87
  z53 := Tryz.sizeOf87
  v53 := Tryz.zeroValue87
  t171 := Tryz.underlying86
  a171 := Tryz.isAgg86
  z171 := Tryz.sizeOf86
  v171 := Tryz.zeroValue86
  t173 := Tryz.underlying90
  a173 := Tryz.isAgg90
  z173 := Tryz.sizeOf90
  v173 := Tryz.zeroValue90
  t212 := Tryz.underlying106
  a212 := Tryz.isAgg106
  z212 := Tryz.sizeOf106
  v212 := Tryz.zeroValue106
  t213 := Tryz.underlying107
  a213 := Tryz.isAgg107
  z213 := Tryz.sizeOf107
  t232 := Tryz.underlying140
  a232 := Tryz.isAgg140
  z232 := Tryz.sizeOf140
  v232 := Tryz.zeroValue140
  t233 := Tryz.underlying125
  a233 := Tryz.isAgg125
  z233 := Tryz.sizeOf125
  v233 := Tryz.zeroValue125
  g17 := by kernel_rfl
  g18 := by kernel_rfl
  g19 := by kernel_rfl
  i0 := by kernel_rfl
  i2 := by kernel_rfl
  i3 := by kernel_rfl
  i4 := by kernel_rfl
  i5 := by kernel_rfl
  i9 := by kernel_rfl
  i20 := by kernel_rfl
  i37 := by kernel_rfl
  i46 := by kernel_rfl
  i51 := by kernel_rfl
  i53 := by kernel_rfl
  i171 := by kernel_rfl
  i173 := by kernel_rfl
  i212 := by kernel_rfl
  i232 := by kernel_rfl
  i233 := by kernel_rfl
  m17 := by kernel_rfl
  m18 := by kernel_rfl
  m19 := by kernel_rfl }
open Go.RowKit Go.Sort Go.Lib in
/-- internal/strconv.FormatInt: "FormatInt returns the string representation of i in the given base": AT BASE 10: i's decimal numeral, for every int64. The world behind the call: the world before it, new blocks behind the heap, draws. (LAID: no walk: one application.) -/
theorem Tryz.internal_strconv_FormatInt_10 (n : Int) (h0 : -9223372036854775808 ≤ n) (h1 : n ≤ 9223372036854775807) (w : World) (htab : Lib.TabIs Tryz.prog w "internal/strconv.uint64pow10" .u64 Lib.pow10Tab) :
    Calls Tryz.prog 45 #[.int .i64 n, .int .i64 10] w fun e w' => e = .returned (.string ⟨(Lib.itoa n).toArray⟩) ∧ ∃ k os, w' = grow (w.drewN k) os := Any.internal_strconv_FormatInt_10 Tryz.laysM246 n h0 h1 w htab
def Tryz.lays246_ren : Go.Shelf.Ren := ⟨fun | 246 => 45 | 283 => 56 | 284 => 57 | 285 => 58 | 286 => 59 | 129 => 73 | 317 => 72 | 318 => 74 | 319 => 75 | 320 => 76 | 337 => 95 | 338 => 96 | n => n, fun | 2 => 2 | 3 => 3 | 9 => 9 | 4 => 4 | 171 => 86 | 0 => 0 | 53 => 87 | 37 => 50 | 5 => 5 | 173 => 90 | 212 => 106 | 51 => 79 | 20 => 20 | 213 => 107 | 46 => 92 | 232 => 140 | 233 => 125 | n => n, fun | 17 => 0 | 18 => 3 | 19 => 4 | n => n⟩
theorem Tryz.lays246 : Go.Proofs.Lays.n246 Tryz.prog Tryz.lays246_ren := {
  mixed := by kernel_rfl
  f129 := Tryz.func73.trans (congrArg some (by kernel_rfl))
  f246 := Tryz.func45.trans (congrArg some (by kernel_rfl))
  f283 := Tryz.func56.trans (congrArg some (by kernel_rfl))
  f284 := Tryz.func57.trans (congrArg some (by kernel_rfl))
  f285 := Tryz.func58.trans (congrArg some (by kernel_rfl))
  f286 := Tryz.func59.trans (congrArg some (by kernel_rfl))
  f317 := Tryz.func72.trans (congrArg some (by kernel_rfl))
  f318 := Tryz.func74.trans (congrArg some (by kernel_rfl))
  f319 := Tryz.func75.trans (congrArg some (by kernel_rfl))
  f320 := Tryz.func76.trans (congrArg some (by kernel_rfl))
  f337 := Tryz.func95.trans (congrArg some (by kernel_rfl))
  f338 := Tryz.func96.trans (congrArg some (by kernel_rfl))
  t0 := Tryz.underlying0
  a0 := Tryz.isAgg0
  z0 := Tryz.sizeOf0
  v0 := Tryz.zeroValue0
  t2 := Tryz.underlying2
  a2 := Tryz.isAgg2
  z2 := Tryz.sizeOf2
  v2 := Tryz.zeroValue2
  t3 := Tryz.underlying3
  a3 := Tryz.isAgg3
  z3 := Tryz.sizeOf3
  v3 := Tryz.zeroValue3
  t4 := Tryz.underlying4
  a4 := Tryz.isAgg4
  z4 := Tryz.sizeOf4
  v4 := Tryz.zeroValue4
  t5 := Tryz.underlying5
  a5 := Tryz.isAgg5
  z5 := Tryz.sizeOf5
  v5 := Tryz.zeroValue5
  t9 := Tryz.underlying9
  a9 := Tryz.isAgg9
  z9 := Tryz.sizeOf9
  v9 := Tryz.zeroValue9
  t20 := Tryz.underlying20
  a20 := Tryz.isAgg20
  z20 := Tryz.sizeOf20
  v20 := Tryz.zeroValue20
  t37 := Tryz.underlying50
  a37 := Tryz.isAgg50
  z37 := Tryz.sizeOf50
  v37 := Tryz.zeroValue50
  t46 := Tryz.underlying92
  a46 := Tryz.isAgg92
  z46 := Tryz.sizeOf92
  v46 := Tryz.zeroValue92
  t51 := Tryz.underlying79
  a51 := Tryz.isAgg79
  z51 := Tryz.sizeOf79
  v51 := Tryz.zeroValue79
  t53 := Tryz.underlying87
  a53 := Tryz.isAgg87
  z53 := Tryz.sizeOf87
  v53 := Tryz.zeroValue87
  t171 := Tryz.underlying86
  a171 := Tryz.isAgg86
  z171 := Tryz.sizeOf86
  v171 := Tryz.zeroValue86
  t173 := Tryz.underlying90
  a173 := Tryz.isAgg90
  z173 := Tryz.sizeOf90
  v173 := Tryz.zeroValue90
  t212 := Tryz.underlying106
  a212 := Tryz.isAgg106
  z212 := Tryz.sizeOf106
  v212 := Tryz.zeroValue106
  t213 := Tryz.underlying107
  a213 := Tryz.isAgg107
  z213 := Tryz.sizeOf107
  t232 := Tryz.underlying140
  a232 := Tryz.isAgg140
  z232 := Tryz.sizeOf140
  v232 := Tryz.zeroValue140
  t233 := Tryz.underlying125
  a233 := Tryz.isAgg125
  z233 := Tryz.sizeOf125
  v233 := Tryz.zeroValue125
  g17 := by kernel_rfl
  g18 := by kernel_rfl
  g19 := by kernel_rfl }
open Go.RowKit Go.Sort Go.Lib in
/-- THE ROAD WITHOUT THE TABLE: 0 <= i < 100: two constants are read, nothing is laid: no premise on the world, and the world is as it was. (LAID: no walk: one application.) -/
theorem Tryz.internal_strconv_FormatInt_10_small (i : Nat) (hi : i < 100) (w : World) :
    Calls Tryz.prog 45 #[.int .i64 i, .int .i64 10] w fun e w' => e = .returned (.string ⟨(Lib.decDigits i).toArray⟩) ∧ w' = w := Any.internal_strconv_FormatInt_10_small Tryz.lays246 i hi w
def Tryz.laysM243_ren : Go.Shelf.Ren := ⟨fun | 243 => 35 | 246 => 45 | 283 => 56 | 284 => 57 | 285 => 58 | 286 => 59 | 129 => 73 | 317 => 72 | 318 => 74 | 319 => 75 | 320 => 76 | 337 => 95 | 338 => 96 | n => n, fun | 3 => 3 | 9 => 9 | 2 => 2 | 4 => 4 | 171 => 86 | 0 => 0 | 53 => 87 | 37 => 50 | 5 => 5 | 173 => 90 | 212 => 106 | 51 => 79 | 20 => 20 | 213 => 107 | 46 => 92 | 232 => 140 | 233 => 125 | n => n, fun | 17 => 0 | 18 => 3 | 19 => 4 | n => n⟩
theorem Tryz.laysM243 : Go.Proofs.LaysM.n243 Tryz.prog Tryz.laysM243_ren := {
  mixed := by kernel_rfl
  f129 := Tryz.func73.trans (congrArg some (by kernel_rfl))
  f243 := Tryz.func35.trans (congrArg some (by kernel_rfl))
  f246 := Tryz.func45.trans (congrArg some (by kernel_rfl))
  f283 := Tryz.func56.trans (congrArg some (by kernel_rfl))
  f284 := Tryz.func57.trans (congrArg some (by kernel_rfl))
  f285 := Tryz.func58.trans (congrArg some (by kernel_rfl))
  f286 := Tryz.func59.trans (congrArg some (by kernel_rfl))
  f317 := Tryz.func72.trans (congrArg some (by kernel_rfl))
  f318 := Tryz.func74.trans (congrArg some (by kernel_rfl))
  f319 := Tryz.func75.trans (congrArg some (by kernel_rfl))
  f320 := Tryz.func76.trans (congrArg some (by kernel_rfl))
  f337 := Tryz.func95.trans (congrArg some (by kernel_rfl))
  f338 := Tryz.func96.trans (congrArg some (by kernel_rfl))
  t0 := Tryz.underlying0
  a0 := Tryz.isAgg0
  z0 := Tryz.sizeOf0
  v0 := Tryz.zeroValue0
  t2 := Tryz.underlying2
  a2 := Tryz.isAgg2
  z2 := Tryz.sizeOf2
  v2 := Tryz.zeroValue2
  t3 := Tryz.underlying3
  a3 := Tryz.isAgg3
  z3 := Tryz.sizeOf3
  v3 := Tryz.zeroValue3
  t4 := Tryz.underlying4
  a4 := Tryz.isAgg4
  z4 := Tryz.sizeOf4
  v4 := Tryz.zeroValue4
  t5 := Tryz.underlying5
  a5 := Tryz.isAgg5
  z5 := Tryz.sizeOf5
  v5 := Tryz.zeroValue5
  t9 := Tryz.underlying9
  a9 := Tryz.isAgg9
  z9 := Tryz.sizeOf9
  v9 := Tryz.zeroValue9
  t20 := Tryz.underlying20
  a20 := Tryz.isAgg20
  z20 := Tryz.sizeOf20
  v20 := Tryz.zeroValue20
  t37 := Tryz.underlying50
  a37 := Tryz.isAgg50
  z37 := Tryz.sizeOf50
  v37 := Tryz.zeroValue50
  t46 := Tryz.underlying92
  a46 := Tryz.isAgg92
  z46 := Tryz.sizeOf92
  v46 := Tryz.zeroValue92
  t51 := Tryz.underlying79
  a51 := Tryz.isAgg79
  z51 := Tryz.sizeOf79
  v51 := Tryz.zeroValue79
  t53 := Tryz.underlying87
  a53 := Tryz.isAgg87
  z53 := Tryz.sizeOf87
  v53 := Tryz.zeroValue87
  t171 := Tryz.underlying86
  a171 := Tryz.isAgg86
  z171 := Tryz.sizeOf86
  v171 := Tryz.zeroValue86
  t173 := Tryz.underlying90
  a173 := Tryz.isAgg90
  z173 := Tryz.sizeOf90
  v173 := Tryz.zeroValue90
  t212 := Tryz.underlying106
  a212 := Tryz.isAgg106
  z212 := Tryz.sizeOf106
  v212 := Tryz.zeroValue106
  t213 := Tryz.underlying107
  a213 := Tryz.isAgg107
  z213 := Tryz.sizeOf107
  t232 := Tryz.underlying140
  a232 := Tryz.isAgg140
  z232 := Tryz.sizeOf140
  v232 := Tryz.zeroValue140
  t233 := Tryz.underlying125
  a233 := Tryz.isAgg125
  z233 := Tryz.sizeOf125
  v233 := Tryz.zeroValue125
  g17 := by kernel_rfl
  g18 := by kernel_rfl
  g19 := by kernel_rfl
  i0 := by kernel_rfl
  i2 := by kernel_rfl
  i3 := by kernel_rfl
  i4 := by kernel_rfl
  i5 := by kernel_rfl
  i9 := by kernel_rfl
  i20 := by kernel_rfl
  i37 := by kernel_rfl
  i46 := by kernel_rfl
  i51 := by kernel_rfl
  i53 := by kernel_rfl
  i171 := by kernel_rfl
  i173 := by kernel_rfl
  i212 := by kernel_rfl
  i232 := by kernel_rfl
  i233 := by kernel_rfl
  m17 := by kernel_rfl
  m18 := by kernel_rfl
  m19 := by kernel_rfl }
open Go.RowKit Go.Sort Go.Lib in
/-- internal/strconv.Itoa: "Itoa is equivalent to FormatInt(int64(i), 10).": i's decimal numeral, for every int. (LAID: no walk: one application.) -/
theorem Tryz.internal_strconv_Itoa (n : Int) (h0 : -9223372036854775808 ≤ n) (h1 : n ≤ 9223372036854775807) (w : World) (htab : Lib.TabIs Tryz.prog w "internal/strconv.uint64pow10" .u64 Lib.pow10Tab) :
    Calls Tryz.prog 35 #[.int .i64 n] w fun e w' => e = .returned (.string ⟨(Lib.itoa n).toArray⟩) ∧ ∃ k os, w' = grow (w.drewN k) os := Any.internal_strconv_Itoa Tryz.laysM243 n h0 h1 w htab
def Tryz.lays243_ren : Go.Shelf.Ren := ⟨fun | 243 => 35 | 246 => 45 | 283 => 56 | 284 => 57 | 285 => 58 | 286 => 59 | 129 => 73 | 317 => 72 | 318 => 74 | 319 => 75 | 320 => 76 | 337 => 95 | 338 => 96 | n => n, fun | 3 => 3 | 9 => 9 | 2 => 2 | 4 => 4 | 171 => 86 | 0 => 0 | 53 => 87 | 37 => 50 | 5 => 5 | 173 => 90 | 212 => 106 | 51 => 79 | 20 => 20 | 213 => 107 | 46 => 92 | 232 => 140 | 233 => 125 | n => n, fun | 17 => 0 | 18 => 3 | 19 => 4 | n => n⟩
theorem Tryz.lays243 : Go.Proofs.Lays.n243 Tryz.prog Tryz.lays243_ren := {
  mixed := by kernel_rfl
  f129 := Tryz.func73.trans (congrArg some (by kernel_rfl))
  f243 := Tryz.func35.trans (congrArg some (by kernel_rfl))
  f246 := Tryz.func45.trans (congrArg some (by kernel_rfl))
  f283 := Tryz.func56.trans (congrArg some (by kernel_rfl))
  f284 := Tryz.func57.trans (congrArg some (by kernel_rfl))
  f285 := Tryz.func58.trans (congrArg some (by kernel_rfl))
  f286 := Tryz.func59.trans (congrArg some (by kernel_rfl))
  f317 := Tryz.func72.trans (congrArg some (by kernel_rfl))
  f318 := Tryz.func74.trans (congrArg some (by kernel_rfl))
  f319 := Tryz.func75.trans (congrArg some (by kernel_rfl))
  f320 := Tryz.func76.trans (congrArg some (by kernel_rfl))
  f337 := Tryz.func95.trans (congrArg some (by kernel_rfl))
  f338 := Tryz.func96.trans (congrArg some (by kernel_rfl))
  t0 := Tryz.underlying0
  a0 := Tryz.isAgg0
  z0 := Tryz.sizeOf0
  v0 := Tryz.zeroValue0
  t2 := Tryz.underlying2
  a2 := Tryz.isAgg2
  z2 := Tryz.sizeOf2
  v2 := Tryz.zeroValue2
  t3 := Tryz.underlying3
  a3 := Tryz.isAgg3
  z3 := Tryz.sizeOf3
  v3 := Tryz.zeroValue3
  t4 := Tryz.underlying4
  a4 := Tryz.isAgg4
  z4 := Tryz.sizeOf4
  v4 := Tryz.zeroValue4
  t5 := Tryz.underlying5
  a5 := Tryz.isAgg5
  z5 := Tryz.sizeOf5
  v5 := Tryz.zeroValue5
  t9 := Tryz.underlying9
  a9 := Tryz.isAgg9
  z9 := Tryz.sizeOf9
  v9 := Tryz.zeroValue9
  t20 := Tryz.underlying20
  a20 := Tryz.isAgg20
  z20 := Tryz.sizeOf20
  v20 := Tryz.zeroValue20
  t37 := Tryz.underlying50
  a37 := Tryz.isAgg50
  z37 := Tryz.sizeOf50
  v37 := Tryz.zeroValue50
  t46 := Tryz.underlying92
  a46 := Tryz.isAgg92
  z46 := Tryz.sizeOf92
  v46 := Tryz.zeroValue92
  t51 := Tryz.underlying79
  a51 := Tryz.isAgg79
  z51 := Tryz.sizeOf79
  v51 := Tryz.zeroValue79
  t53 := Tryz.underlying87
  a53 := Tryz.isAgg87
  z53 := Tryz.sizeOf87
  v53 := Tryz.zeroValue87
  t171 := Tryz.underlying86
  a171 := Tryz.isAgg86
  z171 := Tryz.sizeOf86
  v171 := Tryz.zeroValue86
  t173 := Tryz.underlying90
  a173 := Tryz.isAgg90
  z173 := Tryz.sizeOf90
  v173 := Tryz.zeroValue90
  t212 := Tryz.underlying106
  a212 := Tryz.isAgg106
  z212 := Tryz.sizeOf106
  v212 := Tryz.zeroValue106
  t213 := Tryz.underlying107
  a213 := Tryz.isAgg107
  z213 := Tryz.sizeOf107
  t232 := Tryz.underlying140
  a232 := Tryz.isAgg140
  z232 := Tryz.sizeOf140
  v232 := Tryz.zeroValue140
  t233 := Tryz.underlying125
  a233 := Tryz.isAgg125
  z233 := Tryz.sizeOf125
  v233 := Tryz.zeroValue125
  g17 := by kernel_rfl
  g18 := by kernel_rfl
  g19 := by kernel_rfl }
open Go.RowKit Go.Sort Go.Lib in
/-- THE ROAD WITHOUT THE TABLE: 0 <= i < 100. (LAID: no walk: one application.) -/
theorem Tryz.internal_strconv_Itoa_small (i : Nat) (hi : i < 100) (w : World) :
    Calls Tryz.prog 35 #[.int .i64 i] w fun e w' => e = .returned (.string ⟨(Lib.decDigits i).toArray⟩) ∧ w' = w := Any.internal_strconv_Itoa_small Tryz.lays243 i hi w
def Tryz.laysM171_ren : Go.Shelf.Ren := ⟨fun | 171 => 21 | 243 => 35 | 246 => 45 | 283 => 56 | 284 => 57 | 285 => 58 | 286 => 59 | 129 => 73 | 317 => 72 | 318 => 74 | 319 => 75 | 320 => 76 | 337 => 95 | 338 => 96 | n => n, fun | 3 => 3 | 9 => 9 | 2 => 2 | 4 => 4 | 171 => 86 | 0 => 0 | 53 => 87 | 37 => 50 | 5 => 5 | 173 => 90 | 212 => 106 | 51 => 79 | 20 => 20 | 213 => 107 | 46 => 92 | 232 => 140 | 233 => 125 | n => n, fun | 17 => 0 | 18 => 3 | 19 => 4 | n => n⟩
theorem Tryz.laysM171 : Go.Proofs.LaysM.n171 Tryz.prog Tryz.laysM171_ren := {
  mixed := by kernel_rfl
  f129 := Tryz.func73.trans (congrArg some (by kernel_rfl))
  f171 := Tryz.func21.trans (congrArg some (by kernel_rfl))
  f243 := Tryz.func35.trans (congrArg some (by kernel_rfl))
  f246 := Tryz.func45.trans (congrArg some (by kernel_rfl))
  f283 := Tryz.func56.trans (congrArg some (by kernel_rfl))
  f284 := Tryz.func57.trans (congrArg some (by kernel_rfl))
  f285 := Tryz.func58.trans (congrArg some (by kernel_rfl))
  f286 := Tryz.func59.trans (congrArg some (by kernel_rfl))
  f317 := Tryz.func72.trans (congrArg some (by kernel_rfl))
  f318 := Tryz.func74.trans (congrArg some (by kernel_rfl))
  f319 := Tryz.func75.trans (congrArg some (by kernel_rfl))
  f320 := Tryz.func76.trans (congrArg some (by kernel_rfl))
  f337 := Tryz.func95.trans (congrArg some (by kernel_rfl))
  f338 := Tryz.func96.trans (congrArg some (by kernel_rfl))
  t0 := Tryz.underlying0
  a0 := Tryz.isAgg0
  z0 := Tryz.sizeOf0
  v0 := Tryz.zeroValue0
  t2 := Tryz.underlying2
  a2 := Tryz.isAgg2
  z2 := Tryz.sizeOf2
  v2 := Tryz.zeroValue2
  t3 := Tryz.underlying3
  a3 := Tryz.isAgg3
  z3 := Tryz.sizeOf3
  v3 := Tryz.zeroValue3
  t4 := Tryz.underlying4
  a4 := Tryz.isAgg4
  z4 := Tryz.sizeOf4
  v4 := Tryz.zeroValue4
  t5 := Tryz.underlying5
  a5 := Tryz.isAgg5
  z5 := Tryz.sizeOf5
  v5 := Tryz.zeroValue5
  t9 := Tryz.underlying9
  a9 := Tryz.isAgg9
  z9 := Tryz.sizeOf9
  v9 := Tryz.zeroValue9
  t20 := Tryz.underlying20
  a20 := Tryz.isAgg20
  z20 := Tryz.sizeOf20
  v20 := Tryz.zeroValue20
  t37 := Tryz.underlying50
  a37 := Tryz.isAgg50
  z37 := Tryz.sizeOf50
  v37 := Tryz.zeroValue50
  t46 := Tryz.underlying92
  a46 := Tryz.isAgg92
  z46 := Tryz.sizeOf92
  v46 := Tryz.zeroValue92
  t51 := Tryz.underlying79
  a51 := Tryz.isAgg79
  z51 := Tryz.sizeOf79
  v51 := Tryz.zeroValue79
  t53 := Tryz.underlying87
  a53 := Tryz.isAgg87
  z53 := Tryz.sizeOf87
  v53 := Tryz.zeroValue87
  t171 := Tryz.underlying86
  a171 := Tryz.isAgg86
  z171 := Tryz.sizeOf86
  v171 := Tryz.zeroValue86
  t173 := Tryz.underlying90
  a173 := Tryz.isAgg90
  z173 := Tryz.sizeOf90
  v173 := Tryz.zeroValue90
  t212 := Tryz.underlying106
  a212 := Tryz.isAgg106
  z212 := Tryz.sizeOf106
  v212 := Tryz.zeroValue106
  t213 := Tryz.underlying107
  a213 := Tryz.isAgg107
  z213 := Tryz.sizeOf107
  t232 := Tryz.underlying140
  a232 := Tryz.isAgg140
  z232 := Tryz.sizeOf140
  v232 := Tryz.zeroValue140
  t233 := Tryz.underlying125
  a233 := Tryz.isAgg125
  z233 := Tryz.sizeOf125
  v233 := Tryz.zeroValue125
  g17 := by kernel_rfl
  g18 := by kernel_rfl
  g19 := by kernel_rfl
  i0 := by kernel_rfl
  i2 := by kernel_rfl
  i3 := by kernel_rfl
  i4 := by kernel_rfl
  i5 := by kernel_rfl
  i9 := by kernel_rfl
  i20 := by kernel_rfl
  i37 := by kernel_rfl
  i46 := by kernel_rfl
  i51 := by kernel_rfl
  i53 := by kernel_rfl
  i171 := by kernel_rfl
  i173 := by kernel_rfl
  i212 := by kernel_rfl
  i232 := by kernel_rfl
  i233 := by kernel_rfl
  m17 := by kernel_rfl
  m18 := by kernel_rfl
  m19 := by kernel_rfl }
open Go.RowKit Go.Sort Go.Lib in
/-- strconv.Itoa: "Itoa is equivalent to FormatInt(int64(i), 10).": i's DECIMAL NUMERAL ('Lib.itoa': a '-' where i is negative, then the digits), FOR EVERY int. The world behind the call: the world before it, new blocks behind the heap (the library's 'var a [24]byte'), draws. (LAID: no walk: one application.) -/
theorem Tryz.strconv_Itoa (n : Int) (h0 : -9223372036854775808 ≤ n) (h1 : n ≤ 9223372036854775807) (w : World) (htab : Lib.TabIs Tryz.prog w "internal/strconv.uint64pow10" .u64 Lib.pow10Tab) :
    Calls Tryz.prog 21 #[.int .i64 n] w fun e w' => e = .returned (.string ⟨(Lib.itoa n).toArray⟩) ∧ ∃ k os, w' = grow (w.drewN k) os := Any.strconv_Itoa Tryz.laysM171 n h0 h1 w htab
def Tryz.lays171_ren : Go.Shelf.Ren := ⟨fun | 171 => 21 | 243 => 35 | 246 => 45 | 283 => 56 | 284 => 57 | 285 => 58 | 286 => 59 | 129 => 73 | 317 => 72 | 318 => 74 | 319 => 75 | 320 => 76 | 337 => 95 | 338 => 96 | n => n, fun | 3 => 3 | 9 => 9 | 2 => 2 | 4 => 4 | 171 => 86 | 0 => 0 | 53 => 87 | 37 => 50 | 5 => 5 | 173 => 90 | 212 => 106 | 51 => 79 | 20 => 20 | 213 => 107 | 46 => 92 | 232 => 140 | 233 => 125 | n => n, fun | 17 => 0 | 18 => 3 | 19 => 4 | n => n⟩
theorem Tryz.lays171 : Go.Proofs.Lays.n171 Tryz.prog Tryz.lays171_ren := {
  mixed := by kernel_rfl
  f129 := Tryz.func73.trans (congrArg some (by kernel_rfl))
  f171 := Tryz.func21.trans (congrArg some (by kernel_rfl))
  f243 := Tryz.func35.trans (congrArg some (by kernel_rfl))
  f246 := Tryz.func45.trans (congrArg some (by kernel_rfl))
  f283 := Tryz.func56.trans (congrArg some (by kernel_rfl))
  f284 := Tryz.func57.trans (congrArg some (by kernel_rfl))
  f285 := Tryz.func58.trans (congrArg some (by kernel_rfl))
  f286 := Tryz.func59.trans (congrArg some (by kernel_rfl))
  f317 := Tryz.func72.trans (congrArg some (by kernel_rfl))
  f318 := Tryz.func74.trans (congrArg some (by kernel_rfl))
  f319 := Tryz.func75.trans (congrArg some (by kernel_rfl))
  f320 := Tryz.func76.trans (congrArg some (by kernel_rfl))
  f337 := Tryz.func95.trans (congrArg some (by kernel_rfl))
  f338 := Tryz.func96.trans (congrArg some (by kernel_rfl))
  t0 := Tryz.underlying0
  a0 := Tryz.isAgg0
  z0 := Tryz.sizeOf0
  v0 := Tryz.zeroValue0
  t2 := Tryz.underlying2
  a2 := Tryz.isAgg2
  z2 := Tryz.sizeOf2
  v2 := Tryz.zeroValue2
  t3 := Tryz.underlying3
  a3 := Tryz.isAgg3
  z3 := Tryz.sizeOf3
  v3 := Tryz.zeroValue3
  t4 := Tryz.underlying4
  a4 := Tryz.isAgg4
  z4 := Tryz.sizeOf4
  v4 := Tryz.zeroValue4
  t5 := Tryz.underlying5
  a5 := Tryz.isAgg5
  z5 := Tryz.sizeOf5
  v5 := Tryz.zeroValue5
  t9 := Tryz.underlying9
  a9 := Tryz.isAgg9
  z9 := Tryz.sizeOf9
  v9 := Tryz.zeroValue9
  t20 := Tryz.underlying20
  a20 := Tryz.isAgg20
  z20 := Tryz.sizeOf20
  v20 := Tryz.zeroValue20
  t37 := Tryz.underlying50
  a37 := Tryz.isAgg50
  z37 := Tryz.sizeOf50
  v37 := Tryz.zeroValue50
  t46 := Tryz.underlying92
  a46 := Tryz.isAgg92
  z46 := Tryz.sizeOf92
  v46 := Tryz.zeroValue92
  t51 := Tryz.underlying79
  a51 := Tryz.isAgg79
  z51 := Tryz.sizeOf79
  v51 := Tryz.zeroValue79
  t53 := Tryz.underlying87
  a53 := Tryz.isAgg87
  z53 := Tryz.sizeOf87
  v53 := Tryz.zeroValue87
  t171 := Tryz.underlying86
  a171 := Tryz.isAgg86
  z171 := Tryz.sizeOf86
  v171 := Tryz.zeroValue86
  t173 := Tryz.underlying90
  a173 := Tryz.isAgg90
  z173 := Tryz.sizeOf90
  v173 := Tryz.zeroValue90
  t212 := Tryz.underlying106
  a212 := Tryz.isAgg106
  z212 := Tryz.sizeOf106
  v212 := Tryz.zeroValue106
  t213 := Tryz.underlying107
  a213 := Tryz.isAgg107
  z213 := Tryz.sizeOf107
  t232 := Tryz.underlying140
  a232 := Tryz.isAgg140
  z232 := Tryz.sizeOf140
  v232 := Tryz.zeroValue140
  t233 := Tryz.underlying125
  a233 := Tryz.isAgg125
  z233 := Tryz.sizeOf125
  v233 := Tryz.zeroValue125
  g17 := by kernel_rfl
  g18 := by kernel_rfl
  g19 := by kernel_rfl }
open Go.RowKit Go.Sort Go.Lib in
/-- THE ROAD WITHOUT THE TABLE: 0 <= i < 100: NO PREMISE ON THE WORLD, AND THE WORLD IS AS IT WAS: a row that keeps its argument in that range need list no table ('laid = []'). (LAID: no walk: one application.) -/
theorem Tryz.strconv_Itoa_small (i : Nat) (hi : i < 100) (w : World) :
    Calls Tryz.prog 21 #[.int .i64 i] w fun e w' => e = .returned (.string ⟨(Lib.decDigits i).toArray⟩) ∧ w' = w := Any.strconv_Itoa_small Tryz.lays171 i hi w
def Tryz.lays189_ren : Go.Shelf.Ren := ⟨fun | 189 => 53 | 125 => 69 | 257 => 68 | 128 => 94 | 129 => 73 | 294 => 85 | 295 => 86 | 296 => 87 | 297 => 88 | 298 => 89 | 299 => 90 | 216 => 91 | 300 => 92 | 301 => 93 | 328 => 102 | 329 => 103 | 330 => 104 | 331 => 105 | 332 => 106 | 215 => 107 | 343 => 115 | n => n, fun | 28 => 27 | 3 => 3 | 46 => 92 | 0 => 0 | 51 => 79 | 53 => 87 | 4 => 4 | 183 => 118 | 182 => 117 | 131 => 122 | 5 => 5 | 9 => 9 | 218 => 134 | 222 => 138 | 228 => 154 | 229 => 155 | n => n, fun | n => n⟩
theorem Tryz.lays189 : Go.Proofs.Lays.n189 Tryz.prog Tryz.lays189_ren := {
  mixed := by kernel_rfl
  f125 := Tryz.func69.trans (congrArg some (by kernel_rfl))
  f128 := Tryz.func94.trans (congrArg some (by kernel_rfl))
  f129 := Tryz.func73.trans (congrArg some (by kernel_rfl))
  f189 := Tryz.func53.trans (congrArg some (by kernel_rfl))
  f215 := Tryz.func107.trans (congrArg some (by kernel_rfl))
  f216 := Tryz.func91.trans (congrArg some (by kernel_rfl))
  f257 := Tryz.func68.trans (congrArg some (by kernel_rfl))
  f294 := Tryz.func85.trans (congrArg some (by kernel_rfl))
  f295 := Tryz.func86.trans (congrArg some (by kernel_rfl))
  f296 := Tryz.func87.trans (congrArg some (by kernel_rfl))
  f297 := Tryz.func88.trans (congrArg some (by kernel_rfl))
  f298 := Tryz.func89.trans (congrArg some (by kernel_rfl))
  f299 := Tryz.func90.trans (congrArg some (by kernel_rfl))
  f300 := Tryz.func92.trans (congrArg some (by kernel_rfl))
  f301 := Tryz.func93.trans (congrArg some (by kernel_rfl))
  f328 := Tryz.func102.trans (congrArg some (by kernel_rfl))
  f329 := Tryz.func103.trans (congrArg some (by kernel_rfl))
  f330 := Tryz.func104.trans (congrArg some (by kernel_rfl))
  f331 := Tryz.func105.trans (congrArg some (by kernel_rfl))
  f332 := Tryz.func106.trans (congrArg some (by kernel_rfl))
  f343 := Tryz.func115.trans (congrArg some (by kernel_rfl))
  t0 := Tryz.underlying0
  a0 := Tryz.isAgg0
  z0 := Tryz.sizeOf0
  v0 := Tryz.zeroValue0
  t3 := Tryz.underlying3
  a3 := Tryz.isAgg3
  z3 := Tryz.sizeOf3
  v3 := Tryz.zeroValue3
  t4 := Tryz.underlying4
  a4 := Tryz.isAgg4
  z4 := Tryz.sizeOf4
  v4 := Tryz.zeroValue4
  t5 := Tryz.underlying5
  a5 := Tryz.isAgg5
  z5 := Tryz.sizeOf5
  v5 := Tryz.zeroValue5
  t9 := Tryz.underlying9
  a9 := Tryz.isAgg9
  z9 := Tryz.sizeOf9
  v9 := Tryz.zeroValue9
  t28 := Tryz.underlying27
  a28 := Tryz.isAgg27
  z28 := Tryz.sizeOf27
  v28 := Tryz.zeroValue27
  t46 := Tryz.underlying92
  a46 := Tryz.isAgg92
  z46 := Tryz.sizeOf92
  v46 := Tryz.zeroValue92
  t51 := Tryz.underlying79
  a51 := Tryz.isAgg79
  z51 := Tryz.sizeOf79
  v51 := Tryz.zeroValue79
  t53 := Tryz.underlying87
  a53 := Tryz.isAgg87
  z53 := Tryz.sizeOf87
  v53 := Tryz.zeroValue87
  t131 := Tryz.underlying122
  a131 := Tryz.isAgg122
  z131 := Tryz.sizeOf122
  v131 := Tryz.zeroValue122
  t182 := Tryz.underlying117
  a182 := Tryz.isAgg117
  z182 := Tryz.sizeOf117
  v182 := Tryz.zeroValue117
  t183 := Tryz.underlying118
  a183 := Tryz.isAgg118
  z183 := Tryz.sizeOf118
  v183 := Tryz.zeroValue118
  t218 := Tryz.underlying134
  a218 := Tryz.isAgg134
  z218 := Tryz.sizeOf134
  v218 := Tryz.zeroValue134
  t222 := Tryz.underlying138
  a222 := Tryz.isAgg138
  z222 := Tryz.sizeOf138
  v222 := Tryz.zeroValue138
  t228 := Tryz.underlying154
  a228 := Tryz.isAgg154
  z228 := Tryz.sizeOf154
  v228 := Tryz.zeroValue154
  t229 := Tryz.underlying155
  a229 := Tryz.isAgg155
  z229 := Tryz.sizeOf155
  v229 := Tryz.zeroValue155 }
open Go.Sort Go.RowKit in
theorem Tryz.slices_Sort_int (blk off cap : Nat) (zs : List Int) (w : World) (hH : Holds (Value.int .i64) w blk off zs.toArray) (hblk : blk < w.heap.size) (hsz : zs.length < 4611686018427387904) :
    Calls Tryz.prog 53 #[.slice (some ⟨blk, off, none⟩) zs.length cap] w fun e w' =>
      e = .returned (.tuple #[]) ∧ ∃ n os, w' = grow (putRow (Value.int .i64) (Sort.ahead w n) blk off (zs.mergeSort fun x y => decide (x ≤ y)).toArray) os := Any.slices_Sort_int Tryz.lays189 blk off cap zs w hH hblk hsz
def Tryz.lays191_ren : Go.Shelf.Ren := ⟨fun | 191 => 40 | 189 => 53 | 125 => 69 | 257 => 68 | 128 => 94 | 129 => 73 | 294 => 85 | 295 => 86 | 296 => 87 | 297 => 88 | 298 => 89 | 299 => 90 | 216 => 91 | 300 => 92 | 301 => 93 | 328 => 102 | 329 => 103 | 330 => 104 | 331 => 105 | 332 => 106 | 215 => 107 | 343 => 115 | n => n, fun | 28 => 27 | 0 => 0 | 3 => 3 | 46 => 92 | 51 => 79 | 53 => 87 | 4 => 4 | 183 => 118 | 182 => 117 | 131 => 122 | 5 => 5 | 9 => 9 | 218 => 134 | 222 => 138 | 228 => 154 | 229 => 155 | n => n, fun | n => n⟩
theorem Tryz.lays191 : Go.Proofs.Lays.n191 Tryz.prog Tryz.lays191_ren := {
  mixed := by kernel_rfl
  f125 := Tryz.func69.trans (congrArg some (by kernel_rfl))
  f128 := Tryz.func94.trans (congrArg some (by kernel_rfl))
  f129 := Tryz.func73.trans (congrArg some (by kernel_rfl))
  f189 := Tryz.func53.trans (congrArg some (by kernel_rfl))
  f191 := Tryz.func40.trans (congrArg some (by kernel_rfl))
  f215 := Tryz.func107.trans (congrArg some (by kernel_rfl))
  f216 := Tryz.func91.trans (congrArg some (by kernel_rfl))
  f257 := Tryz.func68.trans (congrArg some (by kernel_rfl))
  f294 := Tryz.func85.trans (congrArg some (by kernel_rfl))
  f295 := Tryz.func86.trans (congrArg some (by kernel_rfl))
  f296 := Tryz.func87.trans (congrArg some (by kernel_rfl))
  f297 := Tryz.func88.trans (congrArg some (by kernel_rfl))
  f298 := Tryz.func89.trans (congrArg some (by kernel_rfl))
  f299 := Tryz.func90.trans (congrArg some (by kernel_rfl))
  f300 := Tryz.func92.trans (congrArg some (by kernel_rfl))
  f301 := Tryz.func93.trans (congrArg some (by kernel_rfl))
  f328 := Tryz.func102.trans (congrArg some (by kernel_rfl))
  f329 := Tryz.func103.trans (congrArg some (by kernel_rfl))
  f330 := Tryz.func104.trans (congrArg some (by kernel_rfl))
  f331 := Tryz.func105.trans (congrArg some (by kernel_rfl))
  f332 := Tryz.func106.trans (congrArg some (by kernel_rfl))
  f343 := Tryz.func115.trans (congrArg some (by kernel_rfl))
  t0 := Tryz.underlying0
  a0 := Tryz.isAgg0
  z0 := Tryz.sizeOf0
  v0 := Tryz.zeroValue0
  t3 := Tryz.underlying3
  a3 := Tryz.isAgg3
  z3 := Tryz.sizeOf3
  v3 := Tryz.zeroValue3
  t4 := Tryz.underlying4
  a4 := Tryz.isAgg4
  z4 := Tryz.sizeOf4
  v4 := Tryz.zeroValue4
  t5 := Tryz.underlying5
  a5 := Tryz.isAgg5
  z5 := Tryz.sizeOf5
  v5 := Tryz.zeroValue5
  t9 := Tryz.underlying9
  a9 := Tryz.isAgg9
  z9 := Tryz.sizeOf9
  v9 := Tryz.zeroValue9
  t28 := Tryz.underlying27
  a28 := Tryz.isAgg27
  z28 := Tryz.sizeOf27
  v28 := Tryz.zeroValue27
  t46 := Tryz.underlying92
  a46 := Tryz.isAgg92
  z46 := Tryz.sizeOf92
  v46 := Tryz.zeroValue92
  t51 := Tryz.underlying79
  a51 := Tryz.isAgg79
  z51 := Tryz.sizeOf79
  v51 := Tryz.zeroValue79
  t53 := Tryz.underlying87
  a53 := Tryz.isAgg87
  z53 := Tryz.sizeOf87
  v53 := Tryz.zeroValue87
  t131 := Tryz.underlying122
  a131 := Tryz.isAgg122
  z131 := Tryz.sizeOf122
  v131 := Tryz.zeroValue122
  t182 := Tryz.underlying117
  a182 := Tryz.isAgg117
  z182 := Tryz.sizeOf117
  v182 := Tryz.zeroValue117
  t183 := Tryz.underlying118
  a183 := Tryz.isAgg118
  z183 := Tryz.sizeOf118
  v183 := Tryz.zeroValue118
  t218 := Tryz.underlying134
  a218 := Tryz.isAgg134
  z218 := Tryz.sizeOf134
  v218 := Tryz.zeroValue134
  t222 := Tryz.underlying138
  a222 := Tryz.isAgg138
  z222 := Tryz.sizeOf138
  v222 := Tryz.zeroValue138
  t228 := Tryz.underlying154
  a228 := Tryz.isAgg154
  z228 := Tryz.sizeOf154
  v228 := Tryz.zeroValue154
  t229 := Tryz.underlying155
  a229 := Tryz.isAgg155
  z229 := Tryz.sizeOf155
  v229 := Tryz.zeroValue155 }
open Go.Sort Go.RowKit in
theorem Tryz.sort_Ints (blk off cap : Nat) (zs : List Int) (w : World) (hH : Holds (Value.int .i64) w blk off zs.toArray) (hblk : blk < w.heap.size) (hsz : zs.length < 4611686018427387904) :
    Calls Tryz.prog 40 #[.slice (some ⟨blk, off, none⟩) zs.length cap] w fun e w' =>
      e = .returned (.tuple #[]) ∧ ∃ n os, w' = grow (putRow (Value.int .i64) (Sort.ahead w n) blk off (zs.mergeSort fun x y => decide (x ≤ y)).toArray) os := Any.sort_Ints Tryz.lays191 blk off cap zs w hH hblk hsz
def Tryz.lays315_ren : Go.Shelf.Ren := ⟨fun | 315 => 108 | n => n, fun | 9 => 9 | 40 => 68 | 4 => 4 | 3 => 3 | 0 => 0 | 21 => 21 | n => n, fun | n => n⟩
theorem Tryz.lays315 : Go.Proofs.Lays.n315 Tryz.prog Tryz.lays315_ren := {
  mixed := by kernel_rfl
  f315 := Tryz.func108.trans (congrArg some (by kernel_rfl))
  t0 := Tryz.underlying0
  a0 := Tryz.isAgg0
  z0 := Tryz.sizeOf0
  v0 := Tryz.zeroValue0
  t3 := Tryz.underlying3
  a3 := Tryz.isAgg3
  z3 := Tryz.sizeOf3
  v3 := Tryz.zeroValue3
  t4 := Tryz.underlying4
  a4 := Tryz.isAgg4
  z4 := Tryz.sizeOf4
  v4 := Tryz.zeroValue4
  t9 := Tryz.underlying9
  a9 := Tryz.isAgg9
  z9 := Tryz.sizeOf9
  v9 := Tryz.zeroValue9
  t21 := Tryz.underlying21
  a21 := Tryz.isAgg21
  z21 := Tryz.sizeOf21
  v21 := Tryz.zeroValue21
  t40 := Tryz.underlying68
  a40 := Tryz.isAgg68
  z40 := Tryz.sizeOf68
  v40 := Tryz.zeroValue68 }
open Go.RowKit Go.Lib in
theorem Tryz.strings_indexFunc (g : Nat) (lb : Array Value) (eg : ∀ args w, (callFunc g args).run Tryz.prog w = .ok (.enter g args) w) (p : Nat → Bool) (truth : Bool) (s : ByteArray) (w : World) (hp : PredAt Tryz.prog g lb encR p w) :
    Calls Tryz.prog 108 #[.string s, .func (.func g) #[] lb, .bool truth] w fun e w' => e = .returned (.int .i64 (Lib.idxFunc p truth s)) ∧ Below w.heap.size w w' := Any.strings_indexFunc Tryz.lays315 g lb eg p truth s w hp
def Tryz.lays199_ren : Go.Shelf.Ren := ⟨fun | 199 => 79 | 261 => 98 | 311 => 109 | 312 => 110 | n => n, fun | 21 => 21 | 4 => 4 | 51 => 79 | 141 => 127 | 0 => 0 | 196 => 144 | 193 => 141 | 3 => 3 | 198 => 147 | 49 => 145 | 194 => 142 | 201 => 150 | 226 => 157 | 46 => 92 | 227 => 158 | n => n, fun | 6 => 2 | n => n⟩
theorem Tryz.lays199 : Go.Proofs.Lays.n199 Tryz.prog Tryz.lays199_ren := {
  mixed := by kernel_rfl
  f199 := Tryz.func79.trans (congrArg some (by kernel_rfl))
  f261 := Tryz.func98.trans (congrArg some (by kernel_rfl))
  f311 := Tryz.func109.trans (congrArg some (by kernel_rfl))
  f312 := Tryz.func110.trans (congrArg some (by kernel_rfl))
  t0 := Tryz.underlying0
  a0 := Tryz.isAgg0
  z0 := Tryz.sizeOf0
  v0 := Tryz.zeroValue0
  t3 := Tryz.underlying3
  a3 := Tryz.isAgg3
  z3 := Tryz.sizeOf3
  v3 := Tryz.zeroValue3
  t4 := Tryz.underlying4
  a4 := Tryz.isAgg4
  z4 := Tryz.sizeOf4
  v4 := Tryz.zeroValue4
  t21 := Tryz.underlying21
  a21 := Tryz.isAgg21
  z21 := Tryz.sizeOf21
  v21 := Tryz.zeroValue21
  t46 := Tryz.underlying92
  a46 := Tryz.isAgg92
  z46 := Tryz.sizeOf92
  v46 := Tryz.zeroValue92
  t49 := Tryz.underlying145
  a49 := Tryz.isAgg145
  z49 := Tryz.sizeOf145
  v49 := Tryz.zeroValue145
  t51 := Tryz.underlying79
  a51 := Tryz.isAgg79
  z51 := Tryz.sizeOf79
  v51 := Tryz.zeroValue79
  t141 := Tryz.underlying127
  a141 := Tryz.isAgg127
  z141 := Tryz.sizeOf127
  v141 := Tryz.zeroValue127
  t193 := Tryz.underlying141
  a193 := Tryz.isAgg141
  z193 := Tryz.sizeOf141
  v193 := Tryz.zeroValue141
  t194 := Tryz.underlying142
  a194 := Tryz.isAgg142
  z194 := Tryz.sizeOf142
  v194 := Tryz.zeroValue142
  t196 := Tryz.underlying144
  a196 := Tryz.isAgg144
  z196 := Tryz.sizeOf144
  v196 := Tryz.zeroValue144
  t198 := Tryz.underlying147
  a198 := Tryz.isAgg147
  z198 := Tryz.sizeOf147
  v198 := Tryz.zeroValue147
  t201 := Tryz.underlying150
  a201 := Tryz.isAgg150
  z201 := Tryz.sizeOf150
  v201 := Tryz.zeroValue150
  t226 := Tryz.underlying157
  a226 := Tryz.isAgg157
  z226 := Tryz.sizeOf157
  v226 := Tryz.zeroValue157
  t227 := Tryz.underlying158
  a227 := Tryz.isAgg158
  z227 := Tryz.sizeOf158
  v227 := Tryz.zeroValue158
  g6 := by kernel_rfl }
open Go.RowKit Go.Lib in
theorem Tryz.unicode_IsSpace (r : Int) (w : World) (h0 : 0 ≤ r) (h : r ≤ 255) :
    Calls Tryz.prog 79 #[.int .i32 r] w fun e w' => e = .returned (.bool (Lib.isSpaceL r)) ∧ w' = w := Any.unicode_IsSpace Tryz.lays199 r w h0 h
def Tryz.lays260_ren : Go.Shelf.Ren := ⟨fun | 260 => 112 | n => n, fun | 9 => 9 | 21 => 21 | 3 => 3 | 4 => 4 | 5 => 5 | 119 => 110 | 0 => 0 | 46 => 92 | 139 => 162 | 138 => 161 | n => n, fun | 3 => 5 | 4 => 6 | n => n⟩
theorem Tryz.lays260 : Go.Proofs.Lays.n260 Tryz.prog Tryz.lays260_ren := {
  mixed := by kernel_rfl
  f260 := Tryz.func112.trans (congrArg some (by kernel_rfl))
  t0 := Tryz.underlying0
  a0 := Tryz.isAgg0
  z0 := Tryz.sizeOf0
  v0 := Tryz.zeroValue0
  t3 := Tryz.underlying3
  a3 := Tryz.isAgg3
  z3 := Tryz.sizeOf3
  v3 := Tryz.zeroValue3
  t4 := Tryz.underlying4
  a4 := Tryz.isAgg4
  z4 := Tryz.sizeOf4
  v4 := Tryz.zeroValue4
  t5 := Tryz.underlying5
  a5 := Tryz.isAgg5
  z5 := Tryz.sizeOf5
  v5 := Tryz.zeroValue5
  t9 := Tryz.underlying9
  a9 := Tryz.isAgg9
  z9 := Tryz.sizeOf9
  v9 := Tryz.zeroValue9
  t21 := Tryz.underlying21
  a21 := Tryz.isAgg21
  z21 := Tryz.sizeOf21
  v21 := Tryz.zeroValue21
  t46 := Tryz.underlying92
  a46 := Tryz.isAgg92
  z46 := Tryz.sizeOf92
  v46 := Tryz.zeroValue92
  t119 := Tryz.underlying110
  a119 := Tryz.isAgg110
  z119 := Tryz.sizeOf110
  t138 := Tryz.underlying161
  a138 := Tryz.isAgg161
  z138 := Tryz.sizeOf161
  v138 := Tryz.zeroValue161
  t139 := Tryz.underlying162
  a139 := Tryz.isAgg162
  z139 := Tryz.sizeOf162
  v139 := Tryz.zeroValue162
  g3 := by kernel_rfl
  g4 := by kernel_rfl }
open Go.RowKit Go.Lib in
theorem Tryz.utf8_decodeRuneInStringSlow (s : ByteArray) (w : World) (hT : Lib.Utf8Tabs 5 6 w) :
    Calls Tryz.prog 112 #[.string s] w fun e w' => e = .returned (.tuple #[.int .i32 (Lib.decodeGo s).1, .int .i64 (Lib.decodeGo s).2]) ∧ Below w.heap.size w w' := Any.utf8_decodeRuneInStringSlow Tryz.lays260 s w hT
def Tryz.lays197_ren : Go.Shelf.Ren := ⟨fun | 197 => 100 | 260 => 112 | n => n, fun | 9 => 9 | 21 => 21 | 3 => 3 | 4 => 4 | 5 => 5 | 105 => 129 | 119 => 110 | 0 => 0 | 46 => 92 | 139 => 162 | 138 => 161 | n => n, fun | 3 => 5 | 4 => 6 | n => n⟩
theorem Tryz.lays197 : Go.Proofs.Lays.n197 Tryz.prog Tryz.lays197_ren := {
  mixed := by kernel_rfl
  f197 := Tryz.func100.trans (congrArg some (by kernel_rfl))
  f260 := Tryz.func112.trans (congrArg some (by kernel_rfl))
  t0 := Tryz.underlying0
  a0 := Tryz.isAgg0
  z0 := Tryz.sizeOf0
  v0 := Tryz.zeroValue0
  t3 := Tryz.underlying3
  a3 := Tryz.isAgg3
  z3 := Tryz.sizeOf3
  v3 := Tryz.zeroValue3
  t4 := Tryz.underlying4
  a4 := Tryz.isAgg4
  z4 := Tryz.sizeOf4
  v4 := Tryz.zeroValue4
  t5 := Tryz.underlying5
  a5 := Tryz.isAgg5
  z5 := Tryz.sizeOf5
  v5 := Tryz.zeroValue5
  t9 := Tryz.underlying9
  a9 := Tryz.isAgg9
  z9 := Tryz.sizeOf9
  v9 := Tryz.zeroValue9
  t21 := Tryz.underlying21
  a21 := Tryz.isAgg21
  z21 := Tryz.sizeOf21
  v21 := Tryz.zeroValue21
  t46 := Tryz.underlying92
  a46 := Tryz.isAgg92
  z46 := Tryz.sizeOf92
  v46 := Tryz.zeroValue92
  t105 := Tryz.underlying129
  a105 := Tryz.isAgg129
  z105 := Tryz.sizeOf129
  v105 := Tryz.zeroValue129
  t119 := Tryz.underlying110
  a119 := Tryz.isAgg110
  z119 := Tryz.sizeOf110
  t138 := Tryz.underlying161
  a138 := Tryz.isAgg161
  z138 := Tryz.sizeOf161
  v138 := Tryz.zeroValue161
  t139 := Tryz.underlying162
  a139 := Tryz.isAgg162
  z139 := Tryz.sizeOf162
  v139 := Tryz.zeroValue162
  g3 := by kernel_rfl
  g4 := by kernel_rfl }
open Go.RowKit Go.Lib in
/-- **unicode/utf8.DecodeRuneInString AT EVERY STRING.** (LAID: no walk: one application.) -/
theorem Tryz.utf8_DecodeRuneInString (s : ByteArray) (w : World) (hT : Lib.Utf8Tabs 5 6 w) :
    Calls Tryz.prog 100 #[.string s] w fun e w' => e = .returned (.tuple #[.int .i32 (Lib.decodeGo s).1, .int .i64 (Lib.decodeGo s).2]) ∧ Below w.heap.size w w' := Any.utf8_DecodeRuneInString Tryz.lays197 s w hT
def Tryz.lays311_ren : Go.Shelf.Ren := ⟨fun | 311 => 109 | n => n, fun | 193 => 141 | 49 => 145 | 4 => 4 | 3 => 3 | 0 => 0 | 226 => 157 | 198 => 147 | 46 => 92 | n => n, fun | n => n⟩
theorem Tryz.lays311 : Go.Proofs.Lays.n311 Tryz.prog Tryz.lays311_ren := {
  mixed := by kernel_rfl
  f311 := Tryz.func109.trans (congrArg some (by kernel_rfl))
  t0 := Tryz.underlying0
  a0 := Tryz.isAgg0
  z0 := Tryz.sizeOf0
  v0 := Tryz.zeroValue0
  t3 := Tryz.underlying3
  a3 := Tryz.isAgg3
  z3 := Tryz.sizeOf3
  v3 := Tryz.zeroValue3
  t4 := Tryz.underlying4
  a4 := Tryz.isAgg4
  z4 := Tryz.sizeOf4
  v4 := Tryz.zeroValue4
  t46 := Tryz.underlying92
  a46 := Tryz.isAgg92
  z46 := Tryz.sizeOf92
  v46 := Tryz.zeroValue92
  t49 := Tryz.underlying145
  a49 := Tryz.isAgg145
  z49 := Tryz.sizeOf145
  v49 := Tryz.zeroValue145
  t193 := Tryz.underlying141
  a193 := Tryz.isAgg141
  z193 := Tryz.sizeOf141
  v193 := Tryz.zeroValue141
  t198 := Tryz.underlying147
  a198 := Tryz.isAgg147
  z198 := Tryz.sizeOf147
  v198 := Tryz.zeroValue147
  t226 := Tryz.underlying157
  a226 := Tryz.isAgg157
  z226 := Tryz.sizeOf157
  v226 := Tryz.zeroValue157 }
open Go.RowKit Go.Lib in
theorem Tryz.unicode_is16_white (R oR : Nat) (z : Nat) (w : World) (hz : z < 65536) (hz0 : 255 < z) (c6 : w.cell? ⟨R, oR + 6, none⟩ = some (.int .u16 160)) (c7 : w.cell? ⟨R, oR + 7, none⟩ = some (.int .u16 5760)) (c8 : w.cell? ⟨R, oR + 8, none⟩ = some (.int .u16 5600)) (c9 : w.cell? ⟨R, oR + 9, none⟩ = some (.int .u16 8192)) (c10 : w.cell? ⟨R, oR + 10, none⟩ = some (.int .u16 8202)) (c11 : w.cell? ⟨R, oR + 11, none⟩ = some (.int .u16 1)) (c12 : w.cell? ⟨R, oR + 12, none⟩ = some (.int .u16 8232)) (c13 : w.cell? ⟨R, oR + 13, none⟩ = some (.int .u16 8233)) (c14 : w.cell? ⟨R, oR + 14, none⟩ = some (.int .u16 1)) (c15 : w.cell? ⟨R, oR + 15, none⟩ = some (.int .u16 8239)) (c16 : w.cell? ⟨R, oR + 16, none⟩ = some (.int .u16 8287)) (c17 : w.cell? ⟨R, oR + 17, none⟩ = some (.int .u16 48)) (c18 : w.cell? ⟨R, oR + 18, none⟩ = some (.int .u16 12288)) (c19 : w.cell? ⟨R, oR + 19, none⟩ = some (.int .u16 12288)) (c20 : w.cell? ⟨R, oR + 20, none⟩ = some (.int .u16 1)) :
    Calls Tryz.prog 109 #[.slice (some ⟨R, oR + 6, none⟩) 5 5, .int .u16 z] w fun e w' => e = .returned (.bool (Lib.isSpaceR z)) ∧ Below w.heap.size w w' := Any.unicode_is16_white Tryz.lays311 R oR z w hz hz0 c6 c7 c8 c9 c10 c11 c12 c13 c14 c15 c16 c17 c18 c19 c20
def Tryz.lays261_ren : Go.Shelf.Ren := ⟨fun | 261 => 98 | 311 => 109 | 312 => 110 | n => n, fun | 141 => 127 | 21 => 21 | 4 => 4 | 0 => 0 | 196 => 144 | 193 => 141 | 3 => 3 | 51 => 79 | 198 => 147 | 49 => 145 | 194 => 142 | 201 => 150 | 226 => 157 | 46 => 92 | 227 => 158 | n => n, fun | n => n⟩
theorem Tryz.lays261 : Go.Proofs.Lays.n261 Tryz.prog Tryz.lays261_ren := {
  mixed := by kernel_rfl
  f261 := Tryz.func98.trans (congrArg some (by kernel_rfl))
  f311 := Tryz.func109.trans (congrArg some (by kernel_rfl))
  f312 := Tryz.func110.trans (congrArg some (by kernel_rfl))
  t0 := Tryz.underlying0
  a0 := Tryz.isAgg0
  z0 := Tryz.sizeOf0
  v0 := Tryz.zeroValue0
  t3 := Tryz.underlying3
  a3 := Tryz.isAgg3
  z3 := Tryz.sizeOf3
  v3 := Tryz.zeroValue3
  t4 := Tryz.underlying4
  a4 := Tryz.isAgg4
  z4 := Tryz.sizeOf4
  v4 := Tryz.zeroValue4
  t21 := Tryz.underlying21
  a21 := Tryz.isAgg21
  z21 := Tryz.sizeOf21
  v21 := Tryz.zeroValue21
  t46 := Tryz.underlying92
  a46 := Tryz.isAgg92
  z46 := Tryz.sizeOf92
  v46 := Tryz.zeroValue92
  t49 := Tryz.underlying145
  a49 := Tryz.isAgg145
  z49 := Tryz.sizeOf145
  v49 := Tryz.zeroValue145
  t51 := Tryz.underlying79
  a51 := Tryz.isAgg79
  z51 := Tryz.sizeOf79
  v51 := Tryz.zeroValue79
  t141 := Tryz.underlying127
  a141 := Tryz.isAgg127
  z141 := Tryz.sizeOf127
  v141 := Tryz.zeroValue127
  t193 := Tryz.underlying141
  a193 := Tryz.isAgg141
  z193 := Tryz.sizeOf141
  v193 := Tryz.zeroValue141
  t194 := Tryz.underlying142
  a194 := Tryz.isAgg142
  z194 := Tryz.sizeOf142
  v194 := Tryz.zeroValue142
  t196 := Tryz.underlying144
  a196 := Tryz.isAgg144
  z196 := Tryz.sizeOf144
  v196 := Tryz.zeroValue144
  t198 := Tryz.underlying147
  a198 := Tryz.isAgg147
  z198 := Tryz.sizeOf147
  v198 := Tryz.zeroValue147
  t201 := Tryz.underlying150
  a201 := Tryz.isAgg150
  z201 := Tryz.sizeOf150
  v201 := Tryz.zeroValue150
  t226 := Tryz.underlying157
  a226 := Tryz.isAgg157
  z226 := Tryz.sizeOf157
  v226 := Tryz.zeroValue157
  t227 := Tryz.underlying158
  a227 := Tryz.isAgg158
  z227 := Tryz.sizeOf158
  v227 := Tryz.zeroValue158 }
open Go.RowKit Go.Lib in
/-- unicode.isExcludingLatin(White_Space, r), r beyond U+00FF or negative. (LAID: no walk: one application.) -/
theorem Tryz.unicode_isExcludingLatin_white (T oT R oR : Nat) (r : Int) (w : World) (hlo : -2147483648 ≤ r) (hhi : r ≤ 2147483647) (hr : r < 0 ∨ 255 < r) (h2 : w.cell? ⟨T, oT, none⟩ = some (.slice (some ⟨R, oR, none⟩) 7 7)) (h3 : w.cell? ⟨T, oT + 1, none⟩ = some (.slice none 0 0)) (h4 : w.cell? ⟨T, oT + 2, none⟩ = some (.int .i64 2)) (h5 : ∀ i, i < 21 → w.cell? ⟨R, oR + i, none⟩ = some (.int .u16 (whiteT.getD i 0))) :
    Calls Tryz.prog 98 #[.pointer (some ⟨T, oT, none⟩), .int .i32 r] w fun e w' => e = .returned (.bool (Lib.isSpaceZ r)) ∧ Below w.heap.size w w' := Any.unicode_isExcludingLatin_white Tryz.lays261 T oT R oR r w hlo hhi hr h2 h3 h4 h5
open Go.RowKit Go.Lib in
/-- **unicode.IsSpace AT EVERY int32.** (LAID: no walk: one application.) -/
theorem Tryz.unicode_IsSpace_any (r : Int) (w : World) (hlo : -2147483648 ≤ r) (hhi : r ≤ 2147483647) (hW : Lib.WhiteTab 2 w) :
    Calls Tryz.prog 79 #[.int .i32 r] w fun e w' => e = .returned (.bool (Lib.isSpaceZ r)) ∧ Below w.heap.size w w' := Any.unicode_IsSpace_any Tryz.lays199 r w hlo hhi hW
def Tryz.lays271_ren : Go.Shelf.Ren := ⟨fun | 271 => 111 | 120 => 116 | 197 => 100 | 260 => 112 | n => n, fun | 9 => 9 | 21 => 21 | 3 => 3 | 4 => 4 | 5 => 5 | 105 => 129 | 119 => 110 | 0 => 0 | 46 => 92 | 139 => 162 | 138 => 161 | n => n, fun | 3 => 5 | 4 => 6 | n => n⟩
theorem Tryz.lays271 : Go.Proofs.Lays.n271 Tryz.prog Tryz.lays271_ren := {
  mixed := by kernel_rfl
  f120 := Tryz.func116.trans (congrArg some (by kernel_rfl))
  f197 := Tryz.func100.trans (congrArg some (by kernel_rfl))
  f260 := Tryz.func112.trans (congrArg some (by kernel_rfl))
  f271 := Tryz.func111.trans (congrArg some (by kernel_rfl))
  t0 := Tryz.underlying0
  a0 := Tryz.isAgg0
  z0 := Tryz.sizeOf0
  v0 := Tryz.zeroValue0
  t3 := Tryz.underlying3
  a3 := Tryz.isAgg3
  z3 := Tryz.sizeOf3
  v3 := Tryz.zeroValue3
  t4 := Tryz.underlying4
  a4 := Tryz.isAgg4
  z4 := Tryz.sizeOf4
  v4 := Tryz.zeroValue4
  t5 := Tryz.underlying5
  a5 := Tryz.isAgg5
  z5 := Tryz.sizeOf5
  v5 := Tryz.zeroValue5
  t9 := Tryz.underlying9
  a9 := Tryz.isAgg9
  z9 := Tryz.sizeOf9
  v9 := Tryz.zeroValue9
  t21 := Tryz.underlying21
  a21 := Tryz.isAgg21
  z21 := Tryz.sizeOf21
  v21 := Tryz.zeroValue21
  t46 := Tryz.underlying92
  a46 := Tryz.isAgg92
  z46 := Tryz.sizeOf92
  v46 := Tryz.zeroValue92
  t105 := Tryz.underlying129
  a105 := Tryz.isAgg129
  z105 := Tryz.sizeOf129
  v105 := Tryz.zeroValue129
  t119 := Tryz.underlying110
  a119 := Tryz.isAgg110
  z119 := Tryz.sizeOf110
  t138 := Tryz.underlying161
  a138 := Tryz.isAgg161
  z138 := Tryz.sizeOf161
  v138 := Tryz.zeroValue161
  t139 := Tryz.underlying162
  a139 := Tryz.isAgg162
  z139 := Tryz.sizeOf162
  v139 := Tryz.zeroValue162
  g3 := by kernel_rfl
  g4 := by kernel_rfl }
open Go.RowKit Go.Lib in
/-- **unicode/utf8.DecodeLastRuneInString AT EVERY STRING.** (LAID: no walk: one application.) -/
theorem Tryz.utf8_DecodeLastRuneInString (s : ByteArray) (w : World) (hs : s.size ≤ 9223372036854775807) (hT : Lib.Utf8Tabs 5 6 w) :
    Calls Tryz.prog 111 #[.string s] w fun e w' => e = .returned (.tuple #[.int .i32 (Lib.decodeLastL s.data.toList).1, .int .i64 (Lib.decodeLastL s.data.toList).2]) ∧ Below w.heap.size w w' := Any.utf8_DecodeLastRuneInString Tryz.lays271 s w hs hT
open Go.RowKit in
theorem Tryz.strings_TrimSpace_any (s : ByteArray) (w : World) (hs : s.size ≤ 9223372036854775807) (htab : Lib.TabIs Tryz.prog w "strings.asciiSpace" .u8 Lib.asciiSpaceTab) (hU8 : Lib.Utf8Tabs 5 6 w) (hWS : Lib.WhiteTab 2 w) :
    Calls Tryz.prog 62 #[.string s] w fun e w' => e = .returned (.string ⟨(Lib.trimSpaceD s.data.toList).toArray⟩) ∧ Below w.heap.size w w' := Any.strings_TrimSpace_any Tryz.lays163 Tryz.Space_Extra_163 s w hs htab hU8 hWS
open Go.RowKit Go.Lib in
theorem Tryz.unicode_is16_any (T : Array Rg) (R oR cap : Nat) (z : Nat) (w : World) (hz : z < 65536) (hT : RgTab .u16 R oR T w) (hok : RgOk 65536 T) (hn : T.size ≤ 1000000000) :
    Calls Tryz.prog 109 #[.slice (some ⟨R, oR, none⟩) T.size cap, .int .u16 z] w fun e w' => e = .returned (.bool (is16Go T z)) ∧ ∃ q, w' = w.drewN q := Any.unicode_is16_any Tryz.lays311 T R oR cap z w hz hT hok hn
def Tryz.lays312_ren : Go.Shelf.Ren := ⟨fun | 312 => 110 | n => n, fun | 194 => 142 | 51 => 79 | 4 => 4 | 3 => 3 | 0 => 0 | 227 => 158 | 201 => 150 | 46 => 92 | n => n, fun | n => n⟩
theorem Tryz.lays312 : Go.Proofs.Lays.n312 Tryz.prog Tryz.lays312_ren := {
  mixed := by kernel_rfl
  f312 := Tryz.func110.trans (congrArg some (by kernel_rfl))
  t0 := Tryz.underlying0
  a0 := Tryz.isAgg0
  z0 := Tryz.sizeOf0
  v0 := Tryz.zeroValue0
  t3 := Tryz.underlying3
  a3 := Tryz.isAgg3
  z3 := Tryz.sizeOf3
  v3 := Tryz.zeroValue3
  t4 := Tryz.underlying4
  a4 := Tryz.isAgg4
  z4 := Tryz.sizeOf4
  v4 := Tryz.zeroValue4
  t46 := Tryz.underlying92
  a46 := Tryz.isAgg92
  z46 := Tryz.sizeOf92
  v46 := Tryz.zeroValue92
  t51 := Tryz.underlying79
  a51 := Tryz.isAgg79
  z51 := Tryz.sizeOf79
  v51 := Tryz.zeroValue79
  t194 := Tryz.underlying142
  a194 := Tryz.isAgg142
  z194 := Tryz.sizeOf142
  v194 := Tryz.zeroValue142
  t201 := Tryz.underlying150
  a201 := Tryz.isAgg150
  z201 := Tryz.sizeOf150
  v201 := Tryz.zeroValue150
  t227 := Tryz.underlying158
  a227 := Tryz.isAgg158
  z227 := Tryz.sizeOf158
  v227 := Tryz.zeroValue158 }
open Go.RowKit Go.Lib in
theorem Tryz.unicode_is32_any (T : Array Rg) (R oR cap : Nat) (z : Nat) (w : World) (hz : z < 4294967296) (hT : RgTab .u32 R oR T w) (hok : RgOk 4294967296 T) (hn : T.size ≤ 1000000000) :
    Calls Tryz.prog 110 #[.slice (some ⟨R, oR, none⟩) T.size cap, .int .u32 z] w fun e w' => e = .returned (.bool (is32Go T z)) ∧ Below w.heap.size w w' := Any.unicode_is32_any Tryz.lays312 T R oR cap z w hz hT hok hn
open Go.RowKit Go.Lib in
theorem Tryz.unicode_isExcludingLatin_any (Tb oT : Nat) (T : RTab) (r : Int) (w : World) (hlo : -2147483648 ≤ r) (hhi : r ≤ 2147483647) (hA : RTabAt Tb oT T w) (hok : RTabOk T) :
    Calls Tryz.prog 98 #[.pointer (some ⟨Tb, oT, none⟩), .int .i32 r] w fun e w' => e = .returned (.bool (exclGo T r)) ∧ Below w.heap.size w w' := Any.unicode_isExcludingLatin_any Tryz.lays261 Tb oT T r w hlo hhi hA hok
def Tryz.lays115_ren : Go.Shelf.Ren := ⟨fun | 115 => 47 | n => n, fun | 37 => 50 | 4 => 4 | 9 => 9 | 5 => 5 | n => n, fun | n => n⟩
theorem Tryz.lays115 : Go.Proofs.Lays.n115 Tryz.prog Tryz.lays115_ren := {
  mixed := by kernel_rfl
  f115 := Tryz.func47.trans (congrArg some (by kernel_rfl))
  t4 := Tryz.underlying4
  a4 := Tryz.isAgg4
  z4 := Tryz.sizeOf4
  v4 := Tryz.zeroValue4
  t9 := Tryz.underlying9
  a9 := Tryz.isAgg9
  z9 := Tryz.sizeOf9
  v9 := Tryz.zeroValue9
  t37 := Tryz.underlying50
  a37 := Tryz.isAgg50
  z37 := Tryz.sizeOf50
  v37 := Tryz.zeroValue50 }
/-- bytes.Equal: "Equal reports whether a and b are the same length and contain the same bytes. A nil argument is equivalent to an empty slice.": IT RETURNS 'the bytes of the one == the bytes of the other'; the world is as it was. THE TWO ARGUMENTS COME AS WHATEVER VALUES, each with the one fact that the walk wants of it: what 'string(..)' of it gives: for a slice whose cells you know: 'run_convert_bytes_arg' (Derived/Laws/BytesArg.lean) hands that fact; for a nil one: 'run_convert_bytes_nil' (with xs := []). (LAID: no walk: one application.) -/
theorem Tryz.bytes_Equal (v1 v2 : Value) (xs ys : List Int) (w : World) (h1 : (convert 50 9 v1).run Tryz.prog w = .ok (.string (strOfNums xs)) w) (h2 : (convert 50 9 v2).run Tryz.prog w = .ok (.string (strOfNums ys)) w) :
    Calls Tryz.prog 47 #[v1, v2] w fun e w' => e = .returned (.bool (Lib.bytesOf xs == Lib.bytesOf ys)) ∧ w' = w := Any.bytes_Equal Tryz.lays115 v1 v2 xs ys w h1 h2
def Tryz.laysnb116_ren : Go.Shelf.Ren := ⟨fun | 116 => 37 | 115 => 47 | n => n, fun | 37 => 50 | 4 => 4 | 3 => 3 | 9 => 9 | 5 => 5 | n => n, fun | n => n⟩
theorem Tryz.laysnb116 : Go.Proofs.Lays.nb116 Tryz.prog Tryz.laysnb116_ren := {
  mixed := by kernel_rfl
  f115 := Tryz.func47.trans (congrArg some (by kernel_rfl))
  f116 := Tryz.func37.trans (congrArg some (by kernel_rfl))
  t3 := Tryz.underlying3
  a3 := Tryz.isAgg3
  z3 := Tryz.sizeOf3
  v3 := Tryz.zeroValue3
  t4 := Tryz.underlying4
  a4 := Tryz.isAgg4
  z4 := Tryz.sizeOf4
  v4 := Tryz.zeroValue4
  t9 := Tryz.underlying9
  a9 := Tryz.isAgg9
  z9 := Tryz.sizeOf9
  v9 := Tryz.zeroValue9
  t37 := Tryz.underlying50
  a37 := Tryz.isAgg50
  z37 := Tryz.sizeOf50
  v37 := Tryz.zeroValue50
  t5 := Tryz.underlying5
  a5 := Tryz.isAgg5
  z5 := Tryz.sizeOf5
  v5 := Tryz.zeroValue5 }
/-- bytes.HasPrefix: "HasPrefix reports whether the byte slice s begins with prefix.": IT RETURNS 'Lib.hasPrefix (the bytes of s) (the bytes of prefix)'; the world is as it was. ITS CALLEE bytes.Equal IS MET BY ITS OWN CONTRACT OFF THE SHELF (lay that first). 'xs', 'ys': the numbers that the two slices' cells hold. (LAID: no walk: one application.) -/
theorem Tryz.bytes_HasPrefix (b1 o1 n c b2 o2 m d : Nat) (xs ys : List Int) (w : World) (hx : xs.length = n) (hy : ys.length = m) (hnc : n ≤ c) (hc1 : ∀ i, i < n → w.cell? ⟨b1, o1 + i, none⟩ = some (.int .u8 (xs.getD i 0))) (hc2 : ∀ i, i < m → w.cell? ⟨b2, o2 + i, none⟩ = some (.int .u8 (ys.getD i 0))) :
    Calls Tryz.prog 37 #[.slice (some ⟨b1, o1, none⟩) n c, .slice (some ⟨b2, o2, none⟩) m d] w fun e w' => e = .returned (.bool (Lib.hasPrefix (Lib.bytesOf xs) (Lib.bytesOf ys))) ∧ w' = w := Any.bytes_HasPrefix Tryz.laysnb116 b1 o1 n c b2 o2 m d xs ys w hx hy hnc hc1 hc2
def Tryz.laysnb117_ren : Go.Shelf.Ren := ⟨fun | 117 => 52 | 115 => 47 | n => n, fun | 37 => 50 | 4 => 4 | 3 => 3 | 9 => 9 | 5 => 5 | n => n, fun | n => n⟩
theorem Tryz.laysnb117 : Go.Proofs.Lays.nb117 Tryz.prog Tryz.laysnb117_ren := {
  mixed := by kernel_rfl
  f115 := Tryz.func47.trans (congrArg some (by kernel_rfl))
  f117 := Tryz.func52.trans (congrArg some (by kernel_rfl))
  t3 := Tryz.underlying3
  a3 := Tryz.isAgg3
  z3 := Tryz.sizeOf3
  v3 := Tryz.zeroValue3
  t4 := Tryz.underlying4
  a4 := Tryz.isAgg4
  z4 := Tryz.sizeOf4
  v4 := Tryz.zeroValue4
  t9 := Tryz.underlying9
  a9 := Tryz.isAgg9
  z9 := Tryz.sizeOf9
  v9 := Tryz.zeroValue9
  t37 := Tryz.underlying50
  a37 := Tryz.isAgg50
  z37 := Tryz.sizeOf50
  v37 := Tryz.zeroValue50
  t5 := Tryz.underlying5
  a5 := Tryz.isAgg5
  z5 := Tryz.sizeOf5
  v5 := Tryz.zeroValue5 }
/-- bytes.HasSuffix: "HasSuffix reports whether the byte slice s ends with suffix.": IT RETURNS 'Lib.hasSuffix (the bytes of s) (the bytes of suffix)'; the world is as it was. ITS CALLEE bytes.Equal IS MET BY ITS OWN CONTRACT OFF THE SHELF (lay that first). (An empty suffix too: there the model's slicing may keep the slice's address, where the cut falls at its very capacity: the value bears an 'if': 'gA' pays both arms.) (LAID: no walk: one application.) -/
theorem Tryz.bytes_HasSuffix (b1 o1 n c b2 o2 m d : Nat) (xs ys : List Int) (w : World) (hx : xs.length = n) (hy : ys.length = m) (hnc : n ≤ c) (hbig : n ≤ 9223372036854775807) (hc1 : ∀ i, i < n → w.cell? ⟨b1, o1 + i, none⟩ = some (.int .u8 (xs.getD i 0))) (hc2 : ∀ i, i < m → w.cell? ⟨b2, o2 + i, none⟩ = some (.int .u8 (ys.getD i 0))) :
    Calls Tryz.prog 52 #[.slice (some ⟨b1, o1, none⟩) n c, .slice (some ⟨b2, o2, none⟩) m d] w fun e w' => e = .returned (.bool (Lib.hasSuffix (Lib.bytesOf xs) (Lib.bytesOf ys))) ∧ w' = w := Any.bytes_HasSuffix Tryz.laysnb117 b1 o1 n c b2 o2 m d xs ys w hx hy hnc hbig hc1 hc2
def Tryz.lays240_ren : Go.Shelf.Ren := ⟨fun | 240 => 54 | 276 => 70 | n => n, fun | 0 => 0 | 4 => 4 | 5 => 5 | 9 => 9 | 20 => 20 | 37 => 50 | 70 => 70 | 72 => 72 | 80 => 59 | 164 => 102 | n => n, fun | n => n⟩
theorem Tryz.lays240 : Go.Proofs.Lays.n240 Tryz.prog Tryz.lays240_ren := {
  mixed := by kernel_rfl
  f240 := Tryz.func54.trans (congrArg some (by kernel_rfl))
  f276 := Tryz.func70.trans (congrArg some (by kernel_rfl))
  t0 := Tryz.underlying0
  a0 := Tryz.isAgg0
  z0 := Tryz.sizeOf0
  v0 := Tryz.zeroValue0
  t4 := Tryz.underlying4
  a4 := Tryz.isAgg4
  z4 := Tryz.sizeOf4
  v4 := Tryz.zeroValue4
  t9 := Tryz.underlying9
  a9 := Tryz.isAgg9
  z9 := Tryz.sizeOf9
  v9 := Tryz.zeroValue9
  t20 := Tryz.underlying20
  a20 := Tryz.isAgg20
  z20 := Tryz.sizeOf20
  v20 := Tryz.zeroValue20
  t70 := Tryz.underlying70
  a70 := Tryz.isAgg70
  z70 := Tryz.sizeOf70
  v70 := Tryz.zeroValue70
  t72 := Tryz.underlying72
  a72 := Tryz.isAgg72
  z72 := Tryz.sizeOf72
  v72 := Tryz.zeroValue72
  t164 := Tryz.underlying102
  a164 := Tryz.isAgg102
  z164 := Tryz.sizeOf102
  v164 := Tryz.zeroValue102 }
theorem Tryz.Builder_X72_240 : Builder.X72 Tryz.prog Tryz.lays240_ren := {
  sizeBuilder := by kernel_rfl
  liesBuilder := by kernel_rfl }
open Go.RowKit in
/-- (*strings.Builder).copyCheck (what every writing method calls first): behind it the builder is 'used': 'addr' holds its own address; its bytes are as they were. (LAID: no walk: one application.) -/
theorem Tryz.Builder_copyCheck (B b : Nat) (bs : List Value) (w : World) (h : Lib.IsBuilder 72 5 B b bs w) :
    Calls Tryz.prog 54 #[.pointer (some ⟨b, 0, none⟩)] w fun e w' => e = .returned (.tuple #[]) ∧ (Lib.BuilderAt 72 5 B b (.pointer (some ⟨b, 0, none⟩)) bs w' ∧ Below B w w') := Any.Builder_copyCheck Tryz.lays240 Tryz.Builder_X72_240 B b bs w h
def Tryz.lays166_ren : Go.Shelf.Ren := ⟨fun | 166 => 41 | 240 => 54 | 276 => 70 | n => n, fun | 0 => 0 | 3 => 3 | 4 => 4 | 5 => 5 | 9 => 9 | 20 => 20 | 37 => 50 | 70 => 70 | 72 => 72 | 75 => 74 | 80 => 59 | 164 => 102 | n => n, fun | n => n⟩
theorem Tryz.lays166 : Go.Proofs.Lays.n166 Tryz.prog Tryz.lays166_ren := {
  mixed := by kernel_rfl
  f166 := Tryz.func41.trans (congrArg some (by kernel_rfl))
  f240 := Tryz.func54.trans (congrArg some (by kernel_rfl))
  f276 := Tryz.func70.trans (congrArg some (by kernel_rfl))
  t0 := Tryz.underlying0
  a0 := Tryz.isAgg0
  z0 := Tryz.sizeOf0
  v0 := Tryz.zeroValue0
  t3 := Tryz.underlying3
  a3 := Tryz.isAgg3
  z3 := Tryz.sizeOf3
  v3 := Tryz.zeroValue3
  t4 := Tryz.underlying4
  a4 := Tryz.isAgg4
  z4 := Tryz.sizeOf4
  v4 := Tryz.zeroValue4
  t9 := Tryz.underlying9
  a9 := Tryz.isAgg9
  z9 := Tryz.sizeOf9
  v9 := Tryz.zeroValue9
  t20 := Tryz.underlying20
  a20 := Tryz.isAgg20
  z20 := Tryz.sizeOf20
  v20 := Tryz.zeroValue20
  t37 := Tryz.underlying50
  a37 := Tryz.isAgg50
  z37 := Tryz.sizeOf50
  v37 := Tryz.zeroValue50
  t70 := Tryz.underlying70
  a70 := Tryz.isAgg70
  z70 := Tryz.sizeOf70
  v70 := Tryz.zeroValue70
  t72 := Tryz.underlying72
  a72 := Tryz.isAgg72
  z72 := Tryz.sizeOf72
  v72 := Tryz.zeroValue72
  t75 := Tryz.underlying74
  a75 := Tryz.isAgg74
  z75 := Tryz.sizeOf74
  v75 := Tryz.zeroValue74
  t164 := Tryz.underlying102
  a164 := Tryz.isAgg102
  z164 := Tryz.sizeOf102
  v164 := Tryz.zeroValue102 }
theorem Tryz.Builder_Extra_166 : Builder.Extra Tryz.prog Tryz.lays166_ren := {
  sizeBuilder := by kernel_rfl
  liesBuilder := by kernel_rfl
  t5 := Tryz.underlying5
  a5 := Tryz.isAgg5
  z5 := Tryz.sizeOf5
  v5 := Tryz.zeroValue5
  infoByte := by kernel_rfl
  cellsByte := by kernel_rfl
  sizeByte := by kernel_rfl
  neB5 := by decide }
open Go.RowKit in
/-- (*strings.Builder).WriteString: "WriteString appends the contents of s to b's buffer. It returns the length of s and a nil error.": UNDER Go's OWN LIMIT: the new length takes at most 2^47 bytes. (LAID: no walk: one application.) -/
theorem Tryz.Builder_WriteString (B b : Nat) (bs : List Value) (s : ByteArray) (w : World) (h : Lib.IsBuilder 72 5 B b bs w) (hlen : bs.length + s.size ≤ 140737488355328) (hBw : B ≤ w.heap.size) :
    Calls Tryz.prog 41 #[.pointer (some ⟨b, 0, none⟩), .string s] w fun e w' => e = .returned (.tuple #[.int .i64 s.size, .nilIface]) ∧ (Lib.BuilderAt 72 5 B b (.pointer (some ⟨b, 0, none⟩)) (bs ++ Lib.strCells s) w' ∧ Below B w w') := Any.Builder_WriteString Tryz.lays166 Tryz.Builder_Extra_166 B b bs s w h hlen hBw
open Go.RowKit in
/-- (*strings.Builder).copyCheck (what every writing method calls first): behind it the builder is 'used': 'addr' holds its own address; its bytes are as they were. (THE FORM '_f': OF A BUILDER WHOSE BUFFER's HEAD MAY BE FROZEN: 'Lib.IsBuilderF': one that 'String()' has read.) (LAID: no walk: one application.) -/
theorem Tryz.Builder_copyCheck_f (B b : Nat) (bs : List Value) (w : World) (h : Lib.IsBuilderF 72 5 B b bs w) :
    Calls Tryz.prog 54 #[.pointer (some ⟨b, 0, none⟩)] w fun e w' => e = .returned (.tuple #[]) ∧ (Lib.BuilderAtF 72 5 B b (.pointer (some ⟨b, 0, none⟩)) bs w' ∧ Below B w w') := Any.Builder_copyCheck_f Tryz.lays240 Tryz.Builder_X72_240 B b bs w h
open Go.RowKit in
/-- (*strings.Builder).WriteString: "WriteString appends the contents of s to b's buffer. It returns the length of s and a nil error.": UNDER Go's OWN LIMIT: the new length takes at most 2^47 bytes. (THE FORM '_f': OF A BUILDER THAT 'String()' HAS READ, TOO: the bytes go in BEHIND what is frozen, or, where there is no room, all goes over into a new row.) (LAID: no walk: one application.) -/
theorem Tryz.Builder_WriteString_f (B b : Nat) (bs : List Value) (s : ByteArray) (w : World) (h : Lib.IsBuilderF 72 5 B b bs w) (hlen : bs.length + s.size ≤ 140737488355328) (hBw : B ≤ w.heap.size) :
    Calls Tryz.prog 41 #[.pointer (some ⟨b, 0, none⟩), .string s] w fun e w' => e = .returned (.tuple #[.int .i64 s.size, .nilIface]) ∧ (Lib.BuilderAtF 72 5 B b (.pointer (some ⟨b, 0, none⟩)) (bs ++ Lib.strCells s) w' ∧ Below B w w') := Any.Builder_WriteString_f Tryz.lays166 Tryz.Builder_Extra_166 B b bs s w h hlen hBw
open Go.RowKit in
/-- (*strings.Builder).copyCheck (what every writing method calls first): behind it the builder is 'used': 'addr' holds its own address; its bytes are as they were. THE FORM '_k': OVER 'Lib.IsBuilderF' (a builder that 'String()' may have read), AND WITH THE FRAME THAT REACHES ABOVE THE BUILDER: 'Lib.OthersKept': every block that is not b and is no row of uint8's stands as it stood: the iterator of a range among them.' has read.) (LAID: no walk: one application.) -/
theorem Tryz.Builder_copyCheck_k (B b : Nat) (bs : List Value) (w : World) (h : Lib.IsBuilderF 72 5 B b bs w) :
    Calls Tryz.prog 54 #[.pointer (some ⟨b, 0, none⟩)] w fun e w' => e = .returned (.tuple #[]) ∧ (Lib.BuilderAtF 72 5 B b (.pointer (some ⟨b, 0, none⟩)) bs w' ∧ Below B w w' ∧ Lib.OthersKept 5 (some b) w w') := Any.Builder_copyCheck_k Tryz.lays240 Tryz.Builder_X72_240 B b bs w h
open Go.RowKit in
/-- (*strings.Builder).WriteString: "WriteString appends the contents of s to b's buffer. It returns the length of s and a nil error.": UNDER Go's OWN LIMIT: the new length takes at most 2^47 bytes. THE FORM '_k': OVER 'Lib.IsBuilderF' (a builder that 'String()' may have read), AND WITH THE FRAME THAT REACHES ABOVE THE BUILDER: 'Lib.OthersKept': every block that is not b and is no row of uint8's stands as it stood: the iterator of a range among them.' HAS READ, TOO: the bytes go in BEHIND what is frozen, or, where there is no room, all goes over into a new row.) (LAID: no walk: one application.) -/
theorem Tryz.Builder_WriteString_k (B b : Nat) (bs : List Value) (s : ByteArray) (w : World) (h : Lib.IsBuilderF 72 5 B b bs w) (hlen : bs.length + s.size ≤ 140737488355328) (hBw : B ≤ w.heap.size) :
    Calls Tryz.prog 41 #[.pointer (some ⟨b, 0, none⟩), .string s] w fun e w' => e = .returned (.tuple #[.int .i64 s.size, .nilIface]) ∧ (Lib.BuilderAtF 72 5 B b (.pointer (some ⟨b, 0, none⟩)) (bs ++ Lib.strCells s) w' ∧ Below B w w' ∧ Lib.OthersKept 5 (some b) w w') := Any.Builder_WriteString_k Tryz.lays166 Tryz.Builder_Extra_166 B b bs s w h hlen hBw
def Tryz.lays168_ren : Go.Shelf.Ren := ⟨fun | 168 => 42 | 240 => 54 | 242 => 36 | 276 => 70 | 278 => 46 | n => n, fun | 0 => 0 | 3 => 3 | 4 => 4 | 5 => 5 | 9 => 9 | 20 => 20 | 21 => 21 | 37 => 50 | 46 => 92 | 51 => 79 | 70 => 70 | 72 => 72 | 75 => 74 | 80 => 59 | 164 => 102 | n => n, fun | n => n⟩
theorem Tryz.lays168 : Go.Proofs.Lays.n168 Tryz.prog Tryz.lays168_ren := {
  mixed := by kernel_rfl
  f168 := Tryz.func42.trans (congrArg some (by kernel_rfl))
  f240 := Tryz.func54.trans (congrArg some (by kernel_rfl))
  f242 := Tryz.func36.trans (congrArg some (by kernel_rfl))
  f276 := Tryz.func70.trans (congrArg some (by kernel_rfl))
  f278 := Tryz.func46.trans (congrArg some (by kernel_rfl))
  t0 := Tryz.underlying0
  a0 := Tryz.isAgg0
  z0 := Tryz.sizeOf0
  v0 := Tryz.zeroValue0
  t3 := Tryz.underlying3
  a3 := Tryz.isAgg3
  z3 := Tryz.sizeOf3
  v3 := Tryz.zeroValue3
  t4 := Tryz.underlying4
  a4 := Tryz.isAgg4
  z4 := Tryz.sizeOf4
  v4 := Tryz.zeroValue4
  t5 := Tryz.underlying5
  a5 := Tryz.isAgg5
  z5 := Tryz.sizeOf5
  v5 := Tryz.zeroValue5
  t9 := Tryz.underlying9
  a9 := Tryz.isAgg9
  z9 := Tryz.sizeOf9
  v9 := Tryz.zeroValue9
  t20 := Tryz.underlying20
  a20 := Tryz.isAgg20
  z20 := Tryz.sizeOf20
  v20 := Tryz.zeroValue20
  t21 := Tryz.underlying21
  a21 := Tryz.isAgg21
  z21 := Tryz.sizeOf21
  v21 := Tryz.zeroValue21
  t37 := Tryz.underlying50
  a37 := Tryz.isAgg50
  z37 := Tryz.sizeOf50
  v37 := Tryz.zeroValue50
  t46 := Tryz.underlying92
  a46 := Tryz.isAgg92
  z46 := Tryz.sizeOf92
  v46 := Tryz.zeroValue92
  t51 := Tryz.underlying79
  a51 := Tryz.isAgg79
  z51 := Tryz.sizeOf79
  v51 := Tryz.zeroValue79
  t70 := Tryz.underlying70
  a70 := Tryz.isAgg70
  z70 := Tryz.sizeOf70
  v70 := Tryz.zeroValue70
  t72 := Tryz.underlying72
  a72 := Tryz.isAgg72
  z72 := Tryz.sizeOf72
  v72 := Tryz.zeroValue72
  t75 := Tryz.underlying74
  a75 := Tryz.isAgg74
  z75 := Tryz.sizeOf74
  v75 := Tryz.zeroValue74
  t164 := Tryz.underlying102
  a164 := Tryz.isAgg102
  z164 := Tryz.sizeOf102
  v164 := Tryz.zeroValue102 }
theorem Tryz.Builder_Extra_168 : Builder.Extra Tryz.prog Tryz.lays168_ren := {
  sizeBuilder := by kernel_rfl
  liesBuilder := by kernel_rfl
  t5 := Tryz.underlying5
  a5 := Tryz.isAgg5
  z5 := Tryz.sizeOf5
  v5 := Tryz.zeroValue5
  infoByte := by kernel_rfl
  cellsByte := by kernel_rfl
  sizeByte := by kernel_rfl
  neB5 := by decide }
open Go.RowKit in
/-- (*strings.Builder).WriteRune: "WriteRune appends the UTF-8 encoding of Unicode code point r to b's buffer. It returns the length of r and a nil error.": EVERY RUNE (every int32: what is no rune goes in as U+FFFD's three bytes): 'Lib.runeCells r' (as bytes: 'Lib.encodeRune r': 'Lib.byteCells_encodeRune'); UNDER Go's OWN LIMIT: the new length takes at most 2^47 bytes. THE FORM '_k': OVER 'Lib.IsBuilderF', WITH THE FRAME THAT REACHES ABOVE THE BUILDER ('Lib.OthersKept'). (LAID: no walk: one application.) -/
theorem Tryz.Builder_WriteRune_k (B b : Nat) (bs : List Value) (r : Int) (hr0 : -2147483648 ≤ r) (hr1 : r ≤ 2147483647) (w : World) (h : Lib.IsBuilderF 72 5 B b bs w) (hlen : bs.length + 4 ≤ 140737488355328) (hBw : B ≤ w.heap.size) :
    Calls Tryz.prog 42 #[.pointer (some ⟨b, 0, none⟩), .int .i32 r] w fun e w' => e = .returned (.tuple #[.int .i64 (Lib.runeCells r).length, .nilIface]) ∧ (Lib.BuilderAtF 72 5 B b (.pointer (some ⟨b, 0, none⟩)) (bs ++ Lib.runeCells r) w' ∧ Below B w w' ∧ Lib.OthersKept 5 (some b) w w') := Any.Builder_WriteRune_k Tryz.lays168 Tryz.Builder_Extra_168 B b bs r hr0 hr1 w h hlen hBw
open Go.RowKit in
theorem Tryz.Builder_copyCheck_kc (B b : Nat) (bs : List Value) (w : World) (h : Lib.IsBuilderF 72 5 B b bs w) :
    Calls Tryz.prog 54 #[.pointer (some ⟨b, 0, none⟩)] w fun e w' => e = .returned (.tuple #[]) ∧ (Lib.BuilderAtF 72 5 B b (.pointer (some ⟨b, 0, none⟩)) bs w' ∧ Below B w w' ∧ Lib.OthersKept 5 (some b) w w') ∧ w'.cell? ⟨b, 1, none⟩ = w.cell? ⟨b, 1, none⟩ := Any.Builder_copyCheck_kc Tryz.lays240 Tryz.Builder_X72_240 B b bs w h
open Go.RowKit in
theorem Tryz.Builder_WriteString_kc (B b : Nat) (bs : List Value) (s : ByteArray) (w : World) (h : Lib.IsBuilderF 72 5 B b bs w) (hlen : bs.length + s.size ≤ 140737488355328) (hBw : B ≤ w.heap.size) :
    Calls Tryz.prog 41 #[.pointer (some ⟨b, 0, none⟩), .string s] w fun e w' => e = .returned (.tuple #[.int .i64 s.size, .nilIface]) ∧ (Lib.BuilderAtF 72 5 B b (.pointer (some ⟨b, 0, none⟩)) (bs ++ Lib.strCells s) w' ∧ Below B w w' ∧ Lib.OthersKept 5 (some b) w w') ∧ ∀ v0, w.cell? ⟨b, 1, none⟩ = some v0 → ∃ v1, w'.cell? ⟨b, 1, none⟩ = some v1 ∧ v0.capOf ≤ v1.capOf := Any.Builder_WriteString_kc Tryz.lays166 Tryz.Builder_Extra_166 B b bs s w h hlen hBw
end Go.Proofs
