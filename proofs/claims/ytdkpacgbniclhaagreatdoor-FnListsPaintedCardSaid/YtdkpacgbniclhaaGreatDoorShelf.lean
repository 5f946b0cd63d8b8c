/-
  DERIVED: THE SHELF's CONTRACTS AT THIS DUMP, IN PLAIN WORDS (tools/lay-plain.mjs out of 'TryzShelf.lean', which tools/lay-shelf.mjs wrote): THE SAME DECLARATIONS UNDER THE SAME NAMES: 'import', 'namespace', 'open', 'def', 'theorem' AND NOTHING ELSE: no command of the shelf's: FOR A HAND-IN. Each laying: the table of numbers ('.._ren') and one theorem, a field a fact of the dump's own or the kernel's comparison; each contract: ONE APPLICATION.
-/
import Derived.Shelf.Strings.Builder1
import Derived.Shelf.Strings.Builder2
import Derived.Shelf.Strings.OnBuilder
import Derived.Shelf.Strings.TrimSpace
import Derived.Shelf.Small.Utf8
import Derived.Shelf.Small.Bits
import Derived.Shelf.Small.Wraps
import Derived.Shelf.Strings.BuilderF
import Derived.Shelf.Strings.BuilderK
import Derived.Shelf.Strings.BuilderRune
import Derived.Shelf.Utf8.AppendRune
import Derived.Shelf.Utf8.AppendRunePlain
import Derived.Shelf.Utf8.RuneCount
import Derived.Shelf.Strings.Builder2Cap
import Derived.Shelf.Strconv.Itoa0
import Derived.Shelf.Strconv.Itoa1
import Derived.Shelf.LaysM
import Derived.Shelf.Strconv.Itoa2
import Derived.Shelf.Strconv.Itoa3
import Derived.Shelf.Sort.Plain
import Derived.Shelf.GgClosure.StringsIndexFunc
import Derived.Shelf.Strings.Prefix
import Derived.Shelf.Unicode.Latin
import Derived.Shelf.Unicode.Props
import Derived.Shelf.Unicode.PropsLaid
import Derived.Shelf.Unicode.Decode
import Derived.Shelf.Strings.RuneCount
import Derived.Shelf.Bits.Mul64
import Derived.Shelf.Strings.Repeat
import Derived.Shelf.Unicode.DecodeSlow
import Derived.Shelf.Unicode.DecodeAny
import Derived.Shelf.Unicode.Is16White
import Derived.Shelf.Unicode.IsSpaceAny
import Derived.Shelf.Unicode.DecodeLast
import Derived.Shelf.Strings.TrimSpaceAny
import Derived.Shelf.Unicode.Is16WhiteD
import Derived.Shelf.Unicode.CaseLookup
import Derived.Shelf.Unicode.CaseConvert
import Derived.Shelf.Unicode.CaseTo
import Derived.Shelf.Unicode.CaseLaid
import Derived.Shelf.Strings.MapAny
import Derived.Shelf.Strings.CaseAny
import Derived.Shelf.Unicode.Is16Any
import Derived.Shelf.Unicode.Is32Any
import Derived.Shelf.Unicode.ExclAny
import Derived.Shelf.Unicode.PredsAny
import Derived.Shelf.Strings.BuilderCap
import Derived.Ground.Names2Prog
import Derived.Shelf.Slices.SearchI
import Derived.Shelf.Slices.In.SortNone
import Derived.Shelf.Slices.In.SortNone2
import Derived.Shelf.Bytes.SlSmallAll
import Derived.Shelf.Bytes.Small
import Derived.Test.YtdkpacgbniclhaaGreatDoorProg
namespace Go.Proofs
open Go.Shelf
def Tryz.lays170_ren : Go.Shelf.Ren := ⟨fun | 170 => 124 | n => n, fun | 70 => 104 | 3 => 3 | 0 => 0 | 72 => 106 | 37 => 84 | 5 => 5 | n => n, fun | n => n⟩
theorem Tryz.lays170 : Go.Proofs.Lays.n170 Tryz.prog Tryz.lays170_ren := {
  mixed := by kernel_rfl
  f170 := Tryz.func124.trans (congrArg some (by kernel_rfl))
  t0 := Tryz.underlying0
  a0 := Tryz.isAgg0
  z0 := Tryz.sizeOf0
  v0 := Tryz.zeroValue0
  t3 := Tryz.underlying3
  a3 := Tryz.isAgg3
  z3 := Tryz.sizeOf3
  v3 := Tryz.zeroValue3
  t37 := Tryz.underlying84
  a37 := Tryz.isAgg84
  z37 := Tryz.sizeOf84
  v37 := Tryz.zeroValue84
  t70 := Tryz.underlying104
  a70 := Tryz.isAgg104
  z70 := Tryz.sizeOf104
  v70 := Tryz.zeroValue104
  t72 := Tryz.underlying106
  a72 := Tryz.isAgg106
  z72 := Tryz.sizeOf106
  v72 := Tryz.zeroValue106 }
open Go.RowKit in
/-- (*strings.Builder).Len: "Len returns the number of accumulated bytes; b.Len() == len(b.String()).": the world is as it was. (LAID: no walk: one application.) -/
theorem Tryz.Builder_Len (B b : Nat) (bs : List Value) (w : World) (h : Lib.IsBuilder 106 5 B b bs w) :
    Calls Tryz.prog 124 #[.pointer (some ⟨b, 0, none⟩)] w fun e w' => e = .returned (.int .i64 bs.length) ∧ w' = w := Any.Builder_Len Tryz.lays170 B b bs w h
def Tryz.lays169_ren : Go.Shelf.Ren := ⟨fun | 169 => 79 | n => n, fun | 70 => 104 | 9 => 9 | 0 => 0 | 72 => 106 | 37 => 84 | 127 => 136 | 3 => 3 | 5 => 5 | n => n, fun | n => n⟩
theorem Tryz.lays169 : Go.Proofs.Lays.n169 Tryz.prog Tryz.lays169_ren := {
  mixed := by kernel_rfl
  f169 := Tryz.func79.trans (congrArg some (by kernel_rfl))
  t0 := Tryz.underlying0
  a0 := Tryz.isAgg0
  z0 := Tryz.sizeOf0
  v0 := Tryz.zeroValue0
  t3 := Tryz.underlying3
  a3 := Tryz.isAgg3
  z3 := Tryz.sizeOf3
  v3 := Tryz.zeroValue3
  t9 := Tryz.underlying9
  a9 := Tryz.isAgg9
  z9 := Tryz.sizeOf9
  v9 := Tryz.zeroValue9
  t37 := Tryz.underlying84
  a37 := Tryz.isAgg84
  z37 := Tryz.sizeOf84
  v37 := Tryz.zeroValue84
  t70 := Tryz.underlying104
  a70 := Tryz.isAgg104
  z70 := Tryz.sizeOf104
  v70 := Tryz.zeroValue104
  t72 := Tryz.underlying106
  a72 := Tryz.isAgg106
  z72 := Tryz.sizeOf106
  v72 := Tryz.zeroValue106
  t127 := Tryz.underlying136
  a127 := Tryz.isAgg136
  z127 := Tryz.sizeOf136
  v127 := Tryz.zeroValue136 }
theorem Tryz.Builder_Extra_169 : Builder.Extra Tryz.prog Tryz.lays169_ren := {
  sizeBuilder := by kernel_rfl
  liesBuilder := by kernel_rfl
  t5 := Tryz.underlying5
  a5 := Tryz.isAgg5
  z5 := Tryz.sizeOf5
  v5 := Tryz.zeroValue5
  infoByte := by kernel_rfl
  cellsByte := by kernel_rfl
  sizeByte := by kernel_rfl
  neB5 := by decide }
open Go.RowKit in
/-- (*strings.Builder).String: "String returns the accumulated string.": OF A BUILDER THAT HOLDS AT LEAST ONE BYTE. ✋ THE MODEL FREEZES THOSE BYTES IN THE BUFFER (unsafe.String): a later write INTO them ends the model's run without an answer; a later append BEHIND them goes on. The statement's order of evaluation is drawn: one draw. (LAID: no walk: one application.) -/
theorem Tryz.Builder_String (B b : Nat) (l : List UInt8) (w : World) (h : Lib.IsBuilder 106 5 B b (Lib.byteCells l) w) (h0 : l ≠ []) :
    Calls Tryz.prog 79 #[.pointer (some ⟨b, 0, none⟩)] w fun e w' => e = .returned (.string ⟨l.toArray⟩) ∧ Below B w w' := Any.Builder_String Tryz.lays169 Tryz.Builder_Extra_169 B b l w h h0
open Go.RowKit in
/-- (*strings.Builder).String OF A BUILDER THAT HOLDS NO BYTE: the empty string. (Its buffer is nil, or a row of which it has taken nothing yet; where that row has NO capacity the model lays one new block for unsafe.SliceData's 'some address'.) One draw. (LAID: no walk: one application.) -/
theorem Tryz.Builder_String_empty (B b : Nat) (w : World) (h : Lib.IsBuilder 106 5 B b [] w) (hBw : B ≤ w.heap.size) :
    Calls Tryz.prog 79 #[.pointer (some ⟨b, 0, none⟩)] w fun e w' => e = .returned (.string ⟨#[]⟩) ∧ Below B w w' := Any.Builder_String_empty Tryz.lays169 Tryz.Builder_Extra_169 B b w h hBw
open Go.RowKit in
/-- (*strings.Builder).String: "String returns the accumulated string.": WHATEVER THE BUILDER HOLDS. (LAID: no walk: one application.) -/
theorem Tryz.Builder_String_any (B b : Nat) (l : List UInt8) (w : World) (h : Lib.IsBuilder 106 5 B b (Lib.byteCells l) w) (hBw : B ≤ w.heap.size) :
    Calls Tryz.prog 79 #[.pointer (some ⟨b, 0, none⟩)] w fun e w' => e = .returned (.string ⟨l.toArray⟩) ∧ Below B w w' := Any.Builder_String_any Tryz.lays169 Tryz.Builder_Extra_169 B b l w h hBw
def Tryz.lays241_ren : Go.Shelf.Ren := ⟨fun | 241 => 98 | 277 => 126 | n => n, fun | 70 => 104 | 3 => 3 | 0 => 0 | 72 => 106 | 37 => 84 | 5 => 5 | n => n, fun | n => n⟩
theorem Tryz.lays241 : Go.Proofs.Lays.n241 Tryz.prog Tryz.lays241_ren := {
  mixed := by kernel_rfl
  f241 := Tryz.func98.trans (congrArg some (by kernel_rfl))
  f277 := Tryz.func126.trans (congrArg some (by kernel_rfl))
  t0 := Tryz.underlying0
  a0 := Tryz.isAgg0
  z0 := Tryz.sizeOf0
  v0 := Tryz.zeroValue0
  t3 := Tryz.underlying3
  a3 := Tryz.isAgg3
  z3 := Tryz.sizeOf3
  v3 := Tryz.zeroValue3
  t37 := Tryz.underlying84
  a37 := Tryz.isAgg84
  z37 := Tryz.sizeOf84
  v37 := Tryz.zeroValue84
  t70 := Tryz.underlying104
  a70 := Tryz.isAgg104
  z70 := Tryz.sizeOf104
  v70 := Tryz.zeroValue104
  t72 := Tryz.underlying106
  a72 := Tryz.isAgg106
  z72 := Tryz.sizeOf106
  v72 := Tryz.zeroValue106 }
theorem Tryz.Builder_Extra_241 : Builder.Extra Tryz.prog Tryz.lays241_ren := {
  sizeBuilder := by kernel_rfl
  liesBuilder := by kernel_rfl
  t5 := Tryz.underlying5
  a5 := Tryz.isAgg5
  z5 := Tryz.sizeOf5
  v5 := Tryz.zeroValue5
  infoByte := by kernel_rfl
  cellsByte := by kernel_rfl
  sizeByte := by kernel_rfl
  neB5 := by decide }
open Go.RowKit in
/-- (*strings.Builder).grow (no doc but "grow copies the buffer to a new, larger buffer so that there are at least n bytes of capacity beyond len(b.buf)."): AT A BUILDER WITHOUT A BUFFER: a new row of whatever bytes for its buffer, none of them its own yet. Three draws. (LAID: no walk: one application.) -/
theorem Tryz.Builder_grow_fresh (B b n : Nat) (w : World) (hB : B ≤ b) (hbk : w.heap[b]? = some (.cells #[.pointer (some ⟨b, 0, none⟩), .slice none 0 0] 106 (0, 0))) (hBw : B ≤ w.heap.size) (hn : n ≤ 281474976710656) :
    Calls Tryz.prog 98 #[.pointer (some ⟨b, 0, none⟩), .int .i64 n] w fun e w' => e = .returned (.tuple #[]) ∧ (Lib.BuilderAt 106 5 B b (.pointer (some ⟨b, 0, none⟩)) [] w' ∧ Below B w w') := Any.Builder_grow_fresh Tryz.lays241 Tryz.Builder_Extra_241 B b n w hB hbk hBw hn
def Tryz.lays165_ren : Go.Shelf.Ren := ⟨fun | 165 => 74 | 240 => 97 | 241 => 98 | 276 => 125 | 277 => 126 | n => n, fun | 70 => 104 | 3 => 3 | 0 => 0 | 4 => 4 | 9 => 9 | 20 => 20 | 72 => 106 | 37 => 84 | 164 => 148 | 5 => 5 | n => n, fun | n => n⟩
theorem Tryz.lays165 : Go.Proofs.Lays.n165 Tryz.prog Tryz.lays165_ren := {
  mixed := by kernel_rfl
  f165 := Tryz.func74.trans (congrArg some (by kernel_rfl))
  f240 := Tryz.func97.trans (congrArg some (by kernel_rfl))
  f241 := Tryz.func98.trans (congrArg some (by kernel_rfl))
  f276 := Tryz.func125.trans (congrArg some (by kernel_rfl))
  f277 := Tryz.func126.trans (congrArg some (by kernel_rfl))
  t0 := Tryz.underlying0
  a0 := Tryz.isAgg0
  z0 := Tryz.sizeOf0
  v0 := Tryz.zeroValue0
  t3 := Tryz.underlying3
  a3 := Tryz.isAgg3
  z3 := Tryz.sizeOf3
  v3 := Tryz.zeroValue3
  t4 := Tryz.underlying4
  a4 := Tryz.isAgg4
  z4 := Tryz.sizeOf4
  v4 := Tryz.zeroValue4
  t9 := Tryz.underlying9
  a9 := Tryz.isAgg9
  z9 := Tryz.sizeOf9
  v9 := Tryz.zeroValue9
  t20 := Tryz.underlying20
  a20 := Tryz.isAgg20
  z20 := Tryz.sizeOf20
  v20 := Tryz.zeroValue20
  t37 := Tryz.underlying84
  a37 := Tryz.isAgg84
  z37 := Tryz.sizeOf84
  v37 := Tryz.zeroValue84
  t70 := Tryz.underlying104
  a70 := Tryz.isAgg104
  z70 := Tryz.sizeOf104
  v70 := Tryz.zeroValue104
  t72 := Tryz.underlying106
  a72 := Tryz.isAgg106
  z72 := Tryz.sizeOf106
  v72 := Tryz.zeroValue106
  t164 := Tryz.underlying148
  a164 := Tryz.isAgg148
  z164 := Tryz.sizeOf148
  v164 := Tryz.zeroValue148 }
theorem Tryz.Builder_Extra_165 : Builder.Extra Tryz.prog Tryz.lays165_ren := {
  sizeBuilder := by kernel_rfl
  liesBuilder := by kernel_rfl
  t5 := Tryz.underlying5
  a5 := Tryz.isAgg5
  z5 := Tryz.sizeOf5
  v5 := Tryz.zeroValue5
  infoByte := by kernel_rfl
  cellsByte := by kernel_rfl
  sizeByte := by kernel_rfl
  neB5 := by decide }
open Go.RowKit in
/-- (*strings.Builder).Grow AT A BUILDER THAT HAS NOT BEEN WRITTEN ('var b strings.Builder; b.Grow(n)'): "Grow grows b's capacity, if necessary, to guarantee space for another n bytes.": it holds no byte behind it as before it. (LAID: no walk: one application.) -/
theorem Tryz.Builder_Grow_fresh (B b n : Nat) (w : World) (hB : B ≤ b) (hbk : w.heap[b]? = some (.cells #[.pointer none, .slice none 0 0] 106 (0, 0))) (hBw : B ≤ w.heap.size) (hn : n ≤ 281474976710656) :
    Calls Tryz.prog 74 #[.pointer (some ⟨b, 0, none⟩), .int .i64 n] w fun e w' => e = .returned (.tuple #[]) ∧ (Lib.BuilderAt 106 5 B b (.pointer (some ⟨b, 0, none⟩)) [] w' ∧ Below B w w') := Any.Builder_Grow_fresh Tryz.lays165 Tryz.Builder_Extra_165 B b n w hB hbk hBw hn
def Tryz.lays159_ren : Go.Shelf.Ren := ⟨fun | 159 => 127 | 165 => 74 | 166 => 89 | 167 => 152 | 169 => 79 | 230 => 153 | 204 => 154 | 240 => 97 | 241 => 98 | 197 => 181 | 118 => 182 | 168 => 78 | 270 => 183 | 262 => 184 | 276 => 125 | 277 => 126 | 260 => 199 | 242 => 84 | 313 => 200 | 278 => 107 | 274 => 208 | 275 => 209 | n => n, fun | 9 => 9 | 4 => 4 | 3 => 3 | 5 => 5 | 72 => 106 | 0 => 0 | 76 => 117 | 75 => 116 | 107 => 173 | 70 => 104 | 20 => 20 | 37 => 84 | 127 => 136 | 21 => 21 | 105 => 194 | 164 => 148 | 162 => 212 | 203 => 210 | 119 => 178 | 46 => 144 | 139 => 231 | 138 => 230 | 51 => 138 | 160 => 232 | 208 => 241 | 206 => 239 | 80 => 79 | n => n, fun | 13 => 4 | 3 => 10 | 4 => 11 | n => n⟩
theorem Tryz.lays159 : Go.Proofs.Lays.n159 Tryz.prog Tryz.lays159_ren := {
  mixed := by kernel_rfl
  f118 := Tryz.func182.trans (congrArg some (by kernel_rfl))
  f159 := Tryz.func127.trans (congrArg some (by kernel_rfl))
  f165 := Tryz.func74.trans (congrArg some (by kernel_rfl))
  f166 := Tryz.func89.trans (congrArg some (by kernel_rfl))
  f167 := Tryz.func152.trans (congrArg some (by kernel_rfl))
  f168 := Tryz.func78.trans (congrArg some (by kernel_rfl))
  f169 := Tryz.func79.trans (congrArg some (by kernel_rfl))
  f197 := Tryz.func181.trans (congrArg some (by kernel_rfl))
  f204 := Tryz.func154.trans (congrArg some (by kernel_rfl))
  f230 := Tryz.func153.trans (congrArg some (by kernel_rfl))
  f240 := Tryz.func97.trans (congrArg some (by kernel_rfl))
  f241 := Tryz.func98.trans (congrArg some (by kernel_rfl))
  f242 := Tryz.func84.trans (congrArg some (by kernel_rfl))
  f260 := Tryz.func199.trans (congrArg some (by kernel_rfl))
  f262 := Tryz.func184.trans (congrArg some (by kernel_rfl))
  f270 := Tryz.func183.trans (congrArg some (by kernel_rfl))
  f274 := Tryz.func208.trans (congrArg some (by kernel_rfl))
  f275 := Tryz.func209.trans (congrArg some (by kernel_rfl))
  f276 := Tryz.func125.trans (congrArg some (by kernel_rfl))
  f277 := Tryz.func126.trans (congrArg some (by kernel_rfl))
  f278 := Tryz.func107.trans (congrArg some (by kernel_rfl))
  f313 := Tryz.func200.trans (congrArg some (by kernel_rfl))
  t0 := Tryz.underlying0
  a0 := Tryz.isAgg0
  z0 := Tryz.sizeOf0
  v0 := Tryz.zeroValue0
  t3 := Tryz.underlying3
  a3 := Tryz.isAgg3
  z3 := Tryz.sizeOf3
  v3 := Tryz.zeroValue3
  t4 := Tryz.underlying4
  a4 := Tryz.isAgg4
  z4 := Tryz.sizeOf4
  v4 := Tryz.zeroValue4
  t5 := Tryz.underlying5
  a5 := Tryz.isAgg5
  z5 := Tryz.sizeOf5
  v5 := Tryz.zeroValue5
  t9 := Tryz.underlying9
  a9 := Tryz.isAgg9
  z9 := Tryz.sizeOf9
  v9 := Tryz.zeroValue9
  t20 := Tryz.underlying20
  a20 := Tryz.isAgg20
  z20 := Tryz.sizeOf20
  v20 := Tryz.zeroValue20
  t21 := Tryz.underlying21
  a21 := Tryz.isAgg21
  z21 := Tryz.sizeOf21
  v21 := Tryz.zeroValue21
  t37 := Tryz.underlying84
  a37 := Tryz.isAgg84
  z37 := Tryz.sizeOf84
  v37 := Tryz.zeroValue84
  t46 := Tryz.underlying144
  a46 := Tryz.isAgg144
  z46 := Tryz.sizeOf144
  v46 := Tryz.zeroValue144
  t51 := Tryz.underlying138
  a51 := Tryz.isAgg138
  z51 := Tryz.sizeOf138
  v51 := Tryz.zeroValue138
  t70 := Tryz.underlying104
  a70 := Tryz.isAgg104
  z70 := Tryz.sizeOf104
  v70 := Tryz.zeroValue104
  t72 := Tryz.underlying106
  a72 := Tryz.isAgg106
  z72 := Tryz.sizeOf106
  v72 := Tryz.zeroValue106
  t75 := Tryz.underlying116
  a75 := Tryz.isAgg116
  z75 := Tryz.sizeOf116
  v75 := Tryz.zeroValue116
  t76 := Tryz.underlying117
  a76 := Tryz.isAgg117
  z76 := Tryz.sizeOf117
  v76 := Tryz.zeroValue117
  t105 := Tryz.underlying194
  a105 := Tryz.isAgg194
  z105 := Tryz.sizeOf194
  v105 := Tryz.zeroValue194
  t107 := Tryz.underlying173
  a107 := Tryz.isAgg173
  z107 := Tryz.sizeOf173
  v107 := Tryz.zeroValue173
  t119 := Tryz.underlying178
  a119 := Tryz.isAgg178
  z119 := Tryz.sizeOf178
  t127 := Tryz.underlying136
  a127 := Tryz.isAgg136
  z127 := Tryz.sizeOf136
  v127 := Tryz.zeroValue136
  t138 := Tryz.underlying230
  a138 := Tryz.isAgg230
  z138 := Tryz.sizeOf230
  v138 := Tryz.zeroValue230
  t139 := Tryz.underlying231
  a139 := Tryz.isAgg231
  z139 := Tryz.sizeOf231
  v139 := Tryz.zeroValue231
  t160 := Tryz.underlying232
  a160 := Tryz.isAgg232
  z160 := Tryz.sizeOf232
  v160 := Tryz.zeroValue232
  t162 := Tryz.underlying212
  a162 := Tryz.isAgg212
  z162 := Tryz.sizeOf212
  v162 := Tryz.zeroValue212
  t164 := Tryz.underlying148
  a164 := Tryz.isAgg148
  z164 := Tryz.sizeOf148
  v164 := Tryz.zeroValue148
  t203 := Tryz.underlying210
  a203 := Tryz.isAgg210
  z203 := Tryz.sizeOf210
  v203 := Tryz.zeroValue210
  t206 := Tryz.underlying239
  a206 := Tryz.isAgg239
  z206 := Tryz.sizeOf239
  v206 := Tryz.zeroValue239
  t208 := Tryz.underlying241
  a208 := Tryz.isAgg241
  z208 := Tryz.sizeOf241
  v208 := Tryz.zeroValue241
  g3 := by kernel_rfl
  g4 := by kernel_rfl
  g13 := by kernel_rfl }
theorem Tryz.Builder_Extra_159 : Builder.Extra Tryz.prog Tryz.lays159_ren := {
  sizeBuilder := by kernel_rfl
  liesBuilder := by kernel_rfl
  t5 := Tryz.underlying5
  a5 := Tryz.isAgg5
  z5 := Tryz.sizeOf5
  v5 := Tryz.zeroValue5
  infoByte := by kernel_rfl
  cellsByte := by kernel_rfl
  sizeByte := by kernel_rfl
  neB5 := by decide }
open Go.RowKit in
/-- strings.ToLower: "ToLower returns s with all Unicode letters mapped to their lower case.": ON ASCII TEXT OF AT MOST 2^47 BYTES. Below the heap's end the world is as it was: where a letter turns, the call makes a builder and its buffer. (LAID: no walk: one application.) -/
theorem Tryz.strings_ToLower_ascii (s : ByteArray) (w : World) (hs : s.size ≤ 140737488355328) (hascii : ∀ (j : Nat) (b : UInt8), s.data.toList[j]? = some b → b.toNat < 128) :
    Calls Tryz.prog 127 #[.string s] w fun e w' => e = .returned (.string ⟨(Lib.toLowerA s.data.toList).toArray⟩) ∧ Below w.heap.size w w' := Any.strings_ToLower_ascii Tryz.lays159 Tryz.Builder_Extra_159 s w hs hascii
def Tryz.lays156_ren : Go.Shelf.Ren := ⟨fun | 156 => 66 | 165 => 74 | 166 => 89 | 169 => 79 | 240 => 97 | 241 => 98 | 276 => 125 | 277 => 126 | n => n, fun | 31 => 35 | 9 => 9 | 3 => 3 | 4 => 4 | 0 => 0 | 20 => 20 | 72 => 106 | 76 => 117 | 70 => 104 | 37 => 84 | 75 => 116 | 127 => 136 | 164 => 148 | 5 => 5 | 80 => 79 | n => n, fun | n => n⟩
theorem Tryz.lays156 : Go.Proofs.Lays.n156 Tryz.prog Tryz.lays156_ren := {
  mixed := by kernel_rfl
  f156 := Tryz.func66.trans (congrArg some (by kernel_rfl))
  f165 := Tryz.func74.trans (congrArg some (by kernel_rfl))
  f166 := Tryz.func89.trans (congrArg some (by kernel_rfl))
  f169 := Tryz.func79.trans (congrArg some (by kernel_rfl))
  f240 := Tryz.func97.trans (congrArg some (by kernel_rfl))
  f241 := Tryz.func98.trans (congrArg some (by kernel_rfl))
  f276 := Tryz.func125.trans (congrArg some (by kernel_rfl))
  f277 := Tryz.func126.trans (congrArg some (by kernel_rfl))
  t0 := Tryz.underlying0
  a0 := Tryz.isAgg0
  z0 := Tryz.sizeOf0
  v0 := Tryz.zeroValue0
  t3 := Tryz.underlying3
  a3 := Tryz.isAgg3
  z3 := Tryz.sizeOf3
  v3 := Tryz.zeroValue3
  t4 := Tryz.underlying4
  a4 := Tryz.isAgg4
  z4 := Tryz.sizeOf4
  v4 := Tryz.zeroValue4
  t9 := Tryz.underlying9
  a9 := Tryz.isAgg9
  z9 := Tryz.sizeOf9
  v9 := Tryz.zeroValue9
  t20 := Tryz.underlying20
  a20 := Tryz.isAgg20
  z20 := Tryz.sizeOf20
  v20 := Tryz.zeroValue20
  t31 := Tryz.underlying35
  a31 := Tryz.isAgg35
  z31 := Tryz.sizeOf35
  v31 := Tryz.zeroValue35
  t37 := Tryz.underlying84
  a37 := Tryz.isAgg84
  z37 := Tryz.sizeOf84
  v37 := Tryz.zeroValue84
  t70 := Tryz.underlying104
  a70 := Tryz.isAgg104
  z70 := Tryz.sizeOf104
  v70 := Tryz.zeroValue104
  t72 := Tryz.underlying106
  a72 := Tryz.isAgg106
  z72 := Tryz.sizeOf106
  v72 := Tryz.zeroValue106
  t75 := Tryz.underlying116
  a75 := Tryz.isAgg116
  z75 := Tryz.sizeOf116
  v75 := Tryz.zeroValue116
  t76 := Tryz.underlying117
  a76 := Tryz.isAgg117
  z76 := Tryz.sizeOf117
  v76 := Tryz.zeroValue117
  t127 := Tryz.underlying136
  a127 := Tryz.isAgg136
  z127 := Tryz.sizeOf136
  v127 := Tryz.zeroValue136
  t164 := Tryz.underlying148
  a164 := Tryz.isAgg148
  z164 := Tryz.sizeOf148
  v164 := Tryz.zeroValue148 }
theorem Tryz.Builder_Extra_156 : Builder.Extra Tryz.prog Tryz.lays156_ren := {
  sizeBuilder := by kernel_rfl
  liesBuilder := by kernel_rfl
  t5 := Tryz.underlying5
  a5 := Tryz.isAgg5
  z5 := Tryz.sizeOf5
  v5 := Tryz.zeroValue5
  infoByte := by kernel_rfl
  cellsByte := by kernel_rfl
  sizeByte := by kernel_rfl
  neB5 := by decide }
open Go.RowKit in
/-- No element: the empty string; the world is as it was. (Whatever the slice's address and capacity: a nil slice too.) (LAID: no walk: one application.) -/
theorem Tryz.strings_Join_none (a : Option Addr) (c : Nat) (sep : ByteArray) (w : World) :
    Calls Tryz.prog 66 #[.slice a 0 c, .string sep] w fun e w' => e = .returned (.string ⟨#[]⟩) ∧ w' = w := Any.strings_Join_none Tryz.lays156 Tryz.Builder_Extra_156 a c sep w
open Go.RowKit in
/-- strings.Join: "Join concatenates the elements of its first argument to create a single string. The separator string sep is placed between elements in the resulting string.": HOWEVER MANY ELEMENTS. Below the heap's end the world is as it was. (LAID: no walk: one application.) -/
theorem Tryz.strings_Join (bk o c : Nat) (xs : List ByteArray) (sep : ByteArray) (w : World) (hcells : ∀ (j : Nat) x, xs[j]? = some x → w.cell? ⟨bk, o + j, none⟩ = some (.string x)) (hbk : bk < w.heap.size) (hN : xs.length ≤ 140737488355328) (hcap : xs.length ≤ c) (hlen : (Lib.join (xs.map (·.data.toList)) sep.data.toList).length ≤ 140737488355328) :
    Calls Tryz.prog 66 #[.slice (some ⟨bk, o, none⟩) xs.length c, .string sep] w fun e w' => e = .returned (.string ⟨(Lib.join (xs.map (·.data.toList)) sep.data.toList).toArray⟩) ∧ Below w.heap.size w w' := Any.strings_Join Tryz.lays156 Tryz.Builder_Extra_156 bk o c xs sep w hcells hbk hN hcap hlen
def Tryz.lays163_ren : Go.Shelf.Ren := ⟨fun | 163 => 138 | 237 => 164 | 199 => 165 | 238 => 166 | 272 => 189 | 261 => 190 | 273 => 191 | 197 => 181 | 315 => 201 | 311 => 202 | 312 => 203 | 271 => 204 | 260 => 199 | 120 => 210 | n => n, fun | 9 => 9 | 37 => 84 | 3 => 3 | 0 => 0 | 5 => 5 | 4 => 4 | 40 => 69 | 119 => 178 | 21 => 21 | 51 => 138 | 141 => 199 | 105 => 194 | 196 => 217 | 193 => 214 | 198 => 220 | 49 => 218 | 194 => 215 | 201 => 223 | 226 => 235 | 46 => 144 | 227 => 236 | 139 => 231 | 138 => 230 | n => n, fun | 0 => 2 | 6 => 3 | 3 => 10 | 4 => 11 | n => n⟩
theorem Tryz.lays163 : Go.Proofs.Lays.n163 Tryz.prog Tryz.lays163_ren := {
  mixed := by kernel_rfl
  f120 := Tryz.func210.trans (congrArg some (by kernel_rfl))
  f163 := Tryz.func138.trans (congrArg some (by kernel_rfl))
  f197 := Tryz.func181.trans (congrArg some (by kernel_rfl))
  f199 := Tryz.func165.trans (congrArg some (by kernel_rfl))
  f237 := Tryz.func164.trans (congrArg some (by kernel_rfl))
  f238 := Tryz.func166.trans (congrArg some (by kernel_rfl))
  f260 := Tryz.func199.trans (congrArg some (by kernel_rfl))
  f261 := Tryz.func190.trans (congrArg some (by kernel_rfl))
  f271 := Tryz.func204.trans (congrArg some (by kernel_rfl))
  f272 := Tryz.func189.trans (congrArg some (by kernel_rfl))
  f273 := Tryz.func191.trans (congrArg some (by kernel_rfl))
  f311 := Tryz.func202.trans (congrArg some (by kernel_rfl))
  f312 := Tryz.func203.trans (congrArg some (by kernel_rfl))
  f315 := Tryz.func201.trans (congrArg some (by kernel_rfl))
  t0 := Tryz.underlying0
  a0 := Tryz.isAgg0
  z0 := Tryz.sizeOf0
  v0 := Tryz.zeroValue0
  t3 := Tryz.underlying3
  a3 := Tryz.isAgg3
  z3 := Tryz.sizeOf3
  v3 := Tryz.zeroValue3
  t4 := Tryz.underlying4
  a4 := Tryz.isAgg4
  z4 := Tryz.sizeOf4
  v4 := Tryz.zeroValue4
  t5 := Tryz.underlying5
  a5 := Tryz.isAgg5
  z5 := Tryz.sizeOf5
  v5 := Tryz.zeroValue5
  t9 := Tryz.underlying9
  a9 := Tryz.isAgg9
  z9 := Tryz.sizeOf9
  v9 := Tryz.zeroValue9
  t21 := Tryz.underlying21
  a21 := Tryz.isAgg21
  z21 := Tryz.sizeOf21
  v21 := Tryz.zeroValue21
  t37 := Tryz.underlying84
  a37 := Tryz.isAgg84
  z37 := Tryz.sizeOf84
  v37 := Tryz.zeroValue84
  t40 := Tryz.underlying69
  a40 := Tryz.isAgg69
  z40 := Tryz.sizeOf69
  v40 := Tryz.zeroValue69
  t46 := Tryz.underlying144
  a46 := Tryz.isAgg144
  z46 := Tryz.sizeOf144
  v46 := Tryz.zeroValue144
  t49 := Tryz.underlying218
  a49 := Tryz.isAgg218
  z49 := Tryz.sizeOf218
  v49 := Tryz.zeroValue218
  t51 := Tryz.underlying138
  a51 := Tryz.isAgg138
  z51 := Tryz.sizeOf138
  v51 := Tryz.zeroValue138
  t105 := Tryz.underlying194
  a105 := Tryz.isAgg194
  z105 := Tryz.sizeOf194
  v105 := Tryz.zeroValue194
  t119 := Tryz.underlying178
  a119 := Tryz.isAgg178
  z119 := Tryz.sizeOf178
  t138 := Tryz.underlying230
  a138 := Tryz.isAgg230
  z138 := Tryz.sizeOf230
  v138 := Tryz.zeroValue230
  t139 := Tryz.underlying231
  a139 := Tryz.isAgg231
  z139 := Tryz.sizeOf231
  v139 := Tryz.zeroValue231
  t141 := Tryz.underlying199
  a141 := Tryz.isAgg199
  z141 := Tryz.sizeOf199
  v141 := Tryz.zeroValue199
  t193 := Tryz.underlying214
  a193 := Tryz.isAgg214
  z193 := Tryz.sizeOf214
  v193 := Tryz.zeroValue214
  t194 := Tryz.underlying215
  a194 := Tryz.isAgg215
  z194 := Tryz.sizeOf215
  v194 := Tryz.zeroValue215
  t196 := Tryz.underlying217
  a196 := Tryz.isAgg217
  z196 := Tryz.sizeOf217
  v196 := Tryz.zeroValue217
  t198 := Tryz.underlying220
  a198 := Tryz.isAgg220
  z198 := Tryz.sizeOf220
  v198 := Tryz.zeroValue220
  t201 := Tryz.underlying223
  a201 := Tryz.isAgg223
  z201 := Tryz.sizeOf223
  v201 := Tryz.zeroValue223
  t226 := Tryz.underlying235
  a226 := Tryz.isAgg235
  z226 := Tryz.sizeOf235
  v226 := Tryz.zeroValue235
  t227 := Tryz.underlying236
  a227 := Tryz.isAgg236
  z227 := Tryz.sizeOf236
  v227 := Tryz.zeroValue236
  g0 := by kernel_rfl
  g3 := by kernel_rfl
  g4 := by kernel_rfl
  g6 := by kernel_rfl }
theorem Tryz.Space_Extra_163 : Space.Extra Tryz.prog Tryz.lays163_ren := {
  gNamed := by kernel_rfl }
open Go.RowKit in
theorem Tryz.strings_TrimSpace (s : ByteArray) (w : World) (hs : s.size ≤ 9223372036854775807) (hascii : ∀ (j : Nat) b, s.data.toList[j]? = some b → b.toNat < 128) (htab : Lib.TabIs Tryz.prog w "strings.asciiSpace" .u8 Lib.asciiSpaceTab) :
    Calls Tryz.prog 138 #[.string s] w fun e w' => e = .returned (.string ⟨(Lib.trimSpace s.data.toList).toArray⟩) ∧ w' = Lib.bytesWorld w 5 s := Any.strings_TrimSpace Tryz.lays163 Tryz.Space_Extra_163 s w hs hascii htab
def Tryz.lays118_ren : Go.Shelf.Ren := ⟨fun | 118 => 182 | n => n, fun | 21 => 21 | 3 => 3 | 4 => 4 | n => n, fun | n => n⟩
theorem Tryz.lays118 : Go.Proofs.Lays.n118 Tryz.prog Tryz.lays118_ren := {
  mixed := by kernel_rfl
  f118 := Tryz.func182.trans (congrArg some (by kernel_rfl))
  t3 := Tryz.underlying3
  a3 := Tryz.isAgg3
  z3 := Tryz.sizeOf3
  v3 := Tryz.zeroValue3
  t4 := Tryz.underlying4
  a4 := Tryz.isAgg4
  z4 := Tryz.sizeOf4
  v4 := Tryz.zeroValue4
  t21 := Tryz.underlying21
  a21 := Tryz.isAgg21
  z21 := Tryz.sizeOf21
  v21 := Tryz.zeroValue21 }
/-- utf8.RuneLen: "RuneLen returns the number of bytes in the UTF-8 encoding of the rune. It returns -1 if the rune is not a valid value to encode in UTF-8.": IT RETURNS 'Lib.runeLen r'; the world is as it was. (LAID: no walk: one application.) -/
theorem Tryz.utf8_RuneLen (r : Int) (w : World) :
    Calls Tryz.prog 182 #[.int .i32 r] w fun e w' => e = .returned (.int .i64 (Lib.runeLen r)) ∧ w' = w := Any.utf8_RuneLen Tryz.lays118 r w
def Tryz.lays120_ren : Go.Shelf.Ren := ⟨fun | 120 => 210 | n => n, fun | 5 => 5 | 4 => 4 | n => n, fun | n => n⟩
theorem Tryz.lays120 : Go.Proofs.Lays.n120 Tryz.prog Tryz.lays120_ren := {
  mixed := by kernel_rfl
  f120 := Tryz.func210.trans (congrArg some (by kernel_rfl))
  t4 := Tryz.underlying4
  a4 := Tryz.isAgg4
  z4 := Tryz.sizeOf4
  v4 := Tryz.zeroValue4
  t5 := Tryz.underlying5
  a5 := Tryz.isAgg5
  z5 := Tryz.sizeOf5
  v5 := Tryz.zeroValue5 }
/-- utf8.RuneStart: "RuneStart reports whether the byte could be the first byte of an encoded, possibly invalid rune. Second and subsequent bytes always have the top two bits set to 10.": IT RETURNS 'Lib.runeStart b'; the world is as it was. ('h0', 'h1': b is a byte: a caller has it of every byte that it was handed.) (LAID: no walk: one application.) -/
theorem Tryz.utf8_RuneStart (b : Int) (w : World) (h0 : 0 ≤ b) (h1 : b < 256) :
    Calls Tryz.prog 210 #[.int .u8 b] w fun e w' => e = .returned (.bool (Lib.runeStart b)) ∧ w' = w := Any.utf8_RuneStart Tryz.lays120 b w h0 h1
def Tryz.lays128_ren : Go.Shelf.Ren := ⟨fun | 128 => 180 | n => n, fun | 51 => 138 | 3 => 3 | 4 => 4 | 46 => 144 | 5 => 5 | 9 => 9 | n => n, fun | n => n⟩
theorem Tryz.lays128 : Go.Proofs.Lays.n128 Tryz.prog Tryz.lays128_ren := {
  mixed := by kernel_rfl
  f128 := Tryz.func180.trans (congrArg some (by kernel_rfl))
  t3 := Tryz.underlying3
  a3 := Tryz.isAgg3
  z3 := Tryz.sizeOf3
  v3 := Tryz.zeroValue3
  t4 := Tryz.underlying4
  a4 := Tryz.isAgg4
  z4 := Tryz.sizeOf4
  v4 := Tryz.zeroValue4
  t5 := Tryz.underlying5
  a5 := Tryz.isAgg5
  z5 := Tryz.sizeOf5
  v5 := Tryz.zeroValue5
  t9 := Tryz.underlying9
  a9 := Tryz.isAgg9
  z9 := Tryz.sizeOf9
  v9 := Tryz.zeroValue9
  t46 := Tryz.underlying144
  a46 := Tryz.isAgg144
  z46 := Tryz.sizeOf144
  v46 := Tryz.zeroValue144
  t51 := Tryz.underlying138
  a51 := Tryz.isAgg138
  z51 := Tryz.sizeOf138
  v51 := Tryz.zeroValue138 }
/-- bits.Len32: "Len32 returns the minimum number of bits required to represent x; the result is 0 for x == 0.": IT RETURNS 'Lib.bitLen x'; the world is as it was. ('h0', 'h1': x is a uint32.) (LAID: no walk: one application.) -/
theorem Tryz.bits_Len32 (x : Int) (w : World) (h0 : 0 ≤ x) (h1 : x ≤ 4294967295) :
    Calls Tryz.prog 180 #[.int .u32 x] w fun e w' => e = .returned (.int .i64 (Lib.bitLen x.toNat)) ∧ w' = w := Any.bits_Len32 Tryz.lays128 x w h0 h1
def Tryz.lays125_ren : Go.Shelf.Ren := ⟨fun | 125 => 145 | 128 => 180 | 129 => 160 | n => n, fun | 46 => 144 | 3 => 3 | 51 => 138 | 53 => 154 | 4 => 4 | 5 => 5 | 9 => 9 | n => n, fun | n => n⟩
theorem Tryz.lays125 : Go.Proofs.Lays.n125 Tryz.prog Tryz.lays125_ren := {
  mixed := by kernel_rfl
  f125 := Tryz.func145.trans (congrArg some (by kernel_rfl))
  f128 := Tryz.func180.trans (congrArg some (by kernel_rfl))
  f129 := Tryz.func160.trans (congrArg some (by kernel_rfl))
  t3 := Tryz.underlying3
  a3 := Tryz.isAgg3
  z3 := Tryz.sizeOf3
  v3 := Tryz.zeroValue3
  t4 := Tryz.underlying4
  a4 := Tryz.isAgg4
  z4 := Tryz.sizeOf4
  v4 := Tryz.zeroValue4
  t5 := Tryz.underlying5
  a5 := Tryz.isAgg5
  z5 := Tryz.sizeOf5
  v5 := Tryz.zeroValue5
  t9 := Tryz.underlying9
  a9 := Tryz.isAgg9
  z9 := Tryz.sizeOf9
  v9 := Tryz.zeroValue9
  t46 := Tryz.underlying144
  a46 := Tryz.isAgg144
  z46 := Tryz.sizeOf144
  v46 := Tryz.zeroValue144
  t51 := Tryz.underlying138
  a51 := Tryz.isAgg138
  z51 := Tryz.sizeOf138
  v51 := Tryz.zeroValue138
  t53 := Tryz.underlying154
  a53 := Tryz.isAgg154
  z53 := Tryz.sizeOf154
  v53 := Tryz.zeroValue154 }
/-- bits.Len: "Len returns the minimum number of bits required to represent x; the result is 0 for x == 0.": IT RETURNS 'Lib.bitLen x'; the world is as it was. (A uint has 64 bits in the model.) ITS CALLEE bits.Len64 IS MET BY ITS OWN CONTRACT OFF THE SHELF (lay that first). (LAID: no walk: one application.) -/
theorem Tryz.bits_Len (x : Int) (w : World) (h0 : 0 ≤ x) (h1 : x ≤ 18446744073709551615) :
    Calls Tryz.prog 145 #[.int .u64 x] w fun e w' => e = .returned (.int .i64 (Lib.bitLen x.toNat)) ∧ w' = w := Any.bits_Len Tryz.lays125 x w h0 h1
def Tryz.lays215_ren : Go.Shelf.Ren := ⟨fun | 215 => 198 | n => n, fun | 3 => 3 | 4 => 4 | n => n, fun | n => n⟩
theorem Tryz.lays215 : Go.Proofs.Lays.n215 Tryz.prog Tryz.lays215_ren := {
  mixed := by kernel_rfl
  f215 := Tryz.func198.trans (congrArg some (by kernel_rfl))
  t3 := Tryz.underlying3
  a3 := Tryz.isAgg3
  z3 := Tryz.sizeOf3
  v3 := Tryz.zeroValue3
  t4 := Tryz.underlying4
  a4 := Tryz.isAgg4
  z4 := Tryz.sizeOf4
  v4 := Tryz.zeroValue4 }
open Go.RowKit in
/-- cmp.isNaN at int: 'x != x': false. (LAID: no walk: one application.) -/
theorem Tryz.cmp_isNaN_int (x : Int) (w : World) :
    Calls Tryz.prog 198 #[.int .i64 x] w fun e w' => e = .returned (.bool false) ∧ w' = w := Any.cmp_isNaN_int Tryz.lays215 x w
open Go.RowKit in
/-- (*strings.Builder).Len: "Len returns the number of accumulated bytes; b.Len() == len(b.String()).": the world is as it was. (THE FORM '_f': 'Lib.IsBuilderF'.) (LAID: no walk: one application.) -/
theorem Tryz.Builder_Len_f (B b : Nat) (bs : List Value) (w : World) (h : Lib.IsBuilderF 106 5 B b bs w) :
    Calls Tryz.prog 124 #[.pointer (some ⟨b, 0, none⟩)] w fun e w' => e = .returned (.int .i64 bs.length) ∧ w' = w := Any.Builder_Len_f Tryz.lays170 B b bs w h
open Go.RowKit in
/-- (*strings.Builder).String: "String returns the accumulated string.": OF A BUILDER THAT HOLDS AT LEAST ONE BYTE. ✋ THE MODEL FREEZES THOSE BYTES IN THE BUFFER (unsafe.String): a later write INTO them ends the model's run without an answer; a later append BEHIND them goes on. The statement's order of evaluation is drawn: one draw. THE FORM '_f': IT SAYS BESIDES THAT THE BUILDER IS A BUILDER STILL ('Lib.IsBuilderF', the same bytes): SO IT CAN BE WRITTEN ON: 'b.WriteString(b.String()[:k])'. (LAID: no walk: one application.) -/
theorem Tryz.Builder_String_f (B b : Nat) (l : List UInt8) (w : World) (h : Lib.IsBuilderF 106 5 B b (Lib.byteCells l) w) (h0 : l ≠ []) :
    Calls Tryz.prog 79 #[.pointer (some ⟨b, 0, none⟩)] w fun e w' => e = .returned (.string ⟨l.toArray⟩) ∧ (Lib.IsBuilderF 106 5 B b (Lib.byteCells l) w' ∧ Below B w w') := Any.Builder_String_f Tryz.lays169 Tryz.Builder_Extra_169 B b l w h h0
open Go.RowKit in
/-- (*strings.Builder).String OF A BUILDER THAT HOLDS NO BYTE: the empty string; THE FORM '_f': a builder still. (LAID: no walk: one application.) -/
theorem Tryz.Builder_String_empty_f (B b : Nat) (w : World) (h : Lib.IsBuilderF 106 5 B b [] w) (hBw : B ≤ w.heap.size) :
    Calls Tryz.prog 79 #[.pointer (some ⟨b, 0, none⟩)] w fun e w' => e = .returned (.string ⟨#[]⟩) ∧ (Lib.IsBuilderF 106 5 B b [] w' ∧ Below B w w') := Any.Builder_String_empty_f Tryz.lays169 Tryz.Builder_Extra_169 B b w h hBw
open Go.RowKit in
/-- (*strings.Builder).String: "String returns the accumulated string.": WHATEVER THE BUILDER HOLDS; THE FORM '_f': OF A BUILDER THAT MAY HAVE BEEN READ BEFORE; AND IT IS A BUILDER STILL, holding the same bytes: it can be written on. (LAID: no walk: one application.) -/
theorem Tryz.Builder_String_any_f (B b : Nat) (l : List UInt8) (w : World) (h : Lib.IsBuilderF 106 5 B b (Lib.byteCells l) w) (hBw : B ≤ w.heap.size) :
    Calls Tryz.prog 79 #[.pointer (some ⟨b, 0, none⟩)] w fun e w' => e = .returned (.string ⟨l.toArray⟩) ∧ (Lib.IsBuilderF 106 5 B b (Lib.byteCells l) w' ∧ Below B w w') := Any.Builder_String_any_f Tryz.lays169 Tryz.Builder_Extra_169 B b l w h hBw
open Go.RowKit in
/-- (*strings.Builder).String: "String returns the accumulated string.": OF A BUILDER THAT HOLDS AT LEAST ONE BYTE. ✋ THE MODEL FREEZES THOSE BYTES IN THE BUFFER (unsafe.String): a later write INTO them ends the model's run without an answer; a later append BEHIND them goes on. The statement's order of evaluation is drawn: one draw. THE FORM '_k': OVER 'Lib.IsBuilderF' (a builder that 'String()' may have read), AND WITH THE FRAME THAT REACHES ABOVE THE BUILDER: 'Lib.OthersKept': every block that is not b and is no row of uint8's stands as it stood: the iterator of a range among them. (LAID: no walk: one application.) -/
theorem Tryz.Builder_String_k (B b : Nat) (l : List UInt8) (w : World) (h : Lib.IsBuilderF 106 5 B b (Lib.byteCells l) w) (h0 : l ≠ []) :
    Calls Tryz.prog 79 #[.pointer (some ⟨b, 0, none⟩)] w fun e w' => e = .returned (.string ⟨l.toArray⟩) ∧ (Lib.IsBuilderF 106 5 B b (Lib.byteCells l) w' ∧ Below B w w' ∧ Lib.OthersKept 5 (some b) w w') := Any.Builder_String_k Tryz.lays169 Tryz.Builder_Extra_169 B b l w h h0
open Go.RowKit in
/-- (*strings.Builder).String OF A BUILDER THAT HOLDS NO BYTE: the empty string; THE FORM '_k': OVER 'Lib.IsBuilderF' (a builder that 'String()' may have read), AND WITH THE FRAME THAT REACHES ABOVE THE BUILDER: 'Lib.OthersKept': every block that is not b and is no row of uint8's stands as it stood: the iterator of a range among them. (LAID: no walk: one application.) -/
theorem Tryz.Builder_String_empty_k (B b : Nat) (w : World) (h : Lib.IsBuilderF 106 5 B b [] w) (hBw : B ≤ w.heap.size) :
    Calls Tryz.prog 79 #[.pointer (some ⟨b, 0, none⟩)] w fun e w' => e = .returned (.string ⟨#[]⟩) ∧ (Lib.IsBuilderF 106 5 B b [] w' ∧ Below B w w' ∧ Lib.OthersKept 5 (some b) w w') := Any.Builder_String_empty_k Tryz.lays169 Tryz.Builder_Extra_169 B b w h hBw
open Go.RowKit in
/-- (*strings.Builder).String: "String returns the accumulated string.": WHATEVER THE BUILDER HOLDS; THE FORM '_k': OVER 'Lib.IsBuilderF' (a builder that 'String()' may have read), AND WITH THE FRAME THAT REACHES ABOVE THE BUILDER: 'Lib.OthersKept': every block that is not b and is no row of uint8's stands as it stood: the iterator of a range among them. (LAID: no walk: one application.) -/
theorem Tryz.Builder_String_any_k (B b : Nat) (l : List UInt8) (w : World) (h : Lib.IsBuilderF 106 5 B b (Lib.byteCells l) w) (hBw : B ≤ w.heap.size) :
    Calls Tryz.prog 79 #[.pointer (some ⟨b, 0, none⟩)] w fun e w' => e = .returned (.string ⟨l.toArray⟩) ∧ (Lib.IsBuilderF 106 5 B b (Lib.byteCells l) w' ∧ Below B w w' ∧ Lib.OthersKept 5 (some b) w w') := Any.Builder_String_any_k Tryz.lays169 Tryz.Builder_Extra_169 B b l w h hBw
def Tryz.lays278_ren : Go.Shelf.Ren := ⟨fun | 278 => 107 | n => n, fun | 37 => 84 | 21 => 21 | 51 => 138 | 4 => 4 | 46 => 144 | 5 => 5 | n => n, fun | n => n⟩
theorem Tryz.lays278 : Go.Proofs.Lays.n278 Tryz.prog Tryz.lays278_ren := {
  mixed := by kernel_rfl
  f278 := Tryz.func107.trans (congrArg some (by kernel_rfl))
  t4 := Tryz.underlying4
  a4 := Tryz.isAgg4
  z4 := Tryz.sizeOf4
  v4 := Tryz.zeroValue4
  t5 := Tryz.underlying5
  a5 := Tryz.isAgg5
  z5 := Tryz.sizeOf5
  v5 := Tryz.zeroValue5
  t21 := Tryz.underlying21
  a21 := Tryz.isAgg21
  z21 := Tryz.sizeOf21
  v21 := Tryz.zeroValue21
  t37 := Tryz.underlying84
  a37 := Tryz.isAgg84
  z37 := Tryz.sizeOf84
  v37 := Tryz.zeroValue84
  t46 := Tryz.underlying144
  a46 := Tryz.isAgg144
  z46 := Tryz.sizeOf144
  v46 := Tryz.zeroValue144
  t51 := Tryz.underlying138
  a51 := Tryz.isAgg138
  z51 := Tryz.sizeOf138
  v51 := Tryz.zeroValue138 }
open Go.RowKit in
/-- unicode/utf8.appendRuneNonASCII (what AppendRune calls for all but ASCII), ONTO A ROW OF BYTES THAT THE CALL OWNS: every int32 that is no ASCII rune: 'Lib.runeCells r' goes in behind what the row holds. (LAID: no walk: one application.) -/
theorem Tryz.utf8_appendRuneNonASCII_row (B : Nat) (v : Value) (n : Nat) (xs : List Value) (r : Int) (hr0 : -2147483648 ≤ r) (hr1 : r ≤ 2147483647) (hna : r < 0 ∨ 128 ≤ r) (w : World) (hown : w.ownsRowF B 5 1 v n xs) (hlen : n + 4 ≤ 140737488355328) (hBw : B ≤ w.heap.size) :
    Calls Tryz.prog 107 #[v, .int .i32 r] w fun e w' => ∃ v', e = .returned v' ∧ w'.ownsRowF B 5 1 v' (n + (Lib.runeCells r).length) (xs ++ Lib.runeCells r) ∧ ∃ o, (w.alloc o).grownBy w' v.ownBlock := Any.utf8_appendRuneNonASCII_row Tryz.lays278 (by kernel_rfl) B v n xs r hr0 hr1 hna w hown hlen hBw
def Tryz.lays242_ren : Go.Shelf.Ren := ⟨fun | 242 => 84 | 278 => 107 | n => n, fun | 37 => 84 | 21 => 21 | 51 => 138 | 4 => 4 | 5 => 5 | 46 => 144 | n => n, fun | n => n⟩
theorem Tryz.lays242 : Go.Proofs.Lays.n242 Tryz.prog Tryz.lays242_ren := {
  mixed := by kernel_rfl
  f242 := Tryz.func84.trans (congrArg some (by kernel_rfl))
  f278 := Tryz.func107.trans (congrArg some (by kernel_rfl))
  t4 := Tryz.underlying4
  a4 := Tryz.isAgg4
  z4 := Tryz.sizeOf4
  v4 := Tryz.zeroValue4
  t5 := Tryz.underlying5
  a5 := Tryz.isAgg5
  z5 := Tryz.sizeOf5
  v5 := Tryz.zeroValue5
  t21 := Tryz.underlying21
  a21 := Tryz.isAgg21
  z21 := Tryz.sizeOf21
  v21 := Tryz.zeroValue21
  t37 := Tryz.underlying84
  a37 := Tryz.isAgg84
  z37 := Tryz.sizeOf84
  v37 := Tryz.zeroValue84
  t46 := Tryz.underlying144
  a46 := Tryz.isAgg144
  z46 := Tryz.sizeOf144
  v46 := Tryz.zeroValue144
  t51 := Tryz.underlying138
  a51 := Tryz.isAgg138
  z51 := Tryz.sizeOf138
  v51 := Tryz.zeroValue138 }
open Go.RowKit in
/-- unicode/utf8.AppendRune: "AppendRune appends the UTF-8 encoding of r to the end of p and returns the extended buffer. If the rune is out of range, it appends the encoding of RuneError.": ONTO A ROW OF BYTES THAT THE CALL OWNS (its head frozen or not): EVERY int32: 'Lib.runeCells r' goes in behind what the row holds; the world: one new block (the bytes as the call's variadic argument), then what 'append' does to the row. (LAID: no walk: one application.) -/
theorem Tryz.utf8_AppendRune_row (B : Nat) (v : Value) (n : Nat) (xs : List Value) (r : Int) (hr0 : -2147483648 ≤ r) (hr1 : r ≤ 2147483647) (w : World) (hown : w.ownsRowF B 5 1 v n xs) (hlen : n + 4 ≤ 140737488355328) (hBw : B ≤ w.heap.size) :
    Calls Tryz.prog 84 #[v, .int .i32 r] w fun e w' => ∃ v', e = .returned v' ∧ w'.ownsRowF B 5 1 v' (n + (Lib.runeCells r).length) (xs ++ Lib.runeCells r) ∧ ∃ o, (w.alloc o).grownBy w' v.ownBlock := Any.utf8_AppendRune_row Tryz.lays242 (by kernel_rfl) B v n xs r hr0 hr1 w hown hlen hBw
open Go.RowKit in
/-- unicode/utf8.appendRuneNonASCII (what AppendRune calls for all but ASCII), ONTO A ROW OF BYTES THAT THE CALL OWNS: every int32 that is no ASCII rune: 'Lib.runeCells r' goes in behind what the row holds. (LAID: no walk: one application.) -/
theorem Tryz.utf8_appendRuneNonASCII_plain (B : Nat) (v : Value) (n : Nat) (xs : List Value) (r : Int) (hr0 : -2147483648 ≤ r) (hr1 : r ≤ 2147483647) (hna : r < 0 ∨ 128 ≤ r) (w : World) (hown : w.ownsRow B 5 1 v n xs) (hlen : n + 4 ≤ 140737488355328) (hBw : B ≤ w.heap.size) :
    Calls Tryz.prog 107 #[v, .int .i32 r] w fun e w' => ∃ v', e = .returned v' ∧ w'.ownsRow B 5 1 v' (n + (Lib.runeCells r).length) (xs ++ Lib.runeCells r) ∧ ∃ o, (w.alloc o).grownBy w' v.ownBlock := Any.utf8_appendRuneNonASCII_plain Tryz.lays278 (by kernel_rfl) B v n xs r hr0 hr1 hna w hown hlen hBw
open Go.RowKit in
/-- unicode/utf8.AppendRune: "AppendRune appends the UTF-8 encoding of r to the end of p and returns the extended buffer. If the rune is out of range, it appends the encoding of RuneError.": ONTO A ROW OF BYTES THAT THE CALL OWNS (its head frozen or not): EVERY int32: 'Lib.runeCells r' goes in behind what the row holds; the world: one new block (the bytes as the call's variadic argument), then what 'append' does to the row. (LAID: no walk: one application.) -/
theorem Tryz.utf8_AppendRune_plain (B : Nat) (v : Value) (n : Nat) (xs : List Value) (r : Int) (hr0 : -2147483648 ≤ r) (hr1 : r ≤ 2147483647) (w : World) (hown : w.ownsRow B 5 1 v n xs) (hlen : n + 4 ≤ 140737488355328) (hBw : B ≤ w.heap.size) :
    Calls Tryz.prog 84 #[v, .int .i32 r] w fun e w' => ∃ v', e = .returned v' ∧ w'.ownsRow B 5 1 v' (n + (Lib.runeCells r).length) (xs ++ Lib.runeCells r) ∧ ∃ o, (w.alloc o).grownBy w' v.ownBlock := Any.utf8_AppendRune_plain Tryz.lays242 (by kernel_rfl) B v n xs r hr0 hr1 w hown hlen hBw
def Tryz.lays195_ren : Go.Shelf.Ren := ⟨fun | 195 => 96 | n => n, fun | 9 => 9 | 3 => 3 | 0 => 0 | 4 => 4 | n => n, fun | n => n⟩
theorem Tryz.lays195 : Go.Proofs.Lays.n195 Tryz.prog Tryz.lays195_ren := {
  mixed := by kernel_rfl
  f195 := Tryz.func96.trans (congrArg some (by kernel_rfl))
  t0 := Tryz.underlying0
  a0 := Tryz.isAgg0
  z0 := Tryz.sizeOf0
  v0 := Tryz.zeroValue0
  t3 := Tryz.underlying3
  a3 := Tryz.isAgg3
  z3 := Tryz.sizeOf3
  v3 := Tryz.zeroValue3
  t4 := Tryz.underlying4
  a4 := Tryz.isAgg4
  z4 := Tryz.sizeOf4
  v4 := Tryz.zeroValue4
  t9 := Tryz.underlying9
  a9 := Tryz.isAgg9
  z9 := Tryz.sizeOf9
  v9 := Tryz.zeroValue9 }
open Go.RowKit in
/-- unicode/utf8.RuneCountInString: "RuneCountInString is like RuneCount but its input is a string." ("RuneCount returns the number of runes in p. Erroneous and short encodings are treated as single runes of width 1 byte."): EVERY STRING, valid UTF-8 or not: 'Lib.runeCount s' (plain Lean over the model's own 'Utf8.decode'; 'Lib.runeCount_le': at most len(s); 'Lib.runeCount_ascii': on ASCII: len(s)). THE ONE CONDITION: len(s) below 2^63 - 1 (the counter does not wrap): the form's reach pays it. THE WORLD BEHIND THE CALL: ONE BLOCK MORE: the model's iterator over s, at its end: all else as it was. (LAID: no walk: one application.) -/
theorem Tryz.utf8_RuneCountInString (s : ByteArray) (w : World) (hs : s.size < 9223372036854775807) :
    Calls Tryz.prog 96 #[.string s] w fun e w' => e = .returned (.int .i64 (Lib.runeCount s)) ∧ ∃ pos, w' = w.iter s pos := Any.utf8_RuneCountInString Tryz.lays195 s w hs
open Go.RowKit in
/-- (*strings.Builder).grow (no doc but "grow copies the buffer to a new, larger buffer so that there are at least n bytes of capacity beyond len(b.buf)."): AT A BUILDER WITHOUT A BUFFER: a new row of whatever bytes for its buffer, none of them its own yet. Three draws. (LAID: no walk: one application.) -/
theorem Tryz.Builder_grow_fresh_cap (B b n : Nat) (w : World) (hB : B ≤ b) (hbk : w.heap[b]? = some (.cells #[.pointer (some ⟨b, 0, none⟩), .slice none 0 0] 106 (0, 0))) (hBw : B ≤ w.heap.size) (hn : n ≤ 281474976710656) :
    Calls Tryz.prog 98 #[.pointer (some ⟨b, 0, none⟩), .int .i64 n] w fun e w' => e = .returned (.tuple #[]) ∧ (Lib.BuilderAt 106 5 B b (.pointer (some ⟨b, 0, none⟩)) [] w' ∧ Below B w w') ∧ ∃ p cap, w'.cell? ⟨b, 1, none⟩ = some (.slice p 0 cap) ∧ n ≤ cap := Any.Builder_grow_fresh_cap Tryz.lays241 Tryz.Builder_Extra_241 B b n w hB hbk hBw hn
open Go.RowKit in
/-- (*strings.Builder).Grow AT A BUILDER THAT HAS NOT BEEN WRITTEN ('var b strings.Builder; b.Grow(n)'): "Grow grows b's capacity, if necessary, to guarantee space for another n bytes.": it holds no byte behind it as before it. (LAID: no walk: one application.) -/
theorem Tryz.Builder_Grow_fresh_cap (B b n : Nat) (w : World) (hB : B ≤ b) (hbk : w.heap[b]? = some (.cells #[.pointer none, .slice none 0 0] 106 (0, 0))) (hBw : B ≤ w.heap.size) (hn : n ≤ 281474976710656) :
    Calls Tryz.prog 74 #[.pointer (some ⟨b, 0, none⟩), .int .i64 n] w fun e w' => e = .returned (.tuple #[]) ∧ (Lib.BuilderAt 106 5 B b (.pointer (some ⟨b, 0, none⟩)) [] w' ∧ Below B w w') ∧ ∃ p cap, w'.cell? ⟨b, 1, none⟩ = some (.slice p 0 cap) ∧ n ≤ cap := Any.Builder_Grow_fresh_cap Tryz.lays165 Tryz.Builder_Extra_165 B b n w hB hbk hBw hn
def Tryz.lays129_ren : Go.Shelf.Ren := ⟨fun | 129 => 160 | n => n, fun | 53 => 154 | 3 => 3 | 4 => 4 | 46 => 144 | 5 => 5 | 9 => 9 | n => n, fun | n => n⟩
theorem Tryz.lays129 : Go.Proofs.Lays.n129 Tryz.prog Tryz.lays129_ren := {
  mixed := by kernel_rfl
  f129 := Tryz.func160.trans (congrArg some (by kernel_rfl))
  t3 := Tryz.underlying3
  a3 := Tryz.isAgg3
  z3 := Tryz.sizeOf3
  v3 := Tryz.zeroValue3
  t4 := Tryz.underlying4
  a4 := Tryz.isAgg4
  z4 := Tryz.sizeOf4
  v4 := Tryz.zeroValue4
  t5 := Tryz.underlying5
  a5 := Tryz.isAgg5
  z5 := Tryz.sizeOf5
  v5 := Tryz.zeroValue5
  t9 := Tryz.underlying9
  a9 := Tryz.isAgg9
  z9 := Tryz.sizeOf9
  v9 := Tryz.zeroValue9
  t46 := Tryz.underlying144
  a46 := Tryz.isAgg144
  z46 := Tryz.sizeOf144
  v46 := Tryz.zeroValue144
  t53 := Tryz.underlying154
  a53 := Tryz.isAgg154
  z53 := Tryz.sizeOf154
  v53 := Tryz.zeroValue154 }
/-- bits.Len64: "Len64 returns the minimum number of bits required to represent x; the result is 0 for x == 0.": IT RETURNS 'Lib.bitLen x'; the world is as it was. ('h0', 'h1': x is a uint64.) (LAID: no walk: one application.) -/
theorem Tryz.bits_Len64 (x : Int) (w : World) (h0 : 0 ≤ x) (h1 : x ≤ 18446744073709551615) :
    Calls Tryz.prog 160 #[.int .u64 x] w fun e w' => e = .returned (.int .i64 (Lib.bitLen x.toNat)) ∧ w' = w := Any.bits_Len64 Tryz.lays129 x w h0 h1
def Tryz.lays317_ren : Go.Shelf.Ren := ⟨fun | 317 => 159 | n => n, fun | 3 => 3 | 46 => 144 | n => n, fun | n => n⟩
theorem Tryz.lays317 : Go.Proofs.Lays.n317 Tryz.prog Tryz.lays317_ren := {
  mixed := by kernel_rfl
  f317 := Tryz.func159.trans (congrArg some (by kernel_rfl))
  t3 := Tryz.underlying3
  a3 := Tryz.isAgg3
  z3 := Tryz.sizeOf3
  v3 := Tryz.zeroValue3
  t46 := Tryz.underlying144
  a46 := Tryz.isAgg144
  z46 := Tryz.sizeOf144
  v46 := Tryz.zeroValue144 }
open Go.Lib in
/-- internal/strconv.log10Pow2: "log10Pow2(x) returns ⌊log₁₀ 2**x⌋ = ⌊x * log₁₀ 2⌋.": '(x * 78913) >> 18', at an x up to 64 (a length in bits). The world is as it was. (LAID: no walk: one application.) -/
theorem Tryz.internal_strconv_log10Pow2 (x : Nat) (h : x ≤ 64) (w : World) :
    Calls Tryz.prog 159 #[.int .i64 x] w fun e w' => e = .returned (.int .i64 (Lib.l10 x)) ∧ w' = w := Any.internal_strconv_log10Pow2 Tryz.lays317 x h w
def Tryz.lays318_ren : Go.Shelf.Ren := ⟨fun | 318 => 161 | n => n, fun | 3 => 3 | 4 => 4 | n => n, fun | n => n⟩
theorem Tryz.lays318 : Go.Proofs.Lays.n318 Tryz.prog Tryz.lays318_ren := {
  mixed := by kernel_rfl
  f318 := Tryz.func161.trans (congrArg some (by kernel_rfl))
  t3 := Tryz.underlying3
  a3 := Tryz.isAgg3
  z3 := Tryz.sizeOf3
  v3 := Tryz.zeroValue3
  t4 := Tryz.underlying4
  a4 := Tryz.isAgg4
  z4 := Tryz.sizeOf4
  v4 := Tryz.zeroValue4 }
open Go.Lib in
/-- internal/strconv.bool2: "bool2 converts b to an integer: 1 for true, 0 for false." The world is as it was. (LAID: no walk: one application.) -/
theorem Tryz.internal_strconv_bool2_int (b : Bool) (w : World) :
    Calls Tryz.prog 161 #[.bool b] w fun e w' => e = .returned (.int .i64 (if b then 1 else 0)) ∧ w' = w := Any.internal_strconv_bool2_int Tryz.lays318 b w
def Tryz.lays283_ren : Go.Shelf.Ren := ⟨fun | 283 => 132 | n => n, fun | 3 => 3 | 9 => 9 | 4 => 4 | n => n, fun | n => n⟩
theorem Tryz.lays283 : Go.Proofs.Lays.n283 Tryz.prog Tryz.lays283_ren := {
  mixed := by kernel_rfl
  f283 := Tryz.func132.trans (congrArg some (by kernel_rfl))
  t3 := Tryz.underlying3
  a3 := Tryz.isAgg3
  z3 := Tryz.sizeOf3
  v3 := Tryz.zeroValue3
  t4 := Tryz.underlying4
  a4 := Tryz.isAgg4
  z4 := Tryz.sizeOf4
  v4 := Tryz.zeroValue4
  t9 := Tryz.underlying9
  a9 := Tryz.isAgg9
  z9 := Tryz.sizeOf9
  v9 := Tryz.zeroValue9 }
open Go.Lib in
/-- internal/strconv.small: "small returns the string for an i with 0 <= i < nSmalls.": i's decimal numeral. The world is as it was. (LAID: no walk: one application.) -/
theorem Tryz.internal_strconv_small (i : Nat) (h : i < 100) (w : World) :
    Calls Tryz.prog 132 #[.int .i64 i] w fun e w' => e = .returned (.string ⟨(Lib.decDigits i).toArray⟩) ∧ w' = w := Any.internal_strconv_small Tryz.lays283 i h w
def Tryz.laysM284_ren : Go.Shelf.Ren := ⟨fun | 284 => 133 | 129 => 160 | 317 => 159 | 318 => 161 | n => n, fun | 53 => 154 | 3 => 3 | 212 => 175 | 0 => 0 | 4 => 4 | 46 => 144 | 5 => 5 | 9 => 9 | n => n, fun | 17 => 1 | n => n⟩
theorem Tryz.laysM284 : Go.Proofs.LaysM.n284 Tryz.prog Tryz.laysM284_ren := {
  mixed := by kernel_rfl
  f129 := Tryz.func160.trans (congrArg some (by kernel_rfl))
  f284 := Tryz.func133.trans (congrArg some (by kernel_rfl))
  f317 := Tryz.func159.trans (congrArg some (by kernel_rfl))
  f318 := Tryz.func161.trans (congrArg some (by kernel_rfl))
  t0 := Tryz.underlying0
  a0 := Tryz.isAgg0
  z0 := Tryz.sizeOf0
  v0 := Tryz.zeroValue0
  t3 := Tryz.underlying3
  a3 := Tryz.isAgg3
  z3 := Tryz.sizeOf3
  v3 := Tryz.zeroValue3
  t4 := Tryz.underlying4
  a4 := Tryz.isAgg4
  z4 := Tryz.sizeOf4
  v4 := Tryz.zeroValue4
  t5 := Tryz.underlying5
  a5 := Tryz.isAgg5
  z5 := Tryz.sizeOf5
  v5 := Tryz.zeroValue5
  t9 := Tryz.underlying9
  a9 := Tryz.isAgg9
  z9 := Tryz.sizeOf9
  v9 := Tryz.zeroValue9
  t46 := Tryz.underlying144
  a46 := Tryz.isAgg144
  z46 := Tryz.sizeOf144
  v46 := Tryz.zeroValue144
  t53 := Tryz.underlying154
  a53 := Tryz.isAgg154
  z53 := Tryz.sizeOf154
  v53 := Tryz.zeroValue154
  t212 := Tryz.underlying175
  a212 := Tryz.isAgg175
  z212 := Tryz.sizeOf175
  v212 := Tryz.zeroValue175
  g17 := by kernel_rfl
  i0 := by kernel_rfl
  i3 := by kernel_rfl
  i4 := by kernel_rfl
  i5 := by kernel_rfl
  i9 := by kernel_rfl
  i46 := by kernel_rfl
  i53 := by kernel_rfl
  i212 := by kernel_rfl
  m17 := by kernel_rfl }
open Go.Lib in
/-- internal/strconv.numDigits, at a d that is not 0: THE NUMBER OF d's DECIMAL DIGITS. The world is as it was. (LAID: no walk: one application.) -/
theorem Tryz.internal_strconv_numDigits (u : Nat) (h1 : 1 ≤ u) (h2 : u < 18446744073709551616) (w : World) (htab : Lib.TabIs Tryz.prog w "internal/strconv.uint64pow10" .u64 Lib.pow10Tab) :
    Calls Tryz.prog 133 #[.int .u64 u] w fun e w' => e = .returned (.int .i64 (Lib.nDigits u)) ∧ w' = w := Any.internal_strconv_numDigits Tryz.laysM284 u h1 h2 w htab
def Tryz.lays285_ren : Go.Shelf.Ren := ⟨fun | 285 => 134 | n => n, fun | 37 => 84 | 53 => 154 | 3 => 3 | 4 => 4 | 51 => 138 | 9 => 9 | 5 => 5 | 0 => 0 | n => n, fun | n => n⟩
theorem Tryz.lays285 : Go.Proofs.Lays.n285 Tryz.prog Tryz.lays285_ren := {
  mixed := by kernel_rfl
  f285 := Tryz.func134.trans (congrArg some (by kernel_rfl))
  t0 := Tryz.underlying0
  a0 := Tryz.isAgg0
  z0 := Tryz.sizeOf0
  v0 := Tryz.zeroValue0
  t3 := Tryz.underlying3
  a3 := Tryz.isAgg3
  z3 := Tryz.sizeOf3
  v3 := Tryz.zeroValue3
  t4 := Tryz.underlying4
  a4 := Tryz.isAgg4
  z4 := Tryz.sizeOf4
  v4 := Tryz.zeroValue4
  t5 := Tryz.underlying5
  a5 := Tryz.isAgg5
  z5 := Tryz.sizeOf5
  v5 := Tryz.zeroValue5
  t9 := Tryz.underlying9
  a9 := Tryz.isAgg9
  z9 := Tryz.sizeOf9
  v9 := Tryz.zeroValue9
  t37 := Tryz.underlying84
  a37 := Tryz.isAgg84
  z37 := Tryz.sizeOf84
  v37 := Tryz.zeroValue84
  t51 := Tryz.underlying138
  a51 := Tryz.isAgg138
  z51 := Tryz.sizeOf138
  v51 := Tryz.zeroValue138
  t53 := Tryz.underlying154
  a53 := Tryz.isAgg154
  z53 := Tryz.sizeOf154
  v53 := Tryz.zeroValue154 }
open Go.RowKit Go.Sort Go.Lib in
/-- internal/strconv.formatBase10: "formatBase10 formats the decimal representation of u into a. The caller is responsible for ensuring that a is big enough to hold u. If a is too big, leading zeros will be filled in as needed.": THE ROW HOLDS u's DIGITS ('FmtInv .. 0 ..': every place t holds 'dg u (len - 1 - t)'); all else is as it was but for the count of draws. (LAID: no walk: one application.) -/
theorem Tryz.internal_strconv_formatBase10 (blk off cap : Nat) (u : Nat) (d : Array UInt8) (w : World) (hH : Holds (fun (b : UInt8) => Value.int .u8 (b.toNat : Int)) w blk off d) (hu : u < 10 ^ d.size) (hu64 : u < 18446744073709551616) (hsz : d.size < 4611686018427387904) :
    Calls Tryz.prog 134 #[.slice (some ⟨blk, off, none⟩) d.size cap, .int .u64 u] w fun e w' =>
      e = .returned (.tuple #[]) ∧ ∃ (n v' : Nat) (dk : Array UInt8), w' = (putRow (fun (b : UInt8) => Value.int .u8 (b.toNat : Int)) w blk off dk).drewN n ∧ FmtInv d.size u 0 v' dk := Any.internal_strconv_formatBase10 Tryz.lays285 blk off cap u d w hH hu hu64 hsz
def Tryz.laysM246_ren : Go.Shelf.Ren := ⟨fun | 246 => 106 | 283 => 132 | 284 => 133 | 285 => 134 | 286 => 135 | 129 => 160 | 317 => 159 | 318 => 161 | 319 => 162 | 320 => 163 | 337 => 187 | 338 => 188 | n => n, fun | 2 => 2 | 3 => 3 | 9 => 9 | 4 => 4 | 171 => 153 | 0 => 0 | 53 => 154 | 37 => 84 | 5 => 5 | 173 => 157 | 212 => 175 | 51 => 138 | 20 => 20 | 213 => 176 | 46 => 144 | 232 => 213 | 233 => 193 | n => n, fun | 17 => 1 | 18 => 8 | 19 => 9 | n => n⟩
theorem Tryz.laysM246 : Go.Proofs.LaysM.n246 Tryz.prog Tryz.laysM246_ren := {
  mixed := by kernel_rfl
  f129 := Tryz.func160.trans (congrArg some (by kernel_rfl))
  f246 := Tryz.func106.trans (congrArg some (by kernel_rfl))
  f283 := Tryz.func132.trans (congrArg some (by kernel_rfl))
  f284 := Tryz.func133.trans (congrArg some (by kernel_rfl))
  f285 := Tryz.func134.trans (congrArg some (by kernel_rfl))
  f286 := Tryz.func135.trans (congrArg some (by kernel_rfl))
  f317 := Tryz.func159.trans (congrArg some (by kernel_rfl))
  f318 := Tryz.func161.trans (congrArg some (by kernel_rfl))
  f319 := Tryz.func162.trans (congrArg some (by kernel_rfl))
  f320 := Tryz.func163.trans (congrArg some (by kernel_rfl))
  f337 := Tryz.func187.trans (congrArg some (by kernel_rfl))
  f338 := Tryz.func188.trans (congrArg some (by kernel_rfl))
  t0 := Tryz.underlying0
  a0 := Tryz.isAgg0
  z0 := Tryz.sizeOf0
  v0 := Tryz.zeroValue0
  t2 := Tryz.underlying2
  a2 := Tryz.isAgg2
  z2 := Tryz.sizeOf2
  v2 := Tryz.zeroValue2
  t3 := Tryz.underlying3
  a3 := Tryz.isAgg3
  z3 := Tryz.sizeOf3
  v3 := Tryz.zeroValue3
  t4 := Tryz.underlying4
  a4 := Tryz.isAgg4
  z4 := Tryz.sizeOf4
  v4 := Tryz.zeroValue4
  t5 := Tryz.underlying5
  a5 := Tryz.isAgg5
  z5 := Tryz.sizeOf5
  v5 := Tryz.zeroValue5
  t9 := Tryz.underlying9
  a9 := Tryz.isAgg9
  z9 := Tryz.sizeOf9
  v9 := Tryz.zeroValue9
  t20 := Tryz.underlying20
  a20 := Tryz.isAgg20
  z20 := Tryz.sizeOf20
  v20 := Tryz.zeroValue20
  t37 := Tryz.underlying84
  a37 := Tryz.isAgg84
  z37 := Tryz.sizeOf84
  v37 := Tryz.zeroValue84
  t46 := Tryz.underlying144
  a46 := Tryz.isAgg144
  z46 := Tryz.sizeOf144
  v46 := Tryz.zeroValue144
  t51 := Tryz.underlying138
  a51 := Tryz.isAgg138
  z51 := Tryz.sizeOf138
  v51 := Tryz.zeroValue138
  t53 := Tryz.underlying154
  a53 := Tryz.isAgg154
  z53 := Tryz.sizeOf154
  v53 := Tryz.zeroValue154
  t171 := Tryz.underlying153
  a171 := Tryz.isAgg153
  z171 := Tryz.sizeOf153
  v171 := Tryz.zeroValue153
  t173 := Tryz.underlying157
  a173 := Tryz.isAgg157
  z173 := Tryz.sizeOf157
  v173 := Tryz.zeroValue157
  t212 := Tryz.underlying175
  a212 := Tryz.isAgg175
  z212 := Tryz.sizeOf175
  v212 := Tryz.zeroValue175
  t213 := Tryz.underlying176
  a213 := Tryz.isAgg176
  z213 := Tryz.sizeOf176
  t232 := Tryz.underlying213
  a232 := Tryz.isAgg213
  z232 := Tryz.sizeOf213
  v232 := Tryz.zeroValue213
  t233 := Tryz.underlying193
  a233 := Tryz.isAgg193
  z233 := Tryz.sizeOf193
  v233 := Tryz.zeroValue193
  g17 := by kernel_rfl
  g18 := by kernel_rfl
  g19 := by kernel_rfl
  i0 := by kernel_rfl
  i2 := by kernel_rfl
  i3 := by kernel_rfl
  i4 := by kernel_rfl
  i5 := by kernel_rfl
  i9 := by kernel_rfl
  i20 := by kernel_rfl
  i37 := by kernel_rfl
  i46 := by kernel_rfl
  i51 := by kernel_rfl
  i53 := by kernel_rfl
  i171 := by kernel_rfl
  i173 := by kernel_rfl
  i212 := by kernel_rfl
  i232 := by kernel_rfl
  i233 := by kernel_rfl
  m17 := by kernel_rfl
  m18 := by kernel_rfl
  m19 := by kernel_rfl }
open Go.RowKit Go.Sort Go.Lib in
/-- internal/strconv.FormatInt: "FormatInt returns the string representation of i in the given base": AT BASE 10: i's decimal numeral, for every int64. The world behind the call: the world before it, new blocks behind the heap, draws. (LAID: no walk: one application.) -/
theorem Tryz.internal_strconv_FormatInt_10 (n : Int) (h0 : -9223372036854775808 ≤ n) (h1 : n ≤ 9223372036854775807) (w : World) (htab : Lib.TabIs Tryz.prog w "internal/strconv.uint64pow10" .u64 Lib.pow10Tab) :
    Calls Tryz.prog 106 #[.int .i64 n, .int .i64 10] w fun e w' => e = .returned (.string ⟨(Lib.itoa n).toArray⟩) ∧ ∃ k os, w' = grow (w.drewN k) os := Any.internal_strconv_FormatInt_10 Tryz.laysM246 n h0 h1 w htab
def Tryz.lays246_ren : Go.Shelf.Ren := ⟨fun | 246 => 106 | 283 => 132 | 284 => 133 | 285 => 134 | 286 => 135 | 129 => 160 | 317 => 159 | 318 => 161 | 319 => 162 | 320 => 163 | 337 => 187 | 338 => 188 | n => n, fun | 2 => 2 | 3 => 3 | 9 => 9 | 4 => 4 | 171 => 153 | 0 => 0 | 53 => 154 | 37 => 84 | 5 => 5 | 173 => 157 | 212 => 175 | 51 => 138 | 20 => 20 | 213 => 176 | 46 => 144 | 232 => 213 | 233 => 193 | n => n, fun | 17 => 1 | 18 => 8 | 19 => 9 | n => n⟩
theorem Tryz.lays246 : Go.Proofs.Lays.n246 Tryz.prog Tryz.lays246_ren := {
  mixed := by kernel_rfl
  f129 := Tryz.func160.trans (congrArg some (by kernel_rfl))
  f246 := Tryz.func106.trans (congrArg some (by kernel_rfl))
  f283 := Tryz.func132.trans (congrArg some (by kernel_rfl))
  f284 := Tryz.func133.trans (congrArg some (by kernel_rfl))
  f285 := Tryz.func134.trans (congrArg some (by kernel_rfl))
  f286 := Tryz.func135.trans (congrArg some (by kernel_rfl))
  f317 := Tryz.func159.trans (congrArg some (by kernel_rfl))
  f318 := Tryz.func161.trans (congrArg some (by kernel_rfl))
  f319 := Tryz.func162.trans (congrArg some (by kernel_rfl))
  f320 := Tryz.func163.trans (congrArg some (by kernel_rfl))
  f337 := Tryz.func187.trans (congrArg some (by kernel_rfl))
  f338 := Tryz.func188.trans (congrArg some (by kernel_rfl))
  t0 := Tryz.underlying0
  a0 := Tryz.isAgg0
  z0 := Tryz.sizeOf0
  v0 := Tryz.zeroValue0
  t2 := Tryz.underlying2
  a2 := Tryz.isAgg2
  z2 := Tryz.sizeOf2
  v2 := Tryz.zeroValue2
  t3 := Tryz.underlying3
  a3 := Tryz.isAgg3
  z3 := Tryz.sizeOf3
  v3 := Tryz.zeroValue3
  t4 := Tryz.underlying4
  a4 := Tryz.isAgg4
  z4 := Tryz.sizeOf4
  v4 := Tryz.zeroValue4
  t5 := Tryz.underlying5
  a5 := Tryz.isAgg5
  z5 := Tryz.sizeOf5
  v5 := Tryz.zeroValue5
  t9 := Tryz.underlying9
  a9 := Tryz.isAgg9
  z9 := Tryz.sizeOf9
  v9 := Tryz.zeroValue9
  t20 := Tryz.underlying20
  a20 := Tryz.isAgg20
  z20 := Tryz.sizeOf20
  v20 := Tryz.zeroValue20
  t37 := Tryz.underlying84
  a37 := Tryz.isAgg84
  z37 := Tryz.sizeOf84
  v37 := Tryz.zeroValue84
  t46 := Tryz.underlying144
  a46 := Tryz.isAgg144
  z46 := Tryz.sizeOf144
  v46 := Tryz.zeroValue144
  t51 := Tryz.underlying138
  a51 := Tryz.isAgg138
  z51 := Tryz.sizeOf138
  v51 := Tryz.zeroValue138
  t53 := Tryz.underlying154
  a53 := Tryz.isAgg154
  z53 := Tryz.sizeOf154
  v53 := Tryz.zeroValue154
  t171 := Tryz.underlying153
  a171 := Tryz.isAgg153
  z171 := Tryz.sizeOf153
  v171 := Tryz.zeroValue153
  t173 := Tryz.underlying157
  a173 := Tryz.isAgg157
  z173 := Tryz.sizeOf157
  v173 := Tryz.zeroValue157
  t212 := Tryz.underlying175
  a212 := Tryz.isAgg175
  z212 := Tryz.sizeOf175
  v212 := Tryz.zeroValue175
  t213 := Tryz.underlying176
  a213 := Tryz.isAgg176
  z213 := Tryz.sizeOf176
  t232 := Tryz.underlying213
  a232 := Tryz.isAgg213
  z232 := Tryz.sizeOf213
  v232 := Tryz.zeroValue213
  t233 := Tryz.underlying193
  a233 := Tryz.isAgg193
  z233 := Tryz.sizeOf193
  v233 := Tryz.zeroValue193
  g17 := by kernel_rfl
  g18 := by kernel_rfl
  g19 := by kernel_rfl }
open Go.RowKit Go.Sort Go.Lib in
/-- THE ROAD WITHOUT THE TABLE: 0 <= i < 100: two constants are read, nothing is laid: no premise on the world, and the world is as it was. (LAID: no walk: one application.) -/
theorem Tryz.internal_strconv_FormatInt_10_small (i : Nat) (hi : i < 100) (w : World) :
    Calls Tryz.prog 106 #[.int .i64 i, .int .i64 10] w fun e w' => e = .returned (.string ⟨(Lib.decDigits i).toArray⟩) ∧ w' = w := Any.internal_strconv_FormatInt_10_small Tryz.lays246 i hi w
def Tryz.laysM243_ren : Go.Shelf.Ren := ⟨fun | 243 => 83 | 246 => 106 | 283 => 132 | 284 => 133 | 285 => 134 | 286 => 135 | 129 => 160 | 317 => 159 | 318 => 161 | 319 => 162 | 320 => 163 | 337 => 187 | 338 => 188 | n => n, fun | 3 => 3 | 9 => 9 | 2 => 2 | 4 => 4 | 171 => 153 | 0 => 0 | 53 => 154 | 37 => 84 | 5 => 5 | 173 => 157 | 212 => 175 | 51 => 138 | 20 => 20 | 213 => 176 | 46 => 144 | 232 => 213 | 233 => 193 | n => n, fun | 17 => 1 | 18 => 8 | 19 => 9 | n => n⟩
theorem Tryz.laysM243 : Go.Proofs.LaysM.n243 Tryz.prog Tryz.laysM243_ren := {
  mixed := by kernel_rfl
  f129 := Tryz.func160.trans (congrArg some (by kernel_rfl))
  f243 := Tryz.func83.trans (congrArg some (by kernel_rfl))
  f246 := Tryz.func106.trans (congrArg some (by kernel_rfl))
  f283 := Tryz.func132.trans (congrArg some (by kernel_rfl))
  f284 := Tryz.func133.trans (congrArg some (by kernel_rfl))
  f285 := Tryz.func134.trans (congrArg some (by kernel_rfl))
  f286 := Tryz.func135.trans (congrArg some (by kernel_rfl))
  f317 := Tryz.func159.trans (congrArg some (by kernel_rfl))
  f318 := Tryz.func161.trans (congrArg some (by kernel_rfl))
  f319 := Tryz.func162.trans (congrArg some (by kernel_rfl))
  f320 := Tryz.func163.trans (congrArg some (by kernel_rfl))
  f337 := Tryz.func187.trans (congrArg some (by kernel_rfl))
  f338 := Tryz.func188.trans (congrArg some (by kernel_rfl))
  t0 := Tryz.underlying0
  a0 := Tryz.isAgg0
  z0 := Tryz.sizeOf0
  v0 := Tryz.zeroValue0
  t2 := Tryz.underlying2
  a2 := Tryz.isAgg2
  z2 := Tryz.sizeOf2
  v2 := Tryz.zeroValue2
  t3 := Tryz.underlying3
  a3 := Tryz.isAgg3
  z3 := Tryz.sizeOf3
  v3 := Tryz.zeroValue3
  t4 := Tryz.underlying4
  a4 := Tryz.isAgg4
  z4 := Tryz.sizeOf4
  v4 := Tryz.zeroValue4
  t5 := Tryz.underlying5
  a5 := Tryz.isAgg5
  z5 := Tryz.sizeOf5
  v5 := Tryz.zeroValue5
  t9 := Tryz.underlying9
  a9 := Tryz.isAgg9
  z9 := Tryz.sizeOf9
  v9 := Tryz.zeroValue9
  t20 := Tryz.underlying20
  a20 := Tryz.isAgg20
  z20 := Tryz.sizeOf20
  v20 := Tryz.zeroValue20
  t37 := Tryz.underlying84
  a37 := Tryz.isAgg84
  z37 := Tryz.sizeOf84
  v37 := Tryz.zeroValue84
  t46 := Tryz.underlying144
  a46 := Tryz.isAgg144
  z46 := Tryz.sizeOf144
  v46 := Tryz.zeroValue144
  t51 := Tryz.underlying138
  a51 := Tryz.isAgg138
  z51 := Tryz.sizeOf138
  v51 := Tryz.zeroValue138
  t53 := Tryz.underlying154
  a53 := Tryz.isAgg154
  z53 := Tryz.sizeOf154
  v53 := Tryz.zeroValue154
  t171 := Tryz.underlying153
  a171 := Tryz.isAgg153
  z171 := Tryz.sizeOf153
  v171 := Tryz.zeroValue153
  t173 := Tryz.underlying157
  a173 := Tryz.isAgg157
  z173 := Tryz.sizeOf157
  v173 := Tryz.zeroValue157
  t212 := Tryz.underlying175
  a212 := Tryz.isAgg175
  z212 := Tryz.sizeOf175
  v212 := Tryz.zeroValue175
  t213 := Tryz.underlying176
  a213 := Tryz.isAgg176
  z213 := Tryz.sizeOf176
  t232 := Tryz.underlying213
  a232 := Tryz.isAgg213
  z232 := Tryz.sizeOf213
  v232 := Tryz.zeroValue213
  t233 := Tryz.underlying193
  a233 := Tryz.isAgg193
  z233 := Tryz.sizeOf193
  v233 := Tryz.zeroValue193
  g17 := by kernel_rfl
  g18 := by kernel_rfl
  g19 := by kernel_rfl
  i0 := by kernel_rfl
  i2 := by kernel_rfl
  i3 := by kernel_rfl
  i4 := by kernel_rfl
  i5 := by kernel_rfl
  i9 := by kernel_rfl
  i20 := by kernel_rfl
  i37 := by kernel_rfl
  i46 := by kernel_rfl
  i51 := by kernel_rfl
  i53 := by kernel_rfl
  i171 := by kernel_rfl
  i173 := by kernel_rfl
  i212 := by kernel_rfl
  i232 := by kernel_rfl
  i233 := by kernel_rfl
  m17 := by kernel_rfl
  m18 := by kernel_rfl
  m19 := by kernel_rfl }
open Go.RowKit Go.Sort Go.Lib in
/-- internal/strconv.Itoa: "Itoa is equivalent to FormatInt(int64(i), 10).": i's decimal numeral, for every int. (LAID: no walk: one application.) -/
theorem Tryz.internal_strconv_Itoa (n : Int) (h0 : -9223372036854775808 ≤ n) (h1 : n ≤ 9223372036854775807) (w : World) (htab : Lib.TabIs Tryz.prog w "internal/strconv.uint64pow10" .u64 Lib.pow10Tab) :
    Calls Tryz.prog 83 #[.int .i64 n] w fun e w' => e = .returned (.string ⟨(Lib.itoa n).toArray⟩) ∧ ∃ k os, w' = grow (w.drewN k) os := Any.internal_strconv_Itoa Tryz.laysM243 n h0 h1 w htab
def Tryz.lays243_ren : Go.Shelf.Ren := ⟨fun | 243 => 83 | 246 => 106 | 283 => 132 | 284 => 133 | 285 => 134 | 286 => 135 | 129 => 160 | 317 => 159 | 318 => 161 | 319 => 162 | 320 => 163 | 337 => 187 | 338 => 188 | n => n, fun | 3 => 3 | 9 => 9 | 2 => 2 | 4 => 4 | 171 => 153 | 0 => 0 | 53 => 154 | 37 => 84 | 5 => 5 | 173 => 157 | 212 => 175 | 51 => 138 | 20 => 20 | 213 => 176 | 46 => 144 | 232 => 213 | 233 => 193 | n => n, fun | 17 => 1 | 18 => 8 | 19 => 9 | n => n⟩
theorem Tryz.lays243 : Go.Proofs.Lays.n243 Tryz.prog Tryz.lays243_ren := {
  mixed := by kernel_rfl
  f129 := Tryz.func160.trans (congrArg some (by kernel_rfl))
  f243 := Tryz.func83.trans (congrArg some (by kernel_rfl))
  f246 := Tryz.func106.trans (congrArg some (by kernel_rfl))
  f283 := Tryz.func132.trans (congrArg some (by kernel_rfl))
  f284 := Tryz.func133.trans (congrArg some (by kernel_rfl))
  f285 := Tryz.func134.trans (congrArg some (by kernel_rfl))
  f286 := Tryz.func135.trans (congrArg some (by kernel_rfl))
  f317 := Tryz.func159.trans (congrArg some (by kernel_rfl))
  f318 := Tryz.func161.trans (congrArg some (by kernel_rfl))
  f319 := Tryz.func162.trans (congrArg some (by kernel_rfl))
  f320 := Tryz.func163.trans (congrArg some (by kernel_rfl))
  f337 := Tryz.func187.trans (congrArg some (by kernel_rfl))
  f338 := Tryz.func188.trans (congrArg some (by kernel_rfl))
  t0 := Tryz.underlying0
  a0 := Tryz.isAgg0
  z0 := Tryz.sizeOf0
  v0 := Tryz.zeroValue0
  t2 := Tryz.underlying2
  a2 := Tryz.isAgg2
  z2 := Tryz.sizeOf2
  v2 := Tryz.zeroValue2
  t3 := Tryz.underlying3
  a3 := Tryz.isAgg3
  z3 := Tryz.sizeOf3
  v3 := Tryz.zeroValue3
  t4 := Tryz.underlying4
  a4 := Tryz.isAgg4
  z4 := Tryz.sizeOf4
  v4 := Tryz.zeroValue4
  t5 := Tryz.underlying5
  a5 := Tryz.isAgg5
  z5 := Tryz.sizeOf5
  v5 := Tryz.zeroValue5
  t9 := Tryz.underlying9
  a9 := Tryz.isAgg9
  z9 := Tryz.sizeOf9
  v9 := Tryz.zeroValue9
  t20 := Tryz.underlying20
  a20 := Tryz.isAgg20
  z20 := Tryz.sizeOf20
  v20 := Tryz.zeroValue20
  t37 := Tryz.underlying84
  a37 := Tryz.isAgg84
  z37 := Tryz.sizeOf84
  v37 := Tryz.zeroValue84
  t46 := Tryz.underlying144
  a46 := Tryz.isAgg144
  z46 := Tryz.sizeOf144
  v46 := Tryz.zeroValue144
  t51 := Tryz.underlying138
  a51 := Tryz.isAgg138
  z51 := Tryz.sizeOf138
  v51 := Tryz.zeroValue138
  t53 := Tryz.underlying154
  a53 := Tryz.isAgg154
  z53 := Tryz.sizeOf154
  v53 := Tryz.zeroValue154
  t171 := Tryz.underlying153
  a171 := Tryz.isAgg153
  z171 := Tryz.sizeOf153
  v171 := Tryz.zeroValue153
  t173 := Tryz.underlying157
  a173 := Tryz.isAgg157
  z173 := Tryz.sizeOf157
  v173 := Tryz.zeroValue157
  t212 := Tryz.underlying175
  a212 := Tryz.isAgg175
  z212 := Tryz.sizeOf175
  v212 := Tryz.zeroValue175
  t213 := Tryz.underlying176
  a213 := Tryz.isAgg176
  z213 := Tryz.sizeOf176
  t232 := Tryz.underlying213
  a232 := Tryz.isAgg213
  z232 := Tryz.sizeOf213
  v232 := Tryz.zeroValue213
  t233 := Tryz.underlying193
  a233 := Tryz.isAgg193
  z233 := Tryz.sizeOf193
  v233 := Tryz.zeroValue193
  g17 := by kernel_rfl
  g18 := by kernel_rfl
  g19 := by kernel_rfl }
open Go.RowKit Go.Sort Go.Lib in
/-- THE ROAD WITHOUT THE TABLE: 0 <= i < 100. (LAID: no walk: one application.) -/
theorem Tryz.internal_strconv_Itoa_small (i : Nat) (hi : i < 100) (w : World) :
    Calls Tryz.prog 83 #[.int .i64 i] w fun e w' => e = .returned (.string ⟨(Lib.decDigits i).toArray⟩) ∧ w' = w := Any.internal_strconv_Itoa_small Tryz.lays243 i hi w
def Tryz.laysM171_ren : Go.Shelf.Ren := ⟨fun | 171 => 49 | 243 => 83 | 246 => 106 | 283 => 132 | 284 => 133 | 285 => 134 | 286 => 135 | 129 => 160 | 317 => 159 | 318 => 161 | 319 => 162 | 320 => 163 | 337 => 187 | 338 => 188 | n => n, fun | 3 => 3 | 9 => 9 | 2 => 2 | 4 => 4 | 171 => 153 | 0 => 0 | 53 => 154 | 37 => 84 | 5 => 5 | 173 => 157 | 212 => 175 | 51 => 138 | 20 => 20 | 213 => 176 | 46 => 144 | 232 => 213 | 233 => 193 | n => n, fun | 17 => 1 | 18 => 8 | 19 => 9 | n => n⟩
theorem Tryz.laysM171 : Go.Proofs.LaysM.n171 Tryz.prog Tryz.laysM171_ren := {
  mixed := by kernel_rfl
  f129 := Tryz.func160.trans (congrArg some (by kernel_rfl))
  f171 := Tryz.func49.trans (congrArg some (by kernel_rfl))
  f243 := Tryz.func83.trans (congrArg some (by kernel_rfl))
  f246 := Tryz.func106.trans (congrArg some (by kernel_rfl))
  f283 := Tryz.func132.trans (congrArg some (by kernel_rfl))
  f284 := Tryz.func133.trans (congrArg some (by kernel_rfl))
  f285 := Tryz.func134.trans (congrArg some (by kernel_rfl))
  f286 := Tryz.func135.trans (congrArg some (by kernel_rfl))
  f317 := Tryz.func159.trans (congrArg some (by kernel_rfl))
  f318 := Tryz.func161.trans (congrArg some (by kernel_rfl))
  f319 := Tryz.func162.trans (congrArg some (by kernel_rfl))
  f320 := Tryz.func163.trans (congrArg some (by kernel_rfl))
  f337 := Tryz.func187.trans (congrArg some (by kernel_rfl))
  f338 := Tryz.func188.trans (congrArg some (by kernel_rfl))
  t0 := Tryz.underlying0
  a0 := Tryz.isAgg0
  z0 := Tryz.sizeOf0
  v0 := Tryz.zeroValue0
  t2 := Tryz.underlying2
  a2 := Tryz.isAgg2
  z2 := Tryz.sizeOf2
  v2 := Tryz.zeroValue2
  t3 := Tryz.underlying3
  a3 := Tryz.isAgg3
  z3 := Tryz.sizeOf3
  v3 := Tryz.zeroValue3
  t4 := Tryz.underlying4
  a4 := Tryz.isAgg4
  z4 := Tryz.sizeOf4
  v4 := Tryz.zeroValue4
  t5 := Tryz.underlying5
  a5 := Tryz.isAgg5
  z5 := Tryz.sizeOf5
  v5 := Tryz.zeroValue5
  t9 := Tryz.underlying9
  a9 := Tryz.isAgg9
  z9 := Tryz.sizeOf9
  v9 := Tryz.zeroValue9
  t20 := Tryz.underlying20
  a20 := Tryz.isAgg20
  z20 := Tryz.sizeOf20
  v20 := Tryz.zeroValue20
  t37 := Tryz.underlying84
  a37 := Tryz.isAgg84
  z37 := Tryz.sizeOf84
  v37 := Tryz.zeroValue84
  t46 := Tryz.underlying144
  a46 := Tryz.isAgg144
  z46 := Tryz.sizeOf144
  v46 := Tryz.zeroValue144
  t51 := Tryz.underlying138
  a51 := Tryz.isAgg138
  z51 := Tryz.sizeOf138
  v51 := Tryz.zeroValue138
  t53 := Tryz.underlying154
  a53 := Tryz.isAgg154
  z53 := Tryz.sizeOf154
  v53 := Tryz.zeroValue154
  t171 := Tryz.underlying153
  a171 := Tryz.isAgg153
  z171 := Tryz.sizeOf153
  v171 := Tryz.zeroValue153
  t173 := Tryz.underlying157
  a173 := Tryz.isAgg157
  z173 := Tryz.sizeOf157
  v173 := Tryz.zeroValue157
  t212 := Tryz.underlying175
  a212 := Tryz.isAgg175
  z212 := Tryz.sizeOf175
  v212 := Tryz.zeroValue175
  t213 := Tryz.underlying176
  a213 := Tryz.isAgg176
  z213 := Tryz.sizeOf176
  t232 := Tryz.underlying213
  a232 := Tryz.isAgg213
  z232 := Tryz.sizeOf213
  v232 := Tryz.zeroValue213
  t233 := Tryz.underlying193
  a233 := Tryz.isAgg193
  z233 := Tryz.sizeOf193
  v233 := Tryz.zeroValue193
  g17 := by kernel_rfl
  g18 := by kernel_rfl
  g19 := by kernel_rfl
  i0 := by kernel_rfl
  i2 := by kernel_rfl
  i3 := by kernel_rfl
  i4 := by kernel_rfl
  i5 := by kernel_rfl
  i9 := by kernel_rfl
  i20 := by kernel_rfl
  i37 := by kernel_rfl
  i46 := by kernel_rfl
  i51 := by kernel_rfl
  i53 := by kernel_rfl
  i171 := by kernel_rfl
  i173 := by kernel_rfl
  i212 := by kernel_rfl
  i232 := by kernel_rfl
  i233 := by kernel_rfl
  m17 := by kernel_rfl
  m18 := by kernel_rfl
  m19 := by kernel_rfl }
open Go.RowKit Go.Sort Go.Lib in
/-- strconv.Itoa: "Itoa is equivalent to FormatInt(int64(i), 10).": i's DECIMAL NUMERAL ('Lib.itoa': a '-' where i is negative, then the digits), FOR EVERY int. The world behind the call: the world before it, new blocks behind the heap (the library's 'var a [24]byte'), draws. (LAID: no walk: one application.) -/
theorem Tryz.strconv_Itoa (n : Int) (h0 : -9223372036854775808 ≤ n) (h1 : n ≤ 9223372036854775807) (w : World) (htab : Lib.TabIs Tryz.prog w "internal/strconv.uint64pow10" .u64 Lib.pow10Tab) :
    Calls Tryz.prog 49 #[.int .i64 n] w fun e w' => e = .returned (.string ⟨(Lib.itoa n).toArray⟩) ∧ ∃ k os, w' = grow (w.drewN k) os := Any.strconv_Itoa Tryz.laysM171 n h0 h1 w htab
def Tryz.lays171_ren : Go.Shelf.Ren := ⟨fun | 171 => 49 | 243 => 83 | 246 => 106 | 283 => 132 | 284 => 133 | 285 => 134 | 286 => 135 | 129 => 160 | 317 => 159 | 318 => 161 | 319 => 162 | 320 => 163 | 337 => 187 | 338 => 188 | n => n, fun | 3 => 3 | 9 => 9 | 2 => 2 | 4 => 4 | 171 => 153 | 0 => 0 | 53 => 154 | 37 => 84 | 5 => 5 | 173 => 157 | 212 => 175 | 51 => 138 | 20 => 20 | 213 => 176 | 46 => 144 | 232 => 213 | 233 => 193 | n => n, fun | 17 => 1 | 18 => 8 | 19 => 9 | n => n⟩
theorem Tryz.lays171 : Go.Proofs.Lays.n171 Tryz.prog Tryz.lays171_ren := {
  mixed := by kernel_rfl
  f129 := Tryz.func160.trans (congrArg some (by kernel_rfl))
  f171 := Tryz.func49.trans (congrArg some (by kernel_rfl))
  f243 := Tryz.func83.trans (congrArg some (by kernel_rfl))
  f246 := Tryz.func106.trans (congrArg some (by kernel_rfl))
  f283 := Tryz.func132.trans (congrArg some (by kernel_rfl))
  f284 := Tryz.func133.trans (congrArg some (by kernel_rfl))
  f285 := Tryz.func134.trans (congrArg some (by kernel_rfl))
  f286 := Tryz.func135.trans (congrArg some (by kernel_rfl))
  f317 := Tryz.func159.trans (congrArg some (by kernel_rfl))
  f318 := Tryz.func161.trans (congrArg some (by kernel_rfl))
  f319 := Tryz.func162.trans (congrArg some (by kernel_rfl))
  f320 := Tryz.func163.trans (congrArg some (by kernel_rfl))
  f337 := Tryz.func187.trans (congrArg some (by kernel_rfl))
  f338 := Tryz.func188.trans (congrArg some (by kernel_rfl))
  t0 := Tryz.underlying0
  a0 := Tryz.isAgg0
  z0 := Tryz.sizeOf0
  v0 := Tryz.zeroValue0
  t2 := Tryz.underlying2
  a2 := Tryz.isAgg2
  z2 := Tryz.sizeOf2
  v2 := Tryz.zeroValue2
  t3 := Tryz.underlying3
  a3 := Tryz.isAgg3
  z3 := Tryz.sizeOf3
  v3 := Tryz.zeroValue3
  t4 := Tryz.underlying4
  a4 := Tryz.isAgg4
  z4 := Tryz.sizeOf4
  v4 := Tryz.zeroValue4
  t5 := Tryz.underlying5
  a5 := Tryz.isAgg5
  z5 := Tryz.sizeOf5
  v5 := Tryz.zeroValue5
  t9 := Tryz.underlying9
  a9 := Tryz.isAgg9
  z9 := Tryz.sizeOf9
  v9 := Tryz.zeroValue9
  t20 := Tryz.underlying20
  a20 := Tryz.isAgg20
  z20 := Tryz.sizeOf20
  v20 := Tryz.zeroValue20
  t37 := Tryz.underlying84
  a37 := Tryz.isAgg84
  z37 := Tryz.sizeOf84
  v37 := Tryz.zeroValue84
  t46 := Tryz.underlying144
  a46 := Tryz.isAgg144
  z46 := Tryz.sizeOf144
  v46 := Tryz.zeroValue144
  t51 := Tryz.underlying138
  a51 := Tryz.isAgg138
  z51 := Tryz.sizeOf138
  v51 := Tryz.zeroValue138
  t53 := Tryz.underlying154
  a53 := Tryz.isAgg154
  z53 := Tryz.sizeOf154
  v53 := Tryz.zeroValue154
  t171 := Tryz.underlying153
  a171 := Tryz.isAgg153
  z171 := Tryz.sizeOf153
  v171 := Tryz.zeroValue153
  t173 := Tryz.underlying157
  a173 := Tryz.isAgg157
  z173 := Tryz.sizeOf157
  v173 := Tryz.zeroValue157
  t212 := Tryz.underlying175
  a212 := Tryz.isAgg175
  z212 := Tryz.sizeOf175
  v212 := Tryz.zeroValue175
  t213 := Tryz.underlying176
  a213 := Tryz.isAgg176
  z213 := Tryz.sizeOf176
  t232 := Tryz.underlying213
  a232 := Tryz.isAgg213
  z232 := Tryz.sizeOf213
  v232 := Tryz.zeroValue213
  t233 := Tryz.underlying193
  a233 := Tryz.isAgg193
  z233 := Tryz.sizeOf193
  v233 := Tryz.zeroValue193
  g17 := by kernel_rfl
  g18 := by kernel_rfl
  g19 := by kernel_rfl }
open Go.RowKit Go.Sort Go.Lib in
/-- THE ROAD WITHOUT THE TABLE: 0 <= i < 100: NO PREMISE ON THE WORLD, AND THE WORLD IS AS IT WAS: a row that keeps its argument in that range need list no table ('laid = []'). (LAID: no walk: one application.) -/
theorem Tryz.strconv_Itoa_small (i : Nat) (hi : i < 100) (w : World) :
    Calls Tryz.prog 49 #[.int .i64 i] w fun e w' => e = .returned (.string ⟨(Lib.decDigits i).toArray⟩) ∧ w' = w := Any.strconv_Itoa_small Tryz.lays171 i hi w
def Tryz.lays189_ren : Go.Shelf.Ren := ⟨fun | 189 => 114 | 125 => 145 | 257 => 144 | 128 => 180 | 129 => 160 | 294 => 171 | 295 => 172 | 296 => 173 | 297 => 174 | 298 => 175 | 299 => 176 | 216 => 177 | 300 => 178 | 301 => 179 | 328 => 193 | 329 => 194 | 330 => 195 | 331 => 196 | 332 => 197 | 215 => 198 | 343 => 207 | n => n, fun | 28 => 46 | 3 => 3 | 46 => 144 | 0 => 0 | 51 => 138 | 53 => 154 | 4 => 4 | 183 => 186 | 182 => 185 | 131 => 190 | 5 => 5 | 9 => 9 | 218 => 204 | 222 => 208 | 228 => 226 | 229 => 227 | n => n, fun | n => n⟩
theorem Tryz.lays189 : Go.Proofs.Lays.n189 Tryz.prog Tryz.lays189_ren := {
  mixed := by kernel_rfl
  f125 := Tryz.func145.trans (congrArg some (by kernel_rfl))
  f128 := Tryz.func180.trans (congrArg some (by kernel_rfl))
  f129 := Tryz.func160.trans (congrArg some (by kernel_rfl))
  f189 := Tryz.func114.trans (congrArg some (by kernel_rfl))
  f215 := Tryz.func198.trans (congrArg some (by kernel_rfl))
  f216 := Tryz.func177.trans (congrArg some (by kernel_rfl))
  f257 := Tryz.func144.trans (congrArg some (by kernel_rfl))
  f294 := Tryz.func171.trans (congrArg some (by kernel_rfl))
  f295 := Tryz.func172.trans (congrArg some (by kernel_rfl))
  f296 := Tryz.func173.trans (congrArg some (by kernel_rfl))
  f297 := Tryz.func174.trans (congrArg some (by kernel_rfl))
  f298 := Tryz.func175.trans (congrArg some (by kernel_rfl))
  f299 := Tryz.func176.trans (congrArg some (by kernel_rfl))
  f300 := Tryz.func178.trans (congrArg some (by kernel_rfl))
  f301 := Tryz.func179.trans (congrArg some (by kernel_rfl))
  f328 := Tryz.func193.trans (congrArg some (by kernel_rfl))
  f329 := Tryz.func194.trans (congrArg some (by kernel_rfl))
  f330 := Tryz.func195.trans (congrArg some (by kernel_rfl))
  f331 := Tryz.func196.trans (congrArg some (by kernel_rfl))
  f332 := Tryz.func197.trans (congrArg some (by kernel_rfl))
  f343 := Tryz.func207.trans (congrArg some (by kernel_rfl))
  t0 := Tryz.underlying0
  a0 := Tryz.isAgg0
  z0 := Tryz.sizeOf0
  v0 := Tryz.zeroValue0
  t3 := Tryz.underlying3
  a3 := Tryz.isAgg3
  z3 := Tryz.sizeOf3
  v3 := Tryz.zeroValue3
  t4 := Tryz.underlying4
  a4 := Tryz.isAgg4
  z4 := Tryz.sizeOf4
  v4 := Tryz.zeroValue4
  t5 := Tryz.underlying5
  a5 := Tryz.isAgg5
  z5 := Tryz.sizeOf5
  v5 := Tryz.zeroValue5
  t9 := Tryz.underlying9
  a9 := Tryz.isAgg9
  z9 := Tryz.sizeOf9
  v9 := Tryz.zeroValue9
  t28 := Tryz.underlying46
  a28 := Tryz.isAgg46
  z28 := Tryz.sizeOf46
  v28 := Tryz.zeroValue46
  t46 := Tryz.underlying144
  a46 := Tryz.isAgg144
  z46 := Tryz.sizeOf144
  v46 := Tryz.zeroValue144
  t51 := Tryz.underlying138
  a51 := Tryz.isAgg138
  z51 := Tryz.sizeOf138
  v51 := Tryz.zeroValue138
  t53 := Tryz.underlying154
  a53 := Tryz.isAgg154
  z53 := Tryz.sizeOf154
  v53 := Tryz.zeroValue154
  t131 := Tryz.underlying190
  a131 := Tryz.isAgg190
  z131 := Tryz.sizeOf190
  v131 := Tryz.zeroValue190
  t182 := Tryz.underlying185
  a182 := Tryz.isAgg185
  z182 := Tryz.sizeOf185
  v182 := Tryz.zeroValue185
  t183 := Tryz.underlying186
  a183 := Tryz.isAgg186
  z183 := Tryz.sizeOf186
  v183 := Tryz.zeroValue186
  t218 := Tryz.underlying204
  a218 := Tryz.isAgg204
  z218 := Tryz.sizeOf204
  v218 := Tryz.zeroValue204
  t222 := Tryz.underlying208
  a222 := Tryz.isAgg208
  z222 := Tryz.sizeOf208
  v222 := Tryz.zeroValue208
  t228 := Tryz.underlying226
  a228 := Tryz.isAgg226
  z228 := Tryz.sizeOf226
  v228 := Tryz.zeroValue226
  t229 := Tryz.underlying227
  a229 := Tryz.isAgg227
  z229 := Tryz.sizeOf227
  v229 := Tryz.zeroValue227 }
open Go.Sort Go.RowKit in
theorem Tryz.slices_Sort_int (blk off cap : Nat) (zs : List Int) (w : World) (hH : Holds (Value.int .i64) w blk off zs.toArray) (hblk : blk < w.heap.size) (hsz : zs.length < 4611686018427387904) :
    Calls Tryz.prog 114 #[.slice (some ⟨blk, off, none⟩) zs.length cap] w fun e w' =>
      e = .returned (.tuple #[]) ∧ ∃ n os, w' = grow (putRow (Value.int .i64) (Sort.ahead w n) blk off (zs.mergeSort fun x y => decide (x ≤ y)).toArray) os := Any.slices_Sort_int Tryz.lays189 blk off cap zs w hH hblk hsz
def Tryz.lays191_ren : Go.Shelf.Ren := ⟨fun | 191 => 88 | 189 => 114 | 125 => 145 | 257 => 144 | 128 => 180 | 129 => 160 | 294 => 171 | 295 => 172 | 296 => 173 | 297 => 174 | 298 => 175 | 299 => 176 | 216 => 177 | 300 => 178 | 301 => 179 | 328 => 193 | 329 => 194 | 330 => 195 | 331 => 196 | 332 => 197 | 215 => 198 | 343 => 207 | n => n, fun | 28 => 46 | 0 => 0 | 3 => 3 | 46 => 144 | 51 => 138 | 53 => 154 | 4 => 4 | 183 => 186 | 182 => 185 | 131 => 190 | 5 => 5 | 9 => 9 | 218 => 204 | 222 => 208 | 228 => 226 | 229 => 227 | n => n, fun | n => n⟩
theorem Tryz.lays191 : Go.Proofs.Lays.n191 Tryz.prog Tryz.lays191_ren := {
  mixed := by kernel_rfl
  f125 := Tryz.func145.trans (congrArg some (by kernel_rfl))
  f128 := Tryz.func180.trans (congrArg some (by kernel_rfl))
  f129 := Tryz.func160.trans (congrArg some (by kernel_rfl))
  f189 := Tryz.func114.trans (congrArg some (by kernel_rfl))
  f191 := Tryz.func88.trans (congrArg some (by kernel_rfl))
  f215 := Tryz.func198.trans (congrArg some (by kernel_rfl))
  f216 := Tryz.func177.trans (congrArg some (by kernel_rfl))
  f257 := Tryz.func144.trans (congrArg some (by kernel_rfl))
  f294 := Tryz.func171.trans (congrArg some (by kernel_rfl))
  f295 := Tryz.func172.trans (congrArg some (by kernel_rfl))
  f296 := Tryz.func173.trans (congrArg some (by kernel_rfl))
  f297 := Tryz.func174.trans (congrArg some (by kernel_rfl))
  f298 := Tryz.func175.trans (congrArg some (by kernel_rfl))
  f299 := Tryz.func176.trans (congrArg some (by kernel_rfl))
  f300 := Tryz.func178.trans (congrArg some (by kernel_rfl))
  f301 := Tryz.func179.trans (congrArg some (by kernel_rfl))
  f328 := Tryz.func193.trans (congrArg some (by kernel_rfl))
  f329 := Tryz.func194.trans (congrArg some (by kernel_rfl))
  f330 := Tryz.func195.trans (congrArg some (by kernel_rfl))
  f331 := Tryz.func196.trans (congrArg some (by kernel_rfl))
  f332 := Tryz.func197.trans (congrArg some (by kernel_rfl))
  f343 := Tryz.func207.trans (congrArg some (by kernel_rfl))
  t0 := Tryz.underlying0
  a0 := Tryz.isAgg0
  z0 := Tryz.sizeOf0
  v0 := Tryz.zeroValue0
  t3 := Tryz.underlying3
  a3 := Tryz.isAgg3
  z3 := Tryz.sizeOf3
  v3 := Tryz.zeroValue3
  t4 := Tryz.underlying4
  a4 := Tryz.isAgg4
  z4 := Tryz.sizeOf4
  v4 := Tryz.zeroValue4
  t5 := Tryz.underlying5
  a5 := Tryz.isAgg5
  z5 := Tryz.sizeOf5
  v5 := Tryz.zeroValue5
  t9 := Tryz.underlying9
  a9 := Tryz.isAgg9
  z9 := Tryz.sizeOf9
  v9 := Tryz.zeroValue9
  t28 := Tryz.underlying46
  a28 := Tryz.isAgg46
  z28 := Tryz.sizeOf46
  v28 := Tryz.zeroValue46
  t46 := Tryz.underlying144
  a46 := Tryz.isAgg144
  z46 := Tryz.sizeOf144
  v46 := Tryz.zeroValue144
  t51 := Tryz.underlying138
  a51 := Tryz.isAgg138
  z51 := Tryz.sizeOf138
  v51 := Tryz.zeroValue138
  t53 := Tryz.underlying154
  a53 := Tryz.isAgg154
  z53 := Tryz.sizeOf154
  v53 := Tryz.zeroValue154
  t131 := Tryz.underlying190
  a131 := Tryz.isAgg190
  z131 := Tryz.sizeOf190
  v131 := Tryz.zeroValue190
  t182 := Tryz.underlying185
  a182 := Tryz.isAgg185
  z182 := Tryz.sizeOf185
  v182 := Tryz.zeroValue185
  t183 := Tryz.underlying186
  a183 := Tryz.isAgg186
  z183 := Tryz.sizeOf186
  v183 := Tryz.zeroValue186
  t218 := Tryz.underlying204
  a218 := Tryz.isAgg204
  z218 := Tryz.sizeOf204
  v218 := Tryz.zeroValue204
  t222 := Tryz.underlying208
  a222 := Tryz.isAgg208
  z222 := Tryz.sizeOf208
  v222 := Tryz.zeroValue208
  t228 := Tryz.underlying226
  a228 := Tryz.isAgg226
  z228 := Tryz.sizeOf226
  v228 := Tryz.zeroValue226
  t229 := Tryz.underlying227
  a229 := Tryz.isAgg227
  z229 := Tryz.sizeOf227
  v229 := Tryz.zeroValue227 }
open Go.Sort Go.RowKit in
theorem Tryz.sort_Ints (blk off cap : Nat) (zs : List Int) (w : World) (hH : Holds (Value.int .i64) w blk off zs.toArray) (hblk : blk < w.heap.size) (hsz : zs.length < 4611686018427387904) :
    Calls Tryz.prog 88 #[.slice (some ⟨blk, off, none⟩) zs.length cap] w fun e w' =>
      e = .returned (.tuple #[]) ∧ ∃ n os, w' = grow (putRow (Value.int .i64) (Sort.ahead w n) blk off (zs.mergeSort fun x y => decide (x ≤ y)).toArray) os := Any.sort_Ints Tryz.lays191 blk off cap zs w hH hblk hsz
def Tryz.lays315_ren : Go.Shelf.Ren := ⟨fun | 315 => 201 | n => n, fun | 9 => 9 | 40 => 69 | 4 => 4 | 3 => 3 | 0 => 0 | 21 => 21 | n => n, fun | n => n⟩
theorem Tryz.lays315 : Go.Proofs.Lays.n315 Tryz.prog Tryz.lays315_ren := {
  mixed := by kernel_rfl
  f315 := Tryz.func201.trans (congrArg some (by kernel_rfl))
  t0 := Tryz.underlying0
  a0 := Tryz.isAgg0
  z0 := Tryz.sizeOf0
  v0 := Tryz.zeroValue0
  t3 := Tryz.underlying3
  a3 := Tryz.isAgg3
  z3 := Tryz.sizeOf3
  v3 := Tryz.zeroValue3
  t4 := Tryz.underlying4
  a4 := Tryz.isAgg4
  z4 := Tryz.sizeOf4
  v4 := Tryz.zeroValue4
  t9 := Tryz.underlying9
  a9 := Tryz.isAgg9
  z9 := Tryz.sizeOf9
  v9 := Tryz.zeroValue9
  t21 := Tryz.underlying21
  a21 := Tryz.isAgg21
  z21 := Tryz.sizeOf21
  v21 := Tryz.zeroValue21
  t40 := Tryz.underlying69
  a40 := Tryz.isAgg69
  z40 := Tryz.sizeOf69
  v40 := Tryz.zeroValue69 }
open Go.RowKit Go.Lib in
theorem Tryz.strings_indexFunc (g : Nat) (lb : Array Value) (eg : ∀ args w, (callFunc g args).run Tryz.prog w = .ok (.enter g args) w) (p : Nat → Bool) (truth : Bool) (s : ByteArray) (w : World) (hp : PredAt Tryz.prog g lb encR p w) :
    Calls Tryz.prog 201 #[.string s, .func (.func g) #[] lb, .bool truth] w fun e w' => e = .returned (.int .i64 (Lib.idxFunc p truth s)) ∧ Below w.heap.size w w' := Any.strings_indexFunc Tryz.lays315 g lb eg p truth s w hp
def Tryz.lays206_ren : Go.Shelf.Ren := ⟨fun | 206 => 147 | n => n, fun | 9 => 9 | 4 => 4 | 3 => 3 | n => n, fun | n => n⟩
theorem Tryz.lays206 : Go.Proofs.Lays.n206 Tryz.prog Tryz.lays206_ren := {
  mixed := by kernel_rfl
  f206 := Tryz.func147.trans (congrArg some (by kernel_rfl))
  t3 := Tryz.underlying3
  a3 := Tryz.isAgg3
  z3 := Tryz.sizeOf3
  v3 := Tryz.zeroValue3
  t4 := Tryz.underlying4
  a4 := Tryz.isAgg4
  z4 := Tryz.sizeOf4
  v4 := Tryz.zeroValue4
  t9 := Tryz.underlying9
  a9 := Tryz.isAgg9
  z9 := Tryz.sizeOf9
  v9 := Tryz.zeroValue9 }
open Go.RowKit Go.Lib in
/-- internal/stringslite.HasPrefix (what strings.HasPrefix calls). (LAID: no walk: one application.) -/
theorem Tryz.stringslite_HasPrefix (s p : ByteArray) (w : World) :
    Calls Tryz.prog 147 #[.string s, .string p] w fun e w' => e = .returned (.bool (Lib.hasPrefix s.data.toList p.data.toList)) ∧ w' = w := Any.stringslite_HasPrefix Tryz.lays206 s p w
def Tryz.lays99_ren : Go.Shelf.Ren := ⟨fun | 99 => 116 | 206 => 147 | n => n, fun | 9 => 9 | 4 => 4 | 3 => 3 | n => n, fun | n => n⟩
theorem Tryz.lays99 : Go.Proofs.Lays.n99 Tryz.prog Tryz.lays99_ren := {
  mixed := by kernel_rfl
  f99 := Tryz.func116.trans (congrArg some (by kernel_rfl))
  f206 := Tryz.func147.trans (congrArg some (by kernel_rfl))
  t3 := Tryz.underlying3
  a3 := Tryz.isAgg3
  z3 := Tryz.sizeOf3
  v3 := Tryz.zeroValue3
  t4 := Tryz.underlying4
  a4 := Tryz.isAgg4
  z4 := Tryz.sizeOf4
  v4 := Tryz.zeroValue4
  t9 := Tryz.underlying9
  a9 := Tryz.isAgg9
  z9 := Tryz.sizeOf9
  v9 := Tryz.zeroValue9 }
open Go.RowKit Go.Lib in
/-- strings.HasPrefix: "HasPrefix reports whether the string s begins with prefix.": IT RETURNS 'Lib.hasPrefix s prefix'; the world is as it was. (LAID: no walk: one application.) -/
theorem Tryz.strings_HasPrefix (s p : ByteArray) (w : World) :
    Calls Tryz.prog 116 #[.string s, .string p] w fun e w' => e = .returned (.bool (Lib.hasPrefix s.data.toList p.data.toList)) ∧ w' = w := Any.strings_HasPrefix Tryz.lays99 s p w
def Tryz.lays207_ren : Go.Shelf.Ren := ⟨fun | 207 => 149 | n => n, fun | 9 => 9 | 4 => 4 | 3 => 3 | n => n, fun | n => n⟩
theorem Tryz.lays207 : Go.Proofs.Lays.n207 Tryz.prog Tryz.lays207_ren := {
  mixed := by kernel_rfl
  f207 := Tryz.func149.trans (congrArg some (by kernel_rfl))
  t3 := Tryz.underlying3
  a3 := Tryz.isAgg3
  z3 := Tryz.sizeOf3
  v3 := Tryz.zeroValue3
  t4 := Tryz.underlying4
  a4 := Tryz.isAgg4
  z4 := Tryz.sizeOf4
  v4 := Tryz.zeroValue4
  t9 := Tryz.underlying9
  a9 := Tryz.isAgg9
  z9 := Tryz.sizeOf9
  v9 := Tryz.zeroValue9 }
open Go.RowKit Go.Lib in
/-- internal/stringslite.HasSuffix (what strings.HasSuffix calls). (LAID: no walk: one application.) -/
theorem Tryz.stringslite_HasSuffix (s p : ByteArray) (w : World) (hs : s.size ≤ 9223372036854775807) :
    Calls Tryz.prog 149 #[.string s, .string p] w fun e w' => e = .returned (.bool (Lib.hasSuffix s.data.toList p.data.toList)) ∧ w' = w := Any.stringslite_HasSuffix Tryz.lays207 s p w hs
def Tryz.lays100_ren : Go.Shelf.Ren := ⟨fun | 100 => 118 | 207 => 149 | n => n, fun | 9 => 9 | 4 => 4 | 3 => 3 | n => n, fun | n => n⟩
theorem Tryz.lays100 : Go.Proofs.Lays.n100 Tryz.prog Tryz.lays100_ren := {
  mixed := by kernel_rfl
  f100 := Tryz.func118.trans (congrArg some (by kernel_rfl))
  f207 := Tryz.func149.trans (congrArg some (by kernel_rfl))
  t3 := Tryz.underlying3
  a3 := Tryz.isAgg3
  z3 := Tryz.sizeOf3
  v3 := Tryz.zeroValue3
  t4 := Tryz.underlying4
  a4 := Tryz.isAgg4
  z4 := Tryz.sizeOf4
  v4 := Tryz.zeroValue4
  t9 := Tryz.underlying9
  a9 := Tryz.isAgg9
  z9 := Tryz.sizeOf9
  v9 := Tryz.zeroValue9 }
open Go.RowKit Go.Lib in
/-- strings.HasSuffix: "HasSuffix reports whether the string s ends with suffix.": IT RETURNS 'Lib.hasSuffix s suffix'; the world is as it was. ('hs': no Go string is longer: a caller has it of every string that it was handed.) (LAID: no walk: one application.) -/
theorem Tryz.strings_HasSuffix (s p : ByteArray) (w : World) (hs : s.size ≤ 9223372036854775807) :
    Calls Tryz.prog 118 #[.string s, .string p] w fun e w' => e = .returned (.bool (Lib.hasSuffix s.data.toList p.data.toList)) ∧ w' = w := Any.strings_HasSuffix Tryz.lays100 s p w hs
def Tryz.lays198_ren : Go.Shelf.Ren := ⟨fun | 198 => 186 | 261 => 190 | 311 => 202 | 312 => 203 | n => n, fun | 21 => 21 | 4 => 4 | 141 => 199 | 0 => 0 | 196 => 217 | 193 => 214 | 3 => 3 | 51 => 138 | 198 => 220 | 49 => 218 | 194 => 215 | 201 => 223 | 226 => 235 | 46 => 144 | 227 => 236 | n => n, fun | 5 => 7 | n => n⟩
theorem Tryz.lays198 : Go.Proofs.Lays.n198 Tryz.prog Tryz.lays198_ren := {
  mixed := by kernel_rfl
  f198 := Tryz.func186.trans (congrArg some (by kernel_rfl))
  f261 := Tryz.func190.trans (congrArg some (by kernel_rfl))
  f311 := Tryz.func202.trans (congrArg some (by kernel_rfl))
  f312 := Tryz.func203.trans (congrArg some (by kernel_rfl))
  t0 := Tryz.underlying0
  a0 := Tryz.isAgg0
  z0 := Tryz.sizeOf0
  v0 := Tryz.zeroValue0
  t3 := Tryz.underlying3
  a3 := Tryz.isAgg3
  z3 := Tryz.sizeOf3
  v3 := Tryz.zeroValue3
  t4 := Tryz.underlying4
  a4 := Tryz.isAgg4
  z4 := Tryz.sizeOf4
  v4 := Tryz.zeroValue4
  t21 := Tryz.underlying21
  a21 := Tryz.isAgg21
  z21 := Tryz.sizeOf21
  v21 := Tryz.zeroValue21
  t46 := Tryz.underlying144
  a46 := Tryz.isAgg144
  z46 := Tryz.sizeOf144
  v46 := Tryz.zeroValue144
  t49 := Tryz.underlying218
  a49 := Tryz.isAgg218
  z49 := Tryz.sizeOf218
  v49 := Tryz.zeroValue218
  t51 := Tryz.underlying138
  a51 := Tryz.isAgg138
  z51 := Tryz.sizeOf138
  v51 := Tryz.zeroValue138
  t141 := Tryz.underlying199
  a141 := Tryz.isAgg199
  z141 := Tryz.sizeOf199
  v141 := Tryz.zeroValue199
  t193 := Tryz.underlying214
  a193 := Tryz.isAgg214
  z193 := Tryz.sizeOf214
  v193 := Tryz.zeroValue214
  t194 := Tryz.underlying215
  a194 := Tryz.isAgg215
  z194 := Tryz.sizeOf215
  v194 := Tryz.zeroValue215
  t196 := Tryz.underlying217
  a196 := Tryz.isAgg217
  z196 := Tryz.sizeOf217
  v196 := Tryz.zeroValue217
  t198 := Tryz.underlying220
  a198 := Tryz.isAgg220
  z198 := Tryz.sizeOf220
  v198 := Tryz.zeroValue220
  t201 := Tryz.underlying223
  a201 := Tryz.isAgg223
  z201 := Tryz.sizeOf223
  v201 := Tryz.zeroValue223
  t226 := Tryz.underlying235
  a226 := Tryz.isAgg235
  z226 := Tryz.sizeOf235
  v226 := Tryz.zeroValue235
  t227 := Tryz.underlying236
  a227 := Tryz.isAgg236
  z227 := Tryz.sizeOf236
  v227 := Tryz.zeroValue236
  g5 := by kernel_rfl }
open Go.RowKit Go.Lib in
theorem Tryz.unicode_IsDigit (r : Int) (w : World) (h : r ≤ 255) :
    Calls Tryz.prog 186 #[.int .i32 r] w fun e w' => e = .returned (.bool (Lib.isDigitL r)) ∧ w' = w := Any.unicode_IsDigit Tryz.lays198 r w h
def Tryz.lays199_ren : Go.Shelf.Ren := ⟨fun | 199 => 165 | 261 => 190 | 311 => 202 | 312 => 203 | n => n, fun | 21 => 21 | 4 => 4 | 51 => 138 | 141 => 199 | 0 => 0 | 196 => 217 | 193 => 214 | 3 => 3 | 198 => 220 | 49 => 218 | 194 => 215 | 201 => 223 | 226 => 235 | 46 => 144 | 227 => 236 | n => n, fun | 6 => 3 | n => n⟩
theorem Tryz.lays199 : Go.Proofs.Lays.n199 Tryz.prog Tryz.lays199_ren := {
  mixed := by kernel_rfl
  f199 := Tryz.func165.trans (congrArg some (by kernel_rfl))
  f261 := Tryz.func190.trans (congrArg some (by kernel_rfl))
  f311 := Tryz.func202.trans (congrArg some (by kernel_rfl))
  f312 := Tryz.func203.trans (congrArg some (by kernel_rfl))
  t0 := Tryz.underlying0
  a0 := Tryz.isAgg0
  z0 := Tryz.sizeOf0
  v0 := Tryz.zeroValue0
  t3 := Tryz.underlying3
  a3 := Tryz.isAgg3
  z3 := Tryz.sizeOf3
  v3 := Tryz.zeroValue3
  t4 := Tryz.underlying4
  a4 := Tryz.isAgg4
  z4 := Tryz.sizeOf4
  v4 := Tryz.zeroValue4
  t21 := Tryz.underlying21
  a21 := Tryz.isAgg21
  z21 := Tryz.sizeOf21
  v21 := Tryz.zeroValue21
  t46 := Tryz.underlying144
  a46 := Tryz.isAgg144
  z46 := Tryz.sizeOf144
  v46 := Tryz.zeroValue144
  t49 := Tryz.underlying218
  a49 := Tryz.isAgg218
  z49 := Tryz.sizeOf218
  v49 := Tryz.zeroValue218
  t51 := Tryz.underlying138
  a51 := Tryz.isAgg138
  z51 := Tryz.sizeOf138
  v51 := Tryz.zeroValue138
  t141 := Tryz.underlying199
  a141 := Tryz.isAgg199
  z141 := Tryz.sizeOf199
  v141 := Tryz.zeroValue199
  t193 := Tryz.underlying214
  a193 := Tryz.isAgg214
  z193 := Tryz.sizeOf214
  v193 := Tryz.zeroValue214
  t194 := Tryz.underlying215
  a194 := Tryz.isAgg215
  z194 := Tryz.sizeOf215
  v194 := Tryz.zeroValue215
  t196 := Tryz.underlying217
  a196 := Tryz.isAgg217
  z196 := Tryz.sizeOf217
  v196 := Tryz.zeroValue217
  t198 := Tryz.underlying220
  a198 := Tryz.isAgg220
  z198 := Tryz.sizeOf220
  v198 := Tryz.zeroValue220
  t201 := Tryz.underlying223
  a201 := Tryz.isAgg223
  z201 := Tryz.sizeOf223
  v201 := Tryz.zeroValue223
  t226 := Tryz.underlying235
  a226 := Tryz.isAgg235
  z226 := Tryz.sizeOf235
  v226 := Tryz.zeroValue235
  t227 := Tryz.underlying236
  a227 := Tryz.isAgg236
  z227 := Tryz.sizeOf236
  v227 := Tryz.zeroValue236
  g6 := by kernel_rfl }
open Go.RowKit Go.Lib in
theorem Tryz.unicode_IsSpace (r : Int) (w : World) (h0 : 0 ≤ r) (h : r ≤ 255) :
    Calls Tryz.prog 165 #[.int .i32 r] w fun e w' => e = .returned (.bool (Lib.isSpaceL r)) ∧ w' = w := Any.unicode_IsSpace Tryz.lays199 r w h0 h
def Tryz.lays203_ren : Go.Shelf.Ren := ⟨fun | 203 => 157 | 262 => 184 | 313 => 200 | 274 => 208 | 275 => 209 | n => n, fun | 21 => 21 | 4 => 4 | 3 => 3 | 162 => 212 | 203 => 210 | 160 => 232 | 46 => 144 | 0 => 0 | 208 => 241 | 51 => 138 | 206 => 239 | n => n, fun | 13 => 4 | n => n⟩
theorem Tryz.lays203 : Go.Proofs.Lays.n203 Tryz.prog Tryz.lays203_ren := {
  mixed := by kernel_rfl
  f203 := Tryz.func157.trans (congrArg some (by kernel_rfl))
  f262 := Tryz.func184.trans (congrArg some (by kernel_rfl))
  f274 := Tryz.func208.trans (congrArg some (by kernel_rfl))
  f275 := Tryz.func209.trans (congrArg some (by kernel_rfl))
  f313 := Tryz.func200.trans (congrArg some (by kernel_rfl))
  t0 := Tryz.underlying0
  a0 := Tryz.isAgg0
  z0 := Tryz.sizeOf0
  v0 := Tryz.zeroValue0
  t3 := Tryz.underlying3
  a3 := Tryz.isAgg3
  z3 := Tryz.sizeOf3
  v3 := Tryz.zeroValue3
  t4 := Tryz.underlying4
  a4 := Tryz.isAgg4
  z4 := Tryz.sizeOf4
  v4 := Tryz.zeroValue4
  t21 := Tryz.underlying21
  a21 := Tryz.isAgg21
  z21 := Tryz.sizeOf21
  v21 := Tryz.zeroValue21
  t46 := Tryz.underlying144
  a46 := Tryz.isAgg144
  z46 := Tryz.sizeOf144
  v46 := Tryz.zeroValue144
  t51 := Tryz.underlying138
  a51 := Tryz.isAgg138
  z51 := Tryz.sizeOf138
  v51 := Tryz.zeroValue138
  t160 := Tryz.underlying232
  a160 := Tryz.isAgg232
  z160 := Tryz.sizeOf232
  v160 := Tryz.zeroValue232
  t162 := Tryz.underlying212
  a162 := Tryz.isAgg212
  z162 := Tryz.sizeOf212
  v162 := Tryz.zeroValue212
  t203 := Tryz.underlying210
  a203 := Tryz.isAgg210
  z203 := Tryz.sizeOf210
  v203 := Tryz.zeroValue210
  t206 := Tryz.underlying239
  a206 := Tryz.isAgg239
  z206 := Tryz.sizeOf239
  v206 := Tryz.zeroValue239
  t208 := Tryz.underlying241
  a208 := Tryz.isAgg241
  z208 := Tryz.sizeOf241
  v208 := Tryz.zeroValue241
  g13 := by kernel_rfl }
open Go.RowKit Go.Lib in
theorem Tryz.unicode_ToUpper (r : Int) (w : World) (h : r ≤ 127) :
    Calls Tryz.prog 157 #[.int .i32 r] w fun e w' => e = .returned (.int .i32 (Lib.toUpperR r)) ∧ w' = w := Any.unicode_ToUpper Tryz.lays203 r w h
def Tryz.lays204_ren : Go.Shelf.Ren := ⟨fun | 204 => 154 | 262 => 184 | 313 => 200 | 274 => 208 | 275 => 209 | n => n, fun | 21 => 21 | 4 => 4 | 3 => 3 | 162 => 212 | 203 => 210 | 160 => 232 | 46 => 144 | 0 => 0 | 208 => 241 | 51 => 138 | 206 => 239 | n => n, fun | 13 => 4 | n => n⟩
theorem Tryz.lays204 : Go.Proofs.Lays.n204 Tryz.prog Tryz.lays204_ren := {
  mixed := by kernel_rfl
  f204 := Tryz.func154.trans (congrArg some (by kernel_rfl))
  f262 := Tryz.func184.trans (congrArg some (by kernel_rfl))
  f274 := Tryz.func208.trans (congrArg some (by kernel_rfl))
  f275 := Tryz.func209.trans (congrArg some (by kernel_rfl))
  f313 := Tryz.func200.trans (congrArg some (by kernel_rfl))
  t0 := Tryz.underlying0
  a0 := Tryz.isAgg0
  z0 := Tryz.sizeOf0
  v0 := Tryz.zeroValue0
  t3 := Tryz.underlying3
  a3 := Tryz.isAgg3
  z3 := Tryz.sizeOf3
  v3 := Tryz.zeroValue3
  t4 := Tryz.underlying4
  a4 := Tryz.isAgg4
  z4 := Tryz.sizeOf4
  v4 := Tryz.zeroValue4
  t21 := Tryz.underlying21
  a21 := Tryz.isAgg21
  z21 := Tryz.sizeOf21
  v21 := Tryz.zeroValue21
  t46 := Tryz.underlying144
  a46 := Tryz.isAgg144
  z46 := Tryz.sizeOf144
  v46 := Tryz.zeroValue144
  t51 := Tryz.underlying138
  a51 := Tryz.isAgg138
  z51 := Tryz.sizeOf138
  v51 := Tryz.zeroValue138
  t160 := Tryz.underlying232
  a160 := Tryz.isAgg232
  z160 := Tryz.sizeOf232
  v160 := Tryz.zeroValue232
  t162 := Tryz.underlying212
  a162 := Tryz.isAgg212
  z162 := Tryz.sizeOf212
  v162 := Tryz.zeroValue212
  t203 := Tryz.underlying210
  a203 := Tryz.isAgg210
  z203 := Tryz.sizeOf210
  v203 := Tryz.zeroValue210
  t206 := Tryz.underlying239
  a206 := Tryz.isAgg239
  z206 := Tryz.sizeOf239
  v206 := Tryz.zeroValue239
  t208 := Tryz.underlying241
  a208 := Tryz.isAgg241
  z208 := Tryz.sizeOf241
  v208 := Tryz.zeroValue241
  g13 := by kernel_rfl }
open Go.RowKit Go.Lib in
theorem Tryz.unicode_ToLower (r : Int) (w : World) (h : r ≤ 127) :
    Calls Tryz.prog 154 #[.int .i32 r] w fun e w' => e = .returned (.int .i32 (Lib.toLowerR r)) ∧ w' = w := Any.unicode_ToLower Tryz.lays204 r w h
def Tryz.lays200_ren : Go.Shelf.Ren := ⟨fun | 200 => 185 | 261 => 190 | 311 => 202 | 312 => 203 | n => n, fun | 21 => 21 | 4 => 4 | 51 => 138 | 5 => 5 | 119 => 178 | 0 => 0 | 141 => 199 | 196 => 217 | 193 => 214 | 3 => 3 | 198 => 220 | 49 => 218 | 194 => 215 | 201 => 223 | 226 => 235 | 46 => 144 | 227 => 236 | n => n, fun | 7 => 5 | 8 => 6 | n => n⟩
theorem Tryz.lays200 : Go.Proofs.Lays.n200 Tryz.prog Tryz.lays200_ren := {
  mixed := by kernel_rfl
  f200 := Tryz.func185.trans (congrArg some (by kernel_rfl))
  f261 := Tryz.func190.trans (congrArg some (by kernel_rfl))
  f311 := Tryz.func202.trans (congrArg some (by kernel_rfl))
  f312 := Tryz.func203.trans (congrArg some (by kernel_rfl))
  t0 := Tryz.underlying0
  a0 := Tryz.isAgg0
  z0 := Tryz.sizeOf0
  v0 := Tryz.zeroValue0
  t3 := Tryz.underlying3
  a3 := Tryz.isAgg3
  z3 := Tryz.sizeOf3
  v3 := Tryz.zeroValue3
  t4 := Tryz.underlying4
  a4 := Tryz.isAgg4
  z4 := Tryz.sizeOf4
  v4 := Tryz.zeroValue4
  t5 := Tryz.underlying5
  a5 := Tryz.isAgg5
  z5 := Tryz.sizeOf5
  v5 := Tryz.zeroValue5
  t21 := Tryz.underlying21
  a21 := Tryz.isAgg21
  z21 := Tryz.sizeOf21
  v21 := Tryz.zeroValue21
  t46 := Tryz.underlying144
  a46 := Tryz.isAgg144
  z46 := Tryz.sizeOf144
  v46 := Tryz.zeroValue144
  t49 := Tryz.underlying218
  a49 := Tryz.isAgg218
  z49 := Tryz.sizeOf218
  v49 := Tryz.zeroValue218
  t51 := Tryz.underlying138
  a51 := Tryz.isAgg138
  z51 := Tryz.sizeOf138
  v51 := Tryz.zeroValue138
  t119 := Tryz.underlying178
  a119 := Tryz.isAgg178
  z119 := Tryz.sizeOf178
  t141 := Tryz.underlying199
  a141 := Tryz.isAgg199
  z141 := Tryz.sizeOf199
  v141 := Tryz.zeroValue199
  t193 := Tryz.underlying214
  a193 := Tryz.isAgg214
  z193 := Tryz.sizeOf214
  v193 := Tryz.zeroValue214
  t194 := Tryz.underlying215
  a194 := Tryz.isAgg215
  z194 := Tryz.sizeOf215
  v194 := Tryz.zeroValue215
  t196 := Tryz.underlying217
  a196 := Tryz.isAgg217
  z196 := Tryz.sizeOf217
  v196 := Tryz.zeroValue217
  t198 := Tryz.underlying220
  a198 := Tryz.isAgg220
  z198 := Tryz.sizeOf220
  v198 := Tryz.zeroValue220
  t201 := Tryz.underlying223
  a201 := Tryz.isAgg223
  z201 := Tryz.sizeOf223
  v201 := Tryz.zeroValue223
  t226 := Tryz.underlying235
  a226 := Tryz.isAgg235
  z226 := Tryz.sizeOf235
  v226 := Tryz.zeroValue235
  t227 := Tryz.underlying236
  a227 := Tryz.isAgg236
  z227 := Tryz.sizeOf236
  v227 := Tryz.zeroValue236
  g7 := by kernel_rfl
  g8 := by kernel_rfl }
open Go.RowKit Go.Lib in
theorem Tryz.unicode_IsLetter (c : Nat) (w : World) (hc : c < 256) (htab : Lib.TabIs Tryz.prog w "unicode.properties" .u8 Lib.propertiesTab) :
    Calls Tryz.prog 185 #[.int .i32 c] w fun e w' => e = .returned (.bool (Lib.isLetterL c)) ∧ w' = w := Any.unicode_IsLetter Tryz.lays200 (by kernel_rfl) c w hc htab
def Tryz.laysM200_ren : Go.Shelf.Ren := ⟨fun | 200 => 185 | 261 => 190 | 311 => 202 | 312 => 203 | n => n, fun | 21 => 21 | 4 => 4 | 51 => 138 | 5 => 5 | 119 => 178 | 0 => 0 | 141 => 199 | 196 => 217 | 193 => 214 | 3 => 3 | 198 => 220 | 49 => 218 | 194 => 215 | 201 => 223 | 226 => 235 | 46 => 144 | 227 => 236 | n => n, fun | 7 => 5 | 8 => 6 | n => n⟩
theorem Tryz.laysM200 : Go.Proofs.LaysM.n200 Tryz.prog Tryz.laysM200_ren := {
  mixed := by kernel_rfl
  f200 := Tryz.func185.trans (congrArg some (by kernel_rfl))
  f261 := Tryz.func190.trans (congrArg some (by kernel_rfl))
  f311 := Tryz.func202.trans (congrArg some (by kernel_rfl))
  f312 := Tryz.func203.trans (congrArg some (by kernel_rfl))
  t0 := Tryz.underlying0
  a0 := Tryz.isAgg0
  z0 := Tryz.sizeOf0
  v0 := Tryz.zeroValue0
  t3 := Tryz.underlying3
  a3 := Tryz.isAgg3
  z3 := Tryz.sizeOf3
  v3 := Tryz.zeroValue3
  t4 := Tryz.underlying4
  a4 := Tryz.isAgg4
  z4 := Tryz.sizeOf4
  v4 := Tryz.zeroValue4
  t5 := Tryz.underlying5
  a5 := Tryz.isAgg5
  z5 := Tryz.sizeOf5
  v5 := Tryz.zeroValue5
  t21 := Tryz.underlying21
  a21 := Tryz.isAgg21
  z21 := Tryz.sizeOf21
  v21 := Tryz.zeroValue21
  t46 := Tryz.underlying144
  a46 := Tryz.isAgg144
  z46 := Tryz.sizeOf144
  v46 := Tryz.zeroValue144
  t49 := Tryz.underlying218
  a49 := Tryz.isAgg218
  z49 := Tryz.sizeOf218
  v49 := Tryz.zeroValue218
  t51 := Tryz.underlying138
  a51 := Tryz.isAgg138
  z51 := Tryz.sizeOf138
  v51 := Tryz.zeroValue138
  t119 := Tryz.underlying178
  a119 := Tryz.isAgg178
  z119 := Tryz.sizeOf178
  t141 := Tryz.underlying199
  a141 := Tryz.isAgg199
  z141 := Tryz.sizeOf199
  v141 := Tryz.zeroValue199
  t193 := Tryz.underlying214
  a193 := Tryz.isAgg214
  z193 := Tryz.sizeOf214
  v193 := Tryz.zeroValue214
  t194 := Tryz.underlying215
  a194 := Tryz.isAgg215
  z194 := Tryz.sizeOf215
  v194 := Tryz.zeroValue215
  t196 := Tryz.underlying217
  a196 := Tryz.isAgg217
  z196 := Tryz.sizeOf217
  v196 := Tryz.zeroValue217
  t198 := Tryz.underlying220
  a198 := Tryz.isAgg220
  z198 := Tryz.sizeOf220
  v198 := Tryz.zeroValue220
  t201 := Tryz.underlying223
  a201 := Tryz.isAgg223
  z201 := Tryz.sizeOf223
  v201 := Tryz.zeroValue223
  t226 := Tryz.underlying235
  a226 := Tryz.isAgg235
  z226 := Tryz.sizeOf235
  v226 := Tryz.zeroValue235
  t227 := Tryz.underlying236
  a227 := Tryz.isAgg236
  z227 := Tryz.sizeOf236
  v227 := Tryz.zeroValue236
  g7 := by kernel_rfl
  g8 := by kernel_rfl
  i0 := by kernel_rfl
  i3 := by kernel_rfl
  i4 := by kernel_rfl
  i5 := by kernel_rfl
  i21 := by kernel_rfl
  i46 := by kernel_rfl
  i49 := by kernel_rfl
  i51 := by kernel_rfl
  i141 := by kernel_rfl
  i193 := by kernel_rfl
  i194 := by kernel_rfl
  i196 := by kernel_rfl
  i198 := by kernel_rfl
  i201 := by kernel_rfl
  i226 := by kernel_rfl
  i227 := by kernel_rfl
  m7 := by kernel_rfl
  m8 := by kernel_rfl }
open Go.RowKit Go.Lib in
theorem Tryz.unicode_IsLetter_laid (c : Nat) (w : World) (hc : c < 256) (htab : Lib.TabIs Tryz.prog w "unicode.properties" .u8 Lib.propertiesTab) :
    Calls Tryz.prog 185 #[.int .i32 c] w fun e w' => e = .returned (.bool (Lib.isLetterL c)) ∧ w' = w := Any.unicode_IsLetter_laid Tryz.laysM200 c w hc htab
def Tryz.lays197_ren : Go.Shelf.Ren := ⟨fun | 197 => 181 | 260 => 199 | n => n, fun | 9 => 9 | 21 => 21 | 3 => 3 | 4 => 4 | 5 => 5 | 105 => 194 | 119 => 178 | 0 => 0 | 46 => 144 | 139 => 231 | 138 => 230 | n => n, fun | 3 => 10 | 4 => 11 | n => n⟩
theorem Tryz.lays197 : Go.Proofs.Lays.n197 Tryz.prog Tryz.lays197_ren := {
  mixed := by kernel_rfl
  f197 := Tryz.func181.trans (congrArg some (by kernel_rfl))
  f260 := Tryz.func199.trans (congrArg some (by kernel_rfl))
  t0 := Tryz.underlying0
  a0 := Tryz.isAgg0
  z0 := Tryz.sizeOf0
  v0 := Tryz.zeroValue0
  t3 := Tryz.underlying3
  a3 := Tryz.isAgg3
  z3 := Tryz.sizeOf3
  v3 := Tryz.zeroValue3
  t4 := Tryz.underlying4
  a4 := Tryz.isAgg4
  z4 := Tryz.sizeOf4
  v4 := Tryz.zeroValue4
  t5 := Tryz.underlying5
  a5 := Tryz.isAgg5
  z5 := Tryz.sizeOf5
  v5 := Tryz.zeroValue5
  t9 := Tryz.underlying9
  a9 := Tryz.isAgg9
  z9 := Tryz.sizeOf9
  v9 := Tryz.zeroValue9
  t21 := Tryz.underlying21
  a21 := Tryz.isAgg21
  z21 := Tryz.sizeOf21
  v21 := Tryz.zeroValue21
  t46 := Tryz.underlying144
  a46 := Tryz.isAgg144
  z46 := Tryz.sizeOf144
  v46 := Tryz.zeroValue144
  t105 := Tryz.underlying194
  a105 := Tryz.isAgg194
  z105 := Tryz.sizeOf194
  v105 := Tryz.zeroValue194
  t119 := Tryz.underlying178
  a119 := Tryz.isAgg178
  z119 := Tryz.sizeOf178
  t138 := Tryz.underlying230
  a138 := Tryz.isAgg230
  z138 := Tryz.sizeOf230
  v138 := Tryz.zeroValue230
  t139 := Tryz.underlying231
  a139 := Tryz.isAgg231
  z139 := Tryz.sizeOf231
  v139 := Tryz.zeroValue231
  g3 := by kernel_rfl
  g4 := by kernel_rfl }
open Go.RowKit Go.Lib in
/-- unicode/utf8.DecodeRuneInString: "DecodeRuneInString is like DecodeRune but its input is a string.": ("DecodeRune unpacks the first UTF-8 encoding in p and returns the rune and its width in bytes."): WHERE s BEGINS WITH AN ASCII BYTE x: (x, 1). (LAID: no walk: one application.) -/
theorem Tryz.utf8_DecodeRuneInString_ascii (s : ByteArray) (x : UInt8) (w : World) (h0 : s.data.toList[0]? = some x) (hx : x.toNat < 128) :
    Calls Tryz.prog 181 #[.string s] w fun e w' => e = .returned (.tuple #[.int .i32 x.toNat, .int .i64 1]) ∧ w' = w := Any.utf8_DecodeRuneInString_ascii Tryz.lays197 s x w h0 hx
open Go.RowKit Go.Lib in
theorem Tryz.utf8_RuneCountInString_ascii (s : ByteArray) (w : World) (hs : s.size < 4294967281) (hascii : ∀ (j : Nat) b, s.data.toList[j]? = some b → b.toNat < 128) :
    Calls Tryz.prog 96 #[.string s] w fun e w' => e = .returned (.int .i64 s.size) ∧ w' = w.iter s s.size := Any.utf8_RuneCountInString_ascii Tryz.lays195 s w hs hascii
def Tryz.lays264_ren : Go.Shelf.Ren := ⟨fun | 264 => 151 | n => n, fun | 53 => 154 | 46 => 144 | n => n, fun | n => n⟩
theorem Tryz.lays264 : Go.Proofs.Lays.n264 Tryz.prog Tryz.lays264_ren := {
  mixed := by kernel_rfl
  f264 := Tryz.func151.trans (congrArg some (by kernel_rfl))
  t46 := Tryz.underlying144
  a46 := Tryz.isAgg144
  z46 := Tryz.sizeOf144
  v46 := Tryz.zeroValue144
  t53 := Tryz.underlying154
  a53 := Tryz.isAgg154
  z53 := Tryz.sizeOf154
  v53 := Tryz.zeroValue154 }
open Go.RowKit Go.Lib in
theorem Tryz.bits_Mul64 (x y : Nat) (hx : x < 18446744073709551616) (hy : y < 18446744073709551616) (w : World) :
    Calls Tryz.prog 151 #[.int .u64 x, .int .u64 y] w fun e w' => e = .returned (.tuple #[.int .u64 ((x * y / 18446744073709551616 : Nat) : Int), .int .u64 ((x * y % 18446744073709551616 : Nat) : Int)]) ∧ w' = w := Any.bits_Mul64 Tryz.lays264 x y hx hy w
def Tryz.lays212_ren : Go.Shelf.Ren := ⟨fun | 212 => 123 | 263 => 150 | 264 => 151 | n => n, fun | 46 => 144 | 51 => 138 | 146 => 167 | 53 => 154 | 148 => 169 | n => n, fun | n => n⟩
theorem Tryz.lays212 : Go.Proofs.Lays.n212 Tryz.prog Tryz.lays212_ren := {
  mixed := by kernel_rfl
  f212 := Tryz.func123.trans (congrArg some (by kernel_rfl))
  f263 := Tryz.func150.trans (congrArg some (by kernel_rfl))
  f264 := Tryz.func151.trans (congrArg some (by kernel_rfl))
  t46 := Tryz.underlying144
  a46 := Tryz.isAgg144
  z46 := Tryz.sizeOf144
  v46 := Tryz.zeroValue144
  t51 := Tryz.underlying138
  a51 := Tryz.isAgg138
  z51 := Tryz.sizeOf138
  v51 := Tryz.zeroValue138
  t53 := Tryz.underlying154
  a53 := Tryz.isAgg154
  z53 := Tryz.sizeOf154
  v53 := Tryz.zeroValue154
  t146 := Tryz.underlying167
  a146 := Tryz.isAgg167
  z146 := Tryz.sizeOf167
  v146 := Tryz.zeroValue167
  t148 := Tryz.underlying169
  a148 := Tryz.isAgg169
  z148 := Tryz.sizeOf169
  v148 := Tryz.zeroValue169 }
open Go.RowKit Go.Lib in
/-- math/bits.Mul: "Mul returns the full-width product of x and y": on a machine of 64 bits: Mul64's. (LAID: no walk: one application.) -/
theorem Tryz.bits_Mul (x y : Nat) (hx : x < 18446744073709551616) (hy : y < 18446744073709551616) (w : World) :
    Calls Tryz.prog 123 #[.int .u64 x, .int .u64 y] w fun e w' => e = .returned (.tuple #[.int .u64 ((x * y / 18446744073709551616 : Nat) : Int), .int .u64 ((x * y % 18446744073709551616 : Nat) : Int)]) ∧ w' = w := Any.bits_Mul Tryz.lays212 x y hx hy w
def Tryz.lays105_ren : Go.Shelf.Ren := ⟨fun | 105 => 95 | 212 => 123 | 99 => 116 | 165 => 74 | 166 => 89 | 170 => 124 | 169 => 79 | 263 => 150 | 264 => 151 | 206 => 147 | 240 => 97 | 241 => 98 | 276 => 125 | 277 => 126 | n => n, fun | 9 => 9 | 3 => 3 | 4 => 4 | 20 => 20 | 0 => 0 | 46 => 144 | 109 => 145 | 5 => 5 | 72 => 106 | 76 => 117 | 51 => 138 | 146 => 167 | 53 => 154 | 148 => 169 | 70 => 104 | 37 => 84 | 75 => 116 | 127 => 136 | 164 => 148 | 80 => 79 | n => n, fun | n => n⟩
theorem Tryz.lays105 : Go.Proofs.Lays.n105 Tryz.prog Tryz.lays105_ren := {
  mixed := by kernel_rfl
  f99 := Tryz.func116.trans (congrArg some (by kernel_rfl))
  f105 := Tryz.func95.trans (congrArg some (by kernel_rfl))
  f165 := Tryz.func74.trans (congrArg some (by kernel_rfl))
  f166 := Tryz.func89.trans (congrArg some (by kernel_rfl))
  f169 := Tryz.func79.trans (congrArg some (by kernel_rfl))
  f170 := Tryz.func124.trans (congrArg some (by kernel_rfl))
  f206 := Tryz.func147.trans (congrArg some (by kernel_rfl))
  f212 := Tryz.func123.trans (congrArg some (by kernel_rfl))
  f240 := Tryz.func97.trans (congrArg some (by kernel_rfl))
  f241 := Tryz.func98.trans (congrArg some (by kernel_rfl))
  f263 := Tryz.func150.trans (congrArg some (by kernel_rfl))
  f264 := Tryz.func151.trans (congrArg some (by kernel_rfl))
  f276 := Tryz.func125.trans (congrArg some (by kernel_rfl))
  f277 := Tryz.func126.trans (congrArg some (by kernel_rfl))
  t0 := Tryz.underlying0
  a0 := Tryz.isAgg0
  z0 := Tryz.sizeOf0
  v0 := Tryz.zeroValue0
  t3 := Tryz.underlying3
  a3 := Tryz.isAgg3
  z3 := Tryz.sizeOf3
  v3 := Tryz.zeroValue3
  t4 := Tryz.underlying4
  a4 := Tryz.isAgg4
  z4 := Tryz.sizeOf4
  v4 := Tryz.zeroValue4
  t5 := Tryz.underlying5
  a5 := Tryz.isAgg5
  z5 := Tryz.sizeOf5
  v5 := Tryz.zeroValue5
  t9 := Tryz.underlying9
  a9 := Tryz.isAgg9
  z9 := Tryz.sizeOf9
  v9 := Tryz.zeroValue9
  t20 := Tryz.underlying20
  a20 := Tryz.isAgg20
  z20 := Tryz.sizeOf20
  v20 := Tryz.zeroValue20
  t37 := Tryz.underlying84
  a37 := Tryz.isAgg84
  z37 := Tryz.sizeOf84
  v37 := Tryz.zeroValue84
  t46 := Tryz.underlying144
  a46 := Tryz.isAgg144
  z46 := Tryz.sizeOf144
  v46 := Tryz.zeroValue144
  t51 := Tryz.underlying138
  a51 := Tryz.isAgg138
  z51 := Tryz.sizeOf138
  v51 := Tryz.zeroValue138
  t53 := Tryz.underlying154
  a53 := Tryz.isAgg154
  z53 := Tryz.sizeOf154
  v53 := Tryz.zeroValue154
  t70 := Tryz.underlying104
  a70 := Tryz.isAgg104
  z70 := Tryz.sizeOf104
  v70 := Tryz.zeroValue104
  t72 := Tryz.underlying106
  a72 := Tryz.isAgg106
  z72 := Tryz.sizeOf106
  v72 := Tryz.zeroValue106
  t75 := Tryz.underlying116
  a75 := Tryz.isAgg116
  z75 := Tryz.sizeOf116
  v75 := Tryz.zeroValue116
  t76 := Tryz.underlying117
  a76 := Tryz.isAgg117
  z76 := Tryz.sizeOf117
  v76 := Tryz.zeroValue117
  t109 := Tryz.underlying145
  a109 := Tryz.isAgg145
  z109 := Tryz.sizeOf145
  v109 := Tryz.zeroValue145
  t127 := Tryz.underlying136
  a127 := Tryz.isAgg136
  z127 := Tryz.sizeOf136
  v127 := Tryz.zeroValue136
  t146 := Tryz.underlying167
  a146 := Tryz.isAgg167
  z146 := Tryz.sizeOf167
  v146 := Tryz.zeroValue167
  t148 := Tryz.underlying169
  a148 := Tryz.isAgg169
  z148 := Tryz.sizeOf169
  v148 := Tryz.zeroValue169
  t164 := Tryz.underlying148
  a164 := Tryz.isAgg148
  z164 := Tryz.sizeOf148
  v164 := Tryz.zeroValue148 }
theorem Tryz.Builder_Extra_105 : Builder.Extra Tryz.prog Tryz.lays105_ren := {
  sizeBuilder := by kernel_rfl
  liesBuilder := by kernel_rfl
  t5 := Tryz.underlying5
  a5 := Tryz.isAgg5
  z5 := Tryz.sizeOf5
  v5 := Tryz.zeroValue5
  infoByte := by kernel_rfl
  cellsByte := by kernel_rfl
  sizeByte := by kernel_rfl
  neB5 := by decide }
open Go.RowKit Go.Lib in
/-- THE MAIN CASE: at least two copies of a string that is not empty. (LAID: no walk: one application.) -/
theorem Tryz.strings_Repeat_main (s : ByteArray) (c : Nat) (w : World) (hc2 : 2 ≤ c) (hc : c ≤ 9223372036854775807) (hlen : s.size * c ≤ 140737488355328) (h0 : 0 < s.size) :
    Calls Tryz.prog 95 #[.string s, .int .i64 c] w fun e w' => e = .returned (.string ⟨(Lib.repeatL s.data.toList c).toArray⟩) ∧ Below w.heap.size w w' := Any.strings_Repeat_main Tryz.lays105 Tryz.Builder_Extra_105 s c w hc2 hc hlen h0
open Go.RowKit Go.Lib in
theorem Tryz.strings_Repeat_zero (s : ByteArray) (w : World) :
    Calls Tryz.prog 95 #[.string s, .int .i64 0] w fun e w' => e = .returned (.string ⟨#[]⟩) ∧ w' = w := Any.strings_Repeat_zero Tryz.lays105 s w
open Go.RowKit Go.Lib in
theorem Tryz.strings_Repeat_one (s : ByteArray) (w : World) :
    Calls Tryz.prog 95 #[.string s, .int .i64 1] w fun e w' => e = .returned (.string s) ∧ w' = w := Any.strings_Repeat_one Tryz.lays105 s w
open Go.RowKit Go.Lib in
/-- Copies of the empty string. (LAID: no walk: one application.) -/
theorem Tryz.strings_Repeat_empty (s : ByteArray) (c : Nat) (w : World) (hc2 : 2 ≤ c) (hc : c ≤ 9223372036854775807) (h0 : s.size = 0) :
    Calls Tryz.prog 95 #[.string s, .int .i64 c] w fun e w' => e = .returned (.string ⟨#[]⟩) ∧ w' = w := Any.strings_Repeat_empty Tryz.lays105 s c w hc2 hc h0
open Go.RowKit Go.Lib in
/-- count < 0: "It panics if count is negative". (LAID: no walk: one application.) -/
theorem Tryz.strings_Repeat_negative (s : ByteArray) (c : Int) (w : World) (hc : c < 0) :
    Calls Tryz.prog 95 #[.string s, .int .i64 c] w fun e w' => e = .panicked [{ v := repeatPanic Tryz.lays105_ren "strings: negative Repeat count", recovered := false }] ∧ w' = w := Any.strings_Repeat_negative Tryz.lays105 s c w hc
open Go.RowKit Go.Lib in
/-- len(s) * count is no int: ".. or if the result of (len(s) * count) overflows". (LAID: no walk: one application.) -/
theorem Tryz.strings_Repeat_overflow (s : ByteArray) (c : Nat) (w : World) (hc : c ≤ 9223372036854775807) (hs : s.size ≤ 9223372036854775807) (hbig : 9223372036854775807 < s.size * c) :
    Calls Tryz.prog 95 #[.string s, .int .i64 c] w fun e w' => e = .panicked [{ v := repeatPanic Tryz.lays105_ren "strings: Repeat output length overflow", recovered := false }] ∧ w' = w := Any.strings_Repeat_overflow Tryz.lays105 s c w hc hs hbig
open Go.RowKit Go.Lib in
/-- **strings.Repeat: count ≥ 0, the result within one allocation: count copies of s.** (LAID: no walk: one application.) -/
theorem Tryz.strings_Repeat (s : ByteArray) (c : Nat) (w : World) (hc : c ≤ 9223372036854775807) (hlen : s.size * c ≤ 140737488355328) :
    Calls Tryz.prog 95 #[.string s, .int .i64 c] w fun e w' => e = .returned (.string ⟨(Lib.repeatL s.data.toList c).toArray⟩) ∧ Below w.heap.size w w' := Any.strings_Repeat Tryz.lays105 Tryz.Builder_Extra_105 s c w hc hlen
def Tryz.lays260_ren : Go.Shelf.Ren := ⟨fun | 260 => 199 | n => n, fun | 9 => 9 | 21 => 21 | 3 => 3 | 4 => 4 | 5 => 5 | 119 => 178 | 0 => 0 | 46 => 144 | 139 => 231 | 138 => 230 | n => n, fun | 3 => 10 | 4 => 11 | n => n⟩
theorem Tryz.lays260 : Go.Proofs.Lays.n260 Tryz.prog Tryz.lays260_ren := {
  mixed := by kernel_rfl
  f260 := Tryz.func199.trans (congrArg some (by kernel_rfl))
  t0 := Tryz.underlying0
  a0 := Tryz.isAgg0
  z0 := Tryz.sizeOf0
  v0 := Tryz.zeroValue0
  t3 := Tryz.underlying3
  a3 := Tryz.isAgg3
  z3 := Tryz.sizeOf3
  v3 := Tryz.zeroValue3
  t4 := Tryz.underlying4
  a4 := Tryz.isAgg4
  z4 := Tryz.sizeOf4
  v4 := Tryz.zeroValue4
  t5 := Tryz.underlying5
  a5 := Tryz.isAgg5
  z5 := Tryz.sizeOf5
  v5 := Tryz.zeroValue5
  t9 := Tryz.underlying9
  a9 := Tryz.isAgg9
  z9 := Tryz.sizeOf9
  v9 := Tryz.zeroValue9
  t21 := Tryz.underlying21
  a21 := Tryz.isAgg21
  z21 := Tryz.sizeOf21
  v21 := Tryz.zeroValue21
  t46 := Tryz.underlying144
  a46 := Tryz.isAgg144
  z46 := Tryz.sizeOf144
  v46 := Tryz.zeroValue144
  t119 := Tryz.underlying178
  a119 := Tryz.isAgg178
  z119 := Tryz.sizeOf178
  t138 := Tryz.underlying230
  a138 := Tryz.isAgg230
  z138 := Tryz.sizeOf230
  v138 := Tryz.zeroValue230
  t139 := Tryz.underlying231
  a139 := Tryz.isAgg231
  z139 := Tryz.sizeOf231
  v139 := Tryz.zeroValue231
  g3 := by kernel_rfl
  g4 := by kernel_rfl }
open Go.RowKit Go.Lib in
theorem Tryz.utf8_decodeRuneInStringSlow (s : ByteArray) (w : World) (hT : Lib.Utf8Tabs 10 11 w) :
    Calls Tryz.prog 199 #[.string s] w fun e w' => e = .returned (.tuple #[.int .i32 (Lib.decodeGo s).1, .int .i64 (Lib.decodeGo s).2]) ∧ Below w.heap.size w w' := Any.utf8_decodeRuneInStringSlow Tryz.lays260 s w hT
open Go.RowKit Go.Lib in
/-- **unicode/utf8.DecodeRuneInString AT EVERY STRING.** (LAID: no walk: one application.) -/
theorem Tryz.utf8_DecodeRuneInString (s : ByteArray) (w : World) (hT : Lib.Utf8Tabs 10 11 w) :
    Calls Tryz.prog 181 #[.string s] w fun e w' => e = .returned (.tuple #[.int .i32 (Lib.decodeGo s).1, .int .i64 (Lib.decodeGo s).2]) ∧ Below w.heap.size w w' := Any.utf8_DecodeRuneInString Tryz.lays197 s w hT
def Tryz.lays311_ren : Go.Shelf.Ren := ⟨fun | 311 => 202 | n => n, fun | 193 => 214 | 49 => 218 | 4 => 4 | 3 => 3 | 0 => 0 | 226 => 235 | 198 => 220 | 46 => 144 | n => n, fun | n => n⟩
theorem Tryz.lays311 : Go.Proofs.Lays.n311 Tryz.prog Tryz.lays311_ren := {
  mixed := by kernel_rfl
  f311 := Tryz.func202.trans (congrArg some (by kernel_rfl))
  t0 := Tryz.underlying0
  a0 := Tryz.isAgg0
  z0 := Tryz.sizeOf0
  v0 := Tryz.zeroValue0
  t3 := Tryz.underlying3
  a3 := Tryz.isAgg3
  z3 := Tryz.sizeOf3
  v3 := Tryz.zeroValue3
  t4 := Tryz.underlying4
  a4 := Tryz.isAgg4
  z4 := Tryz.sizeOf4
  v4 := Tryz.zeroValue4
  t46 := Tryz.underlying144
  a46 := Tryz.isAgg144
  z46 := Tryz.sizeOf144
  v46 := Tryz.zeroValue144
  t49 := Tryz.underlying218
  a49 := Tryz.isAgg218
  z49 := Tryz.sizeOf218
  v49 := Tryz.zeroValue218
  t193 := Tryz.underlying214
  a193 := Tryz.isAgg214
  z193 := Tryz.sizeOf214
  v193 := Tryz.zeroValue214
  t198 := Tryz.underlying220
  a198 := Tryz.isAgg220
  z198 := Tryz.sizeOf220
  v198 := Tryz.zeroValue220
  t226 := Tryz.underlying235
  a226 := Tryz.isAgg235
  z226 := Tryz.sizeOf235
  v226 := Tryz.zeroValue235 }
open Go.RowKit Go.Lib in
theorem Tryz.unicode_is16_white (R oR : Nat) (z : Nat) (w : World) (hz : z < 65536) (hz0 : 255 < z) (c6 : w.cell? ⟨R, oR + 6, none⟩ = some (.int .u16 160)) (c7 : w.cell? ⟨R, oR + 7, none⟩ = some (.int .u16 5760)) (c8 : w.cell? ⟨R, oR + 8, none⟩ = some (.int .u16 5600)) (c9 : w.cell? ⟨R, oR + 9, none⟩ = some (.int .u16 8192)) (c10 : w.cell? ⟨R, oR + 10, none⟩ = some (.int .u16 8202)) (c11 : w.cell? ⟨R, oR + 11, none⟩ = some (.int .u16 1)) (c12 : w.cell? ⟨R, oR + 12, none⟩ = some (.int .u16 8232)) (c13 : w.cell? ⟨R, oR + 13, none⟩ = some (.int .u16 8233)) (c14 : w.cell? ⟨R, oR + 14, none⟩ = some (.int .u16 1)) (c15 : w.cell? ⟨R, oR + 15, none⟩ = some (.int .u16 8239)) (c16 : w.cell? ⟨R, oR + 16, none⟩ = some (.int .u16 8287)) (c17 : w.cell? ⟨R, oR + 17, none⟩ = some (.int .u16 48)) (c18 : w.cell? ⟨R, oR + 18, none⟩ = some (.int .u16 12288)) (c19 : w.cell? ⟨R, oR + 19, none⟩ = some (.int .u16 12288)) (c20 : w.cell? ⟨R, oR + 20, none⟩ = some (.int .u16 1)) :
    Calls Tryz.prog 202 #[.slice (some ⟨R, oR + 6, none⟩) 5 5, .int .u16 z] w fun e w' => e = .returned (.bool (Lib.isSpaceR z)) ∧ Below w.heap.size w w' := Any.unicode_is16_white Tryz.lays311 R oR z w hz hz0 c6 c7 c8 c9 c10 c11 c12 c13 c14 c15 c16 c17 c18 c19 c20
def Tryz.lays261_ren : Go.Shelf.Ren := ⟨fun | 261 => 190 | 311 => 202 | 312 => 203 | n => n, fun | 141 => 199 | 21 => 21 | 4 => 4 | 0 => 0 | 196 => 217 | 193 => 214 | 3 => 3 | 51 => 138 | 198 => 220 | 49 => 218 | 194 => 215 | 201 => 223 | 226 => 235 | 46 => 144 | 227 => 236 | n => n, fun | n => n⟩
theorem Tryz.lays261 : Go.Proofs.Lays.n261 Tryz.prog Tryz.lays261_ren := {
  mixed := by kernel_rfl
  f261 := Tryz.func190.trans (congrArg some (by kernel_rfl))
  f311 := Tryz.func202.trans (congrArg some (by kernel_rfl))
  f312 := Tryz.func203.trans (congrArg some (by kernel_rfl))
  t0 := Tryz.underlying0
  a0 := Tryz.isAgg0
  z0 := Tryz.sizeOf0
  v0 := Tryz.zeroValue0
  t3 := Tryz.underlying3
  a3 := Tryz.isAgg3
  z3 := Tryz.sizeOf3
  v3 := Tryz.zeroValue3
  t4 := Tryz.underlying4
  a4 := Tryz.isAgg4
  z4 := Tryz.sizeOf4
  v4 := Tryz.zeroValue4
  t21 := Tryz.underlying21
  a21 := Tryz.isAgg21
  z21 := Tryz.sizeOf21
  v21 := Tryz.zeroValue21
  t46 := Tryz.underlying144
  a46 := Tryz.isAgg144
  z46 := Tryz.sizeOf144
  v46 := Tryz.zeroValue144
  t49 := Tryz.underlying218
  a49 := Tryz.isAgg218
  z49 := Tryz.sizeOf218
  v49 := Tryz.zeroValue218
  t51 := Tryz.underlying138
  a51 := Tryz.isAgg138
  z51 := Tryz.sizeOf138
  v51 := Tryz.zeroValue138
  t141 := Tryz.underlying199
  a141 := Tryz.isAgg199
  z141 := Tryz.sizeOf199
  v141 := Tryz.zeroValue199
  t193 := Tryz.underlying214
  a193 := Tryz.isAgg214
  z193 := Tryz.sizeOf214
  v193 := Tryz.zeroValue214
  t194 := Tryz.underlying215
  a194 := Tryz.isAgg215
  z194 := Tryz.sizeOf215
  v194 := Tryz.zeroValue215
  t196 := Tryz.underlying217
  a196 := Tryz.isAgg217
  z196 := Tryz.sizeOf217
  v196 := Tryz.zeroValue217
  t198 := Tryz.underlying220
  a198 := Tryz.isAgg220
  z198 := Tryz.sizeOf220
  v198 := Tryz.zeroValue220
  t201 := Tryz.underlying223
  a201 := Tryz.isAgg223
  z201 := Tryz.sizeOf223
  v201 := Tryz.zeroValue223
  t226 := Tryz.underlying235
  a226 := Tryz.isAgg235
  z226 := Tryz.sizeOf235
  v226 := Tryz.zeroValue235
  t227 := Tryz.underlying236
  a227 := Tryz.isAgg236
  z227 := Tryz.sizeOf236
  v227 := Tryz.zeroValue236 }
open Go.RowKit Go.Lib in
/-- unicode.isExcludingLatin(White_Space, r), r beyond U+00FF or negative. (LAID: no walk: one application.) -/
theorem Tryz.unicode_isExcludingLatin_white (T oT R oR : Nat) (r : Int) (w : World) (hlo : -2147483648 ≤ r) (hhi : r ≤ 2147483647) (hr : r < 0 ∨ 255 < r) (h2 : w.cell? ⟨T, oT, none⟩ = some (.slice (some ⟨R, oR, none⟩) 7 7)) (h3 : w.cell? ⟨T, oT + 1, none⟩ = some (.slice none 0 0)) (h4 : w.cell? ⟨T, oT + 2, none⟩ = some (.int .i64 2)) (h5 : ∀ i, i < 21 → w.cell? ⟨R, oR + i, none⟩ = some (.int .u16 (whiteT.getD i 0))) :
    Calls Tryz.prog 190 #[.pointer (some ⟨T, oT, none⟩), .int .i32 r] w fun e w' => e = .returned (.bool (Lib.isSpaceZ r)) ∧ Below w.heap.size w w' := Any.unicode_isExcludingLatin_white Tryz.lays261 T oT R oR r w hlo hhi hr h2 h3 h4 h5
open Go.RowKit Go.Lib in
/-- **unicode.IsSpace AT EVERY int32.** (LAID: no walk: one application.) -/
theorem Tryz.unicode_IsSpace_any (r : Int) (w : World) (hlo : -2147483648 ≤ r) (hhi : r ≤ 2147483647) (hW : Lib.WhiteTab 3 w) :
    Calls Tryz.prog 165 #[.int .i32 r] w fun e w' => e = .returned (.bool (Lib.isSpaceZ r)) ∧ Below w.heap.size w w' := Any.unicode_IsSpace_any Tryz.lays199 r w hlo hhi hW
def Tryz.lays271_ren : Go.Shelf.Ren := ⟨fun | 271 => 204 | 120 => 210 | 197 => 181 | 260 => 199 | n => n, fun | 9 => 9 | 21 => 21 | 3 => 3 | 4 => 4 | 5 => 5 | 105 => 194 | 119 => 178 | 0 => 0 | 46 => 144 | 139 => 231 | 138 => 230 | n => n, fun | 3 => 10 | 4 => 11 | n => n⟩
theorem Tryz.lays271 : Go.Proofs.Lays.n271 Tryz.prog Tryz.lays271_ren := {
  mixed := by kernel_rfl
  f120 := Tryz.func210.trans (congrArg some (by kernel_rfl))
  f197 := Tryz.func181.trans (congrArg some (by kernel_rfl))
  f260 := Tryz.func199.trans (congrArg some (by kernel_rfl))
  f271 := Tryz.func204.trans (congrArg some (by kernel_rfl))
  t0 := Tryz.underlying0
  a0 := Tryz.isAgg0
  z0 := Tryz.sizeOf0
  v0 := Tryz.zeroValue0
  t3 := Tryz.underlying3
  a3 := Tryz.isAgg3
  z3 := Tryz.sizeOf3
  v3 := Tryz.zeroValue3
  t4 := Tryz.underlying4
  a4 := Tryz.isAgg4
  z4 := Tryz.sizeOf4
  v4 := Tryz.zeroValue4
  t5 := Tryz.underlying5
  a5 := Tryz.isAgg5
  z5 := Tryz.sizeOf5
  v5 := Tryz.zeroValue5
  t9 := Tryz.underlying9
  a9 := Tryz.isAgg9
  z9 := Tryz.sizeOf9
  v9 := Tryz.zeroValue9
  t21 := Tryz.underlying21
  a21 := Tryz.isAgg21
  z21 := Tryz.sizeOf21
  v21 := Tryz.zeroValue21
  t46 := Tryz.underlying144
  a46 := Tryz.isAgg144
  z46 := Tryz.sizeOf144
  v46 := Tryz.zeroValue144
  t105 := Tryz.underlying194
  a105 := Tryz.isAgg194
  z105 := Tryz.sizeOf194
  v105 := Tryz.zeroValue194
  t119 := Tryz.underlying178
  a119 := Tryz.isAgg178
  z119 := Tryz.sizeOf178
  t138 := Tryz.underlying230
  a138 := Tryz.isAgg230
  z138 := Tryz.sizeOf230
  v138 := Tryz.zeroValue230
  t139 := Tryz.underlying231
  a139 := Tryz.isAgg231
  z139 := Tryz.sizeOf231
  v139 := Tryz.zeroValue231
  g3 := by kernel_rfl
  g4 := by kernel_rfl }
open Go.RowKit Go.Lib in
/-- **unicode/utf8.DecodeLastRuneInString AT EVERY STRING.** (LAID: no walk: one application.) -/
theorem Tryz.utf8_DecodeLastRuneInString (s : ByteArray) (w : World) (hs : s.size ≤ 9223372036854775807) (hT : Lib.Utf8Tabs 10 11 w) :
    Calls Tryz.prog 204 #[.string s] w fun e w' => e = .returned (.tuple #[.int .i32 (Lib.decodeLastL s.data.toList).1, .int .i64 (Lib.decodeLastL s.data.toList).2]) ∧ Below w.heap.size w w' := Any.utf8_DecodeLastRuneInString Tryz.lays271 s w hs hT
open Go.RowKit in
theorem Tryz.strings_TrimSpace_any (s : ByteArray) (w : World) (hs : s.size ≤ 9223372036854775807) (htab : Lib.TabIs Tryz.prog w "strings.asciiSpace" .u8 Lib.asciiSpaceTab) (hU8 : Lib.Utf8Tabs 10 11 w) (hWS : Lib.WhiteTab 3 w) :
    Calls Tryz.prog 138 #[.string s] w fun e w' => e = .returned (.string ⟨(Lib.trimSpaceD s.data.toList).toArray⟩) ∧ Below w.heap.size w w' := Any.strings_TrimSpace_any Tryz.lays163 Tryz.Space_Extra_163 s w hs htab hU8 hWS
open Go.RowKit Go.Lib in
theorem Tryz.unicode_is16_white_d (R oR : Nat) (z : Nat) (w : World) (hz : z < 65536) (hz0 : 255 < z) (c6 : w.cell? ⟨R, oR + 6, none⟩ = some (.int .u16 160)) (c7 : w.cell? ⟨R, oR + 7, none⟩ = some (.int .u16 5760)) (c8 : w.cell? ⟨R, oR + 8, none⟩ = some (.int .u16 5600)) (c9 : w.cell? ⟨R, oR + 9, none⟩ = some (.int .u16 8192)) (c10 : w.cell? ⟨R, oR + 10, none⟩ = some (.int .u16 8202)) (c11 : w.cell? ⟨R, oR + 11, none⟩ = some (.int .u16 1)) (c12 : w.cell? ⟨R, oR + 12, none⟩ = some (.int .u16 8232)) (c13 : w.cell? ⟨R, oR + 13, none⟩ = some (.int .u16 8233)) (c14 : w.cell? ⟨R, oR + 14, none⟩ = some (.int .u16 1)) (c15 : w.cell? ⟨R, oR + 15, none⟩ = some (.int .u16 8239)) (c16 : w.cell? ⟨R, oR + 16, none⟩ = some (.int .u16 8287)) (c17 : w.cell? ⟨R, oR + 17, none⟩ = some (.int .u16 48)) (c18 : w.cell? ⟨R, oR + 18, none⟩ = some (.int .u16 12288)) (c19 : w.cell? ⟨R, oR + 19, none⟩ = some (.int .u16 12288)) (c20 : w.cell? ⟨R, oR + 20, none⟩ = some (.int .u16 1)) :
    Calls Tryz.prog 202 #[.slice (some ⟨R, oR + 6, none⟩) 5 5, .int .u16 z] w fun e w' => e = .returned (.bool (Lib.isSpaceR z)) ∧ ∃ q, w' = w.drewN q := Any.unicode_is16_white_d Tryz.lays311 R oR z w hz hz0 c6 c7 c8 c9 c10 c11 c12 c13 c14 c15 c16 c17 c18 c19 c20
def Tryz.lays274_ren : Go.Shelf.Ren := ⟨fun | 274 => 208 | n => n, fun | 21 => 21 | 162 => 212 | 160 => 232 | 3 => 3 | 4 => 4 | 46 => 144 | 0 => 0 | 208 => 241 | 51 => 138 | 206 => 239 | n => n, fun | n => n⟩
theorem Tryz.lays274 : Go.Proofs.Lays.n274 Tryz.prog Tryz.lays274_ren := {
  mixed := by kernel_rfl
  f274 := Tryz.func208.trans (congrArg some (by kernel_rfl))
  t0 := Tryz.underlying0
  a0 := Tryz.isAgg0
  z0 := Tryz.sizeOf0
  v0 := Tryz.zeroValue0
  t3 := Tryz.underlying3
  a3 := Tryz.isAgg3
  z3 := Tryz.sizeOf3
  v3 := Tryz.zeroValue3
  t4 := Tryz.underlying4
  a4 := Tryz.isAgg4
  z4 := Tryz.sizeOf4
  v4 := Tryz.zeroValue4
  t21 := Tryz.underlying21
  a21 := Tryz.isAgg21
  z21 := Tryz.sizeOf21
  v21 := Tryz.zeroValue21
  t46 := Tryz.underlying144
  a46 := Tryz.isAgg144
  z46 := Tryz.sizeOf144
  v46 := Tryz.zeroValue144
  t51 := Tryz.underlying138
  a51 := Tryz.isAgg138
  z51 := Tryz.sizeOf138
  v51 := Tryz.zeroValue138
  t160 := Tryz.underlying232
  a160 := Tryz.isAgg232
  z160 := Tryz.sizeOf232
  v160 := Tryz.zeroValue232
  t162 := Tryz.underlying212
  a162 := Tryz.isAgg212
  z162 := Tryz.sizeOf212
  v162 := Tryz.zeroValue212
  t208 := Tryz.underlying241
  a208 := Tryz.isAgg241
  z208 := Tryz.sizeOf241
  v208 := Tryz.zeroValue241 }
open Go.RowKit Go.Lib in
theorem Tryz.unicode_lookupCaseRange (T : Array CaseRow) (R oR cap : Nat) (r : Int) (w : World) (hT : CaseTab R oR T w) (hok : CaseOk T) (hn : T.size ≤ 1000000000) :
    Calls Tryz.prog 208 #[.int .i32 r, .slice (some ⟨R, oR, none⟩) T.size cap] w fun e w' =>
      e = .returned (match lookupIdx T r (T.size + 1) 0 T.size with | some i => .pointer (some ⟨R, oR + i * 5, none⟩) | none => .pointer none) ∧ w' = w := Any.unicode_lookupCaseRange Tryz.lays274 T R oR cap r w hT hok hn
def Tryz.lays275_ren : Go.Shelf.Ren := ⟨fun | 275 => 209 | n => n, fun | 3 => 3 | 21 => 21 | 160 => 232 | 0 => 0 | 208 => 241 | 206 => 239 | 4 => 4 | 51 => 138 | n => n, fun | n => n⟩
theorem Tryz.lays275 : Go.Proofs.Lays.n275 Tryz.prog Tryz.lays275_ren := {
  mixed := by kernel_rfl
  f275 := Tryz.func209.trans (congrArg some (by kernel_rfl))
  t0 := Tryz.underlying0
  a0 := Tryz.isAgg0
  z0 := Tryz.sizeOf0
  v0 := Tryz.zeroValue0
  t3 := Tryz.underlying3
  a3 := Tryz.isAgg3
  z3 := Tryz.sizeOf3
  v3 := Tryz.zeroValue3
  t4 := Tryz.underlying4
  a4 := Tryz.isAgg4
  z4 := Tryz.sizeOf4
  v4 := Tryz.zeroValue4
  t21 := Tryz.underlying21
  a21 := Tryz.isAgg21
  z21 := Tryz.sizeOf21
  v21 := Tryz.zeroValue21
  t51 := Tryz.underlying138
  a51 := Tryz.isAgg138
  z51 := Tryz.sizeOf138
  v51 := Tryz.zeroValue138
  t160 := Tryz.underlying232
  a160 := Tryz.isAgg232
  z160 := Tryz.sizeOf232
  v160 := Tryz.zeroValue232
  t206 := Tryz.underlying239
  a206 := Tryz.isAgg239
  z206 := Tryz.sizeOf239
  v206 := Tryz.zeroValue239
  t208 := Tryz.underlying241
  a208 := Tryz.isAgg241
  z208 := Tryz.sizeOf241
  v208 := Tryz.zeroValue241 }
open Go.RowKit Go.Lib in
theorem Tryz.unicode_convertCase (c : Nat) (hc : c < 3) (r : Int) (A o : Nat) (x : CaseRow) (w : World) (hlo : (x.1 : Int) ≤ r) (hhi : r ≤ (x.2.1 : Int)) (hH : x.2.1 < 2147483647) (c0 : w.cell? ⟨A, o, none⟩ = some (.int .u32 x.1)) (cD : w.cell? ⟨A, o + 2 + c, none⟩ = some (.int .i32 (x.delta c))) :
    Calls Tryz.prog 209 #[.int .i64 c, .int .i32 r, .pointer (some ⟨A, o, none⟩)] w fun e w' => e = .returned (.int .i32 (wrap32 (convertR c r x))) ∧ ∃ q, w' = w.drewN q := Any.unicode_convertCase Tryz.lays275 c hc r A o x w hlo hhi hH c0 cD
def Tryz.lays313_ren : Go.Shelf.Ren := ⟨fun | 313 => 200 | 274 => 208 | 275 => 209 | n => n, fun | 3 => 3 | 21 => 21 | 162 => 212 | 4 => 4 | 160 => 232 | 46 => 144 | 0 => 0 | 208 => 241 | 51 => 138 | 206 => 239 | n => n, fun | n => n⟩
theorem Tryz.lays313 : Go.Proofs.Lays.n313 Tryz.prog Tryz.lays313_ren := {
  mixed := by kernel_rfl
  f274 := Tryz.func208.trans (congrArg some (by kernel_rfl))
  f275 := Tryz.func209.trans (congrArg some (by kernel_rfl))
  f313 := Tryz.func200.trans (congrArg some (by kernel_rfl))
  t0 := Tryz.underlying0
  a0 := Tryz.isAgg0
  z0 := Tryz.sizeOf0
  v0 := Tryz.zeroValue0
  t3 := Tryz.underlying3
  a3 := Tryz.isAgg3
  z3 := Tryz.sizeOf3
  v3 := Tryz.zeroValue3
  t4 := Tryz.underlying4
  a4 := Tryz.isAgg4
  z4 := Tryz.sizeOf4
  v4 := Tryz.zeroValue4
  t21 := Tryz.underlying21
  a21 := Tryz.isAgg21
  z21 := Tryz.sizeOf21
  v21 := Tryz.zeroValue21
  t46 := Tryz.underlying144
  a46 := Tryz.isAgg144
  z46 := Tryz.sizeOf144
  v46 := Tryz.zeroValue144
  t51 := Tryz.underlying138
  a51 := Tryz.isAgg138
  z51 := Tryz.sizeOf138
  v51 := Tryz.zeroValue138
  t160 := Tryz.underlying232
  a160 := Tryz.isAgg232
  z160 := Tryz.sizeOf232
  v160 := Tryz.zeroValue232
  t162 := Tryz.underlying212
  a162 := Tryz.isAgg212
  z162 := Tryz.sizeOf212
  v162 := Tryz.zeroValue212
  t206 := Tryz.underlying239
  a206 := Tryz.isAgg239
  z206 := Tryz.sizeOf239
  v206 := Tryz.zeroValue239
  t208 := Tryz.underlying241
  a208 := Tryz.isAgg241
  z208 := Tryz.sizeOf241
  v208 := Tryz.zeroValue241 }
open Go.RowKit Go.Lib in
theorem Tryz.unicode_to (c : Nat) (hc : c < 3) (r : Int) (T : Array CaseRow) (R oR cap : Nat) (w : World) (hT : CaseTab R oR T w) (hok : CaseOk2 T) (hn : T.size ≤ 1000000000) :
    Calls Tryz.prog 200 #[.int .i64 c, .int .i32 r, .slice (some ⟨R, oR, none⟩) T.size cap] w fun e w' => e = .returned (.tuple #[.int .i32 (toW T c r), .bool (lookupIdx T r (T.size + 1) 0 T.size).isSome]) ∧ ∃ q, w' = w.drewN q := Any.unicode_to Tryz.lays313 c hc r T R oR cap w hT hok hn
def Tryz.lays262_ren : Go.Shelf.Ren := ⟨fun | 262 => 184 | 313 => 200 | 274 => 208 | 275 => 209 | n => n, fun | 3 => 3 | 21 => 21 | 162 => 212 | 203 => 210 | 4 => 4 | 160 => 232 | 46 => 144 | 0 => 0 | 208 => 241 | 51 => 138 | 206 => 239 | n => n, fun | 13 => 4 | n => n⟩
theorem Tryz.lays262 : Go.Proofs.Lays.n262 Tryz.prog Tryz.lays262_ren := {
  mixed := by kernel_rfl
  f262 := Tryz.func184.trans (congrArg some (by kernel_rfl))
  f274 := Tryz.func208.trans (congrArg some (by kernel_rfl))
  f275 := Tryz.func209.trans (congrArg some (by kernel_rfl))
  f313 := Tryz.func200.trans (congrArg some (by kernel_rfl))
  t0 := Tryz.underlying0
  a0 := Tryz.isAgg0
  z0 := Tryz.sizeOf0
  v0 := Tryz.zeroValue0
  t3 := Tryz.underlying3
  a3 := Tryz.isAgg3
  z3 := Tryz.sizeOf3
  v3 := Tryz.zeroValue3
  t4 := Tryz.underlying4
  a4 := Tryz.isAgg4
  z4 := Tryz.sizeOf4
  v4 := Tryz.zeroValue4
  t21 := Tryz.underlying21
  a21 := Tryz.isAgg21
  z21 := Tryz.sizeOf21
  v21 := Tryz.zeroValue21
  t46 := Tryz.underlying144
  a46 := Tryz.isAgg144
  z46 := Tryz.sizeOf144
  v46 := Tryz.zeroValue144
  t51 := Tryz.underlying138
  a51 := Tryz.isAgg138
  z51 := Tryz.sizeOf138
  v51 := Tryz.zeroValue138
  t160 := Tryz.underlying232
  a160 := Tryz.isAgg232
  z160 := Tryz.sizeOf232
  v160 := Tryz.zeroValue232
  t162 := Tryz.underlying212
  a162 := Tryz.isAgg212
  z162 := Tryz.sizeOf212
  v162 := Tryz.zeroValue212
  t203 := Tryz.underlying210
  a203 := Tryz.isAgg210
  z203 := Tryz.sizeOf210
  v203 := Tryz.zeroValue210
  t206 := Tryz.underlying239
  a206 := Tryz.isAgg239
  z206 := Tryz.sizeOf239
  v206 := Tryz.zeroValue239
  t208 := Tryz.underlying241
  a208 := Tryz.isAgg241
  z208 := Tryz.sizeOf241
  v208 := Tryz.zeroValue241
  g13 := by kernel_rfl }
open Go.RowKit Go.Lib in
theorem Tryz.unicode_To (c : Nat) (hc : c < 3) (r : Int) (T : Array CaseRow) (w : World) (hV : CaseVar 4 T w) (hok : CaseOk2 T) (hn : T.size ≤ 1000000000) :
    Calls Tryz.prog 184 #[.int .i64 c, .int .i32 r] w fun e w' => e = .returned (.int .i32 (toW T c r)) ∧ ∃ q, w' = w.drewN q := Any.unicode_To Tryz.lays262 c hc r T w hV hok hn
open Go.RowKit Go.Lib in
theorem Tryz.unicode_ToLower_any (r : Int) (T : Array CaseRow) (w : World) (hV : CaseVar 4 T w) (hok : CaseOk2 T) (hn : T.size ≤ 1000000000) :
    Calls Tryz.prog 154 #[.int .i32 r] w fun e w' => e = .returned (.int .i32 (Lib.toLowerW T r)) ∧ ∃ q, w' = w.drewN q := Any.unicode_ToLower_any Tryz.lays204 r T w hV hok hn
open Go.RowKit Go.Lib in
theorem Tryz.unicode_ToUpper_any (r : Int) (T : Array CaseRow) (w : World) (hV : CaseVar 4 T w) (hok : CaseOk2 T) (hn : T.size ≤ 1000000000) :
    Calls Tryz.prog 157 #[.int .i32 r] w fun e w' => e = .returned (.int .i32 (Lib.toUpperW T r)) ∧ ∃ q, w' = w.drewN q := Any.unicode_ToUpper_any Tryz.lays203 r T w hV hok hn
open Go.RowKit Go.Lib in
theorem Tryz.unicode_ToLower_laid (r : Int) (w : World) (hV : CaseVar 4 caseA w) :
    Calls Tryz.prog 154 #[.int .i32 r] w fun e w' => e = .returned (.int .i32 (toLowerU r)) ∧ ∃ q, w' = w.drewN q := Any.unicode_ToLower_laid Tryz.lays204 r w hV
open Go.RowKit Go.Lib in
theorem Tryz.unicode_ToUpper_laid (r : Int) (w : World) (hV : CaseVar 4 caseA w) :
    Calls Tryz.prog 157 #[.int .i32 r] w fun e w' => e = .returned (.int .i32 (toUpperU r)) ∧ ∃ q, w' = w.drewN q := Any.unicode_ToUpper_laid Tryz.lays203 r w hV
def Tryz.lays270_ren : Go.Shelf.Ren := ⟨fun | 270 => 183 | n => n, fun | 70 => 104 | 3 => 3 | 0 => 0 | 72 => 106 | 37 => 84 | 5 => 5 | n => n, fun | n => n⟩
theorem Tryz.lays270 : Go.Proofs.Lays.n270 Tryz.prog Tryz.lays270_ren := {
  mixed := by kernel_rfl
  f270 := Tryz.func183.trans (congrArg some (by kernel_rfl))
  t0 := Tryz.underlying0
  a0 := Tryz.isAgg0
  z0 := Tryz.sizeOf0
  v0 := Tryz.zeroValue0
  t3 := Tryz.underlying3
  a3 := Tryz.isAgg3
  z3 := Tryz.sizeOf3
  v3 := Tryz.zeroValue3
  t37 := Tryz.underlying84
  a37 := Tryz.isAgg84
  z37 := Tryz.sizeOf84
  v37 := Tryz.zeroValue84
  t70 := Tryz.underlying104
  a70 := Tryz.isAgg104
  z70 := Tryz.sizeOf104
  v70 := Tryz.zeroValue104
  t72 := Tryz.underlying106
  a72 := Tryz.isAgg106
  z72 := Tryz.sizeOf106
  v72 := Tryz.zeroValue106 }
open Go.RowKit Go.Lib in
/-- (*strings.Builder).Cap: "Cap returns the capacity of the builder's underlying byte slice." (LAID: no walk: one application.) -/
theorem Tryz.Builder_Cap_cell (b : Nat) (p : Option Addr) (n cap : Nat) (w : World) (c1 : w.cell? ⟨b, 1, none⟩ = some (.slice p n cap)) :
    Calls Tryz.prog 183 #[.pointer (some ⟨b, 0, none⟩)] w fun e w' => e = .returned (.int .i64 cap) ∧ w' = w := Any.Builder_Cap_cell Tryz.lays270 b p n cap w c1
def Tryz.lays230_ren : Go.Shelf.Ren := ⟨fun | 230 => 153 | 197 => 181 | 118 => 182 | 165 => 74 | 166 => 89 | 168 => 78 | 270 => 183 | 167 => 152 | 169 => 79 | 260 => 199 | 240 => 97 | 241 => 98 | 242 => 84 | 276 => 125 | 277 => 126 | 278 => 107 | n => n, fun | 107 => 173 | 9 => 9 | 72 => 106 | 0 => 0 | 4 => 4 | 3 => 3 | 21 => 21 | 105 => 194 | 76 => 117 | 5 => 5 | 75 => 116 | 70 => 104 | 20 => 20 | 37 => 84 | 127 => 136 | 119 => 178 | 46 => 144 | 139 => 231 | 138 => 230 | 164 => 148 | 51 => 138 | 80 => 79 | n => n, fun | 3 => 10 | 4 => 11 | n => n⟩
theorem Tryz.lays230 : Go.Proofs.Lays.n230 Tryz.prog Tryz.lays230_ren := {
  mixed := by kernel_rfl
  f118 := Tryz.func182.trans (congrArg some (by kernel_rfl))
  f165 := Tryz.func74.trans (congrArg some (by kernel_rfl))
  f166 := Tryz.func89.trans (congrArg some (by kernel_rfl))
  f167 := Tryz.func152.trans (congrArg some (by kernel_rfl))
  f168 := Tryz.func78.trans (congrArg some (by kernel_rfl))
  f169 := Tryz.func79.trans (congrArg some (by kernel_rfl))
  f197 := Tryz.func181.trans (congrArg some (by kernel_rfl))
  f230 := Tryz.func153.trans (congrArg some (by kernel_rfl))
  f240 := Tryz.func97.trans (congrArg some (by kernel_rfl))
  f241 := Tryz.func98.trans (congrArg some (by kernel_rfl))
  f242 := Tryz.func84.trans (congrArg some (by kernel_rfl))
  f260 := Tryz.func199.trans (congrArg some (by kernel_rfl))
  f270 := Tryz.func183.trans (congrArg some (by kernel_rfl))
  f276 := Tryz.func125.trans (congrArg some (by kernel_rfl))
  f277 := Tryz.func126.trans (congrArg some (by kernel_rfl))
  f278 := Tryz.func107.trans (congrArg some (by kernel_rfl))
  t0 := Tryz.underlying0
  a0 := Tryz.isAgg0
  z0 := Tryz.sizeOf0
  v0 := Tryz.zeroValue0
  t3 := Tryz.underlying3
  a3 := Tryz.isAgg3
  z3 := Tryz.sizeOf3
  v3 := Tryz.zeroValue3
  t4 := Tryz.underlying4
  a4 := Tryz.isAgg4
  z4 := Tryz.sizeOf4
  v4 := Tryz.zeroValue4
  t5 := Tryz.underlying5
  a5 := Tryz.isAgg5
  z5 := Tryz.sizeOf5
  v5 := Tryz.zeroValue5
  t9 := Tryz.underlying9
  a9 := Tryz.isAgg9
  z9 := Tryz.sizeOf9
  v9 := Tryz.zeroValue9
  t20 := Tryz.underlying20
  a20 := Tryz.isAgg20
  z20 := Tryz.sizeOf20
  v20 := Tryz.zeroValue20
  t21 := Tryz.underlying21
  a21 := Tryz.isAgg21
  z21 := Tryz.sizeOf21
  v21 := Tryz.zeroValue21
  t37 := Tryz.underlying84
  a37 := Tryz.isAgg84
  z37 := Tryz.sizeOf84
  v37 := Tryz.zeroValue84
  t46 := Tryz.underlying144
  a46 := Tryz.isAgg144
  z46 := Tryz.sizeOf144
  v46 := Tryz.zeroValue144
  t51 := Tryz.underlying138
  a51 := Tryz.isAgg138
  z51 := Tryz.sizeOf138
  v51 := Tryz.zeroValue138
  t70 := Tryz.underlying104
  a70 := Tryz.isAgg104
  z70 := Tryz.sizeOf104
  v70 := Tryz.zeroValue104
  t72 := Tryz.underlying106
  a72 := Tryz.isAgg106
  z72 := Tryz.sizeOf106
  v72 := Tryz.zeroValue106
  t75 := Tryz.underlying116
  a75 := Tryz.isAgg116
  z75 := Tryz.sizeOf116
  v75 := Tryz.zeroValue116
  t76 := Tryz.underlying117
  a76 := Tryz.isAgg117
  z76 := Tryz.sizeOf117
  v76 := Tryz.zeroValue117
  t105 := Tryz.underlying194
  a105 := Tryz.isAgg194
  z105 := Tryz.sizeOf194
  v105 := Tryz.zeroValue194
  t107 := Tryz.underlying173
  a107 := Tryz.isAgg173
  z107 := Tryz.sizeOf173
  v107 := Tryz.zeroValue173
  t119 := Tryz.underlying178
  a119 := Tryz.isAgg178
  z119 := Tryz.sizeOf178
  t127 := Tryz.underlying136
  a127 := Tryz.isAgg136
  z127 := Tryz.sizeOf136
  v127 := Tryz.zeroValue136
  t138 := Tryz.underlying230
  a138 := Tryz.isAgg230
  z138 := Tryz.sizeOf230
  v138 := Tryz.zeroValue230
  t139 := Tryz.underlying231
  a139 := Tryz.isAgg231
  z139 := Tryz.sizeOf231
  v139 := Tryz.zeroValue231
  t164 := Tryz.underlying148
  a164 := Tryz.isAgg148
  z164 := Tryz.sizeOf148
  v164 := Tryz.zeroValue148
  g3 := by kernel_rfl
  g4 := by kernel_rfl }
theorem Tryz.Builder_Extra_230 : Builder.Extra Tryz.prog Tryz.lays230_ren := {
  sizeBuilder := by kernel_rfl
  liesBuilder := by kernel_rfl
  t5 := Tryz.underlying5
  a5 := Tryz.isAgg5
  z5 := Tryz.sizeOf5
  v5 := Tryz.zeroValue5
  infoByte := by kernel_rfl
  cellsByte := by kernel_rfl
  sizeByte := by kernel_rfl
  neB5 := by decide }
open Go.RowKit Go.Lib in
theorem Tryz.strings_Map_runes (g : Nat) (lb : Array Value) (eg : ∀ args w, (callFunc g args).run Tryz.prog w = .ok (.enter g args) w) (f : Int → Int) (s : ByteArray) (w : World) (hs : s.size < 35184372088832) (hf : MapAtRunes Tryz.prog g lb f w) (hnn : ∀ x : Nat, x ≤ 1114111 → 0 ≤ f x ∧ f x ≤ 2147483647) (hT : Lib.Utf8Tabs 10 11 w) :
    Calls Tryz.prog 153 #[.func (.func g) #[] lb, .string s] w fun e w' => e = .returned (.string ⟨(Lib.mapD f s.data.toList).toArray⟩) ∧ Below w.heap.size w w' := Any.strings_Map_runes Tryz.lays230 Tryz.Builder_Extra_230 g lb eg f s w hs hf hnn hT
open Go.RowKit Go.Lib in
theorem Tryz.strings_ToLower_beyond (s : ByteArray) (w : World) (hs : s.size < 35184372088832) (hhigh : ∃ (j : Nat) (b : UInt8), s.data.toList[j]? = some b ∧ 128 ≤ b.toNat) (hV : CaseVar 4 caseA w) (hT : Lib.Utf8Tabs 10 11 w) :
    Calls Tryz.prog 127 #[.string s] w fun e w' => e = .returned (.string ⟨(Lib.toLowerD s.data.toList).toArray⟩) ∧ Below w.heap.size w w' := Any.strings_ToLower_beyond Tryz.lays159 Tryz.Builder_Extra_159 s w hs hhigh hV hT
open Go.RowKit Go.Lib in
/-- **strings.ToLower AT EVERY STRING, VALID UTF-8 OR NOT.** (LAID: no walk: one application.) -/
theorem Tryz.strings_ToLower_any (s : ByteArray) (w : World) (hs : s.size < 35184372088832) (hV : CaseVar 4 caseA w) (hT : Lib.Utf8Tabs 10 11 w) :
    Calls Tryz.prog 127 #[.string s] w fun e w' => e = .returned (.string ⟨(Lib.toLowerD s.data.toList).toArray⟩) ∧ Below w.heap.size w w' := Any.strings_ToLower_any Tryz.lays159 Tryz.Builder_Extra_159 s w hs hV hT
open Go.RowKit Go.Lib in
theorem Tryz.unicode_is16_any (T : Array Rg) (R oR cap : Nat) (z : Nat) (w : World) (hz : z < 65536) (hT : RgTab .u16 R oR T w) (hok : RgOk 65536 T) (hn : T.size ≤ 1000000000) :
    Calls Tryz.prog 202 #[.slice (some ⟨R, oR, none⟩) T.size cap, .int .u16 z] w fun e w' => e = .returned (.bool (is16Go T z)) ∧ ∃ q, w' = w.drewN q := Any.unicode_is16_any Tryz.lays311 T R oR cap z w hz hT hok hn
def Tryz.lays312_ren : Go.Shelf.Ren := ⟨fun | 312 => 203 | n => n, fun | 194 => 215 | 51 => 138 | 4 => 4 | 3 => 3 | 0 => 0 | 227 => 236 | 201 => 223 | 46 => 144 | n => n, fun | n => n⟩
theorem Tryz.lays312 : Go.Proofs.Lays.n312 Tryz.prog Tryz.lays312_ren := {
  mixed := by kernel_rfl
  f312 := Tryz.func203.trans (congrArg some (by kernel_rfl))
  t0 := Tryz.underlying0
  a0 := Tryz.isAgg0
  z0 := Tryz.sizeOf0
  v0 := Tryz.zeroValue0
  t3 := Tryz.underlying3
  a3 := Tryz.isAgg3
  z3 := Tryz.sizeOf3
  v3 := Tryz.zeroValue3
  t4 := Tryz.underlying4
  a4 := Tryz.isAgg4
  z4 := Tryz.sizeOf4
  v4 := Tryz.zeroValue4
  t46 := Tryz.underlying144
  a46 := Tryz.isAgg144
  z46 := Tryz.sizeOf144
  v46 := Tryz.zeroValue144
  t51 := Tryz.underlying138
  a51 := Tryz.isAgg138
  z51 := Tryz.sizeOf138
  v51 := Tryz.zeroValue138
  t194 := Tryz.underlying215
  a194 := Tryz.isAgg215
  z194 := Tryz.sizeOf215
  v194 := Tryz.zeroValue215
  t201 := Tryz.underlying223
  a201 := Tryz.isAgg223
  z201 := Tryz.sizeOf223
  v201 := Tryz.zeroValue223
  t227 := Tryz.underlying236
  a227 := Tryz.isAgg236
  z227 := Tryz.sizeOf236
  v227 := Tryz.zeroValue236 }
open Go.RowKit Go.Lib in
theorem Tryz.unicode_is32_any (T : Array Rg) (R oR cap : Nat) (z : Nat) (w : World) (hz : z < 4294967296) (hT : RgTab .u32 R oR T w) (hok : RgOk 4294967296 T) (hn : T.size ≤ 1000000000) :
    Calls Tryz.prog 203 #[.slice (some ⟨R, oR, none⟩) T.size cap, .int .u32 z] w fun e w' => e = .returned (.bool (is32Go T z)) ∧ Below w.heap.size w w' := Any.unicode_is32_any Tryz.lays312 T R oR cap z w hz hT hok hn
open Go.RowKit Go.Lib in
theorem Tryz.unicode_isExcludingLatin_any (Tb oT : Nat) (T : RTab) (r : Int) (w : World) (hlo : -2147483648 ≤ r) (hhi : r ≤ 2147483647) (hA : RTabAt Tb oT T w) (hok : RTabOk T) :
    Calls Tryz.prog 190 #[.pointer (some ⟨Tb, oT, none⟩), .int .i32 r] w fun e w' => e = .returned (.bool (exclGo T r)) ∧ Below w.heap.size w w' := Any.unicode_isExcludingLatin_any Tryz.lays261 Tb oT T r w hlo hhi hA hok
open Go.RowKit Go.Lib in
/-- unicode.IsLetter(r) AT EVERY int32, over whatever table the variable unicode.Letter leads to. (LAID: no walk: one application.) -/
theorem Tryz.unicode_IsLetter_any (T : RTab) (r : Int) (w : World) (hlo : -2147483648 ≤ r) (hhi : r ≤ 2147483647) (htab : Lib.TabIs Tryz.prog w "unicode.properties" .u8 Lib.propertiesTab) (hV : RVar 6 T w) (hok : RTabOk T) :
    Calls Tryz.prog 185 #[.int .i32 r] w fun e w' => e = .returned (.bool (if latin1 r then isLetterL r else exclGo T r)) ∧ Below w.heap.size w w' := Any.unicode_IsLetter_any Tryz.lays200 (by kernel_rfl) T r w hlo hhi htab hV hok
open Go.RowKit Go.Lib in
/-- unicode.IsDigit(r) AT EVERY int32, over whatever table the variable unicode.Digit leads to. (LAID: no walk: one application.) -/
theorem Tryz.unicode_IsDigit_any (T : RTab) (r : Int) (w : World) (hlo : -2147483648 ≤ r) (hhi : r ≤ 2147483647) (hV : RVar 7 T w) (hok : RTabOk T) :
    Calls Tryz.prog 186 #[.int .i32 r] w fun e w' => e = .returned (.bool (if r ≤ 255 then isDigitL r else exclGo T r)) ∧ Below w.heap.size w w' := Any.unicode_IsDigit_any Tryz.lays198 T r w hlo hhi hV hok
def Tryz.laysNm237_ren : Go.Shelf.Ren := ⟨fun | 37 => 198 | n => n, fun | 3 => 3 | 4 => 4 | n => n, fun | n => n⟩
theorem Tryz.laysNm237 : Go.Proofs.Lays2.n37 Tryz.prog Tryz.laysNm237_ren := {
  mixed := by kernel_rfl
  f37 := Tryz.func198.trans (congrArg some (by kernel_rfl))
  t3 := Tryz.underlying3
  a3 := Tryz.isAgg3
  z3 := Tryz.sizeOf3
  v3 := Tryz.zeroValue3
  t4 := Tryz.underlying4
  a4 := Tryz.isAgg4
  z4 := Tryz.sizeOf4
  v4 := Tryz.zeroValue4 }
open Go.RowKit Go.Lib in
/-- cmp.isNaN[int]: 'x != x': false. (LAID: no walk: one application.) -/
theorem Tryz.cmp_isNaN_int2 (x : Int) (w : World) :
    Calls Tryz.prog 198 #[.int .i64 x] w fun e w' => e = .returned (.bool false) ∧ w' = w := Any.cmp_isNaN_int2 Tryz.laysNm237 x w
def Tryz.laysNm231_ren : Go.Shelf.Ren := ⟨fun | 31 => 177 | 37 => 198 | n => n, fun | 3 => 3 | 4 => 4 | n => n, fun | n => n⟩
theorem Tryz.laysNm231 : Go.Proofs.Lays2.n31 Tryz.prog Tryz.laysNm231_ren := {
  mixed := by kernel_rfl
  f31 := Tryz.func177.trans (congrArg some (by kernel_rfl))
  f37 := Tryz.func198.trans (congrArg some (by kernel_rfl))
  t3 := Tryz.underlying3
  a3 := Tryz.isAgg3
  z3 := Tryz.sizeOf3
  v3 := Tryz.zeroValue3
  t4 := Tryz.underlying4
  a4 := Tryz.isAgg4
  z4 := Tryz.sizeOf4
  v4 := Tryz.zeroValue4 }
open Go.RowKit Go.Lib in
/-- cmp.Less[int]: "Less reports whether x is less than y.": 'x < y'; the world is as it was. (LAID: no walk: one application.) -/
theorem Tryz.cmp_Less_int2 (x y : Int) (w : World) :
    Calls Tryz.prog 177 #[.int .i64 x, .int .i64 y] w fun e w' => e = .returned (.bool (decide (x < y))) ∧ w' = w := Any.cmp_Less_int2 Tryz.laysNm231 x y w
open Go.RowKit Go.Sort in
/-- .. and plain. (LAID: no walk: one application.) -/
theorem Tryz.slices_Sort_int_none (p : Option Addr) (cap : Nat) (w : World) :
    Calls Tryz.prog 114 #[.slice p 0 cap] w fun e w' => e = .returned (.tuple #[]) ∧ w' = w := Any.slices_Sort_int_none Tryz.lays189 p cap w
open Go.RowKit Go.Sort in
/-- .. and plain. (LAID: no walk: one application.) -/
theorem Tryz.sort_Ints_none (p : Option Addr) (cap : Nat) (w : World) :
    Calls Tryz.prog 88 #[.slice p 0 cap] w fun e w' => e = .returned (.tuple #[]) ∧ w' = w := Any.sort_Ints_none Tryz.lays191 p cap w
def Tryz.laysnb116_ren : Go.Shelf.Ren := ⟨fun | 116 => 85 | 115 => 108 | n => n, fun | 37 => 84 | 4 => 4 | 3 => 3 | 9 => 9 | 5 => 5 | n => n, fun | n => n⟩
theorem Tryz.laysnb116 : Go.Proofs.Lays.nb116 Tryz.prog Tryz.laysnb116_ren := {
  mixed := by kernel_rfl
  f115 := Tryz.func108.trans (congrArg some (by kernel_rfl))
  f116 := Tryz.func85.trans (congrArg some (by kernel_rfl))
  t3 := Tryz.underlying3
  a3 := Tryz.isAgg3
  z3 := Tryz.sizeOf3
  v3 := Tryz.zeroValue3
  t4 := Tryz.underlying4
  a4 := Tryz.isAgg4
  z4 := Tryz.sizeOf4
  v4 := Tryz.zeroValue4
  t9 := Tryz.underlying9
  a9 := Tryz.isAgg9
  z9 := Tryz.sizeOf9
  v9 := Tryz.zeroValue9
  t37 := Tryz.underlying84
  a37 := Tryz.isAgg84
  z37 := Tryz.sizeOf84
  v37 := Tryz.zeroValue84
  t5 := Tryz.underlying5
  a5 := Tryz.isAgg5
  z5 := Tryz.sizeOf5
  v5 := Tryz.zeroValue5 }
theorem Tryz.bytes_HasPrefix_e2 (p1 p2 : Option Addr) (n c d : Nat) (w : World) :
    Calls Tryz.prog 85 #[.slice p1 n c, .slice p2 0 d] w fun e w' => e = .returned (.bool true) ∧ w' = w := Any.bytes_HasPrefix_e2 Tryz.laysnb116 p1 p2 n c d w
theorem Tryz.bytes_HasPrefix_e1 (p1 p2 : Option Addr) (c m d : Nat) (hm : 0 < m) (w : World) :
    Calls Tryz.prog 85 #[.slice p1 0 c, .slice p2 m d] w fun e w' => e = .returned (.bool false) ∧ w' = w := Any.bytes_HasPrefix_e1 Tryz.laysnb116 p1 p2 c m d hm w
def Tryz.laysnb117_ren : Go.Shelf.Ren := ⟨fun | 117 => 113 | 115 => 108 | n => n, fun | 37 => 84 | 4 => 4 | 3 => 3 | 9 => 9 | 5 => 5 | n => n, fun | n => n⟩
theorem Tryz.laysnb117 : Go.Proofs.Lays.nb117 Tryz.prog Tryz.laysnb117_ren := {
  mixed := by kernel_rfl
  f115 := Tryz.func108.trans (congrArg some (by kernel_rfl))
  f117 := Tryz.func113.trans (congrArg some (by kernel_rfl))
  t3 := Tryz.underlying3
  a3 := Tryz.isAgg3
  z3 := Tryz.sizeOf3
  v3 := Tryz.zeroValue3
  t4 := Tryz.underlying4
  a4 := Tryz.isAgg4
  z4 := Tryz.sizeOf4
  v4 := Tryz.zeroValue4
  t9 := Tryz.underlying9
  a9 := Tryz.isAgg9
  z9 := Tryz.sizeOf9
  v9 := Tryz.zeroValue9
  t37 := Tryz.underlying84
  a37 := Tryz.isAgg84
  z37 := Tryz.sizeOf84
  v37 := Tryz.zeroValue84
  t5 := Tryz.underlying5
  a5 := Tryz.isAgg5
  z5 := Tryz.sizeOf5
  v5 := Tryz.zeroValue5 }
theorem Tryz.bytes_HasSuffix_e2 (p1 p2 : Option Addr) (n c d : Nat) (_hnc : n ≤ c) (hbig : n ≤ 9223372036854775807) (w : World) :
    Calls Tryz.prog 113 #[.slice p1 n c, .slice p2 0 d] w fun e w' => e = .returned (.bool true) ∧ w' = w := Any.bytes_HasSuffix_e2 Tryz.laysnb117 p1 p2 n c d _hnc hbig w
theorem Tryz.bytes_HasSuffix_e1 (p1 p2 : Option Addr) (c m d : Nat) (hm : 0 < m) (w : World) :
    Calls Tryz.prog 113 #[.slice p1 0 c, .slice p2 m d] w fun e w' => e = .returned (.bool false) ∧ w' = w := Any.bytes_HasSuffix_e1 Tryz.laysnb117 p1 p2 c m d hm w
/-- bytes.HasPrefix: WHOLE: each argument nil, or of no byte at whatever address, or at an address with its cells. (LAID: no walk: one application.) -/
theorem Tryz.bytes_HasPrefix_all (p1 p2 : Option Addr) (n c m d : Nat) (xs ys : List Int) (w : World) (hx : xs.length = n) (hy : ys.length = m) (hnc : n ≤ c) (h1 : Lib.BytesIn w p1 n xs) (h2 : Lib.BytesIn w p2 m ys) :
    Calls Tryz.prog 85 #[.slice p1 n c, .slice p2 m d] w fun e w' => e = .returned (.bool (Lib.hasPrefix (Lib.bytesOf xs) (Lib.bytesOf ys))) ∧ w' = w := Any.bytes_HasPrefix_all Tryz.laysnb116 p1 p2 n c m d xs ys w hx hy hnc h1 h2
/-- bytes.HasSuffix: WHOLE: each argument nil, or of no byte at whatever address, or at an address with its cells. (LAID: no walk: one application.) -/
theorem Tryz.bytes_HasSuffix_all (p1 p2 : Option Addr) (n c m d : Nat) (xs ys : List Int) (w : World) (hx : xs.length = n) (hy : ys.length = m) (hnc : n ≤ c) (hbig : n ≤ 9223372036854775807) (h1 : Lib.BytesIn w p1 n xs) (h2 : Lib.BytesIn w p2 m ys) :
    Calls Tryz.prog 113 #[.slice p1 n c, .slice p2 m d] w fun e w' => e = .returned (.bool (Lib.hasSuffix (Lib.bytesOf xs) (Lib.bytesOf ys))) ∧ w' = w := Any.bytes_HasSuffix_all Tryz.laysnb117 p1 p2 n c m d xs ys w hx hy hnc hbig h1 h2
def Tryz.lays115_ren : Go.Shelf.Ren := ⟨fun | 115 => 108 | n => n, fun | 37 => 84 | 4 => 4 | 9 => 9 | 5 => 5 | n => n, fun | n => n⟩
theorem Tryz.lays115 : Go.Proofs.Lays.n115 Tryz.prog Tryz.lays115_ren := {
  mixed := by kernel_rfl
  f115 := Tryz.func108.trans (congrArg some (by kernel_rfl))
  t4 := Tryz.underlying4
  a4 := Tryz.isAgg4
  z4 := Tryz.sizeOf4
  v4 := Tryz.zeroValue4
  t9 := Tryz.underlying9
  a9 := Tryz.isAgg9
  z9 := Tryz.sizeOf9
  v9 := Tryz.zeroValue9
  t37 := Tryz.underlying84
  a37 := Tryz.isAgg84
  z37 := Tryz.sizeOf84
  v37 := Tryz.zeroValue84 }
/-- bytes.Equal: "Equal reports whether a and b are the same length and contain the same bytes. A nil argument is equivalent to an empty slice.": IT RETURNS 'the bytes of the one == the bytes of the other'; the world is as it was. THE TWO ARGUMENTS COME AS WHATEVER VALUES, each with the one fact that the walk wants of it: what 'string(..)' of it gives: for a slice whose cells you know: 'run_convert_bytes_arg' (Derived/Laws/BytesArg.lean) hands that fact; for a nil one: 'run_convert_bytes_nil' (with xs := []). (LAID: no walk: one application.) -/
theorem Tryz.bytes_Equal (v1 v2 : Value) (xs ys : List Int) (w : World) (h1 : (convert 84 9 v1).run Tryz.prog w = .ok (.string (strOfNums xs)) w) (h2 : (convert 84 9 v2).run Tryz.prog w = .ok (.string (strOfNums ys)) w) :
    Calls Tryz.prog 108 #[v1, v2] w fun e w' => e = .returned (.bool (Lib.bytesOf xs == Lib.bytesOf ys)) ∧ w' = w := Any.bytes_Equal Tryz.lays115 v1 v2 xs ys w h1 h2
/-- bytes.HasPrefix: "HasPrefix reports whether the byte slice s begins with prefix.": IT RETURNS 'Lib.hasPrefix (the bytes of s) (the bytes of prefix)'; the world is as it was. ITS CALLEE bytes.Equal IS MET BY ITS OWN CONTRACT OFF THE SHELF (lay that first). 'xs', 'ys': the numbers that the two slices' cells hold. (LAID: no walk: one application.) -/
theorem Tryz.bytes_HasPrefix (b1 o1 n c b2 o2 m d : Nat) (xs ys : List Int) (w : World) (hx : xs.length = n) (hy : ys.length = m) (hnc : n ≤ c) (hc1 : ∀ i, i < n → w.cell? ⟨b1, o1 + i, none⟩ = some (.int .u8 (xs.getD i 0))) (hc2 : ∀ i, i < m → w.cell? ⟨b2, o2 + i, none⟩ = some (.int .u8 (ys.getD i 0))) :
    Calls Tryz.prog 85 #[.slice (some ⟨b1, o1, none⟩) n c, .slice (some ⟨b2, o2, none⟩) m d] w fun e w' => e = .returned (.bool (Lib.hasPrefix (Lib.bytesOf xs) (Lib.bytesOf ys))) ∧ w' = w := Any.bytes_HasPrefix Tryz.laysnb116 b1 o1 n c b2 o2 m d xs ys w hx hy hnc hc1 hc2
/-- bytes.HasSuffix: "HasSuffix reports whether the byte slice s ends with suffix.": IT RETURNS 'Lib.hasSuffix (the bytes of s) (the bytes of suffix)'; the world is as it was. ITS CALLEE bytes.Equal IS MET BY ITS OWN CONTRACT OFF THE SHELF (lay that first). (An empty suffix too: there the model's slicing may keep the slice's address, where the cut falls at its very capacity: the value bears an 'if': 'gA' pays both arms.) (LAID: no walk: one application.) -/
theorem Tryz.bytes_HasSuffix (b1 o1 n c b2 o2 m d : Nat) (xs ys : List Int) (w : World) (hx : xs.length = n) (hy : ys.length = m) (hnc : n ≤ c) (hbig : n ≤ 9223372036854775807) (hc1 : ∀ i, i < n → w.cell? ⟨b1, o1 + i, none⟩ = some (.int .u8 (xs.getD i 0))) (hc2 : ∀ i, i < m → w.cell? ⟨b2, o2 + i, none⟩ = some (.int .u8 (ys.getD i 0))) :
    Calls Tryz.prog 113 #[.slice (some ⟨b1, o1, none⟩) n c, .slice (some ⟨b2, o2, none⟩) m d] w fun e w' => e = .returned (.bool (Lib.hasSuffix (Lib.bytesOf xs) (Lib.bytesOf ys))) ∧ w' = w := Any.bytes_HasSuffix Tryz.laysnb117 b1 o1 n c b2 o2 m d xs ys w hx hy hnc hbig hc1 hc2
def Tryz.lays240_ren : Go.Shelf.Ren := ⟨fun | 240 => 97 | 276 => 125 | n => n, fun | 0 => 0 | 4 => 4 | 5 => 5 | 9 => 9 | 20 => 20 | 37 => 84 | 70 => 104 | 72 => 106 | 80 => 79 | 164 => 148 | n => n, fun | n => n⟩
theorem Tryz.lays240 : Go.Proofs.Lays.n240 Tryz.prog Tryz.lays240_ren := {
  mixed := by kernel_rfl
  f240 := Tryz.func97.trans (congrArg some (by kernel_rfl))
  f276 := Tryz.func125.trans (congrArg some (by kernel_rfl))
  t0 := Tryz.underlying0
  a0 := Tryz.isAgg0
  z0 := Tryz.sizeOf0
  v0 := Tryz.zeroValue0
  t4 := Tryz.underlying4
  a4 := Tryz.isAgg4
  z4 := Tryz.sizeOf4
  v4 := Tryz.zeroValue4
  t9 := Tryz.underlying9
  a9 := Tryz.isAgg9
  z9 := Tryz.sizeOf9
  v9 := Tryz.zeroValue9
  t20 := Tryz.underlying20
  a20 := Tryz.isAgg20
  z20 := Tryz.sizeOf20
  v20 := Tryz.zeroValue20
  t70 := Tryz.underlying104
  a70 := Tryz.isAgg104
  z70 := Tryz.sizeOf104
  v70 := Tryz.zeroValue104
  t72 := Tryz.underlying106
  a72 := Tryz.isAgg106
  z72 := Tryz.sizeOf106
  v72 := Tryz.zeroValue106
  t164 := Tryz.underlying148
  a164 := Tryz.isAgg148
  z164 := Tryz.sizeOf148
  v164 := Tryz.zeroValue148 }
theorem Tryz.Builder_X72_240 : Builder.X72 Tryz.prog Tryz.lays240_ren := {
  sizeBuilder := by kernel_rfl
  liesBuilder := by kernel_rfl }
open Go.RowKit in
/-- (*strings.Builder).copyCheck (what every writing method calls first): behind it the builder is 'used': 'addr' holds its own address; its bytes are as they were. (LAID: no walk: one application.) -/
theorem Tryz.Builder_copyCheck (B b : Nat) (bs : List Value) (w : World) (h : Lib.IsBuilder 106 5 B b bs w) :
    Calls Tryz.prog 97 #[.pointer (some ⟨b, 0, none⟩)] w fun e w' => e = .returned (.tuple #[]) ∧ (Lib.BuilderAt 106 5 B b (.pointer (some ⟨b, 0, none⟩)) bs w' ∧ Below B w w') := Any.Builder_copyCheck Tryz.lays240 Tryz.Builder_X72_240 B b bs w h
def Tryz.lays167_ren : Go.Shelf.Ren := ⟨fun | 167 => 152 | 240 => 97 | 276 => 125 | n => n, fun | 0 => 0 | 4 => 4 | 5 => 5 | 9 => 9 | 20 => 20 | 37 => 84 | 70 => 104 | 72 => 106 | 75 => 116 | 80 => 79 | 164 => 148 | n => n, fun | n => n⟩
theorem Tryz.lays167 : Go.Proofs.Lays.n167 Tryz.prog Tryz.lays167_ren := {
  mixed := by kernel_rfl
  f167 := Tryz.func152.trans (congrArg some (by kernel_rfl))
  f240 := Tryz.func97.trans (congrArg some (by kernel_rfl))
  f276 := Tryz.func125.trans (congrArg some (by kernel_rfl))
  t0 := Tryz.underlying0
  a0 := Tryz.isAgg0
  z0 := Tryz.sizeOf0
  v0 := Tryz.zeroValue0
  t4 := Tryz.underlying4
  a4 := Tryz.isAgg4
  z4 := Tryz.sizeOf4
  v4 := Tryz.zeroValue4
  t5 := Tryz.underlying5
  a5 := Tryz.isAgg5
  z5 := Tryz.sizeOf5
  v5 := Tryz.zeroValue5
  t9 := Tryz.underlying9
  a9 := Tryz.isAgg9
  z9 := Tryz.sizeOf9
  v9 := Tryz.zeroValue9
  t20 := Tryz.underlying20
  a20 := Tryz.isAgg20
  z20 := Tryz.sizeOf20
  v20 := Tryz.zeroValue20
  t37 := Tryz.underlying84
  a37 := Tryz.isAgg84
  z37 := Tryz.sizeOf84
  v37 := Tryz.zeroValue84
  t70 := Tryz.underlying104
  a70 := Tryz.isAgg104
  z70 := Tryz.sizeOf104
  v70 := Tryz.zeroValue104
  t72 := Tryz.underlying106
  a72 := Tryz.isAgg106
  z72 := Tryz.sizeOf106
  v72 := Tryz.zeroValue106
  t75 := Tryz.underlying116
  a75 := Tryz.isAgg116
  z75 := Tryz.sizeOf116
  v75 := Tryz.zeroValue116
  t164 := Tryz.underlying148
  a164 := Tryz.isAgg148
  z164 := Tryz.sizeOf148
  v164 := Tryz.zeroValue148 }
theorem Tryz.Builder_Extra_167 : Builder.Extra Tryz.prog Tryz.lays167_ren := {
  sizeBuilder := by kernel_rfl
  liesBuilder := by kernel_rfl
  t5 := Tryz.underlying5
  a5 := Tryz.isAgg5
  z5 := Tryz.sizeOf5
  v5 := Tryz.zeroValue5
  infoByte := by kernel_rfl
  cellsByte := by kernel_rfl
  sizeByte := by kernel_rfl
  neB5 := by decide }
open Go.RowKit in
/-- (*strings.Builder).WriteByte: "WriteByte appends the byte c to b's buffer. The returned error is always nil.": UNDER Go's OWN LIMIT: the new length takes at most 2^47 bytes. (LAID: no walk: one application.) -/
theorem Tryz.Builder_WriteByte (B b : Nat) (bs : List Value) (c : Int) (w : World) (h : Lib.IsBuilder 106 5 B b bs w) (hlen : bs.length + 1 ≤ 140737488355328) (hBw : B ≤ w.heap.size) :
    Calls Tryz.prog 152 #[.pointer (some ⟨b, 0, none⟩), .int .u8 c] w fun e w' => e = .returned .nilIface ∧ (Lib.BuilderAt 106 5 B b (.pointer (some ⟨b, 0, none⟩)) (bs ++ [.int .u8 c]) w' ∧ Below B w w') := Any.Builder_WriteByte Tryz.lays167 Tryz.Builder_Extra_167 B b bs c w h hlen hBw
def Tryz.lays166_ren : Go.Shelf.Ren := ⟨fun | 166 => 89 | 240 => 97 | 276 => 125 | n => n, fun | 0 => 0 | 3 => 3 | 4 => 4 | 5 => 5 | 9 => 9 | 20 => 20 | 37 => 84 | 70 => 104 | 72 => 106 | 75 => 116 | 80 => 79 | 164 => 148 | n => n, fun | n => n⟩
theorem Tryz.lays166 : Go.Proofs.Lays.n166 Tryz.prog Tryz.lays166_ren := {
  mixed := by kernel_rfl
  f166 := Tryz.func89.trans (congrArg some (by kernel_rfl))
  f240 := Tryz.func97.trans (congrArg some (by kernel_rfl))
  f276 := Tryz.func125.trans (congrArg some (by kernel_rfl))
  t0 := Tryz.underlying0
  a0 := Tryz.isAgg0
  z0 := Tryz.sizeOf0
  v0 := Tryz.zeroValue0
  t3 := Tryz.underlying3
  a3 := Tryz.isAgg3
  z3 := Tryz.sizeOf3
  v3 := Tryz.zeroValue3
  t4 := Tryz.underlying4
  a4 := Tryz.isAgg4
  z4 := Tryz.sizeOf4
  v4 := Tryz.zeroValue4
  t9 := Tryz.underlying9
  a9 := Tryz.isAgg9
  z9 := Tryz.sizeOf9
  v9 := Tryz.zeroValue9
  t20 := Tryz.underlying20
  a20 := Tryz.isAgg20
  z20 := Tryz.sizeOf20
  v20 := Tryz.zeroValue20
  t37 := Tryz.underlying84
  a37 := Tryz.isAgg84
  z37 := Tryz.sizeOf84
  v37 := Tryz.zeroValue84
  t70 := Tryz.underlying104
  a70 := Tryz.isAgg104
  z70 := Tryz.sizeOf104
  v70 := Tryz.zeroValue104
  t72 := Tryz.underlying106
  a72 := Tryz.isAgg106
  z72 := Tryz.sizeOf106
  v72 := Tryz.zeroValue106
  t75 := Tryz.underlying116
  a75 := Tryz.isAgg116
  z75 := Tryz.sizeOf116
  v75 := Tryz.zeroValue116
  t164 := Tryz.underlying148
  a164 := Tryz.isAgg148
  z164 := Tryz.sizeOf148
  v164 := Tryz.zeroValue148 }
theorem Tryz.Builder_Extra_166 : Builder.Extra Tryz.prog Tryz.lays166_ren := {
  sizeBuilder := by kernel_rfl
  liesBuilder := by kernel_rfl
  t5 := Tryz.underlying5
  a5 := Tryz.isAgg5
  z5 := Tryz.sizeOf5
  v5 := Tryz.zeroValue5
  infoByte := by kernel_rfl
  cellsByte := by kernel_rfl
  sizeByte := by kernel_rfl
  neB5 := by decide }
open Go.RowKit in
/-- (*strings.Builder).WriteString: "WriteString appends the contents of s to b's buffer. It returns the length of s and a nil error.": UNDER Go's OWN LIMIT: the new length takes at most 2^47 bytes. (LAID: no walk: one application.) -/
theorem Tryz.Builder_WriteString (B b : Nat) (bs : List Value) (s : ByteArray) (w : World) (h : Lib.IsBuilder 106 5 B b bs w) (hlen : bs.length + s.size ≤ 140737488355328) (hBw : B ≤ w.heap.size) :
    Calls Tryz.prog 89 #[.pointer (some ⟨b, 0, none⟩), .string s] w fun e w' => e = .returned (.tuple #[.int .i64 s.size, .nilIface]) ∧ (Lib.BuilderAt 106 5 B b (.pointer (some ⟨b, 0, none⟩)) (bs ++ Lib.strCells s) w' ∧ Below B w w') := Any.Builder_WriteString Tryz.lays166 Tryz.Builder_Extra_166 B b bs s w h hlen hBw
open Go.RowKit in
/-- (*strings.Builder).copyCheck (what every writing method calls first): behind it the builder is 'used': 'addr' holds its own address; its bytes are as they were. (THE FORM '_f': OF A BUILDER WHOSE BUFFER's HEAD MAY BE FROZEN: 'Lib.IsBuilderF': one that 'String()' has read.) (LAID: no walk: one application.) -/
theorem Tryz.Builder_copyCheck_f (B b : Nat) (bs : List Value) (w : World) (h : Lib.IsBuilderF 106 5 B b bs w) :
    Calls Tryz.prog 97 #[.pointer (some ⟨b, 0, none⟩)] w fun e w' => e = .returned (.tuple #[]) ∧ (Lib.BuilderAtF 106 5 B b (.pointer (some ⟨b, 0, none⟩)) bs w' ∧ Below B w w') := Any.Builder_copyCheck_f Tryz.lays240 Tryz.Builder_X72_240 B b bs w h
open Go.RowKit in
/-- (*strings.Builder).WriteString: "WriteString appends the contents of s to b's buffer. It returns the length of s and a nil error.": UNDER Go's OWN LIMIT: the new length takes at most 2^47 bytes. (THE FORM '_f': OF A BUILDER THAT 'String()' HAS READ, TOO: the bytes go in BEHIND what is frozen, or, where there is no room, all goes over into a new row.) (LAID: no walk: one application.) -/
theorem Tryz.Builder_WriteString_f (B b : Nat) (bs : List Value) (s : ByteArray) (w : World) (h : Lib.IsBuilderF 106 5 B b bs w) (hlen : bs.length + s.size ≤ 140737488355328) (hBw : B ≤ w.heap.size) :
    Calls Tryz.prog 89 #[.pointer (some ⟨b, 0, none⟩), .string s] w fun e w' => e = .returned (.tuple #[.int .i64 s.size, .nilIface]) ∧ (Lib.BuilderAtF 106 5 B b (.pointer (some ⟨b, 0, none⟩)) (bs ++ Lib.strCells s) w' ∧ Below B w w') := Any.Builder_WriteString_f Tryz.lays166 Tryz.Builder_Extra_166 B b bs s w h hlen hBw
open Go.RowKit in
/-- (*strings.Builder).copyCheck (what every writing method calls first): behind it the builder is 'used': 'addr' holds its own address; its bytes are as they were. THE FORM '_k': OVER 'Lib.IsBuilderF' (a builder that 'String()' may have read), AND WITH THE FRAME THAT REACHES ABOVE THE BUILDER: 'Lib.OthersKept': every block that is not b and is no row of uint8's stands as it stood: the iterator of a range among them.' has read.) (LAID: no walk: one application.) -/
theorem Tryz.Builder_copyCheck_k (B b : Nat) (bs : List Value) (w : World) (h : Lib.IsBuilderF 106 5 B b bs w) :
    Calls Tryz.prog 97 #[.pointer (some ⟨b, 0, none⟩)] w fun e w' => e = .returned (.tuple #[]) ∧ (Lib.BuilderAtF 106 5 B b (.pointer (some ⟨b, 0, none⟩)) bs w' ∧ Below B w w' ∧ Lib.OthersKept 5 (some b) w w') := Any.Builder_copyCheck_k Tryz.lays240 Tryz.Builder_X72_240 B b bs w h
open Go.RowKit in
/-- (*strings.Builder).WriteByte: "WriteByte appends the byte c to b's buffer. The returned error is always nil.": UNDER Go's OWN LIMIT: the new length takes at most 2^47 bytes. (LAID: no walk: one application.) -/
theorem Tryz.Builder_WriteByte_k (B b : Nat) (bs : List Value) (c : Int) (w : World) (h : Lib.IsBuilderF 106 5 B b bs w) (hlen : bs.length + 1 ≤ 140737488355328) (hBw : B ≤ w.heap.size) :
    Calls Tryz.prog 152 #[.pointer (some ⟨b, 0, none⟩), .int .u8 c] w fun e w' => e = .returned .nilIface ∧ (Lib.BuilderAtF 106 5 B b (.pointer (some ⟨b, 0, none⟩)) (bs ++ [.int .u8 c]) w' ∧ Below B w w' ∧ Lib.OthersKept 5 (some b) w w') := Any.Builder_WriteByte_k Tryz.lays167 Tryz.Builder_Extra_167 B b bs c w h hlen hBw
open Go.RowKit in
/-- (*strings.Builder).WriteString: "WriteString appends the contents of s to b's buffer. It returns the length of s and a nil error.": UNDER Go's OWN LIMIT: the new length takes at most 2^47 bytes. THE FORM '_k': OVER 'Lib.IsBuilderF' (a builder that 'String()' may have read), AND WITH THE FRAME THAT REACHES ABOVE THE BUILDER: 'Lib.OthersKept': every block that is not b and is no row of uint8's stands as it stood: the iterator of a range among them.' HAS READ, TOO: the bytes go in BEHIND what is frozen, or, where there is no room, all goes over into a new row.) (LAID: no walk: one application.) -/
theorem Tryz.Builder_WriteString_k (B b : Nat) (bs : List Value) (s : ByteArray) (w : World) (h : Lib.IsBuilderF 106 5 B b bs w) (hlen : bs.length + s.size ≤ 140737488355328) (hBw : B ≤ w.heap.size) :
    Calls Tryz.prog 89 #[.pointer (some ⟨b, 0, none⟩), .string s] w fun e w' => e = .returned (.tuple #[.int .i64 s.size, .nilIface]) ∧ (Lib.BuilderAtF 106 5 B b (.pointer (some ⟨b, 0, none⟩)) (bs ++ Lib.strCells s) w' ∧ Below B w w' ∧ Lib.OthersKept 5 (some b) w w') := Any.Builder_WriteString_k Tryz.lays166 Tryz.Builder_Extra_166 B b bs s w h hlen hBw
def Tryz.lays168_ren : Go.Shelf.Ren := ⟨fun | 168 => 78 | 240 => 97 | 242 => 84 | 276 => 125 | 278 => 107 | n => n, fun | 0 => 0 | 3 => 3 | 4 => 4 | 5 => 5 | 9 => 9 | 20 => 20 | 21 => 21 | 37 => 84 | 46 => 144 | 51 => 138 | 70 => 104 | 72 => 106 | 75 => 116 | 80 => 79 | 164 => 148 | n => n, fun | n => n⟩
theorem Tryz.lays168 : Go.Proofs.Lays.n168 Tryz.prog Tryz.lays168_ren := {
  mixed := by kernel_rfl
  f168 := Tryz.func78.trans (congrArg some (by kernel_rfl))
  f240 := Tryz.func97.trans (congrArg some (by kernel_rfl))
  f242 := Tryz.func84.trans (congrArg some (by kernel_rfl))
  f276 := Tryz.func125.trans (congrArg some (by kernel_rfl))
  f278 := Tryz.func107.trans (congrArg some (by kernel_rfl))
  t0 := Tryz.underlying0
  a0 := Tryz.isAgg0
  z0 := Tryz.sizeOf0
  v0 := Tryz.zeroValue0
  t3 := Tryz.underlying3
  a3 := Tryz.isAgg3
  z3 := Tryz.sizeOf3
  v3 := Tryz.zeroValue3
  t4 := Tryz.underlying4
  a4 := Tryz.isAgg4
  z4 := Tryz.sizeOf4
  v4 := Tryz.zeroValue4
  t5 := Tryz.underlying5
  a5 := Tryz.isAgg5
  z5 := Tryz.sizeOf5
  v5 := Tryz.zeroValue5
  t9 := Tryz.underlying9
  a9 := Tryz.isAgg9
  z9 := Tryz.sizeOf9
  v9 := Tryz.zeroValue9
  t20 := Tryz.underlying20
  a20 := Tryz.isAgg20
  z20 := Tryz.sizeOf20
  v20 := Tryz.zeroValue20
  t21 := Tryz.underlying21
  a21 := Tryz.isAgg21
  z21 := Tryz.sizeOf21
  v21 := Tryz.zeroValue21
  t37 := Tryz.underlying84
  a37 := Tryz.isAgg84
  z37 := Tryz.sizeOf84
  v37 := Tryz.zeroValue84
  t46 := Tryz.underlying144
  a46 := Tryz.isAgg144
  z46 := Tryz.sizeOf144
  v46 := Tryz.zeroValue144
  t51 := Tryz.underlying138
  a51 := Tryz.isAgg138
  z51 := Tryz.sizeOf138
  v51 := Tryz.zeroValue138
  t70 := Tryz.underlying104
  a70 := Tryz.isAgg104
  z70 := Tryz.sizeOf104
  v70 := Tryz.zeroValue104
  t72 := Tryz.underlying106
  a72 := Tryz.isAgg106
  z72 := Tryz.sizeOf106
  v72 := Tryz.zeroValue106
  t75 := Tryz.underlying116
  a75 := Tryz.isAgg116
  z75 := Tryz.sizeOf116
  v75 := Tryz.zeroValue116
  t164 := Tryz.underlying148
  a164 := Tryz.isAgg148
  z164 := Tryz.sizeOf148
  v164 := Tryz.zeroValue148 }
theorem Tryz.Builder_Extra_168 : Builder.Extra Tryz.prog Tryz.lays168_ren := {
  sizeBuilder := by kernel_rfl
  liesBuilder := by kernel_rfl
  t5 := Tryz.underlying5
  a5 := Tryz.isAgg5
  z5 := Tryz.sizeOf5
  v5 := Tryz.zeroValue5
  infoByte := by kernel_rfl
  cellsByte := by kernel_rfl
  sizeByte := by kernel_rfl
  neB5 := by decide }
open Go.RowKit in
/-- (*strings.Builder).WriteRune: "WriteRune appends the UTF-8 encoding of Unicode code point r to b's buffer. It returns the length of r and a nil error.": EVERY RUNE (every int32: what is no rune goes in as U+FFFD's three bytes): 'Lib.runeCells r' (as bytes: 'Lib.encodeRune r': 'Lib.byteCells_encodeRune'); UNDER Go's OWN LIMIT: the new length takes at most 2^47 bytes. THE FORM '_k': OVER 'Lib.IsBuilderF', WITH THE FRAME THAT REACHES ABOVE THE BUILDER ('Lib.OthersKept'). (LAID: no walk: one application.) -/
theorem Tryz.Builder_WriteRune_k (B b : Nat) (bs : List Value) (r : Int) (hr0 : -2147483648 ≤ r) (hr1 : r ≤ 2147483647) (w : World) (h : Lib.IsBuilderF 106 5 B b bs w) (hlen : bs.length + 4 ≤ 140737488355328) (hBw : B ≤ w.heap.size) :
    Calls Tryz.prog 78 #[.pointer (some ⟨b, 0, none⟩), .int .i32 r] w fun e w' => e = .returned (.tuple #[.int .i64 (Lib.runeCells r).length, .nilIface]) ∧ (Lib.BuilderAtF 106 5 B b (.pointer (some ⟨b, 0, none⟩)) (bs ++ Lib.runeCells r) w' ∧ Below B w w' ∧ Lib.OthersKept 5 (some b) w w') := Any.Builder_WriteRune_k Tryz.lays168 Tryz.Builder_Extra_168 B b bs r hr0 hr1 w h hlen hBw
open Go.RowKit in
theorem Tryz.Builder_copyCheck_kc (B b : Nat) (bs : List Value) (w : World) (h : Lib.IsBuilderF 106 5 B b bs w) :
    Calls Tryz.prog 97 #[.pointer (some ⟨b, 0, none⟩)] w fun e w' => e = .returned (.tuple #[]) ∧ (Lib.BuilderAtF 106 5 B b (.pointer (some ⟨b, 0, none⟩)) bs w' ∧ Below B w w' ∧ Lib.OthersKept 5 (some b) w w') ∧ w'.cell? ⟨b, 1, none⟩ = w.cell? ⟨b, 1, none⟩ := Any.Builder_copyCheck_kc Tryz.lays240 Tryz.Builder_X72_240 B b bs w h
open Go.RowKit in
theorem Tryz.Builder_WriteString_kc (B b : Nat) (bs : List Value) (s : ByteArray) (w : World) (h : Lib.IsBuilderF 106 5 B b bs w) (hlen : bs.length + s.size ≤ 140737488355328) (hBw : B ≤ w.heap.size) :
    Calls Tryz.prog 89 #[.pointer (some ⟨b, 0, none⟩), .string s] w fun e w' => e = .returned (.tuple #[.int .i64 s.size, .nilIface]) ∧ (Lib.BuilderAtF 106 5 B b (.pointer (some ⟨b, 0, none⟩)) (bs ++ Lib.strCells s) w' ∧ Below B w w' ∧ Lib.OthersKept 5 (some b) w w') ∧ ∀ v0, w.cell? ⟨b, 1, none⟩ = some v0 → ∃ v1, w'.cell? ⟨b, 1, none⟩ = some v1 ∧ v0.capOf ≤ v1.capOf := Any.Builder_WriteString_kc Tryz.lays166 Tryz.Builder_Extra_166 B b bs s w h hlen hBw
end Go.Proofs
