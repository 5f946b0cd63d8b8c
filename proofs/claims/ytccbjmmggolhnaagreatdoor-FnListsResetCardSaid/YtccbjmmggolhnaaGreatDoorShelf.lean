/-
  DERIVED: THE SHELF's CONTRACTS AT THIS DUMP, IN PLAIN WORDS (tools/lay-plain.mjs out of 'TryzShelf.lean', which tools/lay-shelf.mjs wrote): THE SAME DECLARATIONS UNDER THE SAME NAMES: 'import', 'namespace', 'open', 'def', 'theorem' AND NOTHING ELSE: no command of the shelf's: FOR A HAND-IN. Each laying: the table of numbers ('.._ren') and one theorem, a field a fact of the dump's own or the kernel's comparison; each contract: ONE APPLICATION.
-/
import Derived.Shelf.Strings.Builder1
import Derived.Shelf.Strings.Builder2
import Derived.Shelf.Strings.OnBuilder
import Derived.Shelf.Small.Utf8
import Derived.Shelf.Strings.BuilderF
import Derived.Shelf.Strings.BuilderK
import Derived.Shelf.Strings.BuilderRune
import Derived.Shelf.Utf8.AppendRune
import Derived.Shelf.Utf8.AppendRunePlain
import Derived.Shelf.Utf8.RuneCount
import Derived.Shelf.Strings.Builder2Cap
import Derived.Shelf.Strings.Prefix
import Derived.Shelf.Unicode.Latin
import Derived.Shelf.Unicode.Props
import Derived.Shelf.Strings.RuneCount
import Derived.Shelf.Bits.Mul64
import Derived.Shelf.Strings.Repeat
import Derived.Shelf.Unicode.DecodeSlow
import Derived.Shelf.Unicode.Is16White
import Derived.Shelf.Unicode.IsSpaceAny
import Derived.Shelf.Unicode.CaseLookup
import Derived.Shelf.Unicode.CaseConvert
import Derived.Shelf.Unicode.CaseTo
import Derived.Shelf.Unicode.CaseLaid
import Derived.Shelf.Unicode.Is16Any
import Derived.Shelf.Unicode.Is32Any
import Derived.Shelf.Unicode.ExclAny
import Derived.Shelf.Unicode.PredsAny
import Derived.Shelf.Strings.BuilderCap
import Derived.Test.YtccbjmmggolhnaaGreatDoorProg
namespace Go.Proofs
open Go.Shelf
def Tryz.lays170_ren : Go.Shelf.Ren := ⟨fun | 170 => 78 | n => n, fun | 70 => 64 | 3 => 3 | 0 => 0 | 72 => 67 | 37 => 65 | 5 => 5 | n => n, fun | n => n⟩
theorem Tryz.lays170 : Go.Proofs.Lays.n170 Tryz.prog Tryz.lays170_ren := {
  mixed := by kernel_rfl
  f170 := Tryz.func78.trans (congrArg some (by kernel_rfl))
  t0 := Tryz.underlying0
  a0 := Tryz.isAgg0
  z0 := Tryz.sizeOf0
  v0 := Tryz.zeroValue0
  t3 := Tryz.underlying3
  a3 := Tryz.isAgg3
  z3 := Tryz.sizeOf3
  v3 := Tryz.zeroValue3
  t37 := Tryz.underlying65
  a37 := Tryz.isAgg65
  z37 := Tryz.sizeOf65
  v37 := Tryz.zeroValue65
  t70 := Tryz.underlying64
  a70 := Tryz.isAgg64
  z70 := Tryz.sizeOf64
  v70 := Tryz.zeroValue64
  t72 := Tryz.underlying67
  a72 := Tryz.isAgg67
  z72 := Tryz.sizeOf67
  v72 := Tryz.zeroValue67 }
open Go.RowKit in
/-- (*strings.Builder).Len: "Len returns the number of accumulated bytes; b.Len() == len(b.String()).": the world is as it was. (LAID: no walk: one application.) -/
theorem Tryz.Builder_Len (B b : Nat) (bs : List Value) (w : World) (h : Lib.IsBuilder 67 5 B b bs w) :
    Calls Tryz.prog 78 #[.pointer (some ⟨b, 0, none⟩)] w fun e w' => e = .returned (.int .i64 bs.length) ∧ w' = w := Any.Builder_Len Tryz.lays170 B b bs w h
def Tryz.lays169_ren : Go.Shelf.Ren := ⟨fun | 169 => 66 | n => n, fun | 70 => 64 | 9 => 9 | 0 => 0 | 72 => 67 | 37 => 65 | 127 => 110 | 3 => 3 | 5 => 5 | n => n, fun | n => n⟩
theorem Tryz.lays169 : Go.Proofs.Lays.n169 Tryz.prog Tryz.lays169_ren := {
  mixed := by kernel_rfl
  f169 := Tryz.func66.trans (congrArg some (by kernel_rfl))
  t0 := Tryz.underlying0
  a0 := Tryz.isAgg0
  z0 := Tryz.sizeOf0
  v0 := Tryz.zeroValue0
  t3 := Tryz.underlying3
  a3 := Tryz.isAgg3
  z3 := Tryz.sizeOf3
  v3 := Tryz.zeroValue3
  t9 := Tryz.underlying9
  a9 := Tryz.isAgg9
  z9 := Tryz.sizeOf9
  v9 := Tryz.zeroValue9
  t37 := Tryz.underlying65
  a37 := Tryz.isAgg65
  z37 := Tryz.sizeOf65
  v37 := Tryz.zeroValue65
  t70 := Tryz.underlying64
  a70 := Tryz.isAgg64
  z70 := Tryz.sizeOf64
  v70 := Tryz.zeroValue64
  t72 := Tryz.underlying67
  a72 := Tryz.isAgg67
  z72 := Tryz.sizeOf67
  v72 := Tryz.zeroValue67
  t127 := Tryz.underlying110
  a127 := Tryz.isAgg110
  z127 := Tryz.sizeOf110
  v127 := Tryz.zeroValue110 }
theorem Tryz.Builder_Extra_169 : Builder.Extra Tryz.prog Tryz.lays169_ren := {
  sizeBuilder := by kernel_rfl
  liesBuilder := by kernel_rfl
  t5 := Tryz.underlying5
  a5 := Tryz.isAgg5
  z5 := Tryz.sizeOf5
  v5 := Tryz.zeroValue5
  infoByte := by kernel_rfl
  cellsByte := by kernel_rfl
  sizeByte := by kernel_rfl
  neB5 := by decide }
open Go.RowKit in
/-- (*strings.Builder).String: "String returns the accumulated string.": OF A BUILDER THAT HOLDS AT LEAST ONE BYTE. ✋ THE MODEL FREEZES THOSE BYTES IN THE BUFFER (unsafe.String): a later write INTO them ends the model's run without an answer; a later append BEHIND them goes on. The statement's order of evaluation is drawn: one draw. (LAID: no walk: one application.) -/
theorem Tryz.Builder_String (B b : Nat) (l : List UInt8) (w : World) (h : Lib.IsBuilder 67 5 B b (Lib.byteCells l) w) (h0 : l ≠ []) :
    Calls Tryz.prog 66 #[.pointer (some ⟨b, 0, none⟩)] w fun e w' => e = .returned (.string ⟨l.toArray⟩) ∧ Below B w w' := Any.Builder_String Tryz.lays169 Tryz.Builder_Extra_169 B b l w h h0
open Go.RowKit in
/-- (*strings.Builder).String OF A BUILDER THAT HOLDS NO BYTE: the empty string. (Its buffer is nil, or a row of which it has taken nothing yet; where that row has NO capacity the model lays one new block for unsafe.SliceData's 'some address'.) One draw. (LAID: no walk: one application.) -/
theorem Tryz.Builder_String_empty (B b : Nat) (w : World) (h : Lib.IsBuilder 67 5 B b [] w) (hBw : B ≤ w.heap.size) :
    Calls Tryz.prog 66 #[.pointer (some ⟨b, 0, none⟩)] w fun e w' => e = .returned (.string ⟨#[]⟩) ∧ Below B w w' := Any.Builder_String_empty Tryz.lays169 Tryz.Builder_Extra_169 B b w h hBw
open Go.RowKit in
/-- (*strings.Builder).String: "String returns the accumulated string.": WHATEVER THE BUILDER HOLDS. (LAID: no walk: one application.) -/
theorem Tryz.Builder_String_any (B b : Nat) (l : List UInt8) (w : World) (h : Lib.IsBuilder 67 5 B b (Lib.byteCells l) w) (hBw : B ≤ w.heap.size) :
    Calls Tryz.prog 66 #[.pointer (some ⟨b, 0, none⟩)] w fun e w' => e = .returned (.string ⟨l.toArray⟩) ∧ Below B w w' := Any.Builder_String_any Tryz.lays169 Tryz.Builder_Extra_169 B b l w h hBw
def Tryz.lays241_ren : Go.Shelf.Ren := ⟨fun | 241 => 57 | 277 => 80 | n => n, fun | 70 => 64 | 3 => 3 | 0 => 0 | 72 => 67 | 37 => 65 | 5 => 5 | n => n, fun | n => n⟩
theorem Tryz.lays241 : Go.Proofs.Lays.n241 Tryz.prog Tryz.lays241_ren := {
  mixed := by kernel_rfl
  f241 := Tryz.func57.trans (congrArg some (by kernel_rfl))
  f277 := Tryz.func80.trans (congrArg some (by kernel_rfl))
  t0 := Tryz.underlying0
  a0 := Tryz.isAgg0
  z0 := Tryz.sizeOf0
  v0 := Tryz.zeroValue0
  t3 := Tryz.underlying3
  a3 := Tryz.isAgg3
  z3 := Tryz.sizeOf3
  v3 := Tryz.zeroValue3
  t37 := Tryz.underlying65
  a37 := Tryz.isAgg65
  z37 := Tryz.sizeOf65
  v37 := Tryz.zeroValue65
  t70 := Tryz.underlying64
  a70 := Tryz.isAgg64
  z70 := Tryz.sizeOf64
  v70 := Tryz.zeroValue64
  t72 := Tryz.underlying67
  a72 := Tryz.isAgg67
  z72 := Tryz.sizeOf67
  v72 := Tryz.zeroValue67 }
theorem Tryz.Builder_Extra_241 : Builder.Extra Tryz.prog Tryz.lays241_ren := {
  sizeBuilder := by kernel_rfl
  liesBuilder := by kernel_rfl
  t5 := Tryz.underlying5
  a5 := Tryz.isAgg5
  z5 := Tryz.sizeOf5
  v5 := Tryz.zeroValue5
  infoByte := by kernel_rfl
  cellsByte := by kernel_rfl
  sizeByte := by kernel_rfl
  neB5 := by decide }
open Go.RowKit in
/-- (*strings.Builder).grow (no doc but "grow copies the buffer to a new, larger buffer so that there are at least n bytes of capacity beyond len(b.buf)."): AT A BUILDER WITHOUT A BUFFER: a new row of whatever bytes for its buffer, none of them its own yet. Three draws. (LAID: no walk: one application.) -/
theorem Tryz.Builder_grow_fresh (B b n : Nat) (w : World) (hB : B ≤ b) (hbk : w.heap[b]? = some (.cells #[.pointer (some ⟨b, 0, none⟩), .slice none 0 0] 67 (0, 0))) (hBw : B ≤ w.heap.size) (hn : n ≤ 281474976710656) :
    Calls Tryz.prog 57 #[.pointer (some ⟨b, 0, none⟩), .int .i64 n] w fun e w' => e = .returned (.tuple #[]) ∧ (Lib.BuilderAt 67 5 B b (.pointer (some ⟨b, 0, none⟩)) [] w' ∧ Below B w w') := Any.Builder_grow_fresh Tryz.lays241 Tryz.Builder_Extra_241 B b n w hB hbk hBw hn
def Tryz.lays165_ren : Go.Shelf.Ren := ⟨fun | 165 => 40 | 240 => 56 | 241 => 57 | 276 => 79 | 277 => 80 | n => n, fun | 70 => 64 | 3 => 3 | 0 => 0 | 4 => 4 | 9 => 9 | 20 => 20 | 72 => 67 | 37 => 65 | 164 => 104 | 5 => 5 | n => n, fun | n => n⟩
theorem Tryz.lays165 : Go.Proofs.Lays.n165 Tryz.prog Tryz.lays165_ren := {
  mixed := by kernel_rfl
  f165 := Tryz.func40.trans (congrArg some (by kernel_rfl))
  f240 := Tryz.func56.trans (congrArg some (by kernel_rfl))
  f241 := Tryz.func57.trans (congrArg some (by kernel_rfl))
  f276 := Tryz.func79.trans (congrArg some (by kernel_rfl))
  f277 := Tryz.func80.trans (congrArg some (by kernel_rfl))
  t0 := Tryz.underlying0
  a0 := Tryz.isAgg0
  z0 := Tryz.sizeOf0
  v0 := Tryz.zeroValue0
  t3 := Tryz.underlying3
  a3 := Tryz.isAgg3
  z3 := Tryz.sizeOf3
  v3 := Tryz.zeroValue3
  t4 := Tryz.underlying4
  a4 := Tryz.isAgg4
  z4 := Tryz.sizeOf4
  v4 := Tryz.zeroValue4
  t9 := Tryz.underlying9
  a9 := Tryz.isAgg9
  z9 := Tryz.sizeOf9
  v9 := Tryz.zeroValue9
  t20 := Tryz.underlying20
  a20 := Tryz.isAgg20
  z20 := Tryz.sizeOf20
  v20 := Tryz.zeroValue20
  t37 := Tryz.underlying65
  a37 := Tryz.isAgg65
  z37 := Tryz.sizeOf65
  v37 := Tryz.zeroValue65
  t70 := Tryz.underlying64
  a70 := Tryz.isAgg64
  z70 := Tryz.sizeOf64
  v70 := Tryz.zeroValue64
  t72 := Tryz.underlying67
  a72 := Tryz.isAgg67
  z72 := Tryz.sizeOf67
  v72 := Tryz.zeroValue67
  t164 := Tryz.underlying104
  a164 := Tryz.isAgg104
  z164 := Tryz.sizeOf104
  v164 := Tryz.zeroValue104 }
theorem Tryz.Builder_Extra_165 : Builder.Extra Tryz.prog Tryz.lays165_ren := {
  sizeBuilder := by kernel_rfl
  liesBuilder := by kernel_rfl
  t5 := Tryz.underlying5
  a5 := Tryz.isAgg5
  z5 := Tryz.sizeOf5
  v5 := Tryz.zeroValue5
  infoByte := by kernel_rfl
  cellsByte := by kernel_rfl
  sizeByte := by kernel_rfl
  neB5 := by decide }
open Go.RowKit in
/-- (*strings.Builder).Grow AT A BUILDER THAT HAS NOT BEEN WRITTEN ('var b strings.Builder; b.Grow(n)'): "Grow grows b's capacity, if necessary, to guarantee space for another n bytes.": it holds no byte behind it as before it. (LAID: no walk: one application.) -/
theorem Tryz.Builder_Grow_fresh (B b n : Nat) (w : World) (hB : B ≤ b) (hbk : w.heap[b]? = some (.cells #[.pointer none, .slice none 0 0] 67 (0, 0))) (hBw : B ≤ w.heap.size) (hn : n ≤ 281474976710656) :
    Calls Tryz.prog 40 #[.pointer (some ⟨b, 0, none⟩), .int .i64 n] w fun e w' => e = .returned (.tuple #[]) ∧ (Lib.BuilderAt 67 5 B b (.pointer (some ⟨b, 0, none⟩)) [] w' ∧ Below B w w') := Any.Builder_Grow_fresh Tryz.lays165 Tryz.Builder_Extra_165 B b n w hB hbk hBw hn
def Tryz.lays159_ren : Go.Shelf.Ren := ⟨fun | 159 => 82 | 165 => 40 | 166 => 65 | 167 => 97 | 169 => 66 | 230 => 98 | 204 => 99 | 240 => 56 | 241 => 57 | 197 => 106 | 118 => 107 | 168 => 58 | 270 => 108 | 262 => 109 | 276 => 79 | 277 => 80 | 260 => 113 | 242 => 81 | 313 => 114 | 278 => 96 | 274 => 116 | 275 => 117 | n => n, fun | 9 => 9 | 4 => 4 | 3 => 3 | 5 => 5 | 72 => 67 | 0 => 0 | 76 => 88 | 75 => 87 | 107 => 123 | 70 => 64 | 20 => 20 | 37 => 65 | 127 => 110 | 21 => 21 | 105 => 125 | 164 => 104 | 162 => 131 | 203 => 129 | 119 => 132 | 46 => 101 | 139 => 137 | 138 => 136 | 51 => 115 | 160 => 138 | 208 => 155 | 206 => 153 | 80 => 49 | n => n, fun | 13 => 1 | 3 => 6 | 4 => 7 | n => n⟩
theorem Tryz.lays159 : Go.Proofs.Lays.n159 Tryz.prog Tryz.lays159_ren := {
  mixed := by kernel_rfl
  f118 := Tryz.func107.trans (congrArg some (by kernel_rfl))
  f159 := Tryz.func82.trans (congrArg some (by kernel_rfl))
  f165 := Tryz.func40.trans (congrArg some (by kernel_rfl))
  f166 := Tryz.func65.trans (congrArg some (by kernel_rfl))
  f167 := Tryz.func97.trans (congrArg some (by kernel_rfl))
  f168 := Tryz.func58.trans (congrArg some (by kernel_rfl))
  f169 := Tryz.func66.trans (congrArg some (by kernel_rfl))
  f197 := Tryz.func106.trans (congrArg some (by kernel_rfl))
  f204 := Tryz.func99.trans (congrArg some (by kernel_rfl))
  f230 := Tryz.func98.trans (congrArg some (by kernel_rfl))
  f240 := Tryz.func56.trans (congrArg some (by kernel_rfl))
  f241 := Tryz.func57.trans (congrArg some (by kernel_rfl))
  f242 := Tryz.func81.trans (congrArg some (by kernel_rfl))
  f260 := Tryz.func113.trans (congrArg some (by kernel_rfl))
  f262 := Tryz.func109.trans (congrArg some (by kernel_rfl))
  f270 := Tryz.func108.trans (congrArg some (by kernel_rfl))
  f274 := Tryz.func116.trans (congrArg some (by kernel_rfl))
  f275 := Tryz.func117.trans (congrArg some (by kernel_rfl))
  f276 := Tryz.func79.trans (congrArg some (by kernel_rfl))
  f277 := Tryz.func80.trans (congrArg some (by kernel_rfl))
  f278 := Tryz.func96.trans (congrArg some (by kernel_rfl))
  f313 := Tryz.func114.trans (congrArg some (by kernel_rfl))
  t0 := Tryz.underlying0
  a0 := Tryz.isAgg0
  z0 := Tryz.sizeOf0
  v0 := Tryz.zeroValue0
  t3 := Tryz.underlying3
  a3 := Tryz.isAgg3
  z3 := Tryz.sizeOf3
  v3 := Tryz.zeroValue3
  t4 := Tryz.underlying4
  a4 := Tryz.isAgg4
  z4 := Tryz.sizeOf4
  v4 := Tryz.zeroValue4
  t5 := Tryz.underlying5
  a5 := Tryz.isAgg5
  z5 := Tryz.sizeOf5
  v5 := Tryz.zeroValue5
  t9 := Tryz.underlying9
  a9 := Tryz.isAgg9
  z9 := Tryz.sizeOf9
  v9 := Tryz.zeroValue9
  t20 := Tryz.underlying20
  a20 := Tryz.isAgg20
  z20 := Tryz.sizeOf20
  v20 := Tryz.zeroValue20
  t21 := Tryz.underlying21
  a21 := Tryz.isAgg21
  z21 := Tryz.sizeOf21
  v21 := Tryz.zeroValue21
  t37 := Tryz.underlying65
  a37 := Tryz.isAgg65
  z37 := Tryz.sizeOf65
  v37 := Tryz.zeroValue65
  t46 := Tryz.underlying101
  a46 := Tryz.isAgg101
  z46 := Tryz.sizeOf101
  v46 := Tryz.zeroValue101
  t51 := Tryz.underlying115
  a51 := Tryz.isAgg115
  z51 := Tryz.sizeOf115
  v51 := Tryz.zeroValue115
  t70 := Tryz.underlying64
  a70 := Tryz.isAgg64
  z70 := Tryz.sizeOf64
  v70 := Tryz.zeroValue64
  t72 := Tryz.underlying67
  a72 := Tryz.isAgg67
  z72 := Tryz.sizeOf67
  v72 := Tryz.zeroValue67
  t75 := Tryz.underlying87
  a75 := Tryz.isAgg87
  z75 := Tryz.sizeOf87
  v75 := Tryz.zeroValue87
  t76 := Tryz.underlying88
  a76 := Tryz.isAgg88
  z76 := Tryz.sizeOf88
  v76 := Tryz.zeroValue88
  t105 := Tryz.underlying125
  a105 := Tryz.isAgg125
  z105 := Tryz.sizeOf125
  v105 := Tryz.zeroValue125
  t107 := Tryz.underlying123
  a107 := Tryz.isAgg123
  z107 := Tryz.sizeOf123
  v107 := Tryz.zeroValue123
  t119 := Tryz.underlying132
  a119 := Tryz.isAgg132
  z119 := Tryz.sizeOf132
  t127 := Tryz.underlying110
  a127 := Tryz.isAgg110
  z127 := Tryz.sizeOf110
  v127 := Tryz.zeroValue110
  t138 := Tryz.underlying136
  a138 := Tryz.isAgg136
  z138 := Tryz.sizeOf136
  v138 := Tryz.zeroValue136
  t139 := Tryz.underlying137
  a139 := Tryz.isAgg137
  z139 := Tryz.sizeOf137
  v139 := Tryz.zeroValue137
  t160 := Tryz.underlying138
  a160 := Tryz.isAgg138
  z160 := Tryz.sizeOf138
  v160 := Tryz.zeroValue138
  t162 := Tryz.underlying131
  a162 := Tryz.isAgg131
  z162 := Tryz.sizeOf131
  v162 := Tryz.zeroValue131
  t164 := Tryz.underlying104
  a164 := Tryz.isAgg104
  z164 := Tryz.sizeOf104
  v164 := Tryz.zeroValue104
  t203 := Tryz.underlying129
  a203 := Tryz.isAgg129
  z203 := Tryz.sizeOf129
  v203 := Tryz.zeroValue129
  t206 := Tryz.underlying153
  a206 := Tryz.isAgg153
  z206 := Tryz.sizeOf153
  v206 := Tryz.zeroValue153
  t208 := Tryz.underlying155
  a208 := Tryz.isAgg155
  z208 := Tryz.sizeOf155
  v208 := Tryz.zeroValue155
  g3 := by kernel_rfl
  g4 := by kernel_rfl
  g13 := by kernel_rfl }
theorem Tryz.Builder_Extra_159 : Builder.Extra Tryz.prog Tryz.lays159_ren := {
  sizeBuilder := by kernel_rfl
  liesBuilder := by kernel_rfl
  t5 := Tryz.underlying5
  a5 := Tryz.isAgg5
  z5 := Tryz.sizeOf5
  v5 := Tryz.zeroValue5
  infoByte := by kernel_rfl
  cellsByte := by kernel_rfl
  sizeByte := by kernel_rfl
  neB5 := by decide }
open Go.RowKit in
/-- strings.ToLower: "ToLower returns s with all Unicode letters mapped to their lower case.": ON ASCII TEXT OF AT MOST 2^47 BYTES. Below the heap's end the world is as it was: where a letter turns, the call makes a builder and its buffer. (LAID: no walk: one application.) -/
theorem Tryz.strings_ToLower_ascii (s : ByteArray) (w : World) (hs : s.size ≤ 140737488355328) (hascii : ∀ (j : Nat) (b : UInt8), s.data.toList[j]? = some b → b.toNat < 128) :
    Calls Tryz.prog 82 #[.string s] w fun e w' => e = .returned (.string ⟨(Lib.toLowerA s.data.toList).toArray⟩) ∧ Below w.heap.size w w' := Any.strings_ToLower_ascii Tryz.lays159 Tryz.Builder_Extra_159 s w hs hascii
def Tryz.lays156_ren : Go.Shelf.Ren := ⟨fun | 156 => 92 | 165 => 40 | 166 => 65 | 169 => 66 | 240 => 56 | 241 => 57 | 276 => 79 | 277 => 80 | n => n, fun | 31 => 34 | 9 => 9 | 3 => 3 | 4 => 4 | 0 => 0 | 20 => 20 | 72 => 67 | 76 => 88 | 70 => 64 | 37 => 65 | 75 => 87 | 127 => 110 | 164 => 104 | 5 => 5 | 80 => 49 | n => n, fun | n => n⟩
theorem Tryz.lays156 : Go.Proofs.Lays.n156 Tryz.prog Tryz.lays156_ren := {
  mixed := by kernel_rfl
  f156 := Tryz.func92.trans (congrArg some (by kernel_rfl))
  f165 := Tryz.func40.trans (congrArg some (by kernel_rfl))
  f166 := Tryz.func65.trans (congrArg some (by kernel_rfl))
  f169 := Tryz.func66.trans (congrArg some (by kernel_rfl))
  f240 := Tryz.func56.trans (congrArg some (by kernel_rfl))
  f241 := Tryz.func57.trans (congrArg some (by kernel_rfl))
  f276 := Tryz.func79.trans (congrArg some (by kernel_rfl))
  f277 := Tryz.func80.trans (congrArg some (by kernel_rfl))
  t0 := Tryz.underlying0
  a0 := Tryz.isAgg0
  z0 := Tryz.sizeOf0
  v0 := Tryz.zeroValue0
  t3 := Tryz.underlying3
  a3 := Tryz.isAgg3
  z3 := Tryz.sizeOf3
  v3 := Tryz.zeroValue3
  t4 := Tryz.underlying4
  a4 := Tryz.isAgg4
  z4 := Tryz.sizeOf4
  v4 := Tryz.zeroValue4
  t9 := Tryz.underlying9
  a9 := Tryz.isAgg9
  z9 := Tryz.sizeOf9
  v9 := Tryz.zeroValue9
  t20 := Tryz.underlying20
  a20 := Tryz.isAgg20
  z20 := Tryz.sizeOf20
  v20 := Tryz.zeroValue20
  t31 := Tryz.underlying34
  a31 := Tryz.isAgg34
  z31 := Tryz.sizeOf34
  v31 := Tryz.zeroValue34
  t37 := Tryz.underlying65
  a37 := Tryz.isAgg65
  z37 := Tryz.sizeOf65
  v37 := Tryz.zeroValue65
  t70 := Tryz.underlying64
  a70 := Tryz.isAgg64
  z70 := Tryz.sizeOf64
  v70 := Tryz.zeroValue64
  t72 := Tryz.underlying67
  a72 := Tryz.isAgg67
  z72 := Tryz.sizeOf67
  v72 := Tryz.zeroValue67
  t75 := Tryz.underlying87
  a75 := Tryz.isAgg87
  z75 := Tryz.sizeOf87
  v75 := Tryz.zeroValue87
  t76 := Tryz.underlying88
  a76 := Tryz.isAgg88
  z76 := Tryz.sizeOf88
  v76 := Tryz.zeroValue88
  t127 := Tryz.underlying110
  a127 := Tryz.isAgg110
  z127 := Tryz.sizeOf110
  v127 := Tryz.zeroValue110
  t164 := Tryz.underlying104
  a164 := Tryz.isAgg104
  z164 := Tryz.sizeOf104
  v164 := Tryz.zeroValue104 }
theorem Tryz.Builder_Extra_156 : Builder.Extra Tryz.prog Tryz.lays156_ren := {
  sizeBuilder := by kernel_rfl
  liesBuilder := by kernel_rfl
  t5 := Tryz.underlying5
  a5 := Tryz.isAgg5
  z5 := Tryz.sizeOf5
  v5 := Tryz.zeroValue5
  infoByte := by kernel_rfl
  cellsByte := by kernel_rfl
  sizeByte := by kernel_rfl
  neB5 := by decide }
open Go.RowKit in
/-- No element: the empty string; the world is as it was. (Whatever the slice's address and capacity: a nil slice too.) (LAID: no walk: one application.) -/
theorem Tryz.strings_Join_none (a : Option Addr) (c : Nat) (sep : ByteArray) (w : World) :
    Calls Tryz.prog 92 #[.slice a 0 c, .string sep] w fun e w' => e = .returned (.string ⟨#[]⟩) ∧ w' = w := Any.strings_Join_none Tryz.lays156 Tryz.Builder_Extra_156 a c sep w
open Go.RowKit in
/-- strings.Join: "Join concatenates the elements of its first argument to create a single string. The separator string sep is placed between elements in the resulting string.": HOWEVER MANY ELEMENTS. Below the heap's end the world is as it was. (LAID: no walk: one application.) -/
theorem Tryz.strings_Join (bk o c : Nat) (xs : List ByteArray) (sep : ByteArray) (w : World) (hcells : ∀ (j : Nat) x, xs[j]? = some x → w.cell? ⟨bk, o + j, none⟩ = some (.string x)) (hbk : bk < w.heap.size) (hN : xs.length ≤ 140737488355328) (hcap : xs.length ≤ c) (hlen : (Lib.join (xs.map (·.data.toList)) sep.data.toList).length ≤ 140737488355328) :
    Calls Tryz.prog 92 #[.slice (some ⟨bk, o, none⟩) xs.length c, .string sep] w fun e w' => e = .returned (.string ⟨(Lib.join (xs.map (·.data.toList)) sep.data.toList).toArray⟩) ∧ Below w.heap.size w w' := Any.strings_Join Tryz.lays156 Tryz.Builder_Extra_156 bk o c xs sep w hcells hbk hN hcap hlen
def Tryz.lays118_ren : Go.Shelf.Ren := ⟨fun | 118 => 107 | n => n, fun | 21 => 21 | 3 => 3 | 4 => 4 | n => n, fun | n => n⟩
theorem Tryz.lays118 : Go.Proofs.Lays.n118 Tryz.prog Tryz.lays118_ren := {
  mixed := by kernel_rfl
  f118 := Tryz.func107.trans (congrArg some (by kernel_rfl))
  t3 := Tryz.underlying3
  a3 := Tryz.isAgg3
  z3 := Tryz.sizeOf3
  v3 := Tryz.zeroValue3
  t4 := Tryz.underlying4
  a4 := Tryz.isAgg4
  z4 := Tryz.sizeOf4
  v4 := Tryz.zeroValue4
  t21 := Tryz.underlying21
  a21 := Tryz.isAgg21
  z21 := Tryz.sizeOf21
  v21 := Tryz.zeroValue21 }
/-- utf8.RuneLen: "RuneLen returns the number of bytes in the UTF-8 encoding of the rune. It returns -1 if the rune is not a valid value to encode in UTF-8.": IT RETURNS 'Lib.runeLen r'; the world is as it was. (LAID: no walk: one application.) -/
theorem Tryz.utf8_RuneLen (r : Int) (w : World) :
    Calls Tryz.prog 107 #[.int .i32 r] w fun e w' => e = .returned (.int .i64 (Lib.runeLen r)) ∧ w' = w := Any.utf8_RuneLen Tryz.lays118 r w
open Go.RowKit in
/-- (*strings.Builder).Len: "Len returns the number of accumulated bytes; b.Len() == len(b.String()).": the world is as it was. (THE FORM '_f': 'Lib.IsBuilderF'.) (LAID: no walk: one application.) -/
theorem Tryz.Builder_Len_f (B b : Nat) (bs : List Value) (w : World) (h : Lib.IsBuilderF 67 5 B b bs w) :
    Calls Tryz.prog 78 #[.pointer (some ⟨b, 0, none⟩)] w fun e w' => e = .returned (.int .i64 bs.length) ∧ w' = w := Any.Builder_Len_f Tryz.lays170 B b bs w h
open Go.RowKit in
/-- (*strings.Builder).String: "String returns the accumulated string.": OF A BUILDER THAT HOLDS AT LEAST ONE BYTE. ✋ THE MODEL FREEZES THOSE BYTES IN THE BUFFER (unsafe.String): a later write INTO them ends the model's run without an answer; a later append BEHIND them goes on. The statement's order of evaluation is drawn: one draw. THE FORM '_f': IT SAYS BESIDES THAT THE BUILDER IS A BUILDER STILL ('Lib.IsBuilderF', the same bytes): SO IT CAN BE WRITTEN ON: 'b.WriteString(b.String()[:k])'. (LAID: no walk: one application.) -/
theorem Tryz.Builder_String_f (B b : Nat) (l : List UInt8) (w : World) (h : Lib.IsBuilderF 67 5 B b (Lib.byteCells l) w) (h0 : l ≠ []) :
    Calls Tryz.prog 66 #[.pointer (some ⟨b, 0, none⟩)] w fun e w' => e = .returned (.string ⟨l.toArray⟩) ∧ (Lib.IsBuilderF 67 5 B b (Lib.byteCells l) w' ∧ Below B w w') := Any.Builder_String_f Tryz.lays169 Tryz.Builder_Extra_169 B b l w h h0
open Go.RowKit in
/-- (*strings.Builder).String OF A BUILDER THAT HOLDS NO BYTE: the empty string; THE FORM '_f': a builder still. (LAID: no walk: one application.) -/
theorem Tryz.Builder_String_empty_f (B b : Nat) (w : World) (h : Lib.IsBuilderF 67 5 B b [] w) (hBw : B ≤ w.heap.size) :
    Calls Tryz.prog 66 #[.pointer (some ⟨b, 0, none⟩)] w fun e w' => e = .returned (.string ⟨#[]⟩) ∧ (Lib.IsBuilderF 67 5 B b [] w' ∧ Below B w w') := Any.Builder_String_empty_f Tryz.lays169 Tryz.Builder_Extra_169 B b w h hBw
open Go.RowKit in
/-- (*strings.Builder).String: "String returns the accumulated string.": WHATEVER THE BUILDER HOLDS; THE FORM '_f': OF A BUILDER THAT MAY HAVE BEEN READ BEFORE; AND IT IS A BUILDER STILL, holding the same bytes: it can be written on. (LAID: no walk: one application.) -/
theorem Tryz.Builder_String_any_f (B b : Nat) (l : List UInt8) (w : World) (h : Lib.IsBuilderF 67 5 B b (Lib.byteCells l) w) (hBw : B ≤ w.heap.size) :
    Calls Tryz.prog 66 #[.pointer (some ⟨b, 0, none⟩)] w fun e w' => e = .returned (.string ⟨l.toArray⟩) ∧ (Lib.IsBuilderF 67 5 B b (Lib.byteCells l) w' ∧ Below B w w') := Any.Builder_String_any_f Tryz.lays169 Tryz.Builder_Extra_169 B b l w h hBw
open Go.RowKit in
/-- (*strings.Builder).String: "String returns the accumulated string.": OF A BUILDER THAT HOLDS AT LEAST ONE BYTE. ✋ THE MODEL FREEZES THOSE BYTES IN THE BUFFER (unsafe.String): a later write INTO them ends the model's run without an answer; a later append BEHIND them goes on. The statement's order of evaluation is drawn: one draw. THE FORM '_k': OVER 'Lib.IsBuilderF' (a builder that 'String()' may have read), AND WITH THE FRAME THAT REACHES ABOVE THE BUILDER: 'Lib.OthersKept': every block that is not b and is no row of uint8's stands as it stood: the iterator of a range among them. (LAID: no walk: one application.) -/
theorem Tryz.Builder_String_k (B b : Nat) (l : List UInt8) (w : World) (h : Lib.IsBuilderF 67 5 B b (Lib.byteCells l) w) (h0 : l ≠ []) :
    Calls Tryz.prog 66 #[.pointer (some ⟨b, 0, none⟩)] w fun e w' => e = .returned (.string ⟨l.toArray⟩) ∧ (Lib.IsBuilderF 67 5 B b (Lib.byteCells l) w' ∧ Below B w w' ∧ Lib.OthersKept 5 (some b) w w') := Any.Builder_String_k Tryz.lays169 Tryz.Builder_Extra_169 B b l w h h0
open Go.RowKit in
/-- (*strings.Builder).String OF A BUILDER THAT HOLDS NO BYTE: the empty string; THE FORM '_k': OVER 'Lib.IsBuilderF' (a builder that 'String()' may have read), AND WITH THE FRAME THAT REACHES ABOVE THE BUILDER: 'Lib.OthersKept': every block that is not b and is no row of uint8's stands as it stood: the iterator of a range among them. (LAID: no walk: one application.) -/
theorem Tryz.Builder_String_empty_k (B b : Nat) (w : World) (h : Lib.IsBuilderF 67 5 B b [] w) (hBw : B ≤ w.heap.size) :
    Calls Tryz.prog 66 #[.pointer (some ⟨b, 0, none⟩)] w fun e w' => e = .returned (.string ⟨#[]⟩) ∧ (Lib.IsBuilderF 67 5 B b [] w' ∧ Below B w w' ∧ Lib.OthersKept 5 (some b) w w') := Any.Builder_String_empty_k Tryz.lays169 Tryz.Builder_Extra_169 B b w h hBw
open Go.RowKit in
/-- (*strings.Builder).String: "String returns the accumulated string.": WHATEVER THE BUILDER HOLDS; THE FORM '_k': OVER 'Lib.IsBuilderF' (a builder that 'String()' may have read), AND WITH THE FRAME THAT REACHES ABOVE THE BUILDER: 'Lib.OthersKept': every block that is not b and is no row of uint8's stands as it stood: the iterator of a range among them. (LAID: no walk: one application.) -/
theorem Tryz.Builder_String_any_k (B b : Nat) (l : List UInt8) (w : World) (h : Lib.IsBuilderF 67 5 B b (Lib.byteCells l) w) (hBw : B ≤ w.heap.size) :
    Calls Tryz.prog 66 #[.pointer (some ⟨b, 0, none⟩)] w fun e w' => e = .returned (.string ⟨l.toArray⟩) ∧ (Lib.IsBuilderF 67 5 B b (Lib.byteCells l) w' ∧ Below B w w' ∧ Lib.OthersKept 5 (some b) w w') := Any.Builder_String_any_k Tryz.lays169 Tryz.Builder_Extra_169 B b l w h hBw
def Tryz.lays278_ren : Go.Shelf.Ren := ⟨fun | 278 => 96 | n => n, fun | 37 => 65 | 21 => 21 | 51 => 115 | 4 => 4 | 46 => 101 | 5 => 5 | n => n, fun | n => n⟩
theorem Tryz.lays278 : Go.Proofs.Lays.n278 Tryz.prog Tryz.lays278_ren := {
  mixed := by kernel_rfl
  f278 := Tryz.func96.trans (congrArg some (by kernel_rfl))
  t4 := Tryz.underlying4
  a4 := Tryz.isAgg4
  z4 := Tryz.sizeOf4
  v4 := Tryz.zeroValue4
  t5 := Tryz.underlying5
  a5 := Tryz.isAgg5
  z5 := Tryz.sizeOf5
  v5 := Tryz.zeroValue5
  t21 := Tryz.underlying21
  a21 := Tryz.isAgg21
  z21 := Tryz.sizeOf21
  v21 := Tryz.zeroValue21
  t37 := Tryz.underlying65
  a37 := Tryz.isAgg65
  z37 := Tryz.sizeOf65
  v37 := Tryz.zeroValue65
  t46 := Tryz.underlying101
  a46 := Tryz.isAgg101
  z46 := Tryz.sizeOf101
  v46 := Tryz.zeroValue101
  t51 := Tryz.underlying115
  a51 := Tryz.isAgg115
  z51 := Tryz.sizeOf115
  v51 := Tryz.zeroValue115 }
open Go.RowKit in
/-- unicode/utf8.appendRuneNonASCII (what AppendRune calls for all but ASCII), ONTO A ROW OF BYTES THAT THE CALL OWNS: every int32 that is no ASCII rune: 'Lib.runeCells r' goes in behind what the row holds. (LAID: no walk: one application.) -/
theorem Tryz.utf8_appendRuneNonASCII_row (B : Nat) (v : Value) (n : Nat) (xs : List Value) (r : Int) (hr0 : -2147483648 ≤ r) (hr1 : r ≤ 2147483647) (hna : r < 0 ∨ 128 ≤ r) (w : World) (hown : w.ownsRowF B 5 1 v n xs) (hlen : n + 4 ≤ 140737488355328) (hBw : B ≤ w.heap.size) :
    Calls Tryz.prog 96 #[v, .int .i32 r] w fun e w' => ∃ v', e = .returned v' ∧ w'.ownsRowF B 5 1 v' (n + (Lib.runeCells r).length) (xs ++ Lib.runeCells r) ∧ ∃ o, (w.alloc o).grownBy w' v.ownBlock := Any.utf8_appendRuneNonASCII_row Tryz.lays278 (by kernel_rfl) B v n xs r hr0 hr1 hna w hown hlen hBw
def Tryz.lays242_ren : Go.Shelf.Ren := ⟨fun | 242 => 81 | 278 => 96 | n => n, fun | 37 => 65 | 21 => 21 | 51 => 115 | 4 => 4 | 5 => 5 | 46 => 101 | n => n, fun | n => n⟩
theorem Tryz.lays242 : Go.Proofs.Lays.n242 Tryz.prog Tryz.lays242_ren := {
  mixed := by kernel_rfl
  f242 := Tryz.func81.trans (congrArg some (by kernel_rfl))
  f278 := Tryz.func96.trans (congrArg some (by kernel_rfl))
  t4 := Tryz.underlying4
  a4 := Tryz.isAgg4
  z4 := Tryz.sizeOf4
  v4 := Tryz.zeroValue4
  t5 := Tryz.underlying5
  a5 := Tryz.isAgg5
  z5 := Tryz.sizeOf5
  v5 := Tryz.zeroValue5
  t21 := Tryz.underlying21
  a21 := Tryz.isAgg21
  z21 := Tryz.sizeOf21
  v21 := Tryz.zeroValue21
  t37 := Tryz.underlying65
  a37 := Tryz.isAgg65
  z37 := Tryz.sizeOf65
  v37 := Tryz.zeroValue65
  t46 := Tryz.underlying101
  a46 := Tryz.isAgg101
  z46 := Tryz.sizeOf101
  v46 := Tryz.zeroValue101
  t51 := Tryz.underlying115
  a51 := Tryz.isAgg115
  z51 := Tryz.sizeOf115
  v51 := Tryz.zeroValue115 }
open Go.RowKit in
/-- unicode/utf8.AppendRune: "AppendRune appends the UTF-8 encoding of r to the end of p and returns the extended buffer. If the rune is out of range, it appends the encoding of RuneError.": ONTO A ROW OF BYTES THAT THE CALL OWNS (its head frozen or not): EVERY int32: 'Lib.runeCells r' goes in behind what the row holds; the world: one new block (the bytes as the call's variadic argument), then what 'append' does to the row. (LAID: no walk: one application.) -/
theorem Tryz.utf8_AppendRune_row (B : Nat) (v : Value) (n : Nat) (xs : List Value) (r : Int) (hr0 : -2147483648 ≤ r) (hr1 : r ≤ 2147483647) (w : World) (hown : w.ownsRowF B 5 1 v n xs) (hlen : n + 4 ≤ 140737488355328) (hBw : B ≤ w.heap.size) :
    Calls Tryz.prog 81 #[v, .int .i32 r] w fun e w' => ∃ v', e = .returned v' ∧ w'.ownsRowF B 5 1 v' (n + (Lib.runeCells r).length) (xs ++ Lib.runeCells r) ∧ ∃ o, (w.alloc o).grownBy w' v.ownBlock := Any.utf8_AppendRune_row Tryz.lays242 (by kernel_rfl) B v n xs r hr0 hr1 w hown hlen hBw
open Go.RowKit in
/-- unicode/utf8.appendRuneNonASCII (what AppendRune calls for all but ASCII), ONTO A ROW OF BYTES THAT THE CALL OWNS: every int32 that is no ASCII rune: 'Lib.runeCells r' goes in behind what the row holds. (LAID: no walk: one application.) -/
theorem Tryz.utf8_appendRuneNonASCII_plain (B : Nat) (v : Value) (n : Nat) (xs : List Value) (r : Int) (hr0 : -2147483648 ≤ r) (hr1 : r ≤ 2147483647) (hna : r < 0 ∨ 128 ≤ r) (w : World) (hown : w.ownsRow B 5 1 v n xs) (hlen : n + 4 ≤ 140737488355328) (hBw : B ≤ w.heap.size) :
    Calls Tryz.prog 96 #[v, .int .i32 r] w fun e w' => ∃ v', e = .returned v' ∧ w'.ownsRow B 5 1 v' (n + (Lib.runeCells r).length) (xs ++ Lib.runeCells r) ∧ ∃ o, (w.alloc o).grownBy w' v.ownBlock := Any.utf8_appendRuneNonASCII_plain Tryz.lays278 (by kernel_rfl) B v n xs r hr0 hr1 hna w hown hlen hBw
open Go.RowKit in
/-- unicode/utf8.AppendRune: "AppendRune appends the UTF-8 encoding of r to the end of p and returns the extended buffer. If the rune is out of range, it appends the encoding of RuneError.": ONTO A ROW OF BYTES THAT THE CALL OWNS (its head frozen or not): EVERY int32: 'Lib.runeCells r' goes in behind what the row holds; the world: one new block (the bytes as the call's variadic argument), then what 'append' does to the row. (LAID: no walk: one application.) -/
theorem Tryz.utf8_AppendRune_plain (B : Nat) (v : Value) (n : Nat) (xs : List Value) (r : Int) (hr0 : -2147483648 ≤ r) (hr1 : r ≤ 2147483647) (w : World) (hown : w.ownsRow B 5 1 v n xs) (hlen : n + 4 ≤ 140737488355328) (hBw : B ≤ w.heap.size) :
    Calls Tryz.prog 81 #[v, .int .i32 r] w fun e w' => ∃ v', e = .returned v' ∧ w'.ownsRow B 5 1 v' (n + (Lib.runeCells r).length) (xs ++ Lib.runeCells r) ∧ ∃ o, (w.alloc o).grownBy w' v.ownBlock := Any.utf8_AppendRune_plain Tryz.lays242 (by kernel_rfl) B v n xs r hr0 hr1 w hown hlen hBw
def Tryz.lays195_ren : Go.Shelf.Ren := ⟨fun | 195 => 55 | n => n, fun | 9 => 9 | 3 => 3 | 0 => 0 | 4 => 4 | n => n, fun | n => n⟩
theorem Tryz.lays195 : Go.Proofs.Lays.n195 Tryz.prog Tryz.lays195_ren := {
  mixed := by kernel_rfl
  f195 := Tryz.func55.trans (congrArg some (by kernel_rfl))
  t0 := Tryz.underlying0
  a0 := Tryz.isAgg0
  z0 := Tryz.sizeOf0
  v0 := Tryz.zeroValue0
  t3 := Tryz.underlying3
  a3 := Tryz.isAgg3
  z3 := Tryz.sizeOf3
  v3 := Tryz.zeroValue3
  t4 := Tryz.underlying4
  a4 := Tryz.isAgg4
  z4 := Tryz.sizeOf4
  v4 := Tryz.zeroValue4
  t9 := Tryz.underlying9
  a9 := Tryz.isAgg9
  z9 := Tryz.sizeOf9
  v9 := Tryz.zeroValue9 }
open Go.RowKit in
/-- unicode/utf8.RuneCountInString: "RuneCountInString is like RuneCount but its input is a string." ("RuneCount returns the number of runes in p. Erroneous and short encodings are treated as single runes of width 1 byte."): EVERY STRING, valid UTF-8 or not: 'Lib.runeCount s' (plain Lean over the model's own 'Utf8.decode'; 'Lib.runeCount_le': at most len(s); 'Lib.runeCount_ascii': on ASCII: len(s)). THE ONE CONDITION: len(s) below 2^63 - 1 (the counter does not wrap): the form's reach pays it. THE WORLD BEHIND THE CALL: ONE BLOCK MORE: the model's iterator over s, at its end: all else as it was. (LAID: no walk: one application.) -/
theorem Tryz.utf8_RuneCountInString (s : ByteArray) (w : World) (hs : s.size < 9223372036854775807) :
    Calls Tryz.prog 55 #[.string s] w fun e w' => e = .returned (.int .i64 (Lib.runeCount s)) ∧ ∃ pos, w' = w.iter s pos := Any.utf8_RuneCountInString Tryz.lays195 s w hs
open Go.RowKit in
/-- (*strings.Builder).grow (no doc but "grow copies the buffer to a new, larger buffer so that there are at least n bytes of capacity beyond len(b.buf)."): AT A BUILDER WITHOUT A BUFFER: a new row of whatever bytes for its buffer, none of them its own yet. Three draws. (LAID: no walk: one application.) -/
theorem Tryz.Builder_grow_fresh_cap (B b n : Nat) (w : World) (hB : B ≤ b) (hbk : w.heap[b]? = some (.cells #[.pointer (some ⟨b, 0, none⟩), .slice none 0 0] 67 (0, 0))) (hBw : B ≤ w.heap.size) (hn : n ≤ 281474976710656) :
    Calls Tryz.prog 57 #[.pointer (some ⟨b, 0, none⟩), .int .i64 n] w fun e w' => e = .returned (.tuple #[]) ∧ (Lib.BuilderAt 67 5 B b (.pointer (some ⟨b, 0, none⟩)) [] w' ∧ Below B w w') ∧ ∃ p cap, w'.cell? ⟨b, 1, none⟩ = some (.slice p 0 cap) ∧ n ≤ cap := Any.Builder_grow_fresh_cap Tryz.lays241 Tryz.Builder_Extra_241 B b n w hB hbk hBw hn
open Go.RowKit in
/-- (*strings.Builder).Grow AT A BUILDER THAT HAS NOT BEEN WRITTEN ('var b strings.Builder; b.Grow(n)'): "Grow grows b's capacity, if necessary, to guarantee space for another n bytes.": it holds no byte behind it as before it. (LAID: no walk: one application.) -/
theorem Tryz.Builder_Grow_fresh_cap (B b n : Nat) (w : World) (hB : B ≤ b) (hbk : w.heap[b]? = some (.cells #[.pointer none, .slice none 0 0] 67 (0, 0))) (hBw : B ≤ w.heap.size) (hn : n ≤ 281474976710656) :
    Calls Tryz.prog 40 #[.pointer (some ⟨b, 0, none⟩), .int .i64 n] w fun e w' => e = .returned (.tuple #[]) ∧ (Lib.BuilderAt 67 5 B b (.pointer (some ⟨b, 0, none⟩)) [] w' ∧ Below B w w') ∧ ∃ p cap, w'.cell? ⟨b, 1, none⟩ = some (.slice p 0 cap) ∧ n ≤ cap := Any.Builder_Grow_fresh_cap Tryz.lays165 Tryz.Builder_Extra_165 B b n w hB hbk hBw hn
def Tryz.lays206_ren : Go.Shelf.Ren := ⟨fun | 206 => 95 | n => n, fun | 9 => 9 | 4 => 4 | 3 => 3 | n => n, fun | n => n⟩
theorem Tryz.lays206 : Go.Proofs.Lays.n206 Tryz.prog Tryz.lays206_ren := {
  mixed := by kernel_rfl
  f206 := Tryz.func95.trans (congrArg some (by kernel_rfl))
  t3 := Tryz.underlying3
  a3 := Tryz.isAgg3
  z3 := Tryz.sizeOf3
  v3 := Tryz.zeroValue3
  t4 := Tryz.underlying4
  a4 := Tryz.isAgg4
  z4 := Tryz.sizeOf4
  v4 := Tryz.zeroValue4
  t9 := Tryz.underlying9
  a9 := Tryz.isAgg9
  z9 := Tryz.sizeOf9
  v9 := Tryz.zeroValue9 }
open Go.RowKit Go.Lib in
/-- internal/stringslite.HasPrefix (what strings.HasPrefix calls). (LAID: no walk: one application.) -/
theorem Tryz.stringslite_HasPrefix (s p : ByteArray) (w : World) :
    Calls Tryz.prog 95 #[.string s, .string p] w fun e w' => e = .returned (.bool (Lib.hasPrefix s.data.toList p.data.toList)) ∧ w' = w := Any.stringslite_HasPrefix Tryz.lays206 s p w
def Tryz.lays99_ren : Go.Shelf.Ren := ⟨fun | 99 => 77 | 206 => 95 | n => n, fun | 9 => 9 | 4 => 4 | 3 => 3 | n => n, fun | n => n⟩
theorem Tryz.lays99 : Go.Proofs.Lays.n99 Tryz.prog Tryz.lays99_ren := {
  mixed := by kernel_rfl
  f99 := Tryz.func77.trans (congrArg some (by kernel_rfl))
  f206 := Tryz.func95.trans (congrArg some (by kernel_rfl))
  t3 := Tryz.underlying3
  a3 := Tryz.isAgg3
  z3 := Tryz.sizeOf3
  v3 := Tryz.zeroValue3
  t4 := Tryz.underlying4
  a4 := Tryz.isAgg4
  z4 := Tryz.sizeOf4
  v4 := Tryz.zeroValue4
  t9 := Tryz.underlying9
  a9 := Tryz.isAgg9
  z9 := Tryz.sizeOf9
  v9 := Tryz.zeroValue9 }
open Go.RowKit Go.Lib in
/-- strings.HasPrefix: "HasPrefix reports whether the string s begins with prefix.": IT RETURNS 'Lib.hasPrefix s prefix'; the world is as it was. (LAID: no walk: one application.) -/
theorem Tryz.strings_HasPrefix (s p : ByteArray) (w : World) :
    Calls Tryz.prog 77 #[.string s, .string p] w fun e w' => e = .returned (.bool (Lib.hasPrefix s.data.toList p.data.toList)) ∧ w' = w := Any.strings_HasPrefix Tryz.lays99 s p w
def Tryz.lays198_ren : Go.Shelf.Ren := ⟨fun | 198 => 111 | 261 => 115 | 311 => 118 | 312 => 119 | n => n, fun | 21 => 21 | 4 => 4 | 141 => 134 | 0 => 0 | 196 => 144 | 193 => 141 | 3 => 3 | 51 => 115 | 198 => 147 | 49 => 145 | 194 => 142 | 201 => 150 | 226 => 156 | 46 => 101 | 227 => 157 | n => n, fun | 5 => 4 | n => n⟩
theorem Tryz.lays198 : Go.Proofs.Lays.n198 Tryz.prog Tryz.lays198_ren := {
  mixed := by kernel_rfl
  f198 := Tryz.func111.trans (congrArg some (by kernel_rfl))
  f261 := Tryz.func115.trans (congrArg some (by kernel_rfl))
  f311 := Tryz.func118.trans (congrArg some (by kernel_rfl))
  f312 := Tryz.func119.trans (congrArg some (by kernel_rfl))
  t0 := Tryz.underlying0
  a0 := Tryz.isAgg0
  z0 := Tryz.sizeOf0
  v0 := Tryz.zeroValue0
  t3 := Tryz.underlying3
  a3 := Tryz.isAgg3
  z3 := Tryz.sizeOf3
  v3 := Tryz.zeroValue3
  t4 := Tryz.underlying4
  a4 := Tryz.isAgg4
  z4 := Tryz.sizeOf4
  v4 := Tryz.zeroValue4
  t21 := Tryz.underlying21
  a21 := Tryz.isAgg21
  z21 := Tryz.sizeOf21
  v21 := Tryz.zeroValue21
  t46 := Tryz.underlying101
  a46 := Tryz.isAgg101
  z46 := Tryz.sizeOf101
  v46 := Tryz.zeroValue101
  t49 := Tryz.underlying145
  a49 := Tryz.isAgg145
  z49 := Tryz.sizeOf145
  v49 := Tryz.zeroValue145
  t51 := Tryz.underlying115
  a51 := Tryz.isAgg115
  z51 := Tryz.sizeOf115
  v51 := Tryz.zeroValue115
  t141 := Tryz.underlying134
  a141 := Tryz.isAgg134
  z141 := Tryz.sizeOf134
  v141 := Tryz.zeroValue134
  t193 := Tryz.underlying141
  a193 := Tryz.isAgg141
  z193 := Tryz.sizeOf141
  v193 := Tryz.zeroValue141
  t194 := Tryz.underlying142
  a194 := Tryz.isAgg142
  z194 := Tryz.sizeOf142
  v194 := Tryz.zeroValue142
  t196 := Tryz.underlying144
  a196 := Tryz.isAgg144
  z196 := Tryz.sizeOf144
  v196 := Tryz.zeroValue144
  t198 := Tryz.underlying147
  a198 := Tryz.isAgg147
  z198 := Tryz.sizeOf147
  v198 := Tryz.zeroValue147
  t201 := Tryz.underlying150
  a201 := Tryz.isAgg150
  z201 := Tryz.sizeOf150
  v201 := Tryz.zeroValue150
  t226 := Tryz.underlying156
  a226 := Tryz.isAgg156
  z226 := Tryz.sizeOf156
  v226 := Tryz.zeroValue156
  t227 := Tryz.underlying157
  a227 := Tryz.isAgg157
  z227 := Tryz.sizeOf157
  v227 := Tryz.zeroValue157
  g5 := by kernel_rfl }
open Go.RowKit Go.Lib in
theorem Tryz.unicode_IsDigit (r : Int) (w : World) (h : r ≤ 255) :
    Calls Tryz.prog 111 #[.int .i32 r] w fun e w' => e = .returned (.bool (Lib.isDigitL r)) ∧ w' = w := Any.unicode_IsDigit Tryz.lays198 r w h
def Tryz.lays199_ren : Go.Shelf.Ren := ⟨fun | 199 => 112 | 261 => 115 | 311 => 118 | 312 => 119 | n => n, fun | 21 => 21 | 4 => 4 | 51 => 115 | 141 => 134 | 0 => 0 | 196 => 144 | 193 => 141 | 3 => 3 | 198 => 147 | 49 => 145 | 194 => 142 | 201 => 150 | 226 => 156 | 46 => 101 | 227 => 157 | n => n, fun | 6 => 5 | n => n⟩
theorem Tryz.lays199 : Go.Proofs.Lays.n199 Tryz.prog Tryz.lays199_ren := {
  mixed := by kernel_rfl
  f199 := Tryz.func112.trans (congrArg some (by kernel_rfl))
  f261 := Tryz.func115.trans (congrArg some (by kernel_rfl))
  f311 := Tryz.func118.trans (congrArg some (by kernel_rfl))
  f312 := Tryz.func119.trans (congrArg some (by kernel_rfl))
  t0 := Tryz.underlying0
  a0 := Tryz.isAgg0
  z0 := Tryz.sizeOf0
  v0 := Tryz.zeroValue0
  t3 := Tryz.underlying3
  a3 := Tryz.isAgg3
  z3 := Tryz.sizeOf3
  v3 := Tryz.zeroValue3
  t4 := Tryz.underlying4
  a4 := Tryz.isAgg4
  z4 := Tryz.sizeOf4
  v4 := Tryz.zeroValue4
  t21 := Tryz.underlying21
  a21 := Tryz.isAgg21
  z21 := Tryz.sizeOf21
  v21 := Tryz.zeroValue21
  t46 := Tryz.underlying101
  a46 := Tryz.isAgg101
  z46 := Tryz.sizeOf101
  v46 := Tryz.zeroValue101
  t49 := Tryz.underlying145
  a49 := Tryz.isAgg145
  z49 := Tryz.sizeOf145
  v49 := Tryz.zeroValue145
  t51 := Tryz.underlying115
  a51 := Tryz.isAgg115
  z51 := Tryz.sizeOf115
  v51 := Tryz.zeroValue115
  t141 := Tryz.underlying134
  a141 := Tryz.isAgg134
  z141 := Tryz.sizeOf134
  v141 := Tryz.zeroValue134
  t193 := Tryz.underlying141
  a193 := Tryz.isAgg141
  z193 := Tryz.sizeOf141
  v193 := Tryz.zeroValue141
  t194 := Tryz.underlying142
  a194 := Tryz.isAgg142
  z194 := Tryz.sizeOf142
  v194 := Tryz.zeroValue142
  t196 := Tryz.underlying144
  a196 := Tryz.isAgg144
  z196 := Tryz.sizeOf144
  v196 := Tryz.zeroValue144
  t198 := Tryz.underlying147
  a198 := Tryz.isAgg147
  z198 := Tryz.sizeOf147
  v198 := Tryz.zeroValue147
  t201 := Tryz.underlying150
  a201 := Tryz.isAgg150
  z201 := Tryz.sizeOf150
  v201 := Tryz.zeroValue150
  t226 := Tryz.underlying156
  a226 := Tryz.isAgg156
  z226 := Tryz.sizeOf156
  v226 := Tryz.zeroValue156
  t227 := Tryz.underlying157
  a227 := Tryz.isAgg157
  z227 := Tryz.sizeOf157
  v227 := Tryz.zeroValue157
  g6 := by kernel_rfl }
open Go.RowKit Go.Lib in
theorem Tryz.unicode_IsSpace (r : Int) (w : World) (h0 : 0 ≤ r) (h : r ≤ 255) :
    Calls Tryz.prog 112 #[.int .i32 r] w fun e w' => e = .returned (.bool (Lib.isSpaceL r)) ∧ w' = w := Any.unicode_IsSpace Tryz.lays199 r w h0 h
def Tryz.lays203_ren : Go.Shelf.Ren := ⟨fun | 203 => 102 | 262 => 109 | 313 => 114 | 274 => 116 | 275 => 117 | n => n, fun | 21 => 21 | 4 => 4 | 3 => 3 | 162 => 131 | 203 => 129 | 160 => 138 | 46 => 101 | 0 => 0 | 208 => 155 | 51 => 115 | 206 => 153 | n => n, fun | 13 => 1 | n => n⟩
theorem Tryz.lays203 : Go.Proofs.Lays.n203 Tryz.prog Tryz.lays203_ren := {
  mixed := by kernel_rfl
  f203 := Tryz.func102.trans (congrArg some (by kernel_rfl))
  f262 := Tryz.func109.trans (congrArg some (by kernel_rfl))
  f274 := Tryz.func116.trans (congrArg some (by kernel_rfl))
  f275 := Tryz.func117.trans (congrArg some (by kernel_rfl))
  f313 := Tryz.func114.trans (congrArg some (by kernel_rfl))
  t0 := Tryz.underlying0
  a0 := Tryz.isAgg0
  z0 := Tryz.sizeOf0
  v0 := Tryz.zeroValue0
  t3 := Tryz.underlying3
  a3 := Tryz.isAgg3
  z3 := Tryz.sizeOf3
  v3 := Tryz.zeroValue3
  t4 := Tryz.underlying4
  a4 := Tryz.isAgg4
  z4 := Tryz.sizeOf4
  v4 := Tryz.zeroValue4
  t21 := Tryz.underlying21
  a21 := Tryz.isAgg21
  z21 := Tryz.sizeOf21
  v21 := Tryz.zeroValue21
  t46 := Tryz.underlying101
  a46 := Tryz.isAgg101
  z46 := Tryz.sizeOf101
  v46 := Tryz.zeroValue101
  t51 := Tryz.underlying115
  a51 := Tryz.isAgg115
  z51 := Tryz.sizeOf115
  v51 := Tryz.zeroValue115
  t160 := Tryz.underlying138
  a160 := Tryz.isAgg138
  z160 := Tryz.sizeOf138
  v160 := Tryz.zeroValue138
  t162 := Tryz.underlying131
  a162 := Tryz.isAgg131
  z162 := Tryz.sizeOf131
  v162 := Tryz.zeroValue131
  t203 := Tryz.underlying129
  a203 := Tryz.isAgg129
  z203 := Tryz.sizeOf129
  v203 := Tryz.zeroValue129
  t206 := Tryz.underlying153
  a206 := Tryz.isAgg153
  z206 := Tryz.sizeOf153
  v206 := Tryz.zeroValue153
  t208 := Tryz.underlying155
  a208 := Tryz.isAgg155
  z208 := Tryz.sizeOf155
  v208 := Tryz.zeroValue155
  g13 := by kernel_rfl }
open Go.RowKit Go.Lib in
theorem Tryz.unicode_ToUpper (r : Int) (w : World) (h : r ≤ 127) :
    Calls Tryz.prog 102 #[.int .i32 r] w fun e w' => e = .returned (.int .i32 (Lib.toUpperR r)) ∧ w' = w := Any.unicode_ToUpper Tryz.lays203 r w h
def Tryz.lays204_ren : Go.Shelf.Ren := ⟨fun | 204 => 99 | 262 => 109 | 313 => 114 | 274 => 116 | 275 => 117 | n => n, fun | 21 => 21 | 4 => 4 | 3 => 3 | 162 => 131 | 203 => 129 | 160 => 138 | 46 => 101 | 0 => 0 | 208 => 155 | 51 => 115 | 206 => 153 | n => n, fun | 13 => 1 | n => n⟩
theorem Tryz.lays204 : Go.Proofs.Lays.n204 Tryz.prog Tryz.lays204_ren := {
  mixed := by kernel_rfl
  f204 := Tryz.func99.trans (congrArg some (by kernel_rfl))
  f262 := Tryz.func109.trans (congrArg some (by kernel_rfl))
  f274 := Tryz.func116.trans (congrArg some (by kernel_rfl))
  f275 := Tryz.func117.trans (congrArg some (by kernel_rfl))
  f313 := Tryz.func114.trans (congrArg some (by kernel_rfl))
  t0 := Tryz.underlying0
  a0 := Tryz.isAgg0
  z0 := Tryz.sizeOf0
  v0 := Tryz.zeroValue0
  t3 := Tryz.underlying3
  a3 := Tryz.isAgg3
  z3 := Tryz.sizeOf3
  v3 := Tryz.zeroValue3
  t4 := Tryz.underlying4
  a4 := Tryz.isAgg4
  z4 := Tryz.sizeOf4
  v4 := Tryz.zeroValue4
  t21 := Tryz.underlying21
  a21 := Tryz.isAgg21
  z21 := Tryz.sizeOf21
  v21 := Tryz.zeroValue21
  t46 := Tryz.underlying101
  a46 := Tryz.isAgg101
  z46 := Tryz.sizeOf101
  v46 := Tryz.zeroValue101
  t51 := Tryz.underlying115
  a51 := Tryz.isAgg115
  z51 := Tryz.sizeOf115
  v51 := Tryz.zeroValue115
  t160 := Tryz.underlying138
  a160 := Tryz.isAgg138
  z160 := Tryz.sizeOf138
  v160 := Tryz.zeroValue138
  t162 := Tryz.underlying131
  a162 := Tryz.isAgg131
  z162 := Tryz.sizeOf131
  v162 := Tryz.zeroValue131
  t203 := Tryz.underlying129
  a203 := Tryz.isAgg129
  z203 := Tryz.sizeOf129
  v203 := Tryz.zeroValue129
  t206 := Tryz.underlying153
  a206 := Tryz.isAgg153
  z206 := Tryz.sizeOf153
  v206 := Tryz.zeroValue153
  t208 := Tryz.underlying155
  a208 := Tryz.isAgg155
  z208 := Tryz.sizeOf155
  v208 := Tryz.zeroValue155
  g13 := by kernel_rfl }
open Go.RowKit Go.Lib in
theorem Tryz.unicode_ToLower (r : Int) (w : World) (h : r ≤ 127) :
    Calls Tryz.prog 99 #[.int .i32 r] w fun e w' => e = .returned (.int .i32 (Lib.toLowerR r)) ∧ w' = w := Any.unicode_ToLower Tryz.lays204 r w h
def Tryz.lays200_ren : Go.Shelf.Ren := ⟨fun | 200 => 110 | 261 => 115 | 311 => 118 | 312 => 119 | n => n, fun | 21 => 21 | 4 => 4 | 51 => 115 | 5 => 5 | 119 => 132 | 0 => 0 | 141 => 134 | 196 => 144 | 193 => 141 | 3 => 3 | 198 => 147 | 49 => 145 | 194 => 142 | 201 => 150 | 226 => 156 | 46 => 101 | 227 => 157 | n => n, fun | 7 => 2 | 8 => 3 | n => n⟩
theorem Tryz.lays200 : Go.Proofs.Lays.n200 Tryz.prog Tryz.lays200_ren := {
  mixed := by kernel_rfl
  f200 := Tryz.func110.trans (congrArg some (by kernel_rfl))
  f261 := Tryz.func115.trans (congrArg some (by kernel_rfl))
  f311 := Tryz.func118.trans (congrArg some (by kernel_rfl))
  f312 := Tryz.func119.trans (congrArg some (by kernel_rfl))
  t0 := Tryz.underlying0
  a0 := Tryz.isAgg0
  z0 := Tryz.sizeOf0
  v0 := Tryz.zeroValue0
  t3 := Tryz.underlying3
  a3 := Tryz.isAgg3
  z3 := Tryz.sizeOf3
  v3 := Tryz.zeroValue3
  t4 := Tryz.underlying4
  a4 := Tryz.isAgg4
  z4 := Tryz.sizeOf4
  v4 := Tryz.zeroValue4
  t5 := Tryz.underlying5
  a5 := Tryz.isAgg5
  z5 := Tryz.sizeOf5
  v5 := Tryz.zeroValue5
  t21 := Tryz.underlying21
  a21 := Tryz.isAgg21
  z21 := Tryz.sizeOf21
  v21 := Tryz.zeroValue21
  t46 := Tryz.underlying101
  a46 := Tryz.isAgg101
  z46 := Tryz.sizeOf101
  v46 := Tryz.zeroValue101
  t49 := Tryz.underlying145
  a49 := Tryz.isAgg145
  z49 := Tryz.sizeOf145
  v49 := Tryz.zeroValue145
  t51 := Tryz.underlying115
  a51 := Tryz.isAgg115
  z51 := Tryz.sizeOf115
  v51 := Tryz.zeroValue115
  t119 := Tryz.underlying132
  a119 := Tryz.isAgg132
  z119 := Tryz.sizeOf132
  t141 := Tryz.underlying134
  a141 := Tryz.isAgg134
  z141 := Tryz.sizeOf134
  v141 := Tryz.zeroValue134
  t193 := Tryz.underlying141
  a193 := Tryz.isAgg141
  z193 := Tryz.sizeOf141
  v193 := Tryz.zeroValue141
  t194 := Tryz.underlying142
  a194 := Tryz.isAgg142
  z194 := Tryz.sizeOf142
  v194 := Tryz.zeroValue142
  t196 := Tryz.underlying144
  a196 := Tryz.isAgg144
  z196 := Tryz.sizeOf144
  v196 := Tryz.zeroValue144
  t198 := Tryz.underlying147
  a198 := Tryz.isAgg147
  z198 := Tryz.sizeOf147
  v198 := Tryz.zeroValue147
  t201 := Tryz.underlying150
  a201 := Tryz.isAgg150
  z201 := Tryz.sizeOf150
  v201 := Tryz.zeroValue150
  t226 := Tryz.underlying156
  a226 := Tryz.isAgg156
  z226 := Tryz.sizeOf156
  v226 := Tryz.zeroValue156
  t227 := Tryz.underlying157
  a227 := Tryz.isAgg157
  z227 := Tryz.sizeOf157
  v227 := Tryz.zeroValue157
  g7 := by kernel_rfl
  g8 := by kernel_rfl }
open Go.RowKit Go.Lib in
theorem Tryz.unicode_IsLetter (c : Nat) (w : World) (hc : c < 256) (htab : Lib.TabIs Tryz.prog w "unicode.properties" .u8 Lib.propertiesTab) :
    Calls Tryz.prog 110 #[.int .i32 c] w fun e w' => e = .returned (.bool (Lib.isLetterL c)) ∧ w' = w := Any.unicode_IsLetter Tryz.lays200 (by kernel_rfl) c w hc htab
open Go.RowKit Go.Lib in
theorem Tryz.utf8_RuneCountInString_ascii (s : ByteArray) (w : World) (hs : s.size < 4294967281) (hascii : ∀ (j : Nat) b, s.data.toList[j]? = some b → b.toNat < 128) :
    Calls Tryz.prog 55 #[.string s] w fun e w' => e = .returned (.int .i64 s.size) ∧ w' = w.iter s s.size := Any.utf8_RuneCountInString_ascii Tryz.lays195 s w hs hascii
def Tryz.lays264_ren : Go.Shelf.Ren := ⟨fun | 264 => 94 | n => n, fun | 53 => 118 | 46 => 101 | n => n, fun | n => n⟩
theorem Tryz.lays264 : Go.Proofs.Lays.n264 Tryz.prog Tryz.lays264_ren := {
  mixed := by kernel_rfl
  f264 := Tryz.func94.trans (congrArg some (by kernel_rfl))
  t46 := Tryz.underlying101
  a46 := Tryz.isAgg101
  z46 := Tryz.sizeOf101
  v46 := Tryz.zeroValue101
  t53 := Tryz.underlying118
  a53 := Tryz.isAgg118
  z53 := Tryz.sizeOf118
  v53 := Tryz.zeroValue118 }
open Go.RowKit Go.Lib in
theorem Tryz.bits_Mul64 (x y : Nat) (hx : x < 18446744073709551616) (hy : y < 18446744073709551616) (w : World) :
    Calls Tryz.prog 94 #[.int .u64 x, .int .u64 y] w fun e w' => e = .returned (.tuple #[.int .u64 ((x * y / 18446744073709551616 : Nat) : Int), .int .u64 ((x * y % 18446744073709551616 : Nat) : Int)]) ∧ w' = w := Any.bits_Mul64 Tryz.lays264 x y hx hy w
def Tryz.lays212_ren : Go.Shelf.Ren := ⟨fun | 212 => 76 | 263 => 93 | 264 => 94 | n => n, fun | 46 => 101 | 51 => 115 | 146 => 116 | 53 => 118 | 148 => 119 | n => n, fun | n => n⟩
theorem Tryz.lays212 : Go.Proofs.Lays.n212 Tryz.prog Tryz.lays212_ren := {
  mixed := by kernel_rfl
  f212 := Tryz.func76.trans (congrArg some (by kernel_rfl))
  f263 := Tryz.func93.trans (congrArg some (by kernel_rfl))
  f264 := Tryz.func94.trans (congrArg some (by kernel_rfl))
  t46 := Tryz.underlying101
  a46 := Tryz.isAgg101
  z46 := Tryz.sizeOf101
  v46 := Tryz.zeroValue101
  t51 := Tryz.underlying115
  a51 := Tryz.isAgg115
  z51 := Tryz.sizeOf115
  v51 := Tryz.zeroValue115
  t53 := Tryz.underlying118
  a53 := Tryz.isAgg118
  z53 := Tryz.sizeOf118
  v53 := Tryz.zeroValue118
  t146 := Tryz.underlying116
  a146 := Tryz.isAgg116
  z146 := Tryz.sizeOf116
  v146 := Tryz.zeroValue116
  t148 := Tryz.underlying119
  a148 := Tryz.isAgg119
  z148 := Tryz.sizeOf119
  v148 := Tryz.zeroValue119 }
open Go.RowKit Go.Lib in
/-- math/bits.Mul: "Mul returns the full-width product of x and y": on a machine of 64 bits: Mul64's. (LAID: no walk: one application.) -/
theorem Tryz.bits_Mul (x y : Nat) (hx : x < 18446744073709551616) (hy : y < 18446744073709551616) (w : World) :
    Calls Tryz.prog 76 #[.int .u64 x, .int .u64 y] w fun e w' => e = .returned (.tuple #[.int .u64 ((x * y / 18446744073709551616 : Nat) : Int), .int .u64 ((x * y % 18446744073709551616 : Nat) : Int)]) ∧ w' = w := Any.bits_Mul Tryz.lays212 x y hx hy w
def Tryz.lays105_ren : Go.Shelf.Ren := ⟨fun | 105 => 54 | 212 => 76 | 99 => 77 | 165 => 40 | 166 => 65 | 170 => 78 | 169 => 66 | 263 => 93 | 264 => 94 | 206 => 95 | 240 => 56 | 241 => 57 | 276 => 79 | 277 => 80 | n => n, fun | 9 => 9 | 3 => 3 | 4 => 4 | 20 => 20 | 0 => 0 | 46 => 101 | 109 => 102 | 5 => 5 | 72 => 67 | 76 => 88 | 51 => 115 | 146 => 116 | 53 => 118 | 148 => 119 | 70 => 64 | 37 => 65 | 75 => 87 | 127 => 110 | 164 => 104 | 80 => 49 | n => n, fun | n => n⟩
theorem Tryz.lays105 : Go.Proofs.Lays.n105 Tryz.prog Tryz.lays105_ren := {
  mixed := by kernel_rfl
  f99 := Tryz.func77.trans (congrArg some (by kernel_rfl))
  f105 := Tryz.func54.trans (congrArg some (by kernel_rfl))
  f165 := Tryz.func40.trans (congrArg some (by kernel_rfl))
  f166 := Tryz.func65.trans (congrArg some (by kernel_rfl))
  f169 := Tryz.func66.trans (congrArg some (by kernel_rfl))
  f170 := Tryz.func78.trans (congrArg some (by kernel_rfl))
  f206 := Tryz.func95.trans (congrArg some (by kernel_rfl))
  f212 := Tryz.func76.trans (congrArg some (by kernel_rfl))
  f240 := Tryz.func56.trans (congrArg some (by kernel_rfl))
  f241 := Tryz.func57.trans (congrArg some (by kernel_rfl))
  f263 := Tryz.func93.trans (congrArg some (by kernel_rfl))
  f264 := Tryz.func94.trans (congrArg some (by kernel_rfl))
  f276 := Tryz.func79.trans (congrArg some (by kernel_rfl))
  f277 := Tryz.func80.trans (congrArg some (by kernel_rfl))
  t0 := Tryz.underlying0
  a0 := Tryz.isAgg0
  z0 := Tryz.sizeOf0
  v0 := Tryz.zeroValue0
  t3 := Tryz.underlying3
  a3 := Tryz.isAgg3
  z3 := Tryz.sizeOf3
  v3 := Tryz.zeroValue3
  t4 := Tryz.underlying4
  a4 := Tryz.isAgg4
  z4 := Tryz.sizeOf4
  v4 := Tryz.zeroValue4
  t5 := Tryz.underlying5
  a5 := Tryz.isAgg5
  z5 := Tryz.sizeOf5
  v5 := Tryz.zeroValue5
  t9 := Tryz.underlying9
  a9 := Tryz.isAgg9
  z9 := Tryz.sizeOf9
  v9 := Tryz.zeroValue9
  t20 := Tryz.underlying20
  a20 := Tryz.isAgg20
  z20 := Tryz.sizeOf20
  v20 := Tryz.zeroValue20
  t37 := Tryz.underlying65
  a37 := Tryz.isAgg65
  z37 := Tryz.sizeOf65
  v37 := Tryz.zeroValue65
  t46 := Tryz.underlying101
  a46 := Tryz.isAgg101
  z46 := Tryz.sizeOf101
  v46 := Tryz.zeroValue101
  t51 := Tryz.underlying115
  a51 := Tryz.isAgg115
  z51 := Tryz.sizeOf115
  v51 := Tryz.zeroValue115
  t53 := Tryz.underlying118
  a53 := Tryz.isAgg118
  z53 := Tryz.sizeOf118
  v53 := Tryz.zeroValue118
  t70 := Tryz.underlying64
  a70 := Tryz.isAgg64
  z70 := Tryz.sizeOf64
  v70 := Tryz.zeroValue64
  t72 := Tryz.underlying67
  a72 := Tryz.isAgg67
  z72 := Tryz.sizeOf67
  v72 := Tryz.zeroValue67
  t75 := Tryz.underlying87
  a75 := Tryz.isAgg87
  z75 := Tryz.sizeOf87
  v75 := Tryz.zeroValue87
  t76 := Tryz.underlying88
  a76 := Tryz.isAgg88
  z76 := Tryz.sizeOf88
  v76 := Tryz.zeroValue88
  t109 := Tryz.underlying102
  a109 := Tryz.isAgg102
  z109 := Tryz.sizeOf102
  v109 := Tryz.zeroValue102
  t127 := Tryz.underlying110
  a127 := Tryz.isAgg110
  z127 := Tryz.sizeOf110
  v127 := Tryz.zeroValue110
  t146 := Tryz.underlying116
  a146 := Tryz.isAgg116
  z146 := Tryz.sizeOf116
  v146 := Tryz.zeroValue116
  t148 := Tryz.underlying119
  a148 := Tryz.isAgg119
  z148 := Tryz.sizeOf119
  v148 := Tryz.zeroValue119
  t164 := Tryz.underlying104
  a164 := Tryz.isAgg104
  z164 := Tryz.sizeOf104
  v164 := Tryz.zeroValue104 }
theorem Tryz.Builder_Extra_105 : Builder.Extra Tryz.prog Tryz.lays105_ren := {
  sizeBuilder := by kernel_rfl
  liesBuilder := by kernel_rfl
  t5 := Tryz.underlying5
  a5 := Tryz.isAgg5
  z5 := Tryz.sizeOf5
  v5 := Tryz.zeroValue5
  infoByte := by kernel_rfl
  cellsByte := by kernel_rfl
  sizeByte := by kernel_rfl
  neB5 := by decide }
open Go.RowKit Go.Lib in
/-- THE MAIN CASE: at least two copies of a string that is not empty. (LAID: no walk: one application.) -/
theorem Tryz.strings_Repeat_main (s : ByteArray) (c : Nat) (w : World) (hc2 : 2 ≤ c) (hc : c ≤ 9223372036854775807) (hlen : s.size * c ≤ 140737488355328) (h0 : 0 < s.size) :
    Calls Tryz.prog 54 #[.string s, .int .i64 c] w fun e w' => e = .returned (.string ⟨(Lib.repeatL s.data.toList c).toArray⟩) ∧ Below w.heap.size w w' := Any.strings_Repeat_main Tryz.lays105 Tryz.Builder_Extra_105 s c w hc2 hc hlen h0
open Go.RowKit Go.Lib in
theorem Tryz.strings_Repeat_zero (s : ByteArray) (w : World) :
    Calls Tryz.prog 54 #[.string s, .int .i64 0] w fun e w' => e = .returned (.string ⟨#[]⟩) ∧ w' = w := Any.strings_Repeat_zero Tryz.lays105 s w
open Go.RowKit Go.Lib in
theorem Tryz.strings_Repeat_one (s : ByteArray) (w : World) :
    Calls Tryz.prog 54 #[.string s, .int .i64 1] w fun e w' => e = .returned (.string s) ∧ w' = w := Any.strings_Repeat_one Tryz.lays105 s w
open Go.RowKit Go.Lib in
/-- Copies of the empty string. (LAID: no walk: one application.) -/
theorem Tryz.strings_Repeat_empty (s : ByteArray) (c : Nat) (w : World) (hc2 : 2 ≤ c) (hc : c ≤ 9223372036854775807) (h0 : s.size = 0) :
    Calls Tryz.prog 54 #[.string s, .int .i64 c] w fun e w' => e = .returned (.string ⟨#[]⟩) ∧ w' = w := Any.strings_Repeat_empty Tryz.lays105 s c w hc2 hc h0
open Go.RowKit Go.Lib in
/-- count < 0: "It panics if count is negative". (LAID: no walk: one application.) -/
theorem Tryz.strings_Repeat_negative (s : ByteArray) (c : Int) (w : World) (hc : c < 0) :
    Calls Tryz.prog 54 #[.string s, .int .i64 c] w fun e w' => e = .panicked [{ v := repeatPanic Tryz.lays105_ren "strings: negative Repeat count", recovered := false }] ∧ w' = w := Any.strings_Repeat_negative Tryz.lays105 s c w hc
open Go.RowKit Go.Lib in
/-- len(s) * count is no int: ".. or if the result of (len(s) * count) overflows". (LAID: no walk: one application.) -/
theorem Tryz.strings_Repeat_overflow (s : ByteArray) (c : Nat) (w : World) (hc : c ≤ 9223372036854775807) (hs : s.size ≤ 9223372036854775807) (hbig : 9223372036854775807 < s.size * c) :
    Calls Tryz.prog 54 #[.string s, .int .i64 c] w fun e w' => e = .panicked [{ v := repeatPanic Tryz.lays105_ren "strings: Repeat output length overflow", recovered := false }] ∧ w' = w := Any.strings_Repeat_overflow Tryz.lays105 s c w hc hs hbig
open Go.RowKit Go.Lib in
/-- **strings.Repeat: count ≥ 0, the result within one allocation: count copies of s.** (LAID: no walk: one application.) -/
theorem Tryz.strings_Repeat (s : ByteArray) (c : Nat) (w : World) (hc : c ≤ 9223372036854775807) (hlen : s.size * c ≤ 140737488355328) :
    Calls Tryz.prog 54 #[.string s, .int .i64 c] w fun e w' => e = .returned (.string ⟨(Lib.repeatL s.data.toList c).toArray⟩) ∧ Below w.heap.size w w' := Any.strings_Repeat Tryz.lays105 Tryz.Builder_Extra_105 s c w hc hlen
def Tryz.lays260_ren : Go.Shelf.Ren := ⟨fun | 260 => 113 | n => n, fun | 9 => 9 | 21 => 21 | 3 => 3 | 4 => 4 | 5 => 5 | 119 => 132 | 0 => 0 | 46 => 101 | 139 => 137 | 138 => 136 | n => n, fun | 3 => 6 | 4 => 7 | n => n⟩
theorem Tryz.lays260 : Go.Proofs.Lays.n260 Tryz.prog Tryz.lays260_ren := {
  mixed := by kernel_rfl
  f260 := Tryz.func113.trans (congrArg some (by kernel_rfl))
  t0 := Tryz.underlying0
  a0 := Tryz.isAgg0
  z0 := Tryz.sizeOf0
  v0 := Tryz.zeroValue0
  t3 := Tryz.underlying3
  a3 := Tryz.isAgg3
  z3 := Tryz.sizeOf3
  v3 := Tryz.zeroValue3
  t4 := Tryz.underlying4
  a4 := Tryz.isAgg4
  z4 := Tryz.sizeOf4
  v4 := Tryz.zeroValue4
  t5 := Tryz.underlying5
  a5 := Tryz.isAgg5
  z5 := Tryz.sizeOf5
  v5 := Tryz.zeroValue5
  t9 := Tryz.underlying9
  a9 := Tryz.isAgg9
  z9 := Tryz.sizeOf9
  v9 := Tryz.zeroValue9
  t21 := Tryz.underlying21
  a21 := Tryz.isAgg21
  z21 := Tryz.sizeOf21
  v21 := Tryz.zeroValue21
  t46 := Tryz.underlying101
  a46 := Tryz.isAgg101
  z46 := Tryz.sizeOf101
  v46 := Tryz.zeroValue101
  t119 := Tryz.underlying132
  a119 := Tryz.isAgg132
  z119 := Tryz.sizeOf132
  t138 := Tryz.underlying136
  a138 := Tryz.isAgg136
  z138 := Tryz.sizeOf136
  v138 := Tryz.zeroValue136
  t139 := Tryz.underlying137
  a139 := Tryz.isAgg137
  z139 := Tryz.sizeOf137
  v139 := Tryz.zeroValue137
  g3 := by kernel_rfl
  g4 := by kernel_rfl }
open Go.RowKit Go.Lib in
theorem Tryz.utf8_decodeRuneInStringSlow (s : ByteArray) (w : World) (hT : Lib.Utf8Tabs 6 7 w) :
    Calls Tryz.prog 113 #[.string s] w fun e w' => e = .returned (.tuple #[.int .i32 (Lib.decodeGo s).1, .int .i64 (Lib.decodeGo s).2]) ∧ Below w.heap.size w w' := Any.utf8_decodeRuneInStringSlow Tryz.lays260 s w hT
def Tryz.lays311_ren : Go.Shelf.Ren := ⟨fun | 311 => 118 | n => n, fun | 193 => 141 | 49 => 145 | 4 => 4 | 3 => 3 | 0 => 0 | 226 => 156 | 198 => 147 | 46 => 101 | n => n, fun | n => n⟩
theorem Tryz.lays311 : Go.Proofs.Lays.n311 Tryz.prog Tryz.lays311_ren := {
  mixed := by kernel_rfl
  f311 := Tryz.func118.trans (congrArg some (by kernel_rfl))
  t0 := Tryz.underlying0
  a0 := Tryz.isAgg0
  z0 := Tryz.sizeOf0
  v0 := Tryz.zeroValue0
  t3 := Tryz.underlying3
  a3 := Tryz.isAgg3
  z3 := Tryz.sizeOf3
  v3 := Tryz.zeroValue3
  t4 := Tryz.underlying4
  a4 := Tryz.isAgg4
  z4 := Tryz.sizeOf4
  v4 := Tryz.zeroValue4
  t46 := Tryz.underlying101
  a46 := Tryz.isAgg101
  z46 := Tryz.sizeOf101
  v46 := Tryz.zeroValue101
  t49 := Tryz.underlying145
  a49 := Tryz.isAgg145
  z49 := Tryz.sizeOf145
  v49 := Tryz.zeroValue145
  t193 := Tryz.underlying141
  a193 := Tryz.isAgg141
  z193 := Tryz.sizeOf141
  v193 := Tryz.zeroValue141
  t198 := Tryz.underlying147
  a198 := Tryz.isAgg147
  z198 := Tryz.sizeOf147
  v198 := Tryz.zeroValue147
  t226 := Tryz.underlying156
  a226 := Tryz.isAgg156
  z226 := Tryz.sizeOf156
  v226 := Tryz.zeroValue156 }
open Go.RowKit Go.Lib in
theorem Tryz.unicode_is16_white (R oR : Nat) (z : Nat) (w : World) (hz : z < 65536) (hz0 : 255 < z) (c6 : w.cell? ⟨R, oR + 6, none⟩ = some (.int .u16 160)) (c7 : w.cell? ⟨R, oR + 7, none⟩ = some (.int .u16 5760)) (c8 : w.cell? ⟨R, oR + 8, none⟩ = some (.int .u16 5600)) (c9 : w.cell? ⟨R, oR + 9, none⟩ = some (.int .u16 8192)) (c10 : w.cell? ⟨R, oR + 10, none⟩ = some (.int .u16 8202)) (c11 : w.cell? ⟨R, oR + 11, none⟩ = some (.int .u16 1)) (c12 : w.cell? ⟨R, oR + 12, none⟩ = some (.int .u16 8232)) (c13 : w.cell? ⟨R, oR + 13, none⟩ = some (.int .u16 8233)) (c14 : w.cell? ⟨R, oR + 14, none⟩ = some (.int .u16 1)) (c15 : w.cell? ⟨R, oR + 15, none⟩ = some (.int .u16 8239)) (c16 : w.cell? ⟨R, oR + 16, none⟩ = some (.int .u16 8287)) (c17 : w.cell? ⟨R, oR + 17, none⟩ = some (.int .u16 48)) (c18 : w.cell? ⟨R, oR + 18, none⟩ = some (.int .u16 12288)) (c19 : w.cell? ⟨R, oR + 19, none⟩ = some (.int .u16 12288)) (c20 : w.cell? ⟨R, oR + 20, none⟩ = some (.int .u16 1)) :
    Calls Tryz.prog 118 #[.slice (some ⟨R, oR + 6, none⟩) 5 5, .int .u16 z] w fun e w' => e = .returned (.bool (Lib.isSpaceR z)) ∧ Below w.heap.size w w' := Any.unicode_is16_white Tryz.lays311 R oR z w hz hz0 c6 c7 c8 c9 c10 c11 c12 c13 c14 c15 c16 c17 c18 c19 c20
def Tryz.lays261_ren : Go.Shelf.Ren := ⟨fun | 261 => 115 | 311 => 118 | 312 => 119 | n => n, fun | 141 => 134 | 21 => 21 | 4 => 4 | 0 => 0 | 196 => 144 | 193 => 141 | 3 => 3 | 51 => 115 | 198 => 147 | 49 => 145 | 194 => 142 | 201 => 150 | 226 => 156 | 46 => 101 | 227 => 157 | n => n, fun | n => n⟩
theorem Tryz.lays261 : Go.Proofs.Lays.n261 Tryz.prog Tryz.lays261_ren := {
  mixed := by kernel_rfl
  f261 := Tryz.func115.trans (congrArg some (by kernel_rfl))
  f311 := Tryz.func118.trans (congrArg some (by kernel_rfl))
  f312 := Tryz.func119.trans (congrArg some (by kernel_rfl))
  t0 := Tryz.underlying0
  a0 := Tryz.isAgg0
  z0 := Tryz.sizeOf0
  v0 := Tryz.zeroValue0
  t3 := Tryz.underlying3
  a3 := Tryz.isAgg3
  z3 := Tryz.sizeOf3
  v3 := Tryz.zeroValue3
  t4 := Tryz.underlying4
  a4 := Tryz.isAgg4
  z4 := Tryz.sizeOf4
  v4 := Tryz.zeroValue4
  t21 := Tryz.underlying21
  a21 := Tryz.isAgg21
  z21 := Tryz.sizeOf21
  v21 := Tryz.zeroValue21
  t46 := Tryz.underlying101
  a46 := Tryz.isAgg101
  z46 := Tryz.sizeOf101
  v46 := Tryz.zeroValue101
  t49 := Tryz.underlying145
  a49 := Tryz.isAgg145
  z49 := Tryz.sizeOf145
  v49 := Tryz.zeroValue145
  t51 := Tryz.underlying115
  a51 := Tryz.isAgg115
  z51 := Tryz.sizeOf115
  v51 := Tryz.zeroValue115
  t141 := Tryz.underlying134
  a141 := Tryz.isAgg134
  z141 := Tryz.sizeOf134
  v141 := Tryz.zeroValue134
  t193 := Tryz.underlying141
  a193 := Tryz.isAgg141
  z193 := Tryz.sizeOf141
  v193 := Tryz.zeroValue141
  t194 := Tryz.underlying142
  a194 := Tryz.isAgg142
  z194 := Tryz.sizeOf142
  v194 := Tryz.zeroValue142
  t196 := Tryz.underlying144
  a196 := Tryz.isAgg144
  z196 := Tryz.sizeOf144
  v196 := Tryz.zeroValue144
  t198 := Tryz.underlying147
  a198 := Tryz.isAgg147
  z198 := Tryz.sizeOf147
  v198 := Tryz.zeroValue147
  t201 := Tryz.underlying150
  a201 := Tryz.isAgg150
  z201 := Tryz.sizeOf150
  v201 := Tryz.zeroValue150
  t226 := Tryz.underlying156
  a226 := Tryz.isAgg156
  z226 := Tryz.sizeOf156
  v226 := Tryz.zeroValue156
  t227 := Tryz.underlying157
  a227 := Tryz.isAgg157
  z227 := Tryz.sizeOf157
  v227 := Tryz.zeroValue157 }
open Go.RowKit Go.Lib in
/-- unicode.isExcludingLatin(White_Space, r), r beyond U+00FF or negative. (LAID: no walk: one application.) -/
theorem Tryz.unicode_isExcludingLatin_white (T oT R oR : Nat) (r : Int) (w : World) (hlo : -2147483648 ≤ r) (hhi : r ≤ 2147483647) (hr : r < 0 ∨ 255 < r) (h2 : w.cell? ⟨T, oT, none⟩ = some (.slice (some ⟨R, oR, none⟩) 7 7)) (h3 : w.cell? ⟨T, oT + 1, none⟩ = some (.slice none 0 0)) (h4 : w.cell? ⟨T, oT + 2, none⟩ = some (.int .i64 2)) (h5 : ∀ i, i < 21 → w.cell? ⟨R, oR + i, none⟩ = some (.int .u16 (whiteT.getD i 0))) :
    Calls Tryz.prog 115 #[.pointer (some ⟨T, oT, none⟩), .int .i32 r] w fun e w' => e = .returned (.bool (Lib.isSpaceZ r)) ∧ Below w.heap.size w w' := Any.unicode_isExcludingLatin_white Tryz.lays261 T oT R oR r w hlo hhi hr h2 h3 h4 h5
open Go.RowKit Go.Lib in
/-- **unicode.IsSpace AT EVERY int32.** (LAID: no walk: one application.) -/
theorem Tryz.unicode_IsSpace_any (r : Int) (w : World) (hlo : -2147483648 ≤ r) (hhi : r ≤ 2147483647) (hW : Lib.WhiteTab 5 w) :
    Calls Tryz.prog 112 #[.int .i32 r] w fun e w' => e = .returned (.bool (Lib.isSpaceZ r)) ∧ Below w.heap.size w w' := Any.unicode_IsSpace_any Tryz.lays199 r w hlo hhi hW
def Tryz.lays274_ren : Go.Shelf.Ren := ⟨fun | 274 => 116 | n => n, fun | 21 => 21 | 162 => 131 | 160 => 138 | 3 => 3 | 4 => 4 | 46 => 101 | 0 => 0 | 208 => 155 | 51 => 115 | 206 => 153 | n => n, fun | n => n⟩
theorem Tryz.lays274 : Go.Proofs.Lays.n274 Tryz.prog Tryz.lays274_ren := {
  mixed := by kernel_rfl
  f274 := Tryz.func116.trans (congrArg some (by kernel_rfl))
  t0 := Tryz.underlying0
  a0 := Tryz.isAgg0
  z0 := Tryz.sizeOf0
  v0 := Tryz.zeroValue0
  t3 := Tryz.underlying3
  a3 := Tryz.isAgg3
  z3 := Tryz.sizeOf3
  v3 := Tryz.zeroValue3
  t4 := Tryz.underlying4
  a4 := Tryz.isAgg4
  z4 := Tryz.sizeOf4
  v4 := Tryz.zeroValue4
  t21 := Tryz.underlying21
  a21 := Tryz.isAgg21
  z21 := Tryz.sizeOf21
  v21 := Tryz.zeroValue21
  t46 := Tryz.underlying101
  a46 := Tryz.isAgg101
  z46 := Tryz.sizeOf101
  v46 := Tryz.zeroValue101
  t51 := Tryz.underlying115
  a51 := Tryz.isAgg115
  z51 := Tryz.sizeOf115
  v51 := Tryz.zeroValue115
  t160 := Tryz.underlying138
  a160 := Tryz.isAgg138
  z160 := Tryz.sizeOf138
  v160 := Tryz.zeroValue138
  t162 := Tryz.underlying131
  a162 := Tryz.isAgg131
  z162 := Tryz.sizeOf131
  v162 := Tryz.zeroValue131
  t208 := Tryz.underlying155
  a208 := Tryz.isAgg155
  z208 := Tryz.sizeOf155
  v208 := Tryz.zeroValue155 }
open Go.RowKit Go.Lib in
theorem Tryz.unicode_lookupCaseRange (T : Array CaseRow) (R oR cap : Nat) (r : Int) (w : World) (hT : CaseTab R oR T w) (hok : CaseOk T) (hn : T.size ≤ 1000000000) :
    Calls Tryz.prog 116 #[.int .i32 r, .slice (some ⟨R, oR, none⟩) T.size cap] w fun e w' =>
      e = .returned (match lookupIdx T r (T.size + 1) 0 T.size with | some i => .pointer (some ⟨R, oR + i * 5, none⟩) | none => .pointer none) ∧ w' = w := Any.unicode_lookupCaseRange Tryz.lays274 T R oR cap r w hT hok hn
def Tryz.lays275_ren : Go.Shelf.Ren := ⟨fun | 275 => 117 | n => n, fun | 3 => 3 | 21 => 21 | 160 => 138 | 0 => 0 | 208 => 155 | 206 => 153 | 4 => 4 | 51 => 115 | n => n, fun | n => n⟩
theorem Tryz.lays275 : Go.Proofs.Lays.n275 Tryz.prog Tryz.lays275_ren := {
  mixed := by kernel_rfl
  f275 := Tryz.func117.trans (congrArg some (by kernel_rfl))
  t0 := Tryz.underlying0
  a0 := Tryz.isAgg0
  z0 := Tryz.sizeOf0
  v0 := Tryz.zeroValue0
  t3 := Tryz.underlying3
  a3 := Tryz.isAgg3
  z3 := Tryz.sizeOf3
  v3 := Tryz.zeroValue3
  t4 := Tryz.underlying4
  a4 := Tryz.isAgg4
  z4 := Tryz.sizeOf4
  v4 := Tryz.zeroValue4
  t21 := Tryz.underlying21
  a21 := Tryz.isAgg21
  z21 := Tryz.sizeOf21
  v21 := Tryz.zeroValue21
  t51 := Tryz.underlying115
  a51 := Tryz.isAgg115
  z51 := Tryz.sizeOf115
  v51 := Tryz.zeroValue115
  t160 := Tryz.underlying138
  a160 := Tryz.isAgg138
  z160 := Tryz.sizeOf138
  v160 := Tryz.zeroValue138
  t206 := Tryz.underlying153
  a206 := Tryz.isAgg153
  z206 := Tryz.sizeOf153
  v206 := Tryz.zeroValue153
  t208 := Tryz.underlying155
  a208 := Tryz.isAgg155
  z208 := Tryz.sizeOf155
  v208 := Tryz.zeroValue155 }
open Go.RowKit Go.Lib in
theorem Tryz.unicode_convertCase (c : Nat) (hc : c < 3) (r : Int) (A o : Nat) (x : CaseRow) (w : World) (hlo : (x.1 : Int) ≤ r) (hhi : r ≤ (x.2.1 : Int)) (hH : x.2.1 < 2147483647) (c0 : w.cell? ⟨A, o, none⟩ = some (.int .u32 x.1)) (cD : w.cell? ⟨A, o + 2 + c, none⟩ = some (.int .i32 (x.delta c))) :
    Calls Tryz.prog 117 #[.int .i64 c, .int .i32 r, .pointer (some ⟨A, o, none⟩)] w fun e w' => e = .returned (.int .i32 (wrap32 (convertR c r x))) ∧ ∃ q, w' = w.drewN q := Any.unicode_convertCase Tryz.lays275 c hc r A o x w hlo hhi hH c0 cD
def Tryz.lays313_ren : Go.Shelf.Ren := ⟨fun | 313 => 114 | 274 => 116 | 275 => 117 | n => n, fun | 3 => 3 | 21 => 21 | 162 => 131 | 4 => 4 | 160 => 138 | 46 => 101 | 0 => 0 | 208 => 155 | 51 => 115 | 206 => 153 | n => n, fun | n => n⟩
theorem Tryz.lays313 : Go.Proofs.Lays.n313 Tryz.prog Tryz.lays313_ren := {
  mixed := by kernel_rfl
  f274 := Tryz.func116.trans (congrArg some (by kernel_rfl))
  f275 := Tryz.func117.trans (congrArg some (by kernel_rfl))
  f313 := Tryz.func114.trans (congrArg some (by kernel_rfl))
  t0 := Tryz.underlying0
  a0 := Tryz.isAgg0
  z0 := Tryz.sizeOf0
  v0 := Tryz.zeroValue0
  t3 := Tryz.underlying3
  a3 := Tryz.isAgg3
  z3 := Tryz.sizeOf3
  v3 := Tryz.zeroValue3
  t4 := Tryz.underlying4
  a4 := Tryz.isAgg4
  z4 := Tryz.sizeOf4
  v4 := Tryz.zeroValue4
  t21 := Tryz.underlying21
  a21 := Tryz.isAgg21
  z21 := Tryz.sizeOf21
  v21 := Tryz.zeroValue21
  t46 := Tryz.underlying101
  a46 := Tryz.isAgg101
  z46 := Tryz.sizeOf101
  v46 := Tryz.zeroValue101
  t51 := Tryz.underlying115
  a51 := Tryz.isAgg115
  z51 := Tryz.sizeOf115
  v51 := Tryz.zeroValue115
  t160 := Tryz.underlying138
  a160 := Tryz.isAgg138
  z160 := Tryz.sizeOf138
  v160 := Tryz.zeroValue138
  t162 := Tryz.underlying131
  a162 := Tryz.isAgg131
  z162 := Tryz.sizeOf131
  v162 := Tryz.zeroValue131
  t206 := Tryz.underlying153
  a206 := Tryz.isAgg153
  z206 := Tryz.sizeOf153
  v206 := Tryz.zeroValue153
  t208 := Tryz.underlying155
  a208 := Tryz.isAgg155
  z208 := Tryz.sizeOf155
  v208 := Tryz.zeroValue155 }
open Go.RowKit Go.Lib in
theorem Tryz.unicode_to (c : Nat) (hc : c < 3) (r : Int) (T : Array CaseRow) (R oR cap : Nat) (w : World) (hT : CaseTab R oR T w) (hok : CaseOk2 T) (hn : T.size ≤ 1000000000) :
    Calls Tryz.prog 114 #[.int .i64 c, .int .i32 r, .slice (some ⟨R, oR, none⟩) T.size cap] w fun e w' => e = .returned (.tuple #[.int .i32 (toW T c r), .bool (lookupIdx T r (T.size + 1) 0 T.size).isSome]) ∧ ∃ q, w' = w.drewN q := Any.unicode_to Tryz.lays313 c hc r T R oR cap w hT hok hn
def Tryz.lays262_ren : Go.Shelf.Ren := ⟨fun | 262 => 109 | 313 => 114 | 274 => 116 | 275 => 117 | n => n, fun | 3 => 3 | 21 => 21 | 162 => 131 | 203 => 129 | 4 => 4 | 160 => 138 | 46 => 101 | 0 => 0 | 208 => 155 | 51 => 115 | 206 => 153 | n => n, fun | 13 => 1 | n => n⟩
theorem Tryz.lays262 : Go.Proofs.Lays.n262 Tryz.prog Tryz.lays262_ren := {
  mixed := by kernel_rfl
  f262 := Tryz.func109.trans (congrArg some (by kernel_rfl))
  f274 := Tryz.func116.trans (congrArg some (by kernel_rfl))
  f275 := Tryz.func117.trans (congrArg some (by kernel_rfl))
  f313 := Tryz.func114.trans (congrArg some (by kernel_rfl))
  t0 := Tryz.underlying0
  a0 := Tryz.isAgg0
  z0 := Tryz.sizeOf0
  v0 := Tryz.zeroValue0
  t3 := Tryz.underlying3
  a3 := Tryz.isAgg3
  z3 := Tryz.sizeOf3
  v3 := Tryz.zeroValue3
  t4 := Tryz.underlying4
  a4 := Tryz.isAgg4
  z4 := Tryz.sizeOf4
  v4 := Tryz.zeroValue4
  t21 := Tryz.underlying21
  a21 := Tryz.isAgg21
  z21 := Tryz.sizeOf21
  v21 := Tryz.zeroValue21
  t46 := Tryz.underlying101
  a46 := Tryz.isAgg101
  z46 := Tryz.sizeOf101
  v46 := Tryz.zeroValue101
  t51 := Tryz.underlying115
  a51 := Tryz.isAgg115
  z51 := Tryz.sizeOf115
  v51 := Tryz.zeroValue115
  t160 := Tryz.underlying138
  a160 := Tryz.isAgg138
  z160 := Tryz.sizeOf138
  v160 := Tryz.zeroValue138
  t162 := Tryz.underlying131
  a162 := Tryz.isAgg131
  z162 := Tryz.sizeOf131
  v162 := Tryz.zeroValue131
  t203 := Tryz.underlying129
  a203 := Tryz.isAgg129
  z203 := Tryz.sizeOf129
  v203 := Tryz.zeroValue129
  t206 := Tryz.underlying153
  a206 := Tryz.isAgg153
  z206 := Tryz.sizeOf153
  v206 := Tryz.zeroValue153
  t208 := Tryz.underlying155
  a208 := Tryz.isAgg155
  z208 := Tryz.sizeOf155
  v208 := Tryz.zeroValue155
  g13 := by kernel_rfl }
open Go.RowKit Go.Lib in
theorem Tryz.unicode_To (c : Nat) (hc : c < 3) (r : Int) (T : Array CaseRow) (w : World) (hV : CaseVar 1 T w) (hok : CaseOk2 T) (hn : T.size ≤ 1000000000) :
    Calls Tryz.prog 109 #[.int .i64 c, .int .i32 r] w fun e w' => e = .returned (.int .i32 (toW T c r)) ∧ ∃ q, w' = w.drewN q := Any.unicode_To Tryz.lays262 c hc r T w hV hok hn
open Go.RowKit Go.Lib in
theorem Tryz.unicode_ToLower_any (r : Int) (T : Array CaseRow) (w : World) (hV : CaseVar 1 T w) (hok : CaseOk2 T) (hn : T.size ≤ 1000000000) :
    Calls Tryz.prog 99 #[.int .i32 r] w fun e w' => e = .returned (.int .i32 (Lib.toLowerW T r)) ∧ ∃ q, w' = w.drewN q := Any.unicode_ToLower_any Tryz.lays204 r T w hV hok hn
open Go.RowKit Go.Lib in
theorem Tryz.unicode_ToUpper_any (r : Int) (T : Array CaseRow) (w : World) (hV : CaseVar 1 T w) (hok : CaseOk2 T) (hn : T.size ≤ 1000000000) :
    Calls Tryz.prog 102 #[.int .i32 r] w fun e w' => e = .returned (.int .i32 (Lib.toUpperW T r)) ∧ ∃ q, w' = w.drewN q := Any.unicode_ToUpper_any Tryz.lays203 r T w hV hok hn
open Go.RowKit Go.Lib in
theorem Tryz.unicode_ToLower_laid (r : Int) (w : World) (hV : CaseVar 1 caseA w) :
    Calls Tryz.prog 99 #[.int .i32 r] w fun e w' => e = .returned (.int .i32 (toLowerU r)) ∧ ∃ q, w' = w.drewN q := Any.unicode_ToLower_laid Tryz.lays204 r w hV
open Go.RowKit Go.Lib in
theorem Tryz.unicode_ToUpper_laid (r : Int) (w : World) (hV : CaseVar 1 caseA w) :
    Calls Tryz.prog 102 #[.int .i32 r] w fun e w' => e = .returned (.int .i32 (toUpperU r)) ∧ ∃ q, w' = w.drewN q := Any.unicode_ToUpper_laid Tryz.lays203 r w hV
open Go.RowKit Go.Lib in
theorem Tryz.unicode_is16_any (T : Array Rg) (R oR cap : Nat) (z : Nat) (w : World) (hz : z < 65536) (hT : RgTab .u16 R oR T w) (hok : RgOk 65536 T) (hn : T.size ≤ 1000000000) :
    Calls Tryz.prog 118 #[.slice (some ⟨R, oR, none⟩) T.size cap, .int .u16 z] w fun e w' => e = .returned (.bool (is16Go T z)) ∧ ∃ q, w' = w.drewN q := Any.unicode_is16_any Tryz.lays311 T R oR cap z w hz hT hok hn
def Tryz.lays312_ren : Go.Shelf.Ren := ⟨fun | 312 => 119 | n => n, fun | 194 => 142 | 51 => 115 | 4 => 4 | 3 => 3 | 0 => 0 | 227 => 157 | 201 => 150 | 46 => 101 | n => n, fun | n => n⟩
theorem Tryz.lays312 : Go.Proofs.Lays.n312 Tryz.prog Tryz.lays312_ren := {
  mixed := by kernel_rfl
  f312 := Tryz.func119.trans (congrArg some (by kernel_rfl))
  t0 := Tryz.underlying0
  a0 := Tryz.isAgg0
  z0 := Tryz.sizeOf0
  v0 := Tryz.zeroValue0
  t3 := Tryz.underlying3
  a3 := Tryz.isAgg3
  z3 := Tryz.sizeOf3
  v3 := Tryz.zeroValue3
  t4 := Tryz.underlying4
  a4 := Tryz.isAgg4
  z4 := Tryz.sizeOf4
  v4 := Tryz.zeroValue4
  t46 := Tryz.underlying101
  a46 := Tryz.isAgg101
  z46 := Tryz.sizeOf101
  v46 := Tryz.zeroValue101
  t51 := Tryz.underlying115
  a51 := Tryz.isAgg115
  z51 := Tryz.sizeOf115
  v51 := Tryz.zeroValue115
  t194 := Tryz.underlying142
  a194 := Tryz.isAgg142
  z194 := Tryz.sizeOf142
  v194 := Tryz.zeroValue142
  t201 := Tryz.underlying150
  a201 := Tryz.isAgg150
  z201 := Tryz.sizeOf150
  v201 := Tryz.zeroValue150
  t227 := Tryz.underlying157
  a227 := Tryz.isAgg157
  z227 := Tryz.sizeOf157
  v227 := Tryz.zeroValue157 }
open Go.RowKit Go.Lib in
theorem Tryz.unicode_is32_any (T : Array Rg) (R oR cap : Nat) (z : Nat) (w : World) (hz : z < 4294967296) (hT : RgTab .u32 R oR T w) (hok : RgOk 4294967296 T) (hn : T.size ≤ 1000000000) :
    Calls Tryz.prog 119 #[.slice (some ⟨R, oR, none⟩) T.size cap, .int .u32 z] w fun e w' => e = .returned (.bool (is32Go T z)) ∧ Below w.heap.size w w' := Any.unicode_is32_any Tryz.lays312 T R oR cap z w hz hT hok hn
open Go.RowKit Go.Lib in
theorem Tryz.unicode_isExcludingLatin_any (Tb oT : Nat) (T : RTab) (r : Int) (w : World) (hlo : -2147483648 ≤ r) (hhi : r ≤ 2147483647) (hA : RTabAt Tb oT T w) (hok : RTabOk T) :
    Calls Tryz.prog 115 #[.pointer (some ⟨Tb, oT, none⟩), .int .i32 r] w fun e w' => e = .returned (.bool (exclGo T r)) ∧ Below w.heap.size w w' := Any.unicode_isExcludingLatin_any Tryz.lays261 Tb oT T r w hlo hhi hA hok
open Go.RowKit Go.Lib in
/-- unicode.IsLetter(r) AT EVERY int32, over whatever table the variable unicode.Letter leads to. (LAID: no walk: one application.) -/
theorem Tryz.unicode_IsLetter_any (T : RTab) (r : Int) (w : World) (hlo : -2147483648 ≤ r) (hhi : r ≤ 2147483647) (htab : Lib.TabIs Tryz.prog w "unicode.properties" .u8 Lib.propertiesTab) (hV : RVar 3 T w) (hok : RTabOk T) :
    Calls Tryz.prog 110 #[.int .i32 r] w fun e w' => e = .returned (.bool (if latin1 r then isLetterL r else exclGo T r)) ∧ Below w.heap.size w w' := Any.unicode_IsLetter_any Tryz.lays200 (by kernel_rfl) T r w hlo hhi htab hV hok
open Go.RowKit Go.Lib in
/-- unicode.IsDigit(r) AT EVERY int32, over whatever table the variable unicode.Digit leads to. (LAID: no walk: one application.) -/
theorem Tryz.unicode_IsDigit_any (T : RTab) (r : Int) (w : World) (hlo : -2147483648 ≤ r) (hhi : r ≤ 2147483647) (hV : RVar 4 T w) (hok : RTabOk T) :
    Calls Tryz.prog 111 #[.int .i32 r] w fun e w' => e = .returned (.bool (if r ≤ 255 then isDigitL r else exclGo T r)) ∧ Below w.heap.size w w' := Any.unicode_IsDigit_any Tryz.lays198 T r w hlo hhi hV hok
def Tryz.lays240_ren : Go.Shelf.Ren := ⟨fun | 240 => 56 | 276 => 79 | n => n, fun | 0 => 0 | 4 => 4 | 5 => 5 | 9 => 9 | 20 => 20 | 37 => 65 | 70 => 64 | 72 => 67 | 80 => 49 | 164 => 104 | n => n, fun | n => n⟩
theorem Tryz.lays240 : Go.Proofs.Lays.n240 Tryz.prog Tryz.lays240_ren := {
  mixed := by kernel_rfl
  f240 := Tryz.func56.trans (congrArg some (by kernel_rfl))
  f276 := Tryz.func79.trans (congrArg some (by kernel_rfl))
  t0 := Tryz.underlying0
  a0 := Tryz.isAgg0
  z0 := Tryz.sizeOf0
  v0 := Tryz.zeroValue0
  t4 := Tryz.underlying4
  a4 := Tryz.isAgg4
  z4 := Tryz.sizeOf4
  v4 := Tryz.zeroValue4
  t9 := Tryz.underlying9
  a9 := Tryz.isAgg9
  z9 := Tryz.sizeOf9
  v9 := Tryz.zeroValue9
  t20 := Tryz.underlying20
  a20 := Tryz.isAgg20
  z20 := Tryz.sizeOf20
  v20 := Tryz.zeroValue20
  t70 := Tryz.underlying64
  a70 := Tryz.isAgg64
  z70 := Tryz.sizeOf64
  v70 := Tryz.zeroValue64
  t72 := Tryz.underlying67
  a72 := Tryz.isAgg67
  z72 := Tryz.sizeOf67
  v72 := Tryz.zeroValue67
  t164 := Tryz.underlying104
  a164 := Tryz.isAgg104
  z164 := Tryz.sizeOf104
  v164 := Tryz.zeroValue104 }
theorem Tryz.Builder_X72_240 : Builder.X72 Tryz.prog Tryz.lays240_ren := {
  sizeBuilder := by kernel_rfl
  liesBuilder := by kernel_rfl }
open Go.RowKit in
/-- (*strings.Builder).copyCheck (what every writing method calls first): behind it the builder is 'used': 'addr' holds its own address; its bytes are as they were. (LAID: no walk: one application.) -/
theorem Tryz.Builder_copyCheck (B b : Nat) (bs : List Value) (w : World) (h : Lib.IsBuilder 67 5 B b bs w) :
    Calls Tryz.prog 56 #[.pointer (some ⟨b, 0, none⟩)] w fun e w' => e = .returned (.tuple #[]) ∧ (Lib.BuilderAt 67 5 B b (.pointer (some ⟨b, 0, none⟩)) bs w' ∧ Below B w w') := Any.Builder_copyCheck Tryz.lays240 Tryz.Builder_X72_240 B b bs w h
def Tryz.lays167_ren : Go.Shelf.Ren := ⟨fun | 167 => 97 | 240 => 56 | 276 => 79 | n => n, fun | 0 => 0 | 4 => 4 | 5 => 5 | 9 => 9 | 20 => 20 | 37 => 65 | 70 => 64 | 72 => 67 | 75 => 87 | 80 => 49 | 164 => 104 | n => n, fun | n => n⟩
theorem Tryz.lays167 : Go.Proofs.Lays.n167 Tryz.prog Tryz.lays167_ren := {
  mixed := by kernel_rfl
  f167 := Tryz.func97.trans (congrArg some (by kernel_rfl))
  f240 := Tryz.func56.trans (congrArg some (by kernel_rfl))
  f276 := Tryz.func79.trans (congrArg some (by kernel_rfl))
  t0 := Tryz.underlying0
  a0 := Tryz.isAgg0
  z0 := Tryz.sizeOf0
  v0 := Tryz.zeroValue0
  t4 := Tryz.underlying4
  a4 := Tryz.isAgg4
  z4 := Tryz.sizeOf4
  v4 := Tryz.zeroValue4
  t5 := Tryz.underlying5
  a5 := Tryz.isAgg5
  z5 := Tryz.sizeOf5
  v5 := Tryz.zeroValue5
  t9 := Tryz.underlying9
  a9 := Tryz.isAgg9
  z9 := Tryz.sizeOf9
  v9 := Tryz.zeroValue9
  t20 := Tryz.underlying20
  a20 := Tryz.isAgg20
  z20 := Tryz.sizeOf20
  v20 := Tryz.zeroValue20
  t37 := Tryz.underlying65
  a37 := Tryz.isAgg65
  z37 := Tryz.sizeOf65
  v37 := Tryz.zeroValue65
  t70 := Tryz.underlying64
  a70 := Tryz.isAgg64
  z70 := Tryz.sizeOf64
  v70 := Tryz.zeroValue64
  t72 := Tryz.underlying67
  a72 := Tryz.isAgg67
  z72 := Tryz.sizeOf67
  v72 := Tryz.zeroValue67
  t75 := Tryz.underlying87
  a75 := Tryz.isAgg87
  z75 := Tryz.sizeOf87
  v75 := Tryz.zeroValue87
  t164 := Tryz.underlying104
  a164 := Tryz.isAgg104
  z164 := Tryz.sizeOf104
  v164 := Tryz.zeroValue104 }
theorem Tryz.Builder_Extra_167 : Builder.Extra Tryz.prog Tryz.lays167_ren := {
  sizeBuilder := by kernel_rfl
  liesBuilder := by kernel_rfl
  t5 := Tryz.underlying5
  a5 := Tryz.isAgg5
  z5 := Tryz.sizeOf5
  v5 := Tryz.zeroValue5
  infoByte := by kernel_rfl
  cellsByte := by kernel_rfl
  sizeByte := by kernel_rfl
  neB5 := by decide }
open Go.RowKit in
/-- (*strings.Builder).WriteByte: "WriteByte appends the byte c to b's buffer. The returned error is always nil.": UNDER Go's OWN LIMIT: the new length takes at most 2^47 bytes. (LAID: no walk: one application.) -/
theorem Tryz.Builder_WriteByte (B b : Nat) (bs : List Value) (c : Int) (w : World) (h : Lib.IsBuilder 67 5 B b bs w) (hlen : bs.length + 1 ≤ 140737488355328) (hBw : B ≤ w.heap.size) :
    Calls Tryz.prog 97 #[.pointer (some ⟨b, 0, none⟩), .int .u8 c] w fun e w' => e = .returned .nilIface ∧ (Lib.BuilderAt 67 5 B b (.pointer (some ⟨b, 0, none⟩)) (bs ++ [.int .u8 c]) w' ∧ Below B w w') := Any.Builder_WriteByte Tryz.lays167 Tryz.Builder_Extra_167 B b bs c w h hlen hBw
def Tryz.lays166_ren : Go.Shelf.Ren := ⟨fun | 166 => 65 | 240 => 56 | 276 => 79 | n => n, fun | 0 => 0 | 3 => 3 | 4 => 4 | 5 => 5 | 9 => 9 | 20 => 20 | 37 => 65 | 70 => 64 | 72 => 67 | 75 => 87 | 80 => 49 | 164 => 104 | n => n, fun | n => n⟩
theorem Tryz.lays166 : Go.Proofs.Lays.n166 Tryz.prog Tryz.lays166_ren := {
  mixed := by kernel_rfl
  f166 := Tryz.func65.trans (congrArg some (by kernel_rfl))
  f240 := Tryz.func56.trans (congrArg some (by kernel_rfl))
  f276 := Tryz.func79.trans (congrArg some (by kernel_rfl))
  t0 := Tryz.underlying0
  a0 := Tryz.isAgg0
  z0 := Tryz.sizeOf0
  v0 := Tryz.zeroValue0
  t3 := Tryz.underlying3
  a3 := Tryz.isAgg3
  z3 := Tryz.sizeOf3
  v3 := Tryz.zeroValue3
  t4 := Tryz.underlying4
  a4 := Tryz.isAgg4
  z4 := Tryz.sizeOf4
  v4 := Tryz.zeroValue4
  t9 := Tryz.underlying9
  a9 := Tryz.isAgg9
  z9 := Tryz.sizeOf9
  v9 := Tryz.zeroValue9
  t20 := Tryz.underlying20
  a20 := Tryz.isAgg20
  z20 := Tryz.sizeOf20
  v20 := Tryz.zeroValue20
  t37 := Tryz.underlying65
  a37 := Tryz.isAgg65
  z37 := Tryz.sizeOf65
  v37 := Tryz.zeroValue65
  t70 := Tryz.underlying64
  a70 := Tryz.isAgg64
  z70 := Tryz.sizeOf64
  v70 := Tryz.zeroValue64
  t72 := Tryz.underlying67
  a72 := Tryz.isAgg67
  z72 := Tryz.sizeOf67
  v72 := Tryz.zeroValue67
  t75 := Tryz.underlying87
  a75 := Tryz.isAgg87
  z75 := Tryz.sizeOf87
  v75 := Tryz.zeroValue87
  t164 := Tryz.underlying104
  a164 := Tryz.isAgg104
  z164 := Tryz.sizeOf104
  v164 := Tryz.zeroValue104 }
theorem Tryz.Builder_Extra_166 : Builder.Extra Tryz.prog Tryz.lays166_ren := {
  sizeBuilder := by kernel_rfl
  liesBuilder := by kernel_rfl
  t5 := Tryz.underlying5
  a5 := Tryz.isAgg5
  z5 := Tryz.sizeOf5
  v5 := Tryz.zeroValue5
  infoByte := by kernel_rfl
  cellsByte := by kernel_rfl
  sizeByte := by kernel_rfl
  neB5 := by decide }
open Go.RowKit in
/-- (*strings.Builder).WriteString: "WriteString appends the contents of s to b's buffer. It returns the length of s and a nil error.": UNDER Go's OWN LIMIT: the new length takes at most 2^47 bytes. (LAID: no walk: one application.) -/
theorem Tryz.Builder_WriteString (B b : Nat) (bs : List Value) (s : ByteArray) (w : World) (h : Lib.IsBuilder 67 5 B b bs w) (hlen : bs.length + s.size ≤ 140737488355328) (hBw : B ≤ w.heap.size) :
    Calls Tryz.prog 65 #[.pointer (some ⟨b, 0, none⟩), .string s] w fun e w' => e = .returned (.tuple #[.int .i64 s.size, .nilIface]) ∧ (Lib.BuilderAt 67 5 B b (.pointer (some ⟨b, 0, none⟩)) (bs ++ Lib.strCells s) w' ∧ Below B w w') := Any.Builder_WriteString Tryz.lays166 Tryz.Builder_Extra_166 B b bs s w h hlen hBw
open Go.RowKit in
/-- (*strings.Builder).copyCheck (what every writing method calls first): behind it the builder is 'used': 'addr' holds its own address; its bytes are as they were. (THE FORM '_f': OF A BUILDER WHOSE BUFFER's HEAD MAY BE FROZEN: 'Lib.IsBuilderF': one that 'String()' has read.) (LAID: no walk: one application.) -/
theorem Tryz.Builder_copyCheck_f (B b : Nat) (bs : List Value) (w : World) (h : Lib.IsBuilderF 67 5 B b bs w) :
    Calls Tryz.prog 56 #[.pointer (some ⟨b, 0, none⟩)] w fun e w' => e = .returned (.tuple #[]) ∧ (Lib.BuilderAtF 67 5 B b (.pointer (some ⟨b, 0, none⟩)) bs w' ∧ Below B w w') := Any.Builder_copyCheck_f Tryz.lays240 Tryz.Builder_X72_240 B b bs w h
open Go.RowKit in
/-- (*strings.Builder).WriteString: "WriteString appends the contents of s to b's buffer. It returns the length of s and a nil error.": UNDER Go's OWN LIMIT: the new length takes at most 2^47 bytes. (THE FORM '_f': OF A BUILDER THAT 'String()' HAS READ, TOO: the bytes go in BEHIND what is frozen, or, where there is no room, all goes over into a new row.) (LAID: no walk: one application.) -/
theorem Tryz.Builder_WriteString_f (B b : Nat) (bs : List Value) (s : ByteArray) (w : World) (h : Lib.IsBuilderF 67 5 B b bs w) (hlen : bs.length + s.size ≤ 140737488355328) (hBw : B ≤ w.heap.size) :
    Calls Tryz.prog 65 #[.pointer (some ⟨b, 0, none⟩), .string s] w fun e w' => e = .returned (.tuple #[.int .i64 s.size, .nilIface]) ∧ (Lib.BuilderAtF 67 5 B b (.pointer (some ⟨b, 0, none⟩)) (bs ++ Lib.strCells s) w' ∧ Below B w w') := Any.Builder_WriteString_f Tryz.lays166 Tryz.Builder_Extra_166 B b bs s w h hlen hBw
open Go.RowKit in
/-- (*strings.Builder).copyCheck (what every writing method calls first): behind it the builder is 'used': 'addr' holds its own address; its bytes are as they were. THE FORM '_k': OVER 'Lib.IsBuilderF' (a builder that 'String()' may have read), AND WITH THE FRAME THAT REACHES ABOVE THE BUILDER: 'Lib.OthersKept': every block that is not b and is no row of uint8's stands as it stood: the iterator of a range among them.' has read.) (LAID: no walk: one application.) -/
theorem Tryz.Builder_copyCheck_k (B b : Nat) (bs : List Value) (w : World) (h : Lib.IsBuilderF 67 5 B b bs w) :
    Calls Tryz.prog 56 #[.pointer (some ⟨b, 0, none⟩)] w fun e w' => e = .returned (.tuple #[]) ∧ (Lib.BuilderAtF 67 5 B b (.pointer (some ⟨b, 0, none⟩)) bs w' ∧ Below B w w' ∧ Lib.OthersKept 5 (some b) w w') := Any.Builder_copyCheck_k Tryz.lays240 Tryz.Builder_X72_240 B b bs w h
open Go.RowKit in
/-- (*strings.Builder).WriteByte: "WriteByte appends the byte c to b's buffer. The returned error is always nil.": UNDER Go's OWN LIMIT: the new length takes at most 2^47 bytes. (LAID: no walk: one application.) -/
theorem Tryz.Builder_WriteByte_k (B b : Nat) (bs : List Value) (c : Int) (w : World) (h : Lib.IsBuilderF 67 5 B b bs w) (hlen : bs.length + 1 ≤ 140737488355328) (hBw : B ≤ w.heap.size) :
    Calls Tryz.prog 97 #[.pointer (some ⟨b, 0, none⟩), .int .u8 c] w fun e w' => e = .returned .nilIface ∧ (Lib.BuilderAtF 67 5 B b (.pointer (some ⟨b, 0, none⟩)) (bs ++ [.int .u8 c]) w' ∧ Below B w w' ∧ Lib.OthersKept 5 (some b) w w') := Any.Builder_WriteByte_k Tryz.lays167 Tryz.Builder_Extra_167 B b bs c w h hlen hBw
open Go.RowKit in
/-- (*strings.Builder).WriteString: "WriteString appends the contents of s to b's buffer. It returns the length of s and a nil error.": UNDER Go's OWN LIMIT: the new length takes at most 2^47 bytes. THE FORM '_k': OVER 'Lib.IsBuilderF' (a builder that 'String()' may have read), AND WITH THE FRAME THAT REACHES ABOVE THE BUILDER: 'Lib.OthersKept': every block that is not b and is no row of uint8's stands as it stood: the iterator of a range among them.' HAS READ, TOO: the bytes go in BEHIND what is frozen, or, where there is no room, all goes over into a new row.) (LAID: no walk: one application.) -/
theorem Tryz.Builder_WriteString_k (B b : Nat) (bs : List Value) (s : ByteArray) (w : World) (h : Lib.IsBuilderF 67 5 B b bs w) (hlen : bs.length + s.size ≤ 140737488355328) (hBw : B ≤ w.heap.size) :
    Calls Tryz.prog 65 #[.pointer (some ⟨b, 0, none⟩), .string s] w fun e w' => e = .returned (.tuple #[.int .i64 s.size, .nilIface]) ∧ (Lib.BuilderAtF 67 5 B b (.pointer (some ⟨b, 0, none⟩)) (bs ++ Lib.strCells s) w' ∧ Below B w w' ∧ Lib.OthersKept 5 (some b) w w') := Any.Builder_WriteString_k Tryz.lays166 Tryz.Builder_Extra_166 B b bs s w h hlen hBw
def Tryz.lays168_ren : Go.Shelf.Ren := ⟨fun | 168 => 58 | 240 => 56 | 242 => 81 | 276 => 79 | 278 => 96 | n => n, fun | 0 => 0 | 3 => 3 | 4 => 4 | 5 => 5 | 9 => 9 | 20 => 20 | 21 => 21 | 37 => 65 | 46 => 101 | 51 => 115 | 70 => 64 | 72 => 67 | 75 => 87 | 80 => 49 | 164 => 104 | n => n, fun | n => n⟩
theorem Tryz.lays168 : Go.Proofs.Lays.n168 Tryz.prog Tryz.lays168_ren := {
  mixed := by kernel_rfl
  f168 := Tryz.func58.trans (congrArg some (by kernel_rfl))
  f240 := Tryz.func56.trans (congrArg some (by kernel_rfl))
  f242 := Tryz.func81.trans (congrArg some (by kernel_rfl))
  f276 := Tryz.func79.trans (congrArg some (by kernel_rfl))
  f278 := Tryz.func96.trans (congrArg some (by kernel_rfl))
  t0 := Tryz.underlying0
  a0 := Tryz.isAgg0
  z0 := Tryz.sizeOf0
  v0 := Tryz.zeroValue0
  t3 := Tryz.underlying3
  a3 := Tryz.isAgg3
  z3 := Tryz.sizeOf3
  v3 := Tryz.zeroValue3
  t4 := Tryz.underlying4
  a4 := Tryz.isAgg4
  z4 := Tryz.sizeOf4
  v4 := Tryz.zeroValue4
  t5 := Tryz.underlying5
  a5 := Tryz.isAgg5
  z5 := Tryz.sizeOf5
  v5 := Tryz.zeroValue5
  t9 := Tryz.underlying9
  a9 := Tryz.isAgg9
  z9 := Tryz.sizeOf9
  v9 := Tryz.zeroValue9
  t20 := Tryz.underlying20
  a20 := Tryz.isAgg20
  z20 := Tryz.sizeOf20
  v20 := Tryz.zeroValue20
  t21 := Tryz.underlying21
  a21 := Tryz.isAgg21
  z21 := Tryz.sizeOf21
  v21 := Tryz.zeroValue21
  t37 := Tryz.underlying65
  a37 := Tryz.isAgg65
  z37 := Tryz.sizeOf65
  v37 := Tryz.zeroValue65
  t46 := Tryz.underlying101
  a46 := Tryz.isAgg101
  z46 := Tryz.sizeOf101
  v46 := Tryz.zeroValue101
  t51 := Tryz.underlying115
  a51 := Tryz.isAgg115
  z51 := Tryz.sizeOf115
  v51 := Tryz.zeroValue115
  t70 := Tryz.underlying64
  a70 := Tryz.isAgg64
  z70 := Tryz.sizeOf64
  v70 := Tryz.zeroValue64
  t72 := Tryz.underlying67
  a72 := Tryz.isAgg67
  z72 := Tryz.sizeOf67
  v72 := Tryz.zeroValue67
  t75 := Tryz.underlying87
  a75 := Tryz.isAgg87
  z75 := Tryz.sizeOf87
  v75 := Tryz.zeroValue87
  t164 := Tryz.underlying104
  a164 := Tryz.isAgg104
  z164 := Tryz.sizeOf104
  v164 := Tryz.zeroValue104 }
theorem Tryz.Builder_Extra_168 : Builder.Extra Tryz.prog Tryz.lays168_ren := {
  sizeBuilder := by kernel_rfl
  liesBuilder := by kernel_rfl
  t5 := Tryz.underlying5
  a5 := Tryz.isAgg5
  z5 := Tryz.sizeOf5
  v5 := Tryz.zeroValue5
  infoByte := by kernel_rfl
  cellsByte := by kernel_rfl
  sizeByte := by kernel_rfl
  neB5 := by decide }
open Go.RowKit in
/-- (*strings.Builder).WriteRune: "WriteRune appends the UTF-8 encoding of Unicode code point r to b's buffer. It returns the length of r and a nil error.": EVERY RUNE (every int32: what is no rune goes in as U+FFFD's three bytes): 'Lib.runeCells r' (as bytes: 'Lib.encodeRune r': 'Lib.byteCells_encodeRune'); UNDER Go's OWN LIMIT: the new length takes at most 2^47 bytes. THE FORM '_k': OVER 'Lib.IsBuilderF', WITH THE FRAME THAT REACHES ABOVE THE BUILDER ('Lib.OthersKept'). (LAID: no walk: one application.) -/
theorem Tryz.Builder_WriteRune_k (B b : Nat) (bs : List Value) (r : Int) (hr0 : -2147483648 ≤ r) (hr1 : r ≤ 2147483647) (w : World) (h : Lib.IsBuilderF 67 5 B b bs w) (hlen : bs.length + 4 ≤ 140737488355328) (hBw : B ≤ w.heap.size) :
    Calls Tryz.prog 58 #[.pointer (some ⟨b, 0, none⟩), .int .i32 r] w fun e w' => e = .returned (.tuple #[.int .i64 (Lib.runeCells r).length, .nilIface]) ∧ (Lib.BuilderAtF 67 5 B b (.pointer (some ⟨b, 0, none⟩)) (bs ++ Lib.runeCells r) w' ∧ Below B w w' ∧ Lib.OthersKept 5 (some b) w w') := Any.Builder_WriteRune_k Tryz.lays168 Tryz.Builder_Extra_168 B b bs r hr0 hr1 w h hlen hBw
open Go.RowKit in
theorem Tryz.Builder_copyCheck_kc (B b : Nat) (bs : List Value) (w : World) (h : Lib.IsBuilderF 67 5 B b bs w) :
    Calls Tryz.prog 56 #[.pointer (some ⟨b, 0, none⟩)] w fun e w' => e = .returned (.tuple #[]) ∧ (Lib.BuilderAtF 67 5 B b (.pointer (some ⟨b, 0, none⟩)) bs w' ∧ Below B w w' ∧ Lib.OthersKept 5 (some b) w w') ∧ w'.cell? ⟨b, 1, none⟩ = w.cell? ⟨b, 1, none⟩ := Any.Builder_copyCheck_kc Tryz.lays240 Tryz.Builder_X72_240 B b bs w h
open Go.RowKit in
theorem Tryz.Builder_WriteString_kc (B b : Nat) (bs : List Value) (s : ByteArray) (w : World) (h : Lib.IsBuilderF 67 5 B b bs w) (hlen : bs.length + s.size ≤ 140737488355328) (hBw : B ≤ w.heap.size) :
    Calls Tryz.prog 65 #[.pointer (some ⟨b, 0, none⟩), .string s] w fun e w' => e = .returned (.tuple #[.int .i64 s.size, .nilIface]) ∧ (Lib.BuilderAtF 67 5 B b (.pointer (some ⟨b, 0, none⟩)) (bs ++ Lib.strCells s) w' ∧ Below B w w' ∧ Lib.OthersKept 5 (some b) w w') ∧ ∀ v0, w.cell? ⟨b, 1, none⟩ = some v0 → ∃ v1, w'.cell? ⟨b, 1, none⟩ = some v1 ∧ v0.capOf ≤ v1.capOf := Any.Builder_WriteString_kc Tryz.lays166 Tryz.Builder_Extra_166 B b bs s w h hlen hBw
end Go.Proofs
