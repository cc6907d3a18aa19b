/-
  DERIVED: THE SHELF's CONTRACTS AT THIS DUMP, IN PLAIN WORDS (tools/lay-plain.mjs out of 'TryzShelf.lean', which tools/lay-shelf.mjs wrote): THE SAME DECLARATIONS UNDER THE SAME NAMES: 'import', 'namespace', 'open', 'def', 'theorem' AND NOTHING ELSE: no command of the shelf's: FOR A HAND-IN. Each laying: the table of numbers ('.._ren') and one theorem, a field a fact of the dump's own or the kernel's comparison; each contract: ONE APPLICATION.
-/
import Derived.Shelf.Strings.Builder1
import Derived.Shelf.Strings.Builder2
import Derived.Shelf.Strings.OnBuilder
import Derived.Shelf.Small.Utf8
import Derived.Shelf.Small.Bits
import Derived.Shelf.Strconv.Itoa0
import Derived.Shelf.Strconv.Itoa1
import Derived.Shelf.LaysM
import Derived.Shelf.Strconv.Itoa2
import Derived.Shelf.Strconv.Itoa3
import Derived.Shelf.Unicode.Latin
import Derived.Shelf.Unicode.Decode
import Derived.Shelf.Unicode.DecodeSlow
import Derived.Shelf.Unicode.DecodeAny
import Derived.Shelf.Unicode.Is16White
import Derived.Shelf.Unicode.IsSpaceAny
import Derived.Shelf.Unicode.DecodeLast
import Derived.Shelf.Unicode.CaseLookup
import Derived.Shelf.Unicode.CaseConvert
import Derived.Shelf.Unicode.CaseTo
import Derived.Shelf.Unicode.CaseLaid
import Derived.Shelf.Unicode.Is16Any
import Derived.Shelf.Unicode.Is32Any
import Derived.Shelf.Unicode.ExclAny
import Derived.Ground.SlgnProg
import Derived.Shelf.SlicesE.Index
import Derived.Shelf.SlicesE.Equal
import Derived.Ground.SlgmProg
import Derived.Shelf.SortM.Plain
import Derived.Shelf.SortM.SortNone
import Derived.Test.YtpadpdmidiaeoaaGreatDoorProg
namespace Go.Proofs
open Go.Shelf
def Tryz.lays169_ren : Go.Shelf.Ren := ⟨fun | 169 => 64 | n => n, fun | 70 => 82 | 9 => 9 | 0 => 0 | 72 => 84 | 37 => 33 | 127 => 106 | 3 => 3 | 5 => 5 | n => n, fun | n => n⟩
theorem Tryz.lays169 : Go.Proofs.Lays.n169 Tryz.prog Tryz.lays169_ren := {
  mixed := by kernel_rfl
  f169 := Tryz.func64.trans (congrArg some (by kernel_rfl))
  t0 := Tryz.underlying0
  a0 := Tryz.isAgg0
  z0 := Tryz.sizeOf0
  v0 := Tryz.zeroValue0
  t3 := Tryz.underlying3
  a3 := Tryz.isAgg3
  z3 := Tryz.sizeOf3
  v3 := Tryz.zeroValue3
  t9 := Tryz.underlying9
  a9 := Tryz.isAgg9
  z9 := Tryz.sizeOf9
  v9 := Tryz.zeroValue9
  t37 := Tryz.underlying33
  a37 := Tryz.isAgg33
  z37 := Tryz.sizeOf33
  v37 := Tryz.zeroValue33
  t70 := Tryz.underlying82
  a70 := Tryz.isAgg82
  z70 := Tryz.sizeOf82
  v70 := Tryz.zeroValue82
  t72 := Tryz.underlying84
  a72 := Tryz.isAgg84
  z72 := Tryz.sizeOf84
  v72 := Tryz.zeroValue84
  t127 := Tryz.underlying106
  a127 := Tryz.isAgg106
  z127 := Tryz.sizeOf106
  v127 := Tryz.zeroValue106 }
theorem Tryz.Builder_Extra_169 : Builder.Extra Tryz.prog Tryz.lays169_ren := {
  sizeBuilder := by kernel_rfl
  liesBuilder := by kernel_rfl
  t5 := Tryz.underlying5
  a5 := Tryz.isAgg5
  z5 := Tryz.sizeOf5
  v5 := Tryz.zeroValue5
  infoByte := by kernel_rfl
  cellsByte := by kernel_rfl
  sizeByte := by kernel_rfl
  neB5 := by decide }
open Go.RowKit in
/-- (*strings.Builder).String: "String returns the accumulated string.": OF A BUILDER THAT HOLDS AT LEAST ONE BYTE. ✋ THE MODEL FREEZES THOSE BYTES IN THE BUFFER (unsafe.String): a later write INTO them ends the model's run without an answer; a later append BEHIND them goes on. The statement's order of evaluation is drawn: one draw. (LAID: no walk: one application.) -/
theorem Tryz.Builder_String (B b : Nat) (l : List UInt8) (w : World) (h : Lib.IsBuilder 84 5 B b (Lib.byteCells l) w) (h0 : l ≠ []) :
    Calls Tryz.prog 64 #[.pointer (some ⟨b, 0, none⟩)] w fun e w' => e = .returned (.string ⟨l.toArray⟩) ∧ Below B w w' := Any.Builder_String Tryz.lays169 Tryz.Builder_Extra_169 B b l w h h0
open Go.RowKit in
/-- (*strings.Builder).String OF A BUILDER THAT HOLDS NO BYTE: the empty string. (Its buffer is nil, or a row of which it has taken nothing yet; where that row has NO capacity the model lays one new block for unsafe.SliceData's 'some address'.) One draw. (LAID: no walk: one application.) -/
theorem Tryz.Builder_String_empty (B b : Nat) (w : World) (h : Lib.IsBuilder 84 5 B b [] w) (hBw : B ≤ w.heap.size) :
    Calls Tryz.prog 64 #[.pointer (some ⟨b, 0, none⟩)] w fun e w' => e = .returned (.string ⟨#[]⟩) ∧ Below B w w' := Any.Builder_String_empty Tryz.lays169 Tryz.Builder_Extra_169 B b w h hBw
open Go.RowKit in
/-- (*strings.Builder).String: "String returns the accumulated string.": WHATEVER THE BUILDER HOLDS. (LAID: no walk: one application.) -/
theorem Tryz.Builder_String_any (B b : Nat) (l : List UInt8) (w : World) (h : Lib.IsBuilder 84 5 B b (Lib.byteCells l) w) (hBw : B ≤ w.heap.size) :
    Calls Tryz.prog 64 #[.pointer (some ⟨b, 0, none⟩)] w fun e w' => e = .returned (.string ⟨l.toArray⟩) ∧ Below B w w' := Any.Builder_String_any Tryz.lays169 Tryz.Builder_Extra_169 B b l w h hBw
def Tryz.lays241_ren : Go.Shelf.Ren := ⟨fun | 241 => 76 | 277 => 91 | n => n, fun | 70 => 82 | 3 => 3 | 0 => 0 | 72 => 84 | 37 => 33 | 5 => 5 | n => n, fun | n => n⟩
theorem Tryz.lays241 : Go.Proofs.Lays.n241 Tryz.prog Tryz.lays241_ren := {
  mixed := by kernel_rfl
  f241 := Tryz.func76.trans (congrArg some (by kernel_rfl))
  f277 := Tryz.func91.trans (congrArg some (by kernel_rfl))
  t0 := Tryz.underlying0
  a0 := Tryz.isAgg0
  z0 := Tryz.sizeOf0
  v0 := Tryz.zeroValue0
  t3 := Tryz.underlying3
  a3 := Tryz.isAgg3
  z3 := Tryz.sizeOf3
  v3 := Tryz.zeroValue3
  t37 := Tryz.underlying33
  a37 := Tryz.isAgg33
  z37 := Tryz.sizeOf33
  v37 := Tryz.zeroValue33
  t70 := Tryz.underlying82
  a70 := Tryz.isAgg82
  z70 := Tryz.sizeOf82
  v70 := Tryz.zeroValue82
  t72 := Tryz.underlying84
  a72 := Tryz.isAgg84
  z72 := Tryz.sizeOf84
  v72 := Tryz.zeroValue84 }
theorem Tryz.Builder_Extra_241 : Builder.Extra Tryz.prog Tryz.lays241_ren := {
  sizeBuilder := by kernel_rfl
  liesBuilder := by kernel_rfl
  t5 := Tryz.underlying5
  a5 := Tryz.isAgg5
  z5 := Tryz.sizeOf5
  v5 := Tryz.zeroValue5
  infoByte := by kernel_rfl
  cellsByte := by kernel_rfl
  sizeByte := by kernel_rfl
  neB5 := by decide }
open Go.RowKit in
/-- (*strings.Builder).grow (no doc but "grow copies the buffer to a new, larger buffer so that there are at least n bytes of capacity beyond len(b.buf)."): AT A BUILDER WITHOUT A BUFFER: a new row of whatever bytes for its buffer, none of them its own yet. Three draws. (LAID: no walk: one application.) -/
theorem Tryz.Builder_grow_fresh (B b n : Nat) (w : World) (hB : B ≤ b) (hbk : w.heap[b]? = some (.cells #[.pointer (some ⟨b, 0, none⟩), .slice none 0 0] 84 (0, 0))) (hBw : B ≤ w.heap.size) (hn : n ≤ 281474976710656) :
    Calls Tryz.prog 76 #[.pointer (some ⟨b, 0, none⟩), .int .i64 n] w fun e w' => e = .returned (.tuple #[]) ∧ (Lib.BuilderAt 84 5 B b (.pointer (some ⟨b, 0, none⟩)) [] w' ∧ Below B w w') := Any.Builder_grow_fresh Tryz.lays241 Tryz.Builder_Extra_241 B b n w hB hbk hBw hn
def Tryz.lays165_ren : Go.Shelf.Ren := ⟨fun | 165 => 61 | 240 => 75 | 241 => 76 | 276 => 90 | 277 => 91 | n => n, fun | 70 => 82 | 3 => 3 | 0 => 0 | 4 => 4 | 9 => 9 | 20 => 20 | 72 => 84 | 37 => 33 | 164 => 126 | 5 => 5 | n => n, fun | n => n⟩
theorem Tryz.lays165 : Go.Proofs.Lays.n165 Tryz.prog Tryz.lays165_ren := {
  mixed := by kernel_rfl
  f165 := Tryz.func61.trans (congrArg some (by kernel_rfl))
  f240 := Tryz.func75.trans (congrArg some (by kernel_rfl))
  f241 := Tryz.func76.trans (congrArg some (by kernel_rfl))
  f276 := Tryz.func90.trans (congrArg some (by kernel_rfl))
  f277 := Tryz.func91.trans (congrArg some (by kernel_rfl))
  t0 := Tryz.underlying0
  a0 := Tryz.isAgg0
  z0 := Tryz.sizeOf0
  v0 := Tryz.zeroValue0
  t3 := Tryz.underlying3
  a3 := Tryz.isAgg3
  z3 := Tryz.sizeOf3
  v3 := Tryz.zeroValue3
  t4 := Tryz.underlying4
  a4 := Tryz.isAgg4
  z4 := Tryz.sizeOf4
  v4 := Tryz.zeroValue4
  t9 := Tryz.underlying9
  a9 := Tryz.isAgg9
  z9 := Tryz.sizeOf9
  v9 := Tryz.zeroValue9
  t20 := Tryz.underlying20
  a20 := Tryz.isAgg20
  z20 := Tryz.sizeOf20
  v20 := Tryz.zeroValue20
  t37 := Tryz.underlying33
  a37 := Tryz.isAgg33
  z37 := Tryz.sizeOf33
  v37 := Tryz.zeroValue33
  t70 := Tryz.underlying82
  a70 := Tryz.isAgg82
  z70 := Tryz.sizeOf82
  v70 := Tryz.zeroValue82
  t72 := Tryz.underlying84
  a72 := Tryz.isAgg84
  z72 := Tryz.sizeOf84
  v72 := Tryz.zeroValue84
  t164 := Tryz.underlying126
  a164 := Tryz.isAgg126
  z164 := Tryz.sizeOf126
  v164 := Tryz.zeroValue126 }
theorem Tryz.Builder_Extra_165 : Builder.Extra Tryz.prog Tryz.lays165_ren := {
  sizeBuilder := by kernel_rfl
  liesBuilder := by kernel_rfl
  t5 := Tryz.underlying5
  a5 := Tryz.isAgg5
  z5 := Tryz.sizeOf5
  v5 := Tryz.zeroValue5
  infoByte := by kernel_rfl
  cellsByte := by kernel_rfl
  sizeByte := by kernel_rfl
  neB5 := by decide }
open Go.RowKit in
/-- (*strings.Builder).Grow AT A BUILDER THAT HAS NOT BEEN WRITTEN ('var b strings.Builder; b.Grow(n)'): "Grow grows b's capacity, if necessary, to guarantee space for another n bytes.": it holds no byte behind it as before it. (LAID: no walk: one application.) -/
theorem Tryz.Builder_Grow_fresh (B b n : Nat) (w : World) (hB : B ≤ b) (hbk : w.heap[b]? = some (.cells #[.pointer none, .slice none 0 0] 84 (0, 0))) (hBw : B ≤ w.heap.size) (hn : n ≤ 281474976710656) :
    Calls Tryz.prog 61 #[.pointer (some ⟨b, 0, none⟩), .int .i64 n] w fun e w' => e = .returned (.tuple #[]) ∧ (Lib.BuilderAt 84 5 B b (.pointer (some ⟨b, 0, none⟩)) [] w' ∧ Below B w w') := Any.Builder_Grow_fresh Tryz.lays165 Tryz.Builder_Extra_165 B b n w hB hbk hBw hn
def Tryz.lays158_ren : Go.Shelf.Ren := ⟨fun | 158 => 44 | 165 => 61 | 166 => 62 | 167 => 63 | 169 => 64 | 230 => 65 | 203 => 66 | 240 => 75 | 241 => 76 | 197 => 74 | 118 => 77 | 168 => 78 | 270 => 79 | 262 => 80 | 276 => 90 | 277 => 91 | 260 => 89 | 242 => 92 | 313 => 93 | 278 => 99 | 274 => 100 | 275 => 101 | n => n, fun | 9 => 9 | 4 => 4 | 3 => 3 | 5 => 5 | 72 => 84 | 0 => 0 | 76 => 88 | 75 => 87 | 107 => 93 | 70 => 82 | 20 => 20 | 37 => 33 | 127 => 106 | 21 => 21 | 105 => 104 | 164 => 126 | 162 => 132 | 203 => 130 | 119 => 80 | 46 => 47 | 139 => 143 | 138 => 142 | 51 => 64 | 160 => 144 | 208 => 150 | 206 => 148 | 80 => 91 | n => n, fun | 13 => 4 | 3 => 6 | 4 => 7 | n => n⟩
theorem Tryz.lays158 : Go.Proofs.Lays.n158 Tryz.prog Tryz.lays158_ren := {
  mixed := by kernel_rfl
  f118 := Tryz.func77.trans (congrArg some (by kernel_rfl))
  f158 := Tryz.func44.trans (congrArg some (by kernel_rfl))
  f165 := Tryz.func61.trans (congrArg some (by kernel_rfl))
  f166 := Tryz.func62.trans (congrArg some (by kernel_rfl))
  f167 := Tryz.func63.trans (congrArg some (by kernel_rfl))
  f168 := Tryz.func78.trans (congrArg some (by kernel_rfl))
  f169 := Tryz.func64.trans (congrArg some (by kernel_rfl))
  f197 := Tryz.func74.trans (congrArg some (by kernel_rfl))
  f203 := Tryz.func66.trans (congrArg some (by kernel_rfl))
  f230 := Tryz.func65.trans (congrArg some (by kernel_rfl))
  f240 := Tryz.func75.trans (congrArg some (by kernel_rfl))
  f241 := Tryz.func76.trans (congrArg some (by kernel_rfl))
  f242 := Tryz.func92.trans (congrArg some (by kernel_rfl))
  f260 := Tryz.func89.trans (congrArg some (by kernel_rfl))
  f262 := Tryz.func80.trans (congrArg some (by kernel_rfl))
  f270 := Tryz.func79.trans (congrArg some (by kernel_rfl))
  f274 := Tryz.func100.trans (congrArg some (by kernel_rfl))
  f275 := Tryz.func101.trans (congrArg some (by kernel_rfl))
  f276 := Tryz.func90.trans (congrArg some (by kernel_rfl))
  f277 := Tryz.func91.trans (congrArg some (by kernel_rfl))
  f278 := Tryz.func99.trans (congrArg some (by kernel_rfl))
  f313 := Tryz.func93.trans (congrArg some (by kernel_rfl))
  t0 := Tryz.underlying0
  a0 := Tryz.isAgg0
  z0 := Tryz.sizeOf0
  v0 := Tryz.zeroValue0
  t3 := Tryz.underlying3
  a3 := Tryz.isAgg3
  z3 := Tryz.sizeOf3
  v3 := Tryz.zeroValue3
  t4 := Tryz.underlying4
  a4 := Tryz.isAgg4
  z4 := Tryz.sizeOf4
  v4 := Tryz.zeroValue4
  t5 := Tryz.underlying5
  a5 := Tryz.isAgg5
  z5 := Tryz.sizeOf5
  v5 := Tryz.zeroValue5
  t9 := Tryz.underlying9
  a9 := Tryz.isAgg9
  z9 := Tryz.sizeOf9
  v9 := Tryz.zeroValue9
  t20 := Tryz.underlying20
  a20 := Tryz.isAgg20
  z20 := Tryz.sizeOf20
  v20 := Tryz.zeroValue20
  t21 := Tryz.underlying21
  a21 := Tryz.isAgg21
  z21 := Tryz.sizeOf21
  v21 := Tryz.zeroValue21
  t37 := Tryz.underlying33
  a37 := Tryz.isAgg33
  z37 := Tryz.sizeOf33
  v37 := Tryz.zeroValue33
  t46 := Tryz.underlying47
  a46 := Tryz.isAgg47
  z46 := Tryz.sizeOf47
  v46 := Tryz.zeroValue47
  t51 := Tryz.underlying64
  a51 := Tryz.isAgg64
  z51 := Tryz.sizeOf64
  v51 := Tryz.zeroValue64
  t70 := Tryz.underlying82
  a70 := Tryz.isAgg82
  z70 := Tryz.sizeOf82
  v70 := Tryz.zeroValue82
  t72 := Tryz.underlying84
  a72 := Tryz.isAgg84
  z72 := Tryz.sizeOf84
  v72 := Tryz.zeroValue84
  t75 := Tryz.underlying87
  a75 := Tryz.isAgg87
  z75 := Tryz.sizeOf87
  v75 := Tryz.zeroValue87
  t76 := Tryz.underlying88
  a76 := Tryz.isAgg88
  z76 := Tryz.sizeOf88
  v76 := Tryz.zeroValue88
  t105 := Tryz.underlying104
  a105 := Tryz.isAgg104
  z105 := Tryz.sizeOf104
  v105 := Tryz.zeroValue104
  t107 := Tryz.underlying93
  a107 := Tryz.isAgg93
  z107 := Tryz.sizeOf93
  v107 := Tryz.zeroValue93
  t119 := Tryz.underlying80
  a119 := Tryz.isAgg80
  z119 := Tryz.sizeOf80
  t127 := Tryz.underlying106
  a127 := Tryz.isAgg106
  z127 := Tryz.sizeOf106
  v127 := Tryz.zeroValue106
  t138 := Tryz.underlying142
  a138 := Tryz.isAgg142
  z138 := Tryz.sizeOf142
  v138 := Tryz.zeroValue142
  t139 := Tryz.underlying143
  a139 := Tryz.isAgg143
  z139 := Tryz.sizeOf143
  v139 := Tryz.zeroValue143
  t160 := Tryz.underlying144
  a160 := Tryz.isAgg144
  z160 := Tryz.sizeOf144
  v160 := Tryz.zeroValue144
  t162 := Tryz.underlying132
  a162 := Tryz.isAgg132
  z162 := Tryz.sizeOf132
  v162 := Tryz.zeroValue132
  t164 := Tryz.underlying126
  a164 := Tryz.isAgg126
  z164 := Tryz.sizeOf126
  v164 := Tryz.zeroValue126
  t203 := Tryz.underlying130
  a203 := Tryz.isAgg130
  z203 := Tryz.sizeOf130
  v203 := Tryz.zeroValue130
  t206 := Tryz.underlying148
  a206 := Tryz.isAgg148
  z206 := Tryz.sizeOf148
  v206 := Tryz.zeroValue148
  t208 := Tryz.underlying150
  a208 := Tryz.isAgg150
  z208 := Tryz.sizeOf150
  v208 := Tryz.zeroValue150
  g3 := by kernel_rfl
  g4 := by kernel_rfl
  g13 := by kernel_rfl }
theorem Tryz.Builder_Extra_158 : Builder.Extra Tryz.prog Tryz.lays158_ren := {
  sizeBuilder := by kernel_rfl
  liesBuilder := by kernel_rfl
  t5 := Tryz.underlying5
  a5 := Tryz.isAgg5
  z5 := Tryz.sizeOf5
  v5 := Tryz.zeroValue5
  infoByte := by kernel_rfl
  cellsByte := by kernel_rfl
  sizeByte := by kernel_rfl
  neB5 := by decide }
open Go.RowKit in
/-- strings.ToUpper: "ToUpper returns s with all Unicode letters mapped to their upper case.": ON ASCII TEXT OF AT MOST 2^47 BYTES. Below the heap's end the world is as it was: where a letter turns, the call makes a builder and its buffer. (LAID: no walk: one application.) -/
theorem Tryz.strings_ToUpper_ascii (s : ByteArray) (w : World) (hs : s.size ≤ 140737488355328) (hascii : ∀ (j : Nat) (b : UInt8), s.data.toList[j]? = some b → b.toNat < 128) :
    Calls Tryz.prog 44 #[.string s] w fun e w' => e = .returned (.string ⟨(Lib.toUpperA s.data.toList).toArray⟩) ∧ Below w.heap.size w w' := Any.strings_ToUpper_ascii Tryz.lays158 Tryz.Builder_Extra_158 s w hs hascii
def Tryz.lays118_ren : Go.Shelf.Ren := ⟨fun | 118 => 77 | n => n, fun | 21 => 21 | 3 => 3 | 4 => 4 | n => n, fun | n => n⟩
theorem Tryz.lays118 : Go.Proofs.Lays.n118 Tryz.prog Tryz.lays118_ren := {
  mixed := by kernel_rfl
  f118 := Tryz.func77.trans (congrArg some (by kernel_rfl))
  t3 := Tryz.underlying3
  a3 := Tryz.isAgg3
  z3 := Tryz.sizeOf3
  v3 := Tryz.zeroValue3
  t4 := Tryz.underlying4
  a4 := Tryz.isAgg4
  z4 := Tryz.sizeOf4
  v4 := Tryz.zeroValue4
  t21 := Tryz.underlying21
  a21 := Tryz.isAgg21
  z21 := Tryz.sizeOf21
  v21 := Tryz.zeroValue21 }
/-- utf8.RuneLen: "RuneLen returns the number of bytes in the UTF-8 encoding of the rune. It returns -1 if the rune is not a valid value to encode in UTF-8.": IT RETURNS 'Lib.runeLen r'; the world is as it was. (LAID: no walk: one application.) -/
theorem Tryz.utf8_RuneLen (r : Int) (w : World) :
    Calls Tryz.prog 77 #[.int .i32 r] w fun e w' => e = .returned (.int .i64 (Lib.runeLen r)) ∧ w' = w := Any.utf8_RuneLen Tryz.lays118 r w
def Tryz.lays120_ren : Go.Shelf.Ren := ⟨fun | 120 => 98 | n => n, fun | 5 => 5 | 4 => 4 | n => n, fun | n => n⟩
theorem Tryz.lays120 : Go.Proofs.Lays.n120 Tryz.prog Tryz.lays120_ren := {
  mixed := by kernel_rfl
  f120 := Tryz.func98.trans (congrArg some (by kernel_rfl))
  t4 := Tryz.underlying4
  a4 := Tryz.isAgg4
  z4 := Tryz.sizeOf4
  v4 := Tryz.zeroValue4
  t5 := Tryz.underlying5
  a5 := Tryz.isAgg5
  z5 := Tryz.sizeOf5
  v5 := Tryz.zeroValue5 }
/-- utf8.RuneStart: "RuneStart reports whether the byte could be the first byte of an encoded, possibly invalid rune. Second and subsequent bytes always have the top two bits set to 10.": IT RETURNS 'Lib.runeStart b'; the world is as it was. ('h0', 'h1': b is a byte: a caller has it of every byte that it was handed.) (LAID: no walk: one application.) -/
theorem Tryz.utf8_RuneStart (b : Int) (w : World) (h0 : 0 ≤ b) (h1 : b < 256) :
    Calls Tryz.prog 98 #[.int .u8 b] w fun e w' => e = .returned (.bool (Lib.runeStart b)) ∧ w' = w := Any.utf8_RuneStart Tryz.lays120 b w h0 h1
def Tryz.lays128_ren : Go.Shelf.Ren := ⟨fun | 128 => 38 | n => n, fun | 51 => 64 | 3 => 3 | 4 => 4 | 46 => 47 | 5 => 5 | 9 => 9 | n => n, fun | n => n⟩
theorem Tryz.lays128 : Go.Proofs.Lays.n128 Tryz.prog Tryz.lays128_ren := {
  mixed := by kernel_rfl
  f128 := Tryz.func38.trans (congrArg some (by kernel_rfl))
  t3 := Tryz.underlying3
  a3 := Tryz.isAgg3
  z3 := Tryz.sizeOf3
  v3 := Tryz.zeroValue3
  t4 := Tryz.underlying4
  a4 := Tryz.isAgg4
  z4 := Tryz.sizeOf4
  v4 := Tryz.zeroValue4
  t5 := Tryz.underlying5
  a5 := Tryz.isAgg5
  z5 := Tryz.sizeOf5
  v5 := Tryz.zeroValue5
  t9 := Tryz.underlying9
  a9 := Tryz.isAgg9
  z9 := Tryz.sizeOf9
  v9 := Tryz.zeroValue9
  t46 := Tryz.underlying47
  a46 := Tryz.isAgg47
  z46 := Tryz.sizeOf47
  v46 := Tryz.zeroValue47
  t51 := Tryz.underlying64
  a51 := Tryz.isAgg64
  z51 := Tryz.sizeOf64
  v51 := Tryz.zeroValue64 }
/-- bits.Len32: "Len32 returns the minimum number of bits required to represent x; the result is 0 for x == 0.": IT RETURNS 'Lib.bitLen x'; the world is as it was. ('h0', 'h1': x is a uint32.) (LAID: no walk: one application.) -/
theorem Tryz.bits_Len32 (x : Int) (w : World) (h0 : 0 ≤ x) (h1 : x ≤ 4294967295) :
    Calls Tryz.prog 38 #[.int .u32 x] w fun e w' => e = .returned (.int .i64 (Lib.bitLen x.toNat)) ∧ w' = w := Any.bits_Len32 Tryz.lays128 x w h0 h1
def Tryz.lays125_ren : Go.Shelf.Ren := ⟨fun | 125 => 22 | 128 => 38 | 129 => 39 | n => n, fun | 46 => 47 | 3 => 3 | 51 => 64 | 53 => 66 | 4 => 4 | 5 => 5 | 9 => 9 | n => n, fun | n => n⟩
theorem Tryz.lays125 : Go.Proofs.Lays.n125 Tryz.prog Tryz.lays125_ren := {
  mixed := by kernel_rfl
  f125 := Tryz.func22.trans (congrArg some (by kernel_rfl))
  f128 := Tryz.func38.trans (congrArg some (by kernel_rfl))
  f129 := Tryz.func39.trans (congrArg some (by kernel_rfl))
  t3 := Tryz.underlying3
  a3 := Tryz.isAgg3
  z3 := Tryz.sizeOf3
  v3 := Tryz.zeroValue3
  t4 := Tryz.underlying4
  a4 := Tryz.isAgg4
  z4 := Tryz.sizeOf4
  v4 := Tryz.zeroValue4
  t5 := Tryz.underlying5
  a5 := Tryz.isAgg5
  z5 := Tryz.sizeOf5
  v5 := Tryz.zeroValue5
  t9 := Tryz.underlying9
  a9 := Tryz.isAgg9
  z9 := Tryz.sizeOf9
  v9 := Tryz.zeroValue9
  t46 := Tryz.underlying47
  a46 := Tryz.isAgg47
  z46 := Tryz.sizeOf47
  v46 := Tryz.zeroValue47
  t51 := Tryz.underlying64
  a51 := Tryz.isAgg64
  z51 := Tryz.sizeOf64
  v51 := Tryz.zeroValue64
  t53 := Tryz.underlying66
  a53 := Tryz.isAgg66
  z53 := Tryz.sizeOf66
  v53 := Tryz.zeroValue66 }
/-- bits.Len: "Len returns the minimum number of bits required to represent x; the result is 0 for x == 0.": IT RETURNS 'Lib.bitLen x'; the world is as it was. (A uint has 64 bits in the model.) ITS CALLEE bits.Len64 IS MET BY ITS OWN CONTRACT OFF THE SHELF (lay that first). (LAID: no walk: one application.) -/
theorem Tryz.bits_Len (x : Int) (w : World) (h0 : 0 ≤ x) (h1 : x ≤ 18446744073709551615) :
    Calls Tryz.prog 22 #[.int .u64 x] w fun e w' => e = .returned (.int .i64 (Lib.bitLen x.toNat)) ∧ w' = w := Any.bits_Len Tryz.lays125 x w h0 h1
def Tryz.lays129_ren : Go.Shelf.Ren := ⟨fun | 129 => 39 | n => n, fun | 53 => 66 | 3 => 3 | 4 => 4 | 46 => 47 | 5 => 5 | 9 => 9 | n => n, fun | n => n⟩
theorem Tryz.lays129 : Go.Proofs.Lays.n129 Tryz.prog Tryz.lays129_ren := {
  mixed := by kernel_rfl
  f129 := Tryz.func39.trans (congrArg some (by kernel_rfl))
  t3 := Tryz.underlying3
  a3 := Tryz.isAgg3
  z3 := Tryz.sizeOf3
  v3 := Tryz.zeroValue3
  t4 := Tryz.underlying4
  a4 := Tryz.isAgg4
  z4 := Tryz.sizeOf4
  v4 := Tryz.zeroValue4
  t5 := Tryz.underlying5
  a5 := Tryz.isAgg5
  z5 := Tryz.sizeOf5
  v5 := Tryz.zeroValue5
  t9 := Tryz.underlying9
  a9 := Tryz.isAgg9
  z9 := Tryz.sizeOf9
  v9 := Tryz.zeroValue9
  t46 := Tryz.underlying47
  a46 := Tryz.isAgg47
  z46 := Tryz.sizeOf47
  v46 := Tryz.zeroValue47
  t53 := Tryz.underlying66
  a53 := Tryz.isAgg66
  z53 := Tryz.sizeOf66
  v53 := Tryz.zeroValue66 }
/-- bits.Len64: "Len64 returns the minimum number of bits required to represent x; the result is 0 for x == 0.": IT RETURNS 'Lib.bitLen x'; the world is as it was. ('h0', 'h1': x is a uint64.) (LAID: no walk: one application.) -/
theorem Tryz.bits_Len64 (x : Int) (w : World) (h0 : 0 ≤ x) (h1 : x ≤ 18446744073709551615) :
    Calls Tryz.prog 39 #[.int .u64 x] w fun e w' => e = .returned (.int .i64 (Lib.bitLen x.toNat)) ∧ w' = w := Any.bits_Len64 Tryz.lays129 x w h0 h1
def Tryz.lays317_ren : Go.Shelf.Ren := ⟨fun | 317 => 94 | n => n, fun | 3 => 3 | 46 => 47 | n => n, fun | n => n⟩
theorem Tryz.lays317 : Go.Proofs.Lays.n317 Tryz.prog Tryz.lays317_ren := {
  mixed := by kernel_rfl
  f317 := Tryz.func94.trans (congrArg some (by kernel_rfl))
  t3 := Tryz.underlying3
  a3 := Tryz.isAgg3
  z3 := Tryz.sizeOf3
  v3 := Tryz.zeroValue3
  t46 := Tryz.underlying47
  a46 := Tryz.isAgg47
  z46 := Tryz.sizeOf47
  v46 := Tryz.zeroValue47 }
open Go.Lib in
/-- internal/strconv.log10Pow2: "log10Pow2(x) returns ⌊log₁₀ 2**x⌋ = ⌊x * log₁₀ 2⌋.": '(x * 78913) >> 18', at an x up to 64 (a length in bits). The world is as it was. (LAID: no walk: one application.) -/
theorem Tryz.internal_strconv_log10Pow2 (x : Nat) (h : x ≤ 64) (w : World) :
    Calls Tryz.prog 94 #[.int .i64 x] w fun e w' => e = .returned (.int .i64 (Lib.l10 x)) ∧ w' = w := Any.internal_strconv_log10Pow2 Tryz.lays317 x h w
def Tryz.lays318_ren : Go.Shelf.Ren := ⟨fun | 318 => 95 | n => n, fun | 3 => 3 | 4 => 4 | n => n, fun | n => n⟩
theorem Tryz.lays318 : Go.Proofs.Lays.n318 Tryz.prog Tryz.lays318_ren := {
  mixed := by kernel_rfl
  f318 := Tryz.func95.trans (congrArg some (by kernel_rfl))
  t3 := Tryz.underlying3
  a3 := Tryz.isAgg3
  z3 := Tryz.sizeOf3
  v3 := Tryz.zeroValue3
  t4 := Tryz.underlying4
  a4 := Tryz.isAgg4
  z4 := Tryz.sizeOf4
  v4 := Tryz.zeroValue4 }
open Go.Lib in
/-- internal/strconv.bool2: "bool2 converts b to an integer: 1 for true, 0 for false." The world is as it was. (LAID: no walk: one application.) -/
theorem Tryz.internal_strconv_bool2_int (b : Bool) (w : World) :
    Calls Tryz.prog 95 #[.bool b] w fun e w' => e = .returned (.int .i64 (if b then 1 else 0)) ∧ w' = w := Any.internal_strconv_bool2_int Tryz.lays318 b w
def Tryz.lays283_ren : Go.Shelf.Ren := ⟨fun | 283 => 81 | n => n, fun | 3 => 3 | 9 => 9 | 4 => 4 | n => n, fun | n => n⟩
theorem Tryz.lays283 : Go.Proofs.Lays.n283 Tryz.prog Tryz.lays283_ren := {
  mixed := by kernel_rfl
  f283 := Tryz.func81.trans (congrArg some (by kernel_rfl))
  t3 := Tryz.underlying3
  a3 := Tryz.isAgg3
  z3 := Tryz.sizeOf3
  v3 := Tryz.zeroValue3
  t4 := Tryz.underlying4
  a4 := Tryz.isAgg4
  z4 := Tryz.sizeOf4
  v4 := Tryz.zeroValue4
  t9 := Tryz.underlying9
  a9 := Tryz.isAgg9
  z9 := Tryz.sizeOf9
  v9 := Tryz.zeroValue9 }
open Go.Lib in
/-- internal/strconv.small: "small returns the string for an i with 0 <= i < nSmalls.": i's decimal numeral. The world is as it was. (LAID: no walk: one application.) -/
theorem Tryz.internal_strconv_small (i : Nat) (h : i < 100) (w : World) :
    Calls Tryz.prog 81 #[.int .i64 i] w fun e w' => e = .returned (.string ⟨(Lib.decDigits i).toArray⟩) ∧ w' = w := Any.internal_strconv_small Tryz.lays283 i h w
def Tryz.laysM284_ren : Go.Shelf.Ren := ⟨fun | 284 => 82 | 129 => 39 | 317 => 94 | 318 => 95 | n => n, fun | 53 => 66 | 3 => 3 | 212 => 135 | 0 => 0 | 4 => 4 | 46 => 47 | 5 => 5 | 9 => 9 | n => n, fun | 17 => 5 | n => n⟩
theorem Tryz.laysM284 : Go.Proofs.LaysM.n284 Tryz.prog Tryz.laysM284_ren := {
  mixed := by kernel_rfl
  f129 := Tryz.func39.trans (congrArg some (by kernel_rfl))
  f284 := Tryz.func82.trans (congrArg some (by kernel_rfl))
  f317 := Tryz.func94.trans (congrArg some (by kernel_rfl))
  f318 := Tryz.func95.trans (congrArg some (by kernel_rfl))
  t0 := Tryz.underlying0
  a0 := Tryz.isAgg0
  z0 := Tryz.sizeOf0
  v0 := Tryz.zeroValue0
  t3 := Tryz.underlying3
  a3 := Tryz.isAgg3
  z3 := Tryz.sizeOf3
  v3 := Tryz.zeroValue3
  t4 := Tryz.underlying4
  a4 := Tryz.isAgg4
  z4 := Tryz.sizeOf4
  v4 := Tryz.zeroValue4
  t5 := Tryz.underlying5
  a5 := Tryz.isAgg5
  z5 := Tryz.sizeOf5
  v5 := Tryz.zeroValue5
  t9 := Tryz.underlying9
  a9 := Tryz.isAgg9
  z9 := Tryz.sizeOf9
  v9 := Tryz.zeroValue9
  t46 := Tryz.underlying47
  a46 := Tryz.isAgg47
  z46 := Tryz.sizeOf47
  v46 := Tryz.zeroValue47
  t53 := Tryz.underlying66
  a53 := Tryz.isAgg66
  z53 := Tryz.sizeOf66
  v53 := Tryz.zeroValue66
  t212 := Tryz.underlying135
  a212 := Tryz.isAgg135
  z212 := Tryz.sizeOf135
  v212 := Tryz.zeroValue135
  g17 := by kernel_rfl
  i0 := by kernel_rfl
  i3 := by kernel_rfl
  i4 := by kernel_rfl
  i5 := by kernel_rfl
  i9 := by kernel_rfl
  i46 := by kernel_rfl
  i53 := by kernel_rfl
  i212 := by kernel_rfl
  m17 := by kernel_rfl }
open Go.Lib in
/-- internal/strconv.numDigits, at a d that is not 0: THE NUMBER OF d's DECIMAL DIGITS. The world is as it was. (LAID: no walk: one application.) -/
theorem Tryz.internal_strconv_numDigits (u : Nat) (h1 : 1 ≤ u) (h2 : u < 18446744073709551616) (w : World) (htab : Lib.TabIs Tryz.prog w "internal/strconv.uint64pow10" .u64 Lib.pow10Tab) :
    Calls Tryz.prog 82 #[.int .u64 u] w fun e w' => e = .returned (.int .i64 (Lib.nDigits u)) ∧ w' = w := Any.internal_strconv_numDigits Tryz.laysM284 u h1 h2 w htab
def Tryz.lays285_ren : Go.Shelf.Ren := ⟨fun | 285 => 83 | n => n, fun | 37 => 33 | 53 => 66 | 3 => 3 | 4 => 4 | 51 => 64 | 9 => 9 | 5 => 5 | 0 => 0 | n => n, fun | n => n⟩
theorem Tryz.lays285 : Go.Proofs.Lays.n285 Tryz.prog Tryz.lays285_ren := {
  mixed := by kernel_rfl
  f285 := Tryz.func83.trans (congrArg some (by kernel_rfl))
  t0 := Tryz.underlying0
  a0 := Tryz.isAgg0
  z0 := Tryz.sizeOf0
  v0 := Tryz.zeroValue0
  t3 := Tryz.underlying3
  a3 := Tryz.isAgg3
  z3 := Tryz.sizeOf3
  v3 := Tryz.zeroValue3
  t4 := Tryz.underlying4
  a4 := Tryz.isAgg4
  z4 := Tryz.sizeOf4
  v4 := Tryz.zeroValue4
  t5 := Tryz.underlying5
  a5 := Tryz.isAgg5
  z5 := Tryz.sizeOf5
  v5 := Tryz.zeroValue5
  t9 := Tryz.underlying9
  a9 := Tryz.isAgg9
  z9 := Tryz.sizeOf9
  v9 := Tryz.zeroValue9
  t37 := Tryz.underlying33
  a37 := Tryz.isAgg33
  z37 := Tryz.sizeOf33
  v37 := Tryz.zeroValue33
  t51 := Tryz.underlying64
  a51 := Tryz.isAgg64
  z51 := Tryz.sizeOf64
  v51 := Tryz.zeroValue64
  t53 := Tryz.underlying66
  a53 := Tryz.isAgg66
  z53 := Tryz.sizeOf66
  v53 := Tryz.zeroValue66 }
open Go.RowKit Go.Sort Go.Lib in
/-- internal/strconv.formatBase10: "formatBase10 formats the decimal representation of u into a. The caller is responsible for ensuring that a is big enough to hold u. If a is too big, leading zeros will be filled in as needed.": THE ROW HOLDS u's DIGITS ('FmtInv .. 0 ..': every place t holds 'dg u (len - 1 - t)'); all else is as it was but for the count of draws. (LAID: no walk: one application.) -/
theorem Tryz.internal_strconv_formatBase10 (blk off cap : Nat) (u : Nat) (d : Array UInt8) (w : World) (hH : Holds (fun (b : UInt8) => Value.int .u8 (b.toNat : Int)) w blk off d) (hu : u < 10 ^ d.size) (hu64 : u < 18446744073709551616) (hsz : d.size < 4611686018427387904) :
    Calls Tryz.prog 83 #[.slice (some ⟨blk, off, none⟩) d.size cap, .int .u64 u] w fun e w' =>
      e = .returned (.tuple #[]) ∧ ∃ (n v' : Nat) (dk : Array UInt8), w' = (putRow (fun (b : UInt8) => Value.int .u8 (b.toNat : Int)) w blk off dk).drewN n ∧ FmtInv d.size u 0 v' dk := Any.internal_strconv_formatBase10 Tryz.lays285 blk off cap u d w hH hu hu64 hsz
def Tryz.laysM246_ren : Go.Shelf.Ren := ⟨fun | 246 => 67 | 283 => 81 | 284 => 82 | 285 => 83 | 286 => 84 | 129 => 39 | 317 => 94 | 318 => 95 | 319 => 96 | 320 => 97 | 337 => 102 | 338 => 103 | n => n, fun | 2 => 2 | 3 => 3 | 9 => 9 | 4 => 4 | 171 => 111 | 0 => 0 | 53 => 66 | 37 => 33 | 5 => 5 | 173 => 113 | 212 => 135 | 51 => 64 | 20 => 20 | 213 => 136 | 46 => 47 | 232 => 151 | 233 => 100 | n => n, fun | 17 => 5 | 18 => 8 | 19 => 9 | n => n⟩
theorem Tryz.laysM246 : Go.Proofs.LaysM.n246 Tryz.prog Tryz.laysM246_ren := {
  mixed := by kernel_rfl
  f129 := Tryz.func39.trans (congrArg some (by kernel_rfl))
  f246 := Tryz.func67.trans (congrArg some (by kernel_rfl))
  f283 := Tryz.func81.trans (congrArg some (by kernel_rfl))
  f284 := Tryz.func82.trans (congrArg some (by kernel_rfl))
  f285 := Tryz.func83.trans (congrArg some (by kernel_rfl))
  f286 := Tryz.func84.trans (congrArg some (by kernel_rfl))
  f317 := Tryz.func94.trans (congrArg some (by kernel_rfl))
  f318 := Tryz.func95.trans (congrArg some (by kernel_rfl))
  f319 := Tryz.func96.trans (congrArg some (by kernel_rfl))
  f320 := Tryz.func97.trans (congrArg some (by kernel_rfl))
  f337 := Tryz.func102.trans (congrArg some (by kernel_rfl))
  f338 := Tryz.func103.trans (congrArg some (by kernel_rfl))
  t0 := Tryz.underlying0
  a0 := Tryz.isAgg0
  z0 := Tryz.sizeOf0
  v0 := Tryz.zeroValue0
  t2 := Tryz.underlying2
  a2 := Tryz.isAgg2
  z2 := Tryz.sizeOf2
  v2 := Tryz.zeroValue2
  t3 := Tryz.underlying3
  a3 := Tryz.isAgg3
  z3 := Tryz.sizeOf3
  v3 := Tryz.zeroValue3
  t4 := Tryz.underlying4
  a4 := Tryz.isAgg4
  z4 := Tryz.sizeOf4
  v4 := Tryz.zeroValue4
  t5 := Tryz.underlying5
  a5 := Tryz.isAgg5
  z5 := Tryz.sizeOf5
  v5 := Tryz.zeroValue5
  t9 := Tryz.underlying9
  a9 := Tryz.isAgg9
  z9 := Tryz.sizeOf9
  v9 := Tryz.zeroValue9
  t20 := Tryz.underlying20
  a20 := Tryz.isAgg20
  z20 := Tryz.sizeOf20
  v20 := Tryz.zeroValue20
  t37 := Tryz.underlying33
  a37 := Tryz.isAgg33
  z37 := Tryz.sizeOf33
  v37 := Tryz.zeroValue33
  t46 := Tryz.underlying47
  a46 := Tryz.isAgg47
  z46 := Tryz.sizeOf47
  v46 := Tryz.zeroValue47
  t51 := Tryz.underlying64
  a51 := Tryz.isAgg64
  z51 := Tryz.sizeOf64
  v51 := Tryz.zeroValue64
  t53 := Tryz.underlying66
  a53 := Tryz.isAgg66
  z53 := Tryz.sizeOf66
  v53 := Tryz.zeroValue66
  t171 := Tryz.underlying111
  a171 := Tryz.isAgg111
  z171 := Tryz.sizeOf111
  v171 := Tryz.zeroValue111
  t173 := Tryz.underlying113
  a173 := Tryz.isAgg113
  z173 := Tryz.sizeOf113
  v173 := Tryz.zeroValue113
  t212 := Tryz.underlying135
  a212 := Tryz.isAgg135
  z212 := Tryz.sizeOf135
  v212 := Tryz.zeroValue135
  t213 := Tryz.underlying136
  a213 := Tryz.isAgg136
  z213 := Tryz.sizeOf136
  t232 := Tryz.underlying151
  a232 := Tryz.isAgg151
  z232 := Tryz.sizeOf151
  v232 := Tryz.zeroValue151
  t233 := Tryz.underlying100
  a233 := Tryz.isAgg100
  z233 := Tryz.sizeOf100
  v233 := Tryz.zeroValue100
  g17 := by kernel_rfl
  g18 := by kernel_rfl
  g19 := by kernel_rfl
  i0 := by kernel_rfl
  i2 := by kernel_rfl
  i3 := by kernel_rfl
  i4 := by kernel_rfl
  i5 := by kernel_rfl
  i9 := by kernel_rfl
  i20 := by kernel_rfl
  i37 := by kernel_rfl
  i46 := by kernel_rfl
  i51 := by kernel_rfl
  i53 := by kernel_rfl
  i171 := by kernel_rfl
  i173 := by kernel_rfl
  i212 := by kernel_rfl
  i232 := by kernel_rfl
  i233 := by kernel_rfl
  m17 := by kernel_rfl
  m18 := by kernel_rfl
  m19 := by kernel_rfl }
open Go.RowKit Go.Sort Go.Lib in
/-- internal/strconv.FormatInt: "FormatInt returns the string representation of i in the given base": AT BASE 10: i's decimal numeral, for every int64. The world behind the call: the world before it, new blocks behind the heap, draws. (LAID: no walk: one application.) -/
theorem Tryz.internal_strconv_FormatInt_10 (n : Int) (h0 : -9223372036854775808 ≤ n) (h1 : n ≤ 9223372036854775807) (w : World) (htab : Lib.TabIs Tryz.prog w "internal/strconv.uint64pow10" .u64 Lib.pow10Tab) :
    Calls Tryz.prog 67 #[.int .i64 n, .int .i64 10] w fun e w' => e = .returned (.string ⟨(Lib.itoa n).toArray⟩) ∧ ∃ k os, w' = grow (w.drewN k) os := Any.internal_strconv_FormatInt_10 Tryz.laysM246 n h0 h1 w htab
def Tryz.lays246_ren : Go.Shelf.Ren := ⟨fun | 246 => 67 | 283 => 81 | 284 => 82 | 285 => 83 | 286 => 84 | 129 => 39 | 317 => 94 | 318 => 95 | 319 => 96 | 320 => 97 | 337 => 102 | 338 => 103 | n => n, fun | 2 => 2 | 3 => 3 | 9 => 9 | 4 => 4 | 171 => 111 | 0 => 0 | 53 => 66 | 37 => 33 | 5 => 5 | 173 => 113 | 212 => 135 | 51 => 64 | 20 => 20 | 213 => 136 | 46 => 47 | 232 => 151 | 233 => 100 | n => n, fun | 17 => 5 | 18 => 8 | 19 => 9 | n => n⟩
theorem Tryz.lays246 : Go.Proofs.Lays.n246 Tryz.prog Tryz.lays246_ren := {
  mixed := by kernel_rfl
  f129 := Tryz.func39.trans (congrArg some (by kernel_rfl))
  f246 := Tryz.func67.trans (congrArg some (by kernel_rfl))
  f283 := Tryz.func81.trans (congrArg some (by kernel_rfl))
  f284 := Tryz.func82.trans (congrArg some (by kernel_rfl))
  f285 := Tryz.func83.trans (congrArg some (by kernel_rfl))
  f286 := Tryz.func84.trans (congrArg some (by kernel_rfl))
  f317 := Tryz.func94.trans (congrArg some (by kernel_rfl))
  f318 := Tryz.func95.trans (congrArg some (by kernel_rfl))
  f319 := Tryz.func96.trans (congrArg some (by kernel_rfl))
  f320 := Tryz.func97.trans (congrArg some (by kernel_rfl))
  f337 := Tryz.func102.trans (congrArg some (by kernel_rfl))
  f338 := Tryz.func103.trans (congrArg some (by kernel_rfl))
  t0 := Tryz.underlying0
  a0 := Tryz.isAgg0
  z0 := Tryz.sizeOf0
  v0 := Tryz.zeroValue0
  t2 := Tryz.underlying2
  a2 := Tryz.isAgg2
  z2 := Tryz.sizeOf2
  v2 := Tryz.zeroValue2
  t3 := Tryz.underlying3
  a3 := Tryz.isAgg3
  z3 := Tryz.sizeOf3
  v3 := Tryz.zeroValue3
  t4 := Tryz.underlying4
  a4 := Tryz.isAgg4
  z4 := Tryz.sizeOf4
  v4 := Tryz.zeroValue4
  t5 := Tryz.underlying5
  a5 := Tryz.isAgg5
  z5 := Tryz.sizeOf5
  v5 := Tryz.zeroValue5
  t9 := Tryz.underlying9
  a9 := Tryz.isAgg9
  z9 := Tryz.sizeOf9
  v9 := Tryz.zeroValue9
  t20 := Tryz.underlying20
  a20 := Tryz.isAgg20
  z20 := Tryz.sizeOf20
  v20 := Tryz.zeroValue20
  t37 := Tryz.underlying33
  a37 := Tryz.isAgg33
  z37 := Tryz.sizeOf33
  v37 := Tryz.zeroValue33
  t46 := Tryz.underlying47
  a46 := Tryz.isAgg47
  z46 := Tryz.sizeOf47
  v46 := Tryz.zeroValue47
  t51 := Tryz.underlying64
  a51 := Tryz.isAgg64
  z51 := Tryz.sizeOf64
  v51 := Tryz.zeroValue64
  t53 := Tryz.underlying66
  a53 := Tryz.isAgg66
  z53 := Tryz.sizeOf66
  v53 := Tryz.zeroValue66
  t171 := Tryz.underlying111
  a171 := Tryz.isAgg111
  z171 := Tryz.sizeOf111
  v171 := Tryz.zeroValue111
  t173 := Tryz.underlying113
  a173 := Tryz.isAgg113
  z173 := Tryz.sizeOf113
  v173 := Tryz.zeroValue113
  t212 := Tryz.underlying135
  a212 := Tryz.isAgg135
  z212 := Tryz.sizeOf135
  v212 := Tryz.zeroValue135
  t213 := Tryz.underlying136
  a213 := Tryz.isAgg136
  z213 := Tryz.sizeOf136
  t232 := Tryz.underlying151
  a232 := Tryz.isAgg151
  z232 := Tryz.sizeOf151
  v232 := Tryz.zeroValue151
  t233 := Tryz.underlying100
  a233 := Tryz.isAgg100
  z233 := Tryz.sizeOf100
  v233 := Tryz.zeroValue100
  g17 := by kernel_rfl
  g18 := by kernel_rfl
  g19 := by kernel_rfl }
open Go.RowKit Go.Sort Go.Lib in
/-- THE ROAD WITHOUT THE TABLE: 0 <= i < 100: two constants are read, nothing is laid: no premise on the world, and the world is as it was. (LAID: no walk: one application.) -/
theorem Tryz.internal_strconv_FormatInt_10_small (i : Nat) (hi : i < 100) (w : World) :
    Calls Tryz.prog 67 #[.int .i64 i, .int .i64 10] w fun e w' => e = .returned (.string ⟨(Lib.decDigits i).toArray⟩) ∧ w' = w := Any.internal_strconv_FormatInt_10_small Tryz.lays246 i hi w
def Tryz.laysM243_ren : Go.Shelf.Ren := ⟨fun | 243 => 47 | 246 => 67 | 283 => 81 | 284 => 82 | 285 => 83 | 286 => 84 | 129 => 39 | 317 => 94 | 318 => 95 | 319 => 96 | 320 => 97 | 337 => 102 | 338 => 103 | n => n, fun | 3 => 3 | 9 => 9 | 2 => 2 | 4 => 4 | 171 => 111 | 0 => 0 | 53 => 66 | 37 => 33 | 5 => 5 | 173 => 113 | 212 => 135 | 51 => 64 | 20 => 20 | 213 => 136 | 46 => 47 | 232 => 151 | 233 => 100 | n => n, fun | 17 => 5 | 18 => 8 | 19 => 9 | n => n⟩
theorem Tryz.laysM243 : Go.Proofs.LaysM.n243 Tryz.prog Tryz.laysM243_ren := {
  mixed := by kernel_rfl
  f129 := Tryz.func39.trans (congrArg some (by kernel_rfl))
  f243 := Tryz.func47.trans (congrArg some (by kernel_rfl))
  f246 := Tryz.func67.trans (congrArg some (by kernel_rfl))
  f283 := Tryz.func81.trans (congrArg some (by kernel_rfl))
  f284 := Tryz.func82.trans (congrArg some (by kernel_rfl))
  f285 := Tryz.func83.trans (congrArg some (by kernel_rfl))
  f286 := Tryz.func84.trans (congrArg some (by kernel_rfl))
  f317 := Tryz.func94.trans (congrArg some (by kernel_rfl))
  f318 := Tryz.func95.trans (congrArg some (by kernel_rfl))
  f319 := Tryz.func96.trans (congrArg some (by kernel_rfl))
  f320 := Tryz.func97.trans (congrArg some (by kernel_rfl))
  f337 := Tryz.func102.trans (congrArg some (by kernel_rfl))
  f338 := Tryz.func103.trans (congrArg some (by kernel_rfl))
  t0 := Tryz.underlying0
  a0 := Tryz.isAgg0
  z0 := Tryz.sizeOf0
  v0 := Tryz.zeroValue0
  t2 := Tryz.underlying2
  a2 := Tryz.isAgg2
  z2 := Tryz.sizeOf2
  v2 := Tryz.zeroValue2
  t3 := Tryz.underlying3
  a3 := Tryz.isAgg3
  z3 := Tryz.sizeOf3
  v3 := Tryz.zeroValue3
  t4 := Tryz.underlying4
  a4 := Tryz.isAgg4
  z4 := Tryz.sizeOf4
  v4 := Tryz.zeroValue4
  t5 := Tryz.underlying5
  a5 := Tryz.isAgg5
  z5 := Tryz.sizeOf5
  v5 := Tryz.zeroValue5
  t9 := Tryz.underlying9
  a9 := Tryz.isAgg9
  z9 := Tryz.sizeOf9
  v9 := Tryz.zeroValue9
  t20 := Tryz.underlying20
  a20 := Tryz.isAgg20
  z20 := Tryz.sizeOf20
  v20 := Tryz.zeroValue20
  t37 := Tryz.underlying33
  a37 := Tryz.isAgg33
  z37 := Tryz.sizeOf33
  v37 := Tryz.zeroValue33
  t46 := Tryz.underlying47
  a46 := Tryz.isAgg47
  z46 := Tryz.sizeOf47
  v46 := Tryz.zeroValue47
  t51 := Tryz.underlying64
  a51 := Tryz.isAgg64
  z51 := Tryz.sizeOf64
  v51 := Tryz.zeroValue64
  t53 := Tryz.underlying66
  a53 := Tryz.isAgg66
  z53 := Tryz.sizeOf66
  v53 := Tryz.zeroValue66
  t171 := Tryz.underlying111
  a171 := Tryz.isAgg111
  z171 := Tryz.sizeOf111
  v171 := Tryz.zeroValue111
  t173 := Tryz.underlying113
  a173 := Tryz.isAgg113
  z173 := Tryz.sizeOf113
  v173 := Tryz.zeroValue113
  t212 := Tryz.underlying135
  a212 := Tryz.isAgg135
  z212 := Tryz.sizeOf135
  v212 := Tryz.zeroValue135
  t213 := Tryz.underlying136
  a213 := Tryz.isAgg136
  z213 := Tryz.sizeOf136
  t232 := Tryz.underlying151
  a232 := Tryz.isAgg151
  z232 := Tryz.sizeOf151
  v232 := Tryz.zeroValue151
  t233 := Tryz.underlying100
  a233 := Tryz.isAgg100
  z233 := Tryz.sizeOf100
  v233 := Tryz.zeroValue100
  g17 := by kernel_rfl
  g18 := by kernel_rfl
  g19 := by kernel_rfl
  i0 := by kernel_rfl
  i2 := by kernel_rfl
  i3 := by kernel_rfl
  i4 := by kernel_rfl
  i5 := by kernel_rfl
  i9 := by kernel_rfl
  i20 := by kernel_rfl
  i37 := by kernel_rfl
  i46 := by kernel_rfl
  i51 := by kernel_rfl
  i53 := by kernel_rfl
  i171 := by kernel_rfl
  i173 := by kernel_rfl
  i212 := by kernel_rfl
  i232 := by kernel_rfl
  i233 := by kernel_rfl
  m17 := by kernel_rfl
  m18 := by kernel_rfl
  m19 := by kernel_rfl }
open Go.RowKit Go.Sort Go.Lib in
/-- internal/strconv.Itoa: "Itoa is equivalent to FormatInt(int64(i), 10).": i's decimal numeral, for every int. (LAID: no walk: one application.) -/
theorem Tryz.internal_strconv_Itoa (n : Int) (h0 : -9223372036854775808 ≤ n) (h1 : n ≤ 9223372036854775807) (w : World) (htab : Lib.TabIs Tryz.prog w "internal/strconv.uint64pow10" .u64 Lib.pow10Tab) :
    Calls Tryz.prog 47 #[.int .i64 n] w fun e w' => e = .returned (.string ⟨(Lib.itoa n).toArray⟩) ∧ ∃ k os, w' = grow (w.drewN k) os := Any.internal_strconv_Itoa Tryz.laysM243 n h0 h1 w htab
def Tryz.lays243_ren : Go.Shelf.Ren := ⟨fun | 243 => 47 | 246 => 67 | 283 => 81 | 284 => 82 | 285 => 83 | 286 => 84 | 129 => 39 | 317 => 94 | 318 => 95 | 319 => 96 | 320 => 97 | 337 => 102 | 338 => 103 | n => n, fun | 3 => 3 | 9 => 9 | 2 => 2 | 4 => 4 | 171 => 111 | 0 => 0 | 53 => 66 | 37 => 33 | 5 => 5 | 173 => 113 | 212 => 135 | 51 => 64 | 20 => 20 | 213 => 136 | 46 => 47 | 232 => 151 | 233 => 100 | n => n, fun | 17 => 5 | 18 => 8 | 19 => 9 | n => n⟩
theorem Tryz.lays243 : Go.Proofs.Lays.n243 Tryz.prog Tryz.lays243_ren := {
  mixed := by kernel_rfl
  f129 := Tryz.func39.trans (congrArg some (by kernel_rfl))
  f243 := Tryz.func47.trans (congrArg some (by kernel_rfl))
  f246 := Tryz.func67.trans (congrArg some (by kernel_rfl))
  f283 := Tryz.func81.trans (congrArg some (by kernel_rfl))
  f284 := Tryz.func82.trans (congrArg some (by kernel_rfl))
  f285 := Tryz.func83.trans (congrArg some (by kernel_rfl))
  f286 := Tryz.func84.trans (congrArg some (by kernel_rfl))
  f317 := Tryz.func94.trans (congrArg some (by kernel_rfl))
  f318 := Tryz.func95.trans (congrArg some (by kernel_rfl))
  f319 := Tryz.func96.trans (congrArg some (by kernel_rfl))
  f320 := Tryz.func97.trans (congrArg some (by kernel_rfl))
  f337 := Tryz.func102.trans (congrArg some (by kernel_rfl))
  f338 := Tryz.func103.trans (congrArg some (by kernel_rfl))
  t0 := Tryz.underlying0
  a0 := Tryz.isAgg0
  z0 := Tryz.sizeOf0
  v0 := Tryz.zeroValue0
  t2 := Tryz.underlying2
  a2 := Tryz.isAgg2
  z2 := Tryz.sizeOf2
  v2 := Tryz.zeroValue2
  t3 := Tryz.underlying3
  a3 := Tryz.isAgg3
  z3 := Tryz.sizeOf3
  v3 := Tryz.zeroValue3
  t4 := Tryz.underlying4
  a4 := Tryz.isAgg4
  z4 := Tryz.sizeOf4
  v4 := Tryz.zeroValue4
  t5 := Tryz.underlying5
  a5 := Tryz.isAgg5
  z5 := Tryz.sizeOf5
  v5 := Tryz.zeroValue5
  t9 := Tryz.underlying9
  a9 := Tryz.isAgg9
  z9 := Tryz.sizeOf9
  v9 := Tryz.zeroValue9
  t20 := Tryz.underlying20
  a20 := Tryz.isAgg20
  z20 := Tryz.sizeOf20
  v20 := Tryz.zeroValue20
  t37 := Tryz.underlying33
  a37 := Tryz.isAgg33
  z37 := Tryz.sizeOf33
  v37 := Tryz.zeroValue33
  t46 := Tryz.underlying47
  a46 := Tryz.isAgg47
  z46 := Tryz.sizeOf47
  v46 := Tryz.zeroValue47
  t51 := Tryz.underlying64
  a51 := Tryz.isAgg64
  z51 := Tryz.sizeOf64
  v51 := Tryz.zeroValue64
  t53 := Tryz.underlying66
  a53 := Tryz.isAgg66
  z53 := Tryz.sizeOf66
  v53 := Tryz.zeroValue66
  t171 := Tryz.underlying111
  a171 := Tryz.isAgg111
  z171 := Tryz.sizeOf111
  v171 := Tryz.zeroValue111
  t173 := Tryz.underlying113
  a173 := Tryz.isAgg113
  z173 := Tryz.sizeOf113
  v173 := Tryz.zeroValue113
  t212 := Tryz.underlying135
  a212 := Tryz.isAgg135
  z212 := Tryz.sizeOf135
  v212 := Tryz.zeroValue135
  t213 := Tryz.underlying136
  a213 := Tryz.isAgg136
  z213 := Tryz.sizeOf136
  t232 := Tryz.underlying151
  a232 := Tryz.isAgg151
  z232 := Tryz.sizeOf151
  v232 := Tryz.zeroValue151
  t233 := Tryz.underlying100
  a233 := Tryz.isAgg100
  z233 := Tryz.sizeOf100
  v233 := Tryz.zeroValue100
  g17 := by kernel_rfl
  g18 := by kernel_rfl
  g19 := by kernel_rfl }
open Go.RowKit Go.Sort Go.Lib in
/-- THE ROAD WITHOUT THE TABLE: 0 <= i < 100. (LAID: no walk: one application.) -/
theorem Tryz.internal_strconv_Itoa_small (i : Nat) (hi : i < 100) (w : World) :
    Calls Tryz.prog 47 #[.int .i64 i] w fun e w' => e = .returned (.string ⟨(Lib.decDigits i).toArray⟩) ∧ w' = w := Any.internal_strconv_Itoa_small Tryz.lays243 i hi w
def Tryz.laysM171_ren : Go.Shelf.Ren := ⟨fun | 171 => 26 | 243 => 47 | 246 => 67 | 283 => 81 | 284 => 82 | 285 => 83 | 286 => 84 | 129 => 39 | 317 => 94 | 318 => 95 | 319 => 96 | 320 => 97 | 337 => 102 | 338 => 103 | n => n, fun | 3 => 3 | 9 => 9 | 2 => 2 | 4 => 4 | 171 => 111 | 0 => 0 | 53 => 66 | 37 => 33 | 5 => 5 | 173 => 113 | 212 => 135 | 51 => 64 | 20 => 20 | 213 => 136 | 46 => 47 | 232 => 151 | 233 => 100 | n => n, fun | 17 => 5 | 18 => 8 | 19 => 9 | n => n⟩
theorem Tryz.laysM171 : Go.Proofs.LaysM.n171 Tryz.prog Tryz.laysM171_ren := {
  mixed := by kernel_rfl
  f129 := Tryz.func39.trans (congrArg some (by kernel_rfl))
  f171 := Tryz.func26.trans (congrArg some (by kernel_rfl))
  f243 := Tryz.func47.trans (congrArg some (by kernel_rfl))
  f246 := Tryz.func67.trans (congrArg some (by kernel_rfl))
  f283 := Tryz.func81.trans (congrArg some (by kernel_rfl))
  f284 := Tryz.func82.trans (congrArg some (by kernel_rfl))
  f285 := Tryz.func83.trans (congrArg some (by kernel_rfl))
  f286 := Tryz.func84.trans (congrArg some (by kernel_rfl))
  f317 := Tryz.func94.trans (congrArg some (by kernel_rfl))
  f318 := Tryz.func95.trans (congrArg some (by kernel_rfl))
  f319 := Tryz.func96.trans (congrArg some (by kernel_rfl))
  f320 := Tryz.func97.trans (congrArg some (by kernel_rfl))
  f337 := Tryz.func102.trans (congrArg some (by kernel_rfl))
  f338 := Tryz.func103.trans (congrArg some (by kernel_rfl))
  t0 := Tryz.underlying0
  a0 := Tryz.isAgg0
  z0 := Tryz.sizeOf0
  v0 := Tryz.zeroValue0
  t2 := Tryz.underlying2
  a2 := Tryz.isAgg2
  z2 := Tryz.sizeOf2
  v2 := Tryz.zeroValue2
  t3 := Tryz.underlying3
  a3 := Tryz.isAgg3
  z3 := Tryz.sizeOf3
  v3 := Tryz.zeroValue3
  t4 := Tryz.underlying4
  a4 := Tryz.isAgg4
  z4 := Tryz.sizeOf4
  v4 := Tryz.zeroValue4
  t5 := Tryz.underlying5
  a5 := Tryz.isAgg5
  z5 := Tryz.sizeOf5
  v5 := Tryz.zeroValue5
  t9 := Tryz.underlying9
  a9 := Tryz.isAgg9
  z9 := Tryz.sizeOf9
  v9 := Tryz.zeroValue9
  t20 := Tryz.underlying20
  a20 := Tryz.isAgg20
  z20 := Tryz.sizeOf20
  v20 := Tryz.zeroValue20
  t37 := Tryz.underlying33
  a37 := Tryz.isAgg33
  z37 := Tryz.sizeOf33
  v37 := Tryz.zeroValue33
  t46 := Tryz.underlying47
  a46 := Tryz.isAgg47
  z46 := Tryz.sizeOf47
  v46 := Tryz.zeroValue47
  t51 := Tryz.underlying64
  a51 := Tryz.isAgg64
  z51 := Tryz.sizeOf64
  v51 := Tryz.zeroValue64
  t53 := Tryz.underlying66
  a53 := Tryz.isAgg66
  z53 := Tryz.sizeOf66
  v53 := Tryz.zeroValue66
  t171 := Tryz.underlying111
  a171 := Tryz.isAgg111
  z171 := Tryz.sizeOf111
  v171 := Tryz.zeroValue111
  t173 := Tryz.underlying113
  a173 := Tryz.isAgg113
  z173 := Tryz.sizeOf113
  v173 := Tryz.zeroValue113
  t212 := Tryz.underlying135
  a212 := Tryz.isAgg135
  z212 := Tryz.sizeOf135
  v212 := Tryz.zeroValue135
  t213 := Tryz.underlying136
  a213 := Tryz.isAgg136
  z213 := Tryz.sizeOf136
  t232 := Tryz.underlying151
  a232 := Tryz.isAgg151
  z232 := Tryz.sizeOf151
  v232 := Tryz.zeroValue151
  t233 := Tryz.underlying100
  a233 := Tryz.isAgg100
  z233 := Tryz.sizeOf100
  v233 := Tryz.zeroValue100
  g17 := by kernel_rfl
  g18 := by kernel_rfl
  g19 := by kernel_rfl
  i0 := by kernel_rfl
  i2 := by kernel_rfl
  i3 := by kernel_rfl
  i4 := by kernel_rfl
  i5 := by kernel_rfl
  i9 := by kernel_rfl
  i20 := by kernel_rfl
  i37 := by kernel_rfl
  i46 := by kernel_rfl
  i51 := by kernel_rfl
  i53 := by kernel_rfl
  i171 := by kernel_rfl
  i173 := by kernel_rfl
  i212 := by kernel_rfl
  i232 := by kernel_rfl
  i233 := by kernel_rfl
  m17 := by kernel_rfl
  m18 := by kernel_rfl
  m19 := by kernel_rfl }
open Go.RowKit Go.Sort Go.Lib in
/-- strconv.Itoa: "Itoa is equivalent to FormatInt(int64(i), 10).": i's DECIMAL NUMERAL ('Lib.itoa': a '-' where i is negative, then the digits), FOR EVERY int. The world behind the call: the world before it, new blocks behind the heap (the library's 'var a [24]byte'), draws. (LAID: no walk: one application.) -/
theorem Tryz.strconv_Itoa (n : Int) (h0 : -9223372036854775808 ≤ n) (h1 : n ≤ 9223372036854775807) (w : World) (htab : Lib.TabIs Tryz.prog w "internal/strconv.uint64pow10" .u64 Lib.pow10Tab) :
    Calls Tryz.prog 26 #[.int .i64 n] w fun e w' => e = .returned (.string ⟨(Lib.itoa n).toArray⟩) ∧ ∃ k os, w' = grow (w.drewN k) os := Any.strconv_Itoa Tryz.laysM171 n h0 h1 w htab
def Tryz.lays171_ren : Go.Shelf.Ren := ⟨fun | 171 => 26 | 243 => 47 | 246 => 67 | 283 => 81 | 284 => 82 | 285 => 83 | 286 => 84 | 129 => 39 | 317 => 94 | 318 => 95 | 319 => 96 | 320 => 97 | 337 => 102 | 338 => 103 | n => n, fun | 3 => 3 | 9 => 9 | 2 => 2 | 4 => 4 | 171 => 111 | 0 => 0 | 53 => 66 | 37 => 33 | 5 => 5 | 173 => 113 | 212 => 135 | 51 => 64 | 20 => 20 | 213 => 136 | 46 => 47 | 232 => 151 | 233 => 100 | n => n, fun | 17 => 5 | 18 => 8 | 19 => 9 | n => n⟩
theorem Tryz.lays171 : Go.Proofs.Lays.n171 Tryz.prog Tryz.lays171_ren := {
  mixed := by kernel_rfl
  f129 := Tryz.func39.trans (congrArg some (by kernel_rfl))
  f171 := Tryz.func26.trans (congrArg some (by kernel_rfl))
  f243 := Tryz.func47.trans (congrArg some (by kernel_rfl))
  f246 := Tryz.func67.trans (congrArg some (by kernel_rfl))
  f283 := Tryz.func81.trans (congrArg some (by kernel_rfl))
  f284 := Tryz.func82.trans (congrArg some (by kernel_rfl))
  f285 := Tryz.func83.trans (congrArg some (by kernel_rfl))
  f286 := Tryz.func84.trans (congrArg some (by kernel_rfl))
  f317 := Tryz.func94.trans (congrArg some (by kernel_rfl))
  f318 := Tryz.func95.trans (congrArg some (by kernel_rfl))
  f319 := Tryz.func96.trans (congrArg some (by kernel_rfl))
  f320 := Tryz.func97.trans (congrArg some (by kernel_rfl))
  f337 := Tryz.func102.trans (congrArg some (by kernel_rfl))
  f338 := Tryz.func103.trans (congrArg some (by kernel_rfl))
  t0 := Tryz.underlying0
  a0 := Tryz.isAgg0
  z0 := Tryz.sizeOf0
  v0 := Tryz.zeroValue0
  t2 := Tryz.underlying2
  a2 := Tryz.isAgg2
  z2 := Tryz.sizeOf2
  v2 := Tryz.zeroValue2
  t3 := Tryz.underlying3
  a3 := Tryz.isAgg3
  z3 := Tryz.sizeOf3
  v3 := Tryz.zeroValue3
  t4 := Tryz.underlying4
  a4 := Tryz.isAgg4
  z4 := Tryz.sizeOf4
  v4 := Tryz.zeroValue4
  t5 := Tryz.underlying5
  a5 := Tryz.isAgg5
  z5 := Tryz.sizeOf5
  v5 := Tryz.zeroValue5
  t9 := Tryz.underlying9
  a9 := Tryz.isAgg9
  z9 := Tryz.sizeOf9
  v9 := Tryz.zeroValue9
  t20 := Tryz.underlying20
  a20 := Tryz.isAgg20
  z20 := Tryz.sizeOf20
  v20 := Tryz.zeroValue20
  t37 := Tryz.underlying33
  a37 := Tryz.isAgg33
  z37 := Tryz.sizeOf33
  v37 := Tryz.zeroValue33
  t46 := Tryz.underlying47
  a46 := Tryz.isAgg47
  z46 := Tryz.sizeOf47
  v46 := Tryz.zeroValue47
  t51 := Tryz.underlying64
  a51 := Tryz.isAgg64
  z51 := Tryz.sizeOf64
  v51 := Tryz.zeroValue64
  t53 := Tryz.underlying66
  a53 := Tryz.isAgg66
  z53 := Tryz.sizeOf66
  v53 := Tryz.zeroValue66
  t171 := Tryz.underlying111
  a171 := Tryz.isAgg111
  z171 := Tryz.sizeOf111
  v171 := Tryz.zeroValue111
  t173 := Tryz.underlying113
  a173 := Tryz.isAgg113
  z173 := Tryz.sizeOf113
  v173 := Tryz.zeroValue113
  t212 := Tryz.underlying135
  a212 := Tryz.isAgg135
  z212 := Tryz.sizeOf135
  v212 := Tryz.zeroValue135
  t213 := Tryz.underlying136
  a213 := Tryz.isAgg136
  z213 := Tryz.sizeOf136
  t232 := Tryz.underlying151
  a232 := Tryz.isAgg151
  z232 := Tryz.sizeOf151
  v232 := Tryz.zeroValue151
  t233 := Tryz.underlying100
  a233 := Tryz.isAgg100
  z233 := Tryz.sizeOf100
  v233 := Tryz.zeroValue100
  g17 := by kernel_rfl
  g18 := by kernel_rfl
  g19 := by kernel_rfl }
open Go.RowKit Go.Sort Go.Lib in
/-- THE ROAD WITHOUT THE TABLE: 0 <= i < 100: NO PREMISE ON THE WORLD, AND THE WORLD IS AS IT WAS: a row that keeps its argument in that range need list no table ('laid = []'). (LAID: no walk: one application.) -/
theorem Tryz.strconv_Itoa_small (i : Nat) (hi : i < 100) (w : World) :
    Calls Tryz.prog 26 #[.int .i64 i] w fun e w' => e = .returned (.string ⟨(Lib.decDigits i).toArray⟩) ∧ w' = w := Any.strconv_Itoa_small Tryz.lays171 i hi w
def Tryz.lays199_ren : Go.Shelf.Ren := ⟨fun | 199 => 58 | 261 => 72 | 311 => 86 | 312 => 87 | n => n, fun | 21 => 21 | 4 => 4 | 51 => 64 | 141 => 102 | 0 => 0 | 196 => 119 | 193 => 116 | 3 => 3 | 198 => 121 | 49 => 22 | 194 => 117 | 201 => 124 | 226 => 138 | 46 => 47 | 227 => 139 | n => n, fun | 6 => 2 | n => n⟩
theorem Tryz.lays199 : Go.Proofs.Lays.n199 Tryz.prog Tryz.lays199_ren := {
  mixed := by kernel_rfl
  f199 := Tryz.func58.trans (congrArg some (by kernel_rfl))
  f261 := Tryz.func72.trans (congrArg some (by kernel_rfl))
  f311 := Tryz.func86.trans (congrArg some (by kernel_rfl))
  f312 := Tryz.func87.trans (congrArg some (by kernel_rfl))
  t0 := Tryz.underlying0
  a0 := Tryz.isAgg0
  z0 := Tryz.sizeOf0
  v0 := Tryz.zeroValue0
  t3 := Tryz.underlying3
  a3 := Tryz.isAgg3
  z3 := Tryz.sizeOf3
  v3 := Tryz.zeroValue3
  t4 := Tryz.underlying4
  a4 := Tryz.isAgg4
  z4 := Tryz.sizeOf4
  v4 := Tryz.zeroValue4
  t21 := Tryz.underlying21
  a21 := Tryz.isAgg21
  z21 := Tryz.sizeOf21
  v21 := Tryz.zeroValue21
  t46 := Tryz.underlying47
  a46 := Tryz.isAgg47
  z46 := Tryz.sizeOf47
  v46 := Tryz.zeroValue47
  t49 := Tryz.underlying22
  a49 := Tryz.isAgg22
  z49 := Tryz.sizeOf22
  v49 := Tryz.zeroValue22
  t51 := Tryz.underlying64
  a51 := Tryz.isAgg64
  z51 := Tryz.sizeOf64
  v51 := Tryz.zeroValue64
  t141 := Tryz.underlying102
  a141 := Tryz.isAgg102
  z141 := Tryz.sizeOf102
  v141 := Tryz.zeroValue102
  t193 := Tryz.underlying116
  a193 := Tryz.isAgg116
  z193 := Tryz.sizeOf116
  v193 := Tryz.zeroValue116
  t194 := Tryz.underlying117
  a194 := Tryz.isAgg117
  z194 := Tryz.sizeOf117
  v194 := Tryz.zeroValue117
  t196 := Tryz.underlying119
  a196 := Tryz.isAgg119
  z196 := Tryz.sizeOf119
  v196 := Tryz.zeroValue119
  t198 := Tryz.underlying121
  a198 := Tryz.isAgg121
  z198 := Tryz.sizeOf121
  v198 := Tryz.zeroValue121
  t201 := Tryz.underlying124
  a201 := Tryz.isAgg124
  z201 := Tryz.sizeOf124
  v201 := Tryz.zeroValue124
  t226 := Tryz.underlying138
  a226 := Tryz.isAgg138
  z226 := Tryz.sizeOf138
  v226 := Tryz.zeroValue138
  t227 := Tryz.underlying139
  a227 := Tryz.isAgg139
  z227 := Tryz.sizeOf139
  v227 := Tryz.zeroValue139
  g6 := by kernel_rfl }
open Go.RowKit Go.Lib in
theorem Tryz.unicode_IsSpace (r : Int) (w : World) (h0 : 0 ≤ r) (h : r ≤ 255) :
    Calls Tryz.prog 58 #[.int .i32 r] w fun e w' => e = .returned (.bool (Lib.isSpaceL r)) ∧ w' = w := Any.unicode_IsSpace Tryz.lays199 r w h0 h
def Tryz.lays203_ren : Go.Shelf.Ren := ⟨fun | 203 => 66 | 262 => 80 | 313 => 93 | 274 => 100 | 275 => 101 | n => n, fun | 21 => 21 | 4 => 4 | 3 => 3 | 162 => 132 | 203 => 130 | 160 => 144 | 46 => 47 | 0 => 0 | 208 => 150 | 51 => 64 | 206 => 148 | n => n, fun | 13 => 4 | n => n⟩
theorem Tryz.lays203 : Go.Proofs.Lays.n203 Tryz.prog Tryz.lays203_ren := {
  mixed := by kernel_rfl
  f203 := Tryz.func66.trans (congrArg some (by kernel_rfl))
  f262 := Tryz.func80.trans (congrArg some (by kernel_rfl))
  f274 := Tryz.func100.trans (congrArg some (by kernel_rfl))
  f275 := Tryz.func101.trans (congrArg some (by kernel_rfl))
  f313 := Tryz.func93.trans (congrArg some (by kernel_rfl))
  t0 := Tryz.underlying0
  a0 := Tryz.isAgg0
  z0 := Tryz.sizeOf0
  v0 := Tryz.zeroValue0
  t3 := Tryz.underlying3
  a3 := Tryz.isAgg3
  z3 := Tryz.sizeOf3
  v3 := Tryz.zeroValue3
  t4 := Tryz.underlying4
  a4 := Tryz.isAgg4
  z4 := Tryz.sizeOf4
  v4 := Tryz.zeroValue4
  t21 := Tryz.underlying21
  a21 := Tryz.isAgg21
  z21 := Tryz.sizeOf21
  v21 := Tryz.zeroValue21
  t46 := Tryz.underlying47
  a46 := Tryz.isAgg47
  z46 := Tryz.sizeOf47
  v46 := Tryz.zeroValue47
  t51 := Tryz.underlying64
  a51 := Tryz.isAgg64
  z51 := Tryz.sizeOf64
  v51 := Tryz.zeroValue64
  t160 := Tryz.underlying144
  a160 := Tryz.isAgg144
  z160 := Tryz.sizeOf144
  v160 := Tryz.zeroValue144
  t162 := Tryz.underlying132
  a162 := Tryz.isAgg132
  z162 := Tryz.sizeOf132
  v162 := Tryz.zeroValue132
  t203 := Tryz.underlying130
  a203 := Tryz.isAgg130
  z203 := Tryz.sizeOf130
  v203 := Tryz.zeroValue130
  t206 := Tryz.underlying148
  a206 := Tryz.isAgg148
  z206 := Tryz.sizeOf148
  v206 := Tryz.zeroValue148
  t208 := Tryz.underlying150
  a208 := Tryz.isAgg150
  z208 := Tryz.sizeOf150
  v208 := Tryz.zeroValue150
  g13 := by kernel_rfl }
open Go.RowKit Go.Lib in
theorem Tryz.unicode_ToUpper (r : Int) (w : World) (h : r ≤ 127) :
    Calls Tryz.prog 66 #[.int .i32 r] w fun e w' => e = .returned (.int .i32 (Lib.toUpperR r)) ∧ w' = w := Any.unicode_ToUpper Tryz.lays203 r w h
def Tryz.lays197_ren : Go.Shelf.Ren := ⟨fun | 197 => 74 | 260 => 89 | n => n, fun | 9 => 9 | 21 => 21 | 3 => 3 | 4 => 4 | 5 => 5 | 105 => 104 | 119 => 80 | 0 => 0 | 46 => 47 | 139 => 143 | 138 => 142 | n => n, fun | 3 => 6 | 4 => 7 | n => n⟩
theorem Tryz.lays197 : Go.Proofs.Lays.n197 Tryz.prog Tryz.lays197_ren := {
  mixed := by kernel_rfl
  f197 := Tryz.func74.trans (congrArg some (by kernel_rfl))
  f260 := Tryz.func89.trans (congrArg some (by kernel_rfl))
  t0 := Tryz.underlying0
  a0 := Tryz.isAgg0
  z0 := Tryz.sizeOf0
  v0 := Tryz.zeroValue0
  t3 := Tryz.underlying3
  a3 := Tryz.isAgg3
  z3 := Tryz.sizeOf3
  v3 := Tryz.zeroValue3
  t4 := Tryz.underlying4
  a4 := Tryz.isAgg4
  z4 := Tryz.sizeOf4
  v4 := Tryz.zeroValue4
  t5 := Tryz.underlying5
  a5 := Tryz.isAgg5
  z5 := Tryz.sizeOf5
  v5 := Tryz.zeroValue5
  t9 := Tryz.underlying9
  a9 := Tryz.isAgg9
  z9 := Tryz.sizeOf9
  v9 := Tryz.zeroValue9
  t21 := Tryz.underlying21
  a21 := Tryz.isAgg21
  z21 := Tryz.sizeOf21
  v21 := Tryz.zeroValue21
  t46 := Tryz.underlying47
  a46 := Tryz.isAgg47
  z46 := Tryz.sizeOf47
  v46 := Tryz.zeroValue47
  t105 := Tryz.underlying104
  a105 := Tryz.isAgg104
  z105 := Tryz.sizeOf104
  v105 := Tryz.zeroValue104
  t119 := Tryz.underlying80
  a119 := Tryz.isAgg80
  z119 := Tryz.sizeOf80
  t138 := Tryz.underlying142
  a138 := Tryz.isAgg142
  z138 := Tryz.sizeOf142
  v138 := Tryz.zeroValue142
  t139 := Tryz.underlying143
  a139 := Tryz.isAgg143
  z139 := Tryz.sizeOf143
  v139 := Tryz.zeroValue143
  g3 := by kernel_rfl
  g4 := by kernel_rfl }
open Go.RowKit Go.Lib in
/-- unicode/utf8.DecodeRuneInString: "DecodeRuneInString is like DecodeRune but its input is a string.": ("DecodeRune unpacks the first UTF-8 encoding in p and returns the rune and its width in bytes."): WHERE s BEGINS WITH AN ASCII BYTE x: (x, 1). (LAID: no walk: one application.) -/
theorem Tryz.utf8_DecodeRuneInString_ascii (s : ByteArray) (x : UInt8) (w : World) (h0 : s.data.toList[0]? = some x) (hx : x.toNat < 128) :
    Calls Tryz.prog 74 #[.string s] w fun e w' => e = .returned (.tuple #[.int .i32 x.toNat, .int .i64 1]) ∧ w' = w := Any.utf8_DecodeRuneInString_ascii Tryz.lays197 s x w h0 hx
def Tryz.lays260_ren : Go.Shelf.Ren := ⟨fun | 260 => 89 | n => n, fun | 9 => 9 | 21 => 21 | 3 => 3 | 4 => 4 | 5 => 5 | 119 => 80 | 0 => 0 | 46 => 47 | 139 => 143 | 138 => 142 | n => n, fun | 3 => 6 | 4 => 7 | n => n⟩
theorem Tryz.lays260 : Go.Proofs.Lays.n260 Tryz.prog Tryz.lays260_ren := {
  mixed := by kernel_rfl
  f260 := Tryz.func89.trans (congrArg some (by kernel_rfl))
  t0 := Tryz.underlying0
  a0 := Tryz.isAgg0
  z0 := Tryz.sizeOf0
  v0 := Tryz.zeroValue0
  t3 := Tryz.underlying3
  a3 := Tryz.isAgg3
  z3 := Tryz.sizeOf3
  v3 := Tryz.zeroValue3
  t4 := Tryz.underlying4
  a4 := Tryz.isAgg4
  z4 := Tryz.sizeOf4
  v4 := Tryz.zeroValue4
  t5 := Tryz.underlying5
  a5 := Tryz.isAgg5
  z5 := Tryz.sizeOf5
  v5 := Tryz.zeroValue5
  t9 := Tryz.underlying9
  a9 := Tryz.isAgg9
  z9 := Tryz.sizeOf9
  v9 := Tryz.zeroValue9
  t21 := Tryz.underlying21
  a21 := Tryz.isAgg21
  z21 := Tryz.sizeOf21
  v21 := Tryz.zeroValue21
  t46 := Tryz.underlying47
  a46 := Tryz.isAgg47
  z46 := Tryz.sizeOf47
  v46 := Tryz.zeroValue47
  t119 := Tryz.underlying80
  a119 := Tryz.isAgg80
  z119 := Tryz.sizeOf80
  t138 := Tryz.underlying142
  a138 := Tryz.isAgg142
  z138 := Tryz.sizeOf142
  v138 := Tryz.zeroValue142
  t139 := Tryz.underlying143
  a139 := Tryz.isAgg143
  z139 := Tryz.sizeOf143
  v139 := Tryz.zeroValue143
  g3 := by kernel_rfl
  g4 := by kernel_rfl }
open Go.RowKit Go.Lib in
theorem Tryz.utf8_decodeRuneInStringSlow (s : ByteArray) (w : World) (hT : Lib.Utf8Tabs 6 7 w) :
    Calls Tryz.prog 89 #[.string s] w fun e w' => e = .returned (.tuple #[.int .i32 (Lib.decodeGo s).1, .int .i64 (Lib.decodeGo s).2]) ∧ Below w.heap.size w w' := Any.utf8_decodeRuneInStringSlow Tryz.lays260 s w hT
open Go.RowKit Go.Lib in
/-- **unicode/utf8.DecodeRuneInString AT EVERY STRING.** (LAID: no walk: one application.) -/
theorem Tryz.utf8_DecodeRuneInString (s : ByteArray) (w : World) (hT : Lib.Utf8Tabs 6 7 w) :
    Calls Tryz.prog 74 #[.string s] w fun e w' => e = .returned (.tuple #[.int .i32 (Lib.decodeGo s).1, .int .i64 (Lib.decodeGo s).2]) ∧ Below w.heap.size w w' := Any.utf8_DecodeRuneInString Tryz.lays197 s w hT
def Tryz.lays311_ren : Go.Shelf.Ren := ⟨fun | 311 => 86 | n => n, fun | 193 => 116 | 49 => 22 | 4 => 4 | 3 => 3 | 0 => 0 | 226 => 138 | 198 => 121 | 46 => 47 | n => n, fun | n => n⟩
theorem Tryz.lays311 : Go.Proofs.Lays.n311 Tryz.prog Tryz.lays311_ren := {
  mixed := by kernel_rfl
  f311 := Tryz.func86.trans (congrArg some (by kernel_rfl))
  t0 := Tryz.underlying0
  a0 := Tryz.isAgg0
  z0 := Tryz.sizeOf0
  v0 := Tryz.zeroValue0
  t3 := Tryz.underlying3
  a3 := Tryz.isAgg3
  z3 := Tryz.sizeOf3
  v3 := Tryz.zeroValue3
  t4 := Tryz.underlying4
  a4 := Tryz.isAgg4
  z4 := Tryz.sizeOf4
  v4 := Tryz.zeroValue4
  t46 := Tryz.underlying47
  a46 := Tryz.isAgg47
  z46 := Tryz.sizeOf47
  v46 := Tryz.zeroValue47
  t49 := Tryz.underlying22
  a49 := Tryz.isAgg22
  z49 := Tryz.sizeOf22
  v49 := Tryz.zeroValue22
  t193 := Tryz.underlying116
  a193 := Tryz.isAgg116
  z193 := Tryz.sizeOf116
  v193 := Tryz.zeroValue116
  t198 := Tryz.underlying121
  a198 := Tryz.isAgg121
  z198 := Tryz.sizeOf121
  v198 := Tryz.zeroValue121
  t226 := Tryz.underlying138
  a226 := Tryz.isAgg138
  z226 := Tryz.sizeOf138
  v226 := Tryz.zeroValue138 }
open Go.RowKit Go.Lib in
theorem Tryz.unicode_is16_white (R oR : Nat) (z : Nat) (w : World) (hz : z < 65536) (hz0 : 255 < z) (c6 : w.cell? ⟨R, oR + 6, none⟩ = some (.int .u16 160)) (c7 : w.cell? ⟨R, oR + 7, none⟩ = some (.int .u16 5760)) (c8 : w.cell? ⟨R, oR + 8, none⟩ = some (.int .u16 5600)) (c9 : w.cell? ⟨R, oR + 9, none⟩ = some (.int .u16 8192)) (c10 : w.cell? ⟨R, oR + 10, none⟩ = some (.int .u16 8202)) (c11 : w.cell? ⟨R, oR + 11, none⟩ = some (.int .u16 1)) (c12 : w.cell? ⟨R, oR + 12, none⟩ = some (.int .u16 8232)) (c13 : w.cell? ⟨R, oR + 13, none⟩ = some (.int .u16 8233)) (c14 : w.cell? ⟨R, oR + 14, none⟩ = some (.int .u16 1)) (c15 : w.cell? ⟨R, oR + 15, none⟩ = some (.int .u16 8239)) (c16 : w.cell? ⟨R, oR + 16, none⟩ = some (.int .u16 8287)) (c17 : w.cell? ⟨R, oR + 17, none⟩ = some (.int .u16 48)) (c18 : w.cell? ⟨R, oR + 18, none⟩ = some (.int .u16 12288)) (c19 : w.cell? ⟨R, oR + 19, none⟩ = some (.int .u16 12288)) (c20 : w.cell? ⟨R, oR + 20, none⟩ = some (.int .u16 1)) :
    Calls Tryz.prog 86 #[.slice (some ⟨R, oR + 6, none⟩) 5 5, .int .u16 z] w fun e w' => e = .returned (.bool (Lib.isSpaceR z)) ∧ Below w.heap.size w w' := Any.unicode_is16_white Tryz.lays311 R oR z w hz hz0 c6 c7 c8 c9 c10 c11 c12 c13 c14 c15 c16 c17 c18 c19 c20
def Tryz.lays261_ren : Go.Shelf.Ren := ⟨fun | 261 => 72 | 311 => 86 | 312 => 87 | n => n, fun | 141 => 102 | 21 => 21 | 4 => 4 | 0 => 0 | 196 => 119 | 193 => 116 | 3 => 3 | 51 => 64 | 198 => 121 | 49 => 22 | 194 => 117 | 201 => 124 | 226 => 138 | 46 => 47 | 227 => 139 | n => n, fun | n => n⟩
theorem Tryz.lays261 : Go.Proofs.Lays.n261 Tryz.prog Tryz.lays261_ren := {
  mixed := by kernel_rfl
  f261 := Tryz.func72.trans (congrArg some (by kernel_rfl))
  f311 := Tryz.func86.trans (congrArg some (by kernel_rfl))
  f312 := Tryz.func87.trans (congrArg some (by kernel_rfl))
  t0 := Tryz.underlying0
  a0 := Tryz.isAgg0
  z0 := Tryz.sizeOf0
  v0 := Tryz.zeroValue0
  t3 := Tryz.underlying3
  a3 := Tryz.isAgg3
  z3 := Tryz.sizeOf3
  v3 := Tryz.zeroValue3
  t4 := Tryz.underlying4
  a4 := Tryz.isAgg4
  z4 := Tryz.sizeOf4
  v4 := Tryz.zeroValue4
  t21 := Tryz.underlying21
  a21 := Tryz.isAgg21
  z21 := Tryz.sizeOf21
  v21 := Tryz.zeroValue21
  t46 := Tryz.underlying47
  a46 := Tryz.isAgg47
  z46 := Tryz.sizeOf47
  v46 := Tryz.zeroValue47
  t49 := Tryz.underlying22
  a49 := Tryz.isAgg22
  z49 := Tryz.sizeOf22
  v49 := Tryz.zeroValue22
  t51 := Tryz.underlying64
  a51 := Tryz.isAgg64
  z51 := Tryz.sizeOf64
  v51 := Tryz.zeroValue64
  t141 := Tryz.underlying102
  a141 := Tryz.isAgg102
  z141 := Tryz.sizeOf102
  v141 := Tryz.zeroValue102
  t193 := Tryz.underlying116
  a193 := Tryz.isAgg116
  z193 := Tryz.sizeOf116
  v193 := Tryz.zeroValue116
  t194 := Tryz.underlying117
  a194 := Tryz.isAgg117
  z194 := Tryz.sizeOf117
  v194 := Tryz.zeroValue117
  t196 := Tryz.underlying119
  a196 := Tryz.isAgg119
  z196 := Tryz.sizeOf119
  v196 := Tryz.zeroValue119
  t198 := Tryz.underlying121
  a198 := Tryz.isAgg121
  z198 := Tryz.sizeOf121
  v198 := Tryz.zeroValue121
  t201 := Tryz.underlying124
  a201 := Tryz.isAgg124
  z201 := Tryz.sizeOf124
  v201 := Tryz.zeroValue124
  t226 := Tryz.underlying138
  a226 := Tryz.isAgg138
  z226 := Tryz.sizeOf138
  v226 := Tryz.zeroValue138
  t227 := Tryz.underlying139
  a227 := Tryz.isAgg139
  z227 := Tryz.sizeOf139
  v227 := Tryz.zeroValue139 }
open Go.RowKit Go.Lib in
/-- unicode.isExcludingLatin(White_Space, r), r beyond U+00FF or negative. (LAID: no walk: one application.) -/
theorem Tryz.unicode_isExcludingLatin_white (T oT R oR : Nat) (r : Int) (w : World) (hlo : -2147483648 ≤ r) (hhi : r ≤ 2147483647) (hr : r < 0 ∨ 255 < r) (h2 : w.cell? ⟨T, oT, none⟩ = some (.slice (some ⟨R, oR, none⟩) 7 7)) (h3 : w.cell? ⟨T, oT + 1, none⟩ = some (.slice none 0 0)) (h4 : w.cell? ⟨T, oT + 2, none⟩ = some (.int .i64 2)) (h5 : ∀ i, i < 21 → w.cell? ⟨R, oR + i, none⟩ = some (.int .u16 (whiteT.getD i 0))) :
    Calls Tryz.prog 72 #[.pointer (some ⟨T, oT, none⟩), .int .i32 r] w fun e w' => e = .returned (.bool (Lib.isSpaceZ r)) ∧ Below w.heap.size w w' := Any.unicode_isExcludingLatin_white Tryz.lays261 T oT R oR r w hlo hhi hr h2 h3 h4 h5
open Go.RowKit Go.Lib in
/-- **unicode.IsSpace AT EVERY int32.** (LAID: no walk: one application.) -/
theorem Tryz.unicode_IsSpace_any (r : Int) (w : World) (hlo : -2147483648 ≤ r) (hhi : r ≤ 2147483647) (hW : Lib.WhiteTab 2 w) :
    Calls Tryz.prog 58 #[.int .i32 r] w fun e w' => e = .returned (.bool (Lib.isSpaceZ r)) ∧ Below w.heap.size w w' := Any.unicode_IsSpace_any Tryz.lays199 r w hlo hhi hW
def Tryz.lays271_ren : Go.Shelf.Ren := ⟨fun | 271 => 88 | 120 => 98 | 197 => 74 | 260 => 89 | n => n, fun | 9 => 9 | 21 => 21 | 3 => 3 | 4 => 4 | 5 => 5 | 105 => 104 | 119 => 80 | 0 => 0 | 46 => 47 | 139 => 143 | 138 => 142 | n => n, fun | 3 => 6 | 4 => 7 | n => n⟩
theorem Tryz.lays271 : Go.Proofs.Lays.n271 Tryz.prog Tryz.lays271_ren := {
  mixed := by kernel_rfl
  f120 := Tryz.func98.trans (congrArg some (by kernel_rfl))
  f197 := Tryz.func74.trans (congrArg some (by kernel_rfl))
  f260 := Tryz.func89.trans (congrArg some (by kernel_rfl))
  f271 := Tryz.func88.trans (congrArg some (by kernel_rfl))
  t0 := Tryz.underlying0
  a0 := Tryz.isAgg0
  z0 := Tryz.sizeOf0
  v0 := Tryz.zeroValue0
  t3 := Tryz.underlying3
  a3 := Tryz.isAgg3
  z3 := Tryz.sizeOf3
  v3 := Tryz.zeroValue3
  t4 := Tryz.underlying4
  a4 := Tryz.isAgg4
  z4 := Tryz.sizeOf4
  v4 := Tryz.zeroValue4
  t5 := Tryz.underlying5
  a5 := Tryz.isAgg5
  z5 := Tryz.sizeOf5
  v5 := Tryz.zeroValue5
  t9 := Tryz.underlying9
  a9 := Tryz.isAgg9
  z9 := Tryz.sizeOf9
  v9 := Tryz.zeroValue9
  t21 := Tryz.underlying21
  a21 := Tryz.isAgg21
  z21 := Tryz.sizeOf21
  v21 := Tryz.zeroValue21
  t46 := Tryz.underlying47
  a46 := Tryz.isAgg47
  z46 := Tryz.sizeOf47
  v46 := Tryz.zeroValue47
  t105 := Tryz.underlying104
  a105 := Tryz.isAgg104
  z105 := Tryz.sizeOf104
  v105 := Tryz.zeroValue104
  t119 := Tryz.underlying80
  a119 := Tryz.isAgg80
  z119 := Tryz.sizeOf80
  t138 := Tryz.underlying142
  a138 := Tryz.isAgg142
  z138 := Tryz.sizeOf142
  v138 := Tryz.zeroValue142
  t139 := Tryz.underlying143
  a139 := Tryz.isAgg143
  z139 := Tryz.sizeOf143
  v139 := Tryz.zeroValue143
  g3 := by kernel_rfl
  g4 := by kernel_rfl }
open Go.RowKit Go.Lib in
/-- **unicode/utf8.DecodeLastRuneInString AT EVERY STRING.** (LAID: no walk: one application.) -/
theorem Tryz.utf8_DecodeLastRuneInString (s : ByteArray) (w : World) (hs : s.size ≤ 9223372036854775807) (hT : Lib.Utf8Tabs 6 7 w) :
    Calls Tryz.prog 88 #[.string s] w fun e w' => e = .returned (.tuple #[.int .i32 (Lib.decodeLastL s.data.toList).1, .int .i64 (Lib.decodeLastL s.data.toList).2]) ∧ Below w.heap.size w w' := Any.utf8_DecodeLastRuneInString Tryz.lays271 s w hs hT
def Tryz.lays274_ren : Go.Shelf.Ren := ⟨fun | 274 => 100 | n => n, fun | 21 => 21 | 162 => 132 | 160 => 144 | 3 => 3 | 4 => 4 | 46 => 47 | 0 => 0 | 208 => 150 | 51 => 64 | 206 => 148 | n => n, fun | n => n⟩
theorem Tryz.lays274 : Go.Proofs.Lays.n274 Tryz.prog Tryz.lays274_ren := {
  mixed := by kernel_rfl
  f274 := Tryz.func100.trans (congrArg some (by kernel_rfl))
  t0 := Tryz.underlying0
  a0 := Tryz.isAgg0
  z0 := Tryz.sizeOf0
  v0 := Tryz.zeroValue0
  t3 := Tryz.underlying3
  a3 := Tryz.isAgg3
  z3 := Tryz.sizeOf3
  v3 := Tryz.zeroValue3
  t4 := Tryz.underlying4
  a4 := Tryz.isAgg4
  z4 := Tryz.sizeOf4
  v4 := Tryz.zeroValue4
  t21 := Tryz.underlying21
  a21 := Tryz.isAgg21
  z21 := Tryz.sizeOf21
  v21 := Tryz.zeroValue21
  t46 := Tryz.underlying47
  a46 := Tryz.isAgg47
  z46 := Tryz.sizeOf47
  v46 := Tryz.zeroValue47
  t51 := Tryz.underlying64
  a51 := Tryz.isAgg64
  z51 := Tryz.sizeOf64
  v51 := Tryz.zeroValue64
  t160 := Tryz.underlying144
  a160 := Tryz.isAgg144
  z160 := Tryz.sizeOf144
  v160 := Tryz.zeroValue144
  t162 := Tryz.underlying132
  a162 := Tryz.isAgg132
  z162 := Tryz.sizeOf132
  v162 := Tryz.zeroValue132
  t208 := Tryz.underlying150
  a208 := Tryz.isAgg150
  z208 := Tryz.sizeOf150
  v208 := Tryz.zeroValue150 }
open Go.RowKit Go.Lib in
theorem Tryz.unicode_lookupCaseRange (T : Array CaseRow) (R oR cap : Nat) (r : Int) (w : World) (hT : CaseTab R oR T w) (hok : CaseOk T) (hn : T.size ≤ 1000000000) :
    Calls Tryz.prog 100 #[.int .i32 r, .slice (some ⟨R, oR, none⟩) T.size cap] w fun e w' =>
      e = .returned (match lookupIdx T r (T.size + 1) 0 T.size with | some i => .pointer (some ⟨R, oR + i * 5, none⟩) | none => .pointer none) ∧ w' = w := Any.unicode_lookupCaseRange Tryz.lays274 T R oR cap r w hT hok hn
def Tryz.lays275_ren : Go.Shelf.Ren := ⟨fun | 275 => 101 | n => n, fun | 3 => 3 | 21 => 21 | 160 => 144 | 0 => 0 | 208 => 150 | 206 => 148 | 4 => 4 | 51 => 64 | n => n, fun | n => n⟩
theorem Tryz.lays275 : Go.Proofs.Lays.n275 Tryz.prog Tryz.lays275_ren := {
  mixed := by kernel_rfl
  f275 := Tryz.func101.trans (congrArg some (by kernel_rfl))
  t0 := Tryz.underlying0
  a0 := Tryz.isAgg0
  z0 := Tryz.sizeOf0
  v0 := Tryz.zeroValue0
  t3 := Tryz.underlying3
  a3 := Tryz.isAgg3
  z3 := Tryz.sizeOf3
  v3 := Tryz.zeroValue3
  t4 := Tryz.underlying4
  a4 := Tryz.isAgg4
  z4 := Tryz.sizeOf4
  v4 := Tryz.zeroValue4
  t21 := Tryz.underlying21
  a21 := Tryz.isAgg21
  z21 := Tryz.sizeOf21
  v21 := Tryz.zeroValue21
  t51 := Tryz.underlying64
  a51 := Tryz.isAgg64
  z51 := Tryz.sizeOf64
  v51 := Tryz.zeroValue64
  t160 := Tryz.underlying144
  a160 := Tryz.isAgg144
  z160 := Tryz.sizeOf144
  v160 := Tryz.zeroValue144
  t206 := Tryz.underlying148
  a206 := Tryz.isAgg148
  z206 := Tryz.sizeOf148
  v206 := Tryz.zeroValue148
  t208 := Tryz.underlying150
  a208 := Tryz.isAgg150
  z208 := Tryz.sizeOf150
  v208 := Tryz.zeroValue150 }
open Go.RowKit Go.Lib in
theorem Tryz.unicode_convertCase (c : Nat) (hc : c < 3) (r : Int) (A o : Nat) (x : CaseRow) (w : World) (hlo : (x.1 : Int) ≤ r) (hhi : r ≤ (x.2.1 : Int)) (hH : x.2.1 < 2147483647) (c0 : w.cell? ⟨A, o, none⟩ = some (.int .u32 x.1)) (cD : w.cell? ⟨A, o + 2 + c, none⟩ = some (.int .i32 (x.delta c))) :
    Calls Tryz.prog 101 #[.int .i64 c, .int .i32 r, .pointer (some ⟨A, o, none⟩)] w fun e w' => e = .returned (.int .i32 (wrap32 (convertR c r x))) ∧ ∃ q, w' = w.drewN q := Any.unicode_convertCase Tryz.lays275 c hc r A o x w hlo hhi hH c0 cD
def Tryz.lays313_ren : Go.Shelf.Ren := ⟨fun | 313 => 93 | 274 => 100 | 275 => 101 | n => n, fun | 3 => 3 | 21 => 21 | 162 => 132 | 4 => 4 | 160 => 144 | 46 => 47 | 0 => 0 | 208 => 150 | 51 => 64 | 206 => 148 | n => n, fun | n => n⟩
theorem Tryz.lays313 : Go.Proofs.Lays.n313 Tryz.prog Tryz.lays313_ren := {
  mixed := by kernel_rfl
  f274 := Tryz.func100.trans (congrArg some (by kernel_rfl))
  f275 := Tryz.func101.trans (congrArg some (by kernel_rfl))
  f313 := Tryz.func93.trans (congrArg some (by kernel_rfl))
  t0 := Tryz.underlying0
  a0 := Tryz.isAgg0
  z0 := Tryz.sizeOf0
  v0 := Tryz.zeroValue0
  t3 := Tryz.underlying3
  a3 := Tryz.isAgg3
  z3 := Tryz.sizeOf3
  v3 := Tryz.zeroValue3
  t4 := Tryz.underlying4
  a4 := Tryz.isAgg4
  z4 := Tryz.sizeOf4
  v4 := Tryz.zeroValue4
  t21 := Tryz.underlying21
  a21 := Tryz.isAgg21
  z21 := Tryz.sizeOf21
  v21 := Tryz.zeroValue21
  t46 := Tryz.underlying47
  a46 := Tryz.isAgg47
  z46 := Tryz.sizeOf47
  v46 := Tryz.zeroValue47
  t51 := Tryz.underlying64
  a51 := Tryz.isAgg64
  z51 := Tryz.sizeOf64
  v51 := Tryz.zeroValue64
  t160 := Tryz.underlying144
  a160 := Tryz.isAgg144
  z160 := Tryz.sizeOf144
  v160 := Tryz.zeroValue144
  t162 := Tryz.underlying132
  a162 := Tryz.isAgg132
  z162 := Tryz.sizeOf132
  v162 := Tryz.zeroValue132
  t206 := Tryz.underlying148
  a206 := Tryz.isAgg148
  z206 := Tryz.sizeOf148
  v206 := Tryz.zeroValue148
  t208 := Tryz.underlying150
  a208 := Tryz.isAgg150
  z208 := Tryz.sizeOf150
  v208 := Tryz.zeroValue150 }
open Go.RowKit Go.Lib in
theorem Tryz.unicode_to (c : Nat) (hc : c < 3) (r : Int) (T : Array CaseRow) (R oR cap : Nat) (w : World) (hT : CaseTab R oR T w) (hok : CaseOk2 T) (hn : T.size ≤ 1000000000) :
    Calls Tryz.prog 93 #[.int .i64 c, .int .i32 r, .slice (some ⟨R, oR, none⟩) T.size cap] w fun e w' => e = .returned (.tuple #[.int .i32 (toW T c r), .bool (lookupIdx T r (T.size + 1) 0 T.size).isSome]) ∧ ∃ q, w' = w.drewN q := Any.unicode_to Tryz.lays313 c hc r T R oR cap w hT hok hn
def Tryz.lays262_ren : Go.Shelf.Ren := ⟨fun | 262 => 80 | 313 => 93 | 274 => 100 | 275 => 101 | n => n, fun | 3 => 3 | 21 => 21 | 162 => 132 | 203 => 130 | 4 => 4 | 160 => 144 | 46 => 47 | 0 => 0 | 208 => 150 | 51 => 64 | 206 => 148 | n => n, fun | 13 => 4 | n => n⟩
theorem Tryz.lays262 : Go.Proofs.Lays.n262 Tryz.prog Tryz.lays262_ren := {
  mixed := by kernel_rfl
  f262 := Tryz.func80.trans (congrArg some (by kernel_rfl))
  f274 := Tryz.func100.trans (congrArg some (by kernel_rfl))
  f275 := Tryz.func101.trans (congrArg some (by kernel_rfl))
  f313 := Tryz.func93.trans (congrArg some (by kernel_rfl))
  t0 := Tryz.underlying0
  a0 := Tryz.isAgg0
  z0 := Tryz.sizeOf0
  v0 := Tryz.zeroValue0
  t3 := Tryz.underlying3
  a3 := Tryz.isAgg3
  z3 := Tryz.sizeOf3
  v3 := Tryz.zeroValue3
  t4 := Tryz.underlying4
  a4 := Tryz.isAgg4
  z4 := Tryz.sizeOf4
  v4 := Tryz.zeroValue4
  t21 := Tryz.underlying21
  a21 := Tryz.isAgg21
  z21 := Tryz.sizeOf21
  v21 := Tryz.zeroValue21
  t46 := Tryz.underlying47
  a46 := Tryz.isAgg47
  z46 := Tryz.sizeOf47
  v46 := Tryz.zeroValue47
  t51 := Tryz.underlying64
  a51 := Tryz.isAgg64
  z51 := Tryz.sizeOf64
  v51 := Tryz.zeroValue64
  t160 := Tryz.underlying144
  a160 := Tryz.isAgg144
  z160 := Tryz.sizeOf144
  v160 := Tryz.zeroValue144
  t162 := Tryz.underlying132
  a162 := Tryz.isAgg132
  z162 := Tryz.sizeOf132
  v162 := Tryz.zeroValue132
  t203 := Tryz.underlying130
  a203 := Tryz.isAgg130
  z203 := Tryz.sizeOf130
  v203 := Tryz.zeroValue130
  t206 := Tryz.underlying148
  a206 := Tryz.isAgg148
  z206 := Tryz.sizeOf148
  v206 := Tryz.zeroValue148
  t208 := Tryz.underlying150
  a208 := Tryz.isAgg150
  z208 := Tryz.sizeOf150
  v208 := Tryz.zeroValue150
  g13 := by kernel_rfl }
open Go.RowKit Go.Lib in
theorem Tryz.unicode_To (c : Nat) (hc : c < 3) (r : Int) (T : Array CaseRow) (w : World) (hV : CaseVar 4 T w) (hok : CaseOk2 T) (hn : T.size ≤ 1000000000) :
    Calls Tryz.prog 80 #[.int .i64 c, .int .i32 r] w fun e w' => e = .returned (.int .i32 (toW T c r)) ∧ ∃ q, w' = w.drewN q := Any.unicode_To Tryz.lays262 c hc r T w hV hok hn
open Go.RowKit Go.Lib in
theorem Tryz.unicode_ToUpper_any (r : Int) (T : Array CaseRow) (w : World) (hV : CaseVar 4 T w) (hok : CaseOk2 T) (hn : T.size ≤ 1000000000) :
    Calls Tryz.prog 66 #[.int .i32 r] w fun e w' => e = .returned (.int .i32 (Lib.toUpperW T r)) ∧ ∃ q, w' = w.drewN q := Any.unicode_ToUpper_any Tryz.lays203 r T w hV hok hn
open Go.RowKit Go.Lib in
theorem Tryz.unicode_ToUpper_laid (r : Int) (w : World) (hV : CaseVar 4 caseA w) :
    Calls Tryz.prog 66 #[.int .i32 r] w fun e w' => e = .returned (.int .i32 (toUpperU r)) ∧ ∃ q, w' = w.drewN q := Any.unicode_ToUpper_laid Tryz.lays203 r w hV
open Go.RowKit Go.Lib in
theorem Tryz.unicode_is16_any (T : Array Rg) (R oR cap : Nat) (z : Nat) (w : World) (hz : z < 65536) (hT : RgTab .u16 R oR T w) (hok : RgOk 65536 T) (hn : T.size ≤ 1000000000) :
    Calls Tryz.prog 86 #[.slice (some ⟨R, oR, none⟩) T.size cap, .int .u16 z] w fun e w' => e = .returned (.bool (is16Go T z)) ∧ ∃ q, w' = w.drewN q := Any.unicode_is16_any Tryz.lays311 T R oR cap z w hz hT hok hn
def Tryz.lays312_ren : Go.Shelf.Ren := ⟨fun | 312 => 87 | n => n, fun | 194 => 117 | 51 => 64 | 4 => 4 | 3 => 3 | 0 => 0 | 227 => 139 | 201 => 124 | 46 => 47 | n => n, fun | n => n⟩
theorem Tryz.lays312 : Go.Proofs.Lays.n312 Tryz.prog Tryz.lays312_ren := {
  mixed := by kernel_rfl
  f312 := Tryz.func87.trans (congrArg some (by kernel_rfl))
  t0 := Tryz.underlying0
  a0 := Tryz.isAgg0
  z0 := Tryz.sizeOf0
  v0 := Tryz.zeroValue0
  t3 := Tryz.underlying3
  a3 := Tryz.isAgg3
  z3 := Tryz.sizeOf3
  v3 := Tryz.zeroValue3
  t4 := Tryz.underlying4
  a4 := Tryz.isAgg4
  z4 := Tryz.sizeOf4
  v4 := Tryz.zeroValue4
  t46 := Tryz.underlying47
  a46 := Tryz.isAgg47
  z46 := Tryz.sizeOf47
  v46 := Tryz.zeroValue47
  t51 := Tryz.underlying64
  a51 := Tryz.isAgg64
  z51 := Tryz.sizeOf64
  v51 := Tryz.zeroValue64
  t194 := Tryz.underlying117
  a194 := Tryz.isAgg117
  z194 := Tryz.sizeOf117
  v194 := Tryz.zeroValue117
  t201 := Tryz.underlying124
  a201 := Tryz.isAgg124
  z201 := Tryz.sizeOf124
  v201 := Tryz.zeroValue124
  t227 := Tryz.underlying139
  a227 := Tryz.isAgg139
  z227 := Tryz.sizeOf139
  v227 := Tryz.zeroValue139 }
open Go.RowKit Go.Lib in
theorem Tryz.unicode_is32_any (T : Array Rg) (R oR cap : Nat) (z : Nat) (w : World) (hz : z < 4294967296) (hT : RgTab .u32 R oR T w) (hok : RgOk 4294967296 T) (hn : T.size ≤ 1000000000) :
    Calls Tryz.prog 87 #[.slice (some ⟨R, oR, none⟩) T.size cap, .int .u32 z] w fun e w' => e = .returned (.bool (is32Go T z)) ∧ Below w.heap.size w w' := Any.unicode_is32_any Tryz.lays312 T R oR cap z w hz hT hok hn
open Go.RowKit Go.Lib in
theorem Tryz.unicode_isExcludingLatin_any (Tb oT : Nat) (T : RTab) (r : Int) (w : World) (hlo : -2147483648 ≤ r) (hhi : r ≤ 2147483647) (hA : RTabAt Tb oT T w) (hok : RTabOk T) :
    Calls Tryz.prog 72 #[.pointer (some ⟨Tb, oT, none⟩), .int .i32 r] w fun e w' => e = .returned (.bool (exclGo T r)) ∧ Below w.heap.size w w' := Any.unicode_isExcludingLatin_any Tryz.lays261 Tb oT T r w hlo hhi hA hok
def Tryz.laysSlE29_f27_ren : Go.Shelf.Ren := ⟨fun | 29 => 27 | n => n, fun | 22 => 28 | 23 => 9 | 3 => 3 | 0 => 0 | 4 => 4 | n => n, fun | n => n⟩
theorem Tryz.laysSlE29_f27 : Go.Proofs.SlLaysE.n29 Tryz.prog Tryz.laysSlE29_f27_ren := {
  mixed := by kernel_rfl
  f29 := ⟨Tryz.f27.name, by decide, Tryz.func27.trans (congrArg some (by kernel_rfl))⟩
  t0 := Tryz.underlying0
  a0 := Tryz.isAgg0
  z0 := Tryz.sizeOf0
  v0 := Tryz.zeroValue0
  t3 := Tryz.underlying3
  a3 := Tryz.isAgg3
  z3 := Tryz.sizeOf3
  v3 := Tryz.zeroValue3
  t4 := Tryz.underlying4
  a4 := Tryz.isAgg4
  z4 := Tryz.sizeOf4
  v4 := Tryz.zeroValue4
  t22 := Tryz.underlying28
  a22 := Tryz.isAgg28
  z22 := Tryz.sizeOf28
  v22 := Tryz.zeroValue28
  a23 := Tryz.isAgg9
  z23 := Tryz.sizeOf9 }
open Go.Lib in
/-- slices.Index: "Index returns the index of the first occurrence of v in s, or -1 if not present.": IT RETURNS 'Lib.idxBy eq (the elements) v'; the world is as it was. 'zs': what the cells behind the slice's address hold (its spare capacity too, if you have it); 'zs.take n': its elements. (LAID AT THE INSTANCE 'slices.Index[[]string,string]': no walk: one application.) -/
theorem Tryz.slices_Index {α : Type} [Inhabited α] (enc : α → Value) (eq : α → α → Bool) (heq : EqlAt Tryz.prog 9 enc eq) (b off n c : Nat) (zs : List α) (x : α) (w : World) (hz : n ≤ zs.length) (hbig : n ≤ 9223372036854775807) (hc : ∀ j, j < zs.length → w.cell? ⟨b, off + j, none⟩ = some (enc zs[j]!)) :
    Calls Tryz.prog 27 #[.slice (some ⟨b, off, none⟩) n c, enc x] w fun e w' => e = .returned (.int .i64 (Lib.idxBy eq (zs.take n) x)) ∧ w' = w := AnyE.slices_Index Tryz.laysSlE29_f27 enc eq heq b off n c zs x w hz hbig hc
open Go.Lib in
/-- The same at a slice of length 0, a nil one too: no cell is known, none is asked for; nothing is asked of '=='. (LAID AT THE INSTANCE 'slices.Index[[]string,string]': no walk: one application.) -/
theorem Tryz.slices_Index_empty {α : Type} [Inhabited α] (a : Option Addr) (c : Nat) (xv : Value) (w : World) :
    Calls Tryz.prog 27 #[.slice a 0 c, xv] w fun e w' => e = .returned (.int .i64 (-1)) ∧ w' = w := AnyE.slices_Index_empty Tryz.laysSlE29_f27 a c xv w
def Tryz.laysSlE31_f17_ren : Go.Shelf.Ren := ⟨fun | 31 => 17 | 29 => 27 | n => n, fun | 22 => 28 | 23 => 9 | 4 => 4 | 3 => 3 | 0 => 0 | n => n, fun | n => n⟩
theorem Tryz.laysSlE31_f17 : Go.Proofs.SlLaysE.n31 Tryz.prog Tryz.laysSlE31_f17_ren := {
  mixed := by kernel_rfl
  f29 := ⟨Tryz.f27.name, by decide, Tryz.func27.trans (congrArg some (by kernel_rfl))⟩
  f31 := ⟨Tryz.f17.name, by decide, Tryz.func17.trans (congrArg some (by kernel_rfl))⟩
  t0 := Tryz.underlying0
  a0 := Tryz.isAgg0
  z0 := Tryz.sizeOf0
  v0 := Tryz.zeroValue0
  t3 := Tryz.underlying3
  a3 := Tryz.isAgg3
  z3 := Tryz.sizeOf3
  v3 := Tryz.zeroValue3
  t4 := Tryz.underlying4
  a4 := Tryz.isAgg4
  z4 := Tryz.sizeOf4
  v4 := Tryz.zeroValue4
  t22 := Tryz.underlying28
  a22 := Tryz.isAgg28
  z22 := Tryz.sizeOf28
  v22 := Tryz.zeroValue28
  a23 := Tryz.isAgg9
  z23 := Tryz.sizeOf9 }
open Go.Lib in
/-- slices.Contains: "Contains reports whether v is present in s.": IT RETURNS 'elements.any (eq v ·)'; the world is as it was. ITS CALLEE slices.Index IS MET BY ITS OWN CONTRACT: no loop is walked here. (LAID AT THE INSTANCE 'slices.Contains[[]string,string]': no walk: one application.) -/
theorem Tryz.slices_Contains {α : Type} [Inhabited α] (enc : α → Value) (eq : α → α → Bool) (heq : EqlAt Tryz.prog 9 enc eq) (b off n c : Nat) (zs : List α) (x : α) (w : World) (hz : n ≤ zs.length) (hbig : n ≤ 9223372036854775807) (hc : ∀ j, j < zs.length → w.cell? ⟨b, off + j, none⟩ = some (enc zs[j]!)) :
    Calls Tryz.prog 17 #[.slice (some ⟨b, off, none⟩) n c, enc x] w fun e w' => e = .returned (.bool ((zs.take n).any fun y => eq x y)) ∧ w' = w := AnyE.slices_Contains Tryz.laysSlE31_f17 enc eq heq b off n c zs x w hz hbig hc
open Go.Lib in
/-- The same at a slice of length 0, a nil one too. (LAID AT THE INSTANCE 'slices.Contains[[]string,string]': no walk: one application.) -/
theorem Tryz.slices_Contains_empty {α : Type} [Inhabited α] (a : Option Addr) (c : Nat) (xv : Value) (w : World) :
    Calls Tryz.prog 17 #[.slice a 0 c, xv] w fun e w' => e = .returned (.bool false) ∧ w' = w := AnyE.slices_Contains_empty Tryz.laysSlE31_f17 a c xv w
def Tryz.laysSlE33_f15_ren : Go.Shelf.Ren := ⟨fun | 33 => 15 | n => n, fun | 22 => 28 | 23 => 9 | 4 => 4 | 3 => 3 | 0 => 0 | n => n, fun | n => n⟩
theorem Tryz.laysSlE33_f15 : Go.Proofs.SlLaysE.n33 Tryz.prog Tryz.laysSlE33_f15_ren := {
  mixed := by kernel_rfl
  f33 := ⟨Tryz.f15.name, by decide, Tryz.func15.trans (congrArg some (by kernel_rfl))⟩
  t0 := Tryz.underlying0
  a0 := Tryz.isAgg0
  z0 := Tryz.sizeOf0
  v0 := Tryz.zeroValue0
  t3 := Tryz.underlying3
  a3 := Tryz.isAgg3
  z3 := Tryz.sizeOf3
  v3 := Tryz.zeroValue3
  t4 := Tryz.underlying4
  a4 := Tryz.isAgg4
  z4 := Tryz.sizeOf4
  v4 := Tryz.zeroValue4
  t22 := Tryz.underlying28
  a22 := Tryz.isAgg28
  z22 := Tryz.sizeOf28
  v22 := Tryz.zeroValue28
  a23 := Tryz.isAgg9
  z23 := Tryz.sizeOf9 }
open Go.RowKit Go.Lib in
/-- slices.Equal: "Equal reports whether two slices are equal: the same length and all elements equal. .. Empty and nil slices are considered equal. Floating point NaNs are not considered equal.": IT RETURNS 'Lib.allEq eq (the one's elements) (the other's)'; the world is as it was but for the count of draws. (LAID AT THE INSTANCE 'slices.Equal[[]string,string]': no walk: one application.) -/
theorem Tryz.slices_Equal {α : Type} [Inhabited α] (enc : α → Value) (eq : α → α → Bool) (hne : NeqAt Tryz.prog 9 enc eq) (b1 o1 n c b2 o2 m d : Nat) (xs ys : List α) (w : World) (hx : n ≤ xs.length) (hy : m ≤ ys.length) (hbig : n ≤ 9223372036854775807) (hbig2 : m ≤ 9223372036854775807) (hc1 : ∀ j, j < xs.length → w.cell? ⟨b1, o1 + j, none⟩ = some (enc xs[j]!)) (hc2 : ∀ j, j < ys.length → w.cell? ⟨b2, o2 + j, none⟩ = some (enc ys[j]!)) :
    Calls Tryz.prog 15 #[.slice (some ⟨b1, o1, none⟩) n c, .slice (some ⟨b2, o2, none⟩) m d] w fun e w' => e = .returned (.bool (Lib.allEq eq (xs.take n) (ys.take m))) ∧ ∃ q, w' = w.drewN q := AnyE.slices_Equal Tryz.laysSlE33_f15 enc eq hne b1 o1 n c b2 o2 m d xs ys w hx hy hbig hbig2 hc1 hc2
def Tryz.laysSlM6_f11_ren : Go.Shelf.Ren := ⟨fun | 6 => 11 | 8 => 22 | 9 => 21 | 19 => 38 | 20 => 39 | 21 => 29 | 22 => 30 | 23 => 31 | 24 => 32 | 25 => 33 | 26 => 34 | 27 => 35 | 28 => 36 | 29 => 37 | 36 => 49 | 31 => 50 | 32 => 51 | 37 => 52 | 38 => 53 | 39 => 54 | 41 => 69 | n => n, fun | 27 => 28 | 29 => 9 | 3 => 3 | 32 => 47 | 26 => 28 | 0 => 0 | 44 => 64 | 46 => 66 | 4 => 4 | 36 => 56 | 35 => 55 | 41 => 61 | 5 => 5 | 9 => 9 | 53 => 69 | 57 => 73 | 63 => 96 | 64 => 97 | n => n, fun | n => n⟩
theorem Tryz.laysSlM6_f11 : Go.Proofs.SlLaysM.n6 Tryz.prog Tryz.laysSlM6_f11_ren := {
  mixed := by kernel_rfl
  f6 := ⟨Tryz.f11.name, by decide, Tryz.func11.trans (congrArg some (by kernel_rfl))⟩
  f8 := Tryz.func22.trans (congrArg some (by kernel_rfl))
  f9 := ⟨Tryz.f21.name, by decide, Tryz.func21.trans (congrArg some (by kernel_rfl))⟩
  f19 := Tryz.func38.trans (congrArg some (by kernel_rfl))
  f20 := Tryz.func39.trans (congrArg some (by kernel_rfl))
  f21 := ⟨Tryz.f29.name, by decide, Tryz.func29.trans (congrArg some (by kernel_rfl))⟩
  f22 := ⟨Tryz.f30.name, by decide, Tryz.func30.trans (congrArg some (by kernel_rfl))⟩
  f23 := ⟨Tryz.f31.name, by decide, Tryz.func31.trans (congrArg some (by kernel_rfl))⟩
  f24 := ⟨Tryz.f32.name, by decide, Tryz.func32.trans (congrArg some (by kernel_rfl))⟩
  f25 := ⟨Tryz.f33.name, by decide, Tryz.func33.trans (congrArg some (by kernel_rfl))⟩
  f26 := ⟨Tryz.f34.name, by decide, Tryz.func34.trans (congrArg some (by kernel_rfl))⟩
  f27 := ⟨Tryz.f35.name, by decide, Tryz.func35.trans (congrArg some (by kernel_rfl))⟩
  f28 := ⟨Tryz.f36.name, by decide, Tryz.func36.trans (congrArg some (by kernel_rfl))⟩
  f29 := ⟨Tryz.f37.name, by decide, Tryz.func37.trans (congrArg some (by kernel_rfl))⟩
  f31 := Tryz.func50.trans (congrArg some (by kernel_rfl))
  f32 := Tryz.func51.trans (congrArg some (by kernel_rfl))
  f36 := ⟨Tryz.f49.name, by decide, Tryz.func49.trans (congrArg some (by kernel_rfl))⟩
  f37 := ⟨Tryz.f52.name, by decide, Tryz.func52.trans (congrArg some (by kernel_rfl))⟩
  f38 := ⟨Tryz.f53.name, by decide, Tryz.func53.trans (congrArg some (by kernel_rfl))⟩
  f39 := ⟨Tryz.f54.name, by decide, Tryz.func54.trans (congrArg some (by kernel_rfl))⟩
  f41 := ⟨Tryz.f69.name, by decide, Tryz.func69.trans (congrArg some (by kernel_rfl))⟩
  t0 := Tryz.underlying0
  a0 := Tryz.isAgg0
  z0 := Tryz.sizeOf0
  v0 := Tryz.zeroValue0
  t3 := Tryz.underlying3
  a3 := Tryz.isAgg3
  z3 := Tryz.sizeOf3
  v3 := Tryz.zeroValue3
  t4 := Tryz.underlying4
  a4 := Tryz.isAgg4
  z4 := Tryz.sizeOf4
  v4 := Tryz.zeroValue4
  t5 := Tryz.underlying5
  a5 := Tryz.isAgg5
  z5 := Tryz.sizeOf5
  v5 := Tryz.zeroValue5
  t9 := Tryz.underlying9
  a9 := Tryz.isAgg9
  z9 := Tryz.sizeOf9
  v9 := Tryz.zeroValue9
  t26 := Tryz.underlying28
  a26 := Tryz.isAgg28
  z26 := Tryz.sizeOf28
  v26 := Tryz.zeroValue28
  t27 := Tryz.underlying28
  a27 := Tryz.isAgg28
  z27 := Tryz.sizeOf28
  v27 := Tryz.zeroValue28
  t29 := Tryz.underlying9
  a29 := Tryz.isAgg9
  z29 := Tryz.sizeOf9
  v29 := Tryz.zeroValue9
  t32 := Tryz.underlying47
  a32 := Tryz.isAgg47
  z32 := Tryz.sizeOf47
  v32 := Tryz.zeroValue47
  t35 := Tryz.underlying55
  a35 := Tryz.isAgg55
  z35 := Tryz.sizeOf55
  v35 := Tryz.zeroValue55
  t36 := Tryz.underlying56
  a36 := Tryz.isAgg56
  z36 := Tryz.sizeOf56
  v36 := Tryz.zeroValue56
  t41 := Tryz.underlying61
  a41 := Tryz.isAgg61
  z41 := Tryz.sizeOf61
  v41 := Tryz.zeroValue61
  t44 := Tryz.underlying64
  a44 := Tryz.isAgg64
  z44 := Tryz.sizeOf64
  v44 := Tryz.zeroValue64
  t46 := Tryz.underlying66
  a46 := Tryz.isAgg66
  z46 := Tryz.sizeOf66
  v46 := Tryz.zeroValue66
  t53 := Tryz.underlying69
  a53 := Tryz.isAgg69
  z53 := Tryz.sizeOf69
  v53 := Tryz.zeroValue69
  t57 := Tryz.underlying73
  a57 := Tryz.isAgg73
  z57 := Tryz.sizeOf73
  v57 := Tryz.zeroValue73
  t63 := Tryz.underlying96
  a63 := Tryz.isAgg96
  z63 := Tryz.sizeOf96
  v63 := Tryz.zeroValue96
  t64 := Tryz.underlying97
  a64 := Tryz.isAgg97
  z64 := Tryz.sizeOf97
  v64 := Tryz.zeroValue97 }
open Go.Sort Go.RowKit in
theorem Tryz.slices_Sort_string (blk off cap : Nat) (ss : List (List UInt8)) (w : World) (hH : Holds encStr w blk off ss.toArray) (hblk : blk < w.heap.size) (hsz : ss.length < 4611686018427387904) :
    Calls Tryz.prog 11 #[.slice (some ⟨blk, off, none⟩) ss.length cap] w fun e w' =>
      e = .returned (.tuple #[]) ∧ ∃ n os, w' = grow (putRow encStr (Sort.ahead w n) blk off (ss.mergeSort fun x y => decide (x ≤ y)).toArray) os := AnyM.slices_Sort_string Tryz.laysSlM6_f11 blk off cap ss w hH hblk hsz
open Go.RowKit Go.Sort in
/-- .. and plain. (LAID AT THE INSTANCE 'slices.Sort[[]string,string]': no walk: one application.) -/
theorem Tryz.slices_Sort_string_none (p : Option Addr) (cap : Nat) (w : World) :
    Calls Tryz.prog 11 #[.slice p 0 cap] w fun e w' => e = .returned (.tuple #[]) ∧ w' = w := AnyM.slices_Sort_string_none Tryz.laysSlM6_f11 p cap w
end Go.Proofs
