/-
  DERIVED: THE SHELF's CONTRACTS AT THIS DUMP, IN PLAIN WORDS (tools/lay-plain.mjs out of 'TryzShelf.lean', which tools/lay-shelf.mjs wrote): THE SAME DECLARATIONS UNDER THE SAME NAMES: 'import', 'namespace', 'open', 'def', 'theorem' AND NOTHING ELSE: no command of the shelf's: FOR A HAND-IN. Each laying: the table of numbers ('.._ren') and one theorem, a field a fact of the dump's own or the kernel's comparison; each contract: ONE APPLICATION.
-/
import Derived.Shelf.Strings.Builder1
import Derived.Shelf.Strings.Builder2
import Derived.Shelf.Strings.OnBuilder
import Derived.Shelf.Small.Utf8
import Derived.Shelf.Small.Bits
import Derived.Shelf.Strconv.Itoa0
import Derived.Shelf.Sort.Plain
import Derived.Shelf.Unicode.Latin
import Derived.Shelf.Unicode.Decode
import Derived.Shelf.Bits.Mul64
import Derived.Shelf.Unicode.DecodeSlow
import Derived.Shelf.Unicode.DecodeAny
import Derived.Shelf.Unicode.CaseLookup
import Derived.Shelf.Unicode.CaseConvert
import Derived.Shelf.Unicode.CaseTo
import Derived.Shelf.Unicode.CaseLaid
import Derived.Ground.Names2Prog
import Derived.Shelf.Slices.SearchI
import Derived.Test.YtcehboopgjpfcaaGreatDoorProg
namespace Go.Proofs
open Go.Shelf
def Tryz.lays169_ren : Go.Shelf.Ren := ⟨fun | 169 => 83 | n => n, fun | 70 => 109 | 9 => 9 | 0 => 0 | 72 => 111 | 37 => 32 | 127 => 130 | 3 => 3 | 5 => 5 | n => n, fun | n => n⟩
theorem Tryz.lays169 : Go.Proofs.Lays.n169 Tryz.prog Tryz.lays169_ren := {
  mixed := by kernel_rfl
  f169 := Tryz.func83.trans (congrArg some (by kernel_rfl))
  t0 := Tryz.underlying0
  a0 := Tryz.isAgg0
  z0 := Tryz.sizeOf0
  v0 := Tryz.zeroValue0
  t3 := Tryz.underlying3
  a3 := Tryz.isAgg3
  z3 := Tryz.sizeOf3
  v3 := Tryz.zeroValue3
  t9 := Tryz.underlying9
  a9 := Tryz.isAgg9
  z9 := Tryz.sizeOf9
  v9 := Tryz.zeroValue9
  t37 := Tryz.underlying32
  a37 := Tryz.isAgg32
  z37 := Tryz.sizeOf32
  v37 := Tryz.zeroValue32
  t70 := Tryz.underlying109
  a70 := Tryz.isAgg109
  z70 := Tryz.sizeOf109
  v70 := Tryz.zeroValue109
  t72 := Tryz.underlying111
  a72 := Tryz.isAgg111
  z72 := Tryz.sizeOf111
  v72 := Tryz.zeroValue111
  t127 := Tryz.underlying130
  a127 := Tryz.isAgg130
  z127 := Tryz.sizeOf130
  v127 := Tryz.zeroValue130 }
theorem Tryz.Builder_Extra_169 : Builder.Extra Tryz.prog Tryz.lays169_ren := {
  sizeBuilder := by kernel_rfl
  liesBuilder := by kernel_rfl
  t5 := Tryz.underlying5
  a5 := Tryz.isAgg5
  z5 := Tryz.sizeOf5
  v5 := Tryz.zeroValue5
  infoByte := by kernel_rfl
  cellsByte := by kernel_rfl
  sizeByte := by kernel_rfl
  neB5 := by decide }
open Go.RowKit in
/-- (*strings.Builder).String: "String returns the accumulated string.": OF A BUILDER THAT HOLDS AT LEAST ONE BYTE. ✋ THE MODEL FREEZES THOSE BYTES IN THE BUFFER (unsafe.String): a later write INTO them ends the model's run without an answer; a later append BEHIND them goes on. The statement's order of evaluation is drawn: one draw. (LAID: no walk: one application.) -/
theorem Tryz.Builder_String (B b : Nat) (l : List UInt8) (w : World) (h : Lib.IsBuilder 111 5 B b (Lib.byteCells l) w) (h0 : l ≠ []) :
    Calls Tryz.prog 83 #[.pointer (some ⟨b, 0, none⟩)] w fun e w' => e = .returned (.string ⟨l.toArray⟩) ∧ Below B w w' := Any.Builder_String Tryz.lays169 Tryz.Builder_Extra_169 B b l w h h0
open Go.RowKit in
/-- (*strings.Builder).String OF A BUILDER THAT HOLDS NO BYTE: the empty string. (Its buffer is nil, or a row of which it has taken nothing yet; where that row has NO capacity the model lays one new block for unsafe.SliceData's 'some address'.) One draw. (LAID: no walk: one application.) -/
theorem Tryz.Builder_String_empty (B b : Nat) (w : World) (h : Lib.IsBuilder 111 5 B b [] w) (hBw : B ≤ w.heap.size) :
    Calls Tryz.prog 83 #[.pointer (some ⟨b, 0, none⟩)] w fun e w' => e = .returned (.string ⟨#[]⟩) ∧ Below B w w' := Any.Builder_String_empty Tryz.lays169 Tryz.Builder_Extra_169 B b w h hBw
open Go.RowKit in
/-- (*strings.Builder).String: "String returns the accumulated string.": WHATEVER THE BUILDER HOLDS. (LAID: no walk: one application.) -/
theorem Tryz.Builder_String_any (B b : Nat) (l : List UInt8) (w : World) (h : Lib.IsBuilder 111 5 B b (Lib.byteCells l) w) (hBw : B ≤ w.heap.size) :
    Calls Tryz.prog 83 #[.pointer (some ⟨b, 0, none⟩)] w fun e w' => e = .returned (.string ⟨l.toArray⟩) ∧ Below B w w' := Any.Builder_String_any Tryz.lays169 Tryz.Builder_Extra_169 B b l w h hBw
def Tryz.lays241_ren : Go.Shelf.Ren := ⟨fun | 241 => 95 | 277 => 110 | n => n, fun | 70 => 109 | 3 => 3 | 0 => 0 | 72 => 111 | 37 => 32 | 5 => 5 | n => n, fun | n => n⟩
theorem Tryz.lays241 : Go.Proofs.Lays.n241 Tryz.prog Tryz.lays241_ren := {
  mixed := by kernel_rfl
  f241 := Tryz.func95.trans (congrArg some (by kernel_rfl))
  f277 := Tryz.func110.trans (congrArg some (by kernel_rfl))
  t0 := Tryz.underlying0
  a0 := Tryz.isAgg0
  z0 := Tryz.sizeOf0
  v0 := Tryz.zeroValue0
  t3 := Tryz.underlying3
  a3 := Tryz.isAgg3
  z3 := Tryz.sizeOf3
  v3 := Tryz.zeroValue3
  t37 := Tryz.underlying32
  a37 := Tryz.isAgg32
  z37 := Tryz.sizeOf32
  v37 := Tryz.zeroValue32
  t70 := Tryz.underlying109
  a70 := Tryz.isAgg109
  z70 := Tryz.sizeOf109
  v70 := Tryz.zeroValue109
  t72 := Tryz.underlying111
  a72 := Tryz.isAgg111
  z72 := Tryz.sizeOf111
  v72 := Tryz.zeroValue111 }
theorem Tryz.Builder_Extra_241 : Builder.Extra Tryz.prog Tryz.lays241_ren := {
  sizeBuilder := by kernel_rfl
  liesBuilder := by kernel_rfl
  t5 := Tryz.underlying5
  a5 := Tryz.isAgg5
  z5 := Tryz.sizeOf5
  v5 := Tryz.zeroValue5
  infoByte := by kernel_rfl
  cellsByte := by kernel_rfl
  sizeByte := by kernel_rfl
  neB5 := by decide }
open Go.RowKit in
/-- (*strings.Builder).grow (no doc but "grow copies the buffer to a new, larger buffer so that there are at least n bytes of capacity beyond len(b.buf)."): AT A BUILDER WITHOUT A BUFFER: a new row of whatever bytes for its buffer, none of them its own yet. Three draws. (LAID: no walk: one application.) -/
theorem Tryz.Builder_grow_fresh (B b n : Nat) (w : World) (hB : B ≤ b) (hbk : w.heap[b]? = some (.cells #[.pointer (some ⟨b, 0, none⟩), .slice none 0 0] 111 (0, 0))) (hBw : B ≤ w.heap.size) (hn : n ≤ 281474976710656) :
    Calls Tryz.prog 95 #[.pointer (some ⟨b, 0, none⟩), .int .i64 n] w fun e w' => e = .returned (.tuple #[]) ∧ (Lib.BuilderAt 111 5 B b (.pointer (some ⟨b, 0, none⟩)) [] w' ∧ Below B w w') := Any.Builder_grow_fresh Tryz.lays241 Tryz.Builder_Extra_241 B b n w hB hbk hBw hn
def Tryz.lays165_ren : Go.Shelf.Ren := ⟨fun | 165 => 80 | 240 => 94 | 241 => 95 | 276 => 109 | 277 => 110 | n => n, fun | 70 => 109 | 3 => 3 | 0 => 0 | 4 => 4 | 9 => 9 | 20 => 20 | 72 => 111 | 37 => 32 | 164 => 143 | 5 => 5 | n => n, fun | n => n⟩
theorem Tryz.lays165 : Go.Proofs.Lays.n165 Tryz.prog Tryz.lays165_ren := {
  mixed := by kernel_rfl
  f165 := Tryz.func80.trans (congrArg some (by kernel_rfl))
  f240 := Tryz.func94.trans (congrArg some (by kernel_rfl))
  f241 := Tryz.func95.trans (congrArg some (by kernel_rfl))
  f276 := Tryz.func109.trans (congrArg some (by kernel_rfl))
  f277 := Tryz.func110.trans (congrArg some (by kernel_rfl))
  t0 := Tryz.underlying0
  a0 := Tryz.isAgg0
  z0 := Tryz.sizeOf0
  v0 := Tryz.zeroValue0
  t3 := Tryz.underlying3
  a3 := Tryz.isAgg3
  z3 := Tryz.sizeOf3
  v3 := Tryz.zeroValue3
  t4 := Tryz.underlying4
  a4 := Tryz.isAgg4
  z4 := Tryz.sizeOf4
  v4 := Tryz.zeroValue4
  t9 := Tryz.underlying9
  a9 := Tryz.isAgg9
  z9 := Tryz.sizeOf9
  v9 := Tryz.zeroValue9
  t20 := Tryz.underlying20
  a20 := Tryz.isAgg20
  z20 := Tryz.sizeOf20
  v20 := Tryz.zeroValue20
  t37 := Tryz.underlying32
  a37 := Tryz.isAgg32
  z37 := Tryz.sizeOf32
  v37 := Tryz.zeroValue32
  t70 := Tryz.underlying109
  a70 := Tryz.isAgg109
  z70 := Tryz.sizeOf109
  v70 := Tryz.zeroValue109
  t72 := Tryz.underlying111
  a72 := Tryz.isAgg111
  z72 := Tryz.sizeOf111
  v72 := Tryz.zeroValue111
  t164 := Tryz.underlying143
  a164 := Tryz.isAgg143
  z164 := Tryz.sizeOf143
  v164 := Tryz.zeroValue143 }
theorem Tryz.Builder_Extra_165 : Builder.Extra Tryz.prog Tryz.lays165_ren := {
  sizeBuilder := by kernel_rfl
  liesBuilder := by kernel_rfl
  t5 := Tryz.underlying5
  a5 := Tryz.isAgg5
  z5 := Tryz.sizeOf5
  v5 := Tryz.zeroValue5
  infoByte := by kernel_rfl
  cellsByte := by kernel_rfl
  sizeByte := by kernel_rfl
  neB5 := by decide }
open Go.RowKit in
/-- (*strings.Builder).Grow AT A BUILDER THAT HAS NOT BEEN WRITTEN ('var b strings.Builder; b.Grow(n)'): "Grow grows b's capacity, if necessary, to guarantee space for another n bytes.": it holds no byte behind it as before it. (LAID: no walk: one application.) -/
theorem Tryz.Builder_Grow_fresh (B b n : Nat) (w : World) (hB : B ≤ b) (hbk : w.heap[b]? = some (.cells #[.pointer none, .slice none 0 0] 111 (0, 0))) (hBw : B ≤ w.heap.size) (hn : n ≤ 281474976710656) :
    Calls Tryz.prog 80 #[.pointer (some ⟨b, 0, none⟩), .int .i64 n] w fun e w' => e = .returned (.tuple #[]) ∧ (Lib.BuilderAt 111 5 B b (.pointer (some ⟨b, 0, none⟩)) [] w' ∧ Below B w w') := Any.Builder_Grow_fresh Tryz.lays165 Tryz.Builder_Extra_165 B b n w hB hbk hBw hn
def Tryz.lays159_ren : Go.Shelf.Ren := ⟨fun | 159 => 69 | 165 => 80 | 166 => 81 | 167 => 82 | 169 => 83 | 230 => 84 | 204 => 85 | 240 => 94 | 241 => 95 | 197 => 91 | 118 => 96 | 168 => 97 | 270 => 98 | 262 => 99 | 276 => 109 | 277 => 110 | 260 => 106 | 242 => 111 | 313 => 112 | 278 => 136 | 274 => 137 | 275 => 138 | n => n, fun | 9 => 9 | 4 => 4 | 3 => 3 | 5 => 5 | 72 => 111 | 0 => 0 | 76 => 72 | 75 => 71 | 107 => 115 | 70 => 109 | 20 => 20 | 37 => 32 | 127 => 130 | 21 => 21 | 105 => 128 | 164 => 143 | 162 => 149 | 203 => 147 | 119 => 171 | 46 => 142 | 139 => 174 | 138 => 173 | 51 => 183 | 160 => 186 | 208 => 215 | 206 => 213 | 80 => 100 | n => n, fun | 13 => 2 | 3 => 4 | 4 => 5 | n => n⟩
theorem Tryz.lays159 : Go.Proofs.Lays.n159 Tryz.prog Tryz.lays159_ren := {
  mixed := by kernel_rfl
  f118 := Tryz.func96.trans (congrArg some (by kernel_rfl))
  f159 := Tryz.func69.trans (congrArg some (by kernel_rfl))
  f165 := Tryz.func80.trans (congrArg some (by kernel_rfl))
  f166 := Tryz.func81.trans (congrArg some (by kernel_rfl))
  f167 := Tryz.func82.trans (congrArg some (by kernel_rfl))
  f168 := Tryz.func97.trans (congrArg some (by kernel_rfl))
  f169 := Tryz.func83.trans (congrArg some (by kernel_rfl))
  f197 := Tryz.func91.trans (congrArg some (by kernel_rfl))
  f204 := Tryz.func85.trans (congrArg some (by kernel_rfl))
  f230 := Tryz.func84.trans (congrArg some (by kernel_rfl))
  f240 := Tryz.func94.trans (congrArg some (by kernel_rfl))
  f241 := Tryz.func95.trans (congrArg some (by kernel_rfl))
  f242 := Tryz.func111.trans (congrArg some (by kernel_rfl))
  f260 := Tryz.func106.trans (congrArg some (by kernel_rfl))
  f262 := Tryz.func99.trans (congrArg some (by kernel_rfl))
  f270 := Tryz.func98.trans (congrArg some (by kernel_rfl))
  f274 := Tryz.func137.trans (congrArg some (by kernel_rfl))
  f275 := Tryz.func138.trans (congrArg some (by kernel_rfl))
  f276 := Tryz.func109.trans (congrArg some (by kernel_rfl))
  f277 := Tryz.func110.trans (congrArg some (by kernel_rfl))
  f278 := Tryz.func136.trans (congrArg some (by kernel_rfl))
  f313 := Tryz.func112.trans (congrArg some (by kernel_rfl))
  t0 := Tryz.underlying0
  a0 := Tryz.isAgg0
  z0 := Tryz.sizeOf0
  v0 := Tryz.zeroValue0
  t3 := Tryz.underlying3
  a3 := Tryz.isAgg3
  z3 := Tryz.sizeOf3
  v3 := Tryz.zeroValue3
  t4 := Tryz.underlying4
  a4 := Tryz.isAgg4
  z4 := Tryz.sizeOf4
  v4 := Tryz.zeroValue4
  t5 := Tryz.underlying5
  a5 := Tryz.isAgg5
  z5 := Tryz.sizeOf5
  v5 := Tryz.zeroValue5
  t9 := Tryz.underlying9
  a9 := Tryz.isAgg9
  z9 := Tryz.sizeOf9
  v9 := Tryz.zeroValue9
  t20 := Tryz.underlying20
  a20 := Tryz.isAgg20
  z20 := Tryz.sizeOf20
  v20 := Tryz.zeroValue20
  t21 := Tryz.underlying21
  a21 := Tryz.isAgg21
  z21 := Tryz.sizeOf21
  v21 := Tryz.zeroValue21
  t37 := Tryz.underlying32
  a37 := Tryz.isAgg32
  z37 := Tryz.sizeOf32
  v37 := Tryz.zeroValue32
  t46 := Tryz.underlying142
  a46 := Tryz.isAgg142
  z46 := Tryz.sizeOf142
  v46 := Tryz.zeroValue142
  t51 := Tryz.underlying183
  a51 := Tryz.isAgg183
  z51 := Tryz.sizeOf183
  v51 := Tryz.zeroValue183
  t70 := Tryz.underlying109
  a70 := Tryz.isAgg109
  z70 := Tryz.sizeOf109
  v70 := Tryz.zeroValue109
  t72 := Tryz.underlying111
  a72 := Tryz.isAgg111
  z72 := Tryz.sizeOf111
  v72 := Tryz.zeroValue111
  t75 := Tryz.underlying71
  a75 := Tryz.isAgg71
  z75 := Tryz.sizeOf71
  v75 := Tryz.zeroValue71
  t76 := Tryz.underlying72
  a76 := Tryz.isAgg72
  z76 := Tryz.sizeOf72
  v76 := Tryz.zeroValue72
  t105 := Tryz.underlying128
  a105 := Tryz.isAgg128
  z105 := Tryz.sizeOf128
  v105 := Tryz.zeroValue128
  t107 := Tryz.underlying115
  a107 := Tryz.isAgg115
  z107 := Tryz.sizeOf115
  v107 := Tryz.zeroValue115
  t119 := Tryz.underlying171
  a119 := Tryz.isAgg171
  z119 := Tryz.sizeOf171
  t127 := Tryz.underlying130
  a127 := Tryz.isAgg130
  z127 := Tryz.sizeOf130
  v127 := Tryz.zeroValue130
  t138 := Tryz.underlying173
  a138 := Tryz.isAgg173
  z138 := Tryz.sizeOf173
  v138 := Tryz.zeroValue173
  t139 := Tryz.underlying174
  a139 := Tryz.isAgg174
  z139 := Tryz.sizeOf174
  v139 := Tryz.zeroValue174
  t160 := Tryz.underlying186
  a160 := Tryz.isAgg186
  z160 := Tryz.sizeOf186
  v160 := Tryz.zeroValue186
  t162 := Tryz.underlying149
  a162 := Tryz.isAgg149
  z162 := Tryz.sizeOf149
  v162 := Tryz.zeroValue149
  t164 := Tryz.underlying143
  a164 := Tryz.isAgg143
  z164 := Tryz.sizeOf143
  v164 := Tryz.zeroValue143
  t203 := Tryz.underlying147
  a203 := Tryz.isAgg147
  z203 := Tryz.sizeOf147
  v203 := Tryz.zeroValue147
  t206 := Tryz.underlying213
  a206 := Tryz.isAgg213
  z206 := Tryz.sizeOf213
  v206 := Tryz.zeroValue213
  t208 := Tryz.underlying215
  a208 := Tryz.isAgg215
  z208 := Tryz.sizeOf215
  v208 := Tryz.zeroValue215
  g3 := by kernel_rfl
  g4 := by kernel_rfl
  g13 := by kernel_rfl }
theorem Tryz.Builder_Extra_159 : Builder.Extra Tryz.prog Tryz.lays159_ren := {
  sizeBuilder := by kernel_rfl
  liesBuilder := by kernel_rfl
  t5 := Tryz.underlying5
  a5 := Tryz.isAgg5
  z5 := Tryz.sizeOf5
  v5 := Tryz.zeroValue5
  infoByte := by kernel_rfl
  cellsByte := by kernel_rfl
  sizeByte := by kernel_rfl
  neB5 := by decide }
open Go.RowKit in
/-- strings.ToLower: "ToLower returns s with all Unicode letters mapped to their lower case.": ON ASCII TEXT OF AT MOST 2^47 BYTES. Below the heap's end the world is as it was: where a letter turns, the call makes a builder and its buffer. (LAID: no walk: one application.) -/
theorem Tryz.strings_ToLower_ascii (s : ByteArray) (w : World) (hs : s.size ≤ 140737488355328) (hascii : ∀ (j : Nat) (b : UInt8), s.data.toList[j]? = some b → b.toNat < 128) :
    Calls Tryz.prog 69 #[.string s] w fun e w' => e = .returned (.string ⟨(Lib.toLowerA s.data.toList).toArray⟩) ∧ Below w.heap.size w w' := Any.strings_ToLower_ascii Tryz.lays159 Tryz.Builder_Extra_159 s w hs hascii
def Tryz.lays118_ren : Go.Shelf.Ren := ⟨fun | 118 => 96 | n => n, fun | 21 => 21 | 3 => 3 | 4 => 4 | n => n, fun | n => n⟩
theorem Tryz.lays118 : Go.Proofs.Lays.n118 Tryz.prog Tryz.lays118_ren := {
  mixed := by kernel_rfl
  f118 := Tryz.func96.trans (congrArg some (by kernel_rfl))
  t3 := Tryz.underlying3
  a3 := Tryz.isAgg3
  z3 := Tryz.sizeOf3
  v3 := Tryz.zeroValue3
  t4 := Tryz.underlying4
  a4 := Tryz.isAgg4
  z4 := Tryz.sizeOf4
  v4 := Tryz.zeroValue4
  t21 := Tryz.underlying21
  a21 := Tryz.isAgg21
  z21 := Tryz.sizeOf21
  v21 := Tryz.zeroValue21 }
/-- utf8.RuneLen: "RuneLen returns the number of bytes in the UTF-8 encoding of the rune. It returns -1 if the rune is not a valid value to encode in UTF-8.": IT RETURNS 'Lib.runeLen r'; the world is as it was. (LAID: no walk: one application.) -/
theorem Tryz.utf8_RuneLen (r : Int) (w : World) :
    Calls Tryz.prog 96 #[.int .i32 r] w fun e w' => e = .returned (.int .i64 (Lib.runeLen r)) ∧ w' = w := Any.utf8_RuneLen Tryz.lays118 r w
def Tryz.lays128_ren : Go.Shelf.Ren := ⟨fun | 128 => 134 | n => n, fun | 51 => 183 | 3 => 3 | 4 => 4 | 46 => 142 | 5 => 5 | 9 => 9 | n => n, fun | n => n⟩
theorem Tryz.lays128 : Go.Proofs.Lays.n128 Tryz.prog Tryz.lays128_ren := {
  mixed := by kernel_rfl
  f128 := Tryz.func134.trans (congrArg some (by kernel_rfl))
  t3 := Tryz.underlying3
  a3 := Tryz.isAgg3
  z3 := Tryz.sizeOf3
  v3 := Tryz.zeroValue3
  t4 := Tryz.underlying4
  a4 := Tryz.isAgg4
  z4 := Tryz.sizeOf4
  v4 := Tryz.zeroValue4
  t5 := Tryz.underlying5
  a5 := Tryz.isAgg5
  z5 := Tryz.sizeOf5
  v5 := Tryz.zeroValue5
  t9 := Tryz.underlying9
  a9 := Tryz.isAgg9
  z9 := Tryz.sizeOf9
  v9 := Tryz.zeroValue9
  t46 := Tryz.underlying142
  a46 := Tryz.isAgg142
  z46 := Tryz.sizeOf142
  v46 := Tryz.zeroValue142
  t51 := Tryz.underlying183
  a51 := Tryz.isAgg183
  z51 := Tryz.sizeOf183
  v51 := Tryz.zeroValue183 }
/-- bits.Len32: "Len32 returns the minimum number of bits required to represent x; the result is 0 for x == 0.": IT RETURNS 'Lib.bitLen x'; the world is as it was. ('h0', 'h1': x is a uint32.) (LAID: no walk: one application.) -/
theorem Tryz.bits_Len32 (x : Int) (w : World) (h0 : 0 ≤ x) (h1 : x ≤ 4294967295) :
    Calls Tryz.prog 134 #[.int .u32 x] w fun e w' => e = .returned (.int .i64 (Lib.bitLen x.toNat)) ∧ w' = w := Any.bits_Len32 Tryz.lays128 x w h0 h1
def Tryz.lays125_ren : Go.Shelf.Ren := ⟨fun | 125 => 108 | 128 => 134 | 129 => 135 | n => n, fun | 46 => 142 | 3 => 3 | 51 => 183 | 53 => 185 | 4 => 4 | 5 => 5 | 9 => 9 | n => n, fun | n => n⟩
theorem Tryz.lays125 : Go.Proofs.Lays.n125 Tryz.prog Tryz.lays125_ren := {
  mixed := by kernel_rfl
  f125 := Tryz.func108.trans (congrArg some (by kernel_rfl))
  f128 := Tryz.func134.trans (congrArg some (by kernel_rfl))
  f129 := Tryz.func135.trans (congrArg some (by kernel_rfl))
  t3 := Tryz.underlying3
  a3 := Tryz.isAgg3
  z3 := Tryz.sizeOf3
  v3 := Tryz.zeroValue3
  t4 := Tryz.underlying4
  a4 := Tryz.isAgg4
  z4 := Tryz.sizeOf4
  v4 := Tryz.zeroValue4
  t5 := Tryz.underlying5
  a5 := Tryz.isAgg5
  z5 := Tryz.sizeOf5
  v5 := Tryz.zeroValue5
  t9 := Tryz.underlying9
  a9 := Tryz.isAgg9
  z9 := Tryz.sizeOf9
  v9 := Tryz.zeroValue9
  t46 := Tryz.underlying142
  a46 := Tryz.isAgg142
  z46 := Tryz.sizeOf142
  v46 := Tryz.zeroValue142
  t51 := Tryz.underlying183
  a51 := Tryz.isAgg183
  z51 := Tryz.sizeOf183
  v51 := Tryz.zeroValue183
  t53 := Tryz.underlying185
  a53 := Tryz.isAgg185
  z53 := Tryz.sizeOf185
  v53 := Tryz.zeroValue185 }
/-- bits.Len: "Len returns the minimum number of bits required to represent x; the result is 0 for x == 0.": IT RETURNS 'Lib.bitLen x'; the world is as it was. (A uint has 64 bits in the model.) ITS CALLEE bits.Len64 IS MET BY ITS OWN CONTRACT OFF THE SHELF (lay that first). (LAID: no walk: one application.) -/
theorem Tryz.bits_Len (x : Int) (w : World) (h0 : 0 ≤ x) (h1 : x ≤ 18446744073709551615) :
    Calls Tryz.prog 108 #[.int .u64 x] w fun e w' => e = .returned (.int .i64 (Lib.bitLen x.toNat)) ∧ w' = w := Any.bits_Len Tryz.lays125 x w h0 h1
def Tryz.lays134_ren : Go.Shelf.Ren := ⟨fun | 134 => 248 | 129 => 135 | n => n, fun | 53 => 185 | 3 => 3 | 4 => 4 | 46 => 142 | 5 => 5 | 9 => 9 | n => n, fun | n => n⟩
theorem Tryz.lays134 : Go.Proofs.Lays.n134 Tryz.prog Tryz.lays134_ren := {
  mixed := by kernel_rfl
  f129 := Tryz.func135.trans (congrArg some (by kernel_rfl))
  f134 := Tryz.func248.trans (congrArg some (by kernel_rfl))
  t3 := Tryz.underlying3
  a3 := Tryz.isAgg3
  z3 := Tryz.sizeOf3
  v3 := Tryz.zeroValue3
  t4 := Tryz.underlying4
  a4 := Tryz.isAgg4
  z4 := Tryz.sizeOf4
  v4 := Tryz.zeroValue4
  t5 := Tryz.underlying5
  a5 := Tryz.isAgg5
  z5 := Tryz.sizeOf5
  v5 := Tryz.zeroValue5
  t9 := Tryz.underlying9
  a9 := Tryz.isAgg9
  z9 := Tryz.sizeOf9
  v9 := Tryz.zeroValue9
  t46 := Tryz.underlying142
  a46 := Tryz.isAgg142
  z46 := Tryz.sizeOf142
  v46 := Tryz.zeroValue142
  t53 := Tryz.underlying185
  a53 := Tryz.isAgg185
  z53 := Tryz.sizeOf185
  v53 := Tryz.zeroValue185 }
/-- bits.LeadingZeros64: "LeadingZeros64 returns the number of leading zero bits in x; the result is 64 for x == 0.": IT RETURNS '64 - Lib.bitLen x'; the world is as it was. ITS CALLEE bits.Len64 IS MET BY ITS OWN CONTRACT OFF THE SHELF (lay that first): entered in place it sends the kernel out of memory. (LAID: no walk: one application.) -/
theorem Tryz.bits_LeadingZeros64 (x : Int) (w : World) (h0 : 0 ≤ x) (h1 : x ≤ 18446744073709551615) :
    Calls Tryz.prog 248 #[.int .u64 x] w fun e w' => e = .returned (.int .i64 (64 - (Lib.bitLen x.toNat : Int))) ∧ w' = w := Any.bits_LeadingZeros64 Tryz.lays134 x w h0 h1
def Tryz.lays130_ren : Go.Shelf.Ren := ⟨fun | 130 => 222 | 125 => 108 | 128 => 134 | 129 => 135 | n => n, fun | 46 => 142 | 3 => 3 | 51 => 183 | 53 => 185 | 4 => 4 | 5 => 5 | 9 => 9 | n => n, fun | n => n⟩
theorem Tryz.lays130 : Go.Proofs.Lays.n130 Tryz.prog Tryz.lays130_ren := {
  mixed := by kernel_rfl
  f125 := Tryz.func108.trans (congrArg some (by kernel_rfl))
  f128 := Tryz.func134.trans (congrArg some (by kernel_rfl))
  f129 := Tryz.func135.trans (congrArg some (by kernel_rfl))
  f130 := Tryz.func222.trans (congrArg some (by kernel_rfl))
  t3 := Tryz.underlying3
  a3 := Tryz.isAgg3
  z3 := Tryz.sizeOf3
  v3 := Tryz.zeroValue3
  t4 := Tryz.underlying4
  a4 := Tryz.isAgg4
  z4 := Tryz.sizeOf4
  v4 := Tryz.zeroValue4
  t5 := Tryz.underlying5
  a5 := Tryz.isAgg5
  z5 := Tryz.sizeOf5
  v5 := Tryz.zeroValue5
  t9 := Tryz.underlying9
  a9 := Tryz.isAgg9
  z9 := Tryz.sizeOf9
  v9 := Tryz.zeroValue9
  t46 := Tryz.underlying142
  a46 := Tryz.isAgg142
  z46 := Tryz.sizeOf142
  v46 := Tryz.zeroValue142
  t51 := Tryz.underlying183
  a51 := Tryz.isAgg183
  z51 := Tryz.sizeOf183
  v51 := Tryz.zeroValue183
  t53 := Tryz.underlying185
  a53 := Tryz.isAgg185
  z53 := Tryz.sizeOf185
  v53 := Tryz.zeroValue185 }
/-- bits.LeadingZeros: "LeadingZeros returns the number of leading zero bits in x; the result is [UintSize] for x == 0.": IT RETURNS '64 - Lib.bitLen x'; the world is as it was. ITS CALLEE bits.Len IS MET BY ITS OWN CONTRACT OFF THE SHELF (lay that first): entered in place it sends the kernel out of memory. (LAID: no walk: one application.) -/
theorem Tryz.bits_LeadingZeros (x : Int) (w : World) (h0 : 0 ≤ x) (h1 : x ≤ 18446744073709551615) :
    Calls Tryz.prog 222 #[.int .u64 x] w fun e w' => e = .returned (.int .i64 (64 - (Lib.bitLen x.toNat : Int))) ∧ w' = w := Any.bits_LeadingZeros Tryz.lays130 x w h0 h1
def Tryz.lays129_ren : Go.Shelf.Ren := ⟨fun | 129 => 135 | n => n, fun | 53 => 185 | 3 => 3 | 4 => 4 | 46 => 142 | 5 => 5 | 9 => 9 | n => n, fun | n => n⟩
theorem Tryz.lays129 : Go.Proofs.Lays.n129 Tryz.prog Tryz.lays129_ren := {
  mixed := by kernel_rfl
  f129 := Tryz.func135.trans (congrArg some (by kernel_rfl))
  t3 := Tryz.underlying3
  a3 := Tryz.isAgg3
  z3 := Tryz.sizeOf3
  v3 := Tryz.zeroValue3
  t4 := Tryz.underlying4
  a4 := Tryz.isAgg4
  z4 := Tryz.sizeOf4
  v4 := Tryz.zeroValue4
  t5 := Tryz.underlying5
  a5 := Tryz.isAgg5
  z5 := Tryz.sizeOf5
  v5 := Tryz.zeroValue5
  t9 := Tryz.underlying9
  a9 := Tryz.isAgg9
  z9 := Tryz.sizeOf9
  v9 := Tryz.zeroValue9
  t46 := Tryz.underlying142
  a46 := Tryz.isAgg142
  z46 := Tryz.sizeOf142
  v46 := Tryz.zeroValue142
  t53 := Tryz.underlying185
  a53 := Tryz.isAgg185
  z53 := Tryz.sizeOf185
  v53 := Tryz.zeroValue185 }
/-- bits.Len64: "Len64 returns the minimum number of bits required to represent x; the result is 0 for x == 0.": IT RETURNS 'Lib.bitLen x'; the world is as it was. ('h0', 'h1': x is a uint64.) (LAID: no walk: one application.) -/
theorem Tryz.bits_Len64 (x : Int) (w : World) (h0 : 0 ≤ x) (h1 : x ≤ 18446744073709551615) :
    Calls Tryz.prog 135 #[.int .u64 x] w fun e w' => e = .returned (.int .i64 (Lib.bitLen x.toNat)) ∧ w' = w := Any.bits_Len64 Tryz.lays129 x w h0 h1
def Tryz.lays189_ren : Go.Shelf.Ren := ⟨fun | 189 => 93 | 125 => 108 | 257 => 107 | 128 => 134 | 129 => 135 | 294 => 125 | 295 => 126 | 296 => 127 | 297 => 128 | 298 => 129 | 299 => 130 | 216 => 131 | 300 => 132 | 301 => 133 | 328 => 152 | 329 => 153 | 330 => 154 | 331 => 155 | 332 => 156 | 215 => 157 | 343 => 175 | n => n, fun | 28 => 95 | 3 => 3 | 46 => 142 | 0 => 0 | 51 => 183 | 53 => 185 | 4 => 4 | 183 => 177 | 182 => 176 | 131 => 44 | 5 => 5 | 9 => 9 | 218 => 205 | 222 => 209 | 228 => 236 | 229 => 237 | n => n, fun | n => n⟩
theorem Tryz.lays189 : Go.Proofs.Lays.n189 Tryz.prog Tryz.lays189_ren := {
  mixed := by kernel_rfl
  f125 := Tryz.func108.trans (congrArg some (by kernel_rfl))
  f128 := Tryz.func134.trans (congrArg some (by kernel_rfl))
  f129 := Tryz.func135.trans (congrArg some (by kernel_rfl))
  f189 := Tryz.func93.trans (congrArg some (by kernel_rfl))
  f215 := Tryz.func157.trans (congrArg some (by kernel_rfl))
  f216 := Tryz.func131.trans (congrArg some (by kernel_rfl))
  f257 := Tryz.func107.trans (congrArg some (by kernel_rfl))
  f294 := Tryz.func125.trans (congrArg some (by kernel_rfl))
  f295 := Tryz.func126.trans (congrArg some (by kernel_rfl))
  f296 := Tryz.func127.trans (congrArg some (by kernel_rfl))
  f297 := Tryz.func128.trans (congrArg some (by kernel_rfl))
  f298 := Tryz.func129.trans (congrArg some (by kernel_rfl))
  f299 := Tryz.func130.trans (congrArg some (by kernel_rfl))
  f300 := Tryz.func132.trans (congrArg some (by kernel_rfl))
  f301 := Tryz.func133.trans (congrArg some (by kernel_rfl))
  f328 := Tryz.func152.trans (congrArg some (by kernel_rfl))
  f329 := Tryz.func153.trans (congrArg some (by kernel_rfl))
  f330 := Tryz.func154.trans (congrArg some (by kernel_rfl))
  f331 := Tryz.func155.trans (congrArg some (by kernel_rfl))
  f332 := Tryz.func156.trans (congrArg some (by kernel_rfl))
  f343 := Tryz.func175.trans (congrArg some (by kernel_rfl))
  t0 := Tryz.underlying0
  a0 := Tryz.isAgg0
  z0 := Tryz.sizeOf0
  v0 := Tryz.zeroValue0
  t3 := Tryz.underlying3
  a3 := Tryz.isAgg3
  z3 := Tryz.sizeOf3
  v3 := Tryz.zeroValue3
  t4 := Tryz.underlying4
  a4 := Tryz.isAgg4
  z4 := Tryz.sizeOf4
  v4 := Tryz.zeroValue4
  t5 := Tryz.underlying5
  a5 := Tryz.isAgg5
  z5 := Tryz.sizeOf5
  v5 := Tryz.zeroValue5
  t9 := Tryz.underlying9
  a9 := Tryz.isAgg9
  z9 := Tryz.sizeOf9
  v9 := Tryz.zeroValue9
  t28 := Tryz.underlying95
  a28 := Tryz.isAgg95
  z28 := Tryz.sizeOf95
  v28 := Tryz.zeroValue95
  t46 := Tryz.underlying142
  a46 := Tryz.isAgg142
  z46 := Tryz.sizeOf142
  v46 := Tryz.zeroValue142
  t51 := Tryz.underlying183
  a51 := Tryz.isAgg183
  z51 := Tryz.sizeOf183
  v51 := Tryz.zeroValue183
  t53 := Tryz.underlying185
  a53 := Tryz.isAgg185
  z53 := Tryz.sizeOf185
  v53 := Tryz.zeroValue185
  t131 := Tryz.underlying44
  a131 := Tryz.isAgg44
  z131 := Tryz.sizeOf44
  v131 := Tryz.zeroValue44
  t182 := Tryz.underlying176
  a182 := Tryz.isAgg176
  z182 := Tryz.sizeOf176
  v182 := Tryz.zeroValue176
  t183 := Tryz.underlying177
  a183 := Tryz.isAgg177
  z183 := Tryz.sizeOf177
  v183 := Tryz.zeroValue177
  t218 := Tryz.underlying205
  a218 := Tryz.isAgg205
  z218 := Tryz.sizeOf205
  v218 := Tryz.zeroValue205
  t222 := Tryz.underlying209
  a222 := Tryz.isAgg209
  z222 := Tryz.sizeOf209
  v222 := Tryz.zeroValue209
  t228 := Tryz.underlying236
  a228 := Tryz.isAgg236
  z228 := Tryz.sizeOf236
  v228 := Tryz.zeroValue236
  t229 := Tryz.underlying237
  a229 := Tryz.isAgg237
  z229 := Tryz.sizeOf237
  v229 := Tryz.zeroValue237 }
open Go.Sort Go.RowKit in
theorem Tryz.slices_Sort_int (blk off cap : Nat) (zs : List Int) (w : World) (hH : Holds (Value.int .i64) w blk off zs.toArray) (hblk : blk < w.heap.size) (hsz : zs.length < 4611686018427387904) :
    Calls Tryz.prog 93 #[.slice (some ⟨blk, off, none⟩) zs.length cap] w fun e w' =>
      e = .returned (.tuple #[]) ∧ ∃ n os, w' = grow (putRow (Value.int .i64) (Sort.ahead w n) blk off (zs.mergeSort fun x y => decide (x ≤ y)).toArray) os := Any.slices_Sort_int Tryz.lays189 blk off cap zs w hH hblk hsz
def Tryz.lays191_ren : Go.Shelf.Ren := ⟨fun | 191 => 79 | 189 => 93 | 125 => 108 | 257 => 107 | 128 => 134 | 129 => 135 | 294 => 125 | 295 => 126 | 296 => 127 | 297 => 128 | 298 => 129 | 299 => 130 | 216 => 131 | 300 => 132 | 301 => 133 | 328 => 152 | 329 => 153 | 330 => 154 | 331 => 155 | 332 => 156 | 215 => 157 | 343 => 175 | n => n, fun | 28 => 95 | 0 => 0 | 3 => 3 | 46 => 142 | 51 => 183 | 53 => 185 | 4 => 4 | 183 => 177 | 182 => 176 | 131 => 44 | 5 => 5 | 9 => 9 | 218 => 205 | 222 => 209 | 228 => 236 | 229 => 237 | n => n, fun | n => n⟩
theorem Tryz.lays191 : Go.Proofs.Lays.n191 Tryz.prog Tryz.lays191_ren := {
  mixed := by kernel_rfl
  f125 := Tryz.func108.trans (congrArg some (by kernel_rfl))
  f128 := Tryz.func134.trans (congrArg some (by kernel_rfl))
  f129 := Tryz.func135.trans (congrArg some (by kernel_rfl))
  f189 := Tryz.func93.trans (congrArg some (by kernel_rfl))
  f191 := Tryz.func79.trans (congrArg some (by kernel_rfl))
  f215 := Tryz.func157.trans (congrArg some (by kernel_rfl))
  f216 := Tryz.func131.trans (congrArg some (by kernel_rfl))
  f257 := Tryz.func107.trans (congrArg some (by kernel_rfl))
  f294 := Tryz.func125.trans (congrArg some (by kernel_rfl))
  f295 := Tryz.func126.trans (congrArg some (by kernel_rfl))
  f296 := Tryz.func127.trans (congrArg some (by kernel_rfl))
  f297 := Tryz.func128.trans (congrArg some (by kernel_rfl))
  f298 := Tryz.func129.trans (congrArg some (by kernel_rfl))
  f299 := Tryz.func130.trans (congrArg some (by kernel_rfl))
  f300 := Tryz.func132.trans (congrArg some (by kernel_rfl))
  f301 := Tryz.func133.trans (congrArg some (by kernel_rfl))
  f328 := Tryz.func152.trans (congrArg some (by kernel_rfl))
  f329 := Tryz.func153.trans (congrArg some (by kernel_rfl))
  f330 := Tryz.func154.trans (congrArg some (by kernel_rfl))
  f331 := Tryz.func155.trans (congrArg some (by kernel_rfl))
  f332 := Tryz.func156.trans (congrArg some (by kernel_rfl))
  f343 := Tryz.func175.trans (congrArg some (by kernel_rfl))
  t0 := Tryz.underlying0
  a0 := Tryz.isAgg0
  z0 := Tryz.sizeOf0
  v0 := Tryz.zeroValue0
  t3 := Tryz.underlying3
  a3 := Tryz.isAgg3
  z3 := Tryz.sizeOf3
  v3 := Tryz.zeroValue3
  t4 := Tryz.underlying4
  a4 := Tryz.isAgg4
  z4 := Tryz.sizeOf4
  v4 := Tryz.zeroValue4
  t5 := Tryz.underlying5
  a5 := Tryz.isAgg5
  z5 := Tryz.sizeOf5
  v5 := Tryz.zeroValue5
  t9 := Tryz.underlying9
  a9 := Tryz.isAgg9
  z9 := Tryz.sizeOf9
  v9 := Tryz.zeroValue9
  t28 := Tryz.underlying95
  a28 := Tryz.isAgg95
  z28 := Tryz.sizeOf95
  v28 := Tryz.zeroValue95
  t46 := Tryz.underlying142
  a46 := Tryz.isAgg142
  z46 := Tryz.sizeOf142
  v46 := Tryz.zeroValue142
  t51 := Tryz.underlying183
  a51 := Tryz.isAgg183
  z51 := Tryz.sizeOf183
  v51 := Tryz.zeroValue183
  t53 := Tryz.underlying185
  a53 := Tryz.isAgg185
  z53 := Tryz.sizeOf185
  v53 := Tryz.zeroValue185
  t131 := Tryz.underlying44
  a131 := Tryz.isAgg44
  z131 := Tryz.sizeOf44
  v131 := Tryz.zeroValue44
  t182 := Tryz.underlying176
  a182 := Tryz.isAgg176
  z182 := Tryz.sizeOf176
  v182 := Tryz.zeroValue176
  t183 := Tryz.underlying177
  a183 := Tryz.isAgg177
  z183 := Tryz.sizeOf177
  v183 := Tryz.zeroValue177
  t218 := Tryz.underlying205
  a218 := Tryz.isAgg205
  z218 := Tryz.sizeOf205
  v218 := Tryz.zeroValue205
  t222 := Tryz.underlying209
  a222 := Tryz.isAgg209
  z222 := Tryz.sizeOf209
  v222 := Tryz.zeroValue209
  t228 := Tryz.underlying236
  a228 := Tryz.isAgg236
  z228 := Tryz.sizeOf236
  v228 := Tryz.zeroValue236
  t229 := Tryz.underlying237
  a229 := Tryz.isAgg237
  z229 := Tryz.sizeOf237
  v229 := Tryz.zeroValue237 }
open Go.Sort Go.RowKit in
theorem Tryz.sort_Ints (blk off cap : Nat) (zs : List Int) (w : World) (hH : Holds (Value.int .i64) w blk off zs.toArray) (hblk : blk < w.heap.size) (hsz : zs.length < 4611686018427387904) :
    Calls Tryz.prog 79 #[.slice (some ⟨blk, off, none⟩) zs.length cap] w fun e w' =>
      e = .returned (.tuple #[]) ∧ ∃ n os, w' = grow (putRow (Value.int .i64) (Sort.ahead w n) blk off (zs.mergeSort fun x y => decide (x ≤ y)).toArray) os := Any.sort_Ints Tryz.lays191 blk off cap zs w hH hblk hsz
def Tryz.lays204_ren : Go.Shelf.Ren := ⟨fun | 204 => 85 | 262 => 99 | 313 => 112 | 274 => 137 | 275 => 138 | n => n, fun | 21 => 21 | 4 => 4 | 3 => 3 | 162 => 149 | 203 => 147 | 160 => 186 | 46 => 142 | 0 => 0 | 208 => 215 | 51 => 183 | 206 => 213 | n => n, fun | 13 => 2 | n => n⟩
theorem Tryz.lays204 : Go.Proofs.Lays.n204 Tryz.prog Tryz.lays204_ren := {
  mixed := by kernel_rfl
  f204 := Tryz.func85.trans (congrArg some (by kernel_rfl))
  f262 := Tryz.func99.trans (congrArg some (by kernel_rfl))
  f274 := Tryz.func137.trans (congrArg some (by kernel_rfl))
  f275 := Tryz.func138.trans (congrArg some (by kernel_rfl))
  f313 := Tryz.func112.trans (congrArg some (by kernel_rfl))
  t0 := Tryz.underlying0
  a0 := Tryz.isAgg0
  z0 := Tryz.sizeOf0
  v0 := Tryz.zeroValue0
  t3 := Tryz.underlying3
  a3 := Tryz.isAgg3
  z3 := Tryz.sizeOf3
  v3 := Tryz.zeroValue3
  t4 := Tryz.underlying4
  a4 := Tryz.isAgg4
  z4 := Tryz.sizeOf4
  v4 := Tryz.zeroValue4
  t21 := Tryz.underlying21
  a21 := Tryz.isAgg21
  z21 := Tryz.sizeOf21
  v21 := Tryz.zeroValue21
  t46 := Tryz.underlying142
  a46 := Tryz.isAgg142
  z46 := Tryz.sizeOf142
  v46 := Tryz.zeroValue142
  t51 := Tryz.underlying183
  a51 := Tryz.isAgg183
  z51 := Tryz.sizeOf183
  v51 := Tryz.zeroValue183
  t160 := Tryz.underlying186
  a160 := Tryz.isAgg186
  z160 := Tryz.sizeOf186
  v160 := Tryz.zeroValue186
  t162 := Tryz.underlying149
  a162 := Tryz.isAgg149
  z162 := Tryz.sizeOf149
  v162 := Tryz.zeroValue149
  t203 := Tryz.underlying147
  a203 := Tryz.isAgg147
  z203 := Tryz.sizeOf147
  v203 := Tryz.zeroValue147
  t206 := Tryz.underlying213
  a206 := Tryz.isAgg213
  z206 := Tryz.sizeOf213
  v206 := Tryz.zeroValue213
  t208 := Tryz.underlying215
  a208 := Tryz.isAgg215
  z208 := Tryz.sizeOf215
  v208 := Tryz.zeroValue215
  g13 := by kernel_rfl }
open Go.RowKit Go.Lib in
theorem Tryz.unicode_ToLower (r : Int) (w : World) (h : r ≤ 127) :
    Calls Tryz.prog 85 #[.int .i32 r] w fun e w' => e = .returned (.int .i32 (Lib.toLowerR r)) ∧ w' = w := Any.unicode_ToLower Tryz.lays204 r w h
def Tryz.lays197_ren : Go.Shelf.Ren := ⟨fun | 197 => 91 | 260 => 106 | n => n, fun | 9 => 9 | 21 => 21 | 3 => 3 | 4 => 4 | 5 => 5 | 105 => 128 | 119 => 171 | 0 => 0 | 46 => 142 | 139 => 174 | 138 => 173 | n => n, fun | 3 => 4 | 4 => 5 | n => n⟩
theorem Tryz.lays197 : Go.Proofs.Lays.n197 Tryz.prog Tryz.lays197_ren := {
  mixed := by kernel_rfl
  f197 := Tryz.func91.trans (congrArg some (by kernel_rfl))
  f260 := Tryz.func106.trans (congrArg some (by kernel_rfl))
  t0 := Tryz.underlying0
  a0 := Tryz.isAgg0
  z0 := Tryz.sizeOf0
  v0 := Tryz.zeroValue0
  t3 := Tryz.underlying3
  a3 := Tryz.isAgg3
  z3 := Tryz.sizeOf3
  v3 := Tryz.zeroValue3
  t4 := Tryz.underlying4
  a4 := Tryz.isAgg4
  z4 := Tryz.sizeOf4
  v4 := Tryz.zeroValue4
  t5 := Tryz.underlying5
  a5 := Tryz.isAgg5
  z5 := Tryz.sizeOf5
  v5 := Tryz.zeroValue5
  t9 := Tryz.underlying9
  a9 := Tryz.isAgg9
  z9 := Tryz.sizeOf9
  v9 := Tryz.zeroValue9
  t21 := Tryz.underlying21
  a21 := Tryz.isAgg21
  z21 := Tryz.sizeOf21
  v21 := Tryz.zeroValue21
  t46 := Tryz.underlying142
  a46 := Tryz.isAgg142
  z46 := Tryz.sizeOf142
  v46 := Tryz.zeroValue142
  t105 := Tryz.underlying128
  a105 := Tryz.isAgg128
  z105 := Tryz.sizeOf128
  v105 := Tryz.zeroValue128
  t119 := Tryz.underlying171
  a119 := Tryz.isAgg171
  z119 := Tryz.sizeOf171
  t138 := Tryz.underlying173
  a138 := Tryz.isAgg173
  z138 := Tryz.sizeOf173
  v138 := Tryz.zeroValue173
  t139 := Tryz.underlying174
  a139 := Tryz.isAgg174
  z139 := Tryz.sizeOf174
  v139 := Tryz.zeroValue174
  g3 := by kernel_rfl
  g4 := by kernel_rfl }
open Go.RowKit Go.Lib in
/-- unicode/utf8.DecodeRuneInString: "DecodeRuneInString is like DecodeRune but its input is a string.": ("DecodeRune unpacks the first UTF-8 encoding in p and returns the rune and its width in bytes."): WHERE s BEGINS WITH AN ASCII BYTE x: (x, 1). (LAID: no walk: one application.) -/
theorem Tryz.utf8_DecodeRuneInString_ascii (s : ByteArray) (x : UInt8) (w : World) (h0 : s.data.toList[0]? = some x) (hx : x.toNat < 128) :
    Calls Tryz.prog 91 #[.string s] w fun e w' => e = .returned (.tuple #[.int .i32 x.toNat, .int .i64 1]) ∧ w' = w := Any.utf8_DecodeRuneInString_ascii Tryz.lays197 s x w h0 hx
def Tryz.lays264_ren : Go.Shelf.Ren := ⟨fun | 264 => 225 | n => n, fun | 53 => 185 | 46 => 142 | n => n, fun | n => n⟩
theorem Tryz.lays264 : Go.Proofs.Lays.n264 Tryz.prog Tryz.lays264_ren := {
  mixed := by kernel_rfl
  f264 := Tryz.func225.trans (congrArg some (by kernel_rfl))
  t46 := Tryz.underlying142
  a46 := Tryz.isAgg142
  z46 := Tryz.sizeOf142
  v46 := Tryz.zeroValue142
  t53 := Tryz.underlying185
  a53 := Tryz.isAgg185
  z53 := Tryz.sizeOf185
  v53 := Tryz.zeroValue185 }
open Go.RowKit Go.Lib in
theorem Tryz.bits_Mul64 (x y : Nat) (hx : x < 18446744073709551616) (hy : y < 18446744073709551616) (w : World) :
    Calls Tryz.prog 225 #[.int .u64 x, .int .u64 y] w fun e w' => e = .returned (.tuple #[.int .u64 ((x * y / 18446744073709551616 : Nat) : Int), .int .u64 ((x * y % 18446744073709551616 : Nat) : Int)]) ∧ w' = w := Any.bits_Mul64 Tryz.lays264 x y hx hy w
def Tryz.lays212_ren : Go.Shelf.Ren := ⟨fun | 212 => 189 | 263 => 224 | 264 => 225 | n => n, fun | 46 => 142 | 51 => 183 | 146 => 270 | 53 => 185 | 148 => 272 | n => n, fun | n => n⟩
theorem Tryz.lays212 : Go.Proofs.Lays.n212 Tryz.prog Tryz.lays212_ren := {
  mixed := by kernel_rfl
  f212 := Tryz.func189.trans (congrArg some (by kernel_rfl))
  f263 := Tryz.func224.trans (congrArg some (by kernel_rfl))
  f264 := Tryz.func225.trans (congrArg some (by kernel_rfl))
  t46 := Tryz.underlying142
  a46 := Tryz.isAgg142
  z46 := Tryz.sizeOf142
  v46 := Tryz.zeroValue142
  t51 := Tryz.underlying183
  a51 := Tryz.isAgg183
  z51 := Tryz.sizeOf183
  v51 := Tryz.zeroValue183
  t53 := Tryz.underlying185
  a53 := Tryz.isAgg185
  z53 := Tryz.sizeOf185
  v53 := Tryz.zeroValue185
  t146 := Tryz.underlying270
  a146 := Tryz.isAgg270
  z146 := Tryz.sizeOf270
  v146 := Tryz.zeroValue270
  t148 := Tryz.underlying272
  a148 := Tryz.isAgg272
  z148 := Tryz.sizeOf272
  v148 := Tryz.zeroValue272 }
open Go.RowKit Go.Lib in
/-- math/bits.Mul: "Mul returns the full-width product of x and y": on a machine of 64 bits: Mul64's. (LAID: no walk: one application.) -/
theorem Tryz.bits_Mul (x y : Nat) (hx : x < 18446744073709551616) (hy : y < 18446744073709551616) (w : World) :
    Calls Tryz.prog 189 #[.int .u64 x, .int .u64 y] w fun e w' => e = .returned (.tuple #[.int .u64 ((x * y / 18446744073709551616 : Nat) : Int), .int .u64 ((x * y % 18446744073709551616 : Nat) : Int)]) ∧ w' = w := Any.bits_Mul Tryz.lays212 x y hx hy w
def Tryz.lays260_ren : Go.Shelf.Ren := ⟨fun | 260 => 106 | n => n, fun | 9 => 9 | 21 => 21 | 3 => 3 | 4 => 4 | 5 => 5 | 119 => 171 | 0 => 0 | 46 => 142 | 139 => 174 | 138 => 173 | n => n, fun | 3 => 4 | 4 => 5 | n => n⟩
theorem Tryz.lays260 : Go.Proofs.Lays.n260 Tryz.prog Tryz.lays260_ren := {
  mixed := by kernel_rfl
  f260 := Tryz.func106.trans (congrArg some (by kernel_rfl))
  t0 := Tryz.underlying0
  a0 := Tryz.isAgg0
  z0 := Tryz.sizeOf0
  v0 := Tryz.zeroValue0
  t3 := Tryz.underlying3
  a3 := Tryz.isAgg3
  z3 := Tryz.sizeOf3
  v3 := Tryz.zeroValue3
  t4 := Tryz.underlying4
  a4 := Tryz.isAgg4
  z4 := Tryz.sizeOf4
  v4 := Tryz.zeroValue4
  t5 := Tryz.underlying5
  a5 := Tryz.isAgg5
  z5 := Tryz.sizeOf5
  v5 := Tryz.zeroValue5
  t9 := Tryz.underlying9
  a9 := Tryz.isAgg9
  z9 := Tryz.sizeOf9
  v9 := Tryz.zeroValue9
  t21 := Tryz.underlying21
  a21 := Tryz.isAgg21
  z21 := Tryz.sizeOf21
  v21 := Tryz.zeroValue21
  t46 := Tryz.underlying142
  a46 := Tryz.isAgg142
  z46 := Tryz.sizeOf142
  v46 := Tryz.zeroValue142
  t119 := Tryz.underlying171
  a119 := Tryz.isAgg171
  z119 := Tryz.sizeOf171
  t138 := Tryz.underlying173
  a138 := Tryz.isAgg173
  z138 := Tryz.sizeOf173
  v138 := Tryz.zeroValue173
  t139 := Tryz.underlying174
  a139 := Tryz.isAgg174
  z139 := Tryz.sizeOf174
  v139 := Tryz.zeroValue174
  g3 := by kernel_rfl
  g4 := by kernel_rfl }
open Go.RowKit Go.Lib in
theorem Tryz.utf8_decodeRuneInStringSlow (s : ByteArray) (w : World) (hT : Lib.Utf8Tabs 4 5 w) :
    Calls Tryz.prog 106 #[.string s] w fun e w' => e = .returned (.tuple #[.int .i32 (Lib.decodeGo s).1, .int .i64 (Lib.decodeGo s).2]) ∧ Below w.heap.size w w' := Any.utf8_decodeRuneInStringSlow Tryz.lays260 s w hT
open Go.RowKit Go.Lib in
/-- **unicode/utf8.DecodeRuneInString AT EVERY STRING.** (LAID: no walk: one application.) -/
theorem Tryz.utf8_DecodeRuneInString (s : ByteArray) (w : World) (hT : Lib.Utf8Tabs 4 5 w) :
    Calls Tryz.prog 91 #[.string s] w fun e w' => e = .returned (.tuple #[.int .i32 (Lib.decodeGo s).1, .int .i64 (Lib.decodeGo s).2]) ∧ Below w.heap.size w w' := Any.utf8_DecodeRuneInString Tryz.lays197 s w hT
def Tryz.lays274_ren : Go.Shelf.Ren := ⟨fun | 274 => 137 | n => n, fun | 21 => 21 | 162 => 149 | 160 => 186 | 3 => 3 | 4 => 4 | 46 => 142 | 0 => 0 | 208 => 215 | 51 => 183 | 206 => 213 | n => n, fun | n => n⟩
theorem Tryz.lays274 : Go.Proofs.Lays.n274 Tryz.prog Tryz.lays274_ren := {
  mixed := by kernel_rfl
  f274 := Tryz.func137.trans (congrArg some (by kernel_rfl))
  t0 := Tryz.underlying0
  a0 := Tryz.isAgg0
  z0 := Tryz.sizeOf0
  v0 := Tryz.zeroValue0
  t3 := Tryz.underlying3
  a3 := Tryz.isAgg3
  z3 := Tryz.sizeOf3
  v3 := Tryz.zeroValue3
  t4 := Tryz.underlying4
  a4 := Tryz.isAgg4
  z4 := Tryz.sizeOf4
  v4 := Tryz.zeroValue4
  t21 := Tryz.underlying21
  a21 := Tryz.isAgg21
  z21 := Tryz.sizeOf21
  v21 := Tryz.zeroValue21
  t46 := Tryz.underlying142
  a46 := Tryz.isAgg142
  z46 := Tryz.sizeOf142
  v46 := Tryz.zeroValue142
  t51 := Tryz.underlying183
  a51 := Tryz.isAgg183
  z51 := Tryz.sizeOf183
  v51 := Tryz.zeroValue183
  t160 := Tryz.underlying186
  a160 := Tryz.isAgg186
  z160 := Tryz.sizeOf186
  v160 := Tryz.zeroValue186
  t162 := Tryz.underlying149
  a162 := Tryz.isAgg149
  z162 := Tryz.sizeOf149
  v162 := Tryz.zeroValue149
  t208 := Tryz.underlying215
  a208 := Tryz.isAgg215
  z208 := Tryz.sizeOf215
  v208 := Tryz.zeroValue215 }
open Go.RowKit Go.Lib in
theorem Tryz.unicode_lookupCaseRange (T : Array CaseRow) (R oR cap : Nat) (r : Int) (w : World) (hT : CaseTab R oR T w) (hok : CaseOk T) (hn : T.size ≤ 1000000000) :
    Calls Tryz.prog 137 #[.int .i32 r, .slice (some ⟨R, oR, none⟩) T.size cap] w fun e w' =>
      e = .returned (match lookupIdx T r (T.size + 1) 0 T.size with | some i => .pointer (some ⟨R, oR + i * 5, none⟩) | none => .pointer none) ∧ w' = w := Any.unicode_lookupCaseRange Tryz.lays274 T R oR cap r w hT hok hn
def Tryz.lays275_ren : Go.Shelf.Ren := ⟨fun | 275 => 138 | n => n, fun | 3 => 3 | 21 => 21 | 160 => 186 | 0 => 0 | 208 => 215 | 206 => 213 | 4 => 4 | 51 => 183 | n => n, fun | n => n⟩
theorem Tryz.lays275 : Go.Proofs.Lays.n275 Tryz.prog Tryz.lays275_ren := {
  mixed := by kernel_rfl
  f275 := Tryz.func138.trans (congrArg some (by kernel_rfl))
  t0 := Tryz.underlying0
  a0 := Tryz.isAgg0
  z0 := Tryz.sizeOf0
  v0 := Tryz.zeroValue0
  t3 := Tryz.underlying3
  a3 := Tryz.isAgg3
  z3 := Tryz.sizeOf3
  v3 := Tryz.zeroValue3
  t4 := Tryz.underlying4
  a4 := Tryz.isAgg4
  z4 := Tryz.sizeOf4
  v4 := Tryz.zeroValue4
  t21 := Tryz.underlying21
  a21 := Tryz.isAgg21
  z21 := Tryz.sizeOf21
  v21 := Tryz.zeroValue21
  t51 := Tryz.underlying183
  a51 := Tryz.isAgg183
  z51 := Tryz.sizeOf183
  v51 := Tryz.zeroValue183
  t160 := Tryz.underlying186
  a160 := Tryz.isAgg186
  z160 := Tryz.sizeOf186
  v160 := Tryz.zeroValue186
  t206 := Tryz.underlying213
  a206 := Tryz.isAgg213
  z206 := Tryz.sizeOf213
  v206 := Tryz.zeroValue213
  t208 := Tryz.underlying215
  a208 := Tryz.isAgg215
  z208 := Tryz.sizeOf215
  v208 := Tryz.zeroValue215 }
open Go.RowKit Go.Lib in
theorem Tryz.unicode_convertCase (c : Nat) (hc : c < 3) (r : Int) (A o : Nat) (x : CaseRow) (w : World) (hlo : (x.1 : Int) ≤ r) (hhi : r ≤ (x.2.1 : Int)) (hH : x.2.1 < 2147483647) (c0 : w.cell? ⟨A, o, none⟩ = some (.int .u32 x.1)) (cD : w.cell? ⟨A, o + 2 + c, none⟩ = some (.int .i32 (x.delta c))) :
    Calls Tryz.prog 138 #[.int .i64 c, .int .i32 r, .pointer (some ⟨A, o, none⟩)] w fun e w' => e = .returned (.int .i32 (wrap32 (convertR c r x))) ∧ ∃ q, w' = w.drewN q := Any.unicode_convertCase Tryz.lays275 c hc r A o x w hlo hhi hH c0 cD
def Tryz.lays313_ren : Go.Shelf.Ren := ⟨fun | 313 => 112 | 274 => 137 | 275 => 138 | n => n, fun | 3 => 3 | 21 => 21 | 162 => 149 | 4 => 4 | 160 => 186 | 46 => 142 | 0 => 0 | 208 => 215 | 51 => 183 | 206 => 213 | n => n, fun | n => n⟩
theorem Tryz.lays313 : Go.Proofs.Lays.n313 Tryz.prog Tryz.lays313_ren := {
  mixed := by kernel_rfl
  f274 := Tryz.func137.trans (congrArg some (by kernel_rfl))
  f275 := Tryz.func138.trans (congrArg some (by kernel_rfl))
  f313 := Tryz.func112.trans (congrArg some (by kernel_rfl))
  t0 := Tryz.underlying0
  a0 := Tryz.isAgg0
  z0 := Tryz.sizeOf0
  v0 := Tryz.zeroValue0
  t3 := Tryz.underlying3
  a3 := Tryz.isAgg3
  z3 := Tryz.sizeOf3
  v3 := Tryz.zeroValue3
  t4 := Tryz.underlying4
  a4 := Tryz.isAgg4
  z4 := Tryz.sizeOf4
  v4 := Tryz.zeroValue4
  t21 := Tryz.underlying21
  a21 := Tryz.isAgg21
  z21 := Tryz.sizeOf21
  v21 := Tryz.zeroValue21
  t46 := Tryz.underlying142
  a46 := Tryz.isAgg142
  z46 := Tryz.sizeOf142
  v46 := Tryz.zeroValue142
  t51 := Tryz.underlying183
  a51 := Tryz.isAgg183
  z51 := Tryz.sizeOf183
  v51 := Tryz.zeroValue183
  t160 := Tryz.underlying186
  a160 := Tryz.isAgg186
  z160 := Tryz.sizeOf186
  v160 := Tryz.zeroValue186
  t162 := Tryz.underlying149
  a162 := Tryz.isAgg149
  z162 := Tryz.sizeOf149
  v162 := Tryz.zeroValue149
  t206 := Tryz.underlying213
  a206 := Tryz.isAgg213
  z206 := Tryz.sizeOf213
  v206 := Tryz.zeroValue213
  t208 := Tryz.underlying215
  a208 := Tryz.isAgg215
  z208 := Tryz.sizeOf215
  v208 := Tryz.zeroValue215 }
open Go.RowKit Go.Lib in
theorem Tryz.unicode_to (c : Nat) (hc : c < 3) (r : Int) (T : Array CaseRow) (R oR cap : Nat) (w : World) (hT : CaseTab R oR T w) (hok : CaseOk2 T) (hn : T.size ≤ 1000000000) :
    Calls Tryz.prog 112 #[.int .i64 c, .int .i32 r, .slice (some ⟨R, oR, none⟩) T.size cap] w fun e w' => e = .returned (.tuple #[.int .i32 (toW T c r), .bool (lookupIdx T r (T.size + 1) 0 T.size).isSome]) ∧ ∃ q, w' = w.drewN q := Any.unicode_to Tryz.lays313 c hc r T R oR cap w hT hok hn
def Tryz.lays262_ren : Go.Shelf.Ren := ⟨fun | 262 => 99 | 313 => 112 | 274 => 137 | 275 => 138 | n => n, fun | 3 => 3 | 21 => 21 | 162 => 149 | 203 => 147 | 4 => 4 | 160 => 186 | 46 => 142 | 0 => 0 | 208 => 215 | 51 => 183 | 206 => 213 | n => n, fun | 13 => 2 | n => n⟩
theorem Tryz.lays262 : Go.Proofs.Lays.n262 Tryz.prog Tryz.lays262_ren := {
  mixed := by kernel_rfl
  f262 := Tryz.func99.trans (congrArg some (by kernel_rfl))
  f274 := Tryz.func137.trans (congrArg some (by kernel_rfl))
  f275 := Tryz.func138.trans (congrArg some (by kernel_rfl))
  f313 := Tryz.func112.trans (congrArg some (by kernel_rfl))
  t0 := Tryz.underlying0
  a0 := Tryz.isAgg0
  z0 := Tryz.sizeOf0
  v0 := Tryz.zeroValue0
  t3 := Tryz.underlying3
  a3 := Tryz.isAgg3
  z3 := Tryz.sizeOf3
  v3 := Tryz.zeroValue3
  t4 := Tryz.underlying4
  a4 := Tryz.isAgg4
  z4 := Tryz.sizeOf4
  v4 := Tryz.zeroValue4
  t21 := Tryz.underlying21
  a21 := Tryz.isAgg21
  z21 := Tryz.sizeOf21
  v21 := Tryz.zeroValue21
  t46 := Tryz.underlying142
  a46 := Tryz.isAgg142
  z46 := Tryz.sizeOf142
  v46 := Tryz.zeroValue142
  t51 := Tryz.underlying183
  a51 := Tryz.isAgg183
  z51 := Tryz.sizeOf183
  v51 := Tryz.zeroValue183
  t160 := Tryz.underlying186
  a160 := Tryz.isAgg186
  z160 := Tryz.sizeOf186
  v160 := Tryz.zeroValue186
  t162 := Tryz.underlying149
  a162 := Tryz.isAgg149
  z162 := Tryz.sizeOf149
  v162 := Tryz.zeroValue149
  t203 := Tryz.underlying147
  a203 := Tryz.isAgg147
  z203 := Tryz.sizeOf147
  v203 := Tryz.zeroValue147
  t206 := Tryz.underlying213
  a206 := Tryz.isAgg213
  z206 := Tryz.sizeOf213
  v206 := Tryz.zeroValue213
  t208 := Tryz.underlying215
  a208 := Tryz.isAgg215
  z208 := Tryz.sizeOf215
  v208 := Tryz.zeroValue215
  g13 := by kernel_rfl }
open Go.RowKit Go.Lib in
theorem Tryz.unicode_To (c : Nat) (hc : c < 3) (r : Int) (T : Array CaseRow) (w : World) (hV : CaseVar 2 T w) (hok : CaseOk2 T) (hn : T.size ≤ 1000000000) :
    Calls Tryz.prog 99 #[.int .i64 c, .int .i32 r] w fun e w' => e = .returned (.int .i32 (toW T c r)) ∧ ∃ q, w' = w.drewN q := Any.unicode_To Tryz.lays262 c hc r T w hV hok hn
open Go.RowKit Go.Lib in
theorem Tryz.unicode_ToLower_any (r : Int) (T : Array CaseRow) (w : World) (hV : CaseVar 2 T w) (hok : CaseOk2 T) (hn : T.size ≤ 1000000000) :
    Calls Tryz.prog 85 #[.int .i32 r] w fun e w' => e = .returned (.int .i32 (Lib.toLowerW T r)) ∧ ∃ q, w' = w.drewN q := Any.unicode_ToLower_any Tryz.lays204 r T w hV hok hn
open Go.RowKit Go.Lib in
theorem Tryz.unicode_ToLower_laid (r : Int) (w : World) (hV : CaseVar 2 caseA w) :
    Calls Tryz.prog 85 #[.int .i32 r] w fun e w' => e = .returned (.int .i32 (toLowerU r)) ∧ ∃ q, w' = w.drewN q := Any.unicode_ToLower_laid Tryz.lays204 r w hV
def Tryz.laysNm237_ren : Go.Shelf.Ren := ⟨fun | 37 => 157 | n => n, fun | 3 => 3 | 4 => 4 | n => n, fun | n => n⟩
theorem Tryz.laysNm237 : Go.Proofs.Lays2.n37 Tryz.prog Tryz.laysNm237_ren := {
  mixed := by kernel_rfl
  f37 := Tryz.func157.trans (congrArg some (by kernel_rfl))
  t3 := Tryz.underlying3
  a3 := Tryz.isAgg3
  z3 := Tryz.sizeOf3
  v3 := Tryz.zeroValue3
  t4 := Tryz.underlying4
  a4 := Tryz.isAgg4
  z4 := Tryz.sizeOf4
  v4 := Tryz.zeroValue4 }
open Go.RowKit Go.Lib in
/-- cmp.isNaN[int]: 'x != x': false. (LAID: no walk: one application.) -/
theorem Tryz.cmp_isNaN_int2 (x : Int) (w : World) :
    Calls Tryz.prog 157 #[.int .i64 x] w fun e w' => e = .returned (.bool false) ∧ w' = w := Any.cmp_isNaN_int2 Tryz.laysNm237 x w
def Tryz.laysNm231_ren : Go.Shelf.Ren := ⟨fun | 31 => 131 | 37 => 157 | n => n, fun | 3 => 3 | 4 => 4 | n => n, fun | n => n⟩
theorem Tryz.laysNm231 : Go.Proofs.Lays2.n31 Tryz.prog Tryz.laysNm231_ren := {
  mixed := by kernel_rfl
  f31 := Tryz.func131.trans (congrArg some (by kernel_rfl))
  f37 := Tryz.func157.trans (congrArg some (by kernel_rfl))
  t3 := Tryz.underlying3
  a3 := Tryz.isAgg3
  z3 := Tryz.sizeOf3
  v3 := Tryz.zeroValue3
  t4 := Tryz.underlying4
  a4 := Tryz.isAgg4
  z4 := Tryz.sizeOf4
  v4 := Tryz.zeroValue4 }
open Go.RowKit Go.Lib in
/-- cmp.Less[int]: "Less reports whether x is less than y.": 'x < y'; the world is as it was. (LAID: no walk: one application.) -/
theorem Tryz.cmp_Less_int2 (x y : Int) (w : World) :
    Calls Tryz.prog 131 #[.int .i64 x, .int .i64 y] w fun e w' => e = .returned (.bool (decide (x < y))) ∧ w' = w := Any.cmp_Less_int2 Tryz.laysNm231 x y w
end Go.Proofs
