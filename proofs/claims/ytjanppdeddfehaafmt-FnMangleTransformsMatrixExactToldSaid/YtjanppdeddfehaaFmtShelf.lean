/-
  DERIVED: THE SHELF's CONTRACTS AT THIS DUMP, IN PLAIN WORDS (tools/lay-plain.mjs out of 'TryfShelf.lean', which tools/lay-shelf.mjs wrote): THE SAME DECLARATIONS UNDER THE SAME NAMES: 'import', 'namespace', 'open', 'def', 'theorem' AND NOTHING ELSE: no command of the shelf's: FOR A HAND-IN. Each laying: the table of numbers ('.._ren') and one theorem, a field a fact of the dump's own or the kernel's comparison; each contract: ONE APPLICATION.
-/
import Derived.Shelf.Strings.Builder1
import Derived.Shelf.Strings.Builder2
import Derived.Shelf.Strings.OnBuilder
import Derived.Shelf.Small.Utf8
import Derived.Shelf.Small.Strs
import Derived.Shelf.Strings.BuilderF
import Derived.Shelf.Strings.BuilderK
import Derived.Shelf.Strings.BuilderRune
import Derived.Shelf.Utf8.AppendRune
import Derived.Shelf.Utf8.AppendRunePlain
import Derived.Shelf.Strings.Builder2Cap
import Derived.Shelf.Strings.Search1
import Derived.Shelf.Strings.Prefix
import Derived.Shelf.Unicode.Latin
import Derived.Shelf.Unicode.Decode
import Derived.Shelf.Bits.Mul64
import Derived.Shelf.Strings.Repeat
import Derived.Shelf.Unicode.DecodeSlow
import Derived.Shelf.Unicode.DecodeAny
import Derived.Shelf.Unicode.CaseLookup
import Derived.Shelf.Unicode.CaseConvert
import Derived.Shelf.Unicode.CaseTo
import Derived.Shelf.Unicode.CaseLaid
import Derived.Shelf.Strings.MapAny
import Derived.Shelf.Strings.CaseAny
import Derived.Shelf.Strings.BuilderCap
import Derived.Shelf.Strings.MapGrows
import Derived.Test.YtjanppdeddfehaaFmtProg
namespace Go.Proofs
open Go.Shelf
def Tryf.lays170_ren : Go.Shelf.Ren := ⟨fun | 170 => 49 | n => n, fun | 70 => 87 | 3 => 3 | 0 => 0 | 72 => 90 | 37 => 88 | 5 => 5 | n => n, fun | n => n⟩
theorem Tryf.lays170 : Go.Proofs.Lays.n170 Tryf.prog Tryf.lays170_ren := {
  mixed := by kernel_rfl
  f170 := Tryf.func49.trans (congrArg some (by kernel_rfl))
  t0 := Tryf.underlying0
  a0 := Tryf.isAgg0
  z0 := Tryf.sizeOf0
  v0 := Tryf.zeroValue0
  t3 := Tryf.underlying3
  a3 := Tryf.isAgg3
  z3 := Tryf.sizeOf3
  v3 := Tryf.zeroValue3
  t37 := Tryf.underlying88
  a37 := Tryf.isAgg88
  z37 := Tryf.sizeOf88
  v37 := Tryf.zeroValue88
  t70 := Tryf.underlying87
  a70 := Tryf.isAgg87
  z70 := Tryf.sizeOf87
  v70 := Tryf.zeroValue87
  t72 := Tryf.underlying90
  a72 := Tryf.isAgg90
  z72 := Tryf.sizeOf90
  v72 := Tryf.zeroValue90 }
open Go.RowKit in
/-- (*strings.Builder).Len: "Len returns the number of accumulated bytes; b.Len() == len(b.String()).": the world is as it was. (LAID: no walk: one application.) -/
theorem Tryf.Builder_Len (B b : Nat) (bs : List Value) (w : World) (h : Lib.IsBuilder 90 5 B b bs w) :
    Calls Tryf.prog 49 #[.pointer (some ⟨b, 0, none⟩)] w fun e w' => e = .returned (.int .i64 bs.length) ∧ w' = w := Any.Builder_Len Tryf.lays170 B b bs w h
def Tryf.lays169_ren : Go.Shelf.Ren := ⟨fun | 169 => 22 | n => n, fun | 70 => 87 | 9 => 9 | 0 => 0 | 72 => 90 | 37 => 88 | 127 => 103 | 3 => 3 | 5 => 5 | n => n, fun | n => n⟩
theorem Tryf.lays169 : Go.Proofs.Lays.n169 Tryf.prog Tryf.lays169_ren := {
  mixed := by kernel_rfl
  f169 := Tryf.func22.trans (congrArg some (by kernel_rfl))
  t0 := Tryf.underlying0
  a0 := Tryf.isAgg0
  z0 := Tryf.sizeOf0
  v0 := Tryf.zeroValue0
  t3 := Tryf.underlying3
  a3 := Tryf.isAgg3
  z3 := Tryf.sizeOf3
  v3 := Tryf.zeroValue3
  t9 := Tryf.underlying9
  a9 := Tryf.isAgg9
  z9 := Tryf.sizeOf9
  v9 := Tryf.zeroValue9
  t37 := Tryf.underlying88
  a37 := Tryf.isAgg88
  z37 := Tryf.sizeOf88
  v37 := Tryf.zeroValue88
  t70 := Tryf.underlying87
  a70 := Tryf.isAgg87
  z70 := Tryf.sizeOf87
  v70 := Tryf.zeroValue87
  t72 := Tryf.underlying90
  a72 := Tryf.isAgg90
  z72 := Tryf.sizeOf90
  v72 := Tryf.zeroValue90
  t127 := Tryf.underlying103
  a127 := Tryf.isAgg103
  z127 := Tryf.sizeOf103
  v127 := Tryf.zeroValue103 }
theorem Tryf.Builder_Extra_169 : Builder.Extra Tryf.prog Tryf.lays169_ren := {
  sizeBuilder := by kernel_rfl
  liesBuilder := by kernel_rfl
  t5 := Tryf.underlying5
  a5 := Tryf.isAgg5
  z5 := Tryf.sizeOf5
  v5 := Tryf.zeroValue5
  infoByte := by kernel_rfl
  cellsByte := by kernel_rfl
  sizeByte := by kernel_rfl
  neB5 := by decide }
open Go.RowKit in
/-- (*strings.Builder).String: "String returns the accumulated string.": OF A BUILDER THAT HOLDS AT LEAST ONE BYTE. ✋ THE MODEL FREEZES THOSE BYTES IN THE BUFFER (unsafe.String): a later write INTO them ends the model's run without an answer; a later append BEHIND them goes on. The statement's order of evaluation is drawn: one draw. (LAID: no walk: one application.) -/
theorem Tryf.Builder_String (B b : Nat) (l : List UInt8) (w : World) (h : Lib.IsBuilder 90 5 B b (Lib.byteCells l) w) (h0 : l ≠ []) :
    Calls Tryf.prog 22 #[.pointer (some ⟨b, 0, none⟩)] w fun e w' => e = .returned (.string ⟨l.toArray⟩) ∧ Below B w w' := Any.Builder_String Tryf.lays169 Tryf.Builder_Extra_169 B b l w h h0
open Go.RowKit in
/-- (*strings.Builder).String OF A BUILDER THAT HOLDS NO BYTE: the empty string. (Its buffer is nil, or a row of which it has taken nothing yet; where that row has NO capacity the model lays one new block for unsafe.SliceData's 'some address'.) One draw. (LAID: no walk: one application.) -/
theorem Tryf.Builder_String_empty (B b : Nat) (w : World) (h : Lib.IsBuilder 90 5 B b [] w) (hBw : B ≤ w.heap.size) :
    Calls Tryf.prog 22 #[.pointer (some ⟨b, 0, none⟩)] w fun e w' => e = .returned (.string ⟨#[]⟩) ∧ Below B w w' := Any.Builder_String_empty Tryf.lays169 Tryf.Builder_Extra_169 B b w h hBw
open Go.RowKit in
/-- (*strings.Builder).String: "String returns the accumulated string.": WHATEVER THE BUILDER HOLDS. (LAID: no walk: one application.) -/
theorem Tryf.Builder_String_any (B b : Nat) (l : List UInt8) (w : World) (h : Lib.IsBuilder 90 5 B b (Lib.byteCells l) w) (hBw : B ≤ w.heap.size) :
    Calls Tryf.prog 22 #[.pointer (some ⟨b, 0, none⟩)] w fun e w' => e = .returned (.string ⟨l.toArray⟩) ∧ Below B w w' := Any.Builder_String_any Tryf.lays169 Tryf.Builder_Extra_169 B b l w h hBw
def Tryf.lays241_ren : Go.Shelf.Ren := ⟨fun | 241 => 30 | 277 => 41 | n => n, fun | 70 => 87 | 3 => 3 | 0 => 0 | 72 => 90 | 37 => 88 | 5 => 5 | n => n, fun | n => n⟩
theorem Tryf.lays241 : Go.Proofs.Lays.n241 Tryf.prog Tryf.lays241_ren := {
  mixed := by kernel_rfl
  f241 := Tryf.func30.trans (congrArg some (by kernel_rfl))
  f277 := Tryf.func41.trans (congrArg some (by kernel_rfl))
  t0 := Tryf.underlying0
  a0 := Tryf.isAgg0
  z0 := Tryf.sizeOf0
  v0 := Tryf.zeroValue0
  t3 := Tryf.underlying3
  a3 := Tryf.isAgg3
  z3 := Tryf.sizeOf3
  v3 := Tryf.zeroValue3
  t37 := Tryf.underlying88
  a37 := Tryf.isAgg88
  z37 := Tryf.sizeOf88
  v37 := Tryf.zeroValue88
  t70 := Tryf.underlying87
  a70 := Tryf.isAgg87
  z70 := Tryf.sizeOf87
  v70 := Tryf.zeroValue87
  t72 := Tryf.underlying90
  a72 := Tryf.isAgg90
  z72 := Tryf.sizeOf90
  v72 := Tryf.zeroValue90 }
theorem Tryf.Builder_Extra_241 : Builder.Extra Tryf.prog Tryf.lays241_ren := {
  sizeBuilder := by kernel_rfl
  liesBuilder := by kernel_rfl
  t5 := Tryf.underlying5
  a5 := Tryf.isAgg5
  z5 := Tryf.sizeOf5
  v5 := Tryf.zeroValue5
  infoByte := by kernel_rfl
  cellsByte := by kernel_rfl
  sizeByte := by kernel_rfl
  neB5 := by decide }
open Go.RowKit in
/-- (*strings.Builder).grow (no doc but "grow copies the buffer to a new, larger buffer so that there are at least n bytes of capacity beyond len(b.buf)."): AT A BUILDER WITHOUT A BUFFER: a new row of whatever bytes for its buffer, none of them its own yet. Three draws. (LAID: no walk: one application.) -/
theorem Tryf.Builder_grow_fresh (B b n : Nat) (w : World) (hB : B ≤ b) (hbk : w.heap[b]? = some (.cells #[.pointer (some ⟨b, 0, none⟩), .slice none 0 0] 90 (0, 0))) (hBw : B ≤ w.heap.size) (hn : n ≤ 281474976710656) :
    Calls Tryf.prog 30 #[.pointer (some ⟨b, 0, none⟩), .int .i64 n] w fun e w' => e = .returned (.tuple #[]) ∧ (Lib.BuilderAt 90 5 B b (.pointer (some ⟨b, 0, none⟩)) [] w' ∧ Below B w w') := Any.Builder_grow_fresh Tryf.lays241 Tryf.Builder_Extra_241 B b n w hB hbk hBw hn
def Tryf.lays165_ren : Go.Shelf.Ren := ⟨fun | 165 => 19 | 240 => 29 | 241 => 30 | 276 => 40 | 277 => 41 | n => n, fun | 70 => 87 | 3 => 3 | 0 => 0 | 4 => 4 | 9 => 9 | 20 => 20 | 72 => 90 | 37 => 88 | 164 => 114 | 5 => 5 | n => n, fun | n => n⟩
theorem Tryf.lays165 : Go.Proofs.Lays.n165 Tryf.prog Tryf.lays165_ren := {
  mixed := by kernel_rfl
  f165 := Tryf.func19.trans (congrArg some (by kernel_rfl))
  f240 := Tryf.func29.trans (congrArg some (by kernel_rfl))
  f241 := Tryf.func30.trans (congrArg some (by kernel_rfl))
  f276 := Tryf.func40.trans (congrArg some (by kernel_rfl))
  f277 := Tryf.func41.trans (congrArg some (by kernel_rfl))
  t0 := Tryf.underlying0
  a0 := Tryf.isAgg0
  z0 := Tryf.sizeOf0
  v0 := Tryf.zeroValue0
  t3 := Tryf.underlying3
  a3 := Tryf.isAgg3
  z3 := Tryf.sizeOf3
  v3 := Tryf.zeroValue3
  t4 := Tryf.underlying4
  a4 := Tryf.isAgg4
  z4 := Tryf.sizeOf4
  v4 := Tryf.zeroValue4
  t9 := Tryf.underlying9
  a9 := Tryf.isAgg9
  z9 := Tryf.sizeOf9
  v9 := Tryf.zeroValue9
  t20 := Tryf.underlying20
  a20 := Tryf.isAgg20
  z20 := Tryf.sizeOf20
  v20 := Tryf.zeroValue20
  t37 := Tryf.underlying88
  a37 := Tryf.isAgg88
  z37 := Tryf.sizeOf88
  v37 := Tryf.zeroValue88
  t70 := Tryf.underlying87
  a70 := Tryf.isAgg87
  z70 := Tryf.sizeOf87
  v70 := Tryf.zeroValue87
  t72 := Tryf.underlying90
  a72 := Tryf.isAgg90
  z72 := Tryf.sizeOf90
  v72 := Tryf.zeroValue90
  t164 := Tryf.underlying114
  a164 := Tryf.isAgg114
  z164 := Tryf.sizeOf114
  v164 := Tryf.zeroValue114 }
theorem Tryf.Builder_Extra_165 : Builder.Extra Tryf.prog Tryf.lays165_ren := {
  sizeBuilder := by kernel_rfl
  liesBuilder := by kernel_rfl
  t5 := Tryf.underlying5
  a5 := Tryf.isAgg5
  z5 := Tryf.sizeOf5
  v5 := Tryf.zeroValue5
  infoByte := by kernel_rfl
  cellsByte := by kernel_rfl
  sizeByte := by kernel_rfl
  neB5 := by decide }
open Go.RowKit in
/-- (*strings.Builder).Grow AT A BUILDER THAT HAS NOT BEEN WRITTEN ('var b strings.Builder; b.Grow(n)'): "Grow grows b's capacity, if necessary, to guarantee space for another n bytes.": it holds no byte behind it as before it. (LAID: no walk: one application.) -/
theorem Tryf.Builder_Grow_fresh (B b n : Nat) (w : World) (hB : B ≤ b) (hbk : w.heap[b]? = some (.cells #[.pointer none, .slice none 0 0] 90 (0, 0))) (hBw : B ≤ w.heap.size) (hn : n ≤ 281474976710656) :
    Calls Tryf.prog 19 #[.pointer (some ⟨b, 0, none⟩), .int .i64 n] w fun e w' => e = .returned (.tuple #[]) ∧ (Lib.BuilderAt 90 5 B b (.pointer (some ⟨b, 0, none⟩)) [] w' ∧ Below B w w') := Any.Builder_Grow_fresh Tryf.lays165 Tryf.Builder_Extra_165 B b n w hB hbk hBw hn
def Tryf.lays159_ren : Go.Shelf.Ren := ⟨fun | 159 => 12 | 165 => 19 | 166 => 20 | 167 => 21 | 169 => 22 | 230 => 23 | 204 => 24 | 240 => 29 | 241 => 30 | 197 => 31 | 118 => 32 | 168 => 33 | 270 => 34 | 262 => 35 | 276 => 40 | 277 => 41 | 260 => 42 | 242 => 43 | 313 => 44 | 278 => 50 | 274 => 51 | 275 => 52 | n => n, fun | 9 => 9 | 4 => 4 | 3 => 3 | 5 => 5 | 72 => 90 | 0 => 0 | 76 => 94 | 75 => 93 | 107 => 99 | 70 => 87 | 20 => 20 | 37 => 88 | 127 => 103 | 21 => 21 | 105 => 104 | 164 => 114 | 162 => 120 | 203 => 118 | 119 => 125 | 46 => 122 | 139 => 128 | 138 => 127 | 51 => 33 | 160 => 129 | 208 => 140 | 206 => 138 | 80 => 97 | n => n, fun | 13 => 0 | 3 => 2 | 4 => 3 | n => n⟩
theorem Tryf.lays159 : Go.Proofs.Lays.n159 Tryf.prog Tryf.lays159_ren := {
  mixed := by kernel_rfl
  f118 := Tryf.func32.trans (congrArg some (by kernel_rfl))
  f159 := Tryf.func12.trans (congrArg some (by kernel_rfl))
  f165 := Tryf.func19.trans (congrArg some (by kernel_rfl))
  f166 := Tryf.func20.trans (congrArg some (by kernel_rfl))
  f167 := Tryf.func21.trans (congrArg some (by kernel_rfl))
  f168 := Tryf.func33.trans (congrArg some (by kernel_rfl))
  f169 := Tryf.func22.trans (congrArg some (by kernel_rfl))
  f197 := Tryf.func31.trans (congrArg some (by kernel_rfl))
  f204 := Tryf.func24.trans (congrArg some (by kernel_rfl))
  f230 := Tryf.func23.trans (congrArg some (by kernel_rfl))
  f240 := Tryf.func29.trans (congrArg some (by kernel_rfl))
  f241 := Tryf.func30.trans (congrArg some (by kernel_rfl))
  f242 := Tryf.func43.trans (congrArg some (by kernel_rfl))
  f260 := Tryf.func42.trans (congrArg some (by kernel_rfl))
  f262 := Tryf.func35.trans (congrArg some (by kernel_rfl))
  f270 := Tryf.func34.trans (congrArg some (by kernel_rfl))
  f274 := Tryf.func51.trans (congrArg some (by kernel_rfl))
  f275 := Tryf.func52.trans (congrArg some (by kernel_rfl))
  f276 := Tryf.func40.trans (congrArg some (by kernel_rfl))
  f277 := Tryf.func41.trans (congrArg some (by kernel_rfl))
  f278 := Tryf.func50.trans (congrArg some (by kernel_rfl))
  f313 := Tryf.func44.trans (congrArg some (by kernel_rfl))
  t0 := Tryf.underlying0
  a0 := Tryf.isAgg0
  z0 := Tryf.sizeOf0
  v0 := Tryf.zeroValue0
  t3 := Tryf.underlying3
  a3 := Tryf.isAgg3
  z3 := Tryf.sizeOf3
  v3 := Tryf.zeroValue3
  t4 := Tryf.underlying4
  a4 := Tryf.isAgg4
  z4 := Tryf.sizeOf4
  v4 := Tryf.zeroValue4
  t5 := Tryf.underlying5
  a5 := Tryf.isAgg5
  z5 := Tryf.sizeOf5
  v5 := Tryf.zeroValue5
  t9 := Tryf.underlying9
  a9 := Tryf.isAgg9
  z9 := Tryf.sizeOf9
  v9 := Tryf.zeroValue9
  t20 := Tryf.underlying20
  a20 := Tryf.isAgg20
  z20 := Tryf.sizeOf20
  v20 := Tryf.zeroValue20
  t21 := Tryf.underlying21
  a21 := Tryf.isAgg21
  z21 := Tryf.sizeOf21
  v21 := Tryf.zeroValue21
  t37 := Tryf.underlying88
  a37 := Tryf.isAgg88
  z37 := Tryf.sizeOf88
  v37 := Tryf.zeroValue88
  t46 := Tryf.underlying122
  a46 := Tryf.isAgg122
  z46 := Tryf.sizeOf122
  v46 := Tryf.zeroValue122
  t51 := Tryf.underlying33
  a51 := Tryf.isAgg33
  z51 := Tryf.sizeOf33
  v51 := Tryf.zeroValue33
  t70 := Tryf.underlying87
  a70 := Tryf.isAgg87
  z70 := Tryf.sizeOf87
  v70 := Tryf.zeroValue87
  t72 := Tryf.underlying90
  a72 := Tryf.isAgg90
  z72 := Tryf.sizeOf90
  v72 := Tryf.zeroValue90
  t75 := Tryf.underlying93
  a75 := Tryf.isAgg93
  z75 := Tryf.sizeOf93
  v75 := Tryf.zeroValue93
  t76 := Tryf.underlying94
  a76 := Tryf.isAgg94
  z76 := Tryf.sizeOf94
  v76 := Tryf.zeroValue94
  t105 := Tryf.underlying104
  a105 := Tryf.isAgg104
  z105 := Tryf.sizeOf104
  v105 := Tryf.zeroValue104
  t107 := Tryf.underlying99
  a107 := Tryf.isAgg99
  z107 := Tryf.sizeOf99
  v107 := Tryf.zeroValue99
  t119 := Tryf.underlying125
  a119 := Tryf.isAgg125
  z119 := Tryf.sizeOf125
  t127 := Tryf.underlying103
  a127 := Tryf.isAgg103
  z127 := Tryf.sizeOf103
  v127 := Tryf.zeroValue103
  t138 := Tryf.underlying127
  a138 := Tryf.isAgg127
  z138 := Tryf.sizeOf127
  v138 := Tryf.zeroValue127
  t139 := Tryf.underlying128
  a139 := Tryf.isAgg128
  z139 := Tryf.sizeOf128
  v139 := Tryf.zeroValue128
  t160 := Tryf.underlying129
  a160 := Tryf.isAgg129
  z160 := Tryf.sizeOf129
  v160 := Tryf.zeroValue129
  t162 := Tryf.underlying120
  a162 := Tryf.isAgg120
  z162 := Tryf.sizeOf120
  v162 := Tryf.zeroValue120
  t164 := Tryf.underlying114
  a164 := Tryf.isAgg114
  z164 := Tryf.sizeOf114
  v164 := Tryf.zeroValue114
  t203 := Tryf.underlying118
  a203 := Tryf.isAgg118
  z203 := Tryf.sizeOf118
  v203 := Tryf.zeroValue118
  t206 := Tryf.underlying138
  a206 := Tryf.isAgg138
  z206 := Tryf.sizeOf138
  v206 := Tryf.zeroValue138
  t208 := Tryf.underlying140
  a208 := Tryf.isAgg140
  z208 := Tryf.sizeOf140
  v208 := Tryf.zeroValue140
  g3 := by kernel_rfl
  g4 := by kernel_rfl
  g13 := by kernel_rfl }
theorem Tryf.Builder_Extra_159 : Builder.Extra Tryf.prog Tryf.lays159_ren := {
  sizeBuilder := by kernel_rfl
  liesBuilder := by kernel_rfl
  t5 := Tryf.underlying5
  a5 := Tryf.isAgg5
  z5 := Tryf.sizeOf5
  v5 := Tryf.zeroValue5
  infoByte := by kernel_rfl
  cellsByte := by kernel_rfl
  sizeByte := by kernel_rfl
  neB5 := by decide }
open Go.RowKit in
/-- strings.ToLower: "ToLower returns s with all Unicode letters mapped to their lower case.": ON ASCII TEXT OF AT MOST 2^47 BYTES. Below the heap's end the world is as it was: where a letter turns, the call makes a builder and its buffer. (LAID: no walk: one application.) -/
theorem Tryf.strings_ToLower_ascii (s : ByteArray) (w : World) (hs : s.size ≤ 140737488355328) (hascii : ∀ (j : Nat) (b : UInt8), s.data.toList[j]? = some b → b.toNat < 128) :
    Calls Tryf.prog 12 #[.string s] w fun e w' => e = .returned (.string ⟨(Lib.toLowerA s.data.toList).toArray⟩) ∧ Below w.heap.size w w' := Any.strings_ToLower_ascii Tryf.lays159 Tryf.Builder_Extra_159 s w hs hascii
def Tryf.lays118_ren : Go.Shelf.Ren := ⟨fun | 118 => 32 | n => n, fun | 21 => 21 | 3 => 3 | 4 => 4 | n => n, fun | n => n⟩
theorem Tryf.lays118 : Go.Proofs.Lays.n118 Tryf.prog Tryf.lays118_ren := {
  mixed := by kernel_rfl
  f118 := Tryf.func32.trans (congrArg some (by kernel_rfl))
  t3 := Tryf.underlying3
  a3 := Tryf.isAgg3
  z3 := Tryf.sizeOf3
  v3 := Tryf.zeroValue3
  t4 := Tryf.underlying4
  a4 := Tryf.isAgg4
  z4 := Tryf.sizeOf4
  v4 := Tryf.zeroValue4
  t21 := Tryf.underlying21
  a21 := Tryf.isAgg21
  z21 := Tryf.sizeOf21
  v21 := Tryf.zeroValue21 }
/-- utf8.RuneLen: "RuneLen returns the number of bytes in the UTF-8 encoding of the rune. It returns -1 if the rune is not a valid value to encode in UTF-8.": IT RETURNS 'Lib.runeLen r'; the world is as it was. (LAID: no walk: one application.) -/
theorem Tryf.utf8_RuneLen (r : Int) (w : World) :
    Calls Tryf.prog 32 #[.int .i32 r] w fun e w' => e = .returned (.int .i64 (Lib.runeLen r)) ∧ w' = w := Any.utf8_RuneLen Tryf.lays118 r w
def Tryf.lays137_ren : Go.Shelf.Ren := ⟨fun | 137 => 37 | 217 => 46 | 266 => 53 | n => n, fun | 9 => 9 | 5 => 5 | 3 => 3 | n => n, fun | n => n⟩
theorem Tryf.lays137 : Go.Proofs.Lays.n137 Tryf.prog Tryf.lays137_ren := {
  mixed := by kernel_rfl
  f137 := Tryf.func37.trans (congrArg some (by kernel_rfl))
  f217 := Tryf.func46.trans (congrArg some (by kernel_rfl))
  f266 := Tryf.func53.trans (congrArg some (by kernel_rfl))
  t3 := Tryf.underlying3
  a3 := Tryf.isAgg3
  z3 := Tryf.sizeOf3
  v3 := Tryf.zeroValue3
  t5 := Tryf.underlying5
  a5 := Tryf.isAgg5
  z5 := Tryf.sizeOf5
  v5 := Tryf.zeroValue5
  t9 := Tryf.underlying9
  a9 := Tryf.isAgg9
  z9 := Tryf.sizeOf9
  v9 := Tryf.zeroValue9 }
open Go.RowKit in
/-- strings.IndexByte: "IndexByte returns the index of the first instance of c in s, or -1 if c is not present in s.": IT RETURNS 'Lib.indexByte s c'; the world is as it was. (LAID: no walk: one application.) -/
theorem Tryf.strings_IndexByte (s : ByteArray) (c : Int) (w : World) :
    Calls Tryf.prog 37 #[.string s, .int .u8 c] w fun e w' => e = .returned (.int .i64 (Lib.indexByte s.data.toList c.toNat.toUInt8)) ∧ w' = w := Any.strings_IndexByte Tryf.lays137 s c w
open Go.RowKit in
/-- (*strings.Builder).Len: "Len returns the number of accumulated bytes; b.Len() == len(b.String()).": the world is as it was. (THE FORM '_f': 'Lib.IsBuilderF'.) (LAID: no walk: one application.) -/
theorem Tryf.Builder_Len_f (B b : Nat) (bs : List Value) (w : World) (h : Lib.IsBuilderF 90 5 B b bs w) :
    Calls Tryf.prog 49 #[.pointer (some ⟨b, 0, none⟩)] w fun e w' => e = .returned (.int .i64 bs.length) ∧ w' = w := Any.Builder_Len_f Tryf.lays170 B b bs w h
open Go.RowKit in
/-- (*strings.Builder).String: "String returns the accumulated string.": OF A BUILDER THAT HOLDS AT LEAST ONE BYTE. ✋ THE MODEL FREEZES THOSE BYTES IN THE BUFFER (unsafe.String): a later write INTO them ends the model's run without an answer; a later append BEHIND them goes on. The statement's order of evaluation is drawn: one draw. THE FORM '_f': IT SAYS BESIDES THAT THE BUILDER IS A BUILDER STILL ('Lib.IsBuilderF', the same bytes): SO IT CAN BE WRITTEN ON: 'b.WriteString(b.String()[:k])'. (LAID: no walk: one application.) -/
theorem Tryf.Builder_String_f (B b : Nat) (l : List UInt8) (w : World) (h : Lib.IsBuilderF 90 5 B b (Lib.byteCells l) w) (h0 : l ≠ []) :
    Calls Tryf.prog 22 #[.pointer (some ⟨b, 0, none⟩)] w fun e w' => e = .returned (.string ⟨l.toArray⟩) ∧ (Lib.IsBuilderF 90 5 B b (Lib.byteCells l) w' ∧ Below B w w') := Any.Builder_String_f Tryf.lays169 Tryf.Builder_Extra_169 B b l w h h0
open Go.RowKit in
/-- (*strings.Builder).String OF A BUILDER THAT HOLDS NO BYTE: the empty string; THE FORM '_f': a builder still. (LAID: no walk: one application.) -/
theorem Tryf.Builder_String_empty_f (B b : Nat) (w : World) (h : Lib.IsBuilderF 90 5 B b [] w) (hBw : B ≤ w.heap.size) :
    Calls Tryf.prog 22 #[.pointer (some ⟨b, 0, none⟩)] w fun e w' => e = .returned (.string ⟨#[]⟩) ∧ (Lib.IsBuilderF 90 5 B b [] w' ∧ Below B w w') := Any.Builder_String_empty_f Tryf.lays169 Tryf.Builder_Extra_169 B b w h hBw
open Go.RowKit in
/-- (*strings.Builder).String: "String returns the accumulated string.": WHATEVER THE BUILDER HOLDS; THE FORM '_f': OF A BUILDER THAT MAY HAVE BEEN READ BEFORE; AND IT IS A BUILDER STILL, holding the same bytes: it can be written on. (LAID: no walk: one application.) -/
theorem Tryf.Builder_String_any_f (B b : Nat) (l : List UInt8) (w : World) (h : Lib.IsBuilderF 90 5 B b (Lib.byteCells l) w) (hBw : B ≤ w.heap.size) :
    Calls Tryf.prog 22 #[.pointer (some ⟨b, 0, none⟩)] w fun e w' => e = .returned (.string ⟨l.toArray⟩) ∧ (Lib.IsBuilderF 90 5 B b (Lib.byteCells l) w' ∧ Below B w w') := Any.Builder_String_any_f Tryf.lays169 Tryf.Builder_Extra_169 B b l w h hBw
open Go.RowKit in
/-- (*strings.Builder).String: "String returns the accumulated string.": OF A BUILDER THAT HOLDS AT LEAST ONE BYTE. ✋ THE MODEL FREEZES THOSE BYTES IN THE BUFFER (unsafe.String): a later write INTO them ends the model's run without an answer; a later append BEHIND them goes on. The statement's order of evaluation is drawn: one draw. THE FORM '_k': OVER 'Lib.IsBuilderF' (a builder that 'String()' may have read), AND WITH THE FRAME THAT REACHES ABOVE THE BUILDER: 'Lib.OthersKept': every block that is not b and is no row of uint8's stands as it stood: the iterator of a range among them. (LAID: no walk: one application.) -/
theorem Tryf.Builder_String_k (B b : Nat) (l : List UInt8) (w : World) (h : Lib.IsBuilderF 90 5 B b (Lib.byteCells l) w) (h0 : l ≠ []) :
    Calls Tryf.prog 22 #[.pointer (some ⟨b, 0, none⟩)] w fun e w' => e = .returned (.string ⟨l.toArray⟩) ∧ (Lib.IsBuilderF 90 5 B b (Lib.byteCells l) w' ∧ Below B w w' ∧ Lib.OthersKept 5 (some b) w w') := Any.Builder_String_k Tryf.lays169 Tryf.Builder_Extra_169 B b l w h h0
open Go.RowKit in
/-- (*strings.Builder).String OF A BUILDER THAT HOLDS NO BYTE: the empty string; THE FORM '_k': OVER 'Lib.IsBuilderF' (a builder that 'String()' may have read), AND WITH THE FRAME THAT REACHES ABOVE THE BUILDER: 'Lib.OthersKept': every block that is not b and is no row of uint8's stands as it stood: the iterator of a range among them. (LAID: no walk: one application.) -/
theorem Tryf.Builder_String_empty_k (B b : Nat) (w : World) (h : Lib.IsBuilderF 90 5 B b [] w) (hBw : B ≤ w.heap.size) :
    Calls Tryf.prog 22 #[.pointer (some ⟨b, 0, none⟩)] w fun e w' => e = .returned (.string ⟨#[]⟩) ∧ (Lib.IsBuilderF 90 5 B b [] w' ∧ Below B w w' ∧ Lib.OthersKept 5 (some b) w w') := Any.Builder_String_empty_k Tryf.lays169 Tryf.Builder_Extra_169 B b w h hBw
open Go.RowKit in
/-- (*strings.Builder).String: "String returns the accumulated string.": WHATEVER THE BUILDER HOLDS; THE FORM '_k': OVER 'Lib.IsBuilderF' (a builder that 'String()' may have read), AND WITH THE FRAME THAT REACHES ABOVE THE BUILDER: 'Lib.OthersKept': every block that is not b and is no row of uint8's stands as it stood: the iterator of a range among them. (LAID: no walk: one application.) -/
theorem Tryf.Builder_String_any_k (B b : Nat) (l : List UInt8) (w : World) (h : Lib.IsBuilderF 90 5 B b (Lib.byteCells l) w) (hBw : B ≤ w.heap.size) :
    Calls Tryf.prog 22 #[.pointer (some ⟨b, 0, none⟩)] w fun e w' => e = .returned (.string ⟨l.toArray⟩) ∧ (Lib.IsBuilderF 90 5 B b (Lib.byteCells l) w' ∧ Below B w w' ∧ Lib.OthersKept 5 (some b) w w') := Any.Builder_String_any_k Tryf.lays169 Tryf.Builder_Extra_169 B b l w h hBw
def Tryf.lays278_ren : Go.Shelf.Ren := ⟨fun | 278 => 50 | n => n, fun | 37 => 88 | 21 => 21 | 51 => 33 | 4 => 4 | 46 => 122 | 5 => 5 | n => n, fun | n => n⟩
theorem Tryf.lays278 : Go.Proofs.Lays.n278 Tryf.prog Tryf.lays278_ren := {
  mixed := by kernel_rfl
  f278 := Tryf.func50.trans (congrArg some (by kernel_rfl))
  t4 := Tryf.underlying4
  a4 := Tryf.isAgg4
  z4 := Tryf.sizeOf4
  v4 := Tryf.zeroValue4
  t5 := Tryf.underlying5
  a5 := Tryf.isAgg5
  z5 := Tryf.sizeOf5
  v5 := Tryf.zeroValue5
  t21 := Tryf.underlying21
  a21 := Tryf.isAgg21
  z21 := Tryf.sizeOf21
  v21 := Tryf.zeroValue21
  t37 := Tryf.underlying88
  a37 := Tryf.isAgg88
  z37 := Tryf.sizeOf88
  v37 := Tryf.zeroValue88
  t46 := Tryf.underlying122
  a46 := Tryf.isAgg122
  z46 := Tryf.sizeOf122
  v46 := Tryf.zeroValue122
  t51 := Tryf.underlying33
  a51 := Tryf.isAgg33
  z51 := Tryf.sizeOf33
  v51 := Tryf.zeroValue33 }
open Go.RowKit in
/-- unicode/utf8.appendRuneNonASCII (what AppendRune calls for all but ASCII), ONTO A ROW OF BYTES THAT THE CALL OWNS: every int32 that is no ASCII rune: 'Lib.runeCells r' goes in behind what the row holds. (LAID: no walk: one application.) -/
theorem Tryf.utf8_appendRuneNonASCII_row (B : Nat) (v : Value) (n : Nat) (xs : List Value) (r : Int) (hr0 : -2147483648 ≤ r) (hr1 : r ≤ 2147483647) (hna : r < 0 ∨ 128 ≤ r) (w : World) (hown : w.ownsRowF B 5 1 v n xs) (hlen : n + 4 ≤ 140737488355328) (hBw : B ≤ w.heap.size) :
    Calls Tryf.prog 50 #[v, .int .i32 r] w fun e w' => ∃ v', e = .returned v' ∧ w'.ownsRowF B 5 1 v' (n + (Lib.runeCells r).length) (xs ++ Lib.runeCells r) ∧ ∃ o, (w.alloc o).grownBy w' v.ownBlock := Any.utf8_appendRuneNonASCII_row Tryf.lays278 (by kernel_rfl) B v n xs r hr0 hr1 hna w hown hlen hBw
def Tryf.lays242_ren : Go.Shelf.Ren := ⟨fun | 242 => 43 | 278 => 50 | n => n, fun | 37 => 88 | 21 => 21 | 51 => 33 | 4 => 4 | 5 => 5 | 46 => 122 | n => n, fun | n => n⟩
theorem Tryf.lays242 : Go.Proofs.Lays.n242 Tryf.prog Tryf.lays242_ren := {
  mixed := by kernel_rfl
  f242 := Tryf.func43.trans (congrArg some (by kernel_rfl))
  f278 := Tryf.func50.trans (congrArg some (by kernel_rfl))
  t4 := Tryf.underlying4
  a4 := Tryf.isAgg4
  z4 := Tryf.sizeOf4
  v4 := Tryf.zeroValue4
  t5 := Tryf.underlying5
  a5 := Tryf.isAgg5
  z5 := Tryf.sizeOf5
  v5 := Tryf.zeroValue5
  t21 := Tryf.underlying21
  a21 := Tryf.isAgg21
  z21 := Tryf.sizeOf21
  v21 := Tryf.zeroValue21
  t37 := Tryf.underlying88
  a37 := Tryf.isAgg88
  z37 := Tryf.sizeOf88
  v37 := Tryf.zeroValue88
  t46 := Tryf.underlying122
  a46 := Tryf.isAgg122
  z46 := Tryf.sizeOf122
  v46 := Tryf.zeroValue122
  t51 := Tryf.underlying33
  a51 := Tryf.isAgg33
  z51 := Tryf.sizeOf33
  v51 := Tryf.zeroValue33 }
open Go.RowKit in
/-- unicode/utf8.AppendRune: "AppendRune appends the UTF-8 encoding of r to the end of p and returns the extended buffer. If the rune is out of range, it appends the encoding of RuneError.": ONTO A ROW OF BYTES THAT THE CALL OWNS (its head frozen or not): EVERY int32: 'Lib.runeCells r' goes in behind what the row holds; the world: one new block (the bytes as the call's variadic argument), then what 'append' does to the row. (LAID: no walk: one application.) -/
theorem Tryf.utf8_AppendRune_row (B : Nat) (v : Value) (n : Nat) (xs : List Value) (r : Int) (hr0 : -2147483648 ≤ r) (hr1 : r ≤ 2147483647) (w : World) (hown : w.ownsRowF B 5 1 v n xs) (hlen : n + 4 ≤ 140737488355328) (hBw : B ≤ w.heap.size) :
    Calls Tryf.prog 43 #[v, .int .i32 r] w fun e w' => ∃ v', e = .returned v' ∧ w'.ownsRowF B 5 1 v' (n + (Lib.runeCells r).length) (xs ++ Lib.runeCells r) ∧ ∃ o, (w.alloc o).grownBy w' v.ownBlock := Any.utf8_AppendRune_row Tryf.lays242 (by kernel_rfl) B v n xs r hr0 hr1 w hown hlen hBw
open Go.RowKit in
/-- unicode/utf8.appendRuneNonASCII (what AppendRune calls for all but ASCII), ONTO A ROW OF BYTES THAT THE CALL OWNS: every int32 that is no ASCII rune: 'Lib.runeCells r' goes in behind what the row holds. (LAID: no walk: one application.) -/
theorem Tryf.utf8_appendRuneNonASCII_plain (B : Nat) (v : Value) (n : Nat) (xs : List Value) (r : Int) (hr0 : -2147483648 ≤ r) (hr1 : r ≤ 2147483647) (hna : r < 0 ∨ 128 ≤ r) (w : World) (hown : w.ownsRow B 5 1 v n xs) (hlen : n + 4 ≤ 140737488355328) (hBw : B ≤ w.heap.size) :
    Calls Tryf.prog 50 #[v, .int .i32 r] w fun e w' => ∃ v', e = .returned v' ∧ w'.ownsRow B 5 1 v' (n + (Lib.runeCells r).length) (xs ++ Lib.runeCells r) ∧ ∃ o, (w.alloc o).grownBy w' v.ownBlock := Any.utf8_appendRuneNonASCII_plain Tryf.lays278 (by kernel_rfl) B v n xs r hr0 hr1 hna w hown hlen hBw
open Go.RowKit in
/-- unicode/utf8.AppendRune: "AppendRune appends the UTF-8 encoding of r to the end of p and returns the extended buffer. If the rune is out of range, it appends the encoding of RuneError.": ONTO A ROW OF BYTES THAT THE CALL OWNS (its head frozen or not): EVERY int32: 'Lib.runeCells r' goes in behind what the row holds; the world: one new block (the bytes as the call's variadic argument), then what 'append' does to the row. (LAID: no walk: one application.) -/
theorem Tryf.utf8_AppendRune_plain (B : Nat) (v : Value) (n : Nat) (xs : List Value) (r : Int) (hr0 : -2147483648 ≤ r) (hr1 : r ≤ 2147483647) (w : World) (hown : w.ownsRow B 5 1 v n xs) (hlen : n + 4 ≤ 140737488355328) (hBw : B ≤ w.heap.size) :
    Calls Tryf.prog 43 #[v, .int .i32 r] w fun e w' => ∃ v', e = .returned v' ∧ w'.ownsRow B 5 1 v' (n + (Lib.runeCells r).length) (xs ++ Lib.runeCells r) ∧ ∃ o, (w.alloc o).grownBy w' v.ownBlock := Any.utf8_AppendRune_plain Tryf.lays242 (by kernel_rfl) B v n xs r hr0 hr1 w hown hlen hBw
open Go.RowKit in
/-- (*strings.Builder).grow (no doc but "grow copies the buffer to a new, larger buffer so that there are at least n bytes of capacity beyond len(b.buf)."): AT A BUILDER WITHOUT A BUFFER: a new row of whatever bytes for its buffer, none of them its own yet. Three draws. (LAID: no walk: one application.) -/
theorem Tryf.Builder_grow_fresh_cap (B b n : Nat) (w : World) (hB : B ≤ b) (hbk : w.heap[b]? = some (.cells #[.pointer (some ⟨b, 0, none⟩), .slice none 0 0] 90 (0, 0))) (hBw : B ≤ w.heap.size) (hn : n ≤ 281474976710656) :
    Calls Tryf.prog 30 #[.pointer (some ⟨b, 0, none⟩), .int .i64 n] w fun e w' => e = .returned (.tuple #[]) ∧ (Lib.BuilderAt 90 5 B b (.pointer (some ⟨b, 0, none⟩)) [] w' ∧ Below B w w') ∧ ∃ p cap, w'.cell? ⟨b, 1, none⟩ = some (.slice p 0 cap) ∧ n ≤ cap := Any.Builder_grow_fresh_cap Tryf.lays241 Tryf.Builder_Extra_241 B b n w hB hbk hBw hn
open Go.RowKit in
/-- (*strings.Builder).Grow AT A BUILDER THAT HAS NOT BEEN WRITTEN ('var b strings.Builder; b.Grow(n)'): "Grow grows b's capacity, if necessary, to guarantee space for another n bytes.": it holds no byte behind it as before it. (LAID: no walk: one application.) -/
theorem Tryf.Builder_Grow_fresh_cap (B b n : Nat) (w : World) (hB : B ≤ b) (hbk : w.heap[b]? = some (.cells #[.pointer none, .slice none 0 0] 90 (0, 0))) (hBw : B ≤ w.heap.size) (hn : n ≤ 281474976710656) :
    Calls Tryf.prog 19 #[.pointer (some ⟨b, 0, none⟩), .int .i64 n] w fun e w' => e = .returned (.tuple #[]) ∧ (Lib.BuilderAt 90 5 B b (.pointer (some ⟨b, 0, none⟩)) [] w' ∧ Below B w w') ∧ ∃ p cap, w'.cell? ⟨b, 1, none⟩ = some (.slice p 0 cap) ∧ n ≤ cap := Any.Builder_Grow_fresh_cap Tryf.lays165 Tryf.Builder_Extra_165 B b n w hB hbk hBw hn
def Tryf.lays217_ren : Go.Shelf.Ren := ⟨fun | 217 => 46 | 266 => 53 | n => n, fun | 9 => 9 | 5 => 5 | 3 => 3 | n => n, fun | n => n⟩
theorem Tryf.lays217 : Go.Proofs.Lays.n217 Tryf.prog Tryf.lays217_ren := {
  mixed := by kernel_rfl
  f217 := Tryf.func46.trans (congrArg some (by kernel_rfl))
  f266 := Tryf.func53.trans (congrArg some (by kernel_rfl))
  t3 := Tryf.underlying3
  a3 := Tryf.isAgg3
  z3 := Tryf.sizeOf3
  v3 := Tryf.zeroValue3
  t5 := Tryf.underlying5
  a5 := Tryf.isAgg5
  z5 := Tryf.sizeOf5
  v5 := Tryf.zeroValue5
  t9 := Tryf.underlying9
  a9 := Tryf.isAgg9
  z9 := Tryf.sizeOf9
  v9 := Tryf.zeroValue9 }
open Go.RowKit Go.Lib in
/-- internal/stringslite.IndexByte (what strings.IndexByte calls): IT RETURNS 'Lib.indexByte s c'; the world is as it was. (LAID: no walk: one application.) -/
theorem Tryf.stringslite_IndexByte (s : ByteArray) (c : Int) (w : World) :
    Calls Tryf.prog 46 #[.string s, .int .u8 c] w fun e w' => e = .returned (.int .i64 (Lib.indexByte s.data.toList c.toNat.toUInt8)) ∧ w' = w := Any.stringslite_IndexByte Tryf.lays217 s c w
def Tryf.lays206_ren : Go.Shelf.Ren := ⟨fun | 206 => 56 | n => n, fun | 9 => 9 | 4 => 4 | 3 => 3 | n => n, fun | n => n⟩
theorem Tryf.lays206 : Go.Proofs.Lays.n206 Tryf.prog Tryf.lays206_ren := {
  mixed := by kernel_rfl
  f206 := Tryf.func56.trans (congrArg some (by kernel_rfl))
  t3 := Tryf.underlying3
  a3 := Tryf.isAgg3
  z3 := Tryf.sizeOf3
  v3 := Tryf.zeroValue3
  t4 := Tryf.underlying4
  a4 := Tryf.isAgg4
  z4 := Tryf.sizeOf4
  v4 := Tryf.zeroValue4
  t9 := Tryf.underlying9
  a9 := Tryf.isAgg9
  z9 := Tryf.sizeOf9
  v9 := Tryf.zeroValue9 }
open Go.RowKit Go.Lib in
/-- internal/stringslite.HasPrefix (what strings.HasPrefix calls). (LAID: no walk: one application.) -/
theorem Tryf.stringslite_HasPrefix (s p : ByteArray) (w : World) :
    Calls Tryf.prog 56 #[.string s, .string p] w fun e w' => e = .returned (.bool (Lib.hasPrefix s.data.toList p.data.toList)) ∧ w' = w := Any.stringslite_HasPrefix Tryf.lays206 s p w
def Tryf.lays99_ren : Go.Shelf.Ren := ⟨fun | 99 => 48 | 206 => 56 | n => n, fun | 9 => 9 | 4 => 4 | 3 => 3 | n => n, fun | n => n⟩
theorem Tryf.lays99 : Go.Proofs.Lays.n99 Tryf.prog Tryf.lays99_ren := {
  mixed := by kernel_rfl
  f99 := Tryf.func48.trans (congrArg some (by kernel_rfl))
  f206 := Tryf.func56.trans (congrArg some (by kernel_rfl))
  t3 := Tryf.underlying3
  a3 := Tryf.isAgg3
  z3 := Tryf.sizeOf3
  v3 := Tryf.zeroValue3
  t4 := Tryf.underlying4
  a4 := Tryf.isAgg4
  z4 := Tryf.sizeOf4
  v4 := Tryf.zeroValue4
  t9 := Tryf.underlying9
  a9 := Tryf.isAgg9
  z9 := Tryf.sizeOf9
  v9 := Tryf.zeroValue9 }
open Go.RowKit Go.Lib in
/-- strings.HasPrefix: "HasPrefix reports whether the string s begins with prefix.": IT RETURNS 'Lib.hasPrefix s prefix'; the world is as it was. (LAID: no walk: one application.) -/
theorem Tryf.strings_HasPrefix (s p : ByteArray) (w : World) :
    Calls Tryf.prog 48 #[.string s, .string p] w fun e w' => e = .returned (.bool (Lib.hasPrefix s.data.toList p.data.toList)) ∧ w' = w := Any.strings_HasPrefix Tryf.lays99 s p w
def Tryf.lays204_ren : Go.Shelf.Ren := ⟨fun | 204 => 24 | 262 => 35 | 313 => 44 | 274 => 51 | 275 => 52 | n => n, fun | 21 => 21 | 4 => 4 | 3 => 3 | 162 => 120 | 203 => 118 | 160 => 129 | 46 => 122 | 0 => 0 | 208 => 140 | 51 => 33 | 206 => 138 | n => n, fun | 13 => 0 | n => n⟩
theorem Tryf.lays204 : Go.Proofs.Lays.n204 Tryf.prog Tryf.lays204_ren := {
  mixed := by kernel_rfl
  f204 := Tryf.func24.trans (congrArg some (by kernel_rfl))
  f262 := Tryf.func35.trans (congrArg some (by kernel_rfl))
  f274 := Tryf.func51.trans (congrArg some (by kernel_rfl))
  f275 := Tryf.func52.trans (congrArg some (by kernel_rfl))
  f313 := Tryf.func44.trans (congrArg some (by kernel_rfl))
  t0 := Tryf.underlying0
  a0 := Tryf.isAgg0
  z0 := Tryf.sizeOf0
  v0 := Tryf.zeroValue0
  t3 := Tryf.underlying3
  a3 := Tryf.isAgg3
  z3 := Tryf.sizeOf3
  v3 := Tryf.zeroValue3
  t4 := Tryf.underlying4
  a4 := Tryf.isAgg4
  z4 := Tryf.sizeOf4
  v4 := Tryf.zeroValue4
  t21 := Tryf.underlying21
  a21 := Tryf.isAgg21
  z21 := Tryf.sizeOf21
  v21 := Tryf.zeroValue21
  t46 := Tryf.underlying122
  a46 := Tryf.isAgg122
  z46 := Tryf.sizeOf122
  v46 := Tryf.zeroValue122
  t51 := Tryf.underlying33
  a51 := Tryf.isAgg33
  z51 := Tryf.sizeOf33
  v51 := Tryf.zeroValue33
  t160 := Tryf.underlying129
  a160 := Tryf.isAgg129
  z160 := Tryf.sizeOf129
  v160 := Tryf.zeroValue129
  t162 := Tryf.underlying120
  a162 := Tryf.isAgg120
  z162 := Tryf.sizeOf120
  v162 := Tryf.zeroValue120
  t203 := Tryf.underlying118
  a203 := Tryf.isAgg118
  z203 := Tryf.sizeOf118
  v203 := Tryf.zeroValue118
  t206 := Tryf.underlying138
  a206 := Tryf.isAgg138
  z206 := Tryf.sizeOf138
  v206 := Tryf.zeroValue138
  t208 := Tryf.underlying140
  a208 := Tryf.isAgg140
  z208 := Tryf.sizeOf140
  v208 := Tryf.zeroValue140
  g13 := by kernel_rfl }
open Go.RowKit Go.Lib in
theorem Tryf.unicode_ToLower (r : Int) (w : World) (h : r ≤ 127) :
    Calls Tryf.prog 24 #[.int .i32 r] w fun e w' => e = .returned (.int .i32 (Lib.toLowerR r)) ∧ w' = w := Any.unicode_ToLower Tryf.lays204 r w h
def Tryf.lays197_ren : Go.Shelf.Ren := ⟨fun | 197 => 31 | 260 => 42 | n => n, fun | 9 => 9 | 21 => 21 | 3 => 3 | 4 => 4 | 5 => 5 | 105 => 104 | 119 => 125 | 0 => 0 | 46 => 122 | 139 => 128 | 138 => 127 | n => n, fun | 3 => 2 | 4 => 3 | n => n⟩
theorem Tryf.lays197 : Go.Proofs.Lays.n197 Tryf.prog Tryf.lays197_ren := {
  mixed := by kernel_rfl
  f197 := Tryf.func31.trans (congrArg some (by kernel_rfl))
  f260 := Tryf.func42.trans (congrArg some (by kernel_rfl))
  t0 := Tryf.underlying0
  a0 := Tryf.isAgg0
  z0 := Tryf.sizeOf0
  v0 := Tryf.zeroValue0
  t3 := Tryf.underlying3
  a3 := Tryf.isAgg3
  z3 := Tryf.sizeOf3
  v3 := Tryf.zeroValue3
  t4 := Tryf.underlying4
  a4 := Tryf.isAgg4
  z4 := Tryf.sizeOf4
  v4 := Tryf.zeroValue4
  t5 := Tryf.underlying5
  a5 := Tryf.isAgg5
  z5 := Tryf.sizeOf5
  v5 := Tryf.zeroValue5
  t9 := Tryf.underlying9
  a9 := Tryf.isAgg9
  z9 := Tryf.sizeOf9
  v9 := Tryf.zeroValue9
  t21 := Tryf.underlying21
  a21 := Tryf.isAgg21
  z21 := Tryf.sizeOf21
  v21 := Tryf.zeroValue21
  t46 := Tryf.underlying122
  a46 := Tryf.isAgg122
  z46 := Tryf.sizeOf122
  v46 := Tryf.zeroValue122
  t105 := Tryf.underlying104
  a105 := Tryf.isAgg104
  z105 := Tryf.sizeOf104
  v105 := Tryf.zeroValue104
  t119 := Tryf.underlying125
  a119 := Tryf.isAgg125
  z119 := Tryf.sizeOf125
  t138 := Tryf.underlying127
  a138 := Tryf.isAgg127
  z138 := Tryf.sizeOf127
  v138 := Tryf.zeroValue127
  t139 := Tryf.underlying128
  a139 := Tryf.isAgg128
  z139 := Tryf.sizeOf128
  v139 := Tryf.zeroValue128
  g3 := by kernel_rfl
  g4 := by kernel_rfl }
open Go.RowKit Go.Lib in
/-- unicode/utf8.DecodeRuneInString: "DecodeRuneInString is like DecodeRune but its input is a string.": ("DecodeRune unpacks the first UTF-8 encoding in p and returns the rune and its width in bytes."): WHERE s BEGINS WITH AN ASCII BYTE x: (x, 1). (LAID: no walk: one application.) -/
theorem Tryf.utf8_DecodeRuneInString_ascii (s : ByteArray) (x : UInt8) (w : World) (h0 : s.data.toList[0]? = some x) (hx : x.toNat < 128) :
    Calls Tryf.prog 31 #[.string s] w fun e w' => e = .returned (.tuple #[.int .i32 x.toNat, .int .i64 1]) ∧ w' = w := Any.utf8_DecodeRuneInString_ascii Tryf.lays197 s x w h0 hx
def Tryf.lays264_ren : Go.Shelf.Ren := ⟨fun | 264 => 55 | n => n, fun | 53 => 134 | 46 => 122 | n => n, fun | n => n⟩
theorem Tryf.lays264 : Go.Proofs.Lays.n264 Tryf.prog Tryf.lays264_ren := {
  mixed := by kernel_rfl
  f264 := Tryf.func55.trans (congrArg some (by kernel_rfl))
  t46 := Tryf.underlying122
  a46 := Tryf.isAgg122
  z46 := Tryf.sizeOf122
  v46 := Tryf.zeroValue122
  t53 := Tryf.underlying134
  a53 := Tryf.isAgg134
  z53 := Tryf.sizeOf134
  v53 := Tryf.zeroValue134 }
open Go.RowKit Go.Lib in
theorem Tryf.bits_Mul64 (x y : Nat) (hx : x < 18446744073709551616) (hy : y < 18446744073709551616) (w : World) :
    Calls Tryf.prog 55 #[.int .u64 x, .int .u64 y] w fun e w' => e = .returned (.tuple #[.int .u64 ((x * y / 18446744073709551616 : Nat) : Int), .int .u64 ((x * y % 18446744073709551616 : Nat) : Int)]) ∧ w' = w := Any.bits_Mul64 Tryf.lays264 x y hx hy w
def Tryf.lays212_ren : Go.Shelf.Ren := ⟨fun | 212 => 47 | 263 => 54 | 264 => 55 | n => n, fun | 46 => 122 | 51 => 33 | 146 => 132 | 53 => 134 | 148 => 135 | n => n, fun | n => n⟩
theorem Tryf.lays212 : Go.Proofs.Lays.n212 Tryf.prog Tryf.lays212_ren := {
  mixed := by kernel_rfl
  f212 := Tryf.func47.trans (congrArg some (by kernel_rfl))
  f263 := Tryf.func54.trans (congrArg some (by kernel_rfl))
  f264 := Tryf.func55.trans (congrArg some (by kernel_rfl))
  t46 := Tryf.underlying122
  a46 := Tryf.isAgg122
  z46 := Tryf.sizeOf122
  v46 := Tryf.zeroValue122
  t51 := Tryf.underlying33
  a51 := Tryf.isAgg33
  z51 := Tryf.sizeOf33
  v51 := Tryf.zeroValue33
  t53 := Tryf.underlying134
  a53 := Tryf.isAgg134
  z53 := Tryf.sizeOf134
  v53 := Tryf.zeroValue134
  t146 := Tryf.underlying132
  a146 := Tryf.isAgg132
  z146 := Tryf.sizeOf132
  v146 := Tryf.zeroValue132
  t148 := Tryf.underlying135
  a148 := Tryf.isAgg135
  z148 := Tryf.sizeOf135
  v148 := Tryf.zeroValue135 }
open Go.RowKit Go.Lib in
/-- math/bits.Mul: "Mul returns the full-width product of x and y": on a machine of 64 bits: Mul64's. (LAID: no walk: one application.) -/
theorem Tryf.bits_Mul (x y : Nat) (hx : x < 18446744073709551616) (hy : y < 18446744073709551616) (w : World) :
    Calls Tryf.prog 47 #[.int .u64 x, .int .u64 y] w fun e w' => e = .returned (.tuple #[.int .u64 ((x * y / 18446744073709551616 : Nat) : Int), .int .u64 ((x * y % 18446744073709551616 : Nat) : Int)]) ∧ w' = w := Any.bits_Mul Tryf.lays212 x y hx hy w
def Tryf.lays105_ren : Go.Shelf.Ren := ⟨fun | 105 => 38 | 212 => 47 | 99 => 48 | 165 => 19 | 166 => 20 | 170 => 49 | 169 => 22 | 263 => 54 | 264 => 55 | 206 => 56 | 240 => 29 | 241 => 30 | 276 => 40 | 277 => 41 | n => n, fun | 9 => 9 | 3 => 3 | 4 => 4 | 20 => 20 | 0 => 0 | 46 => 122 | 109 => 123 | 5 => 5 | 72 => 90 | 76 => 94 | 51 => 33 | 146 => 132 | 53 => 134 | 148 => 135 | 70 => 87 | 37 => 88 | 75 => 93 | 127 => 103 | 164 => 114 | 80 => 97 | n => n, fun | n => n⟩
theorem Tryf.lays105 : Go.Proofs.Lays.n105 Tryf.prog Tryf.lays105_ren := {
  mixed := by kernel_rfl
  f99 := Tryf.func48.trans (congrArg some (by kernel_rfl))
  f105 := Tryf.func38.trans (congrArg some (by kernel_rfl))
  f165 := Tryf.func19.trans (congrArg some (by kernel_rfl))
  f166 := Tryf.func20.trans (congrArg some (by kernel_rfl))
  f169 := Tryf.func22.trans (congrArg some (by kernel_rfl))
  f170 := Tryf.func49.trans (congrArg some (by kernel_rfl))
  f206 := Tryf.func56.trans (congrArg some (by kernel_rfl))
  f212 := Tryf.func47.trans (congrArg some (by kernel_rfl))
  f240 := Tryf.func29.trans (congrArg some (by kernel_rfl))
  f241 := Tryf.func30.trans (congrArg some (by kernel_rfl))
  f263 := Tryf.func54.trans (congrArg some (by kernel_rfl))
  f264 := Tryf.func55.trans (congrArg some (by kernel_rfl))
  f276 := Tryf.func40.trans (congrArg some (by kernel_rfl))
  f277 := Tryf.func41.trans (congrArg some (by kernel_rfl))
  t0 := Tryf.underlying0
  a0 := Tryf.isAgg0
  z0 := Tryf.sizeOf0
  v0 := Tryf.zeroValue0
  t3 := Tryf.underlying3
  a3 := Tryf.isAgg3
  z3 := Tryf.sizeOf3
  v3 := Tryf.zeroValue3
  t4 := Tryf.underlying4
  a4 := Tryf.isAgg4
  z4 := Tryf.sizeOf4
  v4 := Tryf.zeroValue4
  t5 := Tryf.underlying5
  a5 := Tryf.isAgg5
  z5 := Tryf.sizeOf5
  v5 := Tryf.zeroValue5
  t9 := Tryf.underlying9
  a9 := Tryf.isAgg9
  z9 := Tryf.sizeOf9
  v9 := Tryf.zeroValue9
  t20 := Tryf.underlying20
  a20 := Tryf.isAgg20
  z20 := Tryf.sizeOf20
  v20 := Tryf.zeroValue20
  t37 := Tryf.underlying88
  a37 := Tryf.isAgg88
  z37 := Tryf.sizeOf88
  v37 := Tryf.zeroValue88
  t46 := Tryf.underlying122
  a46 := Tryf.isAgg122
  z46 := Tryf.sizeOf122
  v46 := Tryf.zeroValue122
  t51 := Tryf.underlying33
  a51 := Tryf.isAgg33
  z51 := Tryf.sizeOf33
  v51 := Tryf.zeroValue33
  t53 := Tryf.underlying134
  a53 := Tryf.isAgg134
  z53 := Tryf.sizeOf134
  v53 := Tryf.zeroValue134
  t70 := Tryf.underlying87
  a70 := Tryf.isAgg87
  z70 := Tryf.sizeOf87
  v70 := Tryf.zeroValue87
  t72 := Tryf.underlying90
  a72 := Tryf.isAgg90
  z72 := Tryf.sizeOf90
  v72 := Tryf.zeroValue90
  t75 := Tryf.underlying93
  a75 := Tryf.isAgg93
  z75 := Tryf.sizeOf93
  v75 := Tryf.zeroValue93
  t76 := Tryf.underlying94
  a76 := Tryf.isAgg94
  z76 := Tryf.sizeOf94
  v76 := Tryf.zeroValue94
  t109 := Tryf.underlying123
  a109 := Tryf.isAgg123
  z109 := Tryf.sizeOf123
  v109 := Tryf.zeroValue123
  t127 := Tryf.underlying103
  a127 := Tryf.isAgg103
  z127 := Tryf.sizeOf103
  v127 := Tryf.zeroValue103
  t146 := Tryf.underlying132
  a146 := Tryf.isAgg132
  z146 := Tryf.sizeOf132
  v146 := Tryf.zeroValue132
  t148 := Tryf.underlying135
  a148 := Tryf.isAgg135
  z148 := Tryf.sizeOf135
  v148 := Tryf.zeroValue135
  t164 := Tryf.underlying114
  a164 := Tryf.isAgg114
  z164 := Tryf.sizeOf114
  v164 := Tryf.zeroValue114 }
theorem Tryf.Builder_Extra_105 : Builder.Extra Tryf.prog Tryf.lays105_ren := {
  sizeBuilder := by kernel_rfl
  liesBuilder := by kernel_rfl
  t5 := Tryf.underlying5
  a5 := Tryf.isAgg5
  z5 := Tryf.sizeOf5
  v5 := Tryf.zeroValue5
  infoByte := by kernel_rfl
  cellsByte := by kernel_rfl
  sizeByte := by kernel_rfl
  neB5 := by decide }
open Go.RowKit Go.Lib in
/-- THE MAIN CASE: at least two copies of a string that is not empty. (LAID: no walk: one application.) -/
theorem Tryf.strings_Repeat_main (s : ByteArray) (c : Nat) (w : World) (hc2 : 2 ≤ c) (hc : c ≤ 9223372036854775807) (hlen : s.size * c ≤ 140737488355328) (h0 : 0 < s.size) :
    Calls Tryf.prog 38 #[.string s, .int .i64 c] w fun e w' => e = .returned (.string ⟨(Lib.repeatL s.data.toList c).toArray⟩) ∧ Below w.heap.size w w' := Any.strings_Repeat_main Tryf.lays105 Tryf.Builder_Extra_105 s c w hc2 hc hlen h0
open Go.RowKit Go.Lib in
theorem Tryf.strings_Repeat_zero (s : ByteArray) (w : World) :
    Calls Tryf.prog 38 #[.string s, .int .i64 0] w fun e w' => e = .returned (.string ⟨#[]⟩) ∧ w' = w := Any.strings_Repeat_zero Tryf.lays105 s w
open Go.RowKit Go.Lib in
theorem Tryf.strings_Repeat_one (s : ByteArray) (w : World) :
    Calls Tryf.prog 38 #[.string s, .int .i64 1] w fun e w' => e = .returned (.string s) ∧ w' = w := Any.strings_Repeat_one Tryf.lays105 s w
open Go.RowKit Go.Lib in
/-- Copies of the empty string. (LAID: no walk: one application.) -/
theorem Tryf.strings_Repeat_empty (s : ByteArray) (c : Nat) (w : World) (hc2 : 2 ≤ c) (hc : c ≤ 9223372036854775807) (h0 : s.size = 0) :
    Calls Tryf.prog 38 #[.string s, .int .i64 c] w fun e w' => e = .returned (.string ⟨#[]⟩) ∧ w' = w := Any.strings_Repeat_empty Tryf.lays105 s c w hc2 hc h0
open Go.RowKit Go.Lib in
/-- count < 0: "It panics if count is negative". (LAID: no walk: one application.) -/
theorem Tryf.strings_Repeat_negative (s : ByteArray) (c : Int) (w : World) (hc : c < 0) :
    Calls Tryf.prog 38 #[.string s, .int .i64 c] w fun e w' => e = .panicked [{ v := repeatPanic Tryf.lays105_ren "strings: negative Repeat count", recovered := false }] ∧ w' = w := Any.strings_Repeat_negative Tryf.lays105 s c w hc
open Go.RowKit Go.Lib in
/-- len(s) * count is no int: ".. or if the result of (len(s) * count) overflows". (LAID: no walk: one application.) -/
theorem Tryf.strings_Repeat_overflow (s : ByteArray) (c : Nat) (w : World) (hc : c ≤ 9223372036854775807) (hs : s.size ≤ 9223372036854775807) (hbig : 9223372036854775807 < s.size * c) :
    Calls Tryf.prog 38 #[.string s, .int .i64 c] w fun e w' => e = .panicked [{ v := repeatPanic Tryf.lays105_ren "strings: Repeat output length overflow", recovered := false }] ∧ w' = w := Any.strings_Repeat_overflow Tryf.lays105 s c w hc hs hbig
open Go.RowKit Go.Lib in
/-- **strings.Repeat: count ≥ 0, the result within one allocation: count copies of s.** (LAID: no walk: one application.) -/
theorem Tryf.strings_Repeat (s : ByteArray) (c : Nat) (w : World) (hc : c ≤ 9223372036854775807) (hlen : s.size * c ≤ 140737488355328) :
    Calls Tryf.prog 38 #[.string s, .int .i64 c] w fun e w' => e = .returned (.string ⟨(Lib.repeatL s.data.toList c).toArray⟩) ∧ Below w.heap.size w w' := Any.strings_Repeat Tryf.lays105 Tryf.Builder_Extra_105 s c w hc hlen
def Tryf.lays260_ren : Go.Shelf.Ren := ⟨fun | 260 => 42 | n => n, fun | 9 => 9 | 21 => 21 | 3 => 3 | 4 => 4 | 5 => 5 | 119 => 125 | 0 => 0 | 46 => 122 | 139 => 128 | 138 => 127 | n => n, fun | 3 => 2 | 4 => 3 | n => n⟩
theorem Tryf.lays260 : Go.Proofs.Lays.n260 Tryf.prog Tryf.lays260_ren := {
  mixed := by kernel_rfl
  f260 := Tryf.func42.trans (congrArg some (by kernel_rfl))
  t0 := Tryf.underlying0
  a0 := Tryf.isAgg0
  z0 := Tryf.sizeOf0
  v0 := Tryf.zeroValue0
  t3 := Tryf.underlying3
  a3 := Tryf.isAgg3
  z3 := Tryf.sizeOf3
  v3 := Tryf.zeroValue3
  t4 := Tryf.underlying4
  a4 := Tryf.isAgg4
  z4 := Tryf.sizeOf4
  v4 := Tryf.zeroValue4
  t5 := Tryf.underlying5
  a5 := Tryf.isAgg5
  z5 := Tryf.sizeOf5
  v5 := Tryf.zeroValue5
  t9 := Tryf.underlying9
  a9 := Tryf.isAgg9
  z9 := Tryf.sizeOf9
  v9 := Tryf.zeroValue9
  t21 := Tryf.underlying21
  a21 := Tryf.isAgg21
  z21 := Tryf.sizeOf21
  v21 := Tryf.zeroValue21
  t46 := Tryf.underlying122
  a46 := Tryf.isAgg122
  z46 := Tryf.sizeOf122
  v46 := Tryf.zeroValue122
  t119 := Tryf.underlying125
  a119 := Tryf.isAgg125
  z119 := Tryf.sizeOf125
  t138 := Tryf.underlying127
  a138 := Tryf.isAgg127
  z138 := Tryf.sizeOf127
  v138 := Tryf.zeroValue127
  t139 := Tryf.underlying128
  a139 := Tryf.isAgg128
  z139 := Tryf.sizeOf128
  v139 := Tryf.zeroValue128
  g3 := by kernel_rfl
  g4 := by kernel_rfl }
open Go.RowKit Go.Lib in
theorem Tryf.utf8_decodeRuneInStringSlow (s : ByteArray) (w : World) (hT : Lib.Utf8Tabs 2 3 w) :
    Calls Tryf.prog 42 #[.string s] w fun e w' => e = .returned (.tuple #[.int .i32 (Lib.decodeGo s).1, .int .i64 (Lib.decodeGo s).2]) ∧ Below w.heap.size w w' := Any.utf8_decodeRuneInStringSlow Tryf.lays260 s w hT
open Go.RowKit Go.Lib in
/-- **unicode/utf8.DecodeRuneInString AT EVERY STRING.** (LAID: no walk: one application.) -/
theorem Tryf.utf8_DecodeRuneInString (s : ByteArray) (w : World) (hT : Lib.Utf8Tabs 2 3 w) :
    Calls Tryf.prog 31 #[.string s] w fun e w' => e = .returned (.tuple #[.int .i32 (Lib.decodeGo s).1, .int .i64 (Lib.decodeGo s).2]) ∧ Below w.heap.size w w' := Any.utf8_DecodeRuneInString Tryf.lays197 s w hT
def Tryf.lays274_ren : Go.Shelf.Ren := ⟨fun | 274 => 51 | n => n, fun | 21 => 21 | 162 => 120 | 160 => 129 | 3 => 3 | 4 => 4 | 46 => 122 | 0 => 0 | 208 => 140 | 51 => 33 | 206 => 138 | n => n, fun | n => n⟩
theorem Tryf.lays274 : Go.Proofs.Lays.n274 Tryf.prog Tryf.lays274_ren := {
  mixed := by kernel_rfl
  f274 := Tryf.func51.trans (congrArg some (by kernel_rfl))
  t0 := Tryf.underlying0
  a0 := Tryf.isAgg0
  z0 := Tryf.sizeOf0
  v0 := Tryf.zeroValue0
  t3 := Tryf.underlying3
  a3 := Tryf.isAgg3
  z3 := Tryf.sizeOf3
  v3 := Tryf.zeroValue3
  t4 := Tryf.underlying4
  a4 := Tryf.isAgg4
  z4 := Tryf.sizeOf4
  v4 := Tryf.zeroValue4
  t21 := Tryf.underlying21
  a21 := Tryf.isAgg21
  z21 := Tryf.sizeOf21
  v21 := Tryf.zeroValue21
  t46 := Tryf.underlying122
  a46 := Tryf.isAgg122
  z46 := Tryf.sizeOf122
  v46 := Tryf.zeroValue122
  t51 := Tryf.underlying33
  a51 := Tryf.isAgg33
  z51 := Tryf.sizeOf33
  v51 := Tryf.zeroValue33
  t160 := Tryf.underlying129
  a160 := Tryf.isAgg129
  z160 := Tryf.sizeOf129
  v160 := Tryf.zeroValue129
  t162 := Tryf.underlying120
  a162 := Tryf.isAgg120
  z162 := Tryf.sizeOf120
  v162 := Tryf.zeroValue120
  t208 := Tryf.underlying140
  a208 := Tryf.isAgg140
  z208 := Tryf.sizeOf140
  v208 := Tryf.zeroValue140 }
open Go.RowKit Go.Lib in
theorem Tryf.unicode_lookupCaseRange (T : Array CaseRow) (R oR cap : Nat) (r : Int) (w : World) (hT : CaseTab R oR T w) (hok : CaseOk T) (hn : T.size ≤ 1000000000) :
    Calls Tryf.prog 51 #[.int .i32 r, .slice (some ⟨R, oR, none⟩) T.size cap] w fun e w' =>
      e = .returned (match lookupIdx T r (T.size + 1) 0 T.size with | some i => .pointer (some ⟨R, oR + i * 5, none⟩) | none => .pointer none) ∧ w' = w := Any.unicode_lookupCaseRange Tryf.lays274 T R oR cap r w hT hok hn
def Tryf.lays275_ren : Go.Shelf.Ren := ⟨fun | 275 => 52 | n => n, fun | 3 => 3 | 21 => 21 | 160 => 129 | 0 => 0 | 208 => 140 | 206 => 138 | 4 => 4 | 51 => 33 | n => n, fun | n => n⟩
theorem Tryf.lays275 : Go.Proofs.Lays.n275 Tryf.prog Tryf.lays275_ren := {
  mixed := by kernel_rfl
  f275 := Tryf.func52.trans (congrArg some (by kernel_rfl))
  t0 := Tryf.underlying0
  a0 := Tryf.isAgg0
  z0 := Tryf.sizeOf0
  v0 := Tryf.zeroValue0
  t3 := Tryf.underlying3
  a3 := Tryf.isAgg3
  z3 := Tryf.sizeOf3
  v3 := Tryf.zeroValue3
  t4 := Tryf.underlying4
  a4 := Tryf.isAgg4
  z4 := Tryf.sizeOf4
  v4 := Tryf.zeroValue4
  t21 := Tryf.underlying21
  a21 := Tryf.isAgg21
  z21 := Tryf.sizeOf21
  v21 := Tryf.zeroValue21
  t51 := Tryf.underlying33
  a51 := Tryf.isAgg33
  z51 := Tryf.sizeOf33
  v51 := Tryf.zeroValue33
  t160 := Tryf.underlying129
  a160 := Tryf.isAgg129
  z160 := Tryf.sizeOf129
  v160 := Tryf.zeroValue129
  t206 := Tryf.underlying138
  a206 := Tryf.isAgg138
  z206 := Tryf.sizeOf138
  v206 := Tryf.zeroValue138
  t208 := Tryf.underlying140
  a208 := Tryf.isAgg140
  z208 := Tryf.sizeOf140
  v208 := Tryf.zeroValue140 }
open Go.RowKit Go.Lib in
theorem Tryf.unicode_convertCase (c : Nat) (hc : c < 3) (r : Int) (A o : Nat) (x : CaseRow) (w : World) (hlo : (x.1 : Int) ≤ r) (hhi : r ≤ (x.2.1 : Int)) (hH : x.2.1 < 2147483647) (c0 : w.cell? ⟨A, o, none⟩ = some (.int .u32 x.1)) (cD : w.cell? ⟨A, o + 2 + c, none⟩ = some (.int .i32 (x.delta c))) :
    Calls Tryf.prog 52 #[.int .i64 c, .int .i32 r, .pointer (some ⟨A, o, none⟩)] w fun e w' => e = .returned (.int .i32 (wrap32 (convertR c r x))) ∧ ∃ q, w' = w.drewN q := Any.unicode_convertCase Tryf.lays275 c hc r A o x w hlo hhi hH c0 cD
def Tryf.lays313_ren : Go.Shelf.Ren := ⟨fun | 313 => 44 | 274 => 51 | 275 => 52 | n => n, fun | 3 => 3 | 21 => 21 | 162 => 120 | 4 => 4 | 160 => 129 | 46 => 122 | 0 => 0 | 208 => 140 | 51 => 33 | 206 => 138 | n => n, fun | n => n⟩
theorem Tryf.lays313 : Go.Proofs.Lays.n313 Tryf.prog Tryf.lays313_ren := {
  mixed := by kernel_rfl
  f274 := Tryf.func51.trans (congrArg some (by kernel_rfl))
  f275 := Tryf.func52.trans (congrArg some (by kernel_rfl))
  f313 := Tryf.func44.trans (congrArg some (by kernel_rfl))
  t0 := Tryf.underlying0
  a0 := Tryf.isAgg0
  z0 := Tryf.sizeOf0
  v0 := Tryf.zeroValue0
  t3 := Tryf.underlying3
  a3 := Tryf.isAgg3
  z3 := Tryf.sizeOf3
  v3 := Tryf.zeroValue3
  t4 := Tryf.underlying4
  a4 := Tryf.isAgg4
  z4 := Tryf.sizeOf4
  v4 := Tryf.zeroValue4
  t21 := Tryf.underlying21
  a21 := Tryf.isAgg21
  z21 := Tryf.sizeOf21
  v21 := Tryf.zeroValue21
  t46 := Tryf.underlying122
  a46 := Tryf.isAgg122
  z46 := Tryf.sizeOf122
  v46 := Tryf.zeroValue122
  t51 := Tryf.underlying33
  a51 := Tryf.isAgg33
  z51 := Tryf.sizeOf33
  v51 := Tryf.zeroValue33
  t160 := Tryf.underlying129
  a160 := Tryf.isAgg129
  z160 := Tryf.sizeOf129
  v160 := Tryf.zeroValue129
  t162 := Tryf.underlying120
  a162 := Tryf.isAgg120
  z162 := Tryf.sizeOf120
  v162 := Tryf.zeroValue120
  t206 := Tryf.underlying138
  a206 := Tryf.isAgg138
  z206 := Tryf.sizeOf138
  v206 := Tryf.zeroValue138
  t208 := Tryf.underlying140
  a208 := Tryf.isAgg140
  z208 := Tryf.sizeOf140
  v208 := Tryf.zeroValue140 }
open Go.RowKit Go.Lib in
theorem Tryf.unicode_to (c : Nat) (hc : c < 3) (r : Int) (T : Array CaseRow) (R oR cap : Nat) (w : World) (hT : CaseTab R oR T w) (hok : CaseOk2 T) (hn : T.size ≤ 1000000000) :
    Calls Tryf.prog 44 #[.int .i64 c, .int .i32 r, .slice (some ⟨R, oR, none⟩) T.size cap] w fun e w' => e = .returned (.tuple #[.int .i32 (toW T c r), .bool (lookupIdx T r (T.size + 1) 0 T.size).isSome]) ∧ ∃ q, w' = w.drewN q := Any.unicode_to Tryf.lays313 c hc r T R oR cap w hT hok hn
def Tryf.lays262_ren : Go.Shelf.Ren := ⟨fun | 262 => 35 | 313 => 44 | 274 => 51 | 275 => 52 | n => n, fun | 3 => 3 | 21 => 21 | 162 => 120 | 203 => 118 | 4 => 4 | 160 => 129 | 46 => 122 | 0 => 0 | 208 => 140 | 51 => 33 | 206 => 138 | n => n, fun | 13 => 0 | n => n⟩
theorem Tryf.lays262 : Go.Proofs.Lays.n262 Tryf.prog Tryf.lays262_ren := {
  mixed := by kernel_rfl
  f262 := Tryf.func35.trans (congrArg some (by kernel_rfl))
  f274 := Tryf.func51.trans (congrArg some (by kernel_rfl))
  f275 := Tryf.func52.trans (congrArg some (by kernel_rfl))
  f313 := Tryf.func44.trans (congrArg some (by kernel_rfl))
  t0 := Tryf.underlying0
  a0 := Tryf.isAgg0
  z0 := Tryf.sizeOf0
  v0 := Tryf.zeroValue0
  t3 := Tryf.underlying3
  a3 := Tryf.isAgg3
  z3 := Tryf.sizeOf3
  v3 := Tryf.zeroValue3
  t4 := Tryf.underlying4
  a4 := Tryf.isAgg4
  z4 := Tryf.sizeOf4
  v4 := Tryf.zeroValue4
  t21 := Tryf.underlying21
  a21 := Tryf.isAgg21
  z21 := Tryf.sizeOf21
  v21 := Tryf.zeroValue21
  t46 := Tryf.underlying122
  a46 := Tryf.isAgg122
  z46 := Tryf.sizeOf122
  v46 := Tryf.zeroValue122
  t51 := Tryf.underlying33
  a51 := Tryf.isAgg33
  z51 := Tryf.sizeOf33
  v51 := Tryf.zeroValue33
  t160 := Tryf.underlying129
  a160 := Tryf.isAgg129
  z160 := Tryf.sizeOf129
  v160 := Tryf.zeroValue129
  t162 := Tryf.underlying120
  a162 := Tryf.isAgg120
  z162 := Tryf.sizeOf120
  v162 := Tryf.zeroValue120
  t203 := Tryf.underlying118
  a203 := Tryf.isAgg118
  z203 := Tryf.sizeOf118
  v203 := Tryf.zeroValue118
  t206 := Tryf.underlying138
  a206 := Tryf.isAgg138
  z206 := Tryf.sizeOf138
  v206 := Tryf.zeroValue138
  t208 := Tryf.underlying140
  a208 := Tryf.isAgg140
  z208 := Tryf.sizeOf140
  v208 := Tryf.zeroValue140
  g13 := by kernel_rfl }
open Go.RowKit Go.Lib in
theorem Tryf.unicode_To (c : Nat) (hc : c < 3) (r : Int) (T : Array CaseRow) (w : World) (hV : CaseVar 0 T w) (hok : CaseOk2 T) (hn : T.size ≤ 1000000000) :
    Calls Tryf.prog 35 #[.int .i64 c, .int .i32 r] w fun e w' => e = .returned (.int .i32 (toW T c r)) ∧ ∃ q, w' = w.drewN q := Any.unicode_To Tryf.lays262 c hc r T w hV hok hn
open Go.RowKit Go.Lib in
theorem Tryf.unicode_ToLower_any (r : Int) (T : Array CaseRow) (w : World) (hV : CaseVar 0 T w) (hok : CaseOk2 T) (hn : T.size ≤ 1000000000) :
    Calls Tryf.prog 24 #[.int .i32 r] w fun e w' => e = .returned (.int .i32 (Lib.toLowerW T r)) ∧ ∃ q, w' = w.drewN q := Any.unicode_ToLower_any Tryf.lays204 r T w hV hok hn
open Go.RowKit Go.Lib in
theorem Tryf.unicode_ToLower_laid (r : Int) (w : World) (hV : CaseVar 0 caseA w) :
    Calls Tryf.prog 24 #[.int .i32 r] w fun e w' => e = .returned (.int .i32 (toLowerU r)) ∧ ∃ q, w' = w.drewN q := Any.unicode_ToLower_laid Tryf.lays204 r w hV
def Tryf.lays270_ren : Go.Shelf.Ren := ⟨fun | 270 => 34 | n => n, fun | 70 => 87 | 3 => 3 | 0 => 0 | 72 => 90 | 37 => 88 | 5 => 5 | n => n, fun | n => n⟩
theorem Tryf.lays270 : Go.Proofs.Lays.n270 Tryf.prog Tryf.lays270_ren := {
  mixed := by kernel_rfl
  f270 := Tryf.func34.trans (congrArg some (by kernel_rfl))
  t0 := Tryf.underlying0
  a0 := Tryf.isAgg0
  z0 := Tryf.sizeOf0
  v0 := Tryf.zeroValue0
  t3 := Tryf.underlying3
  a3 := Tryf.isAgg3
  z3 := Tryf.sizeOf3
  v3 := Tryf.zeroValue3
  t37 := Tryf.underlying88
  a37 := Tryf.isAgg88
  z37 := Tryf.sizeOf88
  v37 := Tryf.zeroValue88
  t70 := Tryf.underlying87
  a70 := Tryf.isAgg87
  z70 := Tryf.sizeOf87
  v70 := Tryf.zeroValue87
  t72 := Tryf.underlying90
  a72 := Tryf.isAgg90
  z72 := Tryf.sizeOf90
  v72 := Tryf.zeroValue90 }
open Go.RowKit Go.Lib in
/-- (*strings.Builder).Cap: "Cap returns the capacity of the builder's underlying byte slice." (LAID: no walk: one application.) -/
theorem Tryf.Builder_Cap_cell (b : Nat) (p : Option Addr) (n cap : Nat) (w : World) (c1 : w.cell? ⟨b, 1, none⟩ = some (.slice p n cap)) :
    Calls Tryf.prog 34 #[.pointer (some ⟨b, 0, none⟩)] w fun e w' => e = .returned (.int .i64 cap) ∧ w' = w := Any.Builder_Cap_cell Tryf.lays270 b p n cap w c1
def Tryf.lays230_ren : Go.Shelf.Ren := ⟨fun | 230 => 23 | 197 => 31 | 118 => 32 | 165 => 19 | 166 => 20 | 168 => 33 | 270 => 34 | 167 => 21 | 169 => 22 | 260 => 42 | 240 => 29 | 241 => 30 | 242 => 43 | 276 => 40 | 277 => 41 | 278 => 50 | n => n, fun | 107 => 99 | 9 => 9 | 72 => 90 | 0 => 0 | 4 => 4 | 3 => 3 | 21 => 21 | 105 => 104 | 76 => 94 | 5 => 5 | 75 => 93 | 70 => 87 | 20 => 20 | 37 => 88 | 127 => 103 | 119 => 125 | 46 => 122 | 139 => 128 | 138 => 127 | 164 => 114 | 51 => 33 | 80 => 97 | n => n, fun | 3 => 2 | 4 => 3 | n => n⟩
theorem Tryf.lays230 : Go.Proofs.Lays.n230 Tryf.prog Tryf.lays230_ren := {
  mixed := by kernel_rfl
  f118 := Tryf.func32.trans (congrArg some (by kernel_rfl))
  f165 := Tryf.func19.trans (congrArg some (by kernel_rfl))
  f166 := Tryf.func20.trans (congrArg some (by kernel_rfl))
  f167 := Tryf.func21.trans (congrArg some (by kernel_rfl))
  f168 := Tryf.func33.trans (congrArg some (by kernel_rfl))
  f169 := Tryf.func22.trans (congrArg some (by kernel_rfl))
  f197 := Tryf.func31.trans (congrArg some (by kernel_rfl))
  f230 := Tryf.func23.trans (congrArg some (by kernel_rfl))
  f240 := Tryf.func29.trans (congrArg some (by kernel_rfl))
  f241 := Tryf.func30.trans (congrArg some (by kernel_rfl))
  f242 := Tryf.func43.trans (congrArg some (by kernel_rfl))
  f260 := Tryf.func42.trans (congrArg some (by kernel_rfl))
  f270 := Tryf.func34.trans (congrArg some (by kernel_rfl))
  f276 := Tryf.func40.trans (congrArg some (by kernel_rfl))
  f277 := Tryf.func41.trans (congrArg some (by kernel_rfl))
  f278 := Tryf.func50.trans (congrArg some (by kernel_rfl))
  t0 := Tryf.underlying0
  a0 := Tryf.isAgg0
  z0 := Tryf.sizeOf0
  v0 := Tryf.zeroValue0
  t3 := Tryf.underlying3
  a3 := Tryf.isAgg3
  z3 := Tryf.sizeOf3
  v3 := Tryf.zeroValue3
  t4 := Tryf.underlying4
  a4 := Tryf.isAgg4
  z4 := Tryf.sizeOf4
  v4 := Tryf.zeroValue4
  t5 := Tryf.underlying5
  a5 := Tryf.isAgg5
  z5 := Tryf.sizeOf5
  v5 := Tryf.zeroValue5
  t9 := Tryf.underlying9
  a9 := Tryf.isAgg9
  z9 := Tryf.sizeOf9
  v9 := Tryf.zeroValue9
  t20 := Tryf.underlying20
  a20 := Tryf.isAgg20
  z20 := Tryf.sizeOf20
  v20 := Tryf.zeroValue20
  t21 := Tryf.underlying21
  a21 := Tryf.isAgg21
  z21 := Tryf.sizeOf21
  v21 := Tryf.zeroValue21
  t37 := Tryf.underlying88
  a37 := Tryf.isAgg88
  z37 := Tryf.sizeOf88
  v37 := Tryf.zeroValue88
  t46 := Tryf.underlying122
  a46 := Tryf.isAgg122
  z46 := Tryf.sizeOf122
  v46 := Tryf.zeroValue122
  t51 := Tryf.underlying33
  a51 := Tryf.isAgg33
  z51 := Tryf.sizeOf33
  v51 := Tryf.zeroValue33
  t70 := Tryf.underlying87
  a70 := Tryf.isAgg87
  z70 := Tryf.sizeOf87
  v70 := Tryf.zeroValue87
  t72 := Tryf.underlying90
  a72 := Tryf.isAgg90
  z72 := Tryf.sizeOf90
  v72 := Tryf.zeroValue90
  t75 := Tryf.underlying93
  a75 := Tryf.isAgg93
  z75 := Tryf.sizeOf93
  v75 := Tryf.zeroValue93
  t76 := Tryf.underlying94
  a76 := Tryf.isAgg94
  z76 := Tryf.sizeOf94
  v76 := Tryf.zeroValue94
  t105 := Tryf.underlying104
  a105 := Tryf.isAgg104
  z105 := Tryf.sizeOf104
  v105 := Tryf.zeroValue104
  t107 := Tryf.underlying99
  a107 := Tryf.isAgg99
  z107 := Tryf.sizeOf99
  v107 := Tryf.zeroValue99
  t119 := Tryf.underlying125
  a119 := Tryf.isAgg125
  z119 := Tryf.sizeOf125
  t127 := Tryf.underlying103
  a127 := Tryf.isAgg103
  z127 := Tryf.sizeOf103
  v127 := Tryf.zeroValue103
  t138 := Tryf.underlying127
  a138 := Tryf.isAgg127
  z138 := Tryf.sizeOf127
  v138 := Tryf.zeroValue127
  t139 := Tryf.underlying128
  a139 := Tryf.isAgg128
  z139 := Tryf.sizeOf128
  v139 := Tryf.zeroValue128
  t164 := Tryf.underlying114
  a164 := Tryf.isAgg114
  z164 := Tryf.sizeOf114
  v164 := Tryf.zeroValue114
  g3 := by kernel_rfl
  g4 := by kernel_rfl }
theorem Tryf.Builder_Extra_230 : Builder.Extra Tryf.prog Tryf.lays230_ren := {
  sizeBuilder := by kernel_rfl
  liesBuilder := by kernel_rfl
  t5 := Tryf.underlying5
  a5 := Tryf.isAgg5
  z5 := Tryf.sizeOf5
  v5 := Tryf.zeroValue5
  infoByte := by kernel_rfl
  cellsByte := by kernel_rfl
  sizeByte := by kernel_rfl
  neB5 := by decide }
open Go.RowKit Go.Lib in
theorem Tryf.strings_Map_runes (g : Nat) (lb : Array Value) (eg : ∀ args w, (callFunc g args).run Tryf.prog w = .ok (.enter g args) w) (f : Int → Int) (s : ByteArray) (w : World) (hs : s.size < 35184372088832) (hf : MapAtRunes Tryf.prog g lb f w) (hnn : ∀ x : Nat, x ≤ 1114111 → 0 ≤ f x ∧ f x ≤ 2147483647) (hT : Lib.Utf8Tabs 2 3 w) :
    Calls Tryf.prog 23 #[.func (.func g) #[] lb, .string s] w fun e w' => e = .returned (.string ⟨(Lib.mapD f s.data.toList).toArray⟩) ∧ Below w.heap.size w w' := Any.strings_Map_runes Tryf.lays230 Tryf.Builder_Extra_230 g lb eg f s w hs hf hnn hT
open Go.RowKit Go.Lib in
theorem Tryf.strings_ToLower_beyond (s : ByteArray) (w : World) (hs : s.size < 35184372088832) (hhigh : ∃ (j : Nat) (b : UInt8), s.data.toList[j]? = some b ∧ 128 ≤ b.toNat) (hV : CaseVar 0 caseA w) (hT : Lib.Utf8Tabs 2 3 w) :
    Calls Tryf.prog 12 #[.string s] w fun e w' => e = .returned (.string ⟨(Lib.toLowerD s.data.toList).toArray⟩) ∧ Below w.heap.size w w' := Any.strings_ToLower_beyond Tryf.lays159 Tryf.Builder_Extra_159 s w hs hhigh hV hT
open Go.RowKit Go.Lib in
/-- **strings.ToLower AT EVERY STRING, VALID UTF-8 OR NOT.** (LAID: no walk: one application.) -/
theorem Tryf.strings_ToLower_any (s : ByteArray) (w : World) (hs : s.size < 35184372088832) (hV : CaseVar 0 caseA w) (hT : Lib.Utf8Tabs 2 3 w) :
    Calls Tryf.prog 12 #[.string s] w fun e w' => e = .returned (.string ⟨(Lib.toLowerD s.data.toList).toArray⟩) ∧ Below w.heap.size w w' := Any.strings_ToLower_any Tryf.lays159 Tryf.Builder_Extra_159 s w hs hV hT
open Go.RowKit Go.Lib in
/-- **strings.Map(mapping, s) AT EVERY STRING, AT WHATEVER FUNCTION VALUE: IT MAY DROP RUNES (a negative result); IT MAY GROW THE HEAP.** (LAID: no walk: one application.) -/
theorem Tryf.strings_Map_grows (g : Nat) (lb : Array Value) (eg : ∀ args w, (callFunc g args).run Tryf.prog w = .ok (.enter g args) w) (f : Int → Int) (s : ByteArray) (w : World) (hs : s.size < 35184372088832) (hf : MapGrows Tryf.prog g lb f w) (hnn : ∀ x : Nat, x ≤ 1114111 → -2147483648 ≤ f x ∧ f x ≤ 2147483647) (hT : Lib.Utf8Tabs 2 3 w) :
    Calls Tryf.prog 23 #[.func (.func g) #[] lb, .string s] w fun e w' => e = .returned (.string ⟨(Lib.mapD f s.data.toList).toArray⟩) ∧ Below w.heap.size w w' := Any.strings_Map_grows Tryf.lays230 Tryf.Builder_Extra_230 g lb eg f s w hs hf hnn hT
end Go.Proofs
