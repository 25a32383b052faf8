/-
  DERIVED: THE SHELF's CONTRACTS AT THIS DUMP, IN PLAIN WORDS (tools/lay-plain.mjs out of 'TryfShelf.lean', which tools/lay-shelf.mjs wrote): THE SAME DECLARATIONS UNDER THE SAME NAMES: 'import', 'namespace', 'open', 'def', 'theorem' AND NOTHING ELSE: no command of the shelf's: FOR A HAND-IN. Each laying: the table of numbers ('.._ren') and one theorem, a field a fact of the dump's own or the kernel's comparison; each contract: ONE APPLICATION.
-/
import Derived.Shelf.Strings.Builder1
import Derived.Shelf.Strings.Builder2
import Derived.Shelf.Strings.OnBuilder
import Derived.Shelf.Small.Bits
import Derived.Shelf.Strings.BuilderF
import Derived.Shelf.Strings.BuilderK
import Derived.Shelf.Strings.Builder2Cap
import Derived.Shelf.Strconv.Itoa0
import Derived.Shelf.Sort.Plain
import Derived.Shelf.Strings.LastIndex
import Derived.Shelf.Strings.BuilderCap
import Derived.Shelf.Slices.In.SortNone
import Derived.Shelf.Slices.In.SortNone2
import Derived.Ground.PaProg
import Derived.Shelf.Path.Small
import Derived.Shelf.Path.LazyBuf
import Derived.Shelf.Path.CleanRel
import Derived.Shelf.Path.CleanAbs
import Derived.Shelf.Path.Clean
import Derived.Shelf.Path.Join
import Derived.Shelf.Path.CleanRules
import Derived.Shelf.Path.JoinRules
import Derived.Test.YtpjpdeecpobmlaaFmtProg
namespace Go.Proofs
open Go.Shelf
def Tryf.lays169_ren : Go.Shelf.Ren := ⟨fun | 169 => 23 | n => n, fun | 70 => 31 | 9 => 9 | 0 => 0 | 72 => 33 | 37 => 26 | 127 => 50 | 3 => 3 | 5 => 5 | n => n, fun | n => n⟩
theorem Tryf.lays169 : Go.Proofs.Lays.n169 Tryf.prog Tryf.lays169_ren := {
  mixed := by kernel_rfl
  f169 := Tryf.func23.trans (congrArg some (by kernel_rfl))
  t0 := Tryf.underlying0
  a0 := Tryf.isAgg0
  z0 := Tryf.sizeOf0
  v0 := Tryf.zeroValue0
  t3 := Tryf.underlying3
  a3 := Tryf.isAgg3
  z3 := Tryf.sizeOf3
  v3 := Tryf.zeroValue3
  t9 := Tryf.underlying9
  a9 := Tryf.isAgg9
  z9 := Tryf.sizeOf9
  v9 := Tryf.zeroValue9
  t37 := Tryf.underlying26
  a37 := Tryf.isAgg26
  z37 := Tryf.sizeOf26
  v37 := Tryf.zeroValue26
  t70 := Tryf.underlying31
  a70 := Tryf.isAgg31
  z70 := Tryf.sizeOf31
  v70 := Tryf.zeroValue31
  t72 := Tryf.underlying33
  a72 := Tryf.isAgg33
  z72 := Tryf.sizeOf33
  v72 := Tryf.zeroValue33
  t127 := Tryf.underlying50
  a127 := Tryf.isAgg50
  z127 := Tryf.sizeOf50
  v127 := Tryf.zeroValue50 }
theorem Tryf.Builder_Extra_169 : Builder.Extra Tryf.prog Tryf.lays169_ren := {
  sizeBuilder := by kernel_rfl
  liesBuilder := by kernel_rfl
  t5 := Tryf.underlying5
  a5 := Tryf.isAgg5
  z5 := Tryf.sizeOf5
  v5 := Tryf.zeroValue5
  infoByte := by kernel_rfl
  cellsByte := by kernel_rfl
  sizeByte := by kernel_rfl
  neB5 := by decide }
open Go.RowKit in
/-- (*strings.Builder).String: "String returns the accumulated string.": OF A BUILDER THAT HOLDS AT LEAST ONE BYTE. ✋ THE MODEL FREEZES THOSE BYTES IN THE BUFFER (unsafe.String): a later write INTO them ends the model's run without an answer; a later append BEHIND them goes on. The statement's order of evaluation is drawn: one draw. (LAID: no walk: one application.) -/
theorem Tryf.Builder_String (B b : Nat) (l : List UInt8) (w : World) (h : Lib.IsBuilder 33 5 B b (Lib.byteCells l) w) (h0 : l ≠ []) :
    Calls Tryf.prog 23 #[.pointer (some ⟨b, 0, none⟩)] w fun e w' => e = .returned (.string ⟨l.toArray⟩) ∧ Below B w w' := Any.Builder_String Tryf.lays169 Tryf.Builder_Extra_169 B b l w h h0
open Go.RowKit in
/-- (*strings.Builder).String OF A BUILDER THAT HOLDS NO BYTE: the empty string. (Its buffer is nil, or a row of which it has taken nothing yet; where that row has NO capacity the model lays one new block for unsafe.SliceData's 'some address'.) One draw. (LAID: no walk: one application.) -/
theorem Tryf.Builder_String_empty (B b : Nat) (w : World) (h : Lib.IsBuilder 33 5 B b [] w) (hBw : B ≤ w.heap.size) :
    Calls Tryf.prog 23 #[.pointer (some ⟨b, 0, none⟩)] w fun e w' => e = .returned (.string ⟨#[]⟩) ∧ Below B w w' := Any.Builder_String_empty Tryf.lays169 Tryf.Builder_Extra_169 B b w h hBw
open Go.RowKit in
/-- (*strings.Builder).String: "String returns the accumulated string.": WHATEVER THE BUILDER HOLDS. (LAID: no walk: one application.) -/
theorem Tryf.Builder_String_any (B b : Nat) (l : List UInt8) (w : World) (h : Lib.IsBuilder 33 5 B b (Lib.byteCells l) w) (hBw : B ≤ w.heap.size) :
    Calls Tryf.prog 23 #[.pointer (some ⟨b, 0, none⟩)] w fun e w' => e = .returned (.string ⟨l.toArray⟩) ∧ Below B w w' := Any.Builder_String_any Tryf.lays169 Tryf.Builder_Extra_169 B b l w h hBw
def Tryf.lays241_ren : Go.Shelf.Ren := ⟨fun | 241 => 32 | 277 => 39 | n => n, fun | 70 => 31 | 3 => 3 | 0 => 0 | 72 => 33 | 37 => 26 | 5 => 5 | n => n, fun | n => n⟩
theorem Tryf.lays241 : Go.Proofs.Lays.n241 Tryf.prog Tryf.lays241_ren := {
  mixed := by kernel_rfl
  f241 := Tryf.func32.trans (congrArg some (by kernel_rfl))
  f277 := Tryf.func39.trans (congrArg some (by kernel_rfl))
  t0 := Tryf.underlying0
  a0 := Tryf.isAgg0
  z0 := Tryf.sizeOf0
  v0 := Tryf.zeroValue0
  t3 := Tryf.underlying3
  a3 := Tryf.isAgg3
  z3 := Tryf.sizeOf3
  v3 := Tryf.zeroValue3
  t37 := Tryf.underlying26
  a37 := Tryf.isAgg26
  z37 := Tryf.sizeOf26
  v37 := Tryf.zeroValue26
  t70 := Tryf.underlying31
  a70 := Tryf.isAgg31
  z70 := Tryf.sizeOf31
  v70 := Tryf.zeroValue31
  t72 := Tryf.underlying33
  a72 := Tryf.isAgg33
  z72 := Tryf.sizeOf33
  v72 := Tryf.zeroValue33 }
theorem Tryf.Builder_Extra_241 : Builder.Extra Tryf.prog Tryf.lays241_ren := {
  sizeBuilder := by kernel_rfl
  liesBuilder := by kernel_rfl
  t5 := Tryf.underlying5
  a5 := Tryf.isAgg5
  z5 := Tryf.sizeOf5
  v5 := Tryf.zeroValue5
  infoByte := by kernel_rfl
  cellsByte := by kernel_rfl
  sizeByte := by kernel_rfl
  neB5 := by decide }
open Go.RowKit in
/-- (*strings.Builder).grow (no doc but "grow copies the buffer to a new, larger buffer so that there are at least n bytes of capacity beyond len(b.buf)."): AT A BUILDER WITHOUT A BUFFER: a new row of whatever bytes for its buffer, none of them its own yet. Three draws. (LAID: no walk: one application.) -/
theorem Tryf.Builder_grow_fresh (B b n : Nat) (w : World) (hB : B ≤ b) (hbk : w.heap[b]? = some (.cells #[.pointer (some ⟨b, 0, none⟩), .slice none 0 0] 33 (0, 0))) (hBw : B ≤ w.heap.size) (hn : n ≤ 281474976710656) :
    Calls Tryf.prog 32 #[.pointer (some ⟨b, 0, none⟩), .int .i64 n] w fun e w' => e = .returned (.tuple #[]) ∧ (Lib.BuilderAt 33 5 B b (.pointer (some ⟨b, 0, none⟩)) [] w' ∧ Below B w w') := Any.Builder_grow_fresh Tryf.lays241 Tryf.Builder_Extra_241 B b n w hB hbk hBw hn
def Tryf.lays165_ren : Go.Shelf.Ren := ⟨fun | 165 => 27 | 240 => 24 | 241 => 32 | 276 => 31 | 277 => 39 | n => n, fun | 70 => 31 | 3 => 3 | 0 => 0 | 4 => 4 | 9 => 9 | 20 => 20 | 72 => 33 | 37 => 26 | 164 => 51 | 5 => 5 | n => n, fun | n => n⟩
theorem Tryf.lays165 : Go.Proofs.Lays.n165 Tryf.prog Tryf.lays165_ren := {
  mixed := by kernel_rfl
  f165 := Tryf.func27.trans (congrArg some (by kernel_rfl))
  f240 := Tryf.func24.trans (congrArg some (by kernel_rfl))
  f241 := Tryf.func32.trans (congrArg some (by kernel_rfl))
  f276 := Tryf.func31.trans (congrArg some (by kernel_rfl))
  f277 := Tryf.func39.trans (congrArg some (by kernel_rfl))
  t0 := Tryf.underlying0
  a0 := Tryf.isAgg0
  z0 := Tryf.sizeOf0
  v0 := Tryf.zeroValue0
  t3 := Tryf.underlying3
  a3 := Tryf.isAgg3
  z3 := Tryf.sizeOf3
  v3 := Tryf.zeroValue3
  t4 := Tryf.underlying4
  a4 := Tryf.isAgg4
  z4 := Tryf.sizeOf4
  v4 := Tryf.zeroValue4
  t9 := Tryf.underlying9
  a9 := Tryf.isAgg9
  z9 := Tryf.sizeOf9
  v9 := Tryf.zeroValue9
  t20 := Tryf.underlying20
  a20 := Tryf.isAgg20
  z20 := Tryf.sizeOf20
  v20 := Tryf.zeroValue20
  t37 := Tryf.underlying26
  a37 := Tryf.isAgg26
  z37 := Tryf.sizeOf26
  v37 := Tryf.zeroValue26
  t70 := Tryf.underlying31
  a70 := Tryf.isAgg31
  z70 := Tryf.sizeOf31
  v70 := Tryf.zeroValue31
  t72 := Tryf.underlying33
  a72 := Tryf.isAgg33
  z72 := Tryf.sizeOf33
  v72 := Tryf.zeroValue33
  t164 := Tryf.underlying51
  a164 := Tryf.isAgg51
  z164 := Tryf.sizeOf51
  v164 := Tryf.zeroValue51 }
theorem Tryf.Builder_Extra_165 : Builder.Extra Tryf.prog Tryf.lays165_ren := {
  sizeBuilder := by kernel_rfl
  liesBuilder := by kernel_rfl
  t5 := Tryf.underlying5
  a5 := Tryf.isAgg5
  z5 := Tryf.sizeOf5
  v5 := Tryf.zeroValue5
  infoByte := by kernel_rfl
  cellsByte := by kernel_rfl
  sizeByte := by kernel_rfl
  neB5 := by decide }
open Go.RowKit in
/-- (*strings.Builder).Grow AT A BUILDER THAT HAS NOT BEEN WRITTEN ('var b strings.Builder; b.Grow(n)'): "Grow grows b's capacity, if necessary, to guarantee space for another n bytes.": it holds no byte behind it as before it. (LAID: no walk: one application.) -/
theorem Tryf.Builder_Grow_fresh (B b n : Nat) (w : World) (hB : B ≤ b) (hbk : w.heap[b]? = some (.cells #[.pointer none, .slice none 0 0] 33 (0, 0))) (hBw : B ≤ w.heap.size) (hn : n ≤ 281474976710656) :
    Calls Tryf.prog 27 #[.pointer (some ⟨b, 0, none⟩), .int .i64 n] w fun e w' => e = .returned (.tuple #[]) ∧ (Lib.BuilderAt 33 5 B b (.pointer (some ⟨b, 0, none⟩)) [] w' ∧ Below B w w') := Any.Builder_Grow_fresh Tryf.lays165 Tryf.Builder_Extra_165 B b n w hB hbk hBw hn
def Tryf.lays156_ren : Go.Shelf.Ren := ⟨fun | 156 => 18 | 165 => 27 | 166 => 14 | 169 => 23 | 240 => 24 | 241 => 32 | 276 => 31 | 277 => 39 | n => n, fun | 31 => 22 | 9 => 9 | 3 => 3 | 4 => 4 | 0 => 0 | 20 => 20 | 72 => 33 | 76 => 36 | 70 => 31 | 37 => 26 | 75 => 35 | 127 => 50 | 164 => 51 | 5 => 5 | 80 => 44 | n => n, fun | n => n⟩
theorem Tryf.lays156 : Go.Proofs.Lays.n156 Tryf.prog Tryf.lays156_ren := {
  mixed := by kernel_rfl
  f156 := Tryf.func18.trans (congrArg some (by kernel_rfl))
  f165 := Tryf.func27.trans (congrArg some (by kernel_rfl))
  f166 := Tryf.func14.trans (congrArg some (by kernel_rfl))
  f169 := Tryf.func23.trans (congrArg some (by kernel_rfl))
  f240 := Tryf.func24.trans (congrArg some (by kernel_rfl))
  f241 := Tryf.func32.trans (congrArg some (by kernel_rfl))
  f276 := Tryf.func31.trans (congrArg some (by kernel_rfl))
  f277 := Tryf.func39.trans (congrArg some (by kernel_rfl))
  t0 := Tryf.underlying0
  a0 := Tryf.isAgg0
  z0 := Tryf.sizeOf0
  v0 := Tryf.zeroValue0
  t3 := Tryf.underlying3
  a3 := Tryf.isAgg3
  z3 := Tryf.sizeOf3
  v3 := Tryf.zeroValue3
  t4 := Tryf.underlying4
  a4 := Tryf.isAgg4
  z4 := Tryf.sizeOf4
  v4 := Tryf.zeroValue4
  t9 := Tryf.underlying9
  a9 := Tryf.isAgg9
  z9 := Tryf.sizeOf9
  v9 := Tryf.zeroValue9
  t20 := Tryf.underlying20
  a20 := Tryf.isAgg20
  z20 := Tryf.sizeOf20
  v20 := Tryf.zeroValue20
  t31 := Tryf.underlying22
  a31 := Tryf.isAgg22
  z31 := Tryf.sizeOf22
  v31 := Tryf.zeroValue22
  t37 := Tryf.underlying26
  a37 := Tryf.isAgg26
  z37 := Tryf.sizeOf26
  v37 := Tryf.zeroValue26
  t70 := Tryf.underlying31
  a70 := Tryf.isAgg31
  z70 := Tryf.sizeOf31
  v70 := Tryf.zeroValue31
  t72 := Tryf.underlying33
  a72 := Tryf.isAgg33
  z72 := Tryf.sizeOf33
  v72 := Tryf.zeroValue33
  t75 := Tryf.underlying35
  a75 := Tryf.isAgg35
  z75 := Tryf.sizeOf35
  v75 := Tryf.zeroValue35
  t76 := Tryf.underlying36
  a76 := Tryf.isAgg36
  z76 := Tryf.sizeOf36
  v76 := Tryf.zeroValue36
  t127 := Tryf.underlying50
  a127 := Tryf.isAgg50
  z127 := Tryf.sizeOf50
  v127 := Tryf.zeroValue50
  t164 := Tryf.underlying51
  a164 := Tryf.isAgg51
  z164 := Tryf.sizeOf51
  v164 := Tryf.zeroValue51 }
theorem Tryf.Builder_Extra_156 : Builder.Extra Tryf.prog Tryf.lays156_ren := {
  sizeBuilder := by kernel_rfl
  liesBuilder := by kernel_rfl
  t5 := Tryf.underlying5
  a5 := Tryf.isAgg5
  z5 := Tryf.sizeOf5
  v5 := Tryf.zeroValue5
  infoByte := by kernel_rfl
  cellsByte := by kernel_rfl
  sizeByte := by kernel_rfl
  neB5 := by decide }
open Go.RowKit in
/-- No element: the empty string; the world is as it was. (Whatever the slice's address and capacity: a nil slice too.) (LAID: no walk: one application.) -/
theorem Tryf.strings_Join_none (a : Option Addr) (c : Nat) (sep : ByteArray) (w : World) :
    Calls Tryf.prog 18 #[.slice a 0 c, .string sep] w fun e w' => e = .returned (.string ⟨#[]⟩) ∧ w' = w := Any.strings_Join_none Tryf.lays156 Tryf.Builder_Extra_156 a c sep w
open Go.RowKit in
/-- strings.Join: "Join concatenates the elements of its first argument to create a single string. The separator string sep is placed between elements in the resulting string.": HOWEVER MANY ELEMENTS. Below the heap's end the world is as it was. (LAID: no walk: one application.) -/
theorem Tryf.strings_Join (bk o c : Nat) (xs : List ByteArray) (sep : ByteArray) (w : World) (hcells : ∀ (j : Nat) x, xs[j]? = some x → w.cell? ⟨bk, o + j, none⟩ = some (.string x)) (hbk : bk < w.heap.size) (hN : xs.length ≤ 140737488355328) (hcap : xs.length ≤ c) (hlen : (Lib.join (xs.map (·.data.toList)) sep.data.toList).length ≤ 140737488355328) :
    Calls Tryf.prog 18 #[.slice (some ⟨bk, o, none⟩) xs.length c, .string sep] w fun e w' => e = .returned (.string ⟨(Lib.join (xs.map (·.data.toList)) sep.data.toList).toArray⟩) ∧ Below w.heap.size w w' := Any.strings_Join Tryf.lays156 Tryf.Builder_Extra_156 bk o c xs sep w hcells hbk hN hcap hlen
def Tryf.lays128_ren : Go.Shelf.Ren := ⟨fun | 128 => 49 | n => n, fun | 51 => 73 | 3 => 3 | 4 => 4 | 46 => 60 | 5 => 5 | 9 => 9 | n => n, fun | n => n⟩
theorem Tryf.lays128 : Go.Proofs.Lays.n128 Tryf.prog Tryf.lays128_ren := {
  mixed := by kernel_rfl
  f128 := Tryf.func49.trans (congrArg some (by kernel_rfl))
  t3 := Tryf.underlying3
  a3 := Tryf.isAgg3
  z3 := Tryf.sizeOf3
  v3 := Tryf.zeroValue3
  t4 := Tryf.underlying4
  a4 := Tryf.isAgg4
  z4 := Tryf.sizeOf4
  v4 := Tryf.zeroValue4
  t5 := Tryf.underlying5
  a5 := Tryf.isAgg5
  z5 := Tryf.sizeOf5
  v5 := Tryf.zeroValue5
  t9 := Tryf.underlying9
  a9 := Tryf.isAgg9
  z9 := Tryf.sizeOf9
  v9 := Tryf.zeroValue9
  t46 := Tryf.underlying60
  a46 := Tryf.isAgg60
  z46 := Tryf.sizeOf60
  v46 := Tryf.zeroValue60
  t51 := Tryf.underlying73
  a51 := Tryf.isAgg73
  z51 := Tryf.sizeOf73
  v51 := Tryf.zeroValue73 }
/-- bits.Len32: "Len32 returns the minimum number of bits required to represent x; the result is 0 for x == 0.": IT RETURNS 'Lib.bitLen x'; the world is as it was. ('h0', 'h1': x is a uint32.) (LAID: no walk: one application.) -/
theorem Tryf.bits_Len32 (x : Int) (w : World) (h0 : 0 ≤ x) (h1 : x ≤ 4294967295) :
    Calls Tryf.prog 49 #[.int .u32 x] w fun e w' => e = .returned (.int .i64 (Lib.bitLen x.toNat)) ∧ w' = w := Any.bits_Len32 Tryf.lays128 x w h0 h1
def Tryf.lays125_ren : Go.Shelf.Ren := ⟨fun | 125 => 38 | 128 => 49 | 129 => 50 | n => n, fun | 46 => 60 | 3 => 3 | 51 => 73 | 53 => 75 | 4 => 4 | 5 => 5 | 9 => 9 | n => n, fun | n => n⟩
theorem Tryf.lays125 : Go.Proofs.Lays.n125 Tryf.prog Tryf.lays125_ren := {
  mixed := by kernel_rfl
  f125 := Tryf.func38.trans (congrArg some (by kernel_rfl))
  f128 := Tryf.func49.trans (congrArg some (by kernel_rfl))
  f129 := Tryf.func50.trans (congrArg some (by kernel_rfl))
  t3 := Tryf.underlying3
  a3 := Tryf.isAgg3
  z3 := Tryf.sizeOf3
  v3 := Tryf.zeroValue3
  t4 := Tryf.underlying4
  a4 := Tryf.isAgg4
  z4 := Tryf.sizeOf4
  v4 := Tryf.zeroValue4
  t5 := Tryf.underlying5
  a5 := Tryf.isAgg5
  z5 := Tryf.sizeOf5
  v5 := Tryf.zeroValue5
  t9 := Tryf.underlying9
  a9 := Tryf.isAgg9
  z9 := Tryf.sizeOf9
  v9 := Tryf.zeroValue9
  t46 := Tryf.underlying60
  a46 := Tryf.isAgg60
  z46 := Tryf.sizeOf60
  v46 := Tryf.zeroValue60
  t51 := Tryf.underlying73
  a51 := Tryf.isAgg73
  z51 := Tryf.sizeOf73
  v51 := Tryf.zeroValue73
  t53 := Tryf.underlying75
  a53 := Tryf.isAgg75
  z53 := Tryf.sizeOf75
  v53 := Tryf.zeroValue75 }
/-- bits.Len: "Len returns the minimum number of bits required to represent x; the result is 0 for x == 0.": IT RETURNS 'Lib.bitLen x'; the world is as it was. (A uint has 64 bits in the model.) ITS CALLEE bits.Len64 IS MET BY ITS OWN CONTRACT OFF THE SHELF (lay that first). (LAID: no walk: one application.) -/
theorem Tryf.bits_Len (x : Int) (w : World) (h0 : 0 ≤ x) (h1 : x ≤ 18446744073709551615) :
    Calls Tryf.prog 38 #[.int .u64 x] w fun e w' => e = .returned (.int .i64 (Lib.bitLen x.toNat)) ∧ w' = w := Any.bits_Len Tryf.lays125 x w h0 h1
open Go.RowKit in
/-- (*strings.Builder).String: "String returns the accumulated string.": OF A BUILDER THAT HOLDS AT LEAST ONE BYTE. ✋ THE MODEL FREEZES THOSE BYTES IN THE BUFFER (unsafe.String): a later write INTO them ends the model's run without an answer; a later append BEHIND them goes on. The statement's order of evaluation is drawn: one draw. THE FORM '_f': IT SAYS BESIDES THAT THE BUILDER IS A BUILDER STILL ('Lib.IsBuilderF', the same bytes): SO IT CAN BE WRITTEN ON: 'b.WriteString(b.String()[:k])'. (LAID: no walk: one application.) -/
theorem Tryf.Builder_String_f (B b : Nat) (l : List UInt8) (w : World) (h : Lib.IsBuilderF 33 5 B b (Lib.byteCells l) w) (h0 : l ≠ []) :
    Calls Tryf.prog 23 #[.pointer (some ⟨b, 0, none⟩)] w fun e w' => e = .returned (.string ⟨l.toArray⟩) ∧ (Lib.IsBuilderF 33 5 B b (Lib.byteCells l) w' ∧ Below B w w') := Any.Builder_String_f Tryf.lays169 Tryf.Builder_Extra_169 B b l w h h0
open Go.RowKit in
/-- (*strings.Builder).String OF A BUILDER THAT HOLDS NO BYTE: the empty string; THE FORM '_f': a builder still. (LAID: no walk: one application.) -/
theorem Tryf.Builder_String_empty_f (B b : Nat) (w : World) (h : Lib.IsBuilderF 33 5 B b [] w) (hBw : B ≤ w.heap.size) :
    Calls Tryf.prog 23 #[.pointer (some ⟨b, 0, none⟩)] w fun e w' => e = .returned (.string ⟨#[]⟩) ∧ (Lib.IsBuilderF 33 5 B b [] w' ∧ Below B w w') := Any.Builder_String_empty_f Tryf.lays169 Tryf.Builder_Extra_169 B b w h hBw
open Go.RowKit in
/-- (*strings.Builder).String: "String returns the accumulated string.": WHATEVER THE BUILDER HOLDS; THE FORM '_f': OF A BUILDER THAT MAY HAVE BEEN READ BEFORE; AND IT IS A BUILDER STILL, holding the same bytes: it can be written on. (LAID: no walk: one application.) -/
theorem Tryf.Builder_String_any_f (B b : Nat) (l : List UInt8) (w : World) (h : Lib.IsBuilderF 33 5 B b (Lib.byteCells l) w) (hBw : B ≤ w.heap.size) :
    Calls Tryf.prog 23 #[.pointer (some ⟨b, 0, none⟩)] w fun e w' => e = .returned (.string ⟨l.toArray⟩) ∧ (Lib.IsBuilderF 33 5 B b (Lib.byteCells l) w' ∧ Below B w w') := Any.Builder_String_any_f Tryf.lays169 Tryf.Builder_Extra_169 B b l w h hBw
open Go.RowKit in
/-- (*strings.Builder).String: "String returns the accumulated string.": OF A BUILDER THAT HOLDS AT LEAST ONE BYTE. ✋ THE MODEL FREEZES THOSE BYTES IN THE BUFFER (unsafe.String): a later write INTO them ends the model's run without an answer; a later append BEHIND them goes on. The statement's order of evaluation is drawn: one draw. THE FORM '_k': OVER 'Lib.IsBuilderF' (a builder that 'String()' may have read), AND WITH THE FRAME THAT REACHES ABOVE THE BUILDER: 'Lib.OthersKept': every block that is not b and is no row of uint8's stands as it stood: the iterator of a range among them. (LAID: no walk: one application.) -/
theorem Tryf.Builder_String_k (B b : Nat) (l : List UInt8) (w : World) (h : Lib.IsBuilderF 33 5 B b (Lib.byteCells l) w) (h0 : l ≠ []) :
    Calls Tryf.prog 23 #[.pointer (some ⟨b, 0, none⟩)] w fun e w' => e = .returned (.string ⟨l.toArray⟩) ∧ (Lib.IsBuilderF 33 5 B b (Lib.byteCells l) w' ∧ Below B w w' ∧ Lib.OthersKept 5 (some b) w w') := Any.Builder_String_k Tryf.lays169 Tryf.Builder_Extra_169 B b l w h h0
open Go.RowKit in
/-- (*strings.Builder).String OF A BUILDER THAT HOLDS NO BYTE: the empty string; THE FORM '_k': OVER 'Lib.IsBuilderF' (a builder that 'String()' may have read), AND WITH THE FRAME THAT REACHES ABOVE THE BUILDER: 'Lib.OthersKept': every block that is not b and is no row of uint8's stands as it stood: the iterator of a range among them. (LAID: no walk: one application.) -/
theorem Tryf.Builder_String_empty_k (B b : Nat) (w : World) (h : Lib.IsBuilderF 33 5 B b [] w) (hBw : B ≤ w.heap.size) :
    Calls Tryf.prog 23 #[.pointer (some ⟨b, 0, none⟩)] w fun e w' => e = .returned (.string ⟨#[]⟩) ∧ (Lib.IsBuilderF 33 5 B b [] w' ∧ Below B w w' ∧ Lib.OthersKept 5 (some b) w w') := Any.Builder_String_empty_k Tryf.lays169 Tryf.Builder_Extra_169 B b w h hBw
open Go.RowKit in
/-- (*strings.Builder).String: "String returns the accumulated string.": WHATEVER THE BUILDER HOLDS; THE FORM '_k': OVER 'Lib.IsBuilderF' (a builder that 'String()' may have read), AND WITH THE FRAME THAT REACHES ABOVE THE BUILDER: 'Lib.OthersKept': every block that is not b and is no row of uint8's stands as it stood: the iterator of a range among them. (LAID: no walk: one application.) -/
theorem Tryf.Builder_String_any_k (B b : Nat) (l : List UInt8) (w : World) (h : Lib.IsBuilderF 33 5 B b (Lib.byteCells l) w) (hBw : B ≤ w.heap.size) :
    Calls Tryf.prog 23 #[.pointer (some ⟨b, 0, none⟩)] w fun e w' => e = .returned (.string ⟨l.toArray⟩) ∧ (Lib.IsBuilderF 33 5 B b (Lib.byteCells l) w' ∧ Below B w w' ∧ Lib.OthersKept 5 (some b) w w') := Any.Builder_String_any_k Tryf.lays169 Tryf.Builder_Extra_169 B b l w h hBw
open Go.RowKit in
/-- (*strings.Builder).grow (no doc but "grow copies the buffer to a new, larger buffer so that there are at least n bytes of capacity beyond len(b.buf)."): AT A BUILDER WITHOUT A BUFFER: a new row of whatever bytes for its buffer, none of them its own yet. Three draws. (LAID: no walk: one application.) -/
theorem Tryf.Builder_grow_fresh_cap (B b n : Nat) (w : World) (hB : B ≤ b) (hbk : w.heap[b]? = some (.cells #[.pointer (some ⟨b, 0, none⟩), .slice none 0 0] 33 (0, 0))) (hBw : B ≤ w.heap.size) (hn : n ≤ 281474976710656) :
    Calls Tryf.prog 32 #[.pointer (some ⟨b, 0, none⟩), .int .i64 n] w fun e w' => e = .returned (.tuple #[]) ∧ (Lib.BuilderAt 33 5 B b (.pointer (some ⟨b, 0, none⟩)) [] w' ∧ Below B w w') ∧ ∃ p cap, w'.cell? ⟨b, 1, none⟩ = some (.slice p 0 cap) ∧ n ≤ cap := Any.Builder_grow_fresh_cap Tryf.lays241 Tryf.Builder_Extra_241 B b n w hB hbk hBw hn
open Go.RowKit in
/-- (*strings.Builder).Grow AT A BUILDER THAT HAS NOT BEEN WRITTEN ('var b strings.Builder; b.Grow(n)'): "Grow grows b's capacity, if necessary, to guarantee space for another n bytes.": it holds no byte behind it as before it. (LAID: no walk: one application.) -/
theorem Tryf.Builder_Grow_fresh_cap (B b n : Nat) (w : World) (hB : B ≤ b) (hbk : w.heap[b]? = some (.cells #[.pointer none, .slice none 0 0] 33 (0, 0))) (hBw : B ≤ w.heap.size) (hn : n ≤ 281474976710656) :
    Calls Tryf.prog 27 #[.pointer (some ⟨b, 0, none⟩), .int .i64 n] w fun e w' => e = .returned (.tuple #[]) ∧ (Lib.BuilderAt 33 5 B b (.pointer (some ⟨b, 0, none⟩)) [] w' ∧ Below B w w') ∧ ∃ p cap, w'.cell? ⟨b, 1, none⟩ = some (.slice p 0 cap) ∧ n ≤ cap := Any.Builder_Grow_fresh_cap Tryf.lays165 Tryf.Builder_Extra_165 B b n w hB hbk hBw hn
def Tryf.lays129_ren : Go.Shelf.Ren := ⟨fun | 129 => 50 | n => n, fun | 53 => 75 | 3 => 3 | 4 => 4 | 46 => 60 | 5 => 5 | 9 => 9 | n => n, fun | n => n⟩
theorem Tryf.lays129 : Go.Proofs.Lays.n129 Tryf.prog Tryf.lays129_ren := {
  mixed := by kernel_rfl
  f129 := Tryf.func50.trans (congrArg some (by kernel_rfl))
  t3 := Tryf.underlying3
  a3 := Tryf.isAgg3
  z3 := Tryf.sizeOf3
  v3 := Tryf.zeroValue3
  t4 := Tryf.underlying4
  a4 := Tryf.isAgg4
  z4 := Tryf.sizeOf4
  v4 := Tryf.zeroValue4
  t5 := Tryf.underlying5
  a5 := Tryf.isAgg5
  z5 := Tryf.sizeOf5
  v5 := Tryf.zeroValue5
  t9 := Tryf.underlying9
  a9 := Tryf.isAgg9
  z9 := Tryf.sizeOf9
  v9 := Tryf.zeroValue9
  t46 := Tryf.underlying60
  a46 := Tryf.isAgg60
  z46 := Tryf.sizeOf60
  v46 := Tryf.zeroValue60
  t53 := Tryf.underlying75
  a53 := Tryf.isAgg75
  z53 := Tryf.sizeOf75
  v53 := Tryf.zeroValue75 }
/-- bits.Len64: "Len64 returns the minimum number of bits required to represent x; the result is 0 for x == 0.": IT RETURNS 'Lib.bitLen x'; the world is as it was. ('h0', 'h1': x is a uint64.) (LAID: no walk: one application.) -/
theorem Tryf.bits_Len64 (x : Int) (w : World) (h0 : 0 ≤ x) (h1 : x ≤ 18446744073709551615) :
    Calls Tryf.prog 50 #[.int .u64 x] w fun e w' => e = .returned (.int .i64 (Lib.bitLen x.toNat)) ∧ w' = w := Any.bits_Len64 Tryf.lays129 x w h0 h1
def Tryf.lays190_ren : Go.Shelf.Ren := ⟨fun | 190 => 30 | 125 => 38 | 258 => 37 | 128 => 49 | 129 => 50 | 302 => 40 | 303 => 41 | 304 => 42 | 305 => 43 | 306 => 44 | 307 => 45 | 308 => 46 | 309 => 47 | 310 => 48 | 333 => 51 | 329 => 52 | 330 => 53 | 334 => 54 | 335 => 55 | 336 => 56 | 344 => 57 | n => n, fun | 31 => 22 | 9 => 9 | 3 => 3 | 46 => 60 | 0 => 0 | 51 => 73 | 53 => 75 | 4 => 4 | 183 => 65 | 182 => 64 | 131 => 70 | 5 => 5 | 218 => 76 | 222 => 80 | 228 => 83 | 229 => 84 | n => n, fun | n => n⟩
theorem Tryf.lays190 : Go.Proofs.Lays.n190 Tryf.prog Tryf.lays190_ren := {
  mixed := by kernel_rfl
  f125 := Tryf.func38.trans (congrArg some (by kernel_rfl))
  f128 := Tryf.func49.trans (congrArg some (by kernel_rfl))
  f129 := Tryf.func50.trans (congrArg some (by kernel_rfl))
  f190 := Tryf.func30.trans (congrArg some (by kernel_rfl))
  f258 := Tryf.func37.trans (congrArg some (by kernel_rfl))
  f302 := Tryf.func40.trans (congrArg some (by kernel_rfl))
  f303 := Tryf.func41.trans (congrArg some (by kernel_rfl))
  f304 := Tryf.func42.trans (congrArg some (by kernel_rfl))
  f305 := Tryf.func43.trans (congrArg some (by kernel_rfl))
  f306 := Tryf.func44.trans (congrArg some (by kernel_rfl))
  f307 := Tryf.func45.trans (congrArg some (by kernel_rfl))
  f308 := Tryf.func46.trans (congrArg some (by kernel_rfl))
  f309 := Tryf.func47.trans (congrArg some (by kernel_rfl))
  f310 := Tryf.func48.trans (congrArg some (by kernel_rfl))
  f329 := Tryf.func52.trans (congrArg some (by kernel_rfl))
  f330 := Tryf.func53.trans (congrArg some (by kernel_rfl))
  f333 := Tryf.func51.trans (congrArg some (by kernel_rfl))
  f334 := Tryf.func54.trans (congrArg some (by kernel_rfl))
  f335 := Tryf.func55.trans (congrArg some (by kernel_rfl))
  f336 := Tryf.func56.trans (congrArg some (by kernel_rfl))
  f344 := Tryf.func57.trans (congrArg some (by kernel_rfl))
  t0 := Tryf.underlying0
  a0 := Tryf.isAgg0
  z0 := Tryf.sizeOf0
  v0 := Tryf.zeroValue0
  t3 := Tryf.underlying3
  a3 := Tryf.isAgg3
  z3 := Tryf.sizeOf3
  v3 := Tryf.zeroValue3
  t4 := Tryf.underlying4
  a4 := Tryf.isAgg4
  z4 := Tryf.sizeOf4
  v4 := Tryf.zeroValue4
  t5 := Tryf.underlying5
  a5 := Tryf.isAgg5
  z5 := Tryf.sizeOf5
  v5 := Tryf.zeroValue5
  t9 := Tryf.underlying9
  a9 := Tryf.isAgg9
  z9 := Tryf.sizeOf9
  v9 := Tryf.zeroValue9
  t31 := Tryf.underlying22
  a31 := Tryf.isAgg22
  z31 := Tryf.sizeOf22
  v31 := Tryf.zeroValue22
  t46 := Tryf.underlying60
  a46 := Tryf.isAgg60
  z46 := Tryf.sizeOf60
  v46 := Tryf.zeroValue60
  t51 := Tryf.underlying73
  a51 := Tryf.isAgg73
  z51 := Tryf.sizeOf73
  v51 := Tryf.zeroValue73
  t53 := Tryf.underlying75
  a53 := Tryf.isAgg75
  z53 := Tryf.sizeOf75
  v53 := Tryf.zeroValue75
  t131 := Tryf.underlying70
  a131 := Tryf.isAgg70
  z131 := Tryf.sizeOf70
  v131 := Tryf.zeroValue70
  t182 := Tryf.underlying64
  a182 := Tryf.isAgg64
  z182 := Tryf.sizeOf64
  v182 := Tryf.zeroValue64
  t183 := Tryf.underlying65
  a183 := Tryf.isAgg65
  z183 := Tryf.sizeOf65
  v183 := Tryf.zeroValue65
  t218 := Tryf.underlying76
  a218 := Tryf.isAgg76
  z218 := Tryf.sizeOf76
  v218 := Tryf.zeroValue76
  t222 := Tryf.underlying80
  a222 := Tryf.isAgg80
  z222 := Tryf.sizeOf80
  v222 := Tryf.zeroValue80
  t228 := Tryf.underlying83
  a228 := Tryf.isAgg83
  z228 := Tryf.sizeOf83
  v228 := Tryf.zeroValue83
  t229 := Tryf.underlying84
  a229 := Tryf.isAgg84
  z229 := Tryf.sizeOf84
  v229 := Tryf.zeroValue84 }
open Go.Sort Go.RowKit in
theorem Tryf.slices_Sort_string (blk off cap : Nat) (ss : List (List UInt8)) (w : World) (hH : Holds encStr w blk off ss.toArray) (hblk : blk < w.heap.size) (hsz : ss.length < 4611686018427387904) :
    Calls Tryf.prog 30 #[.slice (some ⟨blk, off, none⟩) ss.length cap] w fun e w' =>
      e = .returned (.tuple #[]) ∧ ∃ n os, w' = grow (putRow encStr (Sort.ahead w n) blk off (ss.mergeSort fun x y => decide (x ≤ y)).toArray) os := Any.slices_Sort_string Tryf.lays190 blk off cap ss w hH hblk hsz
def Tryf.lays192_ren : Go.Shelf.Ren := ⟨fun | 192 => 21 | 190 => 30 | 125 => 38 | 258 => 37 | 128 => 49 | 129 => 50 | 302 => 40 | 303 => 41 | 304 => 42 | 305 => 43 | 306 => 44 | 307 => 45 | 308 => 46 | 309 => 47 | 310 => 48 | 333 => 51 | 329 => 52 | 330 => 53 | 334 => 54 | 335 => 55 | 336 => 56 | 344 => 57 | n => n, fun | 31 => 22 | 0 => 0 | 9 => 9 | 3 => 3 | 46 => 60 | 51 => 73 | 53 => 75 | 4 => 4 | 183 => 65 | 182 => 64 | 131 => 70 | 5 => 5 | 218 => 76 | 222 => 80 | 228 => 83 | 229 => 84 | n => n, fun | n => n⟩
theorem Tryf.lays192 : Go.Proofs.Lays.n192 Tryf.prog Tryf.lays192_ren := {
  mixed := by kernel_rfl
  f125 := Tryf.func38.trans (congrArg some (by kernel_rfl))
  f128 := Tryf.func49.trans (congrArg some (by kernel_rfl))
  f129 := Tryf.func50.trans (congrArg some (by kernel_rfl))
  f190 := Tryf.func30.trans (congrArg some (by kernel_rfl))
  f192 := Tryf.func21.trans (congrArg some (by kernel_rfl))
  f258 := Tryf.func37.trans (congrArg some (by kernel_rfl))
  f302 := Tryf.func40.trans (congrArg some (by kernel_rfl))
  f303 := Tryf.func41.trans (congrArg some (by kernel_rfl))
  f304 := Tryf.func42.trans (congrArg some (by kernel_rfl))
  f305 := Tryf.func43.trans (congrArg some (by kernel_rfl))
  f306 := Tryf.func44.trans (congrArg some (by kernel_rfl))
  f307 := Tryf.func45.trans (congrArg some (by kernel_rfl))
  f308 := Tryf.func46.trans (congrArg some (by kernel_rfl))
  f309 := Tryf.func47.trans (congrArg some (by kernel_rfl))
  f310 := Tryf.func48.trans (congrArg some (by kernel_rfl))
  f329 := Tryf.func52.trans (congrArg some (by kernel_rfl))
  f330 := Tryf.func53.trans (congrArg some (by kernel_rfl))
  f333 := Tryf.func51.trans (congrArg some (by kernel_rfl))
  f334 := Tryf.func54.trans (congrArg some (by kernel_rfl))
  f335 := Tryf.func55.trans (congrArg some (by kernel_rfl))
  f336 := Tryf.func56.trans (congrArg some (by kernel_rfl))
  f344 := Tryf.func57.trans (congrArg some (by kernel_rfl))
  t0 := Tryf.underlying0
  a0 := Tryf.isAgg0
  z0 := Tryf.sizeOf0
  v0 := Tryf.zeroValue0
  t3 := Tryf.underlying3
  a3 := Tryf.isAgg3
  z3 := Tryf.sizeOf3
  v3 := Tryf.zeroValue3
  t4 := Tryf.underlying4
  a4 := Tryf.isAgg4
  z4 := Tryf.sizeOf4
  v4 := Tryf.zeroValue4
  t5 := Tryf.underlying5
  a5 := Tryf.isAgg5
  z5 := Tryf.sizeOf5
  v5 := Tryf.zeroValue5
  t9 := Tryf.underlying9
  a9 := Tryf.isAgg9
  z9 := Tryf.sizeOf9
  v9 := Tryf.zeroValue9
  t31 := Tryf.underlying22
  a31 := Tryf.isAgg22
  z31 := Tryf.sizeOf22
  v31 := Tryf.zeroValue22
  t46 := Tryf.underlying60
  a46 := Tryf.isAgg60
  z46 := Tryf.sizeOf60
  v46 := Tryf.zeroValue60
  t51 := Tryf.underlying73
  a51 := Tryf.isAgg73
  z51 := Tryf.sizeOf73
  v51 := Tryf.zeroValue73
  t53 := Tryf.underlying75
  a53 := Tryf.isAgg75
  z53 := Tryf.sizeOf75
  v53 := Tryf.zeroValue75
  t131 := Tryf.underlying70
  a131 := Tryf.isAgg70
  z131 := Tryf.sizeOf70
  v131 := Tryf.zeroValue70
  t182 := Tryf.underlying64
  a182 := Tryf.isAgg64
  z182 := Tryf.sizeOf64
  v182 := Tryf.zeroValue64
  t183 := Tryf.underlying65
  a183 := Tryf.isAgg65
  z183 := Tryf.sizeOf65
  v183 := Tryf.zeroValue65
  t218 := Tryf.underlying76
  a218 := Tryf.isAgg76
  z218 := Tryf.sizeOf76
  v218 := Tryf.zeroValue76
  t222 := Tryf.underlying80
  a222 := Tryf.isAgg80
  z222 := Tryf.sizeOf80
  v222 := Tryf.zeroValue80
  t228 := Tryf.underlying83
  a228 := Tryf.isAgg83
  z228 := Tryf.sizeOf83
  v228 := Tryf.zeroValue83
  t229 := Tryf.underlying84
  a229 := Tryf.isAgg84
  z229 := Tryf.sizeOf84
  v229 := Tryf.zeroValue84 }
open Go.Sort Go.RowKit in
theorem Tryf.sort_Strings (blk off cap : Nat) (ss : List (List UInt8)) (w : World) (hH : Holds encStr w blk off ss.toArray) (hblk : blk < w.heap.size) (hsz : ss.length < 4611686018427387904) :
    Calls Tryf.prog 21 #[.slice (some ⟨blk, off, none⟩) ss.length cap] w fun e w' =>
      e = .returned (.tuple #[]) ∧ ∃ n os, w' = grow (putRow encStr (Sort.ahead w n) blk off (ss.mergeSort fun x y => decide (x ≤ y)).toArray) os := Any.sort_Strings Tryf.lays192 blk off cap ss w hH hblk hsz
def Tryf.lays222_ren : Go.Shelf.Ren := ⟨fun | 222 => 33 | n => n, fun | 9 => 9 | 5 => 5 | 3 => 3 | 4 => 4 | n => n, fun | n => n⟩
theorem Tryf.lays222 : Go.Proofs.Lays.n222 Tryf.prog Tryf.lays222_ren := {
  mixed := by kernel_rfl
  f222 := Tryf.func33.trans (congrArg some (by kernel_rfl))
  t3 := Tryf.underlying3
  a3 := Tryf.isAgg3
  z3 := Tryf.sizeOf3
  v3 := Tryf.zeroValue3
  t4 := Tryf.underlying4
  a4 := Tryf.isAgg4
  z4 := Tryf.sizeOf4
  v4 := Tryf.zeroValue4
  t5 := Tryf.underlying5
  a5 := Tryf.isAgg5
  z5 := Tryf.sizeOf5
  v5 := Tryf.zeroValue5
  t9 := Tryf.underlying9
  a9 := Tryf.isAgg9
  z9 := Tryf.sizeOf9
  v9 := Tryf.zeroValue9 }
open Go.RowKit Go.Lib in
/-- internal/bytealg.LastIndexByteString: 'for i := len(s) - 1; i >= 0; i-- { if s[i] == c { return i } }; return -1'. (LAID: no walk: one application.) -/
theorem Tryf.bytealg_LastIndexByteString_nm (s : ByteArray) (c : Int) (hs : s.size < 4611686018427387904) (w : World) :
    Calls Tryf.prog 33 #[.string s, .int .u8 c] w fun e w' => e = .returned (.int .i64 (Lib.lastIndexByte s c)) ∧ w' = w := Any.bytealg_LastIndexByteString_nm Tryf.lays222 s c hs w
open Go.RowKit Go.Sort in
/-- .. and plain. (LAID: no walk: one application.) -/
theorem Tryf.slices_Sort_string_none (p : Option Addr) (cap : Nat) (w : World) :
    Calls Tryf.prog 30 #[.slice p 0 cap] w fun e w' => e = .returned (.tuple #[]) ∧ w' = w := Any.slices_Sort_string_none Tryf.lays190 p cap w
open Go.RowKit Go.Sort in
/-- .. and plain. (LAID: no walk: one application.) -/
theorem Tryf.sort_Strings_none (p : Option Addr) (cap : Nat) (w : World) :
    Calls Tryf.prog 21 #[.slice p 0 cap] w fun e w' => e = .returned (.tuple #[]) ∧ w' = w := Any.sort_Strings_none Tryf.lays192 p cap w
def Tryf.laysPa45_ren : Go.Shelf.Ren := ⟨fun | 45 => 33 | n => n, fun | 9 => 9 | 5 => 5 | 3 => 3 | 4 => 4 | n => n, fun | n => n⟩
theorem Tryf.laysPa45 : Go.Proofs.Lays.p45 Tryf.prog Tryf.laysPa45_ren := {
  mixed := by kernel_rfl
  f45 := Tryf.func33.trans (congrArg some (by kernel_rfl))
  t3 := Tryf.underlying3
  a3 := Tryf.isAgg3
  z3 := Tryf.sizeOf3
  v3 := Tryf.zeroValue3
  t4 := Tryf.underlying4
  a4 := Tryf.isAgg4
  z4 := Tryf.sizeOf4
  v4 := Tryf.zeroValue4
  t5 := Tryf.underlying5
  a5 := Tryf.isAgg5
  z5 := Tryf.sizeOf5
  v5 := Tryf.zeroValue5
  t9 := Tryf.underlying9
  a9 := Tryf.isAgg9
  z9 := Tryf.sizeOf9
  v9 := Tryf.zeroValue9 }
open Go.RowKit Go.Lib in
/-- internal/bytealg.LastIndexByteString (what strings.LastIndexByte calls: "LastIndexByte returns the index of the last instance of c in s, or -1 if c is not present in s."): IT RETURNS 'Pa.lastIndexByte s c'; the world is as it was. (LAID: no walk: one application.) -/
theorem Tryf.bytealg_LastIndexByteString (s : ByteArray) (c : UInt8) (w : World) (hs : s.size ≤ 9223372036854775807) :
    Calls Tryf.prog 33 #[.string s, .int .u8 c.toNat] w fun e w' => e = .returned (.int .i64 (Pa.lastIndexByte s.data.toList c)) ∧ w' = w := Any.bytealg_LastIndexByteString Tryf.laysPa45 s c w hs
def Tryf.laysPa29_ren : Go.Shelf.Ren := ⟨fun | 29 => 28 | 45 => 33 | n => n, fun | 9 => 9 | 5 => 5 | 3 => 3 | 4 => 4 | n => n, fun | n => n⟩
theorem Tryf.laysPa29 : Go.Proofs.Lays.p29 Tryf.prog Tryf.laysPa29_ren := {
  mixed := by kernel_rfl
  f29 := Tryf.func28.trans (congrArg some (by kernel_rfl))
  f45 := Tryf.func33.trans (congrArg some (by kernel_rfl))
  t3 := Tryf.underlying3
  a3 := Tryf.isAgg3
  z3 := Tryf.sizeOf3
  v3 := Tryf.zeroValue3
  t4 := Tryf.underlying4
  a4 := Tryf.isAgg4
  z4 := Tryf.sizeOf4
  v4 := Tryf.zeroValue4
  t5 := Tryf.underlying5
  a5 := Tryf.isAgg5
  z5 := Tryf.sizeOf5
  v5 := Tryf.zeroValue5
  t9 := Tryf.underlying9
  a9 := Tryf.isAgg9
  z9 := Tryf.sizeOf9
  v9 := Tryf.zeroValue9 }
open Go.RowKit Go.Lib in
/-- path.Split: "Split splits path immediately following the final slash, separating it into a directory and file name component. If there is no slash in path, Split returns an empty dir and file set to path. The returned values have the property that path = dir+file.": IT RETURNS 'Pa.split path'; the world is as it was but for the count of draws. (LAID: no walk: one application.) -/
theorem Tryf.path_Split (s : ByteArray) (w : World) (hs : s.size ≤ 9223372036854775807) :
    Calls Tryf.prog 28 #[.string s] w fun e w' => e = .returned (.tuple #[.string ⟨(Pa.split s.data.toList).1.toArray⟩, .string ⟨(Pa.split s.data.toList).2.toArray⟩]) ∧ ∃ n, w' = w.drewN n := Any.path_Split Tryf.laysPa29 s w hs
def Tryf.laysPa47_ren : Go.Shelf.Ren := ⟨fun | 47 => 35 | n => n, fun | 48 => 62 | 3 => 3 | 5 => 5 | 0 => 0 | 42 => 55 | 30 => 26 | 4 => 4 | 9 => 9 | n => n, fun | n => n⟩
theorem Tryf.laysPa47 : Go.Proofs.Lays.p47 Tryf.prog Tryf.laysPa47_ren := {
  mixed := by kernel_rfl
  f47 := Tryf.func35.trans (congrArg some (by kernel_rfl))
  t0 := Tryf.underlying0
  a0 := Tryf.isAgg0
  z0 := Tryf.sizeOf0
  v0 := Tryf.zeroValue0
  t3 := Tryf.underlying3
  a3 := Tryf.isAgg3
  z3 := Tryf.sizeOf3
  v3 := Tryf.zeroValue3
  t4 := Tryf.underlying4
  a4 := Tryf.isAgg4
  z4 := Tryf.sizeOf4
  v4 := Tryf.zeroValue4
  t5 := Tryf.underlying5
  a5 := Tryf.isAgg5
  z5 := Tryf.sizeOf5
  v5 := Tryf.zeroValue5
  t9 := Tryf.underlying9
  a9 := Tryf.isAgg9
  z9 := Tryf.sizeOf9
  v9 := Tryf.zeroValue9
  t30 := Tryf.underlying26
  a30 := Tryf.isAgg26
  z30 := Tryf.sizeOf26
  v30 := Tryf.zeroValue26
  t42 := Tryf.underlying55
  a42 := Tryf.isAgg55
  z42 := Tryf.sizeOf55
  v42 := Tryf.zeroValue55
  t48 := Tryf.underlying62
  a48 := Tryf.isAgg62
  z48 := Tryf.sizeOf62
  v48 := Tryf.zeroValue62 }
open Go.RowKit Go.Lib in
/-- (*path.lazybuf).index: the byte at place i of what the buffer reads ('c'); the world is as it was. (LAID: no walk: one application.) -/
theorem Tryf.lazybuf_index (B : Nat) (s : ByteArray) (c : List UInt8) (wv i : Nat) (w : World) (hz : Lz.Lazy 55 5 B s c wv w) (hi : i < s.size) :
    Calls Tryf.prog 35 #[.pointer (some ⟨B, 0, none⟩), .int .i64 i] w fun e w' => e = .returned (.int .u8 ((c[i]?.getD 0).toNat : Int)) ∧ w' = w := Any.lazybuf_index Tryf.laysPa47 B s c wv i w hz hi
def Tryf.laysPa48_ren : Go.Shelf.Ren := ⟨fun | 48 => 36 | n => n, fun | 48 => 62 | 9 => 9 | 0 => 0 | 42 => 55 | 30 => 26 | 4 => 4 | 3 => 3 | 5 => 5 | n => n, fun | n => n⟩
theorem Tryf.laysPa48 : Go.Proofs.Lays.p48 Tryf.prog Tryf.laysPa48_ren := {
  mixed := by kernel_rfl
  f48 := Tryf.func36.trans (congrArg some (by kernel_rfl))
  t0 := Tryf.underlying0
  a0 := Tryf.isAgg0
  z0 := Tryf.sizeOf0
  v0 := Tryf.zeroValue0
  t3 := Tryf.underlying3
  a3 := Tryf.isAgg3
  z3 := Tryf.sizeOf3
  v3 := Tryf.zeroValue3
  t4 := Tryf.underlying4
  a4 := Tryf.isAgg4
  z4 := Tryf.sizeOf4
  v4 := Tryf.zeroValue4
  t5 := Tryf.underlying5
  a5 := Tryf.isAgg5
  z5 := Tryf.sizeOf5
  v5 := Tryf.zeroValue5
  t9 := Tryf.underlying9
  a9 := Tryf.isAgg9
  z9 := Tryf.sizeOf9
  v9 := Tryf.zeroValue9
  t30 := Tryf.underlying26
  a30 := Tryf.isAgg26
  z30 := Tryf.sizeOf26
  v30 := Tryf.zeroValue26
  t42 := Tryf.underlying55
  a42 := Tryf.isAgg55
  z42 := Tryf.sizeOf55
  v42 := Tryf.zeroValue55
  t48 := Tryf.underlying62
  a48 := Tryf.isAgg62
  z48 := Tryf.sizeOf62
  v48 := Tryf.zeroValue62 }
open Go.RowKit Go.Lib in
/-- (*path.lazybuf).string: what has been appended, as a string; the world is as it was but for the count of draws. (LAID: no walk: one application.) -/
theorem Tryf.lazybuf_string (B : Nat) (s : ByteArray) (c : List UInt8) (wv : Nat) (w : World) (hz : Lz.Lazy 55 5 B s c wv w) (hw : wv ≤ s.size) :
    Calls Tryf.prog 36 #[.pointer (some ⟨B, 0, none⟩)] w fun e w' => e = .returned (.string ⟨(c.take wv).toArray⟩) ∧ ∃ n, w' = w.drewN n := Any.lazybuf_string Tryf.laysPa48 B s c wv w hz hw
def Tryf.laysPah46_ren : Go.Shelf.Ren := ⟨fun | 46 => 34 | n => n, fun | 48 => 62 | 5 => 5 | 0 => 0 | 42 => 55 | 30 => 26 | 4 => 4 | 3 => 3 | 9 => 9 | n => n, fun | n => n⟩
theorem Tryf.laysPah46 : Go.Proofs.Lays.ph46 Tryf.prog Tryf.laysPah46_ren := {
  mixed := by kernel_rfl
  f46 := Tryf.func34.trans (congrArg some (by kernel_rfl))
  t0 := Tryf.underlying0
  a0 := Tryf.isAgg0
  z0 := Tryf.sizeOf0
  v0 := Tryf.zeroValue0
  t3 := Tryf.underlying3
  a3 := Tryf.isAgg3
  z3 := Tryf.sizeOf3
  v3 := Tryf.zeroValue3
  t4 := Tryf.underlying4
  a4 := Tryf.isAgg4
  z4 := Tryf.sizeOf4
  v4 := Tryf.zeroValue4
  t5 := Tryf.underlying5
  a5 := Tryf.isAgg5
  z5 := Tryf.sizeOf5
  v5 := Tryf.zeroValue5
  t9 := Tryf.underlying9
  a9 := Tryf.isAgg9
  z9 := Tryf.sizeOf9
  v9 := Tryf.zeroValue9
  t30 := Tryf.underlying26
  a30 := Tryf.isAgg26
  z30 := Tryf.sizeOf26
  v30 := Tryf.zeroValue26
  t42 := Tryf.underlying55
  a42 := Tryf.isAgg55
  z42 := Tryf.sizeOf55
  v42 := Tryf.zeroValue55
  t48 := Tryf.underlying62
  a48 := Tryf.isAgg62
  z48 := Tryf.sizeOf62
  v48 := Tryf.zeroValue62
  info5 := by kernel_rfl }
open Go.RowKit Go.Lib in
/-- (*path.lazybuf).append, wherever there is room ('w < len(s)'): THE BUFFER THEN READS SOME c' WHOSE FIRST w + 1 BYTES ARE WHAT HAD BEEN APPENDED, AND x; below block B the world is as it was. (All three ways of the text: the byte is s's own next byte · the output parts from s here: 'make', 'copy' · the buffer is there already.) (LAID: no walk: one application.) -/
theorem Tryf.lazybuf_append (B : Nat) (s : ByteArray) (c : List UInt8) (wv : Nat) (x : UInt8) (w : World) (hz : Lz.Lazy 55 5 B s c wv w) (hw : wv < s.size) (hbig : s.size ≤ 281474976710656) :
    Calls Tryf.prog 34 #[.pointer (some ⟨B, 0, none⟩), .int .u8 (x.toNat : Int)] w fun e w' => e = .returned (.tuple #[]) ∧ ∃ c', Lz.Lazy 55 5 B s c' (wv + 1) w' ∧ c'.take (wv + 1) = c.take wv ++ [x] ∧ Below B w w' := Any.lazybuf_append Tryf.laysPah46 B s c wv x w hz hw hbig
open Go.RowKit Go.Lib in
/-- append at the slash and at the dot, as path.Clean calls it. (LAID: no walk: one application.) -/
theorem Tryf.lazybuf_append47 (B : Nat) (s : ByteArray) (c : List UInt8) (wv : Nat) (w : World) (hz : Lz.Lazy 55 5 B s c wv w) (hw : wv < s.size) (hbig : s.size ≤ 281474976710656) :
    Calls Tryf.prog 34 #[.pointer (some ⟨B, 0, none⟩), .int .u8 47] w fun e w' => e = .returned (.tuple #[]) ∧ ∃ c', Lz.Lazy 55 5 B s c' (wv + 1) w' ∧ c'.take (wv + 1) = c.take wv ++ [47] ∧ Below B w w' := Any.lazybuf_append47 Tryf.laysPah46 B s c wv w hz hw hbig
open Go.RowKit Go.Lib in
theorem Tryf.lazybuf_append46 (B : Nat) (s : ByteArray) (c : List UInt8) (wv : Nat) (w : World) (hz : Lz.Lazy 55 5 B s c wv w) (hw : wv < s.size) (hbig : s.size ≤ 281474976710656) :
    Calls Tryf.prog 34 #[.pointer (some ⟨B, 0, none⟩), .int .u8 46] w fun e w' => e = .returned (.tuple #[]) ∧ ∃ c', Lz.Lazy 55 5 B s c' (wv + 1) w' ∧ c'.take (wv + 1) = c.take wv ++ [46] ∧ Below B w w' := Any.lazybuf_append46 Tryf.laysPah46 B s c wv w hz hw hbig
def Tryf.laysPah30_ren : Go.Shelf.Ren := ⟨fun | 30 => 29 | 46 => 34 | 47 => 35 | 48 => 36 | n => n, fun | 9 => 9 | 4 => 4 | 5 => 5 | 3 => 3 | 42 => 55 | 0 => 0 | 48 => 62 | 30 => 26 | n => n, fun | n => n⟩
theorem Tryf.laysPah30 : Go.Proofs.Lays.ph30 Tryf.prog Tryf.laysPah30_ren := {
  mixed := by kernel_rfl
  f30 := Tryf.func29.trans (congrArg some (by kernel_rfl))
  f46 := Tryf.func34.trans (congrArg some (by kernel_rfl))
  f47 := Tryf.func35.trans (congrArg some (by kernel_rfl))
  f48 := Tryf.func36.trans (congrArg some (by kernel_rfl))
  t0 := Tryf.underlying0
  a0 := Tryf.isAgg0
  z0 := Tryf.sizeOf0
  v0 := Tryf.zeroValue0
  t3 := Tryf.underlying3
  a3 := Tryf.isAgg3
  z3 := Tryf.sizeOf3
  v3 := Tryf.zeroValue3
  t4 := Tryf.underlying4
  a4 := Tryf.isAgg4
  z4 := Tryf.sizeOf4
  v4 := Tryf.zeroValue4
  t5 := Tryf.underlying5
  a5 := Tryf.isAgg5
  z5 := Tryf.sizeOf5
  v5 := Tryf.zeroValue5
  t9 := Tryf.underlying9
  a9 := Tryf.isAgg9
  z9 := Tryf.sizeOf9
  v9 := Tryf.zeroValue9
  t30 := Tryf.underlying26
  a30 := Tryf.isAgg26
  z30 := Tryf.sizeOf26
  v30 := Tryf.zeroValue26
  t42 := Tryf.underlying55
  a42 := Tryf.isAgg55
  z42 := Tryf.sizeOf55
  v42 := Tryf.zeroValue55
  t48 := Tryf.underlying62
  a48 := Tryf.isAgg62
  z48 := Tryf.sizeOf62
  v48 := Tryf.zeroValue62
  info5 := by kernel_rfl }
open Go.RowKit Go.Lib in
theorem Tryf.path_Clean_rel (s : ByteArray) (w : World) (hbig : s.size ≤ 281474976710656) (h0 : 0 < s.size) (hro : (s[0]'h0) ≠ 47) (R RR : List UInt8) (hR : Pa.cleanLoop s.data.toList false s.data.toList.length [] 0 0 = R) (hRR : (if R = [] then [46] else R) = RR) :
    Calls Tryf.prog 29 #[.string s] w fun e w' => e = .returned (.string ⟨RR.toArray⟩) ∧ Below w.heap.size w w' := Any.path_Clean_rel Tryf.laysPah30 s w hbig h0 hro R RR hR hRR
open Go.RowKit Go.Lib in
theorem Tryf.path_Clean_abs (s : ByteArray) (w : World) (hbig : s.size ≤ 281474976710656) (h0 : 0 < s.size) (hro : (s[0]'h0) = 47) (R RR : List UInt8) (hR : Pa.cleanLoop s.data.toList true s.data.toList.length [47] 1 1 = R) (hRR : (if R = [] then [46] else R) = RR) :
    Calls Tryf.prog 29 #[.string s] w fun e w' => e = .returned (.string ⟨RR.toArray⟩) ∧ Below w.heap.size w w' := Any.path_Clean_abs Tryf.laysPah30 s w hbig h0 hro R RR hR hRR
open Go.RowKit Go.Lib in
/-- path.Clean: "Clean returns the shortest path name equivalent to path by purely lexical processing. It applies the following rules iteratively until no further processing can be done: 1. Replace multiple slashes with a single slash. 2. Eliminate each . path name element (the current directory). 3. Eliminate each inner .. path name element (the parent directory) along with the non-.. element that precedes it. 4. Eliminate .. elements that begin a rooted path: that is, replace "/.." by "/" at the beginning of a path. The returned path ends in a slash only if it is the root "/". If the result of this process is an empty string, Clean returns the string ".".": IT RETURNS 'Pa.clean path'. (LAID: no walk: one application.) -/
theorem Tryf.path_Clean (s : ByteArray) (w : World) (hbig : s.size ≤ 281474976710656) :
    Calls Tryf.prog 29 #[.string s] w fun e w' => e = .returned (.string ⟨(Pa.clean s.data.toList).toArray⟩) ∧ Below w.heap.size w w' := Any.path_Clean Tryf.laysPah30 s w hbig
def Tryf.laysPah27_ren : Go.Shelf.Ren := ⟨fun | 27 => 19 | 29 => 28 | 30 => 29 | 45 => 33 | 46 => 34 | 47 => 35 | 48 => 36 | n => n, fun | 9 => 9 | 24 => 48 | 5 => 5 | 3 => 3 | 4 => 4 | 42 => 55 | 0 => 0 | 48 => 62 | 30 => 26 | n => n, fun | n => n⟩
theorem Tryf.laysPah27 : Go.Proofs.Lays.ph27 Tryf.prog Tryf.laysPah27_ren := {
  mixed := by kernel_rfl
  f27 := Tryf.func19.trans (congrArg some (by kernel_rfl))
  f29 := Tryf.func28.trans (congrArg some (by kernel_rfl))
  f30 := Tryf.func29.trans (congrArg some (by kernel_rfl))
  f45 := Tryf.func33.trans (congrArg some (by kernel_rfl))
  f46 := Tryf.func34.trans (congrArg some (by kernel_rfl))
  f47 := Tryf.func35.trans (congrArg some (by kernel_rfl))
  f48 := Tryf.func36.trans (congrArg some (by kernel_rfl))
  t0 := Tryf.underlying0
  a0 := Tryf.isAgg0
  z0 := Tryf.sizeOf0
  v0 := Tryf.zeroValue0
  t3 := Tryf.underlying3
  a3 := Tryf.isAgg3
  z3 := Tryf.sizeOf3
  v3 := Tryf.zeroValue3
  t4 := Tryf.underlying4
  a4 := Tryf.isAgg4
  z4 := Tryf.sizeOf4
  v4 := Tryf.zeroValue4
  t5 := Tryf.underlying5
  a5 := Tryf.isAgg5
  z5 := Tryf.sizeOf5
  v5 := Tryf.zeroValue5
  t9 := Tryf.underlying9
  a9 := Tryf.isAgg9
  z9 := Tryf.sizeOf9
  v9 := Tryf.zeroValue9
  t24 := Tryf.underlying48
  a24 := Tryf.isAgg48
  z24 := Tryf.sizeOf48
  v24 := Tryf.zeroValue48
  t30 := Tryf.underlying26
  a30 := Tryf.isAgg26
  z30 := Tryf.sizeOf26
  v30 := Tryf.zeroValue26
  t42 := Tryf.underlying55
  a42 := Tryf.isAgg55
  z42 := Tryf.sizeOf55
  v42 := Tryf.zeroValue55
  t48 := Tryf.underlying62
  a48 := Tryf.isAgg62
  z48 := Tryf.sizeOf62
  v48 := Tryf.zeroValue62
  info5 := by kernel_rfl }
open Go.RowKit Go.Lib in
/-- path.Dir: "Dir returns all but the last element of path, typically the path's directory. After dropping the final element using Split, the path is Cleaned and trailing slashes are removed. If the path is empty, Dir returns ".". If the path consists entirely of slashes followed by non-slash bytes, Dir returns a single slash. In any other case, the returned path does not end in a slash.": IT RETURNS 'Pa.dir path' = 'Pa.clean (Pa.split path).1'. (LAID: no walk: one application.) -/
theorem Tryf.path_Dir (s : ByteArray) (w : World) (hbig : s.size ≤ 281474976710656) :
    Calls Tryf.prog 19 #[.string s] w fun e w' => e = .returned (.string ⟨(Pa.dir s.data.toList).toArray⟩) ∧ Below w.heap.size w w' := Any.path_Dir Tryf.laysPah27 s w hbig
def Tryf.laysPah31_ren : Go.Shelf.Ren := ⟨fun | 31 => 22 | 30 => 29 | 46 => 34 | 47 => 35 | 48 => 36 | n => n, fun | 26 => 22 | 9 => 9 | 3 => 3 | 0 => 0 | 4 => 4 | 30 => 26 | 5 => 5 | 42 => 55 | 48 => 62 | n => n, fun | n => n⟩
theorem Tryf.laysPah31 : Go.Proofs.Lays.ph31 Tryf.prog Tryf.laysPah31_ren := {
  mixed := by kernel_rfl
  f30 := Tryf.func29.trans (congrArg some (by kernel_rfl))
  f31 := Tryf.func22.trans (congrArg some (by kernel_rfl))
  f46 := Tryf.func34.trans (congrArg some (by kernel_rfl))
  f47 := Tryf.func35.trans (congrArg some (by kernel_rfl))
  f48 := Tryf.func36.trans (congrArg some (by kernel_rfl))
  t0 := Tryf.underlying0
  a0 := Tryf.isAgg0
  z0 := Tryf.sizeOf0
  v0 := Tryf.zeroValue0
  t3 := Tryf.underlying3
  a3 := Tryf.isAgg3
  z3 := Tryf.sizeOf3
  v3 := Tryf.zeroValue3
  t4 := Tryf.underlying4
  a4 := Tryf.isAgg4
  z4 := Tryf.sizeOf4
  v4 := Tryf.zeroValue4
  t5 := Tryf.underlying5
  a5 := Tryf.isAgg5
  z5 := Tryf.sizeOf5
  v5 := Tryf.zeroValue5
  t9 := Tryf.underlying9
  a9 := Tryf.isAgg9
  z9 := Tryf.sizeOf9
  v9 := Tryf.zeroValue9
  t26 := Tryf.underlying22
  a26 := Tryf.isAgg22
  z26 := Tryf.sizeOf22
  v26 := Tryf.zeroValue22
  t30 := Tryf.underlying26
  a30 := Tryf.isAgg26
  z30 := Tryf.sizeOf26
  v30 := Tryf.zeroValue26
  t42 := Tryf.underlying55
  a42 := Tryf.isAgg55
  z42 := Tryf.sizeOf55
  v42 := Tryf.zeroValue55
  t48 := Tryf.underlying62
  a48 := Tryf.isAgg62
  z48 := Tryf.sizeOf62
  v48 := Tryf.zeroValue62
  info5 := by kernel_rfl }
open Go.RowKit Go.Lib in
/-- path.Join: "Join joins any number of path elements into a single path, separating them with slashes. Empty elements are ignored. The result is Cleaned. However, if the argument list is empty or all its elements are empty, Join returns an empty string.": THE ARGUMENT AS strings.Join's CONTRACT HAS IT: a slice of xs.length strings at ⟨bk, o⟩ whose cells hold xs ('hcells'), in memory that was there ('hbk'). IT RETURNS 'Pa.joinL (the elements)' (Derived/Lib/JoinFns.lean); what was there before the call is as it was ('Below'). IT ASKS that the elements' lengths and their number together stay within 2^48 (makeslice's own limit). (LAID: no walk: one application.) -/
theorem Tryf.path_Join (bk o c : Nat) (xs : List ByteArray) (w : World) (hcells : ∀ (j : Nat) x, xs[j]? = some x → w.cell? ⟨bk, o + j, none⟩ = some (.string x)) (hbk : bk < w.heap.size) (hlen : Pa.lens (xs.map (·.data.toList)) + xs.length ≤ 281474976710656) :
    Calls Tryf.prog 22 #[.slice (some ⟨bk, o, none⟩) xs.length c] w fun e w' => e = .returned (.string ⟨(Pa.joinL (xs.map (·.data.toList))).toArray⟩) ∧ Below w.heap.size w w' := Any.path_Join Tryf.laysPah31 bk o c xs w hcells hbk hlen
open Go.RowKit Go.Lib in
/-- path.Join WITHOUT AN ELEMENT (the variadic argument nil): IT RETURNS ""; the world is as it was. (LAID: no walk: one application.) -/
theorem Tryf.path_Join_nil (w : World) :
    Calls Tryf.prog 22 #[.slice none 0 0] w fun e w' => e = .returned (.string ⟨#[]⟩) ∧ w' = w := Any.path_Join_nil Tryf.laysPah31 w
open Go.RowKit Go.Lib in
theorem Tryf.path_Clean_rules (s : ByteArray) (w : World) (hbig : s.size ≤ 281474976710656) :
    Calls Tryf.prog 29 #[.string s] w fun e w' => e = .returned (.string ⟨(Pa.cleanEls s.data.toList).toArray⟩) ∧ Below w.heap.size w w' := Any.path_Clean_rules Tryf.laysPah30 s w hbig
open Go.RowKit Go.Lib in
theorem Tryf.path_Dir_rules (s : ByteArray) (w : World) (hbig : s.size ≤ 281474976710656) :
    Calls Tryf.prog 19 #[.string s] w fun e w' => e = .returned (.string ⟨(Pa.cleanEls (Pa.split s.data.toList).1).toArray⟩) ∧ Below w.heap.size w w' := Any.path_Dir_rules Tryf.laysPah27 s w hbig
open Go.RowKit Go.Lib in
theorem Tryf.path_Join_rules (bk o c : Nat) (xs : List ByteArray) (w : World) (hcells : ∀ (j : Nat) x, xs[j]? = some x → w.cell? ⟨bk, o + j, none⟩ = some (.string x)) (hbk : bk < w.heap.size) (hlen : Pa.lens (xs.map (·.data.toList)) + xs.length ≤ 281474976710656) :
    Calls Tryf.prog 22 #[.slice (some ⟨bk, o, none⟩) xs.length c] w fun e w' => e = .returned (.string ⟨(Pa.join (xs.map (·.data.toList))).toArray⟩) ∧ Below w.heap.size w w' := Any.path_Join_rules Tryf.laysPah31 bk o c xs w hcells hbk hlen
end Go.Proofs
