/-
  DERIVED: THE SHELF's CONTRACTS AT THIS DUMP, IN PLAIN WORDS (tools/lay-plain.mjs out of 'YtdapdadcninidaaGreatDoorShelf.lean', which tools/lay-shelf.mjs wrote): THE SAME DECLARATIONS UNDER THE SAME NAMES: 'import', 'namespace', 'open', 'def', 'theorem' AND NOTHING ELSE: no command of the shelf's: FOR A HAND-IN. Each laying: the table of numbers ('.._ren') and one theorem, a field a fact of the dump's own or the kernel's comparison; each contract: ONE APPLICATION.
-/
import Derived.Shelf.Strings.Builder1
import Derived.Shelf.Strings.Builder2
import Derived.Shelf.Small.Strs
import Derived.Shelf.Strings.BuilderF
import Derived.Shelf.Strings.BuilderK
import Derived.Shelf.Utf8.AppendRune
import Derived.Shelf.Utf8.AppendRunePlain
import Derived.Shelf.Strings.Builder2Cap
import Derived.Shelf.Strconv.Itoa0
import Derived.Shelf.Strconv.Itoa1
import Derived.Shelf.LaysM
import Derived.Shelf.Strconv.Itoa2
import Derived.Shelf.Strconv.Itoa3
import Derived.Shelf.Strings.Search1
import Derived.Shelf.Strings.Search2
import Derived.Shelf.Strings.Search3
import Derived.Shelf.Strings.Count
import Derived.Shelf.Strings.Shaped
import Derived.Shelf.Strings.Prefix
import Derived.Shelf.Strings.Split
import Derived.Shelf.Strings.Fields
import Derived.Shelf.Strings.SplitShaped
import Derived.Shelf.Unicode.Latin
import Derived.Shelf.Bits.Mul64
import Derived.Shelf.Strings.Repeat
import Derived.Shelf.Unicode.Is16White
import Derived.Shelf.Unicode.IsSpaceAny
import Derived.Shelf.Unicode.Is16WhiteD
import Derived.Shelf.Unicode.IsSpaceAnyD
import Derived.Shelf.Strings.FieldsAny
import Derived.Shelf.Strings.FieldsFuncAny
import Derived.Shelf.Unicode.Is16Any
import Derived.Shelf.Unicode.Is32Any
import Derived.Shelf.Unicode.ExclAny
import Derived.Shelf.Strings.BuilderCap
import Derived.Shelf.Slices.Turned
import Derived.Shelf.Slices.Reverse
import Derived.Ground.Names2Prog
import Derived.Shelf.Slices.Clone
import Derived.Shelf.Slices.Delete
import Derived.Shelf.Slices.Cells
import Derived.Shelf.Slices.Empties
import Derived.Ground.SlgnProg
import Derived.Shelf.SlicesE.Clone
import Derived.Test.YtdapdadcninidaaGreatDoorProg
namespace Go.Proofs
open Go.Shelf
def Tryz.lays170_ren : Go.Shelf.Ren := ⟨fun | 170 => 144 | n => n, fun | 70 => 109 | 3 => 3 | 0 => 0 | 72 => 112 | 37 => 110 | 5 => 5 | n => n, fun | n => n⟩
theorem Tryz.lays170 : Go.Proofs.Lays.n170 Tryz.prog Tryz.lays170_ren := {
  mixed := by kernel_rfl
  f170 := Tryz.func144.trans (congrArg some (by kernel_rfl))
  t0 := Tryz.underlying0
  a0 := Tryz.isAgg0
  z0 := Tryz.sizeOf0
  v0 := Tryz.zeroValue0
  t3 := Tryz.underlying3
  a3 := Tryz.isAgg3
  z3 := Tryz.sizeOf3
  v3 := Tryz.zeroValue3
  t37 := Tryz.underlying110
  a37 := Tryz.isAgg110
  z37 := Tryz.sizeOf110
  v37 := Tryz.zeroValue110
  t70 := Tryz.underlying109
  a70 := Tryz.isAgg109
  z70 := Tryz.sizeOf109
  v70 := Tryz.zeroValue109
  t72 := Tryz.underlying112
  a72 := Tryz.isAgg112
  z72 := Tryz.sizeOf112
  v72 := Tryz.zeroValue112 }
open Go.RowKit in
/-- (*strings.Builder).Len: "Len returns the number of accumulated bytes; b.Len() == len(b.String()).": the world is as it was. (LAID: no walk: one application.) -/
theorem Tryz.Builder_Len (B b : Nat) (bs : List Value) (w : World) (h : Lib.IsBuilder 112 5 B b bs w) :
    Calls Tryz.prog 144 #[.pointer (some ⟨b, 0, none⟩)] w fun e w' => e = .returned (.int .i64 bs.length) ∧ w' = w := Any.Builder_Len Tryz.lays170 B b bs w h
def Tryz.lays169_ren : Go.Shelf.Ren := ⟨fun | 169 => 51 | n => n, fun | 70 => 109 | 9 => 9 | 0 => 0 | 72 => 112 | 37 => 110 | 127 => 154 | 3 => 3 | 5 => 5 | n => n, fun | n => n⟩
theorem Tryz.lays169 : Go.Proofs.Lays.n169 Tryz.prog Tryz.lays169_ren := {
  mixed := by kernel_rfl
  f169 := Tryz.func51.trans (congrArg some (by kernel_rfl))
  t0 := Tryz.underlying0
  a0 := Tryz.isAgg0
  z0 := Tryz.sizeOf0
  v0 := Tryz.zeroValue0
  t3 := Tryz.underlying3
  a3 := Tryz.isAgg3
  z3 := Tryz.sizeOf3
  v3 := Tryz.zeroValue3
  t9 := Tryz.underlying9
  a9 := Tryz.isAgg9
  z9 := Tryz.sizeOf9
  v9 := Tryz.zeroValue9
  t37 := Tryz.underlying110
  a37 := Tryz.isAgg110
  z37 := Tryz.sizeOf110
  v37 := Tryz.zeroValue110
  t70 := Tryz.underlying109
  a70 := Tryz.isAgg109
  z70 := Tryz.sizeOf109
  v70 := Tryz.zeroValue109
  t72 := Tryz.underlying112
  a72 := Tryz.isAgg112
  z72 := Tryz.sizeOf112
  v72 := Tryz.zeroValue112
  t127 := Tryz.underlying154
  a127 := Tryz.isAgg154
  z127 := Tryz.sizeOf154
  v127 := Tryz.zeroValue154 }
theorem Tryz.Builder_Extra_169 : Builder.Extra Tryz.prog Tryz.lays169_ren := {
  sizeBuilder := by kernel_rfl
  liesBuilder := by kernel_rfl
  t5 := Tryz.underlying5
  a5 := Tryz.isAgg5
  z5 := Tryz.sizeOf5
  v5 := Tryz.zeroValue5
  infoByte := by kernel_rfl
  cellsByte := by kernel_rfl
  sizeByte := by kernel_rfl
  neB5 := by decide }
open Go.RowKit in
/-- (*strings.Builder).String: "String returns the accumulated string.": OF A BUILDER THAT HOLDS AT LEAST ONE BYTE. ✋ THE MODEL FREEZES THOSE BYTES IN THE BUFFER (unsafe.String): a later write INTO them ends the model's run without an answer; a later append BEHIND them goes on. The statement's order of evaluation is drawn: one draw. (LAID: no walk: one application.) -/
theorem Tryz.Builder_String (B b : Nat) (l : List UInt8) (w : World) (h : Lib.IsBuilder 112 5 B b (Lib.byteCells l) w) (h0 : l ≠ []) :
    Calls Tryz.prog 51 #[.pointer (some ⟨b, 0, none⟩)] w fun e w' => e = .returned (.string ⟨l.toArray⟩) ∧ Below B w w' := Any.Builder_String Tryz.lays169 Tryz.Builder_Extra_169 B b l w h h0
open Go.RowKit in
/-- (*strings.Builder).String OF A BUILDER THAT HOLDS NO BYTE: the empty string. (Its buffer is nil, or a row of which it has taken nothing yet; where that row has NO capacity the model lays one new block for unsafe.SliceData's 'some address'.) One draw. (LAID: no walk: one application.) -/
theorem Tryz.Builder_String_empty (B b : Nat) (w : World) (h : Lib.IsBuilder 112 5 B b [] w) (hBw : B ≤ w.heap.size) :
    Calls Tryz.prog 51 #[.pointer (some ⟨b, 0, none⟩)] w fun e w' => e = .returned (.string ⟨#[]⟩) ∧ Below B w w' := Any.Builder_String_empty Tryz.lays169 Tryz.Builder_Extra_169 B b w h hBw
open Go.RowKit in
/-- (*strings.Builder).String: "String returns the accumulated string.": WHATEVER THE BUILDER HOLDS. (LAID: no walk: one application.) -/
theorem Tryz.Builder_String_any (B b : Nat) (l : List UInt8) (w : World) (h : Lib.IsBuilder 112 5 B b (Lib.byteCells l) w) (hBw : B ≤ w.heap.size) :
    Calls Tryz.prog 51 #[.pointer (some ⟨b, 0, none⟩)] w fun e w' => e = .returned (.string ⟨l.toArray⟩) ∧ Below B w w' := Any.Builder_String_any Tryz.lays169 Tryz.Builder_Extra_169 B b l w h hBw
def Tryz.lays241_ren : Go.Shelf.Ren := ⟨fun | 241 => 175 | 277 => 198 | n => n, fun | 70 => 109 | 3 => 3 | 0 => 0 | 72 => 112 | 37 => 110 | 5 => 5 | n => n, fun | n => n⟩
theorem Tryz.lays241 : Go.Proofs.Lays.n241 Tryz.prog Tryz.lays241_ren := {
  mixed := by kernel_rfl
  f241 := Tryz.func175.trans (congrArg some (by kernel_rfl))
  f277 := Tryz.func198.trans (congrArg some (by kernel_rfl))
  t0 := Tryz.underlying0
  a0 := Tryz.isAgg0
  z0 := Tryz.sizeOf0
  v0 := Tryz.zeroValue0
  t3 := Tryz.underlying3
  a3 := Tryz.isAgg3
  z3 := Tryz.sizeOf3
  v3 := Tryz.zeroValue3
  t37 := Tryz.underlying110
  a37 := Tryz.isAgg110
  z37 := Tryz.sizeOf110
  v37 := Tryz.zeroValue110
  t70 := Tryz.underlying109
  a70 := Tryz.isAgg109
  z70 := Tryz.sizeOf109
  v70 := Tryz.zeroValue109
  t72 := Tryz.underlying112
  a72 := Tryz.isAgg112
  z72 := Tryz.sizeOf112
  v72 := Tryz.zeroValue112 }
theorem Tryz.Builder_Extra_241 : Builder.Extra Tryz.prog Tryz.lays241_ren := {
  sizeBuilder := by kernel_rfl
  liesBuilder := by kernel_rfl
  t5 := Tryz.underlying5
  a5 := Tryz.isAgg5
  z5 := Tryz.sizeOf5
  v5 := Tryz.zeroValue5
  infoByte := by kernel_rfl
  cellsByte := by kernel_rfl
  sizeByte := by kernel_rfl
  neB5 := by decide }
open Go.RowKit in
/-- (*strings.Builder).grow (no doc but "grow copies the buffer to a new, larger buffer so that there are at least n bytes of capacity beyond len(b.buf)."): AT A BUILDER WITHOUT A BUFFER: a new row of whatever bytes for its buffer, none of them its own yet. Three draws. (LAID: no walk: one application.) -/
theorem Tryz.Builder_grow_fresh (B b n : Nat) (w : World) (hB : B ≤ b) (hbk : w.heap[b]? = some (.cells #[.pointer (some ⟨b, 0, none⟩), .slice none 0 0] 112 (0, 0))) (hBw : B ≤ w.heap.size) (hn : n ≤ 281474976710656) :
    Calls Tryz.prog 175 #[.pointer (some ⟨b, 0, none⟩), .int .i64 n] w fun e w' => e = .returned (.tuple #[]) ∧ (Lib.BuilderAt 112 5 B b (.pointer (some ⟨b, 0, none⟩)) [] w' ∧ Below B w w') := Any.Builder_grow_fresh Tryz.lays241 Tryz.Builder_Extra_241 B b n w hB hbk hBw hn
def Tryz.lays165_ren : Go.Shelf.Ren := ⟨fun | 165 => 143 | 240 => 140 | 241 => 175 | 276 => 171 | 277 => 198 | n => n, fun | 70 => 109 | 3 => 3 | 0 => 0 | 4 => 4 | 9 => 9 | 20 => 20 | 72 => 112 | 37 => 110 | 164 => 215 | 5 => 5 | n => n, fun | n => n⟩
theorem Tryz.lays165 : Go.Proofs.Lays.n165 Tryz.prog Tryz.lays165_ren := {
  mixed := by kernel_rfl
  f165 := Tryz.func143.trans (congrArg some (by kernel_rfl))
  f240 := Tryz.func140.trans (congrArg some (by kernel_rfl))
  f241 := Tryz.func175.trans (congrArg some (by kernel_rfl))
  f276 := Tryz.func171.trans (congrArg some (by kernel_rfl))
  f277 := Tryz.func198.trans (congrArg some (by kernel_rfl))
  t0 := Tryz.underlying0
  a0 := Tryz.isAgg0
  z0 := Tryz.sizeOf0
  v0 := Tryz.zeroValue0
  t3 := Tryz.underlying3
  a3 := Tryz.isAgg3
  z3 := Tryz.sizeOf3
  v3 := Tryz.zeroValue3
  t4 := Tryz.underlying4
  a4 := Tryz.isAgg4
  z4 := Tryz.sizeOf4
  v4 := Tryz.zeroValue4
  t9 := Tryz.underlying9
  a9 := Tryz.isAgg9
  z9 := Tryz.sizeOf9
  v9 := Tryz.zeroValue9
  t20 := Tryz.underlying20
  a20 := Tryz.isAgg20
  z20 := Tryz.sizeOf20
  v20 := Tryz.zeroValue20
  t37 := Tryz.underlying110
  a37 := Tryz.isAgg110
  z37 := Tryz.sizeOf110
  v37 := Tryz.zeroValue110
  t70 := Tryz.underlying109
  a70 := Tryz.isAgg109
  z70 := Tryz.sizeOf109
  v70 := Tryz.zeroValue109
  t72 := Tryz.underlying112
  a72 := Tryz.isAgg112
  z72 := Tryz.sizeOf112
  v72 := Tryz.zeroValue112
  t164 := Tryz.underlying215
  a164 := Tryz.isAgg215
  z164 := Tryz.sizeOf215
  v164 := Tryz.zeroValue215 }
theorem Tryz.Builder_Extra_165 : Builder.Extra Tryz.prog Tryz.lays165_ren := {
  sizeBuilder := by kernel_rfl
  liesBuilder := by kernel_rfl
  t5 := Tryz.underlying5
  a5 := Tryz.isAgg5
  z5 := Tryz.sizeOf5
  v5 := Tryz.zeroValue5
  infoByte := by kernel_rfl
  cellsByte := by kernel_rfl
  sizeByte := by kernel_rfl
  neB5 := by decide }
open Go.RowKit in
/-- (*strings.Builder).Grow AT A BUILDER THAT HAS NOT BEEN WRITTEN ('var b strings.Builder; b.Grow(n)'): "Grow grows b's capacity, if necessary, to guarantee space for another n bytes.": it holds no byte behind it as before it. (LAID: no walk: one application.) -/
theorem Tryz.Builder_Grow_fresh (B b n : Nat) (w : World) (hB : B ≤ b) (hbk : w.heap[b]? = some (.cells #[.pointer none, .slice none 0 0] 112 (0, 0))) (hBw : B ≤ w.heap.size) (hn : n ≤ 281474976710656) :
    Calls Tryz.prog 143 #[.pointer (some ⟨b, 0, none⟩), .int .i64 n] w fun e w' => e = .returned (.tuple #[]) ∧ (Lib.BuilderAt 112 5 B b (.pointer (some ⟨b, 0, none⟩)) [] w' ∧ Below B w w') := Any.Builder_Grow_fresh Tryz.lays165 Tryz.Builder_Extra_165 B b n w hB hbk hBw hn
def Tryz.lays137_ren : Go.Shelf.Ren := ⟨fun | 137 => 166 | 217 => 197 | 266 => 212 | n => n, fun | 9 => 9 | 5 => 5 | 3 => 3 | n => n, fun | n => n⟩
theorem Tryz.lays137 : Go.Proofs.Lays.n137 Tryz.prog Tryz.lays137_ren := {
  mixed := by kernel_rfl
  f137 := Tryz.func166.trans (congrArg some (by kernel_rfl))
  f217 := Tryz.func197.trans (congrArg some (by kernel_rfl))
  f266 := Tryz.func212.trans (congrArg some (by kernel_rfl))
  t3 := Tryz.underlying3
  a3 := Tryz.isAgg3
  z3 := Tryz.sizeOf3
  v3 := Tryz.zeroValue3
  t5 := Tryz.underlying5
  a5 := Tryz.isAgg5
  z5 := Tryz.sizeOf5
  v5 := Tryz.zeroValue5
  t9 := Tryz.underlying9
  a9 := Tryz.isAgg9
  z9 := Tryz.sizeOf9
  v9 := Tryz.zeroValue9 }
open Go.RowKit in
/-- strings.IndexByte: "IndexByte returns the index of the first instance of c in s, or -1 if c is not present in s.": IT RETURNS 'Lib.indexByte s c'; the world is as it was. (LAID: no walk: one application.) -/
theorem Tryz.strings_IndexByte (s : ByteArray) (c : Int) (w : World) :
    Calls Tryz.prog 166 #[.string s, .int .u8 c] w fun e w' => e = .returned (.int .i64 (Lib.indexByte s.data.toList c.toNat.toUInt8)) ∧ w' = w := Any.strings_IndexByte Tryz.lays137 s c w
open Go.RowKit in
/-- (*strings.Builder).Len: "Len returns the number of accumulated bytes; b.Len() == len(b.String()).": the world is as it was. (THE FORM '_f': 'Lib.IsBuilderF'.) (LAID: no walk: one application.) -/
theorem Tryz.Builder_Len_f (B b : Nat) (bs : List Value) (w : World) (h : Lib.IsBuilderF 112 5 B b bs w) :
    Calls Tryz.prog 144 #[.pointer (some ⟨b, 0, none⟩)] w fun e w' => e = .returned (.int .i64 bs.length) ∧ w' = w := Any.Builder_Len_f Tryz.lays170 B b bs w h
open Go.RowKit in
/-- (*strings.Builder).String: "String returns the accumulated string.": OF A BUILDER THAT HOLDS AT LEAST ONE BYTE. ✋ THE MODEL FREEZES THOSE BYTES IN THE BUFFER (unsafe.String): a later write INTO them ends the model's run without an answer; a later append BEHIND them goes on. The statement's order of evaluation is drawn: one draw. THE FORM '_f': IT SAYS BESIDES THAT THE BUILDER IS A BUILDER STILL ('Lib.IsBuilderF', the same bytes): SO IT CAN BE WRITTEN ON: 'b.WriteString(b.String()[:k])'. (LAID: no walk: one application.) -/
theorem Tryz.Builder_String_f (B b : Nat) (l : List UInt8) (w : World) (h : Lib.IsBuilderF 112 5 B b (Lib.byteCells l) w) (h0 : l ≠ []) :
    Calls Tryz.prog 51 #[.pointer (some ⟨b, 0, none⟩)] w fun e w' => e = .returned (.string ⟨l.toArray⟩) ∧ (Lib.IsBuilderF 112 5 B b (Lib.byteCells l) w' ∧ Below B w w') := Any.Builder_String_f Tryz.lays169 Tryz.Builder_Extra_169 B b l w h h0
open Go.RowKit in
/-- (*strings.Builder).String OF A BUILDER THAT HOLDS NO BYTE: the empty string; THE FORM '_f': a builder still. (LAID: no walk: one application.) -/
theorem Tryz.Builder_String_empty_f (B b : Nat) (w : World) (h : Lib.IsBuilderF 112 5 B b [] w) (hBw : B ≤ w.heap.size) :
    Calls Tryz.prog 51 #[.pointer (some ⟨b, 0, none⟩)] w fun e w' => e = .returned (.string ⟨#[]⟩) ∧ (Lib.IsBuilderF 112 5 B b [] w' ∧ Below B w w') := Any.Builder_String_empty_f Tryz.lays169 Tryz.Builder_Extra_169 B b w h hBw
open Go.RowKit in
/-- (*strings.Builder).String: "String returns the accumulated string.": WHATEVER THE BUILDER HOLDS; THE FORM '_f': OF A BUILDER THAT MAY HAVE BEEN READ BEFORE; AND IT IS A BUILDER STILL, holding the same bytes: it can be written on. (LAID: no walk: one application.) -/
theorem Tryz.Builder_String_any_f (B b : Nat) (l : List UInt8) (w : World) (h : Lib.IsBuilderF 112 5 B b (Lib.byteCells l) w) (hBw : B ≤ w.heap.size) :
    Calls Tryz.prog 51 #[.pointer (some ⟨b, 0, none⟩)] w fun e w' => e = .returned (.string ⟨l.toArray⟩) ∧ (Lib.IsBuilderF 112 5 B b (Lib.byteCells l) w' ∧ Below B w w') := Any.Builder_String_any_f Tryz.lays169 Tryz.Builder_Extra_169 B b l w h hBw
open Go.RowKit in
/-- (*strings.Builder).String: "String returns the accumulated string.": OF A BUILDER THAT HOLDS AT LEAST ONE BYTE. ✋ THE MODEL FREEZES THOSE BYTES IN THE BUFFER (unsafe.String): a later write INTO them ends the model's run without an answer; a later append BEHIND them goes on. The statement's order of evaluation is drawn: one draw. THE FORM '_k': OVER 'Lib.IsBuilderF' (a builder that 'String()' may have read), AND WITH THE FRAME THAT REACHES ABOVE THE BUILDER: 'Lib.OthersKept': every block that is not b and is no row of uint8's stands as it stood: the iterator of a range among them. (LAID: no walk: one application.) -/
theorem Tryz.Builder_String_k (B b : Nat) (l : List UInt8) (w : World) (h : Lib.IsBuilderF 112 5 B b (Lib.byteCells l) w) (h0 : l ≠ []) :
    Calls Tryz.prog 51 #[.pointer (some ⟨b, 0, none⟩)] w fun e w' => e = .returned (.string ⟨l.toArray⟩) ∧ (Lib.IsBuilderF 112 5 B b (Lib.byteCells l) w' ∧ Below B w w' ∧ Lib.OthersKept 5 (some b) w w') := Any.Builder_String_k Tryz.lays169 Tryz.Builder_Extra_169 B b l w h h0
open Go.RowKit in
/-- (*strings.Builder).String OF A BUILDER THAT HOLDS NO BYTE: the empty string; THE FORM '_k': OVER 'Lib.IsBuilderF' (a builder that 'String()' may have read), AND WITH THE FRAME THAT REACHES ABOVE THE BUILDER: 'Lib.OthersKept': every block that is not b and is no row of uint8's stands as it stood: the iterator of a range among them. (LAID: no walk: one application.) -/
theorem Tryz.Builder_String_empty_k (B b : Nat) (w : World) (h : Lib.IsBuilderF 112 5 B b [] w) (hBw : B ≤ w.heap.size) :
    Calls Tryz.prog 51 #[.pointer (some ⟨b, 0, none⟩)] w fun e w' => e = .returned (.string ⟨#[]⟩) ∧ (Lib.IsBuilderF 112 5 B b [] w' ∧ Below B w w' ∧ Lib.OthersKept 5 (some b) w w') := Any.Builder_String_empty_k Tryz.lays169 Tryz.Builder_Extra_169 B b w h hBw
open Go.RowKit in
/-- (*strings.Builder).String: "String returns the accumulated string.": WHATEVER THE BUILDER HOLDS; THE FORM '_k': OVER 'Lib.IsBuilderF' (a builder that 'String()' may have read), AND WITH THE FRAME THAT REACHES ABOVE THE BUILDER: 'Lib.OthersKept': every block that is not b and is no row of uint8's stands as it stood: the iterator of a range among them. (LAID: no walk: one application.) -/
theorem Tryz.Builder_String_any_k (B b : Nat) (l : List UInt8) (w : World) (h : Lib.IsBuilderF 112 5 B b (Lib.byteCells l) w) (hBw : B ≤ w.heap.size) :
    Calls Tryz.prog 51 #[.pointer (some ⟨b, 0, none⟩)] w fun e w' => e = .returned (.string ⟨l.toArray⟩) ∧ (Lib.IsBuilderF 112 5 B b (Lib.byteCells l) w' ∧ Below B w w' ∧ Lib.OthersKept 5 (some b) w w') := Any.Builder_String_any_k Tryz.lays169 Tryz.Builder_Extra_169 B b l w h hBw
def Tryz.lays278_ren : Go.Shelf.Ren := ⟨fun | 278 => 147 | n => n, fun | 37 => 110 | 21 => 21 | 51 => 197 | 4 => 4 | 46 => 192 | 5 => 5 | n => n, fun | n => n⟩
theorem Tryz.lays278 : Go.Proofs.Lays.n278 Tryz.prog Tryz.lays278_ren := {
  mixed := by kernel_rfl
  f278 := Tryz.func147.trans (congrArg some (by kernel_rfl))
  t4 := Tryz.underlying4
  a4 := Tryz.isAgg4
  z4 := Tryz.sizeOf4
  v4 := Tryz.zeroValue4
  t5 := Tryz.underlying5
  a5 := Tryz.isAgg5
  z5 := Tryz.sizeOf5
  v5 := Tryz.zeroValue5
  t21 := Tryz.underlying21
  a21 := Tryz.isAgg21
  z21 := Tryz.sizeOf21
  v21 := Tryz.zeroValue21
  t37 := Tryz.underlying110
  a37 := Tryz.isAgg110
  z37 := Tryz.sizeOf110
  v37 := Tryz.zeroValue110
  t46 := Tryz.underlying192
  a46 := Tryz.isAgg192
  z46 := Tryz.sizeOf192
  v46 := Tryz.zeroValue192
  t51 := Tryz.underlying197
  a51 := Tryz.isAgg197
  z51 := Tryz.sizeOf197
  v51 := Tryz.zeroValue197 }
open Go.RowKit in
/-- unicode/utf8.appendRuneNonASCII (what AppendRune calls for all but ASCII), ONTO A ROW OF BYTES THAT THE CALL OWNS: every int32 that is no ASCII rune: 'Lib.runeCells r' goes in behind what the row holds. (LAID: no walk: one application.) -/
theorem Tryz.utf8_appendRuneNonASCII_row (B : Nat) (v : Value) (n : Nat) (xs : List Value) (r : Int) (hr0 : -2147483648 ≤ r) (hr1 : r ≤ 2147483647) (hna : r < 0 ∨ 128 ≤ r) (w : World) (hown : w.ownsRowF B 5 1 v n xs) (hlen : n + 4 ≤ 140737488355328) (hBw : B ≤ w.heap.size) :
    Calls Tryz.prog 147 #[v, .int .i32 r] w fun e w' => ∃ v', e = .returned v' ∧ w'.ownsRowF B 5 1 v' (n + (Lib.runeCells r).length) (xs ++ Lib.runeCells r) ∧ ∃ o, (w.alloc o).grownBy w' v.ownBlock := Any.utf8_appendRuneNonASCII_row Tryz.lays278 (by kernel_rfl) B v n xs r hr0 hr1 hna w hown hlen hBw
def Tryz.lays242_ren : Go.Shelf.Ren := ⟨fun | 242 => 103 | 278 => 147 | n => n, fun | 37 => 110 | 21 => 21 | 51 => 197 | 4 => 4 | 5 => 5 | 46 => 192 | n => n, fun | n => n⟩
theorem Tryz.lays242 : Go.Proofs.Lays.n242 Tryz.prog Tryz.lays242_ren := {
  mixed := by kernel_rfl
  f242 := Tryz.func103.trans (congrArg some (by kernel_rfl))
  f278 := Tryz.func147.trans (congrArg some (by kernel_rfl))
  t4 := Tryz.underlying4
  a4 := Tryz.isAgg4
  z4 := Tryz.sizeOf4
  v4 := Tryz.zeroValue4
  t5 := Tryz.underlying5
  a5 := Tryz.isAgg5
  z5 := Tryz.sizeOf5
  v5 := Tryz.zeroValue5
  t21 := Tryz.underlying21
  a21 := Tryz.isAgg21
  z21 := Tryz.sizeOf21
  v21 := Tryz.zeroValue21
  t37 := Tryz.underlying110
  a37 := Tryz.isAgg110
  z37 := Tryz.sizeOf110
  v37 := Tryz.zeroValue110
  t46 := Tryz.underlying192
  a46 := Tryz.isAgg192
  z46 := Tryz.sizeOf192
  v46 := Tryz.zeroValue192
  t51 := Tryz.underlying197
  a51 := Tryz.isAgg197
  z51 := Tryz.sizeOf197
  v51 := Tryz.zeroValue197 }
open Go.RowKit in
/-- unicode/utf8.AppendRune: "AppendRune appends the UTF-8 encoding of r to the end of p and returns the extended buffer. If the rune is out of range, it appends the encoding of RuneError.": ONTO A ROW OF BYTES THAT THE CALL OWNS (its head frozen or not): EVERY int32: 'Lib.runeCells r' goes in behind what the row holds; the world: one new block (the bytes as the call's variadic argument), then what 'append' does to the row. (LAID: no walk: one application.) -/
theorem Tryz.utf8_AppendRune_row (B : Nat) (v : Value) (n : Nat) (xs : List Value) (r : Int) (hr0 : -2147483648 ≤ r) (hr1 : r ≤ 2147483647) (w : World) (hown : w.ownsRowF B 5 1 v n xs) (hlen : n + 4 ≤ 140737488355328) (hBw : B ≤ w.heap.size) :
    Calls Tryz.prog 103 #[v, .int .i32 r] w fun e w' => ∃ v', e = .returned v' ∧ w'.ownsRowF B 5 1 v' (n + (Lib.runeCells r).length) (xs ++ Lib.runeCells r) ∧ ∃ o, (w.alloc o).grownBy w' v.ownBlock := Any.utf8_AppendRune_row Tryz.lays242 (by kernel_rfl) B v n xs r hr0 hr1 w hown hlen hBw
open Go.RowKit in
/-- unicode/utf8.appendRuneNonASCII (what AppendRune calls for all but ASCII), ONTO A ROW OF BYTES THAT THE CALL OWNS: every int32 that is no ASCII rune: 'Lib.runeCells r' goes in behind what the row holds. (LAID: no walk: one application.) -/
theorem Tryz.utf8_appendRuneNonASCII_plain (B : Nat) (v : Value) (n : Nat) (xs : List Value) (r : Int) (hr0 : -2147483648 ≤ r) (hr1 : r ≤ 2147483647) (hna : r < 0 ∨ 128 ≤ r) (w : World) (hown : w.ownsRow B 5 1 v n xs) (hlen : n + 4 ≤ 140737488355328) (hBw : B ≤ w.heap.size) :
    Calls Tryz.prog 147 #[v, .int .i32 r] w fun e w' => ∃ v', e = .returned v' ∧ w'.ownsRow B 5 1 v' (n + (Lib.runeCells r).length) (xs ++ Lib.runeCells r) ∧ ∃ o, (w.alloc o).grownBy w' v.ownBlock := Any.utf8_appendRuneNonASCII_plain Tryz.lays278 (by kernel_rfl) B v n xs r hr0 hr1 hna w hown hlen hBw
open Go.RowKit in
/-- unicode/utf8.AppendRune: "AppendRune appends the UTF-8 encoding of r to the end of p and returns the extended buffer. If the rune is out of range, it appends the encoding of RuneError.": ONTO A ROW OF BYTES THAT THE CALL OWNS (its head frozen or not): EVERY int32: 'Lib.runeCells r' goes in behind what the row holds; the world: one new block (the bytes as the call's variadic argument), then what 'append' does to the row. (LAID: no walk: one application.) -/
theorem Tryz.utf8_AppendRune_plain (B : Nat) (v : Value) (n : Nat) (xs : List Value) (r : Int) (hr0 : -2147483648 ≤ r) (hr1 : r ≤ 2147483647) (w : World) (hown : w.ownsRow B 5 1 v n xs) (hlen : n + 4 ≤ 140737488355328) (hBw : B ≤ w.heap.size) :
    Calls Tryz.prog 103 #[v, .int .i32 r] w fun e w' => ∃ v', e = .returned v' ∧ w'.ownsRow B 5 1 v' (n + (Lib.runeCells r).length) (xs ++ Lib.runeCells r) ∧ ∃ o, (w.alloc o).grownBy w' v.ownBlock := Any.utf8_AppendRune_plain Tryz.lays242 (by kernel_rfl) B v n xs r hr0 hr1 w hown hlen hBw
open Go.RowKit in
/-- (*strings.Builder).grow (no doc but "grow copies the buffer to a new, larger buffer so that there are at least n bytes of capacity beyond len(b.buf)."): AT A BUILDER WITHOUT A BUFFER: a new row of whatever bytes for its buffer, none of them its own yet. Three draws. (LAID: no walk: one application.) -/
theorem Tryz.Builder_grow_fresh_cap (B b n : Nat) (w : World) (hB : B ≤ b) (hbk : w.heap[b]? = some (.cells #[.pointer (some ⟨b, 0, none⟩), .slice none 0 0] 112 (0, 0))) (hBw : B ≤ w.heap.size) (hn : n ≤ 281474976710656) :
    Calls Tryz.prog 175 #[.pointer (some ⟨b, 0, none⟩), .int .i64 n] w fun e w' => e = .returned (.tuple #[]) ∧ (Lib.BuilderAt 112 5 B b (.pointer (some ⟨b, 0, none⟩)) [] w' ∧ Below B w w') ∧ ∃ p cap, w'.cell? ⟨b, 1, none⟩ = some (.slice p 0 cap) ∧ n ≤ cap := Any.Builder_grow_fresh_cap Tryz.lays241 Tryz.Builder_Extra_241 B b n w hB hbk hBw hn
open Go.RowKit in
/-- (*strings.Builder).Grow AT A BUILDER THAT HAS NOT BEEN WRITTEN ('var b strings.Builder; b.Grow(n)'): "Grow grows b's capacity, if necessary, to guarantee space for another n bytes.": it holds no byte behind it as before it. (LAID: no walk: one application.) -/
theorem Tryz.Builder_Grow_fresh_cap (B b n : Nat) (w : World) (hB : B ≤ b) (hbk : w.heap[b]? = some (.cells #[.pointer none, .slice none 0 0] 112 (0, 0))) (hBw : B ≤ w.heap.size) (hn : n ≤ 281474976710656) :
    Calls Tryz.prog 143 #[.pointer (some ⟨b, 0, none⟩), .int .i64 n] w fun e w' => e = .returned (.tuple #[]) ∧ (Lib.BuilderAt 112 5 B b (.pointer (some ⟨b, 0, none⟩)) [] w' ∧ Below B w w') ∧ ∃ p cap, w'.cell? ⟨b, 1, none⟩ = some (.slice p 0 cap) ∧ n ≤ cap := Any.Builder_Grow_fresh_cap Tryz.lays165 Tryz.Builder_Extra_165 B b n w hB hbk hBw hn
def Tryz.lays129_ren : Go.Shelf.Ren := ⟨fun | 129 => 206 | n => n, fun | 53 => 219 | 3 => 3 | 4 => 4 | 46 => 192 | 5 => 5 | 9 => 9 | n => n, fun | n => n⟩
theorem Tryz.lays129 : Go.Proofs.Lays.n129 Tryz.prog Tryz.lays129_ren := {
  mixed := by kernel_rfl
  f129 := Tryz.func206.trans (congrArg some (by kernel_rfl))
  t3 := Tryz.underlying3
  a3 := Tryz.isAgg3
  z3 := Tryz.sizeOf3
  v3 := Tryz.zeroValue3
  t4 := Tryz.underlying4
  a4 := Tryz.isAgg4
  z4 := Tryz.sizeOf4
  v4 := Tryz.zeroValue4
  t5 := Tryz.underlying5
  a5 := Tryz.isAgg5
  z5 := Tryz.sizeOf5
  v5 := Tryz.zeroValue5
  t9 := Tryz.underlying9
  a9 := Tryz.isAgg9
  z9 := Tryz.sizeOf9
  v9 := Tryz.zeroValue9
  t46 := Tryz.underlying192
  a46 := Tryz.isAgg192
  z46 := Tryz.sizeOf192
  v46 := Tryz.zeroValue192
  t53 := Tryz.underlying219
  a53 := Tryz.isAgg219
  z53 := Tryz.sizeOf219
  v53 := Tryz.zeroValue219 }
/-- bits.Len64: "Len64 returns the minimum number of bits required to represent x; the result is 0 for x == 0.": IT RETURNS 'Lib.bitLen x'; the world is as it was. ('h0', 'h1': x is a uint64.) (LAID: no walk: one application.) -/
theorem Tryz.bits_Len64 (x : Int) (w : World) (h0 : 0 ≤ x) (h1 : x ≤ 18446744073709551615) :
    Calls Tryz.prog 206 #[.int .u64 x] w fun e w' => e = .returned (.int .i64 (Lib.bitLen x.toNat)) ∧ w' = w := Any.bits_Len64 Tryz.lays129 x w h0 h1
def Tryz.lays317_ren : Go.Shelf.Ren := ⟨fun | 317 => 205 | n => n, fun | 3 => 3 | 46 => 192 | n => n, fun | n => n⟩
theorem Tryz.lays317 : Go.Proofs.Lays.n317 Tryz.prog Tryz.lays317_ren := {
  mixed := by kernel_rfl
  f317 := Tryz.func205.trans (congrArg some (by kernel_rfl))
  t3 := Tryz.underlying3
  a3 := Tryz.isAgg3
  z3 := Tryz.sizeOf3
  v3 := Tryz.zeroValue3
  t46 := Tryz.underlying192
  a46 := Tryz.isAgg192
  z46 := Tryz.sizeOf192
  v46 := Tryz.zeroValue192 }
open Go.Lib in
/-- internal/strconv.log10Pow2: "log10Pow2(x) returns ⌊log₁₀ 2**x⌋ = ⌊x * log₁₀ 2⌋.": '(x * 78913) >> 18', at an x up to 64 (a length in bits). The world is as it was. (LAID: no walk: one application.) -/
theorem Tryz.internal_strconv_log10Pow2 (x : Nat) (h : x ≤ 64) (w : World) :
    Calls Tryz.prog 205 #[.int .i64 x] w fun e w' => e = .returned (.int .i64 (Lib.l10 x)) ∧ w' = w := Any.internal_strconv_log10Pow2 Tryz.lays317 x h w
def Tryz.lays318_ren : Go.Shelf.Ren := ⟨fun | 318 => 207 | n => n, fun | 3 => 3 | 4 => 4 | n => n, fun | n => n⟩
theorem Tryz.lays318 : Go.Proofs.Lays.n318 Tryz.prog Tryz.lays318_ren := {
  mixed := by kernel_rfl
  f318 := Tryz.func207.trans (congrArg some (by kernel_rfl))
  t3 := Tryz.underlying3
  a3 := Tryz.isAgg3
  z3 := Tryz.sizeOf3
  v3 := Tryz.zeroValue3
  t4 := Tryz.underlying4
  a4 := Tryz.isAgg4
  z4 := Tryz.sizeOf4
  v4 := Tryz.zeroValue4 }
open Go.Lib in
/-- internal/strconv.bool2: "bool2 converts b to an integer: 1 for true, 0 for false." The world is as it was. (LAID: no walk: one application.) -/
theorem Tryz.internal_strconv_bool2_int (b : Bool) (w : World) :
    Calls Tryz.prog 207 #[.bool b] w fun e w' => e = .returned (.int .i64 (if b then 1 else 0)) ∧ w' = w := Any.internal_strconv_bool2_int Tryz.lays318 b w
def Tryz.lays283_ren : Go.Shelf.Ren := ⟨fun | 283 => 186 | n => n, fun | 3 => 3 | 9 => 9 | 4 => 4 | n => n, fun | n => n⟩
theorem Tryz.lays283 : Go.Proofs.Lays.n283 Tryz.prog Tryz.lays283_ren := {
  mixed := by kernel_rfl
  f283 := Tryz.func186.trans (congrArg some (by kernel_rfl))
  t3 := Tryz.underlying3
  a3 := Tryz.isAgg3
  z3 := Tryz.sizeOf3
  v3 := Tryz.zeroValue3
  t4 := Tryz.underlying4
  a4 := Tryz.isAgg4
  z4 := Tryz.sizeOf4
  v4 := Tryz.zeroValue4
  t9 := Tryz.underlying9
  a9 := Tryz.isAgg9
  z9 := Tryz.sizeOf9
  v9 := Tryz.zeroValue9 }
open Go.Lib in
/-- internal/strconv.small: "small returns the string for an i with 0 <= i < nSmalls.": i's decimal numeral. The world is as it was. (LAID: no walk: one application.) -/
theorem Tryz.internal_strconv_small (i : Nat) (h : i < 100) (w : World) :
    Calls Tryz.prog 186 #[.int .i64 i] w fun e w' => e = .returned (.string ⟨(Lib.decDigits i).toArray⟩) ∧ w' = w := Any.internal_strconv_small Tryz.lays283 i h w
def Tryz.laysM284_ren : Go.Shelf.Ren := ⟨fun | 284 => 187 | 129 => 206 | 317 => 205 | 318 => 207 | n => n, fun | 53 => 219 | 3 => 3 | 212 => 260 | 0 => 0 | 4 => 4 | 46 => 192 | 5 => 5 | 9 => 9 | n => n, fun | 17 => 0 | n => n⟩
theorem Tryz.laysM284 : Go.Proofs.LaysM.n284 Tryz.prog Tryz.laysM284_ren := {
  mixed := by kernel_rfl
  f129 := Tryz.func206.trans (congrArg some (by kernel_rfl))
  f284 := Tryz.func187.trans (congrArg some (by kernel_rfl))
  f317 := Tryz.func205.trans (congrArg some (by kernel_rfl))
  f318 := Tryz.func207.trans (congrArg some (by kernel_rfl))
  t0 := Tryz.underlying0
  a0 := Tryz.isAgg0
  z0 := Tryz.sizeOf0
  v0 := Tryz.zeroValue0
  t3 := Tryz.underlying3
  a3 := Tryz.isAgg3
  z3 := Tryz.sizeOf3
  v3 := Tryz.zeroValue3
  t4 := Tryz.underlying4
  a4 := Tryz.isAgg4
  z4 := Tryz.sizeOf4
  v4 := Tryz.zeroValue4
  t5 := Tryz.underlying5
  a5 := Tryz.isAgg5
  z5 := Tryz.sizeOf5
  v5 := Tryz.zeroValue5
  t9 := Tryz.underlying9
  a9 := Tryz.isAgg9
  z9 := Tryz.sizeOf9
  v9 := Tryz.zeroValue9
  t46 := Tryz.underlying192
  a46 := Tryz.isAgg192
  z46 := Tryz.sizeOf192
  v46 := Tryz.zeroValue192
  t53 := Tryz.underlying219
  a53 := Tryz.isAgg219
  z53 := Tryz.sizeOf219
  v53 := Tryz.zeroValue219
  t212 := Tryz.underlying260
  a212 := Tryz.isAgg260
  z212 := Tryz.sizeOf260
  v212 := Tryz.zeroValue260
  g17 := by kernel_rfl
  i0 := by kernel_rfl
  i3 := by kernel_rfl
  i4 := by kernel_rfl
  i5 := by kernel_rfl
  i9 := by kernel_rfl
  i46 := by kernel_rfl
  i53 := by kernel_rfl
  i212 := by kernel_rfl
  m17 := by kernel_rfl }
open Go.Lib in
/-- internal/strconv.numDigits, at a d that is not 0: THE NUMBER OF d's DECIMAL DIGITS. The world is as it was. (LAID: no walk: one application.) -/
theorem Tryz.internal_strconv_numDigits (u : Nat) (h1 : 1 ≤ u) (h2 : u < 18446744073709551616) (w : World) (htab : Lib.TabIs Tryz.prog w "internal/strconv.uint64pow10" .u64 Lib.pow10Tab) :
    Calls Tryz.prog 187 #[.int .u64 u] w fun e w' => e = .returned (.int .i64 (Lib.nDigits u)) ∧ w' = w := Any.internal_strconv_numDigits Tryz.laysM284 u h1 h2 w htab
def Tryz.lays285_ren : Go.Shelf.Ren := ⟨fun | 285 => 188 | n => n, fun | 37 => 110 | 53 => 219 | 3 => 3 | 4 => 4 | 51 => 197 | 9 => 9 | 5 => 5 | 0 => 0 | n => n, fun | n => n⟩
theorem Tryz.lays285 : Go.Proofs.Lays.n285 Tryz.prog Tryz.lays285_ren := {
  mixed := by kernel_rfl
  f285 := Tryz.func188.trans (congrArg some (by kernel_rfl))
  t0 := Tryz.underlying0
  a0 := Tryz.isAgg0
  z0 := Tryz.sizeOf0
  v0 := Tryz.zeroValue0
  t3 := Tryz.underlying3
  a3 := Tryz.isAgg3
  z3 := Tryz.sizeOf3
  v3 := Tryz.zeroValue3
  t4 := Tryz.underlying4
  a4 := Tryz.isAgg4
  z4 := Tryz.sizeOf4
  v4 := Tryz.zeroValue4
  t5 := Tryz.underlying5
  a5 := Tryz.isAgg5
  z5 := Tryz.sizeOf5
  v5 := Tryz.zeroValue5
  t9 := Tryz.underlying9
  a9 := Tryz.isAgg9
  z9 := Tryz.sizeOf9
  v9 := Tryz.zeroValue9
  t37 := Tryz.underlying110
  a37 := Tryz.isAgg110
  z37 := Tryz.sizeOf110
  v37 := Tryz.zeroValue110
  t51 := Tryz.underlying197
  a51 := Tryz.isAgg197
  z51 := Tryz.sizeOf197
  v51 := Tryz.zeroValue197
  t53 := Tryz.underlying219
  a53 := Tryz.isAgg219
  z53 := Tryz.sizeOf219
  v53 := Tryz.zeroValue219 }
open Go.RowKit Go.Sort Go.Lib in
/-- internal/strconv.formatBase10: "formatBase10 formats the decimal representation of u into a. The caller is responsible for ensuring that a is big enough to hold u. If a is too big, leading zeros will be filled in as needed.": THE ROW HOLDS u's DIGITS ('FmtInv .. 0 ..': every place t holds 'dg u (len - 1 - t)'); all else is as it was but for the count of draws. (LAID: no walk: one application.) -/
theorem Tryz.internal_strconv_formatBase10 (blk off cap : Nat) (u : Nat) (d : Array UInt8) (w : World) (hH : Holds (fun (b : UInt8) => Value.int .u8 (b.toNat : Int)) w blk off d) (hu : u < 10 ^ d.size) (hu64 : u < 18446744073709551616) (hsz : d.size < 4611686018427387904) :
    Calls Tryz.prog 188 #[.slice (some ⟨blk, off, none⟩) d.size cap, .int .u64 u] w fun e w' =>
      e = .returned (.tuple #[]) ∧ ∃ (n v' : Nat) (dk : Array UInt8), w' = (putRow (fun (b : UInt8) => Value.int .u8 (b.toNat : Int)) w blk off dk).drewN n ∧ FmtInv d.size u 0 v' dk := Any.internal_strconv_formatBase10 Tryz.lays285 blk off cap u d w hH hu hu64 hsz
def Tryz.laysM246_ren : Go.Shelf.Ren := ⟨fun | 246 => 159 | 283 => 186 | 284 => 187 | 285 => 188 | 286 => 189 | 129 => 206 | 317 => 205 | 318 => 207 | 319 => 208 | 320 => 209 | 337 => 218 | 338 => 219 | n => n, fun | 2 => 2 | 3 => 3 | 9 => 9 | 4 => 4 | 171 => 234 | 0 => 0 | 53 => 219 | 37 => 110 | 5 => 5 | 173 => 237 | 212 => 260 | 51 => 197 | 20 => 20 | 213 => 261 | 46 => 192 | 232 => 291 | 233 => 292 | n => n, fun | 17 => 0 | 18 => 4 | 19 => 5 | n => n⟩
theorem Tryz.laysM246 : Go.Proofs.LaysM.n246 Tryz.prog Tryz.laysM246_ren := {
  mixed := by kernel_rfl
  f129 := Tryz.func206.trans (congrArg some (by kernel_rfl))
  f246 := Tryz.func159.trans (congrArg some (by kernel_rfl))
  f283 := Tryz.func186.trans (congrArg some (by kernel_rfl))
  f284 := Tryz.func187.trans (congrArg some (by kernel_rfl))
  f285 := Tryz.func188.trans (congrArg some (by kernel_rfl))
  f286 := Tryz.func189.trans (congrArg some (by kernel_rfl))
  f317 := Tryz.func205.trans (congrArg some (by kernel_rfl))
  f318 := Tryz.func207.trans (congrArg some (by kernel_rfl))
  f319 := Tryz.func208.trans (congrArg some (by kernel_rfl))
  f320 := Tryz.func209.trans (congrArg some (by kernel_rfl))
  f337 := Tryz.func218.trans (congrArg some (by kernel_rfl))
  f338 := Tryz.func219.trans (congrArg some (by kernel_rfl))
  t0 := Tryz.underlying0
  a0 := Tryz.isAgg0
  z0 := Tryz.sizeOf0
  v0 := Tryz.zeroValue0
  t2 := Tryz.underlying2
  a2 := Tryz.isAgg2
  z2 := Tryz.sizeOf2
  v2 := Tryz.zeroValue2
  t3 := Tryz.underlying3
  a3 := Tryz.isAgg3
  z3 := Tryz.sizeOf3
  v3 := Tryz.zeroValue3
  t4 := Tryz.underlying4
  a4 := Tryz.isAgg4
  z4 := Tryz.sizeOf4
  v4 := Tryz.zeroValue4
  t5 := Tryz.underlying5
  a5 := Tryz.isAgg5
  z5 := Tryz.sizeOf5
  v5 := Tryz.zeroValue5
  t9 := Tryz.underlying9
  a9 := Tryz.isAgg9
  z9 := Tryz.sizeOf9
  v9 := Tryz.zeroValue9
  t20 := Tryz.underlying20
  a20 := Tryz.isAgg20
  z20 := Tryz.sizeOf20
  v20 := Tryz.zeroValue20
  t37 := Tryz.underlying110
  a37 := Tryz.isAgg110
  z37 := Tryz.sizeOf110
  v37 := Tryz.zeroValue110
  t46 := Tryz.underlying192
  a46 := Tryz.isAgg192
  z46 := Tryz.sizeOf192
  v46 := Tryz.zeroValue192
  t51 := Tryz.underlying197
  a51 := Tryz.isAgg197
  z51 := Tryz.sizeOf197
  v51 := Tryz.zeroValue197
  t53 := Tryz.underlying219
  a53 := Tryz.isAgg219
  z53 := Tryz.sizeOf219
  v53 := Tryz.zeroValue219
  t171 := Tryz.underlying234
  a171 := Tryz.isAgg234
  z171 := Tryz.sizeOf234
  v171 := Tryz.zeroValue234
  t173 := Tryz.underlying237
  a173 := Tryz.isAgg237
  z173 := Tryz.sizeOf237
  v173 := Tryz.zeroValue237
  t212 := Tryz.underlying260
  a212 := Tryz.isAgg260
  z212 := Tryz.sizeOf260
  v212 := Tryz.zeroValue260
  t213 := Tryz.underlying261
  a213 := Tryz.isAgg261
  z213 := Tryz.sizeOf261
  t232 := Tryz.underlying291
  a232 := Tryz.isAgg291
  z232 := Tryz.sizeOf291
  v232 := Tryz.zeroValue291
  t233 := Tryz.underlying292
  a233 := Tryz.isAgg292
  z233 := Tryz.sizeOf292
  v233 := Tryz.zeroValue292
  g17 := by kernel_rfl
  g18 := by kernel_rfl
  g19 := by kernel_rfl
  i0 := by kernel_rfl
  i2 := by kernel_rfl
  i3 := by kernel_rfl
  i4 := by kernel_rfl
  i5 := by kernel_rfl
  i9 := by kernel_rfl
  i20 := by kernel_rfl
  i37 := by kernel_rfl
  i46 := by kernel_rfl
  i51 := by kernel_rfl
  i53 := by kernel_rfl
  i171 := by kernel_rfl
  i173 := by kernel_rfl
  i212 := by kernel_rfl
  i232 := by kernel_rfl
  i233 := by kernel_rfl
  m17 := by kernel_rfl
  m18 := by kernel_rfl
  m19 := by kernel_rfl }
open Go.RowKit Go.Sort Go.Lib in
/-- internal/strconv.FormatInt: "FormatInt returns the string representation of i in the given base": AT BASE 10: i's decimal numeral, for every int64. The world behind the call: the world before it, new blocks behind the heap, draws. (LAID: no walk: one application.) -/
theorem Tryz.internal_strconv_FormatInt_10 (n : Int) (h0 : -9223372036854775808 ≤ n) (h1 : n ≤ 9223372036854775807) (w : World) (htab : Lib.TabIs Tryz.prog w "internal/strconv.uint64pow10" .u64 Lib.pow10Tab) :
    Calls Tryz.prog 159 #[.int .i64 n, .int .i64 10] w fun e w' => e = .returned (.string ⟨(Lib.itoa n).toArray⟩) ∧ ∃ k os, w' = grow (w.drewN k) os := Any.internal_strconv_FormatInt_10 Tryz.laysM246 n h0 h1 w htab
def Tryz.lays246_ren : Go.Shelf.Ren := ⟨fun | 246 => 159 | 283 => 186 | 284 => 187 | 285 => 188 | 286 => 189 | 129 => 206 | 317 => 205 | 318 => 207 | 319 => 208 | 320 => 209 | 337 => 218 | 338 => 219 | n => n, fun | 2 => 2 | 3 => 3 | 9 => 9 | 4 => 4 | 171 => 234 | 0 => 0 | 53 => 219 | 37 => 110 | 5 => 5 | 173 => 237 | 212 => 260 | 51 => 197 | 20 => 20 | 213 => 261 | 46 => 192 | 232 => 291 | 233 => 292 | n => n, fun | 17 => 0 | 18 => 4 | 19 => 5 | n => n⟩
theorem Tryz.lays246 : Go.Proofs.Lays.n246 Tryz.prog Tryz.lays246_ren := {
  mixed := by kernel_rfl
  f129 := Tryz.func206.trans (congrArg some (by kernel_rfl))
  f246 := Tryz.func159.trans (congrArg some (by kernel_rfl))
  f283 := Tryz.func186.trans (congrArg some (by kernel_rfl))
  f284 := Tryz.func187.trans (congrArg some (by kernel_rfl))
  f285 := Tryz.func188.trans (congrArg some (by kernel_rfl))
  f286 := Tryz.func189.trans (congrArg some (by kernel_rfl))
  f317 := Tryz.func205.trans (congrArg some (by kernel_rfl))
  f318 := Tryz.func207.trans (congrArg some (by kernel_rfl))
  f319 := Tryz.func208.trans (congrArg some (by kernel_rfl))
  f320 := Tryz.func209.trans (congrArg some (by kernel_rfl))
  f337 := Tryz.func218.trans (congrArg some (by kernel_rfl))
  f338 := Tryz.func219.trans (congrArg some (by kernel_rfl))
  t0 := Tryz.underlying0
  a0 := Tryz.isAgg0
  z0 := Tryz.sizeOf0
  v0 := Tryz.zeroValue0
  t2 := Tryz.underlying2
  a2 := Tryz.isAgg2
  z2 := Tryz.sizeOf2
  v2 := Tryz.zeroValue2
  t3 := Tryz.underlying3
  a3 := Tryz.isAgg3
  z3 := Tryz.sizeOf3
  v3 := Tryz.zeroValue3
  t4 := Tryz.underlying4
  a4 := Tryz.isAgg4
  z4 := Tryz.sizeOf4
  v4 := Tryz.zeroValue4
  t5 := Tryz.underlying5
  a5 := Tryz.isAgg5
  z5 := Tryz.sizeOf5
  v5 := Tryz.zeroValue5
  t9 := Tryz.underlying9
  a9 := Tryz.isAgg9
  z9 := Tryz.sizeOf9
  v9 := Tryz.zeroValue9
  t20 := Tryz.underlying20
  a20 := Tryz.isAgg20
  z20 := Tryz.sizeOf20
  v20 := Tryz.zeroValue20
  t37 := Tryz.underlying110
  a37 := Tryz.isAgg110
  z37 := Tryz.sizeOf110
  v37 := Tryz.zeroValue110
  t46 := Tryz.underlying192
  a46 := Tryz.isAgg192
  z46 := Tryz.sizeOf192
  v46 := Tryz.zeroValue192
  t51 := Tryz.underlying197
  a51 := Tryz.isAgg197
  z51 := Tryz.sizeOf197
  v51 := Tryz.zeroValue197
  t53 := Tryz.underlying219
  a53 := Tryz.isAgg219
  z53 := Tryz.sizeOf219
  v53 := Tryz.zeroValue219
  t171 := Tryz.underlying234
  a171 := Tryz.isAgg234
  z171 := Tryz.sizeOf234
  v171 := Tryz.zeroValue234
  t173 := Tryz.underlying237
  a173 := Tryz.isAgg237
  z173 := Tryz.sizeOf237
  v173 := Tryz.zeroValue237
  t212 := Tryz.underlying260
  a212 := Tryz.isAgg260
  z212 := Tryz.sizeOf260
  v212 := Tryz.zeroValue260
  t213 := Tryz.underlying261
  a213 := Tryz.isAgg261
  z213 := Tryz.sizeOf261
  t232 := Tryz.underlying291
  a232 := Tryz.isAgg291
  z232 := Tryz.sizeOf291
  v232 := Tryz.zeroValue291
  t233 := Tryz.underlying292
  a233 := Tryz.isAgg292
  z233 := Tryz.sizeOf292
  v233 := Tryz.zeroValue292
  g17 := by kernel_rfl
  g18 := by kernel_rfl
  g19 := by kernel_rfl }
open Go.RowKit Go.Sort Go.Lib in
/-- THE ROAD WITHOUT THE TABLE: 0 <= i < 100: two constants are read, nothing is laid: no premise on the world, and the world is as it was. (LAID: no walk: one application.) -/
theorem Tryz.internal_strconv_FormatInt_10_small (i : Nat) (hi : i < 100) (w : World) :
    Calls Tryz.prog 159 #[.int .i64 i, .int .i64 10] w fun e w' => e = .returned (.string ⟨(Lib.decDigits i).toArray⟩) ∧ w' = w := Any.internal_strconv_FormatInt_10_small Tryz.lays246 i hi w
def Tryz.laysM243_ren : Go.Shelf.Ren := ⟨fun | 243 => 114 | 246 => 159 | 283 => 186 | 284 => 187 | 285 => 188 | 286 => 189 | 129 => 206 | 317 => 205 | 318 => 207 | 319 => 208 | 320 => 209 | 337 => 218 | 338 => 219 | n => n, fun | 3 => 3 | 9 => 9 | 2 => 2 | 4 => 4 | 171 => 234 | 0 => 0 | 53 => 219 | 37 => 110 | 5 => 5 | 173 => 237 | 212 => 260 | 51 => 197 | 20 => 20 | 213 => 261 | 46 => 192 | 232 => 291 | 233 => 292 | n => n, fun | 17 => 0 | 18 => 4 | 19 => 5 | n => n⟩
theorem Tryz.laysM243 : Go.Proofs.LaysM.n243 Tryz.prog Tryz.laysM243_ren := {
  mixed := by kernel_rfl
  f129 := Tryz.func206.trans (congrArg some (by kernel_rfl))
  f243 := Tryz.func114.trans (congrArg some (by kernel_rfl))
  f246 := Tryz.func159.trans (congrArg some (by kernel_rfl))
  f283 := Tryz.func186.trans (congrArg some (by kernel_rfl))
  f284 := Tryz.func187.trans (congrArg some (by kernel_rfl))
  f285 := Tryz.func188.trans (congrArg some (by kernel_rfl))
  f286 := Tryz.func189.trans (congrArg some (by kernel_rfl))
  f317 := Tryz.func205.trans (congrArg some (by kernel_rfl))
  f318 := Tryz.func207.trans (congrArg some (by kernel_rfl))
  f319 := Tryz.func208.trans (congrArg some (by kernel_rfl))
  f320 := Tryz.func209.trans (congrArg some (by kernel_rfl))
  f337 := Tryz.func218.trans (congrArg some (by kernel_rfl))
  f338 := Tryz.func219.trans (congrArg some (by kernel_rfl))
  t0 := Tryz.underlying0
  a0 := Tryz.isAgg0
  z0 := Tryz.sizeOf0
  v0 := Tryz.zeroValue0
  t2 := Tryz.underlying2
  a2 := Tryz.isAgg2
  z2 := Tryz.sizeOf2
  v2 := Tryz.zeroValue2
  t3 := Tryz.underlying3
  a3 := Tryz.isAgg3
  z3 := Tryz.sizeOf3
  v3 := Tryz.zeroValue3
  t4 := Tryz.underlying4
  a4 := Tryz.isAgg4
  z4 := Tryz.sizeOf4
  v4 := Tryz.zeroValue4
  t5 := Tryz.underlying5
  a5 := Tryz.isAgg5
  z5 := Tryz.sizeOf5
  v5 := Tryz.zeroValue5
  t9 := Tryz.underlying9
  a9 := Tryz.isAgg9
  z9 := Tryz.sizeOf9
  v9 := Tryz.zeroValue9
  t20 := Tryz.underlying20
  a20 := Tryz.isAgg20
  z20 := Tryz.sizeOf20
  v20 := Tryz.zeroValue20
  t37 := Tryz.underlying110
  a37 := Tryz.isAgg110
  z37 := Tryz.sizeOf110
  v37 := Tryz.zeroValue110
  t46 := Tryz.underlying192
  a46 := Tryz.isAgg192
  z46 := Tryz.sizeOf192
  v46 := Tryz.zeroValue192
  t51 := Tryz.underlying197
  a51 := Tryz.isAgg197
  z51 := Tryz.sizeOf197
  v51 := Tryz.zeroValue197
  t53 := Tryz.underlying219
  a53 := Tryz.isAgg219
  z53 := Tryz.sizeOf219
  v53 := Tryz.zeroValue219
  t171 := Tryz.underlying234
  a171 := Tryz.isAgg234
  z171 := Tryz.sizeOf234
  v171 := Tryz.zeroValue234
  t173 := Tryz.underlying237
  a173 := Tryz.isAgg237
  z173 := Tryz.sizeOf237
  v173 := Tryz.zeroValue237
  t212 := Tryz.underlying260
  a212 := Tryz.isAgg260
  z212 := Tryz.sizeOf260
  v212 := Tryz.zeroValue260
  t213 := Tryz.underlying261
  a213 := Tryz.isAgg261
  z213 := Tryz.sizeOf261
  t232 := Tryz.underlying291
  a232 := Tryz.isAgg291
  z232 := Tryz.sizeOf291
  v232 := Tryz.zeroValue291
  t233 := Tryz.underlying292
  a233 := Tryz.isAgg292
  z233 := Tryz.sizeOf292
  v233 := Tryz.zeroValue292
  g17 := by kernel_rfl
  g18 := by kernel_rfl
  g19 := by kernel_rfl
  i0 := by kernel_rfl
  i2 := by kernel_rfl
  i3 := by kernel_rfl
  i4 := by kernel_rfl
  i5 := by kernel_rfl
  i9 := by kernel_rfl
  i20 := by kernel_rfl
  i37 := by kernel_rfl
  i46 := by kernel_rfl
  i51 := by kernel_rfl
  i53 := by kernel_rfl
  i171 := by kernel_rfl
  i173 := by kernel_rfl
  i212 := by kernel_rfl
  i232 := by kernel_rfl
  i233 := by kernel_rfl
  m17 := by kernel_rfl
  m18 := by kernel_rfl
  m19 := by kernel_rfl }
open Go.RowKit Go.Sort Go.Lib in
/-- internal/strconv.Itoa: "Itoa is equivalent to FormatInt(int64(i), 10).": i's decimal numeral, for every int. (LAID: no walk: one application.) -/
theorem Tryz.internal_strconv_Itoa (n : Int) (h0 : -9223372036854775808 ≤ n) (h1 : n ≤ 9223372036854775807) (w : World) (htab : Lib.TabIs Tryz.prog w "internal/strconv.uint64pow10" .u64 Lib.pow10Tab) :
    Calls Tryz.prog 114 #[.int .i64 n] w fun e w' => e = .returned (.string ⟨(Lib.itoa n).toArray⟩) ∧ ∃ k os, w' = grow (w.drewN k) os := Any.internal_strconv_Itoa Tryz.laysM243 n h0 h1 w htab
def Tryz.lays243_ren : Go.Shelf.Ren := ⟨fun | 243 => 114 | 246 => 159 | 283 => 186 | 284 => 187 | 285 => 188 | 286 => 189 | 129 => 206 | 317 => 205 | 318 => 207 | 319 => 208 | 320 => 209 | 337 => 218 | 338 => 219 | n => n, fun | 3 => 3 | 9 => 9 | 2 => 2 | 4 => 4 | 171 => 234 | 0 => 0 | 53 => 219 | 37 => 110 | 5 => 5 | 173 => 237 | 212 => 260 | 51 => 197 | 20 => 20 | 213 => 261 | 46 => 192 | 232 => 291 | 233 => 292 | n => n, fun | 17 => 0 | 18 => 4 | 19 => 5 | n => n⟩
theorem Tryz.lays243 : Go.Proofs.Lays.n243 Tryz.prog Tryz.lays243_ren := {
  mixed := by kernel_rfl
  f129 := Tryz.func206.trans (congrArg some (by kernel_rfl))
  f243 := Tryz.func114.trans (congrArg some (by kernel_rfl))
  f246 := Tryz.func159.trans (congrArg some (by kernel_rfl))
  f283 := Tryz.func186.trans (congrArg some (by kernel_rfl))
  f284 := Tryz.func187.trans (congrArg some (by kernel_rfl))
  f285 := Tryz.func188.trans (congrArg some (by kernel_rfl))
  f286 := Tryz.func189.trans (congrArg some (by kernel_rfl))
  f317 := Tryz.func205.trans (congrArg some (by kernel_rfl))
  f318 := Tryz.func207.trans (congrArg some (by kernel_rfl))
  f319 := Tryz.func208.trans (congrArg some (by kernel_rfl))
  f320 := Tryz.func209.trans (congrArg some (by kernel_rfl))
  f337 := Tryz.func218.trans (congrArg some (by kernel_rfl))
  f338 := Tryz.func219.trans (congrArg some (by kernel_rfl))
  t0 := Tryz.underlying0
  a0 := Tryz.isAgg0
  z0 := Tryz.sizeOf0
  v0 := Tryz.zeroValue0
  t2 := Tryz.underlying2
  a2 := Tryz.isAgg2
  z2 := Tryz.sizeOf2
  v2 := Tryz.zeroValue2
  t3 := Tryz.underlying3
  a3 := Tryz.isAgg3
  z3 := Tryz.sizeOf3
  v3 := Tryz.zeroValue3
  t4 := Tryz.underlying4
  a4 := Tryz.isAgg4
  z4 := Tryz.sizeOf4
  v4 := Tryz.zeroValue4
  t5 := Tryz.underlying5
  a5 := Tryz.isAgg5
  z5 := Tryz.sizeOf5
  v5 := Tryz.zeroValue5
  t9 := Tryz.underlying9
  a9 := Tryz.isAgg9
  z9 := Tryz.sizeOf9
  v9 := Tryz.zeroValue9
  t20 := Tryz.underlying20
  a20 := Tryz.isAgg20
  z20 := Tryz.sizeOf20
  v20 := Tryz.zeroValue20
  t37 := Tryz.underlying110
  a37 := Tryz.isAgg110
  z37 := Tryz.sizeOf110
  v37 := Tryz.zeroValue110
  t46 := Tryz.underlying192
  a46 := Tryz.isAgg192
  z46 := Tryz.sizeOf192
  v46 := Tryz.zeroValue192
  t51 := Tryz.underlying197
  a51 := Tryz.isAgg197
  z51 := Tryz.sizeOf197
  v51 := Tryz.zeroValue197
  t53 := Tryz.underlying219
  a53 := Tryz.isAgg219
  z53 := Tryz.sizeOf219
  v53 := Tryz.zeroValue219
  t171 := Tryz.underlying234
  a171 := Tryz.isAgg234
  z171 := Tryz.sizeOf234
  v171 := Tryz.zeroValue234
  t173 := Tryz.underlying237
  a173 := Tryz.isAgg237
  z173 := Tryz.sizeOf237
  v173 := Tryz.zeroValue237
  t212 := Tryz.underlying260
  a212 := Tryz.isAgg260
  z212 := Tryz.sizeOf260
  v212 := Tryz.zeroValue260
  t213 := Tryz.underlying261
  a213 := Tryz.isAgg261
  z213 := Tryz.sizeOf261
  t232 := Tryz.underlying291
  a232 := Tryz.isAgg291
  z232 := Tryz.sizeOf291
  v232 := Tryz.zeroValue291
  t233 := Tryz.underlying292
  a233 := Tryz.isAgg292
  z233 := Tryz.sizeOf292
  v233 := Tryz.zeroValue292
  g17 := by kernel_rfl
  g18 := by kernel_rfl
  g19 := by kernel_rfl }
open Go.RowKit Go.Sort Go.Lib in
/-- THE ROAD WITHOUT THE TABLE: 0 <= i < 100. (LAID: no walk: one application.) -/
theorem Tryz.internal_strconv_Itoa_small (i : Nat) (hi : i < 100) (w : World) :
    Calls Tryz.prog 114 #[.int .i64 i] w fun e w' => e = .returned (.string ⟨(Lib.decDigits i).toArray⟩) ∧ w' = w := Any.internal_strconv_Itoa_small Tryz.lays243 i hi w
def Tryz.laysM171_ren : Go.Shelf.Ren := ⟨fun | 171 => 65 | 243 => 114 | 246 => 159 | 283 => 186 | 284 => 187 | 285 => 188 | 286 => 189 | 129 => 206 | 317 => 205 | 318 => 207 | 319 => 208 | 320 => 209 | 337 => 218 | 338 => 219 | n => n, fun | 3 => 3 | 9 => 9 | 2 => 2 | 4 => 4 | 171 => 234 | 0 => 0 | 53 => 219 | 37 => 110 | 5 => 5 | 173 => 237 | 212 => 260 | 51 => 197 | 20 => 20 | 213 => 261 | 46 => 192 | 232 => 291 | 233 => 292 | n => n, fun | 17 => 0 | 18 => 4 | 19 => 5 | n => n⟩
theorem Tryz.laysM171 : Go.Proofs.LaysM.n171 Tryz.prog Tryz.laysM171_ren := {
  mixed := by kernel_rfl
  f129 := Tryz.func206.trans (congrArg some (by kernel_rfl))
  f171 := Tryz.func65.trans (congrArg some (by kernel_rfl))
  f243 := Tryz.func114.trans (congrArg some (by kernel_rfl))
  f246 := Tryz.func159.trans (congrArg some (by kernel_rfl))
  f283 := Tryz.func186.trans (congrArg some (by kernel_rfl))
  f284 := Tryz.func187.trans (congrArg some (by kernel_rfl))
  f285 := Tryz.func188.trans (congrArg some (by kernel_rfl))
  f286 := Tryz.func189.trans (congrArg some (by kernel_rfl))
  f317 := Tryz.func205.trans (congrArg some (by kernel_rfl))
  f318 := Tryz.func207.trans (congrArg some (by kernel_rfl))
  f319 := Tryz.func208.trans (congrArg some (by kernel_rfl))
  f320 := Tryz.func209.trans (congrArg some (by kernel_rfl))
  f337 := Tryz.func218.trans (congrArg some (by kernel_rfl))
  f338 := Tryz.func219.trans (congrArg some (by kernel_rfl))
  t0 := Tryz.underlying0
  a0 := Tryz.isAgg0
  z0 := Tryz.sizeOf0
  v0 := Tryz.zeroValue0
  t2 := Tryz.underlying2
  a2 := Tryz.isAgg2
  z2 := Tryz.sizeOf2
  v2 := Tryz.zeroValue2
  t3 := Tryz.underlying3
  a3 := Tryz.isAgg3
  z3 := Tryz.sizeOf3
  v3 := Tryz.zeroValue3
  t4 := Tryz.underlying4
  a4 := Tryz.isAgg4
  z4 := Tryz.sizeOf4
  v4 := Tryz.zeroValue4
  t5 := Tryz.underlying5
  a5 := Tryz.isAgg5
  z5 := Tryz.sizeOf5
  v5 := Tryz.zeroValue5
  t9 := Tryz.underlying9
  a9 := Tryz.isAgg9
  z9 := Tryz.sizeOf9
  v9 := Tryz.zeroValue9
  t20 := Tryz.underlying20
  a20 := Tryz.isAgg20
  z20 := Tryz.sizeOf20
  v20 := Tryz.zeroValue20
  t37 := Tryz.underlying110
  a37 := Tryz.isAgg110
  z37 := Tryz.sizeOf110
  v37 := Tryz.zeroValue110
  t46 := Tryz.underlying192
  a46 := Tryz.isAgg192
  z46 := Tryz.sizeOf192
  v46 := Tryz.zeroValue192
  t51 := Tryz.underlying197
  a51 := Tryz.isAgg197
  z51 := Tryz.sizeOf197
  v51 := Tryz.zeroValue197
  t53 := Tryz.underlying219
  a53 := Tryz.isAgg219
  z53 := Tryz.sizeOf219
  v53 := Tryz.zeroValue219
  t171 := Tryz.underlying234
  a171 := Tryz.isAgg234
  z171 := Tryz.sizeOf234
  v171 := Tryz.zeroValue234
  t173 := Tryz.underlying237
  a173 := Tryz.isAgg237
  z173 := Tryz.sizeOf237
  v173 := Tryz.zeroValue237
  t212 := Tryz.underlying260
  a212 := Tryz.isAgg260
  z212 := Tryz.sizeOf260
  v212 := Tryz.zeroValue260
  t213 := Tryz.underlying261
  a213 := Tryz.isAgg261
  z213 := Tryz.sizeOf261
  t232 := Tryz.underlying291
  a232 := Tryz.isAgg291
  z232 := Tryz.sizeOf291
  v232 := Tryz.zeroValue291
  t233 := Tryz.underlying292
  a233 := Tryz.isAgg292
  z233 := Tryz.sizeOf292
  v233 := Tryz.zeroValue292
  g17 := by kernel_rfl
  g18 := by kernel_rfl
  g19 := by kernel_rfl
  i0 := by kernel_rfl
  i2 := by kernel_rfl
  i3 := by kernel_rfl
  i4 := by kernel_rfl
  i5 := by kernel_rfl
  i9 := by kernel_rfl
  i20 := by kernel_rfl
  i37 := by kernel_rfl
  i46 := by kernel_rfl
  i51 := by kernel_rfl
  i53 := by kernel_rfl
  i171 := by kernel_rfl
  i173 := by kernel_rfl
  i212 := by kernel_rfl
  i232 := by kernel_rfl
  i233 := by kernel_rfl
  m17 := by kernel_rfl
  m18 := by kernel_rfl
  m19 := by kernel_rfl }
open Go.RowKit Go.Sort Go.Lib in
/-- strconv.Itoa: "Itoa is equivalent to FormatInt(int64(i), 10).": i's DECIMAL NUMERAL ('Lib.itoa': a '-' where i is negative, then the digits), FOR EVERY int. The world behind the call: the world before it, new blocks behind the heap (the library's 'var a [24]byte'), draws. (LAID: no walk: one application.) -/
theorem Tryz.strconv_Itoa (n : Int) (h0 : -9223372036854775808 ≤ n) (h1 : n ≤ 9223372036854775807) (w : World) (htab : Lib.TabIs Tryz.prog w "internal/strconv.uint64pow10" .u64 Lib.pow10Tab) :
    Calls Tryz.prog 65 #[.int .i64 n] w fun e w' => e = .returned (.string ⟨(Lib.itoa n).toArray⟩) ∧ ∃ k os, w' = grow (w.drewN k) os := Any.strconv_Itoa Tryz.laysM171 n h0 h1 w htab
def Tryz.lays171_ren : Go.Shelf.Ren := ⟨fun | 171 => 65 | 243 => 114 | 246 => 159 | 283 => 186 | 284 => 187 | 285 => 188 | 286 => 189 | 129 => 206 | 317 => 205 | 318 => 207 | 319 => 208 | 320 => 209 | 337 => 218 | 338 => 219 | n => n, fun | 3 => 3 | 9 => 9 | 2 => 2 | 4 => 4 | 171 => 234 | 0 => 0 | 53 => 219 | 37 => 110 | 5 => 5 | 173 => 237 | 212 => 260 | 51 => 197 | 20 => 20 | 213 => 261 | 46 => 192 | 232 => 291 | 233 => 292 | n => n, fun | 17 => 0 | 18 => 4 | 19 => 5 | n => n⟩
theorem Tryz.lays171 : Go.Proofs.Lays.n171 Tryz.prog Tryz.lays171_ren := {
  mixed := by kernel_rfl
  f129 := Tryz.func206.trans (congrArg some (by kernel_rfl))
  f171 := Tryz.func65.trans (congrArg some (by kernel_rfl))
  f243 := Tryz.func114.trans (congrArg some (by kernel_rfl))
  f246 := Tryz.func159.trans (congrArg some (by kernel_rfl))
  f283 := Tryz.func186.trans (congrArg some (by kernel_rfl))
  f284 := Tryz.func187.trans (congrArg some (by kernel_rfl))
  f285 := Tryz.func188.trans (congrArg some (by kernel_rfl))
  f286 := Tryz.func189.trans (congrArg some (by kernel_rfl))
  f317 := Tryz.func205.trans (congrArg some (by kernel_rfl))
  f318 := Tryz.func207.trans (congrArg some (by kernel_rfl))
  f319 := Tryz.func208.trans (congrArg some (by kernel_rfl))
  f320 := Tryz.func209.trans (congrArg some (by kernel_rfl))
  f337 := Tryz.func218.trans (congrArg some (by kernel_rfl))
  f338 := Tryz.func219.trans (congrArg some (by kernel_rfl))
  t0 := Tryz.underlying0
  a0 := Tryz.isAgg0
  z0 := Tryz.sizeOf0
  v0 := Tryz.zeroValue0
  t2 := Tryz.underlying2
  a2 := Tryz.isAgg2
  z2 := Tryz.sizeOf2
  v2 := Tryz.zeroValue2
  t3 := Tryz.underlying3
  a3 := Tryz.isAgg3
  z3 := Tryz.sizeOf3
  v3 := Tryz.zeroValue3
  t4 := Tryz.underlying4
  a4 := Tryz.isAgg4
  z4 := Tryz.sizeOf4
  v4 := Tryz.zeroValue4
  t5 := Tryz.underlying5
  a5 := Tryz.isAgg5
  z5 := Tryz.sizeOf5
  v5 := Tryz.zeroValue5
  t9 := Tryz.underlying9
  a9 := Tryz.isAgg9
  z9 := Tryz.sizeOf9
  v9 := Tryz.zeroValue9
  t20 := Tryz.underlying20
  a20 := Tryz.isAgg20
  z20 := Tryz.sizeOf20
  v20 := Tryz.zeroValue20
  t37 := Tryz.underlying110
  a37 := Tryz.isAgg110
  z37 := Tryz.sizeOf110
  v37 := Tryz.zeroValue110
  t46 := Tryz.underlying192
  a46 := Tryz.isAgg192
  z46 := Tryz.sizeOf192
  v46 := Tryz.zeroValue192
  t51 := Tryz.underlying197
  a51 := Tryz.isAgg197
  z51 := Tryz.sizeOf197
  v51 := Tryz.zeroValue197
  t53 := Tryz.underlying219
  a53 := Tryz.isAgg219
  z53 := Tryz.sizeOf219
  v53 := Tryz.zeroValue219
  t171 := Tryz.underlying234
  a171 := Tryz.isAgg234
  z171 := Tryz.sizeOf234
  v171 := Tryz.zeroValue234
  t173 := Tryz.underlying237
  a173 := Tryz.isAgg237
  z173 := Tryz.sizeOf237
  v173 := Tryz.zeroValue237
  t212 := Tryz.underlying260
  a212 := Tryz.isAgg260
  z212 := Tryz.sizeOf260
  v212 := Tryz.zeroValue260
  t213 := Tryz.underlying261
  a213 := Tryz.isAgg261
  z213 := Tryz.sizeOf261
  t232 := Tryz.underlying291
  a232 := Tryz.isAgg291
  z232 := Tryz.sizeOf291
  v232 := Tryz.zeroValue291
  t233 := Tryz.underlying292
  a233 := Tryz.isAgg292
  z233 := Tryz.sizeOf292
  v233 := Tryz.zeroValue292
  g17 := by kernel_rfl
  g18 := by kernel_rfl
  g19 := by kernel_rfl }
open Go.RowKit Go.Sort Go.Lib in
/-- THE ROAD WITHOUT THE TABLE: 0 <= i < 100: NO PREMISE ON THE WORLD, AND THE WORLD IS AS IT WAS: a row that keeps its argument in that range need list no table ('laid = []'). (LAID: no walk: one application.) -/
theorem Tryz.strconv_Itoa_small (i : Nat) (hi : i < 100) (w : World) :
    Calls Tryz.prog 65 #[.int .i64 i] w fun e w' => e = .returned (.string ⟨(Lib.decDigits i).toArray⟩) ∧ w' = w := Any.strconv_Itoa_small Tryz.lays171 i hi w
def Tryz.lays217_ren : Go.Shelf.Ren := ⟨fun | 217 => 197 | 266 => 212 | n => n, fun | 9 => 9 | 5 => 5 | 3 => 3 | n => n, fun | n => n⟩
theorem Tryz.lays217 : Go.Proofs.Lays.n217 Tryz.prog Tryz.lays217_ren := {
  mixed := by kernel_rfl
  f217 := Tryz.func197.trans (congrArg some (by kernel_rfl))
  f266 := Tryz.func212.trans (congrArg some (by kernel_rfl))
  t3 := Tryz.underlying3
  a3 := Tryz.isAgg3
  z3 := Tryz.sizeOf3
  v3 := Tryz.zeroValue3
  t5 := Tryz.underlying5
  a5 := Tryz.isAgg5
  z5 := Tryz.sizeOf5
  v5 := Tryz.zeroValue5
  t9 := Tryz.underlying9
  a9 := Tryz.isAgg9
  z9 := Tryz.sizeOf9
  v9 := Tryz.zeroValue9 }
open Go.RowKit Go.Lib in
/-- internal/stringslite.IndexByte (what strings.IndexByte calls): IT RETURNS 'Lib.indexByte s c'; the world is as it was. (LAID: no walk: one application.) -/
theorem Tryz.stringslite_IndexByte (s : ByteArray) (c : Int) (w : World) :
    Calls Tryz.prog 197 #[.string s, .int .u8 c] w fun e w' => e = .returned (.int .i64 (Lib.indexByte s.data.toList c.toNat.toUInt8)) ∧ w' = w := Any.stringslite_IndexByte Tryz.lays217 s c w
def Tryz.lays224_ren : Go.Shelf.Ren := ⟨fun | 224 => 292 | n => n, fun | 3 => 3 | n => n, fun | n => n⟩
theorem Tryz.lays224 : Go.Proofs.Lays.n224 Tryz.prog Tryz.lays224_ren := {
  mixed := by kernel_rfl
  f224 := Tryz.func292.trans (congrArg some (by kernel_rfl))
  t3 := Tryz.underlying3
  a3 := Tryz.isAgg3
  z3 := Tryz.sizeOf3
  v3 := Tryz.zeroValue3 }
open Go.RowKit Go.Lib in
/-- internal/bytealg.Cutover: "Cutover reports the number of failures of IndexByte we should tolerate before switching over to Index. n is the number of bytes processed so far.": on amd64: (n + 16) / 8. (LAID: no walk: one application.) -/
theorem Tryz.bytealg_Cutover (n : Int) (h0 : 0 ≤ n) (h1 : n < 4611686018427387904) (w : World) :
    Calls Tryz.prog 292 #[.int .i64 n] w fun e w' => e = .returned (.int .i64 ((n + 16) / 8)) ∧ w' = w := Any.bytealg_Cutover Tryz.lays224 n h0 h1 w
def Tryz.lays314_ren : Go.Shelf.Ren := ⟨fun | 314 => 294 | n => n, fun | 9 => 9 | 51 => 197 | 3 => 3 | 4 => 4 | 5 => 5 | 46 => 192 | n => n, fun | n => n⟩
theorem Tryz.lays314 : Go.Proofs.Lays.n314 Tryz.prog Tryz.lays314_ren := {
  mixed := by kernel_rfl
  f314 := Tryz.func294.trans (congrArg some (by kernel_rfl))
  t3 := Tryz.underlying3
  a3 := Tryz.isAgg3
  z3 := Tryz.sizeOf3
  v3 := Tryz.zeroValue3
  t4 := Tryz.underlying4
  a4 := Tryz.isAgg4
  z4 := Tryz.sizeOf4
  v4 := Tryz.zeroValue4
  t5 := Tryz.underlying5
  a5 := Tryz.isAgg5
  z5 := Tryz.sizeOf5
  v5 := Tryz.zeroValue5
  t9 := Tryz.underlying9
  a9 := Tryz.isAgg9
  z9 := Tryz.sizeOf9
  v9 := Tryz.zeroValue9
  t46 := Tryz.underlying192
  a46 := Tryz.isAgg192
  z46 := Tryz.sizeOf192
  v46 := Tryz.zeroValue192
  t51 := Tryz.underlying197
  a51 := Tryz.isAgg197
  z51 := Tryz.sizeOf197
  v51 := Tryz.zeroValue197 }
open Go.RowKit Go.Lib in
/-- hashStr: "returns the hash and the appropriate multiplicative factor for use in Rabin-Karp algorithm": THE HASH OF ALL OF sep, AND 16777619 ^ len(sep), both in uint32. (LAID: no walk: one application.) -/
theorem Tryz.bytealg_hashStr (sep : ByteArray) (hs : sep.size < 4294967281) (w : World) :
    Calls Tryz.prog 294 #[.string sep] w fun e w' => e = .returned (.tuple #[.int .u32 (RK.H sep.data.toList % 4294967296), .int .u32 (16777619 ^ sep.size % 4294967296)]) ∧ w' = w := Any.bytealg_hashStr Tryz.lays314 sep hs w
def Tryz.lays267_ren : Go.Shelf.Ren := ⟨fun | 267 => 293 | 314 => 294 | n => n, fun | 9 => 9 | 3 => 3 | 146 => 217 | 51 => 197 | 4 => 4 | 5 => 5 | 46 => 192 | n => n, fun | n => n⟩
theorem Tryz.lays267 : Go.Proofs.Lays.n267 Tryz.prog Tryz.lays267_ren := {
  mixed := by kernel_rfl
  f267 := Tryz.func293.trans (congrArg some (by kernel_rfl))
  f314 := Tryz.func294.trans (congrArg some (by kernel_rfl))
  t3 := Tryz.underlying3
  a3 := Tryz.isAgg3
  z3 := Tryz.sizeOf3
  v3 := Tryz.zeroValue3
  t4 := Tryz.underlying4
  a4 := Tryz.isAgg4
  z4 := Tryz.sizeOf4
  v4 := Tryz.zeroValue4
  t5 := Tryz.underlying5
  a5 := Tryz.isAgg5
  z5 := Tryz.sizeOf5
  v5 := Tryz.zeroValue5
  t9 := Tryz.underlying9
  a9 := Tryz.isAgg9
  z9 := Tryz.sizeOf9
  v9 := Tryz.zeroValue9
  t46 := Tryz.underlying192
  a46 := Tryz.isAgg192
  z46 := Tryz.sizeOf192
  v46 := Tryz.zeroValue192
  t51 := Tryz.underlying197
  a51 := Tryz.isAgg197
  z51 := Tryz.sizeOf197
  v51 := Tryz.zeroValue197
  t146 := Tryz.underlying217
  a146 := Tryz.isAgg217
  z146 := Tryz.sizeOf217
  v146 := Tryz.zeroValue217 }
open Go.RowKit Go.Lib in
theorem Tryz.bytealg_IndexRabinKarp (s sep : ByteArray) (h1 : 1 ≤ sep.size) (h2 : sep.size ≤ s.size) (hs : s.size < 4294967281) (w : World) :
    Calls Tryz.prog 293 #[.string s, .string sep] w fun e w' => e = .returned (.int .i64 (Lib.index s.data.toList sep.data.toList)) ∧ w' = w := Any.bytealg_IndexRabinKarp Tryz.lays267 s sep h1 h2 hs w
def Tryz.lays219_ren : Go.Shelf.Ren := ⟨fun | 219 => 290 | 217 => 197 | 225 => 291 | 224 => 292 | 267 => 293 | 266 => 212 | 314 => 294 | n => n, fun | 9 => 9 | 3 => 3 | 4 => 4 | 5 => 5 | 46 => 192 | 146 => 217 | 51 => 197 | n => n, fun | 1 => 1 | n => n⟩
theorem Tryz.lays219 : Go.Proofs.Lays.n219 Tryz.prog Tryz.lays219_ren := {
  mixed := by kernel_rfl
  f217 := Tryz.func197.trans (congrArg some (by kernel_rfl))
  f219 := Tryz.func290.trans (congrArg some (by kernel_rfl))
  f224 := Tryz.func292.trans (congrArg some (by kernel_rfl))
  f225 := Tryz.func291.trans (congrArg some (by kernel_rfl))
  f266 := Tryz.func212.trans (congrArg some (by kernel_rfl))
  f267 := Tryz.func293.trans (congrArg some (by kernel_rfl))
  f314 := Tryz.func294.trans (congrArg some (by kernel_rfl))
  t3 := Tryz.underlying3
  a3 := Tryz.isAgg3
  z3 := Tryz.sizeOf3
  v3 := Tryz.zeroValue3
  t4 := Tryz.underlying4
  a4 := Tryz.isAgg4
  z4 := Tryz.sizeOf4
  v4 := Tryz.zeroValue4
  t5 := Tryz.underlying5
  a5 := Tryz.isAgg5
  z5 := Tryz.sizeOf5
  v5 := Tryz.zeroValue5
  t9 := Tryz.underlying9
  a9 := Tryz.isAgg9
  z9 := Tryz.sizeOf9
  v9 := Tryz.zeroValue9
  t46 := Tryz.underlying192
  a46 := Tryz.isAgg192
  z46 := Tryz.sizeOf192
  v46 := Tryz.zeroValue192
  t51 := Tryz.underlying197
  a51 := Tryz.isAgg197
  z51 := Tryz.sizeOf197
  v51 := Tryz.zeroValue197
  t146 := Tryz.underlying217
  a146 := Tryz.isAgg217
  z146 := Tryz.sizeOf217
  v146 := Tryz.zeroValue217
  g1 := by kernel_rfl }
open Go.RowKit Go.Lib in
/-- internal/stringslite.Index (what strings.Index calls) AT A substr OF ONE BYTE c: IT RETURNS 'Lib.indexByte s c'; the world is as it was. (LAID: no walk: one application.) -/
theorem Tryz.stringslite_Index_one (s : ByteArray) (c : UInt8) (w : World) :
    Calls Tryz.prog 290 #[.string s, .string ⟨#[c]⟩] w fun e w' => e = .returned (.int .i64 (Lib.indexByte s.data.toList c)) ∧ w' = w := Any.stringslite_Index_one Tryz.lays219 s c w
open Go.RowKit Go.Lib in
/-- internal/stringslite.Index (what strings.Index calls) AT A substr OF WHATEVER LENGTH: IT RETURNS 'Lib.index s substr'; the world is as it was. 'm': what internal/bytealg.MaxLen holds: whatever. (LAID: no walk: one application.) -/
theorem Tryz.stringslite_Index (s sub : ByteArray) (m : Int) (w : World) (hs : s.size < 4294967281) (hm : w.cell? ⟨1, 0, none⟩ = some (.int .i64 m)) :
    Calls Tryz.prog 290 #[.string s, .string sub] w fun e w' => e = .returned (.int .i64 (Lib.index s.data.toList sub.data.toList)) ∧ w' = w := Any.stringslite_Index Tryz.lays219 s sub m w hs hm
def Tryz.lays143_ren : Go.Shelf.Ren := ⟨fun | 143 => 289 | 219 => 290 | 217 => 197 | 225 => 291 | 224 => 292 | 267 => 293 | 266 => 212 | 314 => 294 | n => n, fun | 9 => 9 | 3 => 3 | 4 => 4 | 5 => 5 | 46 => 192 | 146 => 217 | 51 => 197 | n => n, fun | 1 => 1 | n => n⟩
theorem Tryz.lays143 : Go.Proofs.Lays.n143 Tryz.prog Tryz.lays143_ren := {
  mixed := by kernel_rfl
  f143 := Tryz.func289.trans (congrArg some (by kernel_rfl))
  f217 := Tryz.func197.trans (congrArg some (by kernel_rfl))
  f219 := Tryz.func290.trans (congrArg some (by kernel_rfl))
  f224 := Tryz.func292.trans (congrArg some (by kernel_rfl))
  f225 := Tryz.func291.trans (congrArg some (by kernel_rfl))
  f266 := Tryz.func212.trans (congrArg some (by kernel_rfl))
  f267 := Tryz.func293.trans (congrArg some (by kernel_rfl))
  f314 := Tryz.func294.trans (congrArg some (by kernel_rfl))
  t3 := Tryz.underlying3
  a3 := Tryz.isAgg3
  z3 := Tryz.sizeOf3
  v3 := Tryz.zeroValue3
  t4 := Tryz.underlying4
  a4 := Tryz.isAgg4
  z4 := Tryz.sizeOf4
  v4 := Tryz.zeroValue4
  t5 := Tryz.underlying5
  a5 := Tryz.isAgg5
  z5 := Tryz.sizeOf5
  v5 := Tryz.zeroValue5
  t9 := Tryz.underlying9
  a9 := Tryz.isAgg9
  z9 := Tryz.sizeOf9
  v9 := Tryz.zeroValue9
  t46 := Tryz.underlying192
  a46 := Tryz.isAgg192
  z46 := Tryz.sizeOf192
  v46 := Tryz.zeroValue192
  t51 := Tryz.underlying197
  a51 := Tryz.isAgg197
  z51 := Tryz.sizeOf197
  v51 := Tryz.zeroValue197
  t146 := Tryz.underlying217
  a146 := Tryz.isAgg217
  z146 := Tryz.sizeOf217
  v146 := Tryz.zeroValue217
  g1 := by kernel_rfl }
open Go.RowKit Go.Lib in
/-- strings.Index: "Index returns the index of the first instance of substr in s, or -1 if substr is not present in s.": AT A substr OF ONE BYTE c: IT RETURNS 'Lib.indexByte s c'; the world is as it was. (LAID: no walk: one application.) -/
theorem Tryz.strings_Index_one (s : ByteArray) (c : UInt8) (w : World) :
    Calls Tryz.prog 289 #[.string s, .string ⟨#[c]⟩] w fun e w' => e = .returned (.int .i64 (Lib.indexByte s.data.toList c)) ∧ w' = w := Any.strings_Index_one Tryz.lays143 s c w
open Go.RowKit Go.Lib in
/-- strings.Index: "Index returns the index of the first instance of substr in s, or -1 if substr is not present in s.": IT RETURNS 'Lib.index s substr'; the world is as it was. (LAID: no walk: one application.) -/
theorem Tryz.strings_Index (s sub : ByteArray) (m : Int) (w : World) (hs : s.size < 4294967281) (hm : w.cell? ⟨1, 0, none⟩ = some (.int .i64 m)) :
    Calls Tryz.prog 289 #[.string s, .string sub] w fun e w' => e = .returned (.int .i64 (Lib.index s.data.toList sub.data.toList)) ∧ w' = w := Any.strings_Index Tryz.lays143 s sub m w hs hm
def Tryz.lays138_ren : Go.Shelf.Ren := ⟨fun | 138 => 286 | 195 => 287 | 218 => 288 | 143 => 289 | 219 => 290 | 217 => 197 | 225 => 291 | 224 => 292 | 267 => 293 | 266 => 212 | 314 => 294 | n => n, fun | 9 => 9 | 3 => 3 | 4 => 4 | 5 => 5 | 0 => 0 | 46 => 192 | 146 => 217 | 51 => 197 | n => n, fun | 1 => 1 | n => n⟩
theorem Tryz.lays138 : Go.Proofs.Lays.n138 Tryz.prog Tryz.lays138_ren := {
  mixed := by kernel_rfl
  f138 := Tryz.func286.trans (congrArg some (by kernel_rfl))
  f143 := Tryz.func289.trans (congrArg some (by kernel_rfl))
  f195 := Tryz.func287.trans (congrArg some (by kernel_rfl))
  f217 := Tryz.func197.trans (congrArg some (by kernel_rfl))
  f218 := Tryz.func288.trans (congrArg some (by kernel_rfl))
  f219 := Tryz.func290.trans (congrArg some (by kernel_rfl))
  f224 := Tryz.func292.trans (congrArg some (by kernel_rfl))
  f225 := Tryz.func291.trans (congrArg some (by kernel_rfl))
  f266 := Tryz.func212.trans (congrArg some (by kernel_rfl))
  f267 := Tryz.func293.trans (congrArg some (by kernel_rfl))
  f314 := Tryz.func294.trans (congrArg some (by kernel_rfl))
  t0 := Tryz.underlying0
  a0 := Tryz.isAgg0
  z0 := Tryz.sizeOf0
  v0 := Tryz.zeroValue0
  t3 := Tryz.underlying3
  a3 := Tryz.isAgg3
  z3 := Tryz.sizeOf3
  v3 := Tryz.zeroValue3
  t4 := Tryz.underlying4
  a4 := Tryz.isAgg4
  z4 := Tryz.sizeOf4
  v4 := Tryz.zeroValue4
  t5 := Tryz.underlying5
  a5 := Tryz.isAgg5
  z5 := Tryz.sizeOf5
  v5 := Tryz.zeroValue5
  t9 := Tryz.underlying9
  a9 := Tryz.isAgg9
  z9 := Tryz.sizeOf9
  v9 := Tryz.zeroValue9
  t46 := Tryz.underlying192
  a46 := Tryz.isAgg192
  z46 := Tryz.sizeOf192
  v46 := Tryz.zeroValue192
  t51 := Tryz.underlying197
  a51 := Tryz.isAgg197
  z51 := Tryz.sizeOf197
  v51 := Tryz.zeroValue197
  t146 := Tryz.underlying217
  a146 := Tryz.isAgg217
  z146 := Tryz.sizeOf217
  v146 := Tryz.zeroValue217
  g1 := by kernel_rfl }
open Go.RowKit Go.Lib in
/-- strings.Count AT A substr OF ONE BYTE ('hp'): "Count counts the number of non-overlapping instances of substr in s.": IT RETURNS 'Lib.countByte s (that byte)'; the world is as it was. ✋ NO CONTRACT HERE YET at an empty substr (utf8.RuneCountInString) or at a longer one (a loop over strings.Index). (LAID: no walk: one application.) -/
theorem Tryz.strings_Count_one (s : ByteArray) (c : UInt8) (w : World) :
    Calls Tryz.prog 286 #[.string s, .string ⟨#[c]⟩] w fun e w' => e = .returned (.int .i64 (Lib.countByte s.data.toList c)) ∧ w' = w := Any.strings_Count_one Tryz.lays138 s c w
open Go.RowKit Go.Lib in
/-- strings.Count AT A substr OF TWO BYTES OR MORE: "Count counts the number of non-overlapping instances of substr in s.": IT RETURNS 'Lib.count s substr'; the world is as it was. (LAID: no walk: one application.) -/
theorem Tryz.strings_Count (s sub : ByteArray) (m : Int) (w : World) (hs : s.size < 4294967281) (hm : w.cell? ⟨1, 0, none⟩ = some (.int .i64 m)) (h2 : 2 ≤ sub.size) :
    Calls Tryz.prog 286 #[.string s, .string sub] w fun e w' => e = .returned (.int .i64 (Lib.countB s sub)) ∧ w' = w := Any.strings_Count Tryz.lays138 s sub m w hs hm h2
def Tryz.laysM219_ren : Go.Shelf.Ren := ⟨fun | 219 => 290 | 217 => 197 | 225 => 291 | 224 => 292 | 267 => 293 | 266 => 212 | 314 => 294 | n => n, fun | 9 => 9 | 3 => 3 | 4 => 4 | 5 => 5 | 46 => 192 | 146 => 217 | 51 => 197 | n => n, fun | 1 => 1 | n => n⟩
theorem Tryz.laysM219 : Go.Proofs.LaysM.n219 Tryz.prog Tryz.laysM219_ren := {
  mixed := by kernel_rfl
  f217 := Tryz.func197.trans (congrArg some (by kernel_rfl))
  f219 := Tryz.func290.trans (congrArg some (by kernel_rfl))
  f224 := Tryz.func292.trans (congrArg some (by kernel_rfl))
  f225 := Tryz.func291.trans (congrArg some (by kernel_rfl))
  f266 := Tryz.func212.trans (congrArg some (by kernel_rfl))
  f267 := Tryz.func293.trans (congrArg some (by kernel_rfl))
  f314 := Tryz.func294.trans (congrArg some (by kernel_rfl))
  t3 := Tryz.underlying3
  a3 := Tryz.isAgg3
  z3 := Tryz.sizeOf3
  v3 := Tryz.zeroValue3
  t4 := Tryz.underlying4
  a4 := Tryz.isAgg4
  z4 := Tryz.sizeOf4
  v4 := Tryz.zeroValue4
  t5 := Tryz.underlying5
  a5 := Tryz.isAgg5
  z5 := Tryz.sizeOf5
  v5 := Tryz.zeroValue5
  t9 := Tryz.underlying9
  a9 := Tryz.isAgg9
  z9 := Tryz.sizeOf9
  v9 := Tryz.zeroValue9
  t46 := Tryz.underlying192
  a46 := Tryz.isAgg192
  z46 := Tryz.sizeOf192
  v46 := Tryz.zeroValue192
  t51 := Tryz.underlying197
  a51 := Tryz.isAgg197
  z51 := Tryz.sizeOf197
  v51 := Tryz.zeroValue197
  t146 := Tryz.underlying217
  a146 := Tryz.isAgg217
  z146 := Tryz.sizeOf217
  v146 := Tryz.zeroValue217
  g1 := by kernel_rfl
  i3 := by kernel_rfl
  i4 := by kernel_rfl
  i5 := by kernel_rfl
  i9 := by kernel_rfl
  i46 := by kernel_rfl
  i51 := by kernel_rfl
  i146 := by kernel_rfl
  m1 := by kernel_rfl
  s1_3 := fun w h => Go.Proofs.cell_of_shapedOpen_int (zero := #[.int .i64 0]) (t := 3) h (of_decide_eq_true (by kernel_rfl)) (by kernel_rfl) rfl (by kernel_rfl) (by kernel_rfl) Tryz.underlying3 }
open Go.RowKit Go.Lib in
theorem Tryz.stringslite_Index_shaped (s sub : ByteArray) (w : World) (h : w.ShapedOpen Tryz.prog) (hs : s.size < 4294967281) :
    Calls Tryz.prog 290 #[.string s, .string sub] w fun e w' => e = .returned (.int .i64 (Lib.index s.data.toList sub.data.toList)) ∧ w' = w := Any.stringslite_Index_shaped Tryz.laysM219 s sub w h hs
def Tryz.laysM143_ren : Go.Shelf.Ren := ⟨fun | 143 => 289 | 219 => 290 | 217 => 197 | 225 => 291 | 224 => 292 | 267 => 293 | 266 => 212 | 314 => 294 | n => n, fun | 9 => 9 | 3 => 3 | 4 => 4 | 5 => 5 | 46 => 192 | 146 => 217 | 51 => 197 | n => n, fun | 1 => 1 | n => n⟩
theorem Tryz.laysM143 : Go.Proofs.LaysM.n143 Tryz.prog Tryz.laysM143_ren := {
  mixed := by kernel_rfl
  f143 := Tryz.func289.trans (congrArg some (by kernel_rfl))
  f217 := Tryz.func197.trans (congrArg some (by kernel_rfl))
  f219 := Tryz.func290.trans (congrArg some (by kernel_rfl))
  f224 := Tryz.func292.trans (congrArg some (by kernel_rfl))
  f225 := Tryz.func291.trans (congrArg some (by kernel_rfl))
  f266 := Tryz.func212.trans (congrArg some (by kernel_rfl))
  f267 := Tryz.func293.trans (congrArg some (by kernel_rfl))
  f314 := Tryz.func294.trans (congrArg some (by kernel_rfl))
  t3 := Tryz.underlying3
  a3 := Tryz.isAgg3
  z3 := Tryz.sizeOf3
  v3 := Tryz.zeroValue3
  t4 := Tryz.underlying4
  a4 := Tryz.isAgg4
  z4 := Tryz.sizeOf4
  v4 := Tryz.zeroValue4
  t5 := Tryz.underlying5
  a5 := Tryz.isAgg5
  z5 := Tryz.sizeOf5
  v5 := Tryz.zeroValue5
  t9 := Tryz.underlying9
  a9 := Tryz.isAgg9
  z9 := Tryz.sizeOf9
  v9 := Tryz.zeroValue9
  t46 := Tryz.underlying192
  a46 := Tryz.isAgg192
  z46 := Tryz.sizeOf192
  v46 := Tryz.zeroValue192
  t51 := Tryz.underlying197
  a51 := Tryz.isAgg197
  z51 := Tryz.sizeOf197
  v51 := Tryz.zeroValue197
  t146 := Tryz.underlying217
  a146 := Tryz.isAgg217
  z146 := Tryz.sizeOf217
  v146 := Tryz.zeroValue217
  g1 := by kernel_rfl
  i3 := by kernel_rfl
  i4 := by kernel_rfl
  i5 := by kernel_rfl
  i9 := by kernel_rfl
  i46 := by kernel_rfl
  i51 := by kernel_rfl
  i146 := by kernel_rfl
  m1 := by kernel_rfl
  s1_3 := fun w h => Go.Proofs.cell_of_shapedOpen_int (zero := #[.int .i64 0]) (t := 3) h (of_decide_eq_true (by kernel_rfl)) (by kernel_rfl) rfl (by kernel_rfl) (by kernel_rfl) Tryz.underlying3 }
open Go.RowKit Go.Lib in
theorem Tryz.strings_Index_shaped (s sub : ByteArray) (w : World) (h : w.ShapedOpen Tryz.prog) (hs : s.size < 4294967281) :
    Calls Tryz.prog 289 #[.string s, .string sub] w fun e w' => e = .returned (.int .i64 (Lib.index s.data.toList sub.data.toList)) ∧ w' = w := Any.strings_Index_shaped Tryz.laysM143 s sub w h hs
def Tryz.laysM138_ren : Go.Shelf.Ren := ⟨fun | 138 => 286 | 195 => 287 | 218 => 288 | 143 => 289 | 219 => 290 | 217 => 197 | 225 => 291 | 224 => 292 | 267 => 293 | 266 => 212 | 314 => 294 | n => n, fun | 9 => 9 | 3 => 3 | 4 => 4 | 5 => 5 | 0 => 0 | 46 => 192 | 146 => 217 | 51 => 197 | n => n, fun | 1 => 1 | n => n⟩
theorem Tryz.laysM138 : Go.Proofs.LaysM.n138 Tryz.prog Tryz.laysM138_ren := {
  mixed := by kernel_rfl
  f138 := Tryz.func286.trans (congrArg some (by kernel_rfl))
  f143 := Tryz.func289.trans (congrArg some (by kernel_rfl))
  f195 := Tryz.func287.trans (congrArg some (by kernel_rfl))
  f217 := Tryz.func197.trans (congrArg some (by kernel_rfl))
  f218 := Tryz.func288.trans (congrArg some (by kernel_rfl))
  f219 := Tryz.func290.trans (congrArg some (by kernel_rfl))
  f224 := Tryz.func292.trans (congrArg some (by kernel_rfl))
  f225 := Tryz.func291.trans (congrArg some (by kernel_rfl))
  f266 := Tryz.func212.trans (congrArg some (by kernel_rfl))
  f267 := Tryz.func293.trans (congrArg some (by kernel_rfl))
  f314 := Tryz.func294.trans (congrArg some (by kernel_rfl))
  t0 := Tryz.underlying0
  a0 := Tryz.isAgg0
  z0 := Tryz.sizeOf0
  v0 := Tryz.zeroValue0
  t3 := Tryz.underlying3
  a3 := Tryz.isAgg3
  z3 := Tryz.sizeOf3
  v3 := Tryz.zeroValue3
  t4 := Tryz.underlying4
  a4 := Tryz.isAgg4
  z4 := Tryz.sizeOf4
  v4 := Tryz.zeroValue4
  t5 := Tryz.underlying5
  a5 := Tryz.isAgg5
  z5 := Tryz.sizeOf5
  v5 := Tryz.zeroValue5
  t9 := Tryz.underlying9
  a9 := Tryz.isAgg9
  z9 := Tryz.sizeOf9
  v9 := Tryz.zeroValue9
  t46 := Tryz.underlying192
  a46 := Tryz.isAgg192
  z46 := Tryz.sizeOf192
  v46 := Tryz.zeroValue192
  t51 := Tryz.underlying197
  a51 := Tryz.isAgg197
  z51 := Tryz.sizeOf197
  v51 := Tryz.zeroValue197
  t146 := Tryz.underlying217
  a146 := Tryz.isAgg217
  z146 := Tryz.sizeOf217
  v146 := Tryz.zeroValue217
  g1 := by kernel_rfl
  i0 := by kernel_rfl
  i3 := by kernel_rfl
  i4 := by kernel_rfl
  i5 := by kernel_rfl
  i9 := by kernel_rfl
  i46 := by kernel_rfl
  i51 := by kernel_rfl
  i146 := by kernel_rfl
  m1 := by kernel_rfl
  s1_3 := fun w h => Go.Proofs.cell_of_shapedOpen_int (zero := #[.int .i64 0]) (t := 3) h (of_decide_eq_true (by kernel_rfl)) (by kernel_rfl) rfl (by kernel_rfl) (by kernel_rfl) Tryz.underlying3 }
open Go.RowKit Go.Lib in
theorem Tryz.strings_Count_shaped (s sub : ByteArray) (w : World) (h : w.ShapedOpen Tryz.prog) (hs : s.size < 4294967281) (h2 : 2 ≤ sub.size) :
    Calls Tryz.prog 286 #[.string s, .string sub] w fun e w' => e = .returned (.int .i64 (Lib.countB s sub)) ∧ w' = w := Any.strings_Count_shaped Tryz.laysM138 s sub w h hs h2
def Tryz.lays206_ren : Go.Shelf.Ren := ⟨fun | 206 => 174 | n => n, fun | 9 => 9 | 4 => 4 | 3 => 3 | n => n, fun | n => n⟩
theorem Tryz.lays206 : Go.Proofs.Lays.n206 Tryz.prog Tryz.lays206_ren := {
  mixed := by kernel_rfl
  f206 := Tryz.func174.trans (congrArg some (by kernel_rfl))
  t3 := Tryz.underlying3
  a3 := Tryz.isAgg3
  z3 := Tryz.sizeOf3
  v3 := Tryz.zeroValue3
  t4 := Tryz.underlying4
  a4 := Tryz.isAgg4
  z4 := Tryz.sizeOf4
  v4 := Tryz.zeroValue4
  t9 := Tryz.underlying9
  a9 := Tryz.isAgg9
  z9 := Tryz.sizeOf9
  v9 := Tryz.zeroValue9 }
open Go.RowKit Go.Lib in
/-- internal/stringslite.HasPrefix (what strings.HasPrefix calls). (LAID: no walk: one application.) -/
theorem Tryz.stringslite_HasPrefix (s p : ByteArray) (w : World) :
    Calls Tryz.prog 174 #[.string s, .string p] w fun e w' => e = .returned (.bool (Lib.hasPrefix s.data.toList p.data.toList)) ∧ w' = w := Any.stringslite_HasPrefix Tryz.lays206 s p w
def Tryz.lays99_ren : Go.Shelf.Ren := ⟨fun | 99 => 142 | 206 => 174 | n => n, fun | 9 => 9 | 4 => 4 | 3 => 3 | n => n, fun | n => n⟩
theorem Tryz.lays99 : Go.Proofs.Lays.n99 Tryz.prog Tryz.lays99_ren := {
  mixed := by kernel_rfl
  f99 := Tryz.func142.trans (congrArg some (by kernel_rfl))
  f206 := Tryz.func174.trans (congrArg some (by kernel_rfl))
  t3 := Tryz.underlying3
  a3 := Tryz.isAgg3
  z3 := Tryz.sizeOf3
  v3 := Tryz.zeroValue3
  t4 := Tryz.underlying4
  a4 := Tryz.isAgg4
  z4 := Tryz.sizeOf4
  v4 := Tryz.zeroValue4
  t9 := Tryz.underlying9
  a9 := Tryz.isAgg9
  z9 := Tryz.sizeOf9
  v9 := Tryz.zeroValue9 }
open Go.RowKit Go.Lib in
/-- strings.HasPrefix: "HasPrefix reports whether the string s begins with prefix.": IT RETURNS 'Lib.hasPrefix s prefix'; the world is as it was. (LAID: no walk: one application.) -/
theorem Tryz.strings_HasPrefix (s p : ByteArray) (w : World) :
    Calls Tryz.prog 142 #[.string s, .string p] w fun e w' => e = .returned (.bool (Lib.hasPrefix s.data.toList p.data.toList)) ∧ w' = w := Any.strings_HasPrefix Tryz.lays99 s p w
open Go.RowKit Go.Lib in
/-- strings.Count at whatever sep that is not empty: the two roads under one statement. (LAID: no walk: one application.) -/
theorem Tryz.strings_Count_any (s sep : ByteArray) (m : Int) (w : World) (hs : s.size < 4294967281) (hm : w.cell? ⟨1, 0, none⟩ = some (.int .i64 m)) (h1 : 1 ≤ sep.size) :
    Calls Tryz.prog 286 #[.string s, .string sep] w fun e w' => e = .returned (.int .i64 (Lib.countB s sep)) ∧ w' = w := Any.strings_Count_any Tryz.lays138 s sep m w hs hm h1
def Tryz.lays157_ren : Go.Shelf.Ren := ⟨fun | 157 => 204 | 229 => 216 | 199 => 217 | 261 => 228 | 311 => 236 | 312 => 237 | n => n, fun | 9 => 9 | 31 => 39 | 3 => 3 | 5 => 5 | 4 => 4 | 119 => 265 | 0 => 0 | 40 => 185 | 152 => 286 | 21 => 21 | 154 => 288 | 51 => 197 | 141 => 290 | 196 => 311 | 193 => 308 | 198 => 314 | 49 => 312 | 194 => 309 | 201 => 317 | 226 => 328 | 46 => 192 | 227 => 329 | n => n, fun | 0 => 2 | 6 => 3 | n => n⟩
theorem Tryz.lays157 : Go.Proofs.Lays.n157 Tryz.prog Tryz.lays157_ren := {
  mixed := by kernel_rfl
  f157 := Tryz.func204.trans (congrArg some (by kernel_rfl))
  f199 := Tryz.func217.trans (congrArg some (by kernel_rfl))
  f229 := Tryz.func216.trans (congrArg some (by kernel_rfl))
  f261 := Tryz.func228.trans (congrArg some (by kernel_rfl))
  f311 := Tryz.func236.trans (congrArg some (by kernel_rfl))
  f312 := Tryz.func237.trans (congrArg some (by kernel_rfl))
  t0 := Tryz.underlying0
  a0 := Tryz.isAgg0
  z0 := Tryz.sizeOf0
  v0 := Tryz.zeroValue0
  t3 := Tryz.underlying3
  a3 := Tryz.isAgg3
  z3 := Tryz.sizeOf3
  v3 := Tryz.zeroValue3
  t4 := Tryz.underlying4
  a4 := Tryz.isAgg4
  z4 := Tryz.sizeOf4
  v4 := Tryz.zeroValue4
  t5 := Tryz.underlying5
  a5 := Tryz.isAgg5
  z5 := Tryz.sizeOf5
  v5 := Tryz.zeroValue5
  t9 := Tryz.underlying9
  a9 := Tryz.isAgg9
  z9 := Tryz.sizeOf9
  v9 := Tryz.zeroValue9
  t21 := Tryz.underlying21
  a21 := Tryz.isAgg21
  z21 := Tryz.sizeOf21
  v21 := Tryz.zeroValue21
  t31 := Tryz.underlying39
  a31 := Tryz.isAgg39
  z31 := Tryz.sizeOf39
  v31 := Tryz.zeroValue39
  t40 := Tryz.underlying185
  a40 := Tryz.isAgg185
  z40 := Tryz.sizeOf185
  v40 := Tryz.zeroValue185
  t46 := Tryz.underlying192
  a46 := Tryz.isAgg192
  z46 := Tryz.sizeOf192
  v46 := Tryz.zeroValue192
  t49 := Tryz.underlying312
  a49 := Tryz.isAgg312
  z49 := Tryz.sizeOf312
  v49 := Tryz.zeroValue312
  t51 := Tryz.underlying197
  a51 := Tryz.isAgg197
  z51 := Tryz.sizeOf197
  v51 := Tryz.zeroValue197
  t119 := Tryz.underlying265
  a119 := Tryz.isAgg265
  z119 := Tryz.sizeOf265
  t141 := Tryz.underlying290
  a141 := Tryz.isAgg290
  z141 := Tryz.sizeOf290
  v141 := Tryz.zeroValue290
  t152 := Tryz.underlying286
  a152 := Tryz.isAgg286
  z152 := Tryz.sizeOf286
  v152 := Tryz.zeroValue286
  t154 := Tryz.underlying288
  a154 := Tryz.isAgg288
  z154 := Tryz.sizeOf288
  v154 := Tryz.zeroValue288
  t193 := Tryz.underlying308
  a193 := Tryz.isAgg308
  z193 := Tryz.sizeOf308
  v193 := Tryz.zeroValue308
  t194 := Tryz.underlying309
  a194 := Tryz.isAgg309
  z194 := Tryz.sizeOf309
  v194 := Tryz.zeroValue309
  t196 := Tryz.underlying311
  a196 := Tryz.isAgg311
  z196 := Tryz.sizeOf311
  v196 := Tryz.zeroValue311
  t198 := Tryz.underlying314
  a198 := Tryz.isAgg314
  z198 := Tryz.sizeOf314
  v198 := Tryz.zeroValue314
  t201 := Tryz.underlying317
  a201 := Tryz.isAgg317
  z201 := Tryz.sizeOf317
  v201 := Tryz.zeroValue317
  t226 := Tryz.underlying328
  a226 := Tryz.isAgg328
  z226 := Tryz.sizeOf328
  v226 := Tryz.zeroValue328
  t227 := Tryz.underlying329
  a227 := Tryz.isAgg329
  z227 := Tryz.sizeOf329
  v227 := Tryz.zeroValue329
  g0 := by kernel_rfl
  g6 := by kernel_rfl }
open Go.RowKit Go.Lib in
/-- strings.Fields, the table by 'Lib.TabIs' (as strings.TrimSpace's contract). 'hg': the table's number, by its name: at a dump 'by kernel_rfl'. (LAID: no walk: one application.) -/
theorem Tryz.strings_Fields (s : ByteArray) (w : World) (hs : s.size < 4294967281) (hascii : ∀ (j : Nat) b, s.data.toList[j]? = some b → b.toNat < 128) (htab : Lib.TabIs Tryz.prog w "strings.asciiSpace" .u8 Lib.asciiSpaceTab) :
    Calls Tryz.prog 204 #[.string s] w fun e w' =>
      e = .returned (.slice (some ⟨w.heap.size, 0, none⟩) (Lib.fields s.data.toList).length (Lib.fields s.data.toList).length) ∧ w' = w.alloc (.cells ((Lib.fields s.data.toList).map fun l => Value.string ⟨l.toArray⟩).toArray 9) := Any.strings_Fields Tryz.lays157 (by kernel_rfl) (by kernel_rfl) s w hs hascii htab
def Tryz.laysM157_ren : Go.Shelf.Ren := ⟨fun | 157 => 204 | 229 => 216 | 199 => 217 | 261 => 228 | 311 => 236 | 312 => 237 | n => n, fun | 9 => 9 | 31 => 39 | 3 => 3 | 5 => 5 | 4 => 4 | 119 => 265 | 0 => 0 | 40 => 185 | 152 => 286 | 21 => 21 | 154 => 288 | 51 => 197 | 141 => 290 | 196 => 311 | 193 => 308 | 198 => 314 | 49 => 312 | 194 => 309 | 201 => 317 | 226 => 328 | 46 => 192 | 227 => 329 | n => n, fun | 0 => 2 | 6 => 3 | n => n⟩
theorem Tryz.laysM157 : Go.Proofs.LaysM.n157 Tryz.prog Tryz.laysM157_ren := {
  mixed := by kernel_rfl
  f157 := Tryz.func204.trans (congrArg some (by kernel_rfl))
  f199 := Tryz.func217.trans (congrArg some (by kernel_rfl))
  f229 := Tryz.func216.trans (congrArg some (by kernel_rfl))
  f261 := Tryz.func228.trans (congrArg some (by kernel_rfl))
  f311 := Tryz.func236.trans (congrArg some (by kernel_rfl))
  f312 := Tryz.func237.trans (congrArg some (by kernel_rfl))
  t0 := Tryz.underlying0
  a0 := Tryz.isAgg0
  z0 := Tryz.sizeOf0
  v0 := Tryz.zeroValue0
  t3 := Tryz.underlying3
  a3 := Tryz.isAgg3
  z3 := Tryz.sizeOf3
  v3 := Tryz.zeroValue3
  t4 := Tryz.underlying4
  a4 := Tryz.isAgg4
  z4 := Tryz.sizeOf4
  v4 := Tryz.zeroValue4
  t5 := Tryz.underlying5
  a5 := Tryz.isAgg5
  z5 := Tryz.sizeOf5
  v5 := Tryz.zeroValue5
  t9 := Tryz.underlying9
  a9 := Tryz.isAgg9
  z9 := Tryz.sizeOf9
  v9 := Tryz.zeroValue9
  t21 := Tryz.underlying21
  a21 := Tryz.isAgg21
  z21 := Tryz.sizeOf21
  v21 := Tryz.zeroValue21
  t31 := Tryz.underlying39
  a31 := Tryz.isAgg39
  z31 := Tryz.sizeOf39
  v31 := Tryz.zeroValue39
  t40 := Tryz.underlying185
  a40 := Tryz.isAgg185
  z40 := Tryz.sizeOf185
  v40 := Tryz.zeroValue185
  t46 := Tryz.underlying192
  a46 := Tryz.isAgg192
  z46 := Tryz.sizeOf192
  v46 := Tryz.zeroValue192
  t49 := Tryz.underlying312
  a49 := Tryz.isAgg312
  z49 := Tryz.sizeOf312
  v49 := Tryz.zeroValue312
  t51 := Tryz.underlying197
  a51 := Tryz.isAgg197
  z51 := Tryz.sizeOf197
  v51 := Tryz.zeroValue197
  t119 := Tryz.underlying265
  a119 := Tryz.isAgg265
  z119 := Tryz.sizeOf265
  t141 := Tryz.underlying290
  a141 := Tryz.isAgg290
  z141 := Tryz.sizeOf290
  v141 := Tryz.zeroValue290
  t152 := Tryz.underlying286
  a152 := Tryz.isAgg286
  z152 := Tryz.sizeOf286
  v152 := Tryz.zeroValue286
  t154 := Tryz.underlying288
  a154 := Tryz.isAgg288
  z154 := Tryz.sizeOf288
  v154 := Tryz.zeroValue288
  t193 := Tryz.underlying308
  a193 := Tryz.isAgg308
  z193 := Tryz.sizeOf308
  v193 := Tryz.zeroValue308
  t194 := Tryz.underlying309
  a194 := Tryz.isAgg309
  z194 := Tryz.sizeOf309
  v194 := Tryz.zeroValue309
  t196 := Tryz.underlying311
  a196 := Tryz.isAgg311
  z196 := Tryz.sizeOf311
  v196 := Tryz.zeroValue311
  t198 := Tryz.underlying314
  a198 := Tryz.isAgg314
  z198 := Tryz.sizeOf314
  v198 := Tryz.zeroValue314
  t201 := Tryz.underlying317
  a201 := Tryz.isAgg317
  z201 := Tryz.sizeOf317
  v201 := Tryz.zeroValue317
  t226 := Tryz.underlying328
  a226 := Tryz.isAgg328
  z226 := Tryz.sizeOf328
  v226 := Tryz.zeroValue328
  t227 := Tryz.underlying329
  a227 := Tryz.isAgg329
  z227 := Tryz.sizeOf329
  v227 := Tryz.zeroValue329
  g0 := by kernel_rfl
  g6 := by kernel_rfl
  i0 := by kernel_rfl
  i3 := by kernel_rfl
  i4 := by kernel_rfl
  i5 := by kernel_rfl
  i9 := by kernel_rfl
  i21 := by kernel_rfl
  i31 := by kernel_rfl
  i40 := by kernel_rfl
  i46 := by kernel_rfl
  i49 := by kernel_rfl
  i51 := by kernel_rfl
  i141 := by kernel_rfl
  i152 := by kernel_rfl
  i154 := by kernel_rfl
  i193 := by kernel_rfl
  i194 := by kernel_rfl
  i196 := by kernel_rfl
  i198 := by kernel_rfl
  i201 := by kernel_rfl
  i226 := by kernel_rfl
  i227 := by kernel_rfl
  m0 := by kernel_rfl
  m6 := by kernel_rfl }
open Go.RowKit Go.Lib in
/-- strings.Fields on ASCII bytes. (The table: 'Lib.TabIs', as strings.TrimSpace's contract asks it.) (LAID: no walk: one application.) -/
theorem Tryz.strings_Fields_laid (s : ByteArray) (w : World) (hs : s.size < 4294967281) (hascii : ∀ (j : Nat) b, s.data.toList[j]? = some b → b.toNat < 128) (htab : Lib.TabIs Tryz.prog w "strings.asciiSpace" .u8 Lib.asciiSpaceTab) :
    Calls Tryz.prog 204 #[.string s] w fun e w' =>
      e = .returned (.slice (some ⟨w.heap.size, 0, none⟩) (Lib.fields s.data.toList).length (Lib.fields s.data.toList).length) ∧ w' = w.alloc (.cells ((Lib.fields s.data.toList).map fun l => Value.string ⟨l.toArray⟩).toArray 9) := Any.strings_Fields_laid Tryz.laysM157 s w hs hascii htab
def Tryz.lays199_ren : Go.Shelf.Ren := ⟨fun | 199 => 217 | 261 => 228 | 311 => 236 | 312 => 237 | n => n, fun | 21 => 21 | 4 => 4 | 51 => 197 | 141 => 290 | 0 => 0 | 196 => 311 | 193 => 308 | 3 => 3 | 198 => 314 | 49 => 312 | 194 => 309 | 201 => 317 | 226 => 328 | 46 => 192 | 227 => 329 | n => n, fun | 6 => 3 | n => n⟩
theorem Tryz.lays199 : Go.Proofs.Lays.n199 Tryz.prog Tryz.lays199_ren := {
  mixed := by kernel_rfl
  f199 := Tryz.func217.trans (congrArg some (by kernel_rfl))
  f261 := Tryz.func228.trans (congrArg some (by kernel_rfl))
  f311 := Tryz.func236.trans (congrArg some (by kernel_rfl))
  f312 := Tryz.func237.trans (congrArg some (by kernel_rfl))
  t0 := Tryz.underlying0
  a0 := Tryz.isAgg0
  z0 := Tryz.sizeOf0
  v0 := Tryz.zeroValue0
  t3 := Tryz.underlying3
  a3 := Tryz.isAgg3
  z3 := Tryz.sizeOf3
  v3 := Tryz.zeroValue3
  t4 := Tryz.underlying4
  a4 := Tryz.isAgg4
  z4 := Tryz.sizeOf4
  v4 := Tryz.zeroValue4
  t21 := Tryz.underlying21
  a21 := Tryz.isAgg21
  z21 := Tryz.sizeOf21
  v21 := Tryz.zeroValue21
  t46 := Tryz.underlying192
  a46 := Tryz.isAgg192
  z46 := Tryz.sizeOf192
  v46 := Tryz.zeroValue192
  t49 := Tryz.underlying312
  a49 := Tryz.isAgg312
  z49 := Tryz.sizeOf312
  v49 := Tryz.zeroValue312
  t51 := Tryz.underlying197
  a51 := Tryz.isAgg197
  z51 := Tryz.sizeOf197
  v51 := Tryz.zeroValue197
  t141 := Tryz.underlying290
  a141 := Tryz.isAgg290
  z141 := Tryz.sizeOf290
  v141 := Tryz.zeroValue290
  t193 := Tryz.underlying308
  a193 := Tryz.isAgg308
  z193 := Tryz.sizeOf308
  v193 := Tryz.zeroValue308
  t194 := Tryz.underlying309
  a194 := Tryz.isAgg309
  z194 := Tryz.sizeOf309
  v194 := Tryz.zeroValue309
  t196 := Tryz.underlying311
  a196 := Tryz.isAgg311
  z196 := Tryz.sizeOf311
  v196 := Tryz.zeroValue311
  t198 := Tryz.underlying314
  a198 := Tryz.isAgg314
  z198 := Tryz.sizeOf314
  v198 := Tryz.zeroValue314
  t201 := Tryz.underlying317
  a201 := Tryz.isAgg317
  z201 := Tryz.sizeOf317
  v201 := Tryz.zeroValue317
  t226 := Tryz.underlying328
  a226 := Tryz.isAgg328
  z226 := Tryz.sizeOf328
  v226 := Tryz.zeroValue328
  t227 := Tryz.underlying329
  a227 := Tryz.isAgg329
  z227 := Tryz.sizeOf329
  v227 := Tryz.zeroValue329
  g6 := by kernel_rfl }
open Go.RowKit Go.Lib in
theorem Tryz.unicode_IsSpace (r : Int) (w : World) (h0 : 0 ≤ r) (h : r ≤ 255) :
    Calls Tryz.prog 217 #[.int .i32 r] w fun e w' => e = .returned (.bool (Lib.isSpaceL r)) ∧ w' = w := Any.unicode_IsSpace Tryz.lays199 r w h0 h
def Tryz.lays264_ren : Go.Shelf.Ren := ⟨fun | 264 => 173 | n => n, fun | 53 => 219 | 46 => 192 | n => n, fun | n => n⟩
theorem Tryz.lays264 : Go.Proofs.Lays.n264 Tryz.prog Tryz.lays264_ren := {
  mixed := by kernel_rfl
  f264 := Tryz.func173.trans (congrArg some (by kernel_rfl))
  t46 := Tryz.underlying192
  a46 := Tryz.isAgg192
  z46 := Tryz.sizeOf192
  v46 := Tryz.zeroValue192
  t53 := Tryz.underlying219
  a53 := Tryz.isAgg219
  z53 := Tryz.sizeOf219
  v53 := Tryz.zeroValue219 }
open Go.RowKit Go.Lib in
theorem Tryz.bits_Mul64 (x y : Nat) (hx : x < 18446744073709551616) (hy : y < 18446744073709551616) (w : World) :
    Calls Tryz.prog 173 #[.int .u64 x, .int .u64 y] w fun e w' => e = .returned (.tuple #[.int .u64 ((x * y / 18446744073709551616 : Nat) : Int), .int .u64 ((x * y % 18446744073709551616 : Nat) : Int)]) ∧ w' = w := Any.bits_Mul64 Tryz.lays264 x y hx hy w
def Tryz.lays212_ren : Go.Shelf.Ren := ⟨fun | 212 => 141 | 263 => 172 | 264 => 173 | n => n, fun | 46 => 192 | 51 => 197 | 146 => 217 | 53 => 219 | 148 => 220 | n => n, fun | n => n⟩
theorem Tryz.lays212 : Go.Proofs.Lays.n212 Tryz.prog Tryz.lays212_ren := {
  mixed := by kernel_rfl
  f212 := Tryz.func141.trans (congrArg some (by kernel_rfl))
  f263 := Tryz.func172.trans (congrArg some (by kernel_rfl))
  f264 := Tryz.func173.trans (congrArg some (by kernel_rfl))
  t46 := Tryz.underlying192
  a46 := Tryz.isAgg192
  z46 := Tryz.sizeOf192
  v46 := Tryz.zeroValue192
  t51 := Tryz.underlying197
  a51 := Tryz.isAgg197
  z51 := Tryz.sizeOf197
  v51 := Tryz.zeroValue197
  t53 := Tryz.underlying219
  a53 := Tryz.isAgg219
  z53 := Tryz.sizeOf219
  v53 := Tryz.zeroValue219
  t146 := Tryz.underlying217
  a146 := Tryz.isAgg217
  z146 := Tryz.sizeOf217
  v146 := Tryz.zeroValue217
  t148 := Tryz.underlying220
  a148 := Tryz.isAgg220
  z148 := Tryz.sizeOf220
  v148 := Tryz.zeroValue220 }
open Go.RowKit Go.Lib in
/-- math/bits.Mul: "Mul returns the full-width product of x and y": on a machine of 64 bits: Mul64's. (LAID: no walk: one application.) -/
theorem Tryz.bits_Mul (x y : Nat) (hx : x < 18446744073709551616) (hy : y < 18446744073709551616) (w : World) :
    Calls Tryz.prog 141 #[.int .u64 x, .int .u64 y] w fun e w' => e = .returned (.tuple #[.int .u64 ((x * y / 18446744073709551616 : Nat) : Int), .int .u64 ((x * y % 18446744073709551616 : Nat) : Int)]) ∧ w' = w := Any.bits_Mul Tryz.lays212 x y hx hy w
def Tryz.lays105_ren : Go.Shelf.Ren := ⟨fun | 105 => 93 | 212 => 141 | 99 => 142 | 165 => 143 | 166 => 92 | 170 => 144 | 169 => 51 | 263 => 172 | 264 => 173 | 206 => 174 | 240 => 140 | 241 => 175 | 276 => 171 | 277 => 198 | n => n, fun | 9 => 9 | 3 => 3 | 4 => 4 | 20 => 20 | 0 => 0 | 46 => 192 | 109 => 193 | 5 => 5 | 72 => 112 | 76 => 148 | 51 => 197 | 146 => 217 | 53 => 219 | 148 => 220 | 70 => 109 | 37 => 110 | 75 => 147 | 127 => 154 | 164 => 215 | 80 => 114 | n => n, fun | n => n⟩
theorem Tryz.lays105 : Go.Proofs.Lays.n105 Tryz.prog Tryz.lays105_ren := {
  mixed := by kernel_rfl
  f99 := Tryz.func142.trans (congrArg some (by kernel_rfl))
  f105 := Tryz.func93.trans (congrArg some (by kernel_rfl))
  f165 := Tryz.func143.trans (congrArg some (by kernel_rfl))
  f166 := Tryz.func92.trans (congrArg some (by kernel_rfl))
  f169 := Tryz.func51.trans (congrArg some (by kernel_rfl))
  f170 := Tryz.func144.trans (congrArg some (by kernel_rfl))
  f206 := Tryz.func174.trans (congrArg some (by kernel_rfl))
  f212 := Tryz.func141.trans (congrArg some (by kernel_rfl))
  f240 := Tryz.func140.trans (congrArg some (by kernel_rfl))
  f241 := Tryz.func175.trans (congrArg some (by kernel_rfl))
  f263 := Tryz.func172.trans (congrArg some (by kernel_rfl))
  f264 := Tryz.func173.trans (congrArg some (by kernel_rfl))
  f276 := Tryz.func171.trans (congrArg some (by kernel_rfl))
  f277 := Tryz.func198.trans (congrArg some (by kernel_rfl))
  t0 := Tryz.underlying0
  a0 := Tryz.isAgg0
  z0 := Tryz.sizeOf0
  v0 := Tryz.zeroValue0
  t3 := Tryz.underlying3
  a3 := Tryz.isAgg3
  z3 := Tryz.sizeOf3
  v3 := Tryz.zeroValue3
  t4 := Tryz.underlying4
  a4 := Tryz.isAgg4
  z4 := Tryz.sizeOf4
  v4 := Tryz.zeroValue4
  t5 := Tryz.underlying5
  a5 := Tryz.isAgg5
  z5 := Tryz.sizeOf5
  v5 := Tryz.zeroValue5
  t9 := Tryz.underlying9
  a9 := Tryz.isAgg9
  z9 := Tryz.sizeOf9
  v9 := Tryz.zeroValue9
  t20 := Tryz.underlying20
  a20 := Tryz.isAgg20
  z20 := Tryz.sizeOf20
  v20 := Tryz.zeroValue20
  t37 := Tryz.underlying110
  a37 := Tryz.isAgg110
  z37 := Tryz.sizeOf110
  v37 := Tryz.zeroValue110
  t46 := Tryz.underlying192
  a46 := Tryz.isAgg192
  z46 := Tryz.sizeOf192
  v46 := Tryz.zeroValue192
  t51 := Tryz.underlying197
  a51 := Tryz.isAgg197
  z51 := Tryz.sizeOf197
  v51 := Tryz.zeroValue197
  t53 := Tryz.underlying219
  a53 := Tryz.isAgg219
  z53 := Tryz.sizeOf219
  v53 := Tryz.zeroValue219
  t70 := Tryz.underlying109
  a70 := Tryz.isAgg109
  z70 := Tryz.sizeOf109
  v70 := Tryz.zeroValue109
  t72 := Tryz.underlying112
  a72 := Tryz.isAgg112
  z72 := Tryz.sizeOf112
  v72 := Tryz.zeroValue112
  t75 := Tryz.underlying147
  a75 := Tryz.isAgg147
  z75 := Tryz.sizeOf147
  v75 := Tryz.zeroValue147
  t76 := Tryz.underlying148
  a76 := Tryz.isAgg148
  z76 := Tryz.sizeOf148
  v76 := Tryz.zeroValue148
  t109 := Tryz.underlying193
  a109 := Tryz.isAgg193
  z109 := Tryz.sizeOf193
  v109 := Tryz.zeroValue193
  t127 := Tryz.underlying154
  a127 := Tryz.isAgg154
  z127 := Tryz.sizeOf154
  v127 := Tryz.zeroValue154
  t146 := Tryz.underlying217
  a146 := Tryz.isAgg217
  z146 := Tryz.sizeOf217
  v146 := Tryz.zeroValue217
  t148 := Tryz.underlying220
  a148 := Tryz.isAgg220
  z148 := Tryz.sizeOf220
  v148 := Tryz.zeroValue220
  t164 := Tryz.underlying215
  a164 := Tryz.isAgg215
  z164 := Tryz.sizeOf215
  v164 := Tryz.zeroValue215 }
theorem Tryz.Builder_Extra_105 : Builder.Extra Tryz.prog Tryz.lays105_ren := {
  sizeBuilder := by kernel_rfl
  liesBuilder := by kernel_rfl
  t5 := Tryz.underlying5
  a5 := Tryz.isAgg5
  z5 := Tryz.sizeOf5
  v5 := Tryz.zeroValue5
  infoByte := by kernel_rfl
  cellsByte := by kernel_rfl
  sizeByte := by kernel_rfl
  neB5 := by decide }
open Go.RowKit Go.Lib in
/-- THE MAIN CASE: at least two copies of a string that is not empty. (LAID: no walk: one application.) -/
theorem Tryz.strings_Repeat_main (s : ByteArray) (c : Nat) (w : World) (hc2 : 2 ≤ c) (hc : c ≤ 9223372036854775807) (hlen : s.size * c ≤ 140737488355328) (h0 : 0 < s.size) :
    Calls Tryz.prog 93 #[.string s, .int .i64 c] w fun e w' => e = .returned (.string ⟨(Lib.repeatL s.data.toList c).toArray⟩) ∧ Below w.heap.size w w' := Any.strings_Repeat_main Tryz.lays105 Tryz.Builder_Extra_105 s c w hc2 hc hlen h0
open Go.RowKit Go.Lib in
theorem Tryz.strings_Repeat_zero (s : ByteArray) (w : World) :
    Calls Tryz.prog 93 #[.string s, .int .i64 0] w fun e w' => e = .returned (.string ⟨#[]⟩) ∧ w' = w := Any.strings_Repeat_zero Tryz.lays105 s w
open Go.RowKit Go.Lib in
theorem Tryz.strings_Repeat_one (s : ByteArray) (w : World) :
    Calls Tryz.prog 93 #[.string s, .int .i64 1] w fun e w' => e = .returned (.string s) ∧ w' = w := Any.strings_Repeat_one Tryz.lays105 s w
open Go.RowKit Go.Lib in
/-- Copies of the empty string. (LAID: no walk: one application.) -/
theorem Tryz.strings_Repeat_empty (s : ByteArray) (c : Nat) (w : World) (hc2 : 2 ≤ c) (hc : c ≤ 9223372036854775807) (h0 : s.size = 0) :
    Calls Tryz.prog 93 #[.string s, .int .i64 c] w fun e w' => e = .returned (.string ⟨#[]⟩) ∧ w' = w := Any.strings_Repeat_empty Tryz.lays105 s c w hc2 hc h0
open Go.RowKit Go.Lib in
/-- count < 0: "It panics if count is negative". (LAID: no walk: one application.) -/
theorem Tryz.strings_Repeat_negative (s : ByteArray) (c : Int) (w : World) (hc : c < 0) :
    Calls Tryz.prog 93 #[.string s, .int .i64 c] w fun e w' => e = .panicked [{ v := repeatPanic Tryz.lays105_ren "strings: negative Repeat count", recovered := false }] ∧ w' = w := Any.strings_Repeat_negative Tryz.lays105 s c w hc
open Go.RowKit Go.Lib in
/-- len(s) * count is no int: ".. or if the result of (len(s) * count) overflows". (LAID: no walk: one application.) -/
theorem Tryz.strings_Repeat_overflow (s : ByteArray) (c : Nat) (w : World) (hc : c ≤ 9223372036854775807) (hs : s.size ≤ 9223372036854775807) (hbig : 9223372036854775807 < s.size * c) :
    Calls Tryz.prog 93 #[.string s, .int .i64 c] w fun e w' => e = .panicked [{ v := repeatPanic Tryz.lays105_ren "strings: Repeat output length overflow", recovered := false }] ∧ w' = w := Any.strings_Repeat_overflow Tryz.lays105 s c w hc hs hbig
open Go.RowKit Go.Lib in
/-- **strings.Repeat: count ≥ 0, the result within one allocation: count copies of s.** (LAID: no walk: one application.) -/
theorem Tryz.strings_Repeat (s : ByteArray) (c : Nat) (w : World) (hc : c ≤ 9223372036854775807) (hlen : s.size * c ≤ 140737488355328) :
    Calls Tryz.prog 93 #[.string s, .int .i64 c] w fun e w' => e = .returned (.string ⟨(Lib.repeatL s.data.toList c).toArray⟩) ∧ Below w.heap.size w w' := Any.strings_Repeat Tryz.lays105 Tryz.Builder_Extra_105 s c w hc hlen
def Tryz.lays311_ren : Go.Shelf.Ren := ⟨fun | 311 => 236 | n => n, fun | 193 => 308 | 49 => 312 | 4 => 4 | 3 => 3 | 0 => 0 | 226 => 328 | 198 => 314 | 46 => 192 | n => n, fun | n => n⟩
theorem Tryz.lays311 : Go.Proofs.Lays.n311 Tryz.prog Tryz.lays311_ren := {
  mixed := by kernel_rfl
  f311 := Tryz.func236.trans (congrArg some (by kernel_rfl))
  t0 := Tryz.underlying0
  a0 := Tryz.isAgg0
  z0 := Tryz.sizeOf0
  v0 := Tryz.zeroValue0
  t3 := Tryz.underlying3
  a3 := Tryz.isAgg3
  z3 := Tryz.sizeOf3
  v3 := Tryz.zeroValue3
  t4 := Tryz.underlying4
  a4 := Tryz.isAgg4
  z4 := Tryz.sizeOf4
  v4 := Tryz.zeroValue4
  t46 := Tryz.underlying192
  a46 := Tryz.isAgg192
  z46 := Tryz.sizeOf192
  v46 := Tryz.zeroValue192
  t49 := Tryz.underlying312
  a49 := Tryz.isAgg312
  z49 := Tryz.sizeOf312
  v49 := Tryz.zeroValue312
  t193 := Tryz.underlying308
  a193 := Tryz.isAgg308
  z193 := Tryz.sizeOf308
  v193 := Tryz.zeroValue308
  t198 := Tryz.underlying314
  a198 := Tryz.isAgg314
  z198 := Tryz.sizeOf314
  v198 := Tryz.zeroValue314
  t226 := Tryz.underlying328
  a226 := Tryz.isAgg328
  z226 := Tryz.sizeOf328
  v226 := Tryz.zeroValue328 }
open Go.RowKit Go.Lib in
theorem Tryz.unicode_is16_white (R oR : Nat) (z : Nat) (w : World) (hz : z < 65536) (hz0 : 255 < z) (c6 : w.cell? ⟨R, oR + 6, none⟩ = some (.int .u16 160)) (c7 : w.cell? ⟨R, oR + 7, none⟩ = some (.int .u16 5760)) (c8 : w.cell? ⟨R, oR + 8, none⟩ = some (.int .u16 5600)) (c9 : w.cell? ⟨R, oR + 9, none⟩ = some (.int .u16 8192)) (c10 : w.cell? ⟨R, oR + 10, none⟩ = some (.int .u16 8202)) (c11 : w.cell? ⟨R, oR + 11, none⟩ = some (.int .u16 1)) (c12 : w.cell? ⟨R, oR + 12, none⟩ = some (.int .u16 8232)) (c13 : w.cell? ⟨R, oR + 13, none⟩ = some (.int .u16 8233)) (c14 : w.cell? ⟨R, oR + 14, none⟩ = some (.int .u16 1)) (c15 : w.cell? ⟨R, oR + 15, none⟩ = some (.int .u16 8239)) (c16 : w.cell? ⟨R, oR + 16, none⟩ = some (.int .u16 8287)) (c17 : w.cell? ⟨R, oR + 17, none⟩ = some (.int .u16 48)) (c18 : w.cell? ⟨R, oR + 18, none⟩ = some (.int .u16 12288)) (c19 : w.cell? ⟨R, oR + 19, none⟩ = some (.int .u16 12288)) (c20 : w.cell? ⟨R, oR + 20, none⟩ = some (.int .u16 1)) :
    Calls Tryz.prog 236 #[.slice (some ⟨R, oR + 6, none⟩) 5 5, .int .u16 z] w fun e w' => e = .returned (.bool (Lib.isSpaceR z)) ∧ Below w.heap.size w w' := Any.unicode_is16_white Tryz.lays311 R oR z w hz hz0 c6 c7 c8 c9 c10 c11 c12 c13 c14 c15 c16 c17 c18 c19 c20
def Tryz.lays261_ren : Go.Shelf.Ren := ⟨fun | 261 => 228 | 311 => 236 | 312 => 237 | n => n, fun | 141 => 290 | 21 => 21 | 4 => 4 | 0 => 0 | 196 => 311 | 193 => 308 | 3 => 3 | 51 => 197 | 198 => 314 | 49 => 312 | 194 => 309 | 201 => 317 | 226 => 328 | 46 => 192 | 227 => 329 | n => n, fun | n => n⟩
theorem Tryz.lays261 : Go.Proofs.Lays.n261 Tryz.prog Tryz.lays261_ren := {
  mixed := by kernel_rfl
  f261 := Tryz.func228.trans (congrArg some (by kernel_rfl))
  f311 := Tryz.func236.trans (congrArg some (by kernel_rfl))
  f312 := Tryz.func237.trans (congrArg some (by kernel_rfl))
  t0 := Tryz.underlying0
  a0 := Tryz.isAgg0
  z0 := Tryz.sizeOf0
  v0 := Tryz.zeroValue0
  t3 := Tryz.underlying3
  a3 := Tryz.isAgg3
  z3 := Tryz.sizeOf3
  v3 := Tryz.zeroValue3
  t4 := Tryz.underlying4
  a4 := Tryz.isAgg4
  z4 := Tryz.sizeOf4
  v4 := Tryz.zeroValue4
  t21 := Tryz.underlying21
  a21 := Tryz.isAgg21
  z21 := Tryz.sizeOf21
  v21 := Tryz.zeroValue21
  t46 := Tryz.underlying192
  a46 := Tryz.isAgg192
  z46 := Tryz.sizeOf192
  v46 := Tryz.zeroValue192
  t49 := Tryz.underlying312
  a49 := Tryz.isAgg312
  z49 := Tryz.sizeOf312
  v49 := Tryz.zeroValue312
  t51 := Tryz.underlying197
  a51 := Tryz.isAgg197
  z51 := Tryz.sizeOf197
  v51 := Tryz.zeroValue197
  t141 := Tryz.underlying290
  a141 := Tryz.isAgg290
  z141 := Tryz.sizeOf290
  v141 := Tryz.zeroValue290
  t193 := Tryz.underlying308
  a193 := Tryz.isAgg308
  z193 := Tryz.sizeOf308
  v193 := Tryz.zeroValue308
  t194 := Tryz.underlying309
  a194 := Tryz.isAgg309
  z194 := Tryz.sizeOf309
  v194 := Tryz.zeroValue309
  t196 := Tryz.underlying311
  a196 := Tryz.isAgg311
  z196 := Tryz.sizeOf311
  v196 := Tryz.zeroValue311
  t198 := Tryz.underlying314
  a198 := Tryz.isAgg314
  z198 := Tryz.sizeOf314
  v198 := Tryz.zeroValue314
  t201 := Tryz.underlying317
  a201 := Tryz.isAgg317
  z201 := Tryz.sizeOf317
  v201 := Tryz.zeroValue317
  t226 := Tryz.underlying328
  a226 := Tryz.isAgg328
  z226 := Tryz.sizeOf328
  v226 := Tryz.zeroValue328
  t227 := Tryz.underlying329
  a227 := Tryz.isAgg329
  z227 := Tryz.sizeOf329
  v227 := Tryz.zeroValue329 }
open Go.RowKit Go.Lib in
/-- unicode.isExcludingLatin(White_Space, r), r beyond U+00FF or negative. (LAID: no walk: one application.) -/
theorem Tryz.unicode_isExcludingLatin_white (T oT R oR : Nat) (r : Int) (w : World) (hlo : -2147483648 ≤ r) (hhi : r ≤ 2147483647) (hr : r < 0 ∨ 255 < r) (h2 : w.cell? ⟨T, oT, none⟩ = some (.slice (some ⟨R, oR, none⟩) 7 7)) (h3 : w.cell? ⟨T, oT + 1, none⟩ = some (.slice none 0 0)) (h4 : w.cell? ⟨T, oT + 2, none⟩ = some (.int .i64 2)) (h5 : ∀ i, i < 21 → w.cell? ⟨R, oR + i, none⟩ = some (.int .u16 (whiteT.getD i 0))) :
    Calls Tryz.prog 228 #[.pointer (some ⟨T, oT, none⟩), .int .i32 r] w fun e w' => e = .returned (.bool (Lib.isSpaceZ r)) ∧ Below w.heap.size w w' := Any.unicode_isExcludingLatin_white Tryz.lays261 T oT R oR r w hlo hhi hr h2 h3 h4 h5
open Go.RowKit Go.Lib in
/-- **unicode.IsSpace AT EVERY int32.** (LAID: no walk: one application.) -/
theorem Tryz.unicode_IsSpace_any (r : Int) (w : World) (hlo : -2147483648 ≤ r) (hhi : r ≤ 2147483647) (hW : Lib.WhiteTab 3 w) :
    Calls Tryz.prog 217 #[.int .i32 r] w fun e w' => e = .returned (.bool (Lib.isSpaceZ r)) ∧ Below w.heap.size w w' := Any.unicode_IsSpace_any Tryz.lays199 r w hlo hhi hW
open Go.RowKit Go.Lib in
theorem Tryz.unicode_is16_white_d (R oR : Nat) (z : Nat) (w : World) (hz : z < 65536) (hz0 : 255 < z) (c6 : w.cell? ⟨R, oR + 6, none⟩ = some (.int .u16 160)) (c7 : w.cell? ⟨R, oR + 7, none⟩ = some (.int .u16 5760)) (c8 : w.cell? ⟨R, oR + 8, none⟩ = some (.int .u16 5600)) (c9 : w.cell? ⟨R, oR + 9, none⟩ = some (.int .u16 8192)) (c10 : w.cell? ⟨R, oR + 10, none⟩ = some (.int .u16 8202)) (c11 : w.cell? ⟨R, oR + 11, none⟩ = some (.int .u16 1)) (c12 : w.cell? ⟨R, oR + 12, none⟩ = some (.int .u16 8232)) (c13 : w.cell? ⟨R, oR + 13, none⟩ = some (.int .u16 8233)) (c14 : w.cell? ⟨R, oR + 14, none⟩ = some (.int .u16 1)) (c15 : w.cell? ⟨R, oR + 15, none⟩ = some (.int .u16 8239)) (c16 : w.cell? ⟨R, oR + 16, none⟩ = some (.int .u16 8287)) (c17 : w.cell? ⟨R, oR + 17, none⟩ = some (.int .u16 48)) (c18 : w.cell? ⟨R, oR + 18, none⟩ = some (.int .u16 12288)) (c19 : w.cell? ⟨R, oR + 19, none⟩ = some (.int .u16 12288)) (c20 : w.cell? ⟨R, oR + 20, none⟩ = some (.int .u16 1)) :
    Calls Tryz.prog 236 #[.slice (some ⟨R, oR + 6, none⟩) 5 5, .int .u16 z] w fun e w' => e = .returned (.bool (Lib.isSpaceR z)) ∧ ∃ q, w' = w.drewN q := Any.unicode_is16_white_d Tryz.lays311 R oR z w hz hz0 c6 c7 c8 c9 c10 c11 c12 c13 c14 c15 c16 c17 c18 c19 c20
open Go.RowKit Go.Lib in
/-- unicode.isExcludingLatin(White_Space, r), r beyond U+00FF or negative. (LAID: no walk: one application.) -/
theorem Tryz.unicode_isExcludingLatin_white_d (T oT R oR : Nat) (r : Int) (w : World) (hlo : -2147483648 ≤ r) (hhi : r ≤ 2147483647) (hr : r < 0 ∨ 255 < r) (h2 : w.cell? ⟨T, oT, none⟩ = some (.slice (some ⟨R, oR, none⟩) 7 7)) (h3 : w.cell? ⟨T, oT + 1, none⟩ = some (.slice none 0 0)) (h4 : w.cell? ⟨T, oT + 2, none⟩ = some (.int .i64 2)) (h5 : ∀ i, i < 21 → w.cell? ⟨R, oR + i, none⟩ = some (.int .u16 (whiteT.getD i 0))) :
    Calls Tryz.prog 228 #[.pointer (some ⟨T, oT, none⟩), .int .i32 r] w fun e w' => e = .returned (.bool (Lib.isSpaceZ r)) ∧ ∃ q, w' = w.drewN q := Any.unicode_isExcludingLatin_white_d Tryz.lays261 T oT R oR r w hlo hhi hr h2 h3 h4 h5
open Go.RowKit Go.Lib in
/-- **unicode.IsSpace AT EVERY int32.** (LAID: no walk: one application.) -/
theorem Tryz.unicode_IsSpace_any_d (r : Int) (w : World) (hlo : -2147483648 ≤ r) (hhi : r ≤ 2147483647) (hW : Lib.WhiteTab 3 w) :
    Calls Tryz.prog 217 #[.int .i32 r] w fun e w' => e = .returned (.bool (Lib.isSpaceZ r)) ∧ ∃ q, w' = w.drewN q := Any.unicode_IsSpace_any_d Tryz.lays199 r w hlo hhi hW
open Go.RowKit Go.Lib in
theorem Tryz.strings_Fields_beyond (s : ByteArray) (w : World) (hs : s.size < 4294967281) (hhigh : ∃ (j : Nat) (b : UInt8), s.data.toList[j]? = some b ∧ 128 ≤ b.toNat) (hT : ∀ c : Nat, c < 256 → w.cell? ⟨2, c, none⟩ = some (.int .u8 (if Lib.isSp (UInt8.ofNat c) then 1 else 0))) (hW : Lib.WhiteTab 3 w) :
    Calls Tryz.prog 204 #[.string s] w fun e w' => ∃ A, e = .returned (.slice (some ⟨A, 0, none⟩) (Lib.goFieldsP Lib.isSpaceR s).length (Lib.goFieldsP Lib.isSpaceR s).length) ∧ w.heap.size ≤ A ∧
      w'.ownsRow w.heap.size 9 1 (.slice (some ⟨A, 0, none⟩) (Lib.goFieldsP Lib.isSpaceR s).length (Lib.goFieldsP Lib.isSpaceR s).length) (Lib.goFieldsP Lib.isSpaceR s).length ((Lib.goFieldsP Lib.isSpaceR s).map Value.string) ∧ Below w.heap.size w w' := Any.strings_Fields_beyond Tryz.lays157 (by kernel_rfl) (by kernel_rfl) s w hs hhigh hT hW
open Go.RowKit Go.Lib in
/-- **strings.Fields AT EVERY STRING, VALID UTF-8 OR NOT.** (LAID: no walk: one application.) -/
theorem Tryz.strings_Fields_any (s : ByteArray) (w : World) (hs : s.size < 4294967281) (htab : Lib.TabIs Tryz.prog w "strings.asciiSpace" .u8 Lib.asciiSpaceTab) (hW : Lib.WhiteTab 3 w) :
    Calls Tryz.prog 204 #[.string s] w fun e w' => ∃ A, e = .returned (.slice (some ⟨A, 0, none⟩) (Lib.fieldsD s.data.toList).length (Lib.fieldsD s.data.toList).length) ∧ w.heap.size ≤ A ∧
      w'.ownsRow w.heap.size 9 1 (.slice (some ⟨A, 0, none⟩) (Lib.fieldsD s.data.toList).length (Lib.fieldsD s.data.toList).length) (Lib.fieldsD s.data.toList).length ((Lib.fieldsD s.data.toList).map fun x => Value.string ⟨x.toArray⟩) ∧ Below w.heap.size w w' := Any.strings_Fields_any Tryz.lays157 (by kernel_rfl) (by kernel_rfl) (by kernel_rfl) s w hs htab hW
def Tryz.lays229_ren : Go.Shelf.Ren := ⟨fun | 229 => 216 | n => n, fun | 9 => 9 | 40 => 185 | 31 => 39 | 152 => 286 | 3 => 3 | 0 => 0 | 4 => 4 | 21 => 21 | 154 => 288 | n => n, fun | n => n⟩
theorem Tryz.lays229 : Go.Proofs.Lays.n229 Tryz.prog Tryz.lays229_ren := {
  mixed := by kernel_rfl
  f229 := Tryz.func216.trans (congrArg some (by kernel_rfl))
  t0 := Tryz.underlying0
  a0 := Tryz.isAgg0
  z0 := Tryz.sizeOf0
  v0 := Tryz.zeroValue0
  t3 := Tryz.underlying3
  a3 := Tryz.isAgg3
  z3 := Tryz.sizeOf3
  v3 := Tryz.zeroValue3
  t4 := Tryz.underlying4
  a4 := Tryz.isAgg4
  z4 := Tryz.sizeOf4
  v4 := Tryz.zeroValue4
  t9 := Tryz.underlying9
  a9 := Tryz.isAgg9
  z9 := Tryz.sizeOf9
  v9 := Tryz.zeroValue9
  t21 := Tryz.underlying21
  a21 := Tryz.isAgg21
  z21 := Tryz.sizeOf21
  v21 := Tryz.zeroValue21
  t31 := Tryz.underlying39
  a31 := Tryz.isAgg39
  z31 := Tryz.sizeOf39
  v31 := Tryz.zeroValue39
  t40 := Tryz.underlying185
  a40 := Tryz.isAgg185
  z40 := Tryz.sizeOf185
  v40 := Tryz.zeroValue185
  t152 := Tryz.underlying286
  a152 := Tryz.isAgg286
  z152 := Tryz.sizeOf286
  v152 := Tryz.zeroValue286
  t154 := Tryz.underlying288
  a154 := Tryz.isAgg288
  z154 := Tryz.sizeOf288
  v154 := Tryz.zeroValue288 }
open Go.RowKit Go.Lib in
theorem Tryz.strings_FieldsFunc_runes (g : Nat) (lb : Array Value) (eg : ∀ args w, (callFunc g args).run Tryz.prog w = .ok (.enter g args) w) (p : Nat → Bool) (s : ByteArray) (w : World) (hs : s.size ≤ 4294967296) (hp : PredAtRunes Tryz.prog g lb p w) :
    Calls Tryz.prog 216 #[.string s, .func (.func g) #[] lb] w fun e w' => ∃ A, e = .returned (.slice (some ⟨A, 0, none⟩) (Lib.goFieldsP p s).length (Lib.goFieldsP p s).length) ∧ w.heap.size ≤ A ∧
      w'.ownsRow w.heap.size 9 1 (.slice (some ⟨A, 0, none⟩) (Lib.goFieldsP p s).length (Lib.goFieldsP p s).length) (Lib.goFieldsP p s).length ((Lib.goFieldsP p s).map Value.string) ∧ Below w.heap.size w w' := Any.strings_FieldsFunc_runes Tryz.lays229 g lb eg p s w hs hp (by kernel_rfl) (by kernel_rfl)
open Go.RowKit Go.Lib in
/-- .. over a hand of the authors' house's premise as it stands. (LAID: no walk: one application.) -/
theorem Tryz.strings_FieldsFunc (g : Nat) (lb : Array Value) (eg : ∀ args w, (callFunc g args).run Tryz.prog w = .ok (.enter g args) w) (p : Nat → Bool) (s : ByteArray) (w : World) (hs : s.size ≤ 4294967296) (hp : PredAt Tryz.prog g lb encR p w) :
    Calls Tryz.prog 216 #[.string s, .func (.func g) #[] lb] w fun e w' => ∃ A, e = .returned (.slice (some ⟨A, 0, none⟩) (Lib.goFieldsP p s).length (Lib.goFieldsP p s).length) ∧ w.heap.size ≤ A ∧
      w'.ownsRow w.heap.size 9 1 (.slice (some ⟨A, 0, none⟩) (Lib.goFieldsP p s).length (Lib.goFieldsP p s).length) (Lib.goFieldsP p s).length ((Lib.goFieldsP p s).map Value.string) ∧ Below w.heap.size w w' := Any.strings_FieldsFunc Tryz.lays229 g lb eg p s w hs hp (by kernel_rfl) (by kernel_rfl)
open Go.RowKit Go.Lib in
theorem Tryz.unicode_is16_any (T : Array Rg) (R oR cap : Nat) (z : Nat) (w : World) (hz : z < 65536) (hT : RgTab .u16 R oR T w) (hok : RgOk 65536 T) (hn : T.size ≤ 1000000000) :
    Calls Tryz.prog 236 #[.slice (some ⟨R, oR, none⟩) T.size cap, .int .u16 z] w fun e w' => e = .returned (.bool (is16Go T z)) ∧ ∃ q, w' = w.drewN q := Any.unicode_is16_any Tryz.lays311 T R oR cap z w hz hT hok hn
def Tryz.lays312_ren : Go.Shelf.Ren := ⟨fun | 312 => 237 | n => n, fun | 194 => 309 | 51 => 197 | 4 => 4 | 3 => 3 | 0 => 0 | 227 => 329 | 201 => 317 | 46 => 192 | n => n, fun | n => n⟩
theorem Tryz.lays312 : Go.Proofs.Lays.n312 Tryz.prog Tryz.lays312_ren := {
  mixed := by kernel_rfl
  f312 := Tryz.func237.trans (congrArg some (by kernel_rfl))
  t0 := Tryz.underlying0
  a0 := Tryz.isAgg0
  z0 := Tryz.sizeOf0
  v0 := Tryz.zeroValue0
  t3 := Tryz.underlying3
  a3 := Tryz.isAgg3
  z3 := Tryz.sizeOf3
  v3 := Tryz.zeroValue3
  t4 := Tryz.underlying4
  a4 := Tryz.isAgg4
  z4 := Tryz.sizeOf4
  v4 := Tryz.zeroValue4
  t46 := Tryz.underlying192
  a46 := Tryz.isAgg192
  z46 := Tryz.sizeOf192
  v46 := Tryz.zeroValue192
  t51 := Tryz.underlying197
  a51 := Tryz.isAgg197
  z51 := Tryz.sizeOf197
  v51 := Tryz.zeroValue197
  t194 := Tryz.underlying309
  a194 := Tryz.isAgg309
  z194 := Tryz.sizeOf309
  v194 := Tryz.zeroValue309
  t201 := Tryz.underlying317
  a201 := Tryz.isAgg317
  z201 := Tryz.sizeOf317
  v201 := Tryz.zeroValue317
  t227 := Tryz.underlying329
  a227 := Tryz.isAgg329
  z227 := Tryz.sizeOf329
  v227 := Tryz.zeroValue329 }
open Go.RowKit Go.Lib in
theorem Tryz.unicode_is32_any (T : Array Rg) (R oR cap : Nat) (z : Nat) (w : World) (hz : z < 4294967296) (hT : RgTab .u32 R oR T w) (hok : RgOk 4294967296 T) (hn : T.size ≤ 1000000000) :
    Calls Tryz.prog 237 #[.slice (some ⟨R, oR, none⟩) T.size cap, .int .u32 z] w fun e w' => e = .returned (.bool (is32Go T z)) ∧ Below w.heap.size w w' := Any.unicode_is32_any Tryz.lays312 T R oR cap z w hz hT hok hn
open Go.RowKit Go.Lib in
theorem Tryz.unicode_isExcludingLatin_any (Tb oT : Nat) (T : RTab) (r : Int) (w : World) (hlo : -2147483648 ≤ r) (hhi : r ≤ 2147483647) (hA : RTabAt Tb oT T w) (hok : RTabOk T) :
    Calls Tryz.prog 228 #[.pointer (some ⟨Tb, oT, none⟩), .int .i32 r] w fun e w' => e = .returned (.bool (exclGo T r)) ∧ Below w.heap.size w w' := Any.unicode_isExcludingLatin_any Tryz.lays261 Tb oT T r w hlo hhi hA hok
def Tryz.lays108_ren : Go.Shelf.Ren := ⟨fun | 108 => 48 | n => n, fun | 28 => 53 | 3 => 3 | 0 => 0 | 4 => 4 | n => n, fun | n => n⟩
theorem Tryz.lays108 : Go.Proofs.Lays.n108 Tryz.prog Tryz.lays108_ren := {
  mixed := by kernel_rfl
  f108 := Tryz.func48.trans (congrArg some (by kernel_rfl))
  t0 := Tryz.underlying0
  a0 := Tryz.isAgg0
  z0 := Tryz.sizeOf0
  v0 := Tryz.zeroValue0
  t3 := Tryz.underlying3
  a3 := Tryz.isAgg3
  z3 := Tryz.sizeOf3
  v3 := Tryz.zeroValue3
  t4 := Tryz.underlying4
  a4 := Tryz.isAgg4
  z4 := Tryz.sizeOf4
  v4 := Tryz.zeroValue4
  t28 := Tryz.underlying53
  a28 := Tryz.isAgg53
  z28 := Tryz.sizeOf53
  v28 := Tryz.zeroValue53 }
open Go.Lib in
/-- slices.Index at []int: "Index returns the index of the first occurrence of v in s, or -1 if not present.": IT RETURNS 'Lib.idxOf (the elements) v'; the world is as it was. 'zs': what the cells behind the slice's address hold (its spare capacity too, if you have it); 'zs.take n': its elements. (LAID: no walk: one application.) -/
theorem Tryz.slices_Index_int (b off n c : Nat) (zs : List Int) (x : Int) (w : World) (hz : n ≤ zs.length) (hbig : n ≤ 9223372036854775807) (hc : ∀ j, j < zs.length → w.cell? ⟨b, off + j, none⟩ = some (.int .i64 (zs.getD j 0))) :
    Calls Tryz.prog 48 #[.slice (some ⟨b, off, none⟩) n c, .int .i64 x] w fun e w' => e = .returned (.int .i64 (Lib.idxOf (zs.take n) x)) ∧ w' = w := Any.slices_Index_int Tryz.lays108 b off n c zs x w hz hbig hc
open Go.Lib in
/-- The same at a slice of length 0, a nil one too: no cell is known, none is asked for. (LAID: no walk: one application.) -/
theorem Tryz.slices_Index_int_empty (a : Option Addr) (c : Nat) (x : Int) (w : World) :
    Calls Tryz.prog 48 #[.slice a 0 c, .int .i64 x] w fun e w' => e = .returned (.int .i64 (Lib.idxOf [] x)) ∧ w' = w := Any.slices_Index_int_empty Tryz.lays108 a c x w
def Tryz.lays109_ren : Go.Shelf.Ren := ⟨fun | 109 => 183 | n => n, fun | 31 => 39 | 9 => 9 | 3 => 3 | 0 => 0 | 4 => 4 | n => n, fun | n => n⟩
theorem Tryz.lays109 : Go.Proofs.Lays.n109 Tryz.prog Tryz.lays109_ren := {
  mixed := by kernel_rfl
  f109 := Tryz.func183.trans (congrArg some (by kernel_rfl))
  t0 := Tryz.underlying0
  a0 := Tryz.isAgg0
  z0 := Tryz.sizeOf0
  v0 := Tryz.zeroValue0
  t3 := Tryz.underlying3
  a3 := Tryz.isAgg3
  z3 := Tryz.sizeOf3
  v3 := Tryz.zeroValue3
  t4 := Tryz.underlying4
  a4 := Tryz.isAgg4
  z4 := Tryz.sizeOf4
  v4 := Tryz.zeroValue4
  t9 := Tryz.underlying9
  a9 := Tryz.isAgg9
  z9 := Tryz.sizeOf9
  v9 := Tryz.zeroValue9
  t31 := Tryz.underlying39
  a31 := Tryz.isAgg39
  z31 := Tryz.sizeOf39
  v31 := Tryz.zeroValue39 }
open Go.Lib in
/-- slices.Index at []string: "Index returns the index of the first occurrence of v in s, or -1 if not present.": IT RETURNS 'Lib.idxOfS (the elements) v'; the world is as it was. 'zs': what the cells behind the slice's address hold (its spare capacity too, if you have it); 'zs.take n': its elements. (LAID: no walk: one application.) -/
theorem Tryz.slices_Index_string (b off n c : Nat) (zs : List ByteArray) (x : ByteArray) (w : World) (hz : n ≤ zs.length) (hbig : n ≤ 9223372036854775807) (hc : ∀ j, j < zs.length → w.cell? ⟨b, off + j, none⟩ = some (.string (zs.getD j ByteArray.empty))) :
    Calls Tryz.prog 183 #[.slice (some ⟨b, off, none⟩) n c, .string x] w fun e w' => e = .returned (.int .i64 (Lib.idxOfS (zs.take n) x)) ∧ w' = w := Any.slices_Index_string Tryz.lays109 b off n c zs x w hz hbig hc
open Go.Lib in
/-- The same at a slice of length 0, a nil one too: no cell is known, none is asked for. (LAID: no walk: one application.) -/
theorem Tryz.slices_Index_string_empty (a : Option Addr) (c : Nat) (x : ByteArray) (w : World) :
    Calls Tryz.prog 183 #[.slice a 0 c, .string x] w fun e w' => e = .returned (.int .i64 (Lib.idxOfS [] x)) ∧ w' = w := Any.slices_Index_string_empty Tryz.lays109 a c x w
def Tryz.lays110_ren : Go.Shelf.Ren := ⟨fun | 110 => 157 | 109 => 183 | n => n, fun | 31 => 39 | 9 => 9 | 4 => 4 | 3 => 3 | 0 => 0 | n => n, fun | n => n⟩
theorem Tryz.lays110 : Go.Proofs.Lays.n110 Tryz.prog Tryz.lays110_ren := {
  mixed := by kernel_rfl
  f109 := Tryz.func183.trans (congrArg some (by kernel_rfl))
  f110 := Tryz.func157.trans (congrArg some (by kernel_rfl))
  t0 := Tryz.underlying0
  a0 := Tryz.isAgg0
  z0 := Tryz.sizeOf0
  v0 := Tryz.zeroValue0
  t3 := Tryz.underlying3
  a3 := Tryz.isAgg3
  z3 := Tryz.sizeOf3
  v3 := Tryz.zeroValue3
  t4 := Tryz.underlying4
  a4 := Tryz.isAgg4
  z4 := Tryz.sizeOf4
  v4 := Tryz.zeroValue4
  t9 := Tryz.underlying9
  a9 := Tryz.isAgg9
  z9 := Tryz.sizeOf9
  v9 := Tryz.zeroValue9
  t31 := Tryz.underlying39
  a31 := Tryz.isAgg39
  z31 := Tryz.sizeOf39
  v31 := Tryz.zeroValue39 }
open Go.Lib in
/-- slices.Contains at []string: "Contains reports whether v is present in s.": IT RETURNS 'Lib.containsS (the elements) v', which is true just where v is among them ('Lib.containsS_iff'); the world is as it was. ITS CALLEE slices.Index IS MET BY ITS OWN CONTRACT OFF THE SHELF (lay that first): no loop is walked here. (LAID: no walk: one application.) -/
theorem Tryz.slices_Contains_string (b off n c : Nat) (zs : List ByteArray) (x : ByteArray) (w : World) (hz : n ≤ zs.length) (hbig : n ≤ 9223372036854775807) (hc : ∀ j, j < zs.length → w.cell? ⟨b, off + j, none⟩ = some (.string (zs.getD j ByteArray.empty))) :
    Calls Tryz.prog 157 #[.slice (some ⟨b, off, none⟩) n c, .string x] w fun e w' => e = .returned (.bool (Lib.containsS (zs.take n) x)) ∧ w' = w := Any.slices_Contains_string Tryz.lays110 b off n c zs x w hz hbig hc
open Go.Lib in
/-- The same at a slice of length 0, a nil one too. (LAID: no walk: one application.) -/
theorem Tryz.slices_Contains_string_empty (a : Option Addr) (c : Nat) (x : ByteArray) (w : World) :
    Calls Tryz.prog 157 #[.slice a 0 c, .string x] w fun e w' => e = .returned (.bool false) ∧ w' = w := Any.slices_Contains_string_empty Tryz.lays110 a c x w
def Tryz.lays112_ren : Go.Shelf.Ren := ⟨fun | 112 => 170 | n => n, fun | 28 => 53 | 3 => 3 | 4 => 4 | 0 => 0 | n => n, fun | n => n⟩
theorem Tryz.lays112 : Go.Proofs.Lays.n112 Tryz.prog Tryz.lays112_ren := {
  mixed := by kernel_rfl
  f112 := Tryz.func170.trans (congrArg some (by kernel_rfl))
  t0 := Tryz.underlying0
  a0 := Tryz.isAgg0
  z0 := Tryz.sizeOf0
  v0 := Tryz.zeroValue0
  t3 := Tryz.underlying3
  a3 := Tryz.isAgg3
  z3 := Tryz.sizeOf3
  v3 := Tryz.zeroValue3
  t4 := Tryz.underlying4
  a4 := Tryz.isAgg4
  z4 := Tryz.sizeOf4
  v4 := Tryz.zeroValue4
  t28 := Tryz.underlying53
  a28 := Tryz.isAgg53
  z28 := Tryz.sizeOf53
  v28 := Tryz.zeroValue53 }
open Go.RowKit Go.Lib Go.Sort in
/-- slices.Reverse at []int, over an array: Go's loop from the two ends inward is walked; it makes 'Sort.reverseLoop 0 (len - 1)', which is 'Array.reverse' (Derived/Lib/SlicesMore.lean). (LAID: no walk: one application.) -/
theorem Tryz.slices_Reverse_int_arr (blk off cap : Nat) (d : Array Int) (w : World) (hH : Holds encI w blk off d) (hsz : d.size ≤ 9223372036854775807) :
    Calls Tryz.prog 170 #[.slice (some ⟨blk, off, none⟩) d.size cap] w fun e w' => e = .returned (.tuple #[]) ∧ ∃ n, w' = putRow encI (Sort.ahead w n) blk off d.reverse := Any.slices_Reverse_int_arr Tryz.lays112 blk off cap d w hH hsz
open Go.RowKit Go.Lib Go.Sort in
/-- slices.Reverse at []int: "Reverse reverses the elements of the slice in place.": THE SLICE's CELLS HOLD 'zs.reverse' BEHIND THE CALL; all else is as it was, but for the count of draws (the exchange 's[i], s[j] = s[j], s[i]' draws its order, once a round). IN THE WORDS OF slices.Sort's CONTRACT: 'Holds': the cells hold zs and none is frozen; 'putRow': the world with those cells holding another array. A slice of length 0 that is not nil is among them ('zs = []'); nil: '.._nil'. (LAID: no walk: one application.) -/
theorem Tryz.slices_Reverse_int (blk off cap : Nat) (zs : List Int) (w : World) (hH : Holds (Value.int .i64) w blk off zs.toArray) (hsz : zs.length ≤ 9223372036854775807) :
    Calls Tryz.prog 170 #[.slice (some ⟨blk, off, none⟩) zs.length cap] w fun e w' => e = .returned (.tuple #[]) ∧ ∃ n, w' = putRow (Value.int .i64) (Sort.ahead w n) blk off zs.reverse.toArray := Any.slices_Reverse_int Tryz.lays112 blk off cap zs w hH hsz
open Go.RowKit Go.Lib Go.Sort in
/-- The same at a slice of length 0, a nil one too: nothing is read, nothing written, nothing drawn. (LAID: no walk: one application.) -/
theorem Tryz.slices_Reverse_int_empty (a : Option Addr) (cap : Nat) (w : World) :
    Calls Tryz.prog 170 #[.slice a 0 cap] w fun e w' => e = .returned (.tuple #[]) ∧ w' = w := Any.slices_Reverse_int_empty Tryz.lays112 a cap w
def Tryz.laysNm215_ren : Go.Shelf.Ren := ⟨fun | 15 => 111 | n => n, fun | 22 => 53 | 3 => 3 | 4 => 4 | n => n, fun | n => n⟩
theorem Tryz.laysNm215 : Go.Proofs.Lays2.n15 Tryz.prog Tryz.laysNm215_ren := {
  mixed := by kernel_rfl
  f15 := Tryz.func111.trans (congrArg some (by kernel_rfl))
  t3 := Tryz.underlying3
  a3 := Tryz.isAgg3
  z3 := Tryz.sizeOf3
  v3 := Tryz.zeroValue3
  t4 := Tryz.underlying4
  a4 := Tryz.isAgg4
  z4 := Tryz.sizeOf4
  v4 := Tryz.zeroValue4
  t22 := Tryz.underlying53
  a22 := Tryz.isAgg53
  z22 := Tryz.sizeOf53
  v22 := Tryz.zeroValue53
  i3 := by kernel_rfl }
open Go.RowKit Go.Lib in
/-- slices.Clone at []int: "Clone returns a copy of the slice. The elements are copied using assignment, so this is a shallow clone. The result may have additional unused capacity. The result preserves the nilness of s.": OF A SLICE THAT IS NOT nil IT RETURNS A SLICE THAT IS NOT nil, OF THE SAME ELEMENTS, IN MEMORY OF THE CALL's OWN: in the how-to's words (6f): 'w'.ownsRow B e 1 v' n cells': v' begins at the head of a row among the blocks from B on (B: the heap's size at the call), not frozen, whose first cells are the elements · 'Below B w w'': below B all is as it was. The capacity is whatever the run-time gives. 'zs': what the cells behind the slice's address hold; 'zs.take n': its elements. (LAID: no walk: one application.) -/
theorem Tryz.slices_Clone_int (b off n c : Nat) (zs : List Int) (w : World) (hz : n ≤ zs.length) (hbig : n * 8 ≤ 140737488355328) (hc : ∀ j, j < zs.length → w.cell? ⟨b, off + j, none⟩ = some (.int .i64 (zs.getD j 0))) :
    Calls Tryz.prog 111 #[.slice (some ⟨b, off, none⟩) n c] w fun e w' => ∃ v', e = .returned v' ∧ w'.ownsRow w.heap.size 3 1 v' n ((zs.take n).map (Value.int .i64)) ∧ v' ≠ .slice none 0 0 ∧ Below w.heap.size w w' := Any.slices_Clone_int Tryz.laysNm215 b off n c zs w hz hbig hc
open Go.RowKit Go.Lib in
/-- The same at nil: nil comes back; the world is as it was. (LAID: no walk: one application.) -/
theorem Tryz.slices_Clone_int_nil (n c : Nat) (w : World) :
    Calls Tryz.prog 111 #[.slice none n c] w fun e w' => e = .returned (.slice none 0 0) ∧ w' = w := Any.slices_Clone_int_nil Tryz.laysNm215 n c w
open Go.RowKit Go.Lib in
/-- The same at a slice of length 0 that is not nil, WHATEVER ITS ADDRESS (no cell is asked for): a slice that is not nil and owns nothing comes back. (LAID: no walk: one application.) -/
theorem Tryz.slices_Clone_int_zero (a : Addr) (c : Nat) (w : World) :
    Calls Tryz.prog 111 #[.slice (some a) 0 c] w fun e w' => ∃ v', e = .returned v' ∧ w'.ownsRow w.heap.size 3 1 v' 0 [] ∧ v' ≠ .slice none 0 0 ∧ Below w.heap.size w w' := Any.slices_Clone_int_zero Tryz.laysNm215 a c w
def Tryz.laysNm223_ren : Go.Shelf.Ren := ⟨fun | 23 => 89 | n => n, fun | 22 => 53 | 3 => 3 | 4 => 4 | 0 => 0 | n => n, fun | n => n⟩
theorem Tryz.laysNm223 : Go.Proofs.Lays2.n23 Tryz.prog Tryz.laysNm223_ren := {
  mixed := by kernel_rfl
  f23 := Tryz.func89.trans (congrArg some (by kernel_rfl))
  t0 := Tryz.underlying0
  a0 := Tryz.isAgg0
  z0 := Tryz.sizeOf0
  v0 := Tryz.zeroValue0
  t3 := Tryz.underlying3
  a3 := Tryz.isAgg3
  z3 := Tryz.sizeOf3
  v3 := Tryz.zeroValue3
  t4 := Tryz.underlying4
  a4 := Tryz.isAgg4
  z4 := Tryz.sizeOf4
  v4 := Tryz.zeroValue4
  t22 := Tryz.underlying53
  a22 := Tryz.isAgg53
  z22 := Tryz.sizeOf53
  v22 := Tryz.zeroValue53
  i3 := by kernel_rfl }
open Go.RowKit Go.Lib Go.Sort in
/-- slices.Delete at []int, over an array. (LAID: no walk: one application.) -/
theorem Tryz.slices_Delete_int_arr (blk off cap i j : Nat) (d : Array Int) (w : World) (hH : Holds encI w blk off d) (hcap : d.size ≤ cap) (hm : cap ≤ 9223372036854775807) (hij : i ≤ j) (hj : j ≤ d.size) :
    Calls Tryz.prog 89 #[.slice (some ⟨blk, off, none⟩) d.size cap, .int .i64 i, .int .i64 j] w fun e w' => e = .returned (.slice (some ⟨blk, off, none⟩) (d.size - (j - i)) cap) ∧ ∃ q, w' = putRow encI (Sort.ahead w q) blk off (d.toList.take i ++ d.toList.drop j ++ List.replicate (j - i) 0).toArray := Any.slices_Delete_int_arr Tryz.laysNm223 blk off cap i j d w hH hcap hm hij hj
open Go.RowKit Go.Lib Go.Sort in
/-- slices.Delete at []int: "Delete modifies s in place by removing the elements s[i:j], and returns the modified slice. Delete panics if j > len(s) or s[i:j] is not a valid slice of s. Delete is O(len(s)-i), so if many items must be deleted, it is better to make a single call deleting them all together than to delete one at a time. Delete zeroes the elements s[len(s)-(j-i):len(s)]. If the result is empty, it has the same nilness as s.": FOR i ≤ j ≤ len(s) IT RETURNS THE SLICE CUT TO len(s) - (j - i) ELEMENTS; ITS CELLS HOLD what stood ahead of i, what stood from j on, then j - i zero values; all else is as it was, but for the count of draws. IN THE WORDS OF slices.Sort's CONTRACT ('Holds', 'putRow'). It asks 'zs.length ≤ cap ≤ 2^63 - 1' (every slice's). (Outside i ≤ j ≤ len(s) it panics: no contract here.) (LAID: no walk: one application.) -/
theorem Tryz.slices_Delete_int (blk off cap i j : Nat) (zs : List Int) (w : World) (hH : Holds (Value.int .i64) w blk off zs.toArray) (hcap : zs.length ≤ cap) (hm : cap ≤ 9223372036854775807) (hij : i ≤ j) (hj : j ≤ zs.length) :
    Calls Tryz.prog 89 #[.slice (some ⟨blk, off, none⟩) zs.length cap, .int .i64 i, .int .i64 j] w fun e w' => e = .returned (.slice (some ⟨blk, off, none⟩) (zs.length - (j - i)) cap) ∧ ∃ q, w' = putRow (Value.int .i64) (Sort.ahead w q) blk off (zs.take i ++ zs.drop j ++ List.replicate (j - i) 0).toArray := Any.slices_Delete_int Tryz.laysNm223 blk off cap i j zs w hH hcap hm hij hj
open Go.RowKit Go.Lib Go.Sort in
/-- slices.Reverse at []int, of an argument: the n cells hold the elements in reverse. (LAID: no walk: one application.) -/
theorem Tryz.slices_Reverse_int_cells (b off n c : Nat) (zs : List Int) (w : World) (hz : n ≤ zs.length) (hbig : n ≤ 9223372036854775807) (hc : ∀ j, j < zs.length → w.cell? ⟨b, off + j, none⟩ = some (.int .i64 (zs.getD j 0))) (hf : ∀ j, j < n → w.frozen? ⟨b, off + j, none⟩ = false) :
    Calls Tryz.prog 170 #[.slice (some ⟨b, off, none⟩) n c] w fun e w' => e = .returned (.tuple #[]) ∧ ∃ q, w' = (w.drewN q).setCells b off ((zs.take n).reverse.map (Value.int .i64)) := Any.slices_Reverse_int_cells Tryz.lays112 b off n c zs w hz hbig hc hf
open Go.RowKit Go.Lib Go.Sort in
/-- slices.Delete at []int, of an argument, for i ≤ j ≤ n: the slice cut to n - (j - i) elements; the n cells hold what stood ahead of i, what stood from j on, then zeros. (LAID: no walk: one application.) -/
theorem Tryz.slices_Delete_int_cells (b off n c i j : Nat) (zs : List Int) (w : World) (hz : n ≤ zs.length) (hcap : n ≤ c) (hm : c ≤ 9223372036854775807) (hij : i ≤ j) (hj : j ≤ n) (hc : ∀ j, j < zs.length → w.cell? ⟨b, off + j, none⟩ = some (.int .i64 (zs.getD j 0))) (hf : ∀ j, j < n → w.frozen? ⟨b, off + j, none⟩ = false) :
    Calls Tryz.prog 89 #[.slice (some ⟨b, off, none⟩) n c, .int .i64 i, .int .i64 j] w fun e w' => e = .returned (.slice (some ⟨b, off, none⟩) (n - (j - i)) c) ∧ ∃ q, w' = (w.drewN q).setCells b off (((zs.take n).take i ++ (zs.take n).drop j ++ List.replicate (j - i) 0).map (Value.int .i64)) := Any.slices_Delete_int_cells Tryz.laysNm223 b off n c i j zs w hz hcap hm hij hj hc hf
open Go.RowKit Go.Lib in
/-- slices.Delete at []int of no element ('Delete(s, 0, 0)'): s comes back; the world is as it was. (LAID: no walk: one application.) -/
theorem Tryz.slices_Delete_int_empty (a : Option Addr) (c : Nat) (w : World) :
    Calls Tryz.prog 89 #[.slice a 0 c, .int .i64 0, .int .i64 0] w fun e w' => e = .returned (.slice a 0 c) ∧ w' = w := Any.slices_Delete_int_empty Tryz.laysNm223 a c w
def Tryz.laysSlE041_f111_ren : Go.Shelf.Ren := ⟨fun | 41 => 111 | n => n, fun | 22 => 53 | 23 => 3 | 4 => 4 | n => n, fun | n => n⟩
theorem Tryz.laysSlE041_f111 : Go.Proofs.SlLaysE0.n41 Tryz.prog Tryz.laysSlE041_f111_ren := {
  mixed := by kernel_rfl
  f41 := ⟨Tryz.f111.name, by decide, Tryz.func111.trans (congrArg some (by kernel_rfl))⟩
  t4 := Tryz.underlying4
  a4 := Tryz.isAgg4
  z4 := Tryz.sizeOf4
  v4 := Tryz.zeroValue4
  t22 := Tryz.underlying53
  a22 := Tryz.isAgg53
  z22 := Tryz.sizeOf53
  v22 := Tryz.zeroValue53 }
open Go.RowKit Go.Lib in
/-- slices.Clone: "Clone returns a copy of the slice. The elements are copied using assignment, so this is a shallow clone. The result may have additional unused capacity. The result preserves the nilness of s.": OF A SLICE THAT IS NOT nil IT RETURNS A SLICE THAT IS NOT nil, OF THE SAME CELLS, IN MEMORY OF THE CALL's OWN ('ownsRow': the how-to's 6f); below the heap's size at the call all is as it was. (LAID AT THE INSTANCE 'slices.Clone[[]int,int]': no walk: one application.) -/
theorem Tryz.slices_Clone (i0 : TypeInfo) (z : Value) (size bytes : Nat) (hi : Tryz.prog.info? 3 = some i0) (hz0 : i0.zero = some z) (hz1 : i0.size = size) (hz2 : i0.bytes = bytes) (hzs : z.cells.size = size) (hsz : 0 < size) (z23 : ∀ w, (Go.sizeOf 3).run Tryz.prog w = .ok size w) (b off n c : Nat) (news : List Value) (w : World) (hl : news.length = n * size) (hn : n ≤ maxLen) (hbig : n * bytes ≤ 140737488355328) (hc : ∀ j u, news[j]? = some u → w.cell? ⟨b, off + j, none⟩ = some u) (h1 : ∀ u ∈ news, u.oneCell' = true) :
    Calls Tryz.prog 111 #[.slice (some ⟨b, off, none⟩) n c] w fun e w' => ∃ v', e = .returned v' ∧ w'.ownsRow w.heap.size 3 size v' n news ∧ v' ≠ .slice none 0 0 ∧ Below w.heap.size w w' := AnyE.slices_Clone Tryz.laysSlE041_f111 i0 z size bytes hi hz0 hz1 hz2 hzs hsz z23 b off n c news w hl hn hbig hc h1
open Go.RowKit Go.Lib in
/-- The same at nil: nil comes back; the world is as it was; nothing is asked of the element's type. (LAID AT THE INSTANCE 'slices.Clone[[]int,int]': no walk: one application.) -/
theorem Tryz.slices_Clone_nil (n c : Nat) (w : World) :
    Calls Tryz.prog 111 #[.slice none n c] w fun e w' => e = .returned (.slice none 0 0) ∧ w' = w := AnyE.slices_Clone_nil Tryz.laysSlE041_f111 n c w
def Tryz.bren : Go.Shelf.Ren := ⟨fun | 99 => 142 | 105 => 93 | 165 => 143 | 166 => 92 | 167 => 95 | 169 => 51 | 170 => 144 | 206 => 174 | 212 => 141 | 240 => 140 | 241 => 175 | 263 => 172 | 264 => 173 | 276 => 171 | 277 => 198 | n => n, fun | 0 => 0 | 3 => 3 | 4 => 4 | 5 => 5 | 9 => 9 | 20 => 20 | 37 => 110 | 46 => 192 | 51 => 197 | 53 => 219 | 70 => 109 | 72 => 112 | 75 => 147 | 76 => 148 | 80 => 114 | 109 => 193 | 127 => 154 | 146 => 217 | 148 => 220 | 164 => 215 | n => n, fun  | n => n⟩
theorem Tryz.lays240 : Go.Proofs.Lays.n240 Tryz.prog Tryz.bren := {
  mixed := by kernel_rfl
  f240 := Tryz.func140.trans (congrArg some (by kernel_rfl))
  f276 := Tryz.func171.trans (congrArg some (by kernel_rfl))
  t0 := Tryz.underlying0
  a0 := Tryz.isAgg0
  z0 := Tryz.sizeOf0
  v0 := Tryz.zeroValue0
  t4 := Tryz.underlying4
  a4 := Tryz.isAgg4
  z4 := Tryz.sizeOf4
  v4 := Tryz.zeroValue4
  t9 := Tryz.underlying9
  a9 := Tryz.isAgg9
  z9 := Tryz.sizeOf9
  v9 := Tryz.zeroValue9
  t20 := Tryz.underlying20
  a20 := Tryz.isAgg20
  z20 := Tryz.sizeOf20
  v20 := Tryz.zeroValue20
  t70 := Tryz.underlying109
  a70 := Tryz.isAgg109
  z70 := Tryz.sizeOf109
  v70 := Tryz.zeroValue109
  t72 := Tryz.underlying112
  a72 := Tryz.isAgg112
  z72 := Tryz.sizeOf112
  v72 := Tryz.zeroValue112
  t164 := Tryz.underlying215
  a164 := Tryz.isAgg215
  z164 := Tryz.sizeOf215
  v164 := Tryz.zeroValue215 }
theorem Tryz.lays166 : Go.Proofs.Lays.n166 Tryz.prog Tryz.bren := {
  mixed := by kernel_rfl
  f166 := Tryz.func92.trans (congrArg some (by kernel_rfl))
  f240 := Tryz.func140.trans (congrArg some (by kernel_rfl))
  f276 := Tryz.func171.trans (congrArg some (by kernel_rfl))
  t0 := Tryz.underlying0
  a0 := Tryz.isAgg0
  z0 := Tryz.sizeOf0
  v0 := Tryz.zeroValue0
  t3 := Tryz.underlying3
  a3 := Tryz.isAgg3
  z3 := Tryz.sizeOf3
  v3 := Tryz.zeroValue3
  t4 := Tryz.underlying4
  a4 := Tryz.isAgg4
  z4 := Tryz.sizeOf4
  v4 := Tryz.zeroValue4
  t9 := Tryz.underlying9
  a9 := Tryz.isAgg9
  z9 := Tryz.sizeOf9
  v9 := Tryz.zeroValue9
  t20 := Tryz.underlying20
  a20 := Tryz.isAgg20
  z20 := Tryz.sizeOf20
  v20 := Tryz.zeroValue20
  t37 := Tryz.underlying110
  a37 := Tryz.isAgg110
  z37 := Tryz.sizeOf110
  v37 := Tryz.zeroValue110
  t70 := Tryz.underlying109
  a70 := Tryz.isAgg109
  z70 := Tryz.sizeOf109
  v70 := Tryz.zeroValue109
  t72 := Tryz.underlying112
  a72 := Tryz.isAgg112
  z72 := Tryz.sizeOf112
  v72 := Tryz.zeroValue112
  t75 := Tryz.underlying147
  a75 := Tryz.isAgg147
  z75 := Tryz.sizeOf147
  v75 := Tryz.zeroValue147
  t164 := Tryz.underlying215
  a164 := Tryz.isAgg215
  z164 := Tryz.sizeOf215
  v164 := Tryz.zeroValue215 }
theorem Tryz.lays167 : Go.Proofs.Lays.n167 Tryz.prog Tryz.bren := {
  mixed := by kernel_rfl
  f167 := Tryz.func95.trans (congrArg some (by kernel_rfl))
  f240 := Tryz.func140.trans (congrArg some (by kernel_rfl))
  f276 := Tryz.func171.trans (congrArg some (by kernel_rfl))
  t0 := Tryz.underlying0
  a0 := Tryz.isAgg0
  z0 := Tryz.sizeOf0
  v0 := Tryz.zeroValue0
  t4 := Tryz.underlying4
  a4 := Tryz.isAgg4
  z4 := Tryz.sizeOf4
  v4 := Tryz.zeroValue4
  t5 := Tryz.underlying5
  a5 := Tryz.isAgg5
  z5 := Tryz.sizeOf5
  v5 := Tryz.zeroValue5
  t9 := Tryz.underlying9
  a9 := Tryz.isAgg9
  z9 := Tryz.sizeOf9
  v9 := Tryz.zeroValue9
  t20 := Tryz.underlying20
  a20 := Tryz.isAgg20
  z20 := Tryz.sizeOf20
  v20 := Tryz.zeroValue20
  t37 := Tryz.underlying110
  a37 := Tryz.isAgg110
  z37 := Tryz.sizeOf110
  v37 := Tryz.zeroValue110
  t70 := Tryz.underlying109
  a70 := Tryz.isAgg109
  z70 := Tryz.sizeOf109
  v70 := Tryz.zeroValue109
  t72 := Tryz.underlying112
  a72 := Tryz.isAgg112
  z72 := Tryz.sizeOf112
  v72 := Tryz.zeroValue112
  t75 := Tryz.underlying147
  a75 := Tryz.isAgg147
  z75 := Tryz.sizeOf147
  v75 := Tryz.zeroValue147
  t164 := Tryz.underlying215
  a164 := Tryz.isAgg215
  z164 := Tryz.sizeOf215
  v164 := Tryz.zeroValue215 }
theorem Tryz.bextra : Builder.Extra Tryz.prog Tryz.bren := {
  sizeBuilder := by kernel_rfl
  liesBuilder := by kernel_rfl
  t5 := Tryz.underlying5
  a5 := Tryz.isAgg5
  z5 := Tryz.sizeOf5
  v5 := Tryz.zeroValue5
  infoByte := by kernel_rfl
  cellsByte := by kernel_rfl
  sizeByte := by kernel_rfl
  neB5 := by decide }
open Go.RowKit in
theorem Tryz.WriteString (B b : Nat) (bs : List Value) (s : ByteArray) (w : World) (h : Lib.IsBuilderF 112 5 B b bs w) (hlen : bs.length + s.size ≤ 140737488355328) (hBw : B ≤ w.heap.size) :
    Calls Tryz.prog 92 #[.pointer (some ⟨b, 0, none⟩), .string s] w fun e w' => e = .returned (.tuple #[.int .i64 s.size, .nilIface]) ∧ (Lib.BuilderAtF 112 5 B b (.pointer (some ⟨b, 0, none⟩)) (bs ++ Lib.strCells s) w' ∧ Below B w w' ∧ Lib.OthersKept 5 (some b) w w') := Any.Builder_WriteString_k Tryz.lays166 Tryz.bextra B b bs s w h hlen hBw
open Go.RowKit in
theorem Tryz.WriteByte (B b : Nat) (bs : List Value) (c : Int) (w : World) (h : Lib.IsBuilderF 112 5 B b bs w) (hlen : bs.length + 1 ≤ 140737488355328) (hBw : B ≤ w.heap.size) :
    Calls Tryz.prog 95 #[.pointer (some ⟨b, 0, none⟩), .int .u8 c] w fun e w' => e = .returned .nilIface ∧ (Lib.BuilderAtF 112 5 B b (.pointer (some ⟨b, 0, none⟩)) (bs ++ [.int .u8 c]) w' ∧ Below B w w' ∧ Lib.OthersKept 5 (some b) w w') := Any.Builder_WriteByte_k Tryz.lays167 Tryz.bextra B b bs c w h hlen hBw
end Go.Proofs
