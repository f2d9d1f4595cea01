/-
  DERIVED: THE SHELF's CONTRACTS AT THIS DUMP, IN PLAIN WORDS (tools/lay-plain.mjs out of 'TrydShelf.lean', which tools/lay-shelf.mjs wrote): THE SAME DECLARATIONS UNDER THE SAME NAMES: 'import', 'namespace', 'open', 'def', 'theorem' AND NOTHING ELSE: no command of the shelf's: FOR A HAND-IN. Each laying: the table of numbers ('.._ren') and one theorem, a field a fact of the dump's own or the kernel's comparison; each contract: ONE APPLICATION.
-/
import Derived.Shelf.Strings.Builder1
import Derived.Shelf.Strings.Builder2
import Derived.Shelf.Small.Utf8
import Derived.Shelf.Strings.BuilderF
import Derived.Shelf.Strings.BuilderK
import Derived.Shelf.Strings.BuilderRune
import Derived.Shelf.Utf8.AppendRune
import Derived.Shelf.Strings.LastIndex
import Derived.Shelf.Strings.LastIndexAll
import Derived.Shelf.Strings.Fold
import Derived.Shelf.Unicode.Latin
import Derived.Shelf.Unicode.DecodeSlow
import Derived.Shelf.Unicode.DecodeAny
import Derived.Shelf.Unicode.CaseLookup
import Derived.Shelf.Unicode.CaseConvert
import Derived.Shelf.Unicode.CaseTo
import Derived.Shelf.Unicode.CaseLaid
import Derived.Shelf.Unicode.ValidAny
import Derived.Test.YtciejdaifjbjdaaDoorProg
namespace Go.Proofs
open Go.Shelf
def Tryd.lays169_ren : Go.Shelf.Ren := ⟨fun | 169 => 40 | n => n, fun | 70 => 79 | 9 => 9 | 0 => 0 | 72 => 82 | 37 => 80 | 127 => 104 | 3 => 3 | 5 => 5 | n => n, fun | n => n⟩
theorem Tryd.lays169 : Go.Proofs.Lays.n169 Tryd.prog Tryd.lays169_ren := {
  mixed := by kernel_rfl
  f169 := Tryd.func40.trans (congrArg some (by kernel_rfl))
  t0 := Tryd.underlying0
  a0 := Tryd.isAgg0
  z0 := Tryd.sizeOf0
  v0 := Tryd.zeroValue0
  t3 := Tryd.underlying3
  a3 := Tryd.isAgg3
  z3 := Tryd.sizeOf3
  v3 := Tryd.zeroValue3
  t9 := Tryd.underlying9
  a9 := Tryd.isAgg9
  z9 := Tryd.sizeOf9
  v9 := Tryd.zeroValue9
  t37 := Tryd.underlying80
  a37 := Tryd.isAgg80
  z37 := Tryd.sizeOf80
  v37 := Tryd.zeroValue80
  t70 := Tryd.underlying79
  a70 := Tryd.isAgg79
  z70 := Tryd.sizeOf79
  v70 := Tryd.zeroValue79
  t72 := Tryd.underlying82
  a72 := Tryd.isAgg82
  z72 := Tryd.sizeOf82
  v72 := Tryd.zeroValue82
  t127 := Tryd.underlying104
  a127 := Tryd.isAgg104
  z127 := Tryd.sizeOf104
  v127 := Tryd.zeroValue104 }
theorem Tryd.Builder_Extra_169 : Builder.Extra Tryd.prog Tryd.lays169_ren := {
  sizeBuilder := by kernel_rfl
  liesBuilder := by kernel_rfl
  t5 := Tryd.underlying5
  a5 := Tryd.isAgg5
  z5 := Tryd.sizeOf5
  v5 := Tryd.zeroValue5
  infoByte := by kernel_rfl
  cellsByte := by kernel_rfl
  sizeByte := by kernel_rfl
  neB5 := by decide }
open Go.RowKit in
/-- (*strings.Builder).String: "String returns the accumulated string.": OF A BUILDER THAT HOLDS AT LEAST ONE BYTE. ✋ THE MODEL FREEZES THOSE BYTES IN THE BUFFER (unsafe.String): a later write INTO them ends the model's run without an answer; a later append BEHIND them goes on. The statement's order of evaluation is drawn: one draw. (LAID: no walk: one application.) -/
theorem Tryd.Builder_String (B b : Nat) (l : List UInt8) (w : World) (h : Lib.IsBuilder 82 5 B b (Lib.byteCells l) w) (h0 : l ≠ []) :
    Calls Tryd.prog 40 #[.pointer (some ⟨b, 0, none⟩)] w fun e w' => e = .returned (.string ⟨l.toArray⟩) ∧ Below B w w' := Any.Builder_String Tryd.lays169 Tryd.Builder_Extra_169 B b l w h h0
open Go.RowKit in
/-- (*strings.Builder).String OF A BUILDER THAT HOLDS NO BYTE: the empty string. (Its buffer is nil, or a row of which it has taken nothing yet; where that row has NO capacity the model lays one new block for unsafe.SliceData's 'some address'.) One draw. (LAID: no walk: one application.) -/
theorem Tryd.Builder_String_empty (B b : Nat) (w : World) (h : Lib.IsBuilder 82 5 B b [] w) (hBw : B ≤ w.heap.size) :
    Calls Tryd.prog 40 #[.pointer (some ⟨b, 0, none⟩)] w fun e w' => e = .returned (.string ⟨#[]⟩) ∧ Below B w w' := Any.Builder_String_empty Tryd.lays169 Tryd.Builder_Extra_169 B b w h hBw
open Go.RowKit in
/-- (*strings.Builder).String: "String returns the accumulated string.": WHATEVER THE BUILDER HOLDS. (LAID: no walk: one application.) -/
theorem Tryd.Builder_String_any (B b : Nat) (l : List UInt8) (w : World) (h : Lib.IsBuilder 82 5 B b (Lib.byteCells l) w) (hBw : B ≤ w.heap.size) :
    Calls Tryd.prog 40 #[.pointer (some ⟨b, 0, none⟩)] w fun e w' => e = .returned (.string ⟨l.toArray⟩) ∧ Below B w w' := Any.Builder_String_any Tryd.lays169 Tryd.Builder_Extra_169 B b l w h hBw
def Tryd.lays241_ren : Go.Shelf.Ren := ⟨fun | 241 => 82 | 277 => 104 | n => n, fun | 70 => 79 | 3 => 3 | 0 => 0 | 72 => 82 | 37 => 80 | 5 => 5 | n => n, fun | n => n⟩
theorem Tryd.lays241 : Go.Proofs.Lays.n241 Tryd.prog Tryd.lays241_ren := {
  mixed := by kernel_rfl
  f241 := Tryd.func82.trans (congrArg some (by kernel_rfl))
  f277 := Tryd.func104.trans (congrArg some (by kernel_rfl))
  t0 := Tryd.underlying0
  a0 := Tryd.isAgg0
  z0 := Tryd.sizeOf0
  v0 := Tryd.zeroValue0
  t3 := Tryd.underlying3
  a3 := Tryd.isAgg3
  z3 := Tryd.sizeOf3
  v3 := Tryd.zeroValue3
  t37 := Tryd.underlying80
  a37 := Tryd.isAgg80
  z37 := Tryd.sizeOf80
  v37 := Tryd.zeroValue80
  t70 := Tryd.underlying79
  a70 := Tryd.isAgg79
  z70 := Tryd.sizeOf79
  v70 := Tryd.zeroValue79
  t72 := Tryd.underlying82
  a72 := Tryd.isAgg82
  z72 := Tryd.sizeOf82
  v72 := Tryd.zeroValue82 }
theorem Tryd.Builder_Extra_241 : Builder.Extra Tryd.prog Tryd.lays241_ren := {
  sizeBuilder := by kernel_rfl
  liesBuilder := by kernel_rfl
  t5 := Tryd.underlying5
  a5 := Tryd.isAgg5
  z5 := Tryd.sizeOf5
  v5 := Tryd.zeroValue5
  infoByte := by kernel_rfl
  cellsByte := by kernel_rfl
  sizeByte := by kernel_rfl
  neB5 := by decide }
open Go.RowKit in
/-- (*strings.Builder).grow (no doc but "grow copies the buffer to a new, larger buffer so that there are at least n bytes of capacity beyond len(b.buf)."): AT A BUILDER WITHOUT A BUFFER: a new row of whatever bytes for its buffer, none of them its own yet. Three draws. (LAID: no walk: one application.) -/
theorem Tryd.Builder_grow_fresh (B b n : Nat) (w : World) (hB : B ≤ b) (hbk : w.heap[b]? = some (.cells #[.pointer (some ⟨b, 0, none⟩), .slice none 0 0] 82 (0, 0))) (hBw : B ≤ w.heap.size) (hn : n ≤ 281474976710656) :
    Calls Tryd.prog 82 #[.pointer (some ⟨b, 0, none⟩), .int .i64 n] w fun e w' => e = .returned (.tuple #[]) ∧ (Lib.BuilderAt 82 5 B b (.pointer (some ⟨b, 0, none⟩)) [] w' ∧ Below B w w') := Any.Builder_grow_fresh Tryd.lays241 Tryd.Builder_Extra_241 B b n w hB hbk hBw hn
def Tryd.lays165_ren : Go.Shelf.Ren := ⟨fun | 165 => 61 | 240 => 51 | 241 => 82 | 276 => 72 | 277 => 104 | n => n, fun | 70 => 79 | 3 => 3 | 0 => 0 | 4 => 4 | 9 => 9 | 20 => 20 | 72 => 82 | 37 => 80 | 164 => 118 | 5 => 5 | n => n, fun | n => n⟩
theorem Tryd.lays165 : Go.Proofs.Lays.n165 Tryd.prog Tryd.lays165_ren := {
  mixed := by kernel_rfl
  f165 := Tryd.func61.trans (congrArg some (by kernel_rfl))
  f240 := Tryd.func51.trans (congrArg some (by kernel_rfl))
  f241 := Tryd.func82.trans (congrArg some (by kernel_rfl))
  f276 := Tryd.func72.trans (congrArg some (by kernel_rfl))
  f277 := Tryd.func104.trans (congrArg some (by kernel_rfl))
  t0 := Tryd.underlying0
  a0 := Tryd.isAgg0
  z0 := Tryd.sizeOf0
  v0 := Tryd.zeroValue0
  t3 := Tryd.underlying3
  a3 := Tryd.isAgg3
  z3 := Tryd.sizeOf3
  v3 := Tryd.zeroValue3
  t4 := Tryd.underlying4
  a4 := Tryd.isAgg4
  z4 := Tryd.sizeOf4
  v4 := Tryd.zeroValue4
  t9 := Tryd.underlying9
  a9 := Tryd.isAgg9
  z9 := Tryd.sizeOf9
  v9 := Tryd.zeroValue9
  t20 := Tryd.underlying20
  a20 := Tryd.isAgg20
  z20 := Tryd.sizeOf20
  v20 := Tryd.zeroValue20
  t37 := Tryd.underlying80
  a37 := Tryd.isAgg80
  z37 := Tryd.sizeOf80
  v37 := Tryd.zeroValue80
  t70 := Tryd.underlying79
  a70 := Tryd.isAgg79
  z70 := Tryd.sizeOf79
  v70 := Tryd.zeroValue79
  t72 := Tryd.underlying82
  a72 := Tryd.isAgg82
  z72 := Tryd.sizeOf82
  v72 := Tryd.zeroValue82
  t164 := Tryd.underlying118
  a164 := Tryd.isAgg118
  z164 := Tryd.sizeOf118
  v164 := Tryd.zeroValue118 }
theorem Tryd.Builder_Extra_165 : Builder.Extra Tryd.prog Tryd.lays165_ren := {
  sizeBuilder := by kernel_rfl
  liesBuilder := by kernel_rfl
  t5 := Tryd.underlying5
  a5 := Tryd.isAgg5
  z5 := Tryd.sizeOf5
  v5 := Tryd.zeroValue5
  infoByte := by kernel_rfl
  cellsByte := by kernel_rfl
  sizeByte := by kernel_rfl
  neB5 := by decide }
open Go.RowKit in
/-- (*strings.Builder).Grow AT A BUILDER THAT HAS NOT BEEN WRITTEN ('var b strings.Builder; b.Grow(n)'): "Grow grows b's capacity, if necessary, to guarantee space for another n bytes.": it holds no byte behind it as before it. (LAID: no walk: one application.) -/
theorem Tryd.Builder_Grow_fresh (B b n : Nat) (w : World) (hB : B ≤ b) (hbk : w.heap[b]? = some (.cells #[.pointer none, .slice none 0 0] 82 (0, 0))) (hBw : B ≤ w.heap.size) (hn : n ≤ 281474976710656) :
    Calls Tryd.prog 61 #[.pointer (some ⟨b, 0, none⟩), .int .i64 n] w fun e w' => e = .returned (.tuple #[]) ∧ (Lib.BuilderAt 82 5 B b (.pointer (some ⟨b, 0, none⟩)) [] w' ∧ Below B w w') := Any.Builder_Grow_fresh Tryd.lays165 Tryd.Builder_Extra_165 B b n w hB hbk hBw hn
def Tryd.lays118_ren : Go.Shelf.Ren := ⟨fun | 118 => 101 | n => n, fun | 21 => 21 | 3 => 3 | 4 => 4 | n => n, fun | n => n⟩
theorem Tryd.lays118 : Go.Proofs.Lays.n118 Tryd.prog Tryd.lays118_ren := {
  mixed := by kernel_rfl
  f118 := Tryd.func101.trans (congrArg some (by kernel_rfl))
  t3 := Tryd.underlying3
  a3 := Tryd.isAgg3
  z3 := Tryd.sizeOf3
  v3 := Tryd.zeroValue3
  t4 := Tryd.underlying4
  a4 := Tryd.isAgg4
  z4 := Tryd.sizeOf4
  v4 := Tryd.zeroValue4
  t21 := Tryd.underlying21
  a21 := Tryd.isAgg21
  z21 := Tryd.sizeOf21
  v21 := Tryd.zeroValue21 }
/-- utf8.RuneLen: "RuneLen returns the number of bytes in the UTF-8 encoding of the rune. It returns -1 if the rune is not a valid value to encode in UTF-8.": IT RETURNS 'Lib.runeLen r'; the world is as it was. (LAID: no walk: one application.) -/
theorem Tryd.utf8_RuneLen (r : Int) (w : World) :
    Calls Tryd.prog 101 #[.int .i32 r] w fun e w' => e = .returned (.int .i64 (Lib.runeLen r)) ∧ w' = w := Any.utf8_RuneLen Tryd.lays118 r w
open Go.RowKit in
/-- (*strings.Builder).String: "String returns the accumulated string.": OF A BUILDER THAT HOLDS AT LEAST ONE BYTE. ✋ THE MODEL FREEZES THOSE BYTES IN THE BUFFER (unsafe.String): a later write INTO them ends the model's run without an answer; a later append BEHIND them goes on. The statement's order of evaluation is drawn: one draw. THE FORM '_f': IT SAYS BESIDES THAT THE BUILDER IS A BUILDER STILL ('Lib.IsBuilderF', the same bytes): SO IT CAN BE WRITTEN ON: 'b.WriteString(b.String()[:k])'. (LAID: no walk: one application.) -/
theorem Tryd.Builder_String_f (B b : Nat) (l : List UInt8) (w : World) (h : Lib.IsBuilderF 82 5 B b (Lib.byteCells l) w) (h0 : l ≠ []) :
    Calls Tryd.prog 40 #[.pointer (some ⟨b, 0, none⟩)] w fun e w' => e = .returned (.string ⟨l.toArray⟩) ∧ (Lib.IsBuilderF 82 5 B b (Lib.byteCells l) w' ∧ Below B w w') := Any.Builder_String_f Tryd.lays169 Tryd.Builder_Extra_169 B b l w h h0
open Go.RowKit in
/-- (*strings.Builder).String OF A BUILDER THAT HOLDS NO BYTE: the empty string; THE FORM '_f': a builder still. (LAID: no walk: one application.) -/
theorem Tryd.Builder_String_empty_f (B b : Nat) (w : World) (h : Lib.IsBuilderF 82 5 B b [] w) (hBw : B ≤ w.heap.size) :
    Calls Tryd.prog 40 #[.pointer (some ⟨b, 0, none⟩)] w fun e w' => e = .returned (.string ⟨#[]⟩) ∧ (Lib.IsBuilderF 82 5 B b [] w' ∧ Below B w w') := Any.Builder_String_empty_f Tryd.lays169 Tryd.Builder_Extra_169 B b w h hBw
open Go.RowKit in
/-- (*strings.Builder).String: "String returns the accumulated string.": WHATEVER THE BUILDER HOLDS; THE FORM '_f': OF A BUILDER THAT MAY HAVE BEEN READ BEFORE; AND IT IS A BUILDER STILL, holding the same bytes: it can be written on. (LAID: no walk: one application.) -/
theorem Tryd.Builder_String_any_f (B b : Nat) (l : List UInt8) (w : World) (h : Lib.IsBuilderF 82 5 B b (Lib.byteCells l) w) (hBw : B ≤ w.heap.size) :
    Calls Tryd.prog 40 #[.pointer (some ⟨b, 0, none⟩)] w fun e w' => e = .returned (.string ⟨l.toArray⟩) ∧ (Lib.IsBuilderF 82 5 B b (Lib.byteCells l) w' ∧ Below B w w') := Any.Builder_String_any_f Tryd.lays169 Tryd.Builder_Extra_169 B b l w h hBw
open Go.RowKit in
/-- (*strings.Builder).String: "String returns the accumulated string.": OF A BUILDER THAT HOLDS AT LEAST ONE BYTE. ✋ THE MODEL FREEZES THOSE BYTES IN THE BUFFER (unsafe.String): a later write INTO them ends the model's run without an answer; a later append BEHIND them goes on. The statement's order of evaluation is drawn: one draw. THE FORM '_k': OVER 'Lib.IsBuilderF' (a builder that 'String()' may have read), AND WITH THE FRAME THAT REACHES ABOVE THE BUILDER: 'Lib.OthersKept': every block that is not b and is no row of uint8's stands as it stood: the iterator of a range among them. (LAID: no walk: one application.) -/
theorem Tryd.Builder_String_k (B b : Nat) (l : List UInt8) (w : World) (h : Lib.IsBuilderF 82 5 B b (Lib.byteCells l) w) (h0 : l ≠ []) :
    Calls Tryd.prog 40 #[.pointer (some ⟨b, 0, none⟩)] w fun e w' => e = .returned (.string ⟨l.toArray⟩) ∧ (Lib.IsBuilderF 82 5 B b (Lib.byteCells l) w' ∧ Below B w w' ∧ Lib.OthersKept 5 (some b) w w') := Any.Builder_String_k Tryd.lays169 Tryd.Builder_Extra_169 B b l w h h0
open Go.RowKit in
/-- (*strings.Builder).String OF A BUILDER THAT HOLDS NO BYTE: the empty string; THE FORM '_k': OVER 'Lib.IsBuilderF' (a builder that 'String()' may have read), AND WITH THE FRAME THAT REACHES ABOVE THE BUILDER: 'Lib.OthersKept': every block that is not b and is no row of uint8's stands as it stood: the iterator of a range among them. (LAID: no walk: one application.) -/
theorem Tryd.Builder_String_empty_k (B b : Nat) (w : World) (h : Lib.IsBuilderF 82 5 B b [] w) (hBw : B ≤ w.heap.size) :
    Calls Tryd.prog 40 #[.pointer (some ⟨b, 0, none⟩)] w fun e w' => e = .returned (.string ⟨#[]⟩) ∧ (Lib.IsBuilderF 82 5 B b [] w' ∧ Below B w w' ∧ Lib.OthersKept 5 (some b) w w') := Any.Builder_String_empty_k Tryd.lays169 Tryd.Builder_Extra_169 B b w h hBw
open Go.RowKit in
/-- (*strings.Builder).String: "String returns the accumulated string.": WHATEVER THE BUILDER HOLDS; THE FORM '_k': OVER 'Lib.IsBuilderF' (a builder that 'String()' may have read), AND WITH THE FRAME THAT REACHES ABOVE THE BUILDER: 'Lib.OthersKept': every block that is not b and is no row of uint8's stands as it stood: the iterator of a range among them. (LAID: no walk: one application.) -/
theorem Tryd.Builder_String_any_k (B b : Nat) (l : List UInt8) (w : World) (h : Lib.IsBuilderF 82 5 B b (Lib.byteCells l) w) (hBw : B ≤ w.heap.size) :
    Calls Tryd.prog 40 #[.pointer (some ⟨b, 0, none⟩)] w fun e w' => e = .returned (.string ⟨l.toArray⟩) ∧ (Lib.IsBuilderF 82 5 B b (Lib.byteCells l) w' ∧ Below B w w' ∧ Lib.OthersKept 5 (some b) w w') := Any.Builder_String_any_k Tryd.lays169 Tryd.Builder_Extra_169 B b l w h hBw
def Tryd.lays278_ren : Go.Shelf.Ren := ⟨fun | 278 => 88 | n => n, fun | 37 => 80 | 21 => 21 | 51 => 109 | 4 => 4 | 46 => 53 | 5 => 5 | n => n, fun | n => n⟩
theorem Tryd.lays278 : Go.Proofs.Lays.n278 Tryd.prog Tryd.lays278_ren := {
  mixed := by kernel_rfl
  f278 := Tryd.func88.trans (congrArg some (by kernel_rfl))
  t4 := Tryd.underlying4
  a4 := Tryd.isAgg4
  z4 := Tryd.sizeOf4
  v4 := Tryd.zeroValue4
  t5 := Tryd.underlying5
  a5 := Tryd.isAgg5
  z5 := Tryd.sizeOf5
  v5 := Tryd.zeroValue5
  t21 := Tryd.underlying21
  a21 := Tryd.isAgg21
  z21 := Tryd.sizeOf21
  v21 := Tryd.zeroValue21
  t37 := Tryd.underlying80
  a37 := Tryd.isAgg80
  z37 := Tryd.sizeOf80
  v37 := Tryd.zeroValue80
  t46 := Tryd.underlying53
  a46 := Tryd.isAgg53
  z46 := Tryd.sizeOf53
  v46 := Tryd.zeroValue53
  t51 := Tryd.underlying109
  a51 := Tryd.isAgg109
  z51 := Tryd.sizeOf109
  v51 := Tryd.zeroValue109 }
open Go.RowKit in
/-- unicode/utf8.appendRuneNonASCII (what AppendRune calls for all but ASCII), ONTO A ROW OF BYTES THAT THE CALL OWNS: every int32 that is no ASCII rune: 'Lib.runeCells r' goes in behind what the row holds. (LAID: no walk: one application.) -/
theorem Tryd.utf8_appendRuneNonASCII_row (B : Nat) (v : Value) (n : Nat) (xs : List Value) (r : Int) (hr0 : -2147483648 ≤ r) (hr1 : r ≤ 2147483647) (hna : r < 0 ∨ 128 ≤ r) (w : World) (hown : w.ownsRowF B 5 1 v n xs) (hlen : n + 4 ≤ 140737488355328) (hBw : B ≤ w.heap.size) :
    Calls Tryd.prog 88 #[v, .int .i32 r] w fun e w' => ∃ v', e = .returned v' ∧ w'.ownsRowF B 5 1 v' (n + (Lib.runeCells r).length) (xs ++ Lib.runeCells r) ∧ ∃ o, (w.alloc o).grownBy w' v.ownBlock := Any.utf8_appendRuneNonASCII_row Tryd.lays278 (by kernel_rfl) B v n xs r hr0 hr1 hna w hown hlen hBw
def Tryd.lays242_ren : Go.Shelf.Ren := ⟨fun | 242 => 67 | 278 => 88 | n => n, fun | 37 => 80 | 21 => 21 | 51 => 109 | 4 => 4 | 5 => 5 | 46 => 53 | n => n, fun | n => n⟩
theorem Tryd.lays242 : Go.Proofs.Lays.n242 Tryd.prog Tryd.lays242_ren := {
  mixed := by kernel_rfl
  f242 := Tryd.func67.trans (congrArg some (by kernel_rfl))
  f278 := Tryd.func88.trans (congrArg some (by kernel_rfl))
  t4 := Tryd.underlying4
  a4 := Tryd.isAgg4
  z4 := Tryd.sizeOf4
  v4 := Tryd.zeroValue4
  t5 := Tryd.underlying5
  a5 := Tryd.isAgg5
  z5 := Tryd.sizeOf5
  v5 := Tryd.zeroValue5
  t21 := Tryd.underlying21
  a21 := Tryd.isAgg21
  z21 := Tryd.sizeOf21
  v21 := Tryd.zeroValue21
  t37 := Tryd.underlying80
  a37 := Tryd.isAgg80
  z37 := Tryd.sizeOf80
  v37 := Tryd.zeroValue80
  t46 := Tryd.underlying53
  a46 := Tryd.isAgg53
  z46 := Tryd.sizeOf53
  v46 := Tryd.zeroValue53
  t51 := Tryd.underlying109
  a51 := Tryd.isAgg109
  z51 := Tryd.sizeOf109
  v51 := Tryd.zeroValue109 }
open Go.RowKit in
/-- unicode/utf8.AppendRune: "AppendRune appends the UTF-8 encoding of r to the end of p and returns the extended buffer. If the rune is out of range, it appends the encoding of RuneError.": ONTO A ROW OF BYTES THAT THE CALL OWNS (its head frozen or not): EVERY int32: 'Lib.runeCells r' goes in behind what the row holds; the world: one new block (the bytes as the call's variadic argument), then what 'append' does to the row. (LAID: no walk: one application.) -/
theorem Tryd.utf8_AppendRune_row (B : Nat) (v : Value) (n : Nat) (xs : List Value) (r : Int) (hr0 : -2147483648 ≤ r) (hr1 : r ≤ 2147483647) (w : World) (hown : w.ownsRowF B 5 1 v n xs) (hlen : n + 4 ≤ 140737488355328) (hBw : B ≤ w.heap.size) :
    Calls Tryd.prog 67 #[v, .int .i32 r] w fun e w' => ∃ v', e = .returned v' ∧ w'.ownsRowF B 5 1 v' (n + (Lib.runeCells r).length) (xs ++ Lib.runeCells r) ∧ ∃ o, (w.alloc o).grownBy w' v.ownBlock := Any.utf8_AppendRune_row Tryd.lays242 (by kernel_rfl) B v n xs r hr0 hr1 w hown hlen hBw
def Tryd.lays222_ren : Go.Shelf.Ren := ⟨fun | 222 => 43 | n => n, fun | 9 => 9 | 5 => 5 | 3 => 3 | 4 => 4 | n => n, fun | n => n⟩
theorem Tryd.lays222 : Go.Proofs.Lays.n222 Tryd.prog Tryd.lays222_ren := {
  mixed := by kernel_rfl
  f222 := Tryd.func43.trans (congrArg some (by kernel_rfl))
  t3 := Tryd.underlying3
  a3 := Tryd.isAgg3
  z3 := Tryd.sizeOf3
  v3 := Tryd.zeroValue3
  t4 := Tryd.underlying4
  a4 := Tryd.isAgg4
  z4 := Tryd.sizeOf4
  v4 := Tryd.zeroValue4
  t5 := Tryd.underlying5
  a5 := Tryd.isAgg5
  z5 := Tryd.sizeOf5
  v5 := Tryd.zeroValue5
  t9 := Tryd.underlying9
  a9 := Tryd.isAgg9
  z9 := Tryd.sizeOf9
  v9 := Tryd.zeroValue9 }
open Go.RowKit Go.Lib in
/-- internal/bytealg.LastIndexByteString: 'for i := len(s) - 1; i >= 0; i-- { if s[i] == c { return i } }; return -1'. (LAID: no walk: one application.) -/
theorem Tryd.bytealg_LastIndexByteString_nm (s : ByteArray) (c : Int) (hs : s.size < 4611686018427387904) (w : World) :
    Calls Tryd.prog 43 #[.string s, .int .u8 c] w fun e w' => e = .returned (.int .i64 (Lib.lastIndexByte s c)) ∧ w' = w := Any.bytealg_LastIndexByteString_nm Tryd.lays222 s c hs w
def Tryd.lays148_ren : Go.Shelf.Ren := ⟨fun | 148 => 20 | 222 => 43 | 223 => 44 | 269 => 66 | n => n, fun | 9 => 9 | 3 => 3 | 4 => 4 | 5 => 5 | 146 => 110 | 51 => 109 | 46 => 53 | n => n, fun | n => n⟩
theorem Tryd.lays148 : Go.Proofs.Lays.n148 Tryd.prog Tryd.lays148_ren := {
  mixed := by kernel_rfl
  f148 := Tryd.func20.trans (congrArg some (by kernel_rfl))
  f222 := Tryd.func43.trans (congrArg some (by kernel_rfl))
  f223 := Tryd.func44.trans (congrArg some (by kernel_rfl))
  f269 := Tryd.func66.trans (congrArg some (by kernel_rfl))
  t3 := Tryd.underlying3
  a3 := Tryd.isAgg3
  z3 := Tryd.sizeOf3
  v3 := Tryd.zeroValue3
  t4 := Tryd.underlying4
  a4 := Tryd.isAgg4
  z4 := Tryd.sizeOf4
  v4 := Tryd.zeroValue4
  t5 := Tryd.underlying5
  a5 := Tryd.isAgg5
  z5 := Tryd.sizeOf5
  v5 := Tryd.zeroValue5
  t9 := Tryd.underlying9
  a9 := Tryd.isAgg9
  z9 := Tryd.sizeOf9
  v9 := Tryd.zeroValue9
  t46 := Tryd.underlying53
  a46 := Tryd.isAgg53
  z46 := Tryd.sizeOf53
  v46 := Tryd.zeroValue53
  t51 := Tryd.underlying109
  a51 := Tryd.isAgg109
  z51 := Tryd.sizeOf109
  v51 := Tryd.zeroValue109
  t146 := Tryd.underlying110
  a146 := Tryd.isAgg110
  z146 := Tryd.sizeOf110
  v146 := Tryd.zeroValue110 }
open Go.RowKit Go.Lib in
/-- strings.LastIndex AT A substr OF ONE BYTE (as in 'strings.LastIndex(path, "/")'): the last place of that byte, or -1. (LAID: no walk: one application.) -/
theorem Tryd.strings_LastIndex_one (s sub : ByteArray) (h1 : sub.size = 1) (hs : s.size < 4611686018427387904) (w : World) :
    Calls Tryd.prog 20 #[.string s, .string sub] w fun e w' => e = .returned (.int .i64 (Lib.lastIndexByte s ((sub[0]'(by omega)).toNat : Int))) ∧ w' = w := Any.strings_LastIndex_one Tryd.lays148 s sub h1 hs w
open Go.RowKit Go.Lib in
/-- .. AT THE EMPTY substr: len(s). (LAID: no walk: one application.) -/
theorem Tryd.strings_LastIndex_empty (s sub : ByteArray) (h0 : sub.size = 0) (w : World) :
    Calls Tryd.prog 20 #[.string s, .string sub] w fun e w' => e = .returned (.int .i64 s.size) ∧ w' = w := Any.strings_LastIndex_empty Tryd.lays148 s sub h0 w
open Go.RowKit Go.Lib in
/-- .. AT A substr LONGER THAN s (and of two bytes or more): -1. (LAID: no walk: one application.) -/
theorem Tryd.strings_LastIndex_longer (s sub : ByteArray) (h2 : 2 ≤ sub.size) (hl : s.size < sub.size) (w : World) :
    Calls Tryd.prog 20 #[.string s, .string sub] w fun e w' => e = .returned (.int .i64 (-1)) ∧ w' = w := Any.strings_LastIndex_longer Tryd.lays148 s sub h2 hl w
open Go.RowKit Go.Lib in
/-- .. AT A substr AS LONG AS s (and of two bytes or more): 0 where the two are one, else -1. (LAID: no walk: one application.) -/
theorem Tryd.strings_LastIndex_whole (s sub : ByteArray) (h2 : 2 ≤ sub.size) (hl : sub.size = s.size) (w : World) :
    Calls Tryd.prog 20 #[.string s, .string sub] w fun e w' => e = .returned (.int .i64 (if sub = s then 0 else -1)) ∧ w' = w := Any.strings_LastIndex_whole Tryd.lays148 s sub h2 hl w
def Tryd.lays269_ren : Go.Shelf.Ren := ⟨fun | 269 => 66 | n => n, fun | 9 => 9 | 51 => 109 | 3 => 3 | 4 => 4 | 5 => 5 | 46 => 53 | n => n, fun | n => n⟩
theorem Tryd.lays269 : Go.Proofs.Lays.n269 Tryd.prog Tryd.lays269_ren := {
  mixed := by kernel_rfl
  f269 := Tryd.func66.trans (congrArg some (by kernel_rfl))
  t3 := Tryd.underlying3
  a3 := Tryd.isAgg3
  z3 := Tryd.sizeOf3
  v3 := Tryd.zeroValue3
  t4 := Tryd.underlying4
  a4 := Tryd.isAgg4
  z4 := Tryd.sizeOf4
  v4 := Tryd.zeroValue4
  t5 := Tryd.underlying5
  a5 := Tryd.isAgg5
  z5 := Tryd.sizeOf5
  v5 := Tryd.zeroValue5
  t9 := Tryd.underlying9
  a9 := Tryd.isAgg9
  z9 := Tryd.sizeOf9
  v9 := Tryd.zeroValue9
  t46 := Tryd.underlying53
  a46 := Tryd.isAgg53
  z46 := Tryd.sizeOf53
  v46 := Tryd.zeroValue53
  t51 := Tryd.underlying109
  a51 := Tryd.isAgg109
  z51 := Tryd.sizeOf109
  v51 := Tryd.zeroValue109 }
open Go.RowKit Go.Lib in
/-- internal/bytealg.hashStrRev: the hash of sep REVERSED, and primeRK ^ len(sep). (LAID: no walk: one application.) -/
theorem Tryd.bytealg_hashStrRev (sep : ByteArray) (hs : sep.size < 4611686018427387904) (w : World) :
    Calls Tryd.prog 66 #[.string sep] w fun e w' => e = .returned (.tuple #[.int .u32 (RK.H sep.data.toList.reverse % 4294967296), .int .u32 (16777619 ^ sep.size % 4294967296)]) ∧ w' = w := Any.bytealg_hashStrRev Tryd.lays269 sep hs w
def Tryd.lays223_ren : Go.Shelf.Ren := ⟨fun | 223 => 44 | 269 => 66 | n => n, fun | 9 => 9 | 3 => 3 | 146 => 110 | 51 => 109 | 4 => 4 | 5 => 5 | 46 => 53 | n => n, fun | n => n⟩
theorem Tryd.lays223 : Go.Proofs.Lays.n223 Tryd.prog Tryd.lays223_ren := {
  mixed := by kernel_rfl
  f223 := Tryd.func44.trans (congrArg some (by kernel_rfl))
  f269 := Tryd.func66.trans (congrArg some (by kernel_rfl))
  t3 := Tryd.underlying3
  a3 := Tryd.isAgg3
  z3 := Tryd.sizeOf3
  v3 := Tryd.zeroValue3
  t4 := Tryd.underlying4
  a4 := Tryd.isAgg4
  z4 := Tryd.sizeOf4
  v4 := Tryd.zeroValue4
  t5 := Tryd.underlying5
  a5 := Tryd.isAgg5
  z5 := Tryd.sizeOf5
  v5 := Tryd.zeroValue5
  t9 := Tryd.underlying9
  a9 := Tryd.isAgg9
  z9 := Tryd.sizeOf9
  v9 := Tryd.zeroValue9
  t46 := Tryd.underlying53
  a46 := Tryd.isAgg53
  z46 := Tryd.sizeOf53
  v46 := Tryd.zeroValue53
  t51 := Tryd.underlying109
  a51 := Tryd.isAgg109
  z51 := Tryd.sizeOf109
  v51 := Tryd.zeroValue109
  t146 := Tryd.underlying110
  a146 := Tryd.isAgg110
  z146 := Tryd.sizeOf110
  v146 := Tryd.zeroValue110 }
open Go.RowKit Go.Lib in
/-- internal/bytealg.LastIndexRabinKarp: "LastIndexRabinKarp uses the Rabin-Karp search algorithm to return the last index of the occurrence of sep in s, or -1 if not present." (LAID: no walk: one application.) -/
theorem Tryd.bytealg_LastIndexRabinKarp (s sep : ByteArray) (h1 : 1 ≤ sep.size) (h2 : sep.size ≤ s.size) (hs : s.size < 4611686018427387904) (w : World) :
    Calls Tryd.prog 44 #[.string s, .string sep] w fun e w' => e = .returned (.int .i64 (Lib.lastIndex s.data.toList sep.data.toList)) ∧ w' = w := Any.bytealg_LastIndexRabinKarp Tryd.lays223 s sep h1 h2 hs w
open Go.RowKit Go.Lib in
/-- strings.LastIndex WHERE THE HASH IS ASKED: 2 bytes or more, shorter than s. (LAID: no walk: one application.) -/
theorem Tryd.strings_LastIndex_hash (s sub : ByteArray) (h2 : 2 ≤ sub.size) (hl : sub.size < s.size) (hs : s.size < 4611686018427387904) (w : World) :
    Calls Tryd.prog 20 #[.string s, .string sub] w fun e w' => e = .returned (.int .i64 (Lib.lastIndex s.data.toList sub.data.toList)) ∧ w' = w := Any.strings_LastIndex_hash Tryd.lays148 s sub h2 hl hs w
open Go.RowKit Go.Lib in
/-- strings.LastIndex: "LastIndex returns the index of the last instance of substr in s, or -1 if substr is not present in s.": AT A substr OF WHATEVER LENGTH. (LAID: no walk: one application.) -/
theorem Tryd.strings_LastIndex (s sub : ByteArray) (hs : s.size < 4611686018427387904) (w : World) :
    Calls Tryd.prog 20 #[.string s, .string sub] w fun e w' => e = .returned (.int .i64 (Lib.lastIndex s.data.toList sub.data.toList)) ∧ w' = w := Any.strings_LastIndex Tryd.lays148 s sub hs w
def Tryd.lays164_ren : Go.Shelf.Ren := ⟨fun | 164 => 55 | 197 => 77 | 239 => 78 | 260 => 98 | 274 => 99 | 275 => 100 | n => n, fun | 9 => 9 | 4 => 4 | 3 => 3 | 5 => 5 | 0 => 0 | 21 => 21 | 105 => 125 | 156 => 157 | 49 => 156 | 157 => 158 | 46 => 53 | 159 => 160 | 162 => 163 | 160 => 161 | 119 => 49 | 139 => 52 | 138 => 51 | 208 => 191 | 51 => 109 | 206 => 189 | n => n, fun | 11 => 4 | 12 => 5 | 13 => 6 | 3 => 0 | 4 => 1 | n => n⟩
theorem Tryd.lays164 : Go.Proofs.Lays.n164 Tryd.prog Tryd.lays164_ren := {
  mixed := by kernel_rfl
  f164 := Tryd.func55.trans (congrArg some (by kernel_rfl))
  f197 := Tryd.func77.trans (congrArg some (by kernel_rfl))
  f239 := Tryd.func78.trans (congrArg some (by kernel_rfl))
  f260 := Tryd.func98.trans (congrArg some (by kernel_rfl))
  f274 := Tryd.func99.trans (congrArg some (by kernel_rfl))
  f275 := Tryd.func100.trans (congrArg some (by kernel_rfl))
  t0 := Tryd.underlying0
  a0 := Tryd.isAgg0
  z0 := Tryd.sizeOf0
  v0 := Tryd.zeroValue0
  t3 := Tryd.underlying3
  a3 := Tryd.isAgg3
  z3 := Tryd.sizeOf3
  v3 := Tryd.zeroValue3
  t4 := Tryd.underlying4
  a4 := Tryd.isAgg4
  z4 := Tryd.sizeOf4
  v4 := Tryd.zeroValue4
  t5 := Tryd.underlying5
  a5 := Tryd.isAgg5
  z5 := Tryd.sizeOf5
  v5 := Tryd.zeroValue5
  t9 := Tryd.underlying9
  a9 := Tryd.isAgg9
  z9 := Tryd.sizeOf9
  v9 := Tryd.zeroValue9
  t21 := Tryd.underlying21
  a21 := Tryd.isAgg21
  z21 := Tryd.sizeOf21
  v21 := Tryd.zeroValue21
  t46 := Tryd.underlying53
  a46 := Tryd.isAgg53
  z46 := Tryd.sizeOf53
  v46 := Tryd.zeroValue53
  t49 := Tryd.underlying156
  a49 := Tryd.isAgg156
  z49 := Tryd.sizeOf156
  v49 := Tryd.zeroValue156
  t51 := Tryd.underlying109
  a51 := Tryd.isAgg109
  z51 := Tryd.sizeOf109
  v51 := Tryd.zeroValue109
  t105 := Tryd.underlying125
  a105 := Tryd.isAgg125
  z105 := Tryd.sizeOf125
  v105 := Tryd.zeroValue125
  t119 := Tryd.underlying49
  a119 := Tryd.isAgg49
  z119 := Tryd.sizeOf49
  t138 := Tryd.underlying51
  a138 := Tryd.isAgg51
  z138 := Tryd.sizeOf51
  v138 := Tryd.zeroValue51
  t139 := Tryd.underlying52
  a139 := Tryd.isAgg52
  z139 := Tryd.sizeOf52
  v139 := Tryd.zeroValue52
  t156 := Tryd.underlying157
  a156 := Tryd.isAgg157
  z156 := Tryd.sizeOf157
  t157 := Tryd.underlying158
  a157 := Tryd.isAgg158
  z157 := Tryd.sizeOf158
  v157 := Tryd.zeroValue158
  t159 := Tryd.underlying160
  a159 := Tryd.isAgg160
  z159 := Tryd.sizeOf160
  v159 := Tryd.zeroValue160
  t160 := Tryd.underlying161
  a160 := Tryd.isAgg161
  z160 := Tryd.sizeOf161
  v160 := Tryd.zeroValue161
  t162 := Tryd.underlying163
  a162 := Tryd.isAgg163
  z162 := Tryd.sizeOf163
  v162 := Tryd.zeroValue163
  t206 := Tryd.underlying189
  a206 := Tryd.isAgg189
  z206 := Tryd.sizeOf189
  v206 := Tryd.zeroValue189
  t208 := Tryd.underlying191
  a208 := Tryd.isAgg191
  z208 := Tryd.sizeOf191
  v208 := Tryd.zeroValue191
  g3 := by kernel_rfl
  g4 := by kernel_rfl
  g11 := by kernel_rfl
  g12 := by kernel_rfl
  g13 := by kernel_rfl }
open Go.RowKit Go.Lib in
theorem Tryd.strings_EqualFold (s t : ByteArray) (w : World) (hs : s.size < 4294967281) (has : ∀ (j : Nat) b, s.data.toList[j]? = some b → b.toNat < 128) (hat : ∀ (j : Nat) b, t.data.toList[j]? = some b → b.toNat < 128) :
    Calls Tryd.prog 55 #[.string s, .string t] w fun e w' => e = .returned (.bool (Lib.equalFold s.data.toList t.data.toList)) ∧ w' = w := Any.strings_EqualFold Tryd.lays164 s t w hs has hat
def Tryd.lays204_ren : Go.Shelf.Ren := ⟨fun | 204 => 80 | 262 => 103 | 313 => 105 | 274 => 99 | 275 => 100 | n => n, fun | 21 => 21 | 4 => 4 | 3 => 3 | 162 => 163 | 203 => 192 | 160 => 161 | 46 => 53 | 0 => 0 | 208 => 191 | 51 => 109 | 206 => 189 | n => n, fun | 13 => 6 | n => n⟩
theorem Tryd.lays204 : Go.Proofs.Lays.n204 Tryd.prog Tryd.lays204_ren := {
  mixed := by kernel_rfl
  f204 := Tryd.func80.trans (congrArg some (by kernel_rfl))
  f262 := Tryd.func103.trans (congrArg some (by kernel_rfl))
  f274 := Tryd.func99.trans (congrArg some (by kernel_rfl))
  f275 := Tryd.func100.trans (congrArg some (by kernel_rfl))
  f313 := Tryd.func105.trans (congrArg some (by kernel_rfl))
  t0 := Tryd.underlying0
  a0 := Tryd.isAgg0
  z0 := Tryd.sizeOf0
  v0 := Tryd.zeroValue0
  t3 := Tryd.underlying3
  a3 := Tryd.isAgg3
  z3 := Tryd.sizeOf3
  v3 := Tryd.zeroValue3
  t4 := Tryd.underlying4
  a4 := Tryd.isAgg4
  z4 := Tryd.sizeOf4
  v4 := Tryd.zeroValue4
  t21 := Tryd.underlying21
  a21 := Tryd.isAgg21
  z21 := Tryd.sizeOf21
  v21 := Tryd.zeroValue21
  t46 := Tryd.underlying53
  a46 := Tryd.isAgg53
  z46 := Tryd.sizeOf53
  v46 := Tryd.zeroValue53
  t51 := Tryd.underlying109
  a51 := Tryd.isAgg109
  z51 := Tryd.sizeOf109
  v51 := Tryd.zeroValue109
  t160 := Tryd.underlying161
  a160 := Tryd.isAgg161
  z160 := Tryd.sizeOf161
  v160 := Tryd.zeroValue161
  t162 := Tryd.underlying163
  a162 := Tryd.isAgg163
  z162 := Tryd.sizeOf163
  v162 := Tryd.zeroValue163
  t203 := Tryd.underlying192
  a203 := Tryd.isAgg192
  z203 := Tryd.sizeOf192
  v203 := Tryd.zeroValue192
  t206 := Tryd.underlying189
  a206 := Tryd.isAgg189
  z206 := Tryd.sizeOf189
  v206 := Tryd.zeroValue189
  t208 := Tryd.underlying191
  a208 := Tryd.isAgg191
  z208 := Tryd.sizeOf191
  v208 := Tryd.zeroValue191
  g13 := by kernel_rfl }
open Go.RowKit Go.Lib in
theorem Tryd.unicode_ToLower (r : Int) (w : World) (h : r ≤ 127) :
    Calls Tryd.prog 80 #[.int .i32 r] w fun e w' => e = .returned (.int .i32 (Lib.toLowerR r)) ∧ w' = w := Any.unicode_ToLower Tryd.lays204 r w h
def Tryd.lays260_ren : Go.Shelf.Ren := ⟨fun | 260 => 98 | n => n, fun | 9 => 9 | 21 => 21 | 3 => 3 | 4 => 4 | 5 => 5 | 119 => 49 | 0 => 0 | 46 => 53 | 139 => 52 | 138 => 51 | n => n, fun | 3 => 0 | 4 => 1 | n => n⟩
theorem Tryd.lays260 : Go.Proofs.Lays.n260 Tryd.prog Tryd.lays260_ren := {
  mixed := by kernel_rfl
  f260 := Tryd.func98.trans (congrArg some (by kernel_rfl))
  t0 := Tryd.underlying0
  a0 := Tryd.isAgg0
  z0 := Tryd.sizeOf0
  v0 := Tryd.zeroValue0
  t3 := Tryd.underlying3
  a3 := Tryd.isAgg3
  z3 := Tryd.sizeOf3
  v3 := Tryd.zeroValue3
  t4 := Tryd.underlying4
  a4 := Tryd.isAgg4
  z4 := Tryd.sizeOf4
  v4 := Tryd.zeroValue4
  t5 := Tryd.underlying5
  a5 := Tryd.isAgg5
  z5 := Tryd.sizeOf5
  v5 := Tryd.zeroValue5
  t9 := Tryd.underlying9
  a9 := Tryd.isAgg9
  z9 := Tryd.sizeOf9
  v9 := Tryd.zeroValue9
  t21 := Tryd.underlying21
  a21 := Tryd.isAgg21
  z21 := Tryd.sizeOf21
  v21 := Tryd.zeroValue21
  t46 := Tryd.underlying53
  a46 := Tryd.isAgg53
  z46 := Tryd.sizeOf53
  v46 := Tryd.zeroValue53
  t119 := Tryd.underlying49
  a119 := Tryd.isAgg49
  z119 := Tryd.sizeOf49
  t138 := Tryd.underlying51
  a138 := Tryd.isAgg51
  z138 := Tryd.sizeOf51
  v138 := Tryd.zeroValue51
  t139 := Tryd.underlying52
  a139 := Tryd.isAgg52
  z139 := Tryd.sizeOf52
  v139 := Tryd.zeroValue52
  g3 := by kernel_rfl
  g4 := by kernel_rfl }
open Go.RowKit Go.Lib in
theorem Tryd.utf8_decodeRuneInStringSlow (s : ByteArray) (w : World) (hT : Lib.Utf8Tabs 0 1 w) :
    Calls Tryd.prog 98 #[.string s] w fun e w' => e = .returned (.tuple #[.int .i32 (Lib.decodeGo s).1, .int .i64 (Lib.decodeGo s).2]) ∧ Below w.heap.size w w' := Any.utf8_decodeRuneInStringSlow Tryd.lays260 s w hT
def Tryd.lays197_ren : Go.Shelf.Ren := ⟨fun | 197 => 77 | 260 => 98 | n => n, fun | 9 => 9 | 21 => 21 | 3 => 3 | 4 => 4 | 5 => 5 | 105 => 125 | 119 => 49 | 0 => 0 | 46 => 53 | 139 => 52 | 138 => 51 | n => n, fun | 3 => 0 | 4 => 1 | n => n⟩
theorem Tryd.lays197 : Go.Proofs.Lays.n197 Tryd.prog Tryd.lays197_ren := {
  mixed := by kernel_rfl
  f197 := Tryd.func77.trans (congrArg some (by kernel_rfl))
  f260 := Tryd.func98.trans (congrArg some (by kernel_rfl))
  t0 := Tryd.underlying0
  a0 := Tryd.isAgg0
  z0 := Tryd.sizeOf0
  v0 := Tryd.zeroValue0
  t3 := Tryd.underlying3
  a3 := Tryd.isAgg3
  z3 := Tryd.sizeOf3
  v3 := Tryd.zeroValue3
  t4 := Tryd.underlying4
  a4 := Tryd.isAgg4
  z4 := Tryd.sizeOf4
  v4 := Tryd.zeroValue4
  t5 := Tryd.underlying5
  a5 := Tryd.isAgg5
  z5 := Tryd.sizeOf5
  v5 := Tryd.zeroValue5
  t9 := Tryd.underlying9
  a9 := Tryd.isAgg9
  z9 := Tryd.sizeOf9
  v9 := Tryd.zeroValue9
  t21 := Tryd.underlying21
  a21 := Tryd.isAgg21
  z21 := Tryd.sizeOf21
  v21 := Tryd.zeroValue21
  t46 := Tryd.underlying53
  a46 := Tryd.isAgg53
  z46 := Tryd.sizeOf53
  v46 := Tryd.zeroValue53
  t105 := Tryd.underlying125
  a105 := Tryd.isAgg125
  z105 := Tryd.sizeOf125
  v105 := Tryd.zeroValue125
  t119 := Tryd.underlying49
  a119 := Tryd.isAgg49
  z119 := Tryd.sizeOf49
  t138 := Tryd.underlying51
  a138 := Tryd.isAgg51
  z138 := Tryd.sizeOf51
  v138 := Tryd.zeroValue51
  t139 := Tryd.underlying52
  a139 := Tryd.isAgg52
  z139 := Tryd.sizeOf52
  v139 := Tryd.zeroValue52
  g3 := by kernel_rfl
  g4 := by kernel_rfl }
open Go.RowKit Go.Lib in
/-- **unicode/utf8.DecodeRuneInString AT EVERY STRING.** (LAID: no walk: one application.) -/
theorem Tryd.utf8_DecodeRuneInString (s : ByteArray) (w : World) (hT : Lib.Utf8Tabs 0 1 w) :
    Calls Tryd.prog 77 #[.string s] w fun e w' => e = .returned (.tuple #[.int .i32 (Lib.decodeGo s).1, .int .i64 (Lib.decodeGo s).2]) ∧ Below w.heap.size w w' := Any.utf8_DecodeRuneInString Tryd.lays197 s w hT
def Tryd.lays274_ren : Go.Shelf.Ren := ⟨fun | 274 => 99 | n => n, fun | 21 => 21 | 162 => 163 | 160 => 161 | 3 => 3 | 4 => 4 | 46 => 53 | 0 => 0 | 208 => 191 | 51 => 109 | 206 => 189 | n => n, fun | n => n⟩
theorem Tryd.lays274 : Go.Proofs.Lays.n274 Tryd.prog Tryd.lays274_ren := {
  mixed := by kernel_rfl
  f274 := Tryd.func99.trans (congrArg some (by kernel_rfl))
  t0 := Tryd.underlying0
  a0 := Tryd.isAgg0
  z0 := Tryd.sizeOf0
  v0 := Tryd.zeroValue0
  t3 := Tryd.underlying3
  a3 := Tryd.isAgg3
  z3 := Tryd.sizeOf3
  v3 := Tryd.zeroValue3
  t4 := Tryd.underlying4
  a4 := Tryd.isAgg4
  z4 := Tryd.sizeOf4
  v4 := Tryd.zeroValue4
  t21 := Tryd.underlying21
  a21 := Tryd.isAgg21
  z21 := Tryd.sizeOf21
  v21 := Tryd.zeroValue21
  t46 := Tryd.underlying53
  a46 := Tryd.isAgg53
  z46 := Tryd.sizeOf53
  v46 := Tryd.zeroValue53
  t51 := Tryd.underlying109
  a51 := Tryd.isAgg109
  z51 := Tryd.sizeOf109
  v51 := Tryd.zeroValue109
  t160 := Tryd.underlying161
  a160 := Tryd.isAgg161
  z160 := Tryd.sizeOf161
  v160 := Tryd.zeroValue161
  t162 := Tryd.underlying163
  a162 := Tryd.isAgg163
  z162 := Tryd.sizeOf163
  v162 := Tryd.zeroValue163
  t208 := Tryd.underlying191
  a208 := Tryd.isAgg191
  z208 := Tryd.sizeOf191
  v208 := Tryd.zeroValue191 }
open Go.RowKit Go.Lib in
theorem Tryd.unicode_lookupCaseRange (T : Array CaseRow) (R oR cap : Nat) (r : Int) (w : World) (hT : CaseTab R oR T w) (hok : CaseOk T) (hn : T.size ≤ 1000000000) :
    Calls Tryd.prog 99 #[.int .i32 r, .slice (some ⟨R, oR, none⟩) T.size cap] w fun e w' =>
      e = .returned (match lookupIdx T r (T.size + 1) 0 T.size with | some i => .pointer (some ⟨R, oR + i * 5, none⟩) | none => .pointer none) ∧ w' = w := Any.unicode_lookupCaseRange Tryd.lays274 T R oR cap r w hT hok hn
def Tryd.lays275_ren : Go.Shelf.Ren := ⟨fun | 275 => 100 | n => n, fun | 3 => 3 | 21 => 21 | 160 => 161 | 0 => 0 | 208 => 191 | 206 => 189 | 4 => 4 | 51 => 109 | n => n, fun | n => n⟩
theorem Tryd.lays275 : Go.Proofs.Lays.n275 Tryd.prog Tryd.lays275_ren := {
  mixed := by kernel_rfl
  f275 := Tryd.func100.trans (congrArg some (by kernel_rfl))
  t0 := Tryd.underlying0
  a0 := Tryd.isAgg0
  z0 := Tryd.sizeOf0
  v0 := Tryd.zeroValue0
  t3 := Tryd.underlying3
  a3 := Tryd.isAgg3
  z3 := Tryd.sizeOf3
  v3 := Tryd.zeroValue3
  t4 := Tryd.underlying4
  a4 := Tryd.isAgg4
  z4 := Tryd.sizeOf4
  v4 := Tryd.zeroValue4
  t21 := Tryd.underlying21
  a21 := Tryd.isAgg21
  z21 := Tryd.sizeOf21
  v21 := Tryd.zeroValue21
  t51 := Tryd.underlying109
  a51 := Tryd.isAgg109
  z51 := Tryd.sizeOf109
  v51 := Tryd.zeroValue109
  t160 := Tryd.underlying161
  a160 := Tryd.isAgg161
  z160 := Tryd.sizeOf161
  v160 := Tryd.zeroValue161
  t206 := Tryd.underlying189
  a206 := Tryd.isAgg189
  z206 := Tryd.sizeOf189
  v206 := Tryd.zeroValue189
  t208 := Tryd.underlying191
  a208 := Tryd.isAgg191
  z208 := Tryd.sizeOf191
  v208 := Tryd.zeroValue191 }
open Go.RowKit Go.Lib in
theorem Tryd.unicode_convertCase (c : Nat) (hc : c < 3) (r : Int) (A o : Nat) (x : CaseRow) (w : World) (hlo : (x.1 : Int) ≤ r) (hhi : r ≤ (x.2.1 : Int)) (hH : x.2.1 < 2147483647) (c0 : w.cell? ⟨A, o, none⟩ = some (.int .u32 x.1)) (cD : w.cell? ⟨A, o + 2 + c, none⟩ = some (.int .i32 (x.delta c))) :
    Calls Tryd.prog 100 #[.int .i64 c, .int .i32 r, .pointer (some ⟨A, o, none⟩)] w fun e w' => e = .returned (.int .i32 (wrap32 (convertR c r x))) ∧ ∃ q, w' = w.drewN q := Any.unicode_convertCase Tryd.lays275 c hc r A o x w hlo hhi hH c0 cD
def Tryd.lays313_ren : Go.Shelf.Ren := ⟨fun | 313 => 105 | 274 => 99 | 275 => 100 | n => n, fun | 3 => 3 | 21 => 21 | 162 => 163 | 4 => 4 | 160 => 161 | 46 => 53 | 0 => 0 | 208 => 191 | 51 => 109 | 206 => 189 | n => n, fun | n => n⟩
theorem Tryd.lays313 : Go.Proofs.Lays.n313 Tryd.prog Tryd.lays313_ren := {
  mixed := by kernel_rfl
  f274 := Tryd.func99.trans (congrArg some (by kernel_rfl))
  f275 := Tryd.func100.trans (congrArg some (by kernel_rfl))
  f313 := Tryd.func105.trans (congrArg some (by kernel_rfl))
  t0 := Tryd.underlying0
  a0 := Tryd.isAgg0
  z0 := Tryd.sizeOf0
  v0 := Tryd.zeroValue0
  t3 := Tryd.underlying3
  a3 := Tryd.isAgg3
  z3 := Tryd.sizeOf3
  v3 := Tryd.zeroValue3
  t4 := Tryd.underlying4
  a4 := Tryd.isAgg4
  z4 := Tryd.sizeOf4
  v4 := Tryd.zeroValue4
  t21 := Tryd.underlying21
  a21 := Tryd.isAgg21
  z21 := Tryd.sizeOf21
  v21 := Tryd.zeroValue21
  t46 := Tryd.underlying53
  a46 := Tryd.isAgg53
  z46 := Tryd.sizeOf53
  v46 := Tryd.zeroValue53
  t51 := Tryd.underlying109
  a51 := Tryd.isAgg109
  z51 := Tryd.sizeOf109
  v51 := Tryd.zeroValue109
  t160 := Tryd.underlying161
  a160 := Tryd.isAgg161
  z160 := Tryd.sizeOf161
  v160 := Tryd.zeroValue161
  t162 := Tryd.underlying163
  a162 := Tryd.isAgg163
  z162 := Tryd.sizeOf163
  v162 := Tryd.zeroValue163
  t206 := Tryd.underlying189
  a206 := Tryd.isAgg189
  z206 := Tryd.sizeOf189
  v206 := Tryd.zeroValue189
  t208 := Tryd.underlying191
  a208 := Tryd.isAgg191
  z208 := Tryd.sizeOf191
  v208 := Tryd.zeroValue191 }
open Go.RowKit Go.Lib in
theorem Tryd.unicode_to (c : Nat) (hc : c < 3) (r : Int) (T : Array CaseRow) (R oR cap : Nat) (w : World) (hT : CaseTab R oR T w) (hok : CaseOk2 T) (hn : T.size ≤ 1000000000) :
    Calls Tryd.prog 105 #[.int .i64 c, .int .i32 r, .slice (some ⟨R, oR, none⟩) T.size cap] w fun e w' => e = .returned (.tuple #[.int .i32 (toW T c r), .bool (lookupIdx T r (T.size + 1) 0 T.size).isSome]) ∧ ∃ q, w' = w.drewN q := Any.unicode_to Tryd.lays313 c hc r T R oR cap w hT hok hn
def Tryd.lays262_ren : Go.Shelf.Ren := ⟨fun | 262 => 103 | 313 => 105 | 274 => 99 | 275 => 100 | n => n, fun | 3 => 3 | 21 => 21 | 162 => 163 | 203 => 192 | 4 => 4 | 160 => 161 | 46 => 53 | 0 => 0 | 208 => 191 | 51 => 109 | 206 => 189 | n => n, fun | 13 => 6 | n => n⟩
theorem Tryd.lays262 : Go.Proofs.Lays.n262 Tryd.prog Tryd.lays262_ren := {
  mixed := by kernel_rfl
  f262 := Tryd.func103.trans (congrArg some (by kernel_rfl))
  f274 := Tryd.func99.trans (congrArg some (by kernel_rfl))
  f275 := Tryd.func100.trans (congrArg some (by kernel_rfl))
  f313 := Tryd.func105.trans (congrArg some (by kernel_rfl))
  t0 := Tryd.underlying0
  a0 := Tryd.isAgg0
  z0 := Tryd.sizeOf0
  v0 := Tryd.zeroValue0
  t3 := Tryd.underlying3
  a3 := Tryd.isAgg3
  z3 := Tryd.sizeOf3
  v3 := Tryd.zeroValue3
  t4 := Tryd.underlying4
  a4 := Tryd.isAgg4
  z4 := Tryd.sizeOf4
  v4 := Tryd.zeroValue4
  t21 := Tryd.underlying21
  a21 := Tryd.isAgg21
  z21 := Tryd.sizeOf21
  v21 := Tryd.zeroValue21
  t46 := Tryd.underlying53
  a46 := Tryd.isAgg53
  z46 := Tryd.sizeOf53
  v46 := Tryd.zeroValue53
  t51 := Tryd.underlying109
  a51 := Tryd.isAgg109
  z51 := Tryd.sizeOf109
  v51 := Tryd.zeroValue109
  t160 := Tryd.underlying161
  a160 := Tryd.isAgg161
  z160 := Tryd.sizeOf161
  v160 := Tryd.zeroValue161
  t162 := Tryd.underlying163
  a162 := Tryd.isAgg163
  z162 := Tryd.sizeOf163
  v162 := Tryd.zeroValue163
  t203 := Tryd.underlying192
  a203 := Tryd.isAgg192
  z203 := Tryd.sizeOf192
  v203 := Tryd.zeroValue192
  t206 := Tryd.underlying189
  a206 := Tryd.isAgg189
  z206 := Tryd.sizeOf189
  v206 := Tryd.zeroValue189
  t208 := Tryd.underlying191
  a208 := Tryd.isAgg191
  z208 := Tryd.sizeOf191
  v208 := Tryd.zeroValue191
  g13 := by kernel_rfl }
open Go.RowKit Go.Lib in
theorem Tryd.unicode_To (c : Nat) (hc : c < 3) (r : Int) (T : Array CaseRow) (w : World) (hV : CaseVar 6 T w) (hok : CaseOk2 T) (hn : T.size ≤ 1000000000) :
    Calls Tryd.prog 103 #[.int .i64 c, .int .i32 r] w fun e w' => e = .returned (.int .i32 (toW T c r)) ∧ ∃ q, w' = w.drewN q := Any.unicode_To Tryd.lays262 c hc r T w hV hok hn
open Go.RowKit Go.Lib in
theorem Tryd.unicode_ToLower_any (r : Int) (T : Array CaseRow) (w : World) (hV : CaseVar 6 T w) (hok : CaseOk2 T) (hn : T.size ≤ 1000000000) :
    Calls Tryd.prog 80 #[.int .i32 r] w fun e w' => e = .returned (.int .i32 (Lib.toLowerW T r)) ∧ ∃ q, w' = w.drewN q := Any.unicode_ToLower_any Tryd.lays204 r T w hV hok hn
open Go.RowKit Go.Lib in
theorem Tryd.unicode_ToLower_laid (r : Int) (w : World) (hV : CaseVar 6 caseA w) :
    Calls Tryd.prog 80 #[.int .i32 r] w fun e w' => e = .returned (.int .i32 (toLowerU r)) ∧ ∃ q, w' = w.drewN q := Any.unicode_ToLower_laid Tryd.lays204 r w hV
def Tryd.lays196_ren : Go.Shelf.Ren := ⟨fun | 196 => 9 | 259 => 16 | n => n, fun | 9 => 9 | 4 => 4 | 3 => 3 | 5 => 5 | 12 => 12 | 119 => 49 | 0 => 0 | 46 => 53 | 139 => 52 | 138 => 51 | 53 => 78 | n => n, fun | 3 => 0 | 4 => 1 | n => n⟩
theorem Tryd.lays196 : Go.Proofs.Lays.n196 Tryd.prog Tryd.lays196_ren := {
  mixed := by kernel_rfl
  f196 := Tryd.func9.trans (congrArg some (by kernel_rfl))
  f259 := Tryd.func16.trans (congrArg some (by kernel_rfl))
  t0 := Tryd.underlying0
  a0 := Tryd.isAgg0
  z0 := Tryd.sizeOf0
  v0 := Tryd.zeroValue0
  t3 := Tryd.underlying3
  a3 := Tryd.isAgg3
  z3 := Tryd.sizeOf3
  v3 := Tryd.zeroValue3
  t4 := Tryd.underlying4
  a4 := Tryd.isAgg4
  z4 := Tryd.sizeOf4
  v4 := Tryd.zeroValue4
  t5 := Tryd.underlying5
  a5 := Tryd.isAgg5
  z5 := Tryd.sizeOf5
  v5 := Tryd.zeroValue5
  t9 := Tryd.underlying9
  a9 := Tryd.isAgg9
  z9 := Tryd.sizeOf9
  v9 := Tryd.zeroValue9
  t12 := Tryd.underlying12
  a12 := Tryd.isAgg12
  z12 := Tryd.sizeOf12
  v12 := Tryd.zeroValue12
  t46 := Tryd.underlying53
  a46 := Tryd.isAgg53
  z46 := Tryd.sizeOf53
  v46 := Tryd.zeroValue53
  t53 := Tryd.underlying78
  a53 := Tryd.isAgg78
  z53 := Tryd.sizeOf78
  v53 := Tryd.zeroValue78
  t119 := Tryd.underlying49
  a119 := Tryd.isAgg49
  z119 := Tryd.sizeOf49
  t138 := Tryd.underlying51
  a138 := Tryd.isAgg51
  z138 := Tryd.sizeOf51
  v138 := Tryd.zeroValue51
  t139 := Tryd.underlying52
  a139 := Tryd.isAgg52
  z139 := Tryd.sizeOf52
  v139 := Tryd.zeroValue52
  g3 := by kernel_rfl
  g4 := by kernel_rfl }
open Go.RowKit Go.Lib in
theorem Tryd.utf8_ValidString (s : ByteArray) (w : World) (hs : s.size ≤ 9223372036854775807) (hT : Lib.Utf8Tabs 0 1 w) :
    Calls Tryd.prog 9 #[.string s] w fun e w' => e = .returned (.bool (Lib.validD s.data.toList)) ∧ Below w.heap.size w w' := Any.utf8_ValidString Tryd.lays196 s w hs hT
end Go.Proofs
