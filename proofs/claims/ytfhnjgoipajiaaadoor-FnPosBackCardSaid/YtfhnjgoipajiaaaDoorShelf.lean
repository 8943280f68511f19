/-
  DERIVED: THE SHELF's CONTRACTS AT THIS DUMP, IN PLAIN WORDS (tools/lay-plain.mjs out of 'TrydShelf.lean', which tools/lay-shelf.mjs wrote): THE SAME DECLARATIONS UNDER THE SAME NAMES: 'import', 'namespace', 'open', 'def', 'theorem' AND NOTHING ELSE: no command of the shelf's: FOR A HAND-IN. Each laying: the table of numbers ('.._ren') and one theorem, a field a fact of the dump's own or the kernel's comparison; each contract: ONE APPLICATION.
-/
import Derived.Shelf.Strings.Builder1
import Derived.Shelf.Strings.Builder2
import Derived.Shelf.Strings.OnBuilder
import Derived.Shelf.Strings.BuilderF
import Derived.Shelf.Strings.BuilderK
import Derived.Shelf.Strconv.Atoi
import Derived.Shelf.Strconv.Itoa0
import Derived.Shelf.Strconv.Itoa1
import Derived.Shelf.LaysM
import Derived.Shelf.Strconv.Itoa2
import Derived.Shelf.Strconv.Itoa3
import Derived.Shelf.Strconv.AtoiErrFast
import Derived.Shelf.Strconv.ParseIntEmpty
import Derived.Shelf.Strconv.AtoiFail
import Derived.Shelf.Strconv.Clone
import Derived.Shelf.Strconv.SyntaxError
import Derived.Shelf.LaysC
import Derived.Shelf.Strconv.ToError
import Derived.Shelf.Strconv.Lower
import Derived.Shelf.Strconv.ParseUint10
import Derived.Shelf.Strconv.ParseUint10Empty
import Derived.Shelf.Strconv.ParseUint10Any
import Derived.Shelf.Strconv.ParseInt10
import Derived.Shelf.Strconv.AtoiLong
import Derived.Shelf.Strconv.AtoiInnerAll
import Derived.Shelf.Strconv.RangeError
import Derived.Shelf.Strconv.ToErrorRange
import Derived.Shelf.Strconv.AtoiAll
import Derived.Shelf.Strconv.ErrVarAll
import Derived.Shelf.Unicode.Latin
import Derived.Shelf.Unicode.Props
import Derived.Shelf.Unicode.PropsLaid
import Derived.Shelf.Unicode.Is16White
import Derived.Shelf.Unicode.IsSpaceAny
import Derived.Shelf.Unicode.Is16WhiteD
import Derived.Shelf.Unicode.IsSpaceAnyD
import Derived.Shelf.Unicode.Is16Any
import Derived.Shelf.Unicode.Is32Any
import Derived.Shelf.Unicode.ExclAny
import Derived.Shelf.Unicode.PredsAny
import Derived.Shelf.Unicode.PredsPay
import Derived.Test.YtfhnjgoipajiaaaDoorChecked
namespace Go.Proofs
open Go.Shelf
def Tryd.lays169_ren : Go.Shelf.Ren := ⟨fun | 169 => 85 | n => n, fun | 70 => 171 | 9 => 9 | 0 => 0 | 72 => 173 | 37 => 127 | 127 => 140 | 3 => 3 | 5 => 5 | n => n, fun | n => n⟩
theorem Tryd.lays169 : Go.Proofs.Lays.n169 Tryd.prog Tryd.lays169_ren := {
  mixed := by kernel_rfl
  f169 := Tryd.func85.trans (congrArg some (by kernel_rfl))
  t0 := Tryd.underlying0
  a0 := Tryd.isAgg0
  z0 := Tryd.sizeOf0
  v0 := Tryd.zeroValue0
  t3 := Tryd.underlying3
  a3 := Tryd.isAgg3
  z3 := Tryd.sizeOf3
  v3 := Tryd.zeroValue3
  t9 := Tryd.underlying9
  a9 := Tryd.isAgg9
  z9 := Tryd.sizeOf9
  v9 := Tryd.zeroValue9
  t37 := Tryd.underlying127
  a37 := Tryd.isAgg127
  z37 := Tryd.sizeOf127
  v37 := Tryd.zeroValue127
  t70 := Tryd.underlying171
  a70 := Tryd.isAgg171
  z70 := Tryd.sizeOf171
  v70 := Tryd.zeroValue171
  t72 := Tryd.underlying173
  a72 := Tryd.isAgg173
  z72 := Tryd.sizeOf173
  v72 := Tryd.zeroValue173
  t127 := Tryd.underlying140
  a127 := Tryd.isAgg140
  z127 := Tryd.sizeOf140
  v127 := Tryd.zeroValue140 }
theorem Tryd.Builder_Extra_169 : Builder.Extra Tryd.prog Tryd.lays169_ren := {
  sizeBuilder := by kernel_rfl
  liesBuilder := by kernel_rfl
  t5 := Tryd.underlying5
  a5 := Tryd.isAgg5
  z5 := Tryd.sizeOf5
  v5 := Tryd.zeroValue5
  infoByte := by kernel_rfl
  cellsByte := by kernel_rfl
  sizeByte := by kernel_rfl
  neB5 := by decide }
open Go.RowKit in
/-- (*strings.Builder).String: "String returns the accumulated string.": OF A BUILDER THAT HOLDS AT LEAST ONE BYTE. ✋ THE MODEL FREEZES THOSE BYTES IN THE BUFFER (unsafe.String): a later write INTO them ends the model's run without an answer; a later append BEHIND them goes on. The statement's order of evaluation is drawn: one draw. (LAID: no walk: one application.) -/
theorem Tryd.Builder_String (B b : Nat) (l : List UInt8) (w : World) (h : Lib.IsBuilder 173 5 B b (Lib.byteCells l) w) (h0 : l ≠ []) :
    Calls Tryd.prog 85 #[.pointer (some ⟨b, 0, none⟩)] w fun e w' => e = .returned (.string ⟨l.toArray⟩) ∧ Below B w w' := Any.Builder_String Tryd.lays169 Tryd.Builder_Extra_169 B b l w h h0
open Go.RowKit in
/-- (*strings.Builder).String OF A BUILDER THAT HOLDS NO BYTE: the empty string. (Its buffer is nil, or a row of which it has taken nothing yet; where that row has NO capacity the model lays one new block for unsafe.SliceData's 'some address'.) One draw. (LAID: no walk: one application.) -/
theorem Tryd.Builder_String_empty (B b : Nat) (w : World) (h : Lib.IsBuilder 173 5 B b [] w) (hBw : B ≤ w.heap.size) :
    Calls Tryd.prog 85 #[.pointer (some ⟨b, 0, none⟩)] w fun e w' => e = .returned (.string ⟨#[]⟩) ∧ Below B w w' := Any.Builder_String_empty Tryd.lays169 Tryd.Builder_Extra_169 B b w h hBw
open Go.RowKit in
/-- (*strings.Builder).String: "String returns the accumulated string.": WHATEVER THE BUILDER HOLDS. (LAID: no walk: one application.) -/
theorem Tryd.Builder_String_any (B b : Nat) (l : List UInt8) (w : World) (h : Lib.IsBuilder 173 5 B b (Lib.byteCells l) w) (hBw : B ≤ w.heap.size) :
    Calls Tryd.prog 85 #[.pointer (some ⟨b, 0, none⟩)] w fun e w' => e = .returned (.string ⟨l.toArray⟩) ∧ Below B w w' := Any.Builder_String_any Tryd.lays169 Tryd.Builder_Extra_169 B b l w h hBw
def Tryd.lays241_ren : Go.Shelf.Ren := ⟨fun | 241 => 87 | 277 => 89 | n => n, fun | 70 => 171 | 3 => 3 | 0 => 0 | 72 => 173 | 37 => 127 | 5 => 5 | n => n, fun | n => n⟩
theorem Tryd.lays241 : Go.Proofs.Lays.n241 Tryd.prog Tryd.lays241_ren := {
  mixed := by kernel_rfl
  f241 := Tryd.func87.trans (congrArg some (by kernel_rfl))
  f277 := Tryd.func89.trans (congrArg some (by kernel_rfl))
  t0 := Tryd.underlying0
  a0 := Tryd.isAgg0
  z0 := Tryd.sizeOf0
  v0 := Tryd.zeroValue0
  t3 := Tryd.underlying3
  a3 := Tryd.isAgg3
  z3 := Tryd.sizeOf3
  v3 := Tryd.zeroValue3
  t37 := Tryd.underlying127
  a37 := Tryd.isAgg127
  z37 := Tryd.sizeOf127
  v37 := Tryd.zeroValue127
  t70 := Tryd.underlying171
  a70 := Tryd.isAgg171
  z70 := Tryd.sizeOf171
  v70 := Tryd.zeroValue171
  t72 := Tryd.underlying173
  a72 := Tryd.isAgg173
  z72 := Tryd.sizeOf173
  v72 := Tryd.zeroValue173 }
theorem Tryd.Builder_Extra_241 : Builder.Extra Tryd.prog Tryd.lays241_ren := {
  sizeBuilder := by kernel_rfl
  liesBuilder := by kernel_rfl
  t5 := Tryd.underlying5
  a5 := Tryd.isAgg5
  z5 := Tryd.sizeOf5
  v5 := Tryd.zeroValue5
  infoByte := by kernel_rfl
  cellsByte := by kernel_rfl
  sizeByte := by kernel_rfl
  neB5 := by decide }
open Go.RowKit in
/-- (*strings.Builder).grow (no doc but "grow copies the buffer to a new, larger buffer so that there are at least n bytes of capacity beyond len(b.buf)."): AT A BUILDER WITHOUT A BUFFER: a new row of whatever bytes for its buffer, none of them its own yet. Three draws. (LAID: no walk: one application.) -/
theorem Tryd.Builder_grow_fresh (B b n : Nat) (w : World) (hB : B ≤ b) (hbk : w.heap[b]? = some (.cells #[.pointer (some ⟨b, 0, none⟩), .slice none 0 0] 173 (0, 0))) (hBw : B ≤ w.heap.size) (hn : n ≤ 281474976710656) :
    Calls Tryd.prog 87 #[.pointer (some ⟨b, 0, none⟩), .int .i64 n] w fun e w' => e = .returned (.tuple #[]) ∧ (Lib.BuilderAt 173 5 B b (.pointer (some ⟨b, 0, none⟩)) [] w' ∧ Below B w w') := Any.Builder_grow_fresh Tryd.lays241 Tryd.Builder_Extra_241 B b n w hB hbk hBw hn
def Tryd.lays165_ren : Go.Shelf.Ren := ⟨fun | 165 => 83 | 240 => 86 | 241 => 87 | 276 => 88 | 277 => 89 | n => n, fun | 70 => 171 | 3 => 3 | 0 => 0 | 4 => 4 | 9 => 9 | 20 => 20 | 72 => 173 | 37 => 127 | 164 => 175 | 5 => 5 | n => n, fun | n => n⟩
theorem Tryd.lays165 : Go.Proofs.Lays.n165 Tryd.prog Tryd.lays165_ren := {
  mixed := by kernel_rfl
  f165 := Tryd.func83.trans (congrArg some (by kernel_rfl))
  f240 := Tryd.func86.trans (congrArg some (by kernel_rfl))
  f241 := Tryd.func87.trans (congrArg some (by kernel_rfl))
  f276 := Tryd.func88.trans (congrArg some (by kernel_rfl))
  f277 := Tryd.func89.trans (congrArg some (by kernel_rfl))
  t0 := Tryd.underlying0
  a0 := Tryd.isAgg0
  z0 := Tryd.sizeOf0
  v0 := Tryd.zeroValue0
  t3 := Tryd.underlying3
  a3 := Tryd.isAgg3
  z3 := Tryd.sizeOf3
  v3 := Tryd.zeroValue3
  t4 := Tryd.underlying4
  a4 := Tryd.isAgg4
  z4 := Tryd.sizeOf4
  v4 := Tryd.zeroValue4
  t9 := Tryd.underlying9
  a9 := Tryd.isAgg9
  z9 := Tryd.sizeOf9
  v9 := Tryd.zeroValue9
  t20 := Tryd.underlying20
  a20 := Tryd.isAgg20
  z20 := Tryd.sizeOf20
  v20 := Tryd.zeroValue20
  t37 := Tryd.underlying127
  a37 := Tryd.isAgg127
  z37 := Tryd.sizeOf127
  v37 := Tryd.zeroValue127
  t70 := Tryd.underlying171
  a70 := Tryd.isAgg171
  z70 := Tryd.sizeOf171
  v70 := Tryd.zeroValue171
  t72 := Tryd.underlying173
  a72 := Tryd.isAgg173
  z72 := Tryd.sizeOf173
  v72 := Tryd.zeroValue173
  t164 := Tryd.underlying175
  a164 := Tryd.isAgg175
  z164 := Tryd.sizeOf175
  v164 := Tryd.zeroValue175 }
theorem Tryd.Builder_Extra_165 : Builder.Extra Tryd.prog Tryd.lays165_ren := {
  sizeBuilder := by kernel_rfl
  liesBuilder := by kernel_rfl
  t5 := Tryd.underlying5
  a5 := Tryd.isAgg5
  z5 := Tryd.sizeOf5
  v5 := Tryd.zeroValue5
  infoByte := by kernel_rfl
  cellsByte := by kernel_rfl
  sizeByte := by kernel_rfl
  neB5 := by decide }
open Go.RowKit in
/-- (*strings.Builder).Grow AT A BUILDER THAT HAS NOT BEEN WRITTEN ('var b strings.Builder; b.Grow(n)'): "Grow grows b's capacity, if necessary, to guarantee space for another n bytes.": it holds no byte behind it as before it. (LAID: no walk: one application.) -/
theorem Tryd.Builder_Grow_fresh (B b n : Nat) (w : World) (hB : B ≤ b) (hbk : w.heap[b]? = some (.cells #[.pointer none, .slice none 0 0] 173 (0, 0))) (hBw : B ≤ w.heap.size) (hn : n ≤ 281474976710656) :
    Calls Tryd.prog 83 #[.pointer (some ⟨b, 0, none⟩), .int .i64 n] w fun e w' => e = .returned (.tuple #[]) ∧ (Lib.BuilderAt 173 5 B b (.pointer (some ⟨b, 0, none⟩)) [] w' ∧ Below B w w') := Any.Builder_Grow_fresh Tryd.lays165 Tryd.Builder_Extra_165 B b n w hB hbk hBw hn
def Tryd.lays156_ren : Go.Shelf.Ren := ⟨fun | 156 => 82 | 165 => 83 | 166 => 84 | 169 => 85 | 240 => 86 | 241 => 87 | 276 => 88 | 277 => 89 | n => n, fun | 31 => 169 | 9 => 9 | 3 => 3 | 4 => 4 | 0 => 0 | 20 => 20 | 72 => 173 | 76 => 122 | 70 => 171 | 37 => 127 | 75 => 35 | 127 => 140 | 164 => 175 | 5 => 5 | 80 => 39 | n => n, fun | n => n⟩
theorem Tryd.lays156 : Go.Proofs.Lays.n156 Tryd.prog Tryd.lays156_ren := {
  mixed := by kernel_rfl
  f156 := Tryd.func82.trans (congrArg some (by kernel_rfl))
  f165 := Tryd.func83.trans (congrArg some (by kernel_rfl))
  f166 := Tryd.func84.trans (congrArg some (by kernel_rfl))
  f169 := Tryd.func85.trans (congrArg some (by kernel_rfl))
  f240 := Tryd.func86.trans (congrArg some (by kernel_rfl))
  f241 := Tryd.func87.trans (congrArg some (by kernel_rfl))
  f276 := Tryd.func88.trans (congrArg some (by kernel_rfl))
  f277 := Tryd.func89.trans (congrArg some (by kernel_rfl))
  t0 := Tryd.underlying0
  a0 := Tryd.isAgg0
  z0 := Tryd.sizeOf0
  v0 := Tryd.zeroValue0
  t3 := Tryd.underlying3
  a3 := Tryd.isAgg3
  z3 := Tryd.sizeOf3
  v3 := Tryd.zeroValue3
  t4 := Tryd.underlying4
  a4 := Tryd.isAgg4
  z4 := Tryd.sizeOf4
  v4 := Tryd.zeroValue4
  t9 := Tryd.underlying9
  a9 := Tryd.isAgg9
  z9 := Tryd.sizeOf9
  v9 := Tryd.zeroValue9
  t20 := Tryd.underlying20
  a20 := Tryd.isAgg20
  z20 := Tryd.sizeOf20
  v20 := Tryd.zeroValue20
  t31 := Tryd.underlying169
  a31 := Tryd.isAgg169
  z31 := Tryd.sizeOf169
  v31 := Tryd.zeroValue169
  t37 := Tryd.underlying127
  a37 := Tryd.isAgg127
  z37 := Tryd.sizeOf127
  v37 := Tryd.zeroValue127
  t70 := Tryd.underlying171
  a70 := Tryd.isAgg171
  z70 := Tryd.sizeOf171
  v70 := Tryd.zeroValue171
  t72 := Tryd.underlying173
  a72 := Tryd.isAgg173
  z72 := Tryd.sizeOf173
  v72 := Tryd.zeroValue173
  t75 := Tryd.underlying35
  a75 := Tryd.isAgg35
  z75 := Tryd.sizeOf35
  v75 := Tryd.zeroValue35
  t76 := Tryd.underlying122
  a76 := Tryd.isAgg122
  z76 := Tryd.sizeOf122
  v76 := Tryd.zeroValue122
  t127 := Tryd.underlying140
  a127 := Tryd.isAgg140
  z127 := Tryd.sizeOf140
  v127 := Tryd.zeroValue140
  t164 := Tryd.underlying175
  a164 := Tryd.isAgg175
  z164 := Tryd.sizeOf175
  v164 := Tryd.zeroValue175 }
theorem Tryd.Builder_Extra_156 : Builder.Extra Tryd.prog Tryd.lays156_ren := {
  sizeBuilder := by kernel_rfl
  liesBuilder := by kernel_rfl
  t5 := Tryd.underlying5
  a5 := Tryd.isAgg5
  z5 := Tryd.sizeOf5
  v5 := Tryd.zeroValue5
  infoByte := by kernel_rfl
  cellsByte := by kernel_rfl
  sizeByte := by kernel_rfl
  neB5 := by decide }
open Go.RowKit in
/-- No element: the empty string; the world is as it was. (Whatever the slice's address and capacity: a nil slice too.) (LAID: no walk: one application.) -/
theorem Tryd.strings_Join_none (a : Option Addr) (c : Nat) (sep : ByteArray) (w : World) :
    Calls Tryd.prog 82 #[.slice a 0 c, .string sep] w fun e w' => e = .returned (.string ⟨#[]⟩) ∧ w' = w := Any.strings_Join_none Tryd.lays156 Tryd.Builder_Extra_156 a c sep w
open Go.RowKit in
/-- strings.Join: "Join concatenates the elements of its first argument to create a single string. The separator string sep is placed between elements in the resulting string.": HOWEVER MANY ELEMENTS. Below the heap's end the world is as it was. (LAID: no walk: one application.) -/
theorem Tryd.strings_Join (bk o c : Nat) (xs : List ByteArray) (sep : ByteArray) (w : World) (hcells : ∀ (j : Nat) x, xs[j]? = some x → w.cell? ⟨bk, o + j, none⟩ = some (.string x)) (hbk : bk < w.heap.size) (hN : xs.length ≤ 140737488355328) (hcap : xs.length ≤ c) (hlen : (Lib.join (xs.map (·.data.toList)) sep.data.toList).length ≤ 140737488355328) :
    Calls Tryd.prog 82 #[.slice (some ⟨bk, o, none⟩) xs.length c, .string sep] w fun e w' => e = .returned (.string ⟨(Lib.join (xs.map (·.data.toList)) sep.data.toList).toArray⟩) ∧ Below w.heap.size w w' := Any.strings_Join Tryd.lays156 Tryd.Builder_Extra_156 bk o c xs sep w hcells hbk hN hcap hlen
open Go.RowKit in
/-- (*strings.Builder).String: "String returns the accumulated string.": OF A BUILDER THAT HOLDS AT LEAST ONE BYTE. ✋ THE MODEL FREEZES THOSE BYTES IN THE BUFFER (unsafe.String): a later write INTO them ends the model's run without an answer; a later append BEHIND them goes on. The statement's order of evaluation is drawn: one draw. THE FORM '_f': IT SAYS BESIDES THAT THE BUILDER IS A BUILDER STILL ('Lib.IsBuilderF', the same bytes): SO IT CAN BE WRITTEN ON: 'b.WriteString(b.String()[:k])'. (LAID: no walk: one application.) -/
theorem Tryd.Builder_String_f (B b : Nat) (l : List UInt8) (w : World) (h : Lib.IsBuilderF 173 5 B b (Lib.byteCells l) w) (h0 : l ≠ []) :
    Calls Tryd.prog 85 #[.pointer (some ⟨b, 0, none⟩)] w fun e w' => e = .returned (.string ⟨l.toArray⟩) ∧ (Lib.IsBuilderF 173 5 B b (Lib.byteCells l) w' ∧ Below B w w') := Any.Builder_String_f Tryd.lays169 Tryd.Builder_Extra_169 B b l w h h0
open Go.RowKit in
/-- (*strings.Builder).String OF A BUILDER THAT HOLDS NO BYTE: the empty string; THE FORM '_f': a builder still. (LAID: no walk: one application.) -/
theorem Tryd.Builder_String_empty_f (B b : Nat) (w : World) (h : Lib.IsBuilderF 173 5 B b [] w) (hBw : B ≤ w.heap.size) :
    Calls Tryd.prog 85 #[.pointer (some ⟨b, 0, none⟩)] w fun e w' => e = .returned (.string ⟨#[]⟩) ∧ (Lib.IsBuilderF 173 5 B b [] w' ∧ Below B w w') := Any.Builder_String_empty_f Tryd.lays169 Tryd.Builder_Extra_169 B b w h hBw
open Go.RowKit in
/-- (*strings.Builder).String: "String returns the accumulated string.": WHATEVER THE BUILDER HOLDS; THE FORM '_f': OF A BUILDER THAT MAY HAVE BEEN READ BEFORE; AND IT IS A BUILDER STILL, holding the same bytes: it can be written on. (LAID: no walk: one application.) -/
theorem Tryd.Builder_String_any_f (B b : Nat) (l : List UInt8) (w : World) (h : Lib.IsBuilderF 173 5 B b (Lib.byteCells l) w) (hBw : B ≤ w.heap.size) :
    Calls Tryd.prog 85 #[.pointer (some ⟨b, 0, none⟩)] w fun e w' => e = .returned (.string ⟨l.toArray⟩) ∧ (Lib.IsBuilderF 173 5 B b (Lib.byteCells l) w' ∧ Below B w w') := Any.Builder_String_any_f Tryd.lays169 Tryd.Builder_Extra_169 B b l w h hBw
open Go.RowKit in
/-- (*strings.Builder).String: "String returns the accumulated string.": OF A BUILDER THAT HOLDS AT LEAST ONE BYTE. ✋ THE MODEL FREEZES THOSE BYTES IN THE BUFFER (unsafe.String): a later write INTO them ends the model's run without an answer; a later append BEHIND them goes on. The statement's order of evaluation is drawn: one draw. THE FORM '_k': OVER 'Lib.IsBuilderF' (a builder that 'String()' may have read), AND WITH THE FRAME THAT REACHES ABOVE THE BUILDER: 'Lib.OthersKept': every block that is not b and is no row of uint8's stands as it stood: the iterator of a range among them. (LAID: no walk: one application.) -/
theorem Tryd.Builder_String_k (B b : Nat) (l : List UInt8) (w : World) (h : Lib.IsBuilderF 173 5 B b (Lib.byteCells l) w) (h0 : l ≠ []) :
    Calls Tryd.prog 85 #[.pointer (some ⟨b, 0, none⟩)] w fun e w' => e = .returned (.string ⟨l.toArray⟩) ∧ (Lib.IsBuilderF 173 5 B b (Lib.byteCells l) w' ∧ Below B w w' ∧ Lib.OthersKept 5 (some b) w w') := Any.Builder_String_k Tryd.lays169 Tryd.Builder_Extra_169 B b l w h h0
open Go.RowKit in
/-- (*strings.Builder).String OF A BUILDER THAT HOLDS NO BYTE: the empty string; THE FORM '_k': OVER 'Lib.IsBuilderF' (a builder that 'String()' may have read), AND WITH THE FRAME THAT REACHES ABOVE THE BUILDER: 'Lib.OthersKept': every block that is not b and is no row of uint8's stands as it stood: the iterator of a range among them. (LAID: no walk: one application.) -/
theorem Tryd.Builder_String_empty_k (B b : Nat) (w : World) (h : Lib.IsBuilderF 173 5 B b [] w) (hBw : B ≤ w.heap.size) :
    Calls Tryd.prog 85 #[.pointer (some ⟨b, 0, none⟩)] w fun e w' => e = .returned (.string ⟨#[]⟩) ∧ (Lib.IsBuilderF 173 5 B b [] w' ∧ Below B w w' ∧ Lib.OthersKept 5 (some b) w w') := Any.Builder_String_empty_k Tryd.lays169 Tryd.Builder_Extra_169 B b w h hBw
open Go.RowKit in
/-- (*strings.Builder).String: "String returns the accumulated string.": WHATEVER THE BUILDER HOLDS; THE FORM '_k': OVER 'Lib.IsBuilderF' (a builder that 'String()' may have read), AND WITH THE FRAME THAT REACHES ABOVE THE BUILDER: 'Lib.OthersKept': every block that is not b and is no row of uint8's stands as it stood: the iterator of a range among them. (LAID: no walk: one application.) -/
theorem Tryd.Builder_String_any_k (B b : Nat) (l : List UInt8) (w : World) (h : Lib.IsBuilderF 173 5 B b (Lib.byteCells l) w) (hBw : B ≤ w.heap.size) :
    Calls Tryd.prog 85 #[.pointer (some ⟨b, 0, none⟩)] w fun e w' => e = .returned (.string ⟨l.toArray⟩) ∧ (Lib.IsBuilderF 173 5 B b (Lib.byteCells l) w' ∧ Below B w w' ∧ Lib.OthersKept 5 (some b) w w') := Any.Builder_String_any_k Tryd.lays169 Tryd.Builder_Extra_169 B b l w h hBw
def Tryd.lays244_ren : Go.Shelf.Ren := ⟨fun | 244 => 34 | 247 => 36 | 287 => 41 | 321 => 44 | 322 => 45 | n => n, fun | 9 => 9 | 3 => 3 | 75 => 35 | 4 => 4 | 5 => 5 | 167 => 126 | 37 => 127 | 0 => 0 | 85 => 128 | 2 => 2 | 53 => 133 | 175 => 134 | 46 => 120 | 21 => 21 | 80 => 39 | n => n, fun | n => n⟩
theorem Tryd.lays244 : Go.Proofs.Lays.n244 Tryd.prog Tryd.lays244_ren := {
  mixed := by kernel_rfl
  f244 := Tryd.func34.trans (congrArg some (by kernel_rfl))
  f247 := Tryd.func36.trans (congrArg some (by kernel_rfl))
  f287 := Tryd.func41.trans (congrArg some (by kernel_rfl))
  f321 := Tryd.func44.trans (congrArg some (by kernel_rfl))
  f322 := Tryd.func45.trans (congrArg some (by kernel_rfl))
  t0 := Tryd.underlying0
  a0 := Tryd.isAgg0
  z0 := Tryd.sizeOf0
  v0 := Tryd.zeroValue0
  t2 := Tryd.underlying2
  a2 := Tryd.isAgg2
  z2 := Tryd.sizeOf2
  v2 := Tryd.zeroValue2
  t3 := Tryd.underlying3
  a3 := Tryd.isAgg3
  z3 := Tryd.sizeOf3
  v3 := Tryd.zeroValue3
  t4 := Tryd.underlying4
  a4 := Tryd.isAgg4
  z4 := Tryd.sizeOf4
  v4 := Tryd.zeroValue4
  t5 := Tryd.underlying5
  a5 := Tryd.isAgg5
  z5 := Tryd.sizeOf5
  v5 := Tryd.zeroValue5
  t9 := Tryd.underlying9
  a9 := Tryd.isAgg9
  z9 := Tryd.sizeOf9
  v9 := Tryd.zeroValue9
  t21 := Tryd.underlying21
  a21 := Tryd.isAgg21
  z21 := Tryd.sizeOf21
  v21 := Tryd.zeroValue21
  t37 := Tryd.underlying127
  a37 := Tryd.isAgg127
  z37 := Tryd.sizeOf127
  v37 := Tryd.zeroValue127
  t46 := Tryd.underlying120
  a46 := Tryd.isAgg120
  z46 := Tryd.sizeOf120
  v46 := Tryd.zeroValue120
  t53 := Tryd.underlying133
  a53 := Tryd.isAgg133
  z53 := Tryd.sizeOf133
  v53 := Tryd.zeroValue133
  t75 := Tryd.underlying35
  a75 := Tryd.isAgg35
  z75 := Tryd.sizeOf35
  v75 := Tryd.zeroValue35
  t85 := Tryd.underlying128
  a85 := Tryd.isAgg128
  z85 := Tryd.sizeOf128
  v85 := Tryd.zeroValue128
  t167 := Tryd.underlying126
  a167 := Tryd.isAgg126
  z167 := Tryd.sizeOf126
  v167 := Tryd.zeroValue126
  t175 := Tryd.underlying134
  a175 := Tryd.isAgg134
  z175 := Tryd.sizeOf134
  v175 := Tryd.zeroValue134 }
open Go.RowKit in
/-- internal/strconv.Atoi, at a decimal numeral of at most 18 bytes: ITS VALUE, AND NO ERROR. The world behind the call: the one new row that '[]byte(s)' lays. (LAID: no walk: one application.) -/
theorem Tryd.internal_strconv_Atoi (s : ByteArray) (n : Int) (hl : s.size ≤ 18) (h : Lib.atoi s.data.toList = some n) (w : World) :
    Calls Tryd.prog 34 #[.string s] w fun e w' => e = .returned (.tuple #[.int .i64 n, .nilIface]) ∧ ∃ t, w' = Lib.bytesWorld w 5 t := Any.internal_strconv_Atoi Tryd.lays244 s n hl h w
def Tryd.lays172_ren : Go.Shelf.Ren := ⟨fun | 172 => 32 | 244 => 34 | 245 => 35 | 247 => 36 | 279 => 37 | 280 => 38 | 281 => 39 | 282 => 40 | 287 => 41 | 316 => 42 | 171 => 43 | 205 => 14 | 321 => 44 | 322 => 45 | 243 => 46 | 246 => 47 | 283 => 48 | 284 => 49 | 285 => 50 | 286 => 51 | 129 => 53 | 317 => 52 | 318 => 54 | 319 => 55 | 320 => 56 | 337 => 57 | 338 => 58 | n => n, fun | 9 => 9 | 3 => 3 | 75 => 35 | 76 => 122 | 4 => 4 | 5 => 5 | 167 => 126 | 37 => 127 | 0 => 0 | 85 => 128 | 2 => 2 | 168 => 130 | 53 => 133 | 175 => 134 | 46 => 120 | 210 => 137 | 127 => 140 | 145 => 98 | 143 => 96 | 21 => 21 | 171 => 142 | 173 => 145 | 212 => 149 | 51 => 99 | 20 => 20 | 213 => 150 | 232 => 154 | 233 => 155 | 80 => 39 | n => n, fun | 15 => 4 | 16 => 5 | 17 => 6 | 18 => 7 | 19 => 8 | n => n⟩
theorem Tryd.lays172 : Go.Proofs.Lays.n172 Tryd.prog Tryd.lays172_ren := {
  mixed := by kernel_rfl
  f129 := Tryd.func53.trans (congrArg some (by kernel_rfl))
  f171 := Tryd.func43.trans (congrArg some (by kernel_rfl))
  f172 := Tryd.func32.trans (congrArg some (by kernel_rfl))
  f205 := Tryd.func14.trans (congrArg some (by kernel_rfl))
  f243 := Tryd.func46.trans (congrArg some (by kernel_rfl))
  f244 := Tryd.func34.trans (congrArg some (by kernel_rfl))
  f245 := Tryd.func35.trans (congrArg some (by kernel_rfl))
  f246 := Tryd.func47.trans (congrArg some (by kernel_rfl))
  f247 := Tryd.func36.trans (congrArg some (by kernel_rfl))
  f279 := Tryd.func37.trans (congrArg some (by kernel_rfl))
  f280 := Tryd.func38.trans (congrArg some (by kernel_rfl))
  f281 := Tryd.func39.trans (congrArg some (by kernel_rfl))
  f282 := Tryd.func40.trans (congrArg some (by kernel_rfl))
  f283 := Tryd.func48.trans (congrArg some (by kernel_rfl))
  f284 := Tryd.func49.trans (congrArg some (by kernel_rfl))
  f285 := Tryd.func50.trans (congrArg some (by kernel_rfl))
  f286 := Tryd.func51.trans (congrArg some (by kernel_rfl))
  f287 := Tryd.func41.trans (congrArg some (by kernel_rfl))
  f316 := Tryd.func42.trans (congrArg some (by kernel_rfl))
  f317 := Tryd.func52.trans (congrArg some (by kernel_rfl))
  f318 := Tryd.func54.trans (congrArg some (by kernel_rfl))
  f319 := Tryd.func55.trans (congrArg some (by kernel_rfl))
  f320 := Tryd.func56.trans (congrArg some (by kernel_rfl))
  f321 := Tryd.func44.trans (congrArg some (by kernel_rfl))
  f322 := Tryd.func45.trans (congrArg some (by kernel_rfl))
  f337 := Tryd.func57.trans (congrArg some (by kernel_rfl))
  f338 := Tryd.func58.trans (congrArg some (by kernel_rfl))
  t0 := Tryd.underlying0
  a0 := Tryd.isAgg0
  z0 := Tryd.sizeOf0
  v0 := Tryd.zeroValue0
  t2 := Tryd.underlying2
  a2 := Tryd.isAgg2
  z2 := Tryd.sizeOf2
  v2 := Tryd.zeroValue2
  t3 := Tryd.underlying3
  a3 := Tryd.isAgg3
  z3 := Tryd.sizeOf3
  v3 := Tryd.zeroValue3
  t4 := Tryd.underlying4
  a4 := Tryd.isAgg4
  z4 := Tryd.sizeOf4
  v4 := Tryd.zeroValue4
  t5 := Tryd.underlying5
  a5 := Tryd.isAgg5
  z5 := Tryd.sizeOf5
  v5 := Tryd.zeroValue5
  t9 := Tryd.underlying9
  a9 := Tryd.isAgg9
  z9 := Tryd.sizeOf9
  v9 := Tryd.zeroValue9
  t20 := Tryd.underlying20
  a20 := Tryd.isAgg20
  z20 := Tryd.sizeOf20
  v20 := Tryd.zeroValue20
  t21 := Tryd.underlying21
  a21 := Tryd.isAgg21
  z21 := Tryd.sizeOf21
  v21 := Tryd.zeroValue21
  t37 := Tryd.underlying127
  a37 := Tryd.isAgg127
  z37 := Tryd.sizeOf127
  v37 := Tryd.zeroValue127
  t46 := Tryd.underlying120
  a46 := Tryd.isAgg120
  z46 := Tryd.sizeOf120
  v46 := Tryd.zeroValue120
  t51 := Tryd.underlying99
  a51 := Tryd.isAgg99
  z51 := Tryd.sizeOf99
  v51 := Tryd.zeroValue99
  t53 := Tryd.underlying133
  a53 := Tryd.isAgg133
  z53 := Tryd.sizeOf133
  v53 := Tryd.zeroValue133
  t75 := Tryd.underlying35
  a75 := Tryd.isAgg35
  z75 := Tryd.sizeOf35
  v75 := Tryd.zeroValue35
  t76 := Tryd.underlying122
  a76 := Tryd.isAgg122
  z76 := Tryd.sizeOf122
  v76 := Tryd.zeroValue122
  t85 := Tryd.underlying128
  a85 := Tryd.isAgg128
  z85 := Tryd.sizeOf128
  v85 := Tryd.zeroValue128
  t127 := Tryd.underlying140
  a127 := Tryd.isAgg140
  z127 := Tryd.sizeOf140
  v127 := Tryd.zeroValue140
  t143 := Tryd.underlying96
  a143 := Tryd.isAgg96
  z143 := Tryd.sizeOf96
  v143 := Tryd.zeroValue96
  t145 := Tryd.underlying98
  a145 := Tryd.isAgg98
  z145 := Tryd.sizeOf98
  v145 := Tryd.zeroValue98
  t167 := Tryd.underlying126
  a167 := Tryd.isAgg126
  z167 := Tryd.sizeOf126
  v167 := Tryd.zeroValue126
  t168 := Tryd.underlying130
  a168 := Tryd.isAgg130
  z168 := Tryd.sizeOf130
  v168 := Tryd.zeroValue130
  t171 := Tryd.underlying142
  a171 := Tryd.isAgg142
  z171 := Tryd.sizeOf142
  v171 := Tryd.zeroValue142
  t173 := Tryd.underlying145
  a173 := Tryd.isAgg145
  z173 := Tryd.sizeOf145
  v173 := Tryd.zeroValue145
  t175 := Tryd.underlying134
  a175 := Tryd.isAgg134
  z175 := Tryd.sizeOf134
  v175 := Tryd.zeroValue134
  t210 := Tryd.underlying137
  a210 := Tryd.isAgg137
  z210 := Tryd.sizeOf137
  v210 := Tryd.zeroValue137
  t212 := Tryd.underlying149
  a212 := Tryd.isAgg149
  z212 := Tryd.sizeOf149
  v212 := Tryd.zeroValue149
  t213 := Tryd.underlying150
  a213 := Tryd.isAgg150
  z213 := Tryd.sizeOf150
  t232 := Tryd.underlying154
  a232 := Tryd.isAgg154
  z232 := Tryd.sizeOf154
  v232 := Tryd.zeroValue154
  t233 := Tryd.underlying155
  a233 := Tryd.isAgg155
  z233 := Tryd.sizeOf155
  v233 := Tryd.zeroValue155
  g15 := by kernel_rfl
  g16 := by kernel_rfl
  g17 := by kernel_rfl
  g18 := by kernel_rfl
  g19 := by kernel_rfl }
open Go.RowKit in
/-- strconv.Atoi: "Atoi is equivalent to ParseInt(s, 10, 0), converted to type int.": AT A DECIMAL NUMERAL OF AT MOST 18 BYTES: its value, and a nil error. The world behind the call: the one new row that the library's '[]byte(s)' lays. (LAID: no walk: one application.) -/
theorem Tryd.strconv_Atoi (s : ByteArray) (n : Int) (hl : s.size ≤ 18) (h : Lib.atoi s.data.toList = some n) (w : World) :
    Calls Tryd.prog 32 #[.string s] w fun e w' => e = .returned (.tuple #[.int .i64 n, .nilIface]) ∧ ∃ t, w' = Lib.bytesWorld w 5 t := Any.strconv_Atoi Tryd.lays172 s n hl h w
def Tryd.lays129_ren : Go.Shelf.Ren := ⟨fun | 129 => 53 | n => n, fun | 53 => 133 | 3 => 3 | 4 => 4 | 46 => 120 | 5 => 5 | 9 => 9 | n => n, fun | n => n⟩
theorem Tryd.lays129 : Go.Proofs.Lays.n129 Tryd.prog Tryd.lays129_ren := {
  mixed := by kernel_rfl
  f129 := Tryd.func53.trans (congrArg some (by kernel_rfl))
  t3 := Tryd.underlying3
  a3 := Tryd.isAgg3
  z3 := Tryd.sizeOf3
  v3 := Tryd.zeroValue3
  t4 := Tryd.underlying4
  a4 := Tryd.isAgg4
  z4 := Tryd.sizeOf4
  v4 := Tryd.zeroValue4
  t5 := Tryd.underlying5
  a5 := Tryd.isAgg5
  z5 := Tryd.sizeOf5
  v5 := Tryd.zeroValue5
  t9 := Tryd.underlying9
  a9 := Tryd.isAgg9
  z9 := Tryd.sizeOf9
  v9 := Tryd.zeroValue9
  t46 := Tryd.underlying120
  a46 := Tryd.isAgg120
  z46 := Tryd.sizeOf120
  v46 := Tryd.zeroValue120
  t53 := Tryd.underlying133
  a53 := Tryd.isAgg133
  z53 := Tryd.sizeOf133
  v53 := Tryd.zeroValue133 }
/-- bits.Len64: "Len64 returns the minimum number of bits required to represent x; the result is 0 for x == 0.": IT RETURNS 'Lib.bitLen x'; the world is as it was. ('h0', 'h1': x is a uint64.) (LAID: no walk: one application.) -/
theorem Tryd.bits_Len64 (x : Int) (w : World) (h0 : 0 ≤ x) (h1 : x ≤ 18446744073709551615) :
    Calls Tryd.prog 53 #[.int .u64 x] w fun e w' => e = .returned (.int .i64 (Lib.bitLen x.toNat)) ∧ w' = w := Any.bits_Len64 Tryd.lays129 x w h0 h1
def Tryd.lays317_ren : Go.Shelf.Ren := ⟨fun | 317 => 52 | n => n, fun | 3 => 3 | 46 => 120 | n => n, fun | n => n⟩
theorem Tryd.lays317 : Go.Proofs.Lays.n317 Tryd.prog Tryd.lays317_ren := {
  mixed := by kernel_rfl
  f317 := Tryd.func52.trans (congrArg some (by kernel_rfl))
  t3 := Tryd.underlying3
  a3 := Tryd.isAgg3
  z3 := Tryd.sizeOf3
  v3 := Tryd.zeroValue3
  t46 := Tryd.underlying120
  a46 := Tryd.isAgg120
  z46 := Tryd.sizeOf120
  v46 := Tryd.zeroValue120 }
open Go.Lib in
/-- internal/strconv.log10Pow2: "log10Pow2(x) returns ⌊log₁₀ 2**x⌋ = ⌊x * log₁₀ 2⌋.": '(x * 78913) >> 18', at an x up to 64 (a length in bits). The world is as it was. (LAID: no walk: one application.) -/
theorem Tryd.internal_strconv_log10Pow2 (x : Nat) (h : x ≤ 64) (w : World) :
    Calls Tryd.prog 52 #[.int .i64 x] w fun e w' => e = .returned (.int .i64 (Lib.l10 x)) ∧ w' = w := Any.internal_strconv_log10Pow2 Tryd.lays317 x h w
def Tryd.lays318_ren : Go.Shelf.Ren := ⟨fun | 318 => 54 | n => n, fun | 3 => 3 | 4 => 4 | n => n, fun | n => n⟩
theorem Tryd.lays318 : Go.Proofs.Lays.n318 Tryd.prog Tryd.lays318_ren := {
  mixed := by kernel_rfl
  f318 := Tryd.func54.trans (congrArg some (by kernel_rfl))
  t3 := Tryd.underlying3
  a3 := Tryd.isAgg3
  z3 := Tryd.sizeOf3
  v3 := Tryd.zeroValue3
  t4 := Tryd.underlying4
  a4 := Tryd.isAgg4
  z4 := Tryd.sizeOf4
  v4 := Tryd.zeroValue4 }
open Go.Lib in
/-- internal/strconv.bool2: "bool2 converts b to an integer: 1 for true, 0 for false." The world is as it was. (LAID: no walk: one application.) -/
theorem Tryd.internal_strconv_bool2_int (b : Bool) (w : World) :
    Calls Tryd.prog 54 #[.bool b] w fun e w' => e = .returned (.int .i64 (if b then 1 else 0)) ∧ w' = w := Any.internal_strconv_bool2_int Tryd.lays318 b w
def Tryd.lays283_ren : Go.Shelf.Ren := ⟨fun | 283 => 48 | n => n, fun | 3 => 3 | 9 => 9 | 4 => 4 | n => n, fun | n => n⟩
theorem Tryd.lays283 : Go.Proofs.Lays.n283 Tryd.prog Tryd.lays283_ren := {
  mixed := by kernel_rfl
  f283 := Tryd.func48.trans (congrArg some (by kernel_rfl))
  t3 := Tryd.underlying3
  a3 := Tryd.isAgg3
  z3 := Tryd.sizeOf3
  v3 := Tryd.zeroValue3
  t4 := Tryd.underlying4
  a4 := Tryd.isAgg4
  z4 := Tryd.sizeOf4
  v4 := Tryd.zeroValue4
  t9 := Tryd.underlying9
  a9 := Tryd.isAgg9
  z9 := Tryd.sizeOf9
  v9 := Tryd.zeroValue9 }
open Go.Lib in
/-- internal/strconv.small: "small returns the string for an i with 0 <= i < nSmalls.": i's decimal numeral. The world is as it was. (LAID: no walk: one application.) -/
theorem Tryd.internal_strconv_small (i : Nat) (h : i < 100) (w : World) :
    Calls Tryd.prog 48 #[.int .i64 i] w fun e w' => e = .returned (.string ⟨(Lib.decDigits i).toArray⟩) ∧ w' = w := Any.internal_strconv_small Tryd.lays283 i h w
def Tryd.laysM284_ren : Go.Shelf.Ren := ⟨fun | 284 => 49 | 129 => 53 | 317 => 52 | 318 => 54 | n => n, fun | 53 => 133 | 3 => 3 | 212 => 149 | 0 => 0 | 4 => 4 | 46 => 120 | 5 => 5 | 9 => 9 | n => n, fun | 17 => 6 | n => n⟩
theorem Tryd.laysM284 : Go.Proofs.LaysM.n284 Tryd.prog Tryd.laysM284_ren := {
  mixed := by kernel_rfl
  f129 := Tryd.func53.trans (congrArg some (by kernel_rfl))
  f284 := Tryd.func49.trans (congrArg some (by kernel_rfl))
  f317 := Tryd.func52.trans (congrArg some (by kernel_rfl))
  f318 := Tryd.func54.trans (congrArg some (by kernel_rfl))
  t0 := Tryd.underlying0
  a0 := Tryd.isAgg0
  z0 := Tryd.sizeOf0
  v0 := Tryd.zeroValue0
  t3 := Tryd.underlying3
  a3 := Tryd.isAgg3
  z3 := Tryd.sizeOf3
  v3 := Tryd.zeroValue3
  t4 := Tryd.underlying4
  a4 := Tryd.isAgg4
  z4 := Tryd.sizeOf4
  v4 := Tryd.zeroValue4
  t5 := Tryd.underlying5
  a5 := Tryd.isAgg5
  z5 := Tryd.sizeOf5
  v5 := Tryd.zeroValue5
  t9 := Tryd.underlying9
  a9 := Tryd.isAgg9
  z9 := Tryd.sizeOf9
  v9 := Tryd.zeroValue9
  t46 := Tryd.underlying120
  a46 := Tryd.isAgg120
  z46 := Tryd.sizeOf120
  v46 := Tryd.zeroValue120
  t53 := Tryd.underlying133
  a53 := Tryd.isAgg133
  z53 := Tryd.sizeOf133
  v53 := Tryd.zeroValue133
  t212 := Tryd.underlying149
  a212 := Tryd.isAgg149
  z212 := Tryd.sizeOf149
  v212 := Tryd.zeroValue149
  g17 := by kernel_rfl
  i0 := by kernel_rfl
  i3 := by kernel_rfl
  i4 := by kernel_rfl
  i5 := by kernel_rfl
  i9 := by kernel_rfl
  i46 := by kernel_rfl
  i53 := by kernel_rfl
  i212 := by kernel_rfl
  m17 := by kernel_rfl }
open Go.Lib in
/-- internal/strconv.numDigits, at a d that is not 0: THE NUMBER OF d's DECIMAL DIGITS. The world is as it was. (LAID: no walk: one application.) -/
theorem Tryd.internal_strconv_numDigits (u : Nat) (h1 : 1 ≤ u) (h2 : u < 18446744073709551616) (w : World) (htab : Lib.TabIs Tryd.prog w "internal/strconv.uint64pow10" .u64 Lib.pow10Tab) :
    Calls Tryd.prog 49 #[.int .u64 u] w fun e w' => e = .returned (.int .i64 (Lib.nDigits u)) ∧ w' = w := Any.internal_strconv_numDigits Tryd.laysM284 u h1 h2 w htab
def Tryd.lays285_ren : Go.Shelf.Ren := ⟨fun | 285 => 50 | n => n, fun | 37 => 127 | 53 => 133 | 3 => 3 | 4 => 4 | 51 => 99 | 9 => 9 | 5 => 5 | 0 => 0 | n => n, fun | n => n⟩
theorem Tryd.lays285 : Go.Proofs.Lays.n285 Tryd.prog Tryd.lays285_ren := {
  mixed := by kernel_rfl
  f285 := Tryd.func50.trans (congrArg some (by kernel_rfl))
  t0 := Tryd.underlying0
  a0 := Tryd.isAgg0
  z0 := Tryd.sizeOf0
  v0 := Tryd.zeroValue0
  t3 := Tryd.underlying3
  a3 := Tryd.isAgg3
  z3 := Tryd.sizeOf3
  v3 := Tryd.zeroValue3
  t4 := Tryd.underlying4
  a4 := Tryd.isAgg4
  z4 := Tryd.sizeOf4
  v4 := Tryd.zeroValue4
  t5 := Tryd.underlying5
  a5 := Tryd.isAgg5
  z5 := Tryd.sizeOf5
  v5 := Tryd.zeroValue5
  t9 := Tryd.underlying9
  a9 := Tryd.isAgg9
  z9 := Tryd.sizeOf9
  v9 := Tryd.zeroValue9
  t37 := Tryd.underlying127
  a37 := Tryd.isAgg127
  z37 := Tryd.sizeOf127
  v37 := Tryd.zeroValue127
  t51 := Tryd.underlying99
  a51 := Tryd.isAgg99
  z51 := Tryd.sizeOf99
  v51 := Tryd.zeroValue99
  t53 := Tryd.underlying133
  a53 := Tryd.isAgg133
  z53 := Tryd.sizeOf133
  v53 := Tryd.zeroValue133 }
open Go.RowKit Go.Sort Go.Lib in
/-- internal/strconv.formatBase10: "formatBase10 formats the decimal representation of u into a. The caller is responsible for ensuring that a is big enough to hold u. If a is too big, leading zeros will be filled in as needed.": THE ROW HOLDS u's DIGITS ('FmtInv .. 0 ..': every place t holds 'dg u (len - 1 - t)'); all else is as it was but for the count of draws. (LAID: no walk: one application.) -/
theorem Tryd.internal_strconv_formatBase10 (blk off cap : Nat) (u : Nat) (d : Array UInt8) (w : World) (hH : Holds (fun (b : UInt8) => Value.int .u8 (b.toNat : Int)) w blk off d) (hu : u < 10 ^ d.size) (hu64 : u < 18446744073709551616) (hsz : d.size < 4611686018427387904) :
    Calls Tryd.prog 50 #[.slice (some ⟨blk, off, none⟩) d.size cap, .int .u64 u] w fun e w' =>
      e = .returned (.tuple #[]) ∧ ∃ (n v' : Nat) (dk : Array UInt8), w' = (putRow (fun (b : UInt8) => Value.int .u8 (b.toNat : Int)) w blk off dk).drewN n ∧ FmtInv d.size u 0 v' dk := Any.internal_strconv_formatBase10 Tryd.lays285 blk off cap u d w hH hu hu64 hsz
def Tryd.laysM246_ren : Go.Shelf.Ren := ⟨fun | 246 => 47 | 283 => 48 | 284 => 49 | 285 => 50 | 286 => 51 | 129 => 53 | 317 => 52 | 318 => 54 | 319 => 55 | 320 => 56 | 337 => 57 | 338 => 58 | n => n, fun | 2 => 2 | 3 => 3 | 9 => 9 | 4 => 4 | 171 => 142 | 0 => 0 | 53 => 133 | 37 => 127 | 5 => 5 | 173 => 145 | 212 => 149 | 51 => 99 | 20 => 20 | 213 => 150 | 46 => 120 | 232 => 154 | 233 => 155 | n => n, fun | 17 => 6 | 18 => 7 | 19 => 8 | n => n⟩
theorem Tryd.laysM246 : Go.Proofs.LaysM.n246 Tryd.prog Tryd.laysM246_ren := {
  mixed := by kernel_rfl
  f129 := Tryd.func53.trans (congrArg some (by kernel_rfl))
  f246 := Tryd.func47.trans (congrArg some (by kernel_rfl))
  f283 := Tryd.func48.trans (congrArg some (by kernel_rfl))
  f284 := Tryd.func49.trans (congrArg some (by kernel_rfl))
  f285 := Tryd.func50.trans (congrArg some (by kernel_rfl))
  f286 := Tryd.func51.trans (congrArg some (by kernel_rfl))
  f317 := Tryd.func52.trans (congrArg some (by kernel_rfl))
  f318 := Tryd.func54.trans (congrArg some (by kernel_rfl))
  f319 := Tryd.func55.trans (congrArg some (by kernel_rfl))
  f320 := Tryd.func56.trans (congrArg some (by kernel_rfl))
  f337 := Tryd.func57.trans (congrArg some (by kernel_rfl))
  f338 := Tryd.func58.trans (congrArg some (by kernel_rfl))
  t0 := Tryd.underlying0
  a0 := Tryd.isAgg0
  z0 := Tryd.sizeOf0
  v0 := Tryd.zeroValue0
  t2 := Tryd.underlying2
  a2 := Tryd.isAgg2
  z2 := Tryd.sizeOf2
  v2 := Tryd.zeroValue2
  t3 := Tryd.underlying3
  a3 := Tryd.isAgg3
  z3 := Tryd.sizeOf3
  v3 := Tryd.zeroValue3
  t4 := Tryd.underlying4
  a4 := Tryd.isAgg4
  z4 := Tryd.sizeOf4
  v4 := Tryd.zeroValue4
  t5 := Tryd.underlying5
  a5 := Tryd.isAgg5
  z5 := Tryd.sizeOf5
  v5 := Tryd.zeroValue5
  t9 := Tryd.underlying9
  a9 := Tryd.isAgg9
  z9 := Tryd.sizeOf9
  v9 := Tryd.zeroValue9
  t20 := Tryd.underlying20
  a20 := Tryd.isAgg20
  z20 := Tryd.sizeOf20
  v20 := Tryd.zeroValue20
  t37 := Tryd.underlying127
  a37 := Tryd.isAgg127
  z37 := Tryd.sizeOf127
  v37 := Tryd.zeroValue127
  t46 := Tryd.underlying120
  a46 := Tryd.isAgg120
  z46 := Tryd.sizeOf120
  v46 := Tryd.zeroValue120
  t51 := Tryd.underlying99
  a51 := Tryd.isAgg99
  z51 := Tryd.sizeOf99
  v51 := Tryd.zeroValue99
  t53 := Tryd.underlying133
  a53 := Tryd.isAgg133
  z53 := Tryd.sizeOf133
  v53 := Tryd.zeroValue133
  t171 := Tryd.underlying142
  a171 := Tryd.isAgg142
  z171 := Tryd.sizeOf142
  v171 := Tryd.zeroValue142
  t173 := Tryd.underlying145
  a173 := Tryd.isAgg145
  z173 := Tryd.sizeOf145
  v173 := Tryd.zeroValue145
  t212 := Tryd.underlying149
  a212 := Tryd.isAgg149
  z212 := Tryd.sizeOf149
  v212 := Tryd.zeroValue149
  t213 := Tryd.underlying150
  a213 := Tryd.isAgg150
  z213 := Tryd.sizeOf150
  t232 := Tryd.underlying154
  a232 := Tryd.isAgg154
  z232 := Tryd.sizeOf154
  v232 := Tryd.zeroValue154
  t233 := Tryd.underlying155
  a233 := Tryd.isAgg155
  z233 := Tryd.sizeOf155
  v233 := Tryd.zeroValue155
  g17 := by kernel_rfl
  g18 := by kernel_rfl
  g19 := by kernel_rfl
  i0 := by kernel_rfl
  i2 := by kernel_rfl
  i3 := by kernel_rfl
  i4 := by kernel_rfl
  i5 := by kernel_rfl
  i9 := by kernel_rfl
  i20 := by kernel_rfl
  i37 := by kernel_rfl
  i46 := by kernel_rfl
  i51 := by kernel_rfl
  i53 := by kernel_rfl
  i171 := by kernel_rfl
  i173 := by kernel_rfl
  i212 := by kernel_rfl
  i232 := by kernel_rfl
  i233 := by kernel_rfl
  m17 := by kernel_rfl
  m18 := by kernel_rfl
  m19 := by kernel_rfl }
open Go.RowKit Go.Sort Go.Lib in
/-- internal/strconv.FormatInt: "FormatInt returns the string representation of i in the given base": AT BASE 10: i's decimal numeral, for every int64. The world behind the call: the world before it, new blocks behind the heap, draws. (LAID: no walk: one application.) -/
theorem Tryd.internal_strconv_FormatInt_10 (n : Int) (h0 : -9223372036854775808 ≤ n) (h1 : n ≤ 9223372036854775807) (w : World) (htab : Lib.TabIs Tryd.prog w "internal/strconv.uint64pow10" .u64 Lib.pow10Tab) :
    Calls Tryd.prog 47 #[.int .i64 n, .int .i64 10] w fun e w' => e = .returned (.string ⟨(Lib.itoa n).toArray⟩) ∧ ∃ k os, w' = grow (w.drewN k) os := Any.internal_strconv_FormatInt_10 Tryd.laysM246 n h0 h1 w htab
def Tryd.lays246_ren : Go.Shelf.Ren := ⟨fun | 246 => 47 | 283 => 48 | 284 => 49 | 285 => 50 | 286 => 51 | 129 => 53 | 317 => 52 | 318 => 54 | 319 => 55 | 320 => 56 | 337 => 57 | 338 => 58 | n => n, fun | 2 => 2 | 3 => 3 | 9 => 9 | 4 => 4 | 171 => 142 | 0 => 0 | 53 => 133 | 37 => 127 | 5 => 5 | 173 => 145 | 212 => 149 | 51 => 99 | 20 => 20 | 213 => 150 | 46 => 120 | 232 => 154 | 233 => 155 | n => n, fun | 17 => 6 | 18 => 7 | 19 => 8 | n => n⟩
theorem Tryd.lays246 : Go.Proofs.Lays.n246 Tryd.prog Tryd.lays246_ren := {
  mixed := by kernel_rfl
  f129 := Tryd.func53.trans (congrArg some (by kernel_rfl))
  f246 := Tryd.func47.trans (congrArg some (by kernel_rfl))
  f283 := Tryd.func48.trans (congrArg some (by kernel_rfl))
  f284 := Tryd.func49.trans (congrArg some (by kernel_rfl))
  f285 := Tryd.func50.trans (congrArg some (by kernel_rfl))
  f286 := Tryd.func51.trans (congrArg some (by kernel_rfl))
  f317 := Tryd.func52.trans (congrArg some (by kernel_rfl))
  f318 := Tryd.func54.trans (congrArg some (by kernel_rfl))
  f319 := Tryd.func55.trans (congrArg some (by kernel_rfl))
  f320 := Tryd.func56.trans (congrArg some (by kernel_rfl))
  f337 := Tryd.func57.trans (congrArg some (by kernel_rfl))
  f338 := Tryd.func58.trans (congrArg some (by kernel_rfl))
  t0 := Tryd.underlying0
  a0 := Tryd.isAgg0
  z0 := Tryd.sizeOf0
  v0 := Tryd.zeroValue0
  t2 := Tryd.underlying2
  a2 := Tryd.isAgg2
  z2 := Tryd.sizeOf2
  v2 := Tryd.zeroValue2
  t3 := Tryd.underlying3
  a3 := Tryd.isAgg3
  z3 := Tryd.sizeOf3
  v3 := Tryd.zeroValue3
  t4 := Tryd.underlying4
  a4 := Tryd.isAgg4
  z4 := Tryd.sizeOf4
  v4 := Tryd.zeroValue4
  t5 := Tryd.underlying5
  a5 := Tryd.isAgg5
  z5 := Tryd.sizeOf5
  v5 := Tryd.zeroValue5
  t9 := Tryd.underlying9
  a9 := Tryd.isAgg9
  z9 := Tryd.sizeOf9
  v9 := Tryd.zeroValue9
  t20 := Tryd.underlying20
  a20 := Tryd.isAgg20
  z20 := Tryd.sizeOf20
  v20 := Tryd.zeroValue20
  t37 := Tryd.underlying127
  a37 := Tryd.isAgg127
  z37 := Tryd.sizeOf127
  v37 := Tryd.zeroValue127
  t46 := Tryd.underlying120
  a46 := Tryd.isAgg120
  z46 := Tryd.sizeOf120
  v46 := Tryd.zeroValue120
  t51 := Tryd.underlying99
  a51 := Tryd.isAgg99
  z51 := Tryd.sizeOf99
  v51 := Tryd.zeroValue99
  t53 := Tryd.underlying133
  a53 := Tryd.isAgg133
  z53 := Tryd.sizeOf133
  v53 := Tryd.zeroValue133
  t171 := Tryd.underlying142
  a171 := Tryd.isAgg142
  z171 := Tryd.sizeOf142
  v171 := Tryd.zeroValue142
  t173 := Tryd.underlying145
  a173 := Tryd.isAgg145
  z173 := Tryd.sizeOf145
  v173 := Tryd.zeroValue145
  t212 := Tryd.underlying149
  a212 := Tryd.isAgg149
  z212 := Tryd.sizeOf149
  v212 := Tryd.zeroValue149
  t213 := Tryd.underlying150
  a213 := Tryd.isAgg150
  z213 := Tryd.sizeOf150
  t232 := Tryd.underlying154
  a232 := Tryd.isAgg154
  z232 := Tryd.sizeOf154
  v232 := Tryd.zeroValue154
  t233 := Tryd.underlying155
  a233 := Tryd.isAgg155
  z233 := Tryd.sizeOf155
  v233 := Tryd.zeroValue155
  g17 := by kernel_rfl
  g18 := by kernel_rfl
  g19 := by kernel_rfl }
open Go.RowKit Go.Sort Go.Lib in
/-- THE ROAD WITHOUT THE TABLE: 0 <= i < 100: two constants are read, nothing is laid: no premise on the world, and the world is as it was. (LAID: no walk: one application.) -/
theorem Tryd.internal_strconv_FormatInt_10_small (i : Nat) (hi : i < 100) (w : World) :
    Calls Tryd.prog 47 #[.int .i64 i, .int .i64 10] w fun e w' => e = .returned (.string ⟨(Lib.decDigits i).toArray⟩) ∧ w' = w := Any.internal_strconv_FormatInt_10_small Tryd.lays246 i hi w
def Tryd.laysM243_ren : Go.Shelf.Ren := ⟨fun | 243 => 46 | 246 => 47 | 283 => 48 | 284 => 49 | 285 => 50 | 286 => 51 | 129 => 53 | 317 => 52 | 318 => 54 | 319 => 55 | 320 => 56 | 337 => 57 | 338 => 58 | n => n, fun | 3 => 3 | 9 => 9 | 2 => 2 | 4 => 4 | 171 => 142 | 0 => 0 | 53 => 133 | 37 => 127 | 5 => 5 | 173 => 145 | 212 => 149 | 51 => 99 | 20 => 20 | 213 => 150 | 46 => 120 | 232 => 154 | 233 => 155 | n => n, fun | 17 => 6 | 18 => 7 | 19 => 8 | n => n⟩
theorem Tryd.laysM243 : Go.Proofs.LaysM.n243 Tryd.prog Tryd.laysM243_ren := {
  mixed := by kernel_rfl
  f129 := Tryd.func53.trans (congrArg some (by kernel_rfl))
  f243 := Tryd.func46.trans (congrArg some (by kernel_rfl))
  f246 := Tryd.func47.trans (congrArg some (by kernel_rfl))
  f283 := Tryd.func48.trans (congrArg some (by kernel_rfl))
  f284 := Tryd.func49.trans (congrArg some (by kernel_rfl))
  f285 := Tryd.func50.trans (congrArg some (by kernel_rfl))
  f286 := Tryd.func51.trans (congrArg some (by kernel_rfl))
  f317 := Tryd.func52.trans (congrArg some (by kernel_rfl))
  f318 := Tryd.func54.trans (congrArg some (by kernel_rfl))
  f319 := Tryd.func55.trans (congrArg some (by kernel_rfl))
  f320 := Tryd.func56.trans (congrArg some (by kernel_rfl))
  f337 := Tryd.func57.trans (congrArg some (by kernel_rfl))
  f338 := Tryd.func58.trans (congrArg some (by kernel_rfl))
  t0 := Tryd.underlying0
  a0 := Tryd.isAgg0
  z0 := Tryd.sizeOf0
  v0 := Tryd.zeroValue0
  t2 := Tryd.underlying2
  a2 := Tryd.isAgg2
  z2 := Tryd.sizeOf2
  v2 := Tryd.zeroValue2
  t3 := Tryd.underlying3
  a3 := Tryd.isAgg3
  z3 := Tryd.sizeOf3
  v3 := Tryd.zeroValue3
  t4 := Tryd.underlying4
  a4 := Tryd.isAgg4
  z4 := Tryd.sizeOf4
  v4 := Tryd.zeroValue4
  t5 := Tryd.underlying5
  a5 := Tryd.isAgg5
  z5 := Tryd.sizeOf5
  v5 := Tryd.zeroValue5
  t9 := Tryd.underlying9
  a9 := Tryd.isAgg9
  z9 := Tryd.sizeOf9
  v9 := Tryd.zeroValue9
  t20 := Tryd.underlying20
  a20 := Tryd.isAgg20
  z20 := Tryd.sizeOf20
  v20 := Tryd.zeroValue20
  t37 := Tryd.underlying127
  a37 := Tryd.isAgg127
  z37 := Tryd.sizeOf127
  v37 := Tryd.zeroValue127
  t46 := Tryd.underlying120
  a46 := Tryd.isAgg120
  z46 := Tryd.sizeOf120
  v46 := Tryd.zeroValue120
  t51 := Tryd.underlying99
  a51 := Tryd.isAgg99
  z51 := Tryd.sizeOf99
  v51 := Tryd.zeroValue99
  t53 := Tryd.underlying133
  a53 := Tryd.isAgg133
  z53 := Tryd.sizeOf133
  v53 := Tryd.zeroValue133
  t171 := Tryd.underlying142
  a171 := Tryd.isAgg142
  z171 := Tryd.sizeOf142
  v171 := Tryd.zeroValue142
  t173 := Tryd.underlying145
  a173 := Tryd.isAgg145
  z173 := Tryd.sizeOf145
  v173 := Tryd.zeroValue145
  t212 := Tryd.underlying149
  a212 := Tryd.isAgg149
  z212 := Tryd.sizeOf149
  v212 := Tryd.zeroValue149
  t213 := Tryd.underlying150
  a213 := Tryd.isAgg150
  z213 := Tryd.sizeOf150
  t232 := Tryd.underlying154
  a232 := Tryd.isAgg154
  z232 := Tryd.sizeOf154
  v232 := Tryd.zeroValue154
  t233 := Tryd.underlying155
  a233 := Tryd.isAgg155
  z233 := Tryd.sizeOf155
  v233 := Tryd.zeroValue155
  g17 := by kernel_rfl
  g18 := by kernel_rfl
  g19 := by kernel_rfl
  i0 := by kernel_rfl
  i2 := by kernel_rfl
  i3 := by kernel_rfl
  i4 := by kernel_rfl
  i5 := by kernel_rfl
  i9 := by kernel_rfl
  i20 := by kernel_rfl
  i37 := by kernel_rfl
  i46 := by kernel_rfl
  i51 := by kernel_rfl
  i53 := by kernel_rfl
  i171 := by kernel_rfl
  i173 := by kernel_rfl
  i212 := by kernel_rfl
  i232 := by kernel_rfl
  i233 := by kernel_rfl
  m17 := by kernel_rfl
  m18 := by kernel_rfl
  m19 := by kernel_rfl }
open Go.RowKit Go.Sort Go.Lib in
/-- internal/strconv.Itoa: "Itoa is equivalent to FormatInt(int64(i), 10).": i's decimal numeral, for every int. (LAID: no walk: one application.) -/
theorem Tryd.internal_strconv_Itoa (n : Int) (h0 : -9223372036854775808 ≤ n) (h1 : n ≤ 9223372036854775807) (w : World) (htab : Lib.TabIs Tryd.prog w "internal/strconv.uint64pow10" .u64 Lib.pow10Tab) :
    Calls Tryd.prog 46 #[.int .i64 n] w fun e w' => e = .returned (.string ⟨(Lib.itoa n).toArray⟩) ∧ ∃ k os, w' = grow (w.drewN k) os := Any.internal_strconv_Itoa Tryd.laysM243 n h0 h1 w htab
def Tryd.lays243_ren : Go.Shelf.Ren := ⟨fun | 243 => 46 | 246 => 47 | 283 => 48 | 284 => 49 | 285 => 50 | 286 => 51 | 129 => 53 | 317 => 52 | 318 => 54 | 319 => 55 | 320 => 56 | 337 => 57 | 338 => 58 | n => n, fun | 3 => 3 | 9 => 9 | 2 => 2 | 4 => 4 | 171 => 142 | 0 => 0 | 53 => 133 | 37 => 127 | 5 => 5 | 173 => 145 | 212 => 149 | 51 => 99 | 20 => 20 | 213 => 150 | 46 => 120 | 232 => 154 | 233 => 155 | n => n, fun | 17 => 6 | 18 => 7 | 19 => 8 | n => n⟩
theorem Tryd.lays243 : Go.Proofs.Lays.n243 Tryd.prog Tryd.lays243_ren := {
  mixed := by kernel_rfl
  f129 := Tryd.func53.trans (congrArg some (by kernel_rfl))
  f243 := Tryd.func46.trans (congrArg some (by kernel_rfl))
  f246 := Tryd.func47.trans (congrArg some (by kernel_rfl))
  f283 := Tryd.func48.trans (congrArg some (by kernel_rfl))
  f284 := Tryd.func49.trans (congrArg some (by kernel_rfl))
  f285 := Tryd.func50.trans (congrArg some (by kernel_rfl))
  f286 := Tryd.func51.trans (congrArg some (by kernel_rfl))
  f317 := Tryd.func52.trans (congrArg some (by kernel_rfl))
  f318 := Tryd.func54.trans (congrArg some (by kernel_rfl))
  f319 := Tryd.func55.trans (congrArg some (by kernel_rfl))
  f320 := Tryd.func56.trans (congrArg some (by kernel_rfl))
  f337 := Tryd.func57.trans (congrArg some (by kernel_rfl))
  f338 := Tryd.func58.trans (congrArg some (by kernel_rfl))
  t0 := Tryd.underlying0
  a0 := Tryd.isAgg0
  z0 := Tryd.sizeOf0
  v0 := Tryd.zeroValue0
  t2 := Tryd.underlying2
  a2 := Tryd.isAgg2
  z2 := Tryd.sizeOf2
  v2 := Tryd.zeroValue2
  t3 := Tryd.underlying3
  a3 := Tryd.isAgg3
  z3 := Tryd.sizeOf3
  v3 := Tryd.zeroValue3
  t4 := Tryd.underlying4
  a4 := Tryd.isAgg4
  z4 := Tryd.sizeOf4
  v4 := Tryd.zeroValue4
  t5 := Tryd.underlying5
  a5 := Tryd.isAgg5
  z5 := Tryd.sizeOf5
  v5 := Tryd.zeroValue5
  t9 := Tryd.underlying9
  a9 := Tryd.isAgg9
  z9 := Tryd.sizeOf9
  v9 := Tryd.zeroValue9
  t20 := Tryd.underlying20
  a20 := Tryd.isAgg20
  z20 := Tryd.sizeOf20
  v20 := Tryd.zeroValue20
  t37 := Tryd.underlying127
  a37 := Tryd.isAgg127
  z37 := Tryd.sizeOf127
  v37 := Tryd.zeroValue127
  t46 := Tryd.underlying120
  a46 := Tryd.isAgg120
  z46 := Tryd.sizeOf120
  v46 := Tryd.zeroValue120
  t51 := Tryd.underlying99
  a51 := Tryd.isAgg99
  z51 := Tryd.sizeOf99
  v51 := Tryd.zeroValue99
  t53 := Tryd.underlying133
  a53 := Tryd.isAgg133
  z53 := Tryd.sizeOf133
  v53 := Tryd.zeroValue133
  t171 := Tryd.underlying142
  a171 := Tryd.isAgg142
  z171 := Tryd.sizeOf142
  v171 := Tryd.zeroValue142
  t173 := Tryd.underlying145
  a173 := Tryd.isAgg145
  z173 := Tryd.sizeOf145
  v173 := Tryd.zeroValue145
  t212 := Tryd.underlying149
  a212 := Tryd.isAgg149
  z212 := Tryd.sizeOf149
  v212 := Tryd.zeroValue149
  t213 := Tryd.underlying150
  a213 := Tryd.isAgg150
  z213 := Tryd.sizeOf150
  t232 := Tryd.underlying154
  a232 := Tryd.isAgg154
  z232 := Tryd.sizeOf154
  v232 := Tryd.zeroValue154
  t233 := Tryd.underlying155
  a233 := Tryd.isAgg155
  z233 := Tryd.sizeOf155
  v233 := Tryd.zeroValue155
  g17 := by kernel_rfl
  g18 := by kernel_rfl
  g19 := by kernel_rfl }
open Go.RowKit Go.Sort Go.Lib in
/-- THE ROAD WITHOUT THE TABLE: 0 <= i < 100. (LAID: no walk: one application.) -/
theorem Tryd.internal_strconv_Itoa_small (i : Nat) (hi : i < 100) (w : World) :
    Calls Tryd.prog 46 #[.int .i64 i] w fun e w' => e = .returned (.string ⟨(Lib.decDigits i).toArray⟩) ∧ w' = w := Any.internal_strconv_Itoa_small Tryd.lays243 i hi w
def Tryd.laysM171_ren : Go.Shelf.Ren := ⟨fun | 171 => 43 | 243 => 46 | 246 => 47 | 283 => 48 | 284 => 49 | 285 => 50 | 286 => 51 | 129 => 53 | 317 => 52 | 318 => 54 | 319 => 55 | 320 => 56 | 337 => 57 | 338 => 58 | n => n, fun | 3 => 3 | 9 => 9 | 2 => 2 | 4 => 4 | 171 => 142 | 0 => 0 | 53 => 133 | 37 => 127 | 5 => 5 | 173 => 145 | 212 => 149 | 51 => 99 | 20 => 20 | 213 => 150 | 46 => 120 | 232 => 154 | 233 => 155 | n => n, fun | 17 => 6 | 18 => 7 | 19 => 8 | n => n⟩
theorem Tryd.laysM171 : Go.Proofs.LaysM.n171 Tryd.prog Tryd.laysM171_ren := {
  mixed := by kernel_rfl
  f129 := Tryd.func53.trans (congrArg some (by kernel_rfl))
  f171 := Tryd.func43.trans (congrArg some (by kernel_rfl))
  f243 := Tryd.func46.trans (congrArg some (by kernel_rfl))
  f246 := Tryd.func47.trans (congrArg some (by kernel_rfl))
  f283 := Tryd.func48.trans (congrArg some (by kernel_rfl))
  f284 := Tryd.func49.trans (congrArg some (by kernel_rfl))
  f285 := Tryd.func50.trans (congrArg some (by kernel_rfl))
  f286 := Tryd.func51.trans (congrArg some (by kernel_rfl))
  f317 := Tryd.func52.trans (congrArg some (by kernel_rfl))
  f318 := Tryd.func54.trans (congrArg some (by kernel_rfl))
  f319 := Tryd.func55.trans (congrArg some (by kernel_rfl))
  f320 := Tryd.func56.trans (congrArg some (by kernel_rfl))
  f337 := Tryd.func57.trans (congrArg some (by kernel_rfl))
  f338 := Tryd.func58.trans (congrArg some (by kernel_rfl))
  t0 := Tryd.underlying0
  a0 := Tryd.isAgg0
  z0 := Tryd.sizeOf0
  v0 := Tryd.zeroValue0
  t2 := Tryd.underlying2
  a2 := Tryd.isAgg2
  z2 := Tryd.sizeOf2
  v2 := Tryd.zeroValue2
  t3 := Tryd.underlying3
  a3 := Tryd.isAgg3
  z3 := Tryd.sizeOf3
  v3 := Tryd.zeroValue3
  t4 := Tryd.underlying4
  a4 := Tryd.isAgg4
  z4 := Tryd.sizeOf4
  v4 := Tryd.zeroValue4
  t5 := Tryd.underlying5
  a5 := Tryd.isAgg5
  z5 := Tryd.sizeOf5
  v5 := Tryd.zeroValue5
  t9 := Tryd.underlying9
  a9 := Tryd.isAgg9
  z9 := Tryd.sizeOf9
  v9 := Tryd.zeroValue9
  t20 := Tryd.underlying20
  a20 := Tryd.isAgg20
  z20 := Tryd.sizeOf20
  v20 := Tryd.zeroValue20
  t37 := Tryd.underlying127
  a37 := Tryd.isAgg127
  z37 := Tryd.sizeOf127
  v37 := Tryd.zeroValue127
  t46 := Tryd.underlying120
  a46 := Tryd.isAgg120
  z46 := Tryd.sizeOf120
  v46 := Tryd.zeroValue120
  t51 := Tryd.underlying99
  a51 := Tryd.isAgg99
  z51 := Tryd.sizeOf99
  v51 := Tryd.zeroValue99
  t53 := Tryd.underlying133
  a53 := Tryd.isAgg133
  z53 := Tryd.sizeOf133
  v53 := Tryd.zeroValue133
  t171 := Tryd.underlying142
  a171 := Tryd.isAgg142
  z171 := Tryd.sizeOf142
  v171 := Tryd.zeroValue142
  t173 := Tryd.underlying145
  a173 := Tryd.isAgg145
  z173 := Tryd.sizeOf145
  v173 := Tryd.zeroValue145
  t212 := Tryd.underlying149
  a212 := Tryd.isAgg149
  z212 := Tryd.sizeOf149
  v212 := Tryd.zeroValue149
  t213 := Tryd.underlying150
  a213 := Tryd.isAgg150
  z213 := Tryd.sizeOf150
  t232 := Tryd.underlying154
  a232 := Tryd.isAgg154
  z232 := Tryd.sizeOf154
  v232 := Tryd.zeroValue154
  t233 := Tryd.underlying155
  a233 := Tryd.isAgg155
  z233 := Tryd.sizeOf155
  v233 := Tryd.zeroValue155
  g17 := by kernel_rfl
  g18 := by kernel_rfl
  g19 := by kernel_rfl
  i0 := by kernel_rfl
  i2 := by kernel_rfl
  i3 := by kernel_rfl
  i4 := by kernel_rfl
  i5 := by kernel_rfl
  i9 := by kernel_rfl
  i20 := by kernel_rfl
  i37 := by kernel_rfl
  i46 := by kernel_rfl
  i51 := by kernel_rfl
  i53 := by kernel_rfl
  i171 := by kernel_rfl
  i173 := by kernel_rfl
  i212 := by kernel_rfl
  i232 := by kernel_rfl
  i233 := by kernel_rfl
  m17 := by kernel_rfl
  m18 := by kernel_rfl
  m19 := by kernel_rfl }
open Go.RowKit Go.Sort Go.Lib in
/-- strconv.Itoa: "Itoa is equivalent to FormatInt(int64(i), 10).": i's DECIMAL NUMERAL ('Lib.itoa': a '-' where i is negative, then the digits), FOR EVERY int. The world behind the call: the world before it, new blocks behind the heap (the library's 'var a [24]byte'), draws. (LAID: no walk: one application.) -/
theorem Tryd.strconv_Itoa (n : Int) (h0 : -9223372036854775808 ≤ n) (h1 : n ≤ 9223372036854775807) (w : World) (htab : Lib.TabIs Tryd.prog w "internal/strconv.uint64pow10" .u64 Lib.pow10Tab) :
    Calls Tryd.prog 43 #[.int .i64 n] w fun e w' => e = .returned (.string ⟨(Lib.itoa n).toArray⟩) ∧ ∃ k os, w' = grow (w.drewN k) os := Any.strconv_Itoa Tryd.laysM171 n h0 h1 w htab
def Tryd.lays171_ren : Go.Shelf.Ren := ⟨fun | 171 => 43 | 243 => 46 | 246 => 47 | 283 => 48 | 284 => 49 | 285 => 50 | 286 => 51 | 129 => 53 | 317 => 52 | 318 => 54 | 319 => 55 | 320 => 56 | 337 => 57 | 338 => 58 | n => n, fun | 3 => 3 | 9 => 9 | 2 => 2 | 4 => 4 | 171 => 142 | 0 => 0 | 53 => 133 | 37 => 127 | 5 => 5 | 173 => 145 | 212 => 149 | 51 => 99 | 20 => 20 | 213 => 150 | 46 => 120 | 232 => 154 | 233 => 155 | n => n, fun | 17 => 6 | 18 => 7 | 19 => 8 | n => n⟩
theorem Tryd.lays171 : Go.Proofs.Lays.n171 Tryd.prog Tryd.lays171_ren := {
  mixed := by kernel_rfl
  f129 := Tryd.func53.trans (congrArg some (by kernel_rfl))
  f171 := Tryd.func43.trans (congrArg some (by kernel_rfl))
  f243 := Tryd.func46.trans (congrArg some (by kernel_rfl))
  f246 := Tryd.func47.trans (congrArg some (by kernel_rfl))
  f283 := Tryd.func48.trans (congrArg some (by kernel_rfl))
  f284 := Tryd.func49.trans (congrArg some (by kernel_rfl))
  f285 := Tryd.func50.trans (congrArg some (by kernel_rfl))
  f286 := Tryd.func51.trans (congrArg some (by kernel_rfl))
  f317 := Tryd.func52.trans (congrArg some (by kernel_rfl))
  f318 := Tryd.func54.trans (congrArg some (by kernel_rfl))
  f319 := Tryd.func55.trans (congrArg some (by kernel_rfl))
  f320 := Tryd.func56.trans (congrArg some (by kernel_rfl))
  f337 := Tryd.func57.trans (congrArg some (by kernel_rfl))
  f338 := Tryd.func58.trans (congrArg some (by kernel_rfl))
  t0 := Tryd.underlying0
  a0 := Tryd.isAgg0
  z0 := Tryd.sizeOf0
  v0 := Tryd.zeroValue0
  t2 := Tryd.underlying2
  a2 := Tryd.isAgg2
  z2 := Tryd.sizeOf2
  v2 := Tryd.zeroValue2
  t3 := Tryd.underlying3
  a3 := Tryd.isAgg3
  z3 := Tryd.sizeOf3
  v3 := Tryd.zeroValue3
  t4 := Tryd.underlying4
  a4 := Tryd.isAgg4
  z4 := Tryd.sizeOf4
  v4 := Tryd.zeroValue4
  t5 := Tryd.underlying5
  a5 := Tryd.isAgg5
  z5 := Tryd.sizeOf5
  v5 := Tryd.zeroValue5
  t9 := Tryd.underlying9
  a9 := Tryd.isAgg9
  z9 := Tryd.sizeOf9
  v9 := Tryd.zeroValue9
  t20 := Tryd.underlying20
  a20 := Tryd.isAgg20
  z20 := Tryd.sizeOf20
  v20 := Tryd.zeroValue20
  t37 := Tryd.underlying127
  a37 := Tryd.isAgg127
  z37 := Tryd.sizeOf127
  v37 := Tryd.zeroValue127
  t46 := Tryd.underlying120
  a46 := Tryd.isAgg120
  z46 := Tryd.sizeOf120
  v46 := Tryd.zeroValue120
  t51 := Tryd.underlying99
  a51 := Tryd.isAgg99
  z51 := Tryd.sizeOf99
  v51 := Tryd.zeroValue99
  t53 := Tryd.underlying133
  a53 := Tryd.isAgg133
  z53 := Tryd.sizeOf133
  v53 := Tryd.zeroValue133
  t171 := Tryd.underlying142
  a171 := Tryd.isAgg142
  z171 := Tryd.sizeOf142
  v171 := Tryd.zeroValue142
  t173 := Tryd.underlying145
  a173 := Tryd.isAgg145
  z173 := Tryd.sizeOf145
  v173 := Tryd.zeroValue145
  t212 := Tryd.underlying149
  a212 := Tryd.isAgg149
  z212 := Tryd.sizeOf149
  v212 := Tryd.zeroValue149
  t213 := Tryd.underlying150
  a213 := Tryd.isAgg150
  z213 := Tryd.sizeOf150
  t232 := Tryd.underlying154
  a232 := Tryd.isAgg154
  z232 := Tryd.sizeOf154
  v232 := Tryd.zeroValue154
  t233 := Tryd.underlying155
  a233 := Tryd.isAgg155
  z233 := Tryd.sizeOf155
  v233 := Tryd.zeroValue155
  g17 := by kernel_rfl
  g18 := by kernel_rfl
  g19 := by kernel_rfl }
open Go.RowKit Go.Sort Go.Lib in
/-- THE ROAD WITHOUT THE TABLE: 0 <= i < 100: NO PREMISE ON THE WORLD, AND THE WORLD IS AS IT WAS: a row that keeps its argument in that range need list no table ('laid = []'). (LAID: no walk: one application.) -/
theorem Tryd.strconv_Itoa_small (i : Nat) (hi : i < 100) (w : World) :
    Calls Tryd.prog 43 #[.int .i64 i] w fun e w' => e = .returned (.string ⟨(Lib.decDigits i).toArray⟩) ∧ w' = w := Any.strconv_Itoa_small Tryd.lays171 i hi w
open Go.RowKit in
/-- internal/strconv.Atoi, at a string of 1 to 18 bytes THAT IS NO DECIMAL NUMERAL: 0, AND ErrSyntax (the package's own error number 2). The world behind the call: as it was, or with the one new row that '[]byte(s)' lays. (LAID: no walk: one application.) -/
theorem Tryd.internal_strconv_Atoi_err (s : ByteArray) (hl0 : 1 ≤ s.size) (hl : s.size ≤ 18) (h : Lib.atoi s.data.toList = none) (w : World) :
    Calls Tryd.prog 34 #[.string s] w fun e w' => e = .returned (.tuple #[.int .i64 0, (.iface 126 (.int .i64 2))]) ∧ (w' = w ∨ ∃ t, w' = Lib.bytesWorld w 5 t) := Any.internal_strconv_Atoi_err Tryd.lays244 s hl0 hl h w
def Tryd.lays247_ren : Go.Shelf.Ren := ⟨fun | 247 => 36 | 287 => 41 | 321 => 44 | 322 => 45 | n => n, fun | 9 => 9 | 3 => 3 | 2 => 2 | 75 => 35 | 4 => 4 | 167 => 126 | 5 => 5 | 53 => 133 | 175 => 134 | 46 => 120 | 37 => 127 | 0 => 0 | 21 => 21 | 80 => 39 | n => n, fun | n => n⟩
theorem Tryd.lays247 : Go.Proofs.Lays.n247 Tryd.prog Tryd.lays247_ren := {
  mixed := by kernel_rfl
  f247 := Tryd.func36.trans (congrArg some (by kernel_rfl))
  f287 := Tryd.func41.trans (congrArg some (by kernel_rfl))
  f321 := Tryd.func44.trans (congrArg some (by kernel_rfl))
  f322 := Tryd.func45.trans (congrArg some (by kernel_rfl))
  t0 := Tryd.underlying0
  a0 := Tryd.isAgg0
  z0 := Tryd.sizeOf0
  v0 := Tryd.zeroValue0
  t2 := Tryd.underlying2
  a2 := Tryd.isAgg2
  z2 := Tryd.sizeOf2
  v2 := Tryd.zeroValue2
  t3 := Tryd.underlying3
  a3 := Tryd.isAgg3
  z3 := Tryd.sizeOf3
  v3 := Tryd.zeroValue3
  t4 := Tryd.underlying4
  a4 := Tryd.isAgg4
  z4 := Tryd.sizeOf4
  v4 := Tryd.zeroValue4
  t5 := Tryd.underlying5
  a5 := Tryd.isAgg5
  z5 := Tryd.sizeOf5
  v5 := Tryd.zeroValue5
  t9 := Tryd.underlying9
  a9 := Tryd.isAgg9
  z9 := Tryd.sizeOf9
  v9 := Tryd.zeroValue9
  t21 := Tryd.underlying21
  a21 := Tryd.isAgg21
  z21 := Tryd.sizeOf21
  v21 := Tryd.zeroValue21
  t37 := Tryd.underlying127
  a37 := Tryd.isAgg127
  z37 := Tryd.sizeOf127
  v37 := Tryd.zeroValue127
  t46 := Tryd.underlying120
  a46 := Tryd.isAgg120
  z46 := Tryd.sizeOf120
  v46 := Tryd.zeroValue120
  t53 := Tryd.underlying133
  a53 := Tryd.isAgg133
  z53 := Tryd.sizeOf133
  v53 := Tryd.zeroValue133
  t75 := Tryd.underlying35
  a75 := Tryd.isAgg35
  z75 := Tryd.sizeOf35
  v75 := Tryd.zeroValue35
  t167 := Tryd.underlying126
  a167 := Tryd.isAgg126
  z167 := Tryd.sizeOf126
  v167 := Tryd.zeroValue126
  t175 := Tryd.underlying134
  a175 := Tryd.isAgg134
  z175 := Tryd.sizeOf134
  v175 := Tryd.zeroValue134 }
open Go.RowKit in
/-- internal/strconv.ParseInt at "": 'if s == "" { return 0, ErrSyntax }'. The world is as it was. (LAID: no walk: one application.) -/
theorem Tryd.internal_strconv_ParseInt_empty (base bits : Int) (w : World) :
    Calls Tryd.prog 36 #[.string ⟨#[]⟩, .int .i64 base, .int .i64 bits] w fun e w' => e = .returned (.tuple #[.int .i64 0, (.iface 126 (.int .i64 2))]) ∧ w' = w := Any.internal_strconv_ParseInt_empty Tryd.lays247 base bits w
open Go.RowKit in
/-- internal/strconv.Atoi at "". (LAID: no walk: one application.) -/
theorem Tryd.internal_strconv_Atoi_empty (w : World) :
    Calls Tryd.prog 34 #[.string ⟨#[]⟩] w fun e w' => e = .returned (.tuple #[.int .i64 0, (.iface 126 (.int .i64 2))]) ∧ w' = w := Any.internal_strconv_Atoi_empty Tryd.lays244 w
open Go.RowKit in
/-- internal/strconv.Atoi, AT EVERY STRING OF AT MOST 18 BYTES THAT IS NO DECIMAL NUMERAL: 0, and ErrSyntax. (LAID: no walk: one application.) -/
theorem Tryd.internal_strconv_Atoi_fail (s : ByteArray) (hl : s.size ≤ 18) (h : Lib.atoi s.data.toList = none) (w : World) :
    Calls Tryd.prog 34 #[.string s] w fun e w' => e = .returned (.tuple #[.int .i64 0, (.iface 126 (.int .i64 2))]) ∧ (w' = w ∨ ∃ t, w' = Lib.bytesWorld w 5 t) := Any.internal_strconv_Atoi_fail Tryd.lays244 s hl h w
def Tryd.laysM316_ren : Go.Shelf.Ren := ⟨fun | 316 => 42 | n => n, fun | 9 => 9 | 3 => 3 | 4 => 4 | 37 => 127 | 0 => 0 | 127 => 140 | 5 => 5 | n => n, fun | n => n⟩
theorem Tryd.laysM316 : Go.Proofs.LaysM.n316 Tryd.prog Tryd.laysM316_ren := {
  mixed := by kernel_rfl
  f316 := Tryd.func42.trans (congrArg some (by kernel_rfl))
  t0 := Tryd.underlying0
  a0 := Tryd.isAgg0
  z0 := Tryd.sizeOf0
  v0 := Tryd.zeroValue0
  t3 := Tryd.underlying3
  a3 := Tryd.isAgg3
  z3 := Tryd.sizeOf3
  v3 := Tryd.zeroValue3
  t4 := Tryd.underlying4
  a4 := Tryd.isAgg4
  z4 := Tryd.sizeOf4
  v4 := Tryd.zeroValue4
  t9 := Tryd.underlying9
  a9 := Tryd.isAgg9
  z9 := Tryd.sizeOf9
  v9 := Tryd.zeroValue9
  t37 := Tryd.underlying127
  a37 := Tryd.isAgg127
  z37 := Tryd.sizeOf127
  v37 := Tryd.zeroValue127
  t127 := Tryd.underlying140
  a127 := Tryd.isAgg140
  z127 := Tryd.sizeOf140
  v127 := Tryd.zeroValue140
  t5 := Tryd.underlying5
  a5 := Tryd.isAgg5
  z5 := Tryd.sizeOf5
  v5 := Tryd.zeroValue5
  i0 := by kernel_rfl
  i3 := by kernel_rfl
  i4 := by kernel_rfl
  i5 := by kernel_rfl
  i9 := by kernel_rfl
  i37 := by kernel_rfl
  i127 := by kernel_rfl }
open Go.RowKit in
/-- internal/stringslite.Clone (what strings.Clone calls): "Clone returns a fresh copy of s.": THE SAME BYTES. Of what was there nothing has turned (a new row is laid, and frozen, where s is not empty). (LAID: no walk: one application.) -/
theorem Tryd.stringslite_Clone (s : ByteArray) (w : World) (hlim : s.size ≤ 281474976710656) :
    Calls Tryd.prog 42 #[.string s] w fun e w' => e = .returned (.string s) ∧ Below w.heap.size w w' := Any.stringslite_Clone Tryd.laysM316 s w hlim
def Tryd.laysM279_ren : Go.Shelf.Ren := ⟨fun | 279 => 37 | 316 => 42 | n => n, fun | 9 => 9 | 168 => 130 | 75 => 35 | 210 => 137 | 3 => 3 | 4 => 4 | 37 => 127 | 0 => 0 | 127 => 140 | 80 => 39 | 5 => 5 | n => n, fun | 15 => 4 | n => n⟩
theorem Tryd.laysM279 : Go.Proofs.LaysM.n279 Tryd.prog Tryd.laysM279_ren := {
  mixed := by kernel_rfl
  f279 := Tryd.func37.trans (congrArg some (by kernel_rfl))
  f316 := Tryd.func42.trans (congrArg some (by kernel_rfl))
  t0 := Tryd.underlying0
  a0 := Tryd.isAgg0
  z0 := Tryd.sizeOf0
  v0 := Tryd.zeroValue0
  t3 := Tryd.underlying3
  a3 := Tryd.isAgg3
  z3 := Tryd.sizeOf3
  v3 := Tryd.zeroValue3
  t4 := Tryd.underlying4
  a4 := Tryd.isAgg4
  z4 := Tryd.sizeOf4
  v4 := Tryd.zeroValue4
  t9 := Tryd.underlying9
  a9 := Tryd.isAgg9
  z9 := Tryd.sizeOf9
  v9 := Tryd.zeroValue9
  t37 := Tryd.underlying127
  a37 := Tryd.isAgg127
  z37 := Tryd.sizeOf127
  v37 := Tryd.zeroValue127
  t75 := Tryd.underlying35
  a75 := Tryd.isAgg35
  z75 := Tryd.sizeOf35
  v75 := Tryd.zeroValue35
  t127 := Tryd.underlying140
  a127 := Tryd.isAgg140
  z127 := Tryd.sizeOf140
  v127 := Tryd.zeroValue140
  t168 := Tryd.underlying130
  a168 := Tryd.isAgg130
  z168 := Tryd.sizeOf130
  v168 := Tryd.zeroValue130
  t210 := Tryd.underlying137
  a210 := Tryd.isAgg137
  z210 := Tryd.sizeOf137
  v210 := Tryd.zeroValue137
  g15 := by kernel_rfl
  t5 := Tryd.underlying5
  a5 := Tryd.isAgg5
  z5 := Tryd.sizeOf5
  v5 := Tryd.zeroValue5
  t80 := Tryd.underlying39
  a80 := Tryd.isAgg39
  z80 := Tryd.sizeOf39
  v80 := Tryd.zeroValue39
  i0 := by kernel_rfl
  i3 := by kernel_rfl
  i4 := by kernel_rfl
  i5 := by kernel_rfl
  i9 := by kernel_rfl
  i37 := by kernel_rfl
  i75 := by kernel_rfl
  i80 := by kernel_rfl
  i127 := by kernel_rfl
  i168 := by kernel_rfl
  i210 := by kernel_rfl
  m15 := by kernel_rfl }
open Go.RowKit in
/-- strconv.syntaxError: '&NumError{fn, stringslite.Clone(str), ErrSyntax}': A POINTER TO A NEW BLOCK that holds fn, str's bytes, and what the variable ErrSyntax holds. Of what was there nothing has turned. (LAID: no walk: one application.) -/
theorem Tryd.strconv_syntaxError (fn s : ByteArray) (ev : Value) (w : World) (hlim : s.size ≤ 281474976710656) (hv : w.cell? ⟨4, 0, none⟩ = some ev) (hev : ev = .nilIface ∨ ∃ te pe, ev = .iface te pe) :
    Calls Tryd.prog 37 #[.string fn, .string s] w fun e w' => ∃ N, e = .returned (.pointer (some ⟨N, 0, none⟩)) ∧ w.heap.size ≤ N ∧ w'.heap[N]? = some (.cells #[.string fn, .string s, ev] 137 (0, 0)) ∧ Below w.heap.size w w' := Any.strconv_syntaxError Tryd.laysM279 fn s ev w hlim hv hev
def Tryd.laysC245_ren : Go.Shelf.Ren := ⟨fun | 245 => 35 | 279 => 37 | 280 => 38 | 281 => 39 | 282 => 40 | 316 => 42 | 171 => 43 | 205 => 14 | 243 => 46 | 246 => 47 | 283 => 48 | 284 => 49 | 285 => 50 | 286 => 51 | 129 => 53 | 317 => 52 | 318 => 54 | 319 => 55 | 320 => 56 | 337 => 57 | 338 => 58 | n => n, fun | 9 => 9 | 3 => 3 | 75 => 35 | 167 => 126 | 4 => 4 | 168 => 130 | 210 => 137 | 37 => 127 | 0 => 0 | 127 => 140 | 145 => 98 | 143 => 96 | 2 => 2 | 171 => 142 | 53 => 133 | 5 => 5 | 173 => 145 | 212 => 149 | 51 => 99 | 20 => 20 | 213 => 150 | 46 => 120 | 232 => 154 | 233 => 155 | 80 => 39 | n => n, fun | 15 => 4 | 16 => 5 | 17 => 6 | 18 => 7 | 19 => 8 | n => n⟩
theorem Tryd.laysC245 : Go.Proofs.LaysC.n245 Tryd.prog Tryd.laysC245_ren := {
  mixed := by kernel_rfl
  f129 := Tryd.func53.trans (congrArg some (by kernel_rfl))
  f171 := Tryd.func43.trans (congrArg some (by kernel_rfl))
  f205 := Tryd.func14.trans (congrArg some (by kernel_rfl))
  f243 := Tryd.func46.trans (congrArg some (by kernel_rfl))
  f245 := Tryd.func35.trans (congrArg some (by kernel_rfl))
  f246 := Tryd.func47.trans (congrArg some (by kernel_rfl))
  f279 := Tryd.func37.trans (congrArg some (by kernel_rfl))
  f280 := Tryd.func38.trans (congrArg some (by kernel_rfl))
  f281 := Tryd.func39.trans (congrArg some (by kernel_rfl))
  f282 := Tryd.func40.trans (congrArg some (by kernel_rfl))
  f283 := Tryd.func48.trans (congrArg some (by kernel_rfl))
  f284 := Tryd.func49.trans (congrArg some (by kernel_rfl))
  f285 := Tryd.func50.trans (congrArg some (by kernel_rfl))
  f286 := Tryd.func51.trans (congrArg some (by kernel_rfl))
  f316 := Tryd.func42.trans (congrArg some (by kernel_rfl))
  f317 := Tryd.func52.trans (congrArg some (by kernel_rfl))
  f318 := Tryd.func54.trans (congrArg some (by kernel_rfl))
  f319 := Tryd.func55.trans (congrArg some (by kernel_rfl))
  f320 := Tryd.func56.trans (congrArg some (by kernel_rfl))
  f337 := Tryd.func57.trans (congrArg some (by kernel_rfl))
  f338 := Tryd.func58.trans (congrArg some (by kernel_rfl))
  t0 := Tryd.underlying0
  a0 := Tryd.isAgg0
  z0 := Tryd.sizeOf0
  v0 := Tryd.zeroValue0
  t2 := Tryd.underlying2
  a2 := Tryd.isAgg2
  z2 := Tryd.sizeOf2
  v2 := Tryd.zeroValue2
  t3 := Tryd.underlying3
  a3 := Tryd.isAgg3
  z3 := Tryd.sizeOf3
  v3 := Tryd.zeroValue3
  t4 := Tryd.underlying4
  a4 := Tryd.isAgg4
  z4 := Tryd.sizeOf4
  v4 := Tryd.zeroValue4
  t5 := Tryd.underlying5
  a5 := Tryd.isAgg5
  z5 := Tryd.sizeOf5
  v5 := Tryd.zeroValue5
  t9 := Tryd.underlying9
  a9 := Tryd.isAgg9
  z9 := Tryd.sizeOf9
  v9 := Tryd.zeroValue9
  t20 := Tryd.underlying20
  a20 := Tryd.isAgg20
  z20 := Tryd.sizeOf20
  v20 := Tryd.zeroValue20
  t37 := Tryd.underlying127
  a37 := Tryd.isAgg127
  z37 := Tryd.sizeOf127
  v37 := Tryd.zeroValue127
  t46 := Tryd.underlying120
  a46 := Tryd.isAgg120
  z46 := Tryd.sizeOf120
  v46 := Tryd.zeroValue120
  t51 := Tryd.underlying99
  a51 := Tryd.isAgg99
  z51 := Tryd.sizeOf99
  v51 := Tryd.zeroValue99
  t53 := Tryd.underlying133
  a53 := Tryd.isAgg133
  z53 := Tryd.sizeOf133
  v53 := Tryd.zeroValue133
  t75 := Tryd.underlying35
  a75 := Tryd.isAgg35
  z75 := Tryd.sizeOf35
  v75 := Tryd.zeroValue35
  t127 := Tryd.underlying140
  a127 := Tryd.isAgg140
  z127 := Tryd.sizeOf140
  v127 := Tryd.zeroValue140
  t143 := Tryd.underlying96
  a143 := Tryd.isAgg96
  z143 := Tryd.sizeOf96
  v143 := Tryd.zeroValue96
  t145 := Tryd.underlying98
  a145 := Tryd.isAgg98
  z145 := Tryd.sizeOf98
  v145 := Tryd.zeroValue98
  t167 := Tryd.underlying126
  a167 := Tryd.isAgg126
  z167 := Tryd.sizeOf126
  v167 := Tryd.zeroValue126
  t168 := Tryd.underlying130
  a168 := Tryd.isAgg130
  z168 := Tryd.sizeOf130
  v168 := Tryd.zeroValue130
  t171 := Tryd.underlying142
  a171 := Tryd.isAgg142
  z171 := Tryd.sizeOf142
  v171 := Tryd.zeroValue142
  t173 := Tryd.underlying145
  a173 := Tryd.isAgg145
  z173 := Tryd.sizeOf145
  v173 := Tryd.zeroValue145
  t210 := Tryd.underlying137
  a210 := Tryd.isAgg137
  z210 := Tryd.sizeOf137
  v210 := Tryd.zeroValue137
  t212 := Tryd.underlying149
  a212 := Tryd.isAgg149
  z212 := Tryd.sizeOf149
  v212 := Tryd.zeroValue149
  t213 := Tryd.underlying150
  a213 := Tryd.isAgg150
  z213 := Tryd.sizeOf150
  t232 := Tryd.underlying154
  a232 := Tryd.isAgg154
  z232 := Tryd.sizeOf154
  v232 := Tryd.zeroValue154
  t233 := Tryd.underlying155
  a233 := Tryd.isAgg155
  z233 := Tryd.sizeOf155
  v233 := Tryd.zeroValue155
  g15 := by kernel_rfl
  g16 := by kernel_rfl
  g17 := by kernel_rfl
  g18 := by kernel_rfl
  g19 := by kernel_rfl
  t80 := Tryd.underlying39
  a80 := Tryd.isAgg39
  z80 := Tryd.sizeOf39
  v80 := Tryd.zeroValue39
  i0 := by kernel_rfl
  i2 := by kernel_rfl
  i3 := by kernel_rfl
  i4 := by kernel_rfl
  i5 := by kernel_rfl
  i9 := by kernel_rfl
  i20 := by kernel_rfl
  i37 := by kernel_rfl
  i46 := by kernel_rfl
  i51 := by kernel_rfl
  i53 := by kernel_rfl
  i75 := by kernel_rfl
  i80 := by kernel_rfl
  i127 := by kernel_rfl
  i143 := by kernel_rfl
  i145 := by kernel_rfl
  i167 := by kernel_rfl
  i168 := by kernel_rfl
  i171 := by kernel_rfl
  i173 := by kernel_rfl
  i210 := by kernel_rfl
  i212 := by kernel_rfl
  i232 := by kernel_rfl
  i233 := by kernel_rfl
  m15 := by kernel_rfl
  m16 := by kernel_rfl
  m17 := by kernel_rfl
  m18 := by kernel_rfl
  m19 := by kernel_rfl
  c0 := by kernel_rfl
  c2 := by kernel_rfl
  c3 := by kernel_rfl
  c4 := by kernel_rfl
  c5 := by kernel_rfl
  c9 := by kernel_rfl
  c20 := by kernel_rfl
  c37 := by kernel_rfl
  c46 := by kernel_rfl
  c51 := by kernel_rfl
  c53 := by kernel_rfl
  c75 := by kernel_rfl
  c80 := by kernel_rfl
  c127 := by kernel_rfl
  c143 := by kernel_rfl
  c145 := by kernel_rfl
  c167 := by kernel_rfl
  c168 := by kernel_rfl
  c171 := by kernel_rfl
  c173 := by kernel_rfl
  c210 := by kernel_rfl
  c212 := by kernel_rfl
  c213 := by kernel_rfl
  c232 := by kernel_rfl
  c233 := by kernel_rfl }
open Go.RowKit in
/-- strconv.toError, at the inner package's ErrSyntax: 'syntaxError(fn, s)' as an error: A *NumError IN A NEW BLOCK. (LAID: no walk: one application.) -/
theorem Tryd.strconv_toError_syntax (fn s : ByteArray) (base bits : Int) (ev : Value) (w : World) (hlim : s.size ≤ 281474976710656) (hv : w.cell? ⟨4, 0, none⟩ = some ev) (hev : ev = .nilIface ∨ ∃ te pe, ev = .iface te pe) :
    Calls Tryd.prog 35 #[.string fn, .string s, .int .i64 base, .int .i64 bits, .iface 126 (.int .i64 2)] w fun e w' => ∃ N, e = .returned (.iface 130 (.pointer (some ⟨N, 0, none⟩))) ∧ w.heap.size ≤ N ∧ w'.heap[N]? = some (.cells #[.string fn, .string s, ev] 137 (0, 0)) ∧ Below w.heap.size w w' := Any.strconv_toError_syntax Tryd.laysC245 fn s base bits ev w hlim hv hev
def Tryd.lays321_ren : Go.Shelf.Ren := ⟨fun | 321 => 44 | n => n, fun | 5 => 5 | n => n, fun | n => n⟩
theorem Tryd.lays321 : Go.Proofs.Lays.n321 Tryd.prog Tryd.lays321_ren := {
  mixed := by kernel_rfl
  f321 := Tryd.func44.trans (congrArg some (by kernel_rfl))
  t5 := Tryd.underlying5
  a5 := Tryd.isAgg5
  z5 := Tryd.sizeOf5
  v5 := Tryd.zeroValue5 }
open Go.RowKit in
/-- internal/strconv.lower: 'c | ('x' - 'X')': the bit 32 set. The world is as it was. (LAID: no walk: one application.) -/
theorem Tryd.internal_strconv_lower (c : Int) (w : World) :
    Calls Tryd.prog 44 #[.int .u8 c] w fun e w' => e = .returned (.int .u8 (bits .or .u8 c 32)) ∧ w' = w := Any.internal_strconv_lower Tryd.lays321 c w
def Tryd.lays287_ren : Go.Shelf.Ren := ⟨fun | 287 => 41 | 321 => 44 | 322 => 45 | n => n, fun | 9 => 9 | 3 => 3 | 53 => 133 | 75 => 35 | 4 => 4 | 167 => 126 | 5 => 5 | 46 => 120 | 37 => 127 | 0 => 0 | 21 => 21 | 80 => 39 | n => n, fun | n => n⟩
theorem Tryd.lays287 : Go.Proofs.Lays.n287 Tryd.prog Tryd.lays287_ren := {
  mixed := by kernel_rfl
  f287 := Tryd.func41.trans (congrArg some (by kernel_rfl))
  f321 := Tryd.func44.trans (congrArg some (by kernel_rfl))
  f322 := Tryd.func45.trans (congrArg some (by kernel_rfl))
  t0 := Tryd.underlying0
  a0 := Tryd.isAgg0
  z0 := Tryd.sizeOf0
  v0 := Tryd.zeroValue0
  t3 := Tryd.underlying3
  a3 := Tryd.isAgg3
  z3 := Tryd.sizeOf3
  v3 := Tryd.zeroValue3
  t4 := Tryd.underlying4
  a4 := Tryd.isAgg4
  z4 := Tryd.sizeOf4
  v4 := Tryd.zeroValue4
  t5 := Tryd.underlying5
  a5 := Tryd.isAgg5
  z5 := Tryd.sizeOf5
  v5 := Tryd.zeroValue5
  t9 := Tryd.underlying9
  a9 := Tryd.isAgg9
  z9 := Tryd.sizeOf9
  v9 := Tryd.zeroValue9
  t21 := Tryd.underlying21
  a21 := Tryd.isAgg21
  z21 := Tryd.sizeOf21
  v21 := Tryd.zeroValue21
  t37 := Tryd.underlying127
  a37 := Tryd.isAgg127
  z37 := Tryd.sizeOf127
  v37 := Tryd.zeroValue127
  t46 := Tryd.underlying120
  a46 := Tryd.isAgg120
  z46 := Tryd.sizeOf120
  v46 := Tryd.zeroValue120
  t53 := Tryd.underlying133
  a53 := Tryd.isAgg133
  z53 := Tryd.sizeOf133
  v53 := Tryd.zeroValue133
  t75 := Tryd.underlying35
  a75 := Tryd.isAgg35
  z75 := Tryd.sizeOf35
  v75 := Tryd.zeroValue35
  t167 := Tryd.underlying126
  a167 := Tryd.isAgg126
  z167 := Tryd.sizeOf126
  v167 := Tryd.zeroValue126 }
open Go.RowKit in
/-- internal/strconv.ParseUint(s, 10, 0), s NOT EMPTY: 'Lib.parseUint10 0' OF ITS BYTES: the number; or (0, ErrSyntax); or (the greatest uint64, ErrRange). The world behind the call: the one new row that '[]byte(s)' lays. (LAID: no walk: one application.) -/
theorem Tryd.internal_strconv_ParseUint_10 (t : ByteArray) (hne : t.size ≠ 0) (hmax : t.size ≤ 9223372036854775806) (w : World) :
    Calls Tryd.prog 41 #[.string t, .int .i64 10, .int .i64 0] w fun e w' => e = .returned (Lib.uintTuple 126 (Lib.parseUint10 0 t.data.toList)) ∧ w' = Lib.bytesWorld w 5 t := Any.internal_strconv_ParseUint_10 Tryd.lays287 t hne hmax w
open Go.RowKit in
/-- internal/strconv.ParseUint("", 10, 0): (0, ErrSyntax). The world is as it was. (LAID: no walk: one application.) -/
theorem Tryd.internal_strconv_ParseUint_10_empty (w : World) :
    Calls Tryd.prog 41 #[.string ⟨#[]⟩, .int .i64 10, .int .i64 0] w fun e w' => e = .returned (Lib.uintTuple 126 .syntax) ∧ w' = w := Any.internal_strconv_ParseUint_10_empty Tryd.lays287 w
open Go.RowKit in
/-- internal/strconv.ParseUint(s, 10, 0): 'Lib.parseMag' OF ITS BYTES. The world: as it was (the empty string), or with the one new row that '[]byte(s)' lays. (LAID: no walk: one application.) -/
theorem Tryd.internal_strconv_ParseUint_10_any (t : ByteArray) (hmax : t.size ≤ 9223372036854775806) (w : World) :
    Calls Tryd.prog 41 #[.string t, .int .i64 10, .int .i64 0] w fun e w' => e = .returned (Lib.uintTuple 126 (Lib.parseMag t.data.toList)) ∧ (w' = w ∨ w' = Lib.bytesWorld w 5 t) := Any.internal_strconv_ParseUint_10_any Tryd.lays287 t hmax w
def Tryd.laysC247_ren : Go.Shelf.Ren := ⟨fun | 247 => 36 | 287 => 41 | 321 => 44 | 322 => 45 | n => n, fun | 9 => 9 | 3 => 3 | 2 => 2 | 75 => 35 | 4 => 4 | 167 => 126 | 5 => 5 | 53 => 133 | 175 => 134 | 46 => 120 | 37 => 127 | 0 => 0 | 21 => 21 | 80 => 39 | n => n, fun | n => n⟩
theorem Tryd.laysC247 : Go.Proofs.LaysC.n247 Tryd.prog Tryd.laysC247_ren := {
  mixed := by kernel_rfl
  f247 := Tryd.func36.trans (congrArg some (by kernel_rfl))
  f287 := Tryd.func41.trans (congrArg some (by kernel_rfl))
  f321 := Tryd.func44.trans (congrArg some (by kernel_rfl))
  f322 := Tryd.func45.trans (congrArg some (by kernel_rfl))
  t0 := Tryd.underlying0
  a0 := Tryd.isAgg0
  z0 := Tryd.sizeOf0
  v0 := Tryd.zeroValue0
  t2 := Tryd.underlying2
  a2 := Tryd.isAgg2
  z2 := Tryd.sizeOf2
  v2 := Tryd.zeroValue2
  t3 := Tryd.underlying3
  a3 := Tryd.isAgg3
  z3 := Tryd.sizeOf3
  v3 := Tryd.zeroValue3
  t4 := Tryd.underlying4
  a4 := Tryd.isAgg4
  z4 := Tryd.sizeOf4
  v4 := Tryd.zeroValue4
  t5 := Tryd.underlying5
  a5 := Tryd.isAgg5
  z5 := Tryd.sizeOf5
  v5 := Tryd.zeroValue5
  t9 := Tryd.underlying9
  a9 := Tryd.isAgg9
  z9 := Tryd.sizeOf9
  v9 := Tryd.zeroValue9
  t21 := Tryd.underlying21
  a21 := Tryd.isAgg21
  z21 := Tryd.sizeOf21
  v21 := Tryd.zeroValue21
  t37 := Tryd.underlying127
  a37 := Tryd.isAgg127
  z37 := Tryd.sizeOf127
  v37 := Tryd.zeroValue127
  t46 := Tryd.underlying120
  a46 := Tryd.isAgg120
  z46 := Tryd.sizeOf120
  v46 := Tryd.zeroValue120
  t53 := Tryd.underlying133
  a53 := Tryd.isAgg133
  z53 := Tryd.sizeOf133
  v53 := Tryd.zeroValue133
  t75 := Tryd.underlying35
  a75 := Tryd.isAgg35
  z75 := Tryd.sizeOf35
  v75 := Tryd.zeroValue35
  t167 := Tryd.underlying126
  a167 := Tryd.isAgg126
  z167 := Tryd.sizeOf126
  v167 := Tryd.zeroValue126
  t175 := Tryd.underlying134
  a175 := Tryd.isAgg134
  z175 := Tryd.sizeOf134
  v175 := Tryd.zeroValue134
  t80 := Tryd.underlying39
  a80 := Tryd.isAgg39
  z80 := Tryd.sizeOf39
  v80 := Tryd.zeroValue39
  i0 := by kernel_rfl
  i2 := by kernel_rfl
  i3 := by kernel_rfl
  i4 := by kernel_rfl
  i5 := by kernel_rfl
  i9 := by kernel_rfl
  i21 := by kernel_rfl
  i37 := by kernel_rfl
  i46 := by kernel_rfl
  i53 := by kernel_rfl
  i75 := by kernel_rfl
  i80 := by kernel_rfl
  i167 := by kernel_rfl
  i175 := by kernel_rfl
  c0 := by kernel_rfl
  c2 := by kernel_rfl
  c3 := by kernel_rfl
  c4 := by kernel_rfl
  c5 := by kernel_rfl
  c9 := by kernel_rfl
  c21 := by kernel_rfl
  c37 := by kernel_rfl
  c46 := by kernel_rfl
  c53 := by kernel_rfl
  c75 := by kernel_rfl
  c80 := by kernel_rfl
  c167 := by kernel_rfl
  c175 := by kernel_rfl }
open Go.RowKit in
/-- internal/strconv.ParseInt(s, 10, 0), s NOT EMPTY: 'Lib.atoiAll' OF ITS BYTES: (the number, nil); (0, ErrSyntax); (the greatest or the least int64 by the sign, ErrRange). The world: as it was, or with the one new row that '[]byte(..)' lays. (LAID: no walk: one application.) -/
theorem Tryd.internal_strconv_ParseInt_10 (s : ByteArray) (hne : s.size ≠ 0) (hmax : s.size ≤ 9223372036854775806) (w : World) :
    Calls Tryd.prog 36 #[.string s, .int .i64 10, .int .i64 0] w fun e w' => e = .returned (Lib.intTuple 126 (Lib.atoiSat s.data.toList) (Lib.atoiAll s.data.toList)) ∧ (w' = w ∨ ∃ t, w' = Lib.bytesWorld w 5 t) := Any.internal_strconv_ParseInt_10 Tryd.laysC247 s hne hmax w
def Tryd.laysC244_ren : Go.Shelf.Ren := ⟨fun | 244 => 34 | 247 => 36 | 287 => 41 | 321 => 44 | 322 => 45 | n => n, fun | 9 => 9 | 3 => 3 | 75 => 35 | 4 => 4 | 5 => 5 | 167 => 126 | 37 => 127 | 0 => 0 | 85 => 128 | 2 => 2 | 53 => 133 | 175 => 134 | 46 => 120 | 21 => 21 | 80 => 39 | n => n, fun | n => n⟩
theorem Tryd.laysC244 : Go.Proofs.LaysC.n244 Tryd.prog Tryd.laysC244_ren := {
  mixed := by kernel_rfl
  f244 := Tryd.func34.trans (congrArg some (by kernel_rfl))
  f247 := Tryd.func36.trans (congrArg some (by kernel_rfl))
  f287 := Tryd.func41.trans (congrArg some (by kernel_rfl))
  f321 := Tryd.func44.trans (congrArg some (by kernel_rfl))
  f322 := Tryd.func45.trans (congrArg some (by kernel_rfl))
  t0 := Tryd.underlying0
  a0 := Tryd.isAgg0
  z0 := Tryd.sizeOf0
  v0 := Tryd.zeroValue0
  t2 := Tryd.underlying2
  a2 := Tryd.isAgg2
  z2 := Tryd.sizeOf2
  v2 := Tryd.zeroValue2
  t3 := Tryd.underlying3
  a3 := Tryd.isAgg3
  z3 := Tryd.sizeOf3
  v3 := Tryd.zeroValue3
  t4 := Tryd.underlying4
  a4 := Tryd.isAgg4
  z4 := Tryd.sizeOf4
  v4 := Tryd.zeroValue4
  t5 := Tryd.underlying5
  a5 := Tryd.isAgg5
  z5 := Tryd.sizeOf5
  v5 := Tryd.zeroValue5
  t9 := Tryd.underlying9
  a9 := Tryd.isAgg9
  z9 := Tryd.sizeOf9
  v9 := Tryd.zeroValue9
  t21 := Tryd.underlying21
  a21 := Tryd.isAgg21
  z21 := Tryd.sizeOf21
  v21 := Tryd.zeroValue21
  t37 := Tryd.underlying127
  a37 := Tryd.isAgg127
  z37 := Tryd.sizeOf127
  v37 := Tryd.zeroValue127
  t46 := Tryd.underlying120
  a46 := Tryd.isAgg120
  z46 := Tryd.sizeOf120
  v46 := Tryd.zeroValue120
  t53 := Tryd.underlying133
  a53 := Tryd.isAgg133
  z53 := Tryd.sizeOf133
  v53 := Tryd.zeroValue133
  t75 := Tryd.underlying35
  a75 := Tryd.isAgg35
  z75 := Tryd.sizeOf35
  v75 := Tryd.zeroValue35
  t85 := Tryd.underlying128
  a85 := Tryd.isAgg128
  z85 := Tryd.sizeOf128
  v85 := Tryd.zeroValue128
  t167 := Tryd.underlying126
  a167 := Tryd.isAgg126
  z167 := Tryd.sizeOf126
  v167 := Tryd.zeroValue126
  t175 := Tryd.underlying134
  a175 := Tryd.isAgg134
  z175 := Tryd.sizeOf134
  v175 := Tryd.zeroValue134
  t80 := Tryd.underlying39
  a80 := Tryd.isAgg39
  z80 := Tryd.sizeOf39
  v80 := Tryd.zeroValue39
  i0 := by kernel_rfl
  i2 := by kernel_rfl
  i3 := by kernel_rfl
  i4 := by kernel_rfl
  i5 := by kernel_rfl
  i9 := by kernel_rfl
  i21 := by kernel_rfl
  i37 := by kernel_rfl
  i46 := by kernel_rfl
  i53 := by kernel_rfl
  i75 := by kernel_rfl
  i80 := by kernel_rfl
  i85 := by kernel_rfl
  i167 := by kernel_rfl
  i175 := by kernel_rfl
  c0 := by kernel_rfl
  c2 := by kernel_rfl
  c3 := by kernel_rfl
  c4 := by kernel_rfl
  c5 := by kernel_rfl
  c9 := by kernel_rfl
  c21 := by kernel_rfl
  c37 := by kernel_rfl
  c46 := by kernel_rfl
  c53 := by kernel_rfl
  c75 := by kernel_rfl
  c80 := by kernel_rfl
  c85 := by kernel_rfl
  c167 := by kernel_rfl
  c175 := by kernel_rfl }
open Go.RowKit in
/-- internal/strconv.Atoi, AT EVERY STRING OF 19 BYTES OR MORE: 'Lib.atoiAll' OF ITS BYTES: (the number, nil); (0, ErrSyntax); (the greatest or the least int by the sign, ErrRange). (LAID: no walk: one application.) -/
theorem Tryd.internal_strconv_Atoi_long (s : ByteArray) (h19 : 19 ≤ s.size) (hmax : s.size ≤ 9223372036854775806) (w : World) :
    Calls Tryd.prog 34 #[.string s] w fun e w' => e = .returned (Lib.intTuple 126 (Lib.atoiSat s.data.toList) (Lib.atoiAll s.data.toList)) ∧ (w' = w ∨ ∃ t, w' = Lib.bytesWorld w 5 t) := Any.internal_strconv_Atoi_long Tryd.laysC244 s h19 hmax w
open Go.RowKit in
/-- internal/strconv.Atoi, AT EVERY STRING: 'Lib.atoiAll' OF ITS BYTES: (the number, nil); (0, ErrSyntax); (the greatest or the least int by the sign, ErrRange). The world: as it was, or with the one new row that '[]byte(..)' lays. (LAID: no walk: one application.) -/
theorem Tryd.internal_strconv_Atoi_all (s : ByteArray) (hmax : s.size ≤ 9223372036854775806) (w : World) :
    Calls Tryd.prog 34 #[.string s] w fun e w' => e = .returned (Lib.intTuple 126 (Lib.atoiSat s.data.toList) (Lib.atoiAll s.data.toList)) ∧ (w' = w ∨ ∃ t, w' = Lib.bytesWorld w 5 t) := Any.internal_strconv_Atoi_all Tryd.laysC244 s hmax w
def Tryd.laysM280_ren : Go.Shelf.Ren := ⟨fun | 280 => 38 | 316 => 42 | n => n, fun | 9 => 9 | 168 => 130 | 75 => 35 | 210 => 137 | 3 => 3 | 4 => 4 | 37 => 127 | 0 => 0 | 127 => 140 | 80 => 39 | 5 => 5 | n => n, fun | 16 => 5 | n => n⟩
theorem Tryd.laysM280 : Go.Proofs.LaysM.n280 Tryd.prog Tryd.laysM280_ren := {
  mixed := by kernel_rfl
  f280 := Tryd.func38.trans (congrArg some (by kernel_rfl))
  f316 := Tryd.func42.trans (congrArg some (by kernel_rfl))
  t0 := Tryd.underlying0
  a0 := Tryd.isAgg0
  z0 := Tryd.sizeOf0
  v0 := Tryd.zeroValue0
  t3 := Tryd.underlying3
  a3 := Tryd.isAgg3
  z3 := Tryd.sizeOf3
  v3 := Tryd.zeroValue3
  t4 := Tryd.underlying4
  a4 := Tryd.isAgg4
  z4 := Tryd.sizeOf4
  v4 := Tryd.zeroValue4
  t9 := Tryd.underlying9
  a9 := Tryd.isAgg9
  z9 := Tryd.sizeOf9
  v9 := Tryd.zeroValue9
  t37 := Tryd.underlying127
  a37 := Tryd.isAgg127
  z37 := Tryd.sizeOf127
  v37 := Tryd.zeroValue127
  t75 := Tryd.underlying35
  a75 := Tryd.isAgg35
  z75 := Tryd.sizeOf35
  v75 := Tryd.zeroValue35
  t127 := Tryd.underlying140
  a127 := Tryd.isAgg140
  z127 := Tryd.sizeOf140
  v127 := Tryd.zeroValue140
  t168 := Tryd.underlying130
  a168 := Tryd.isAgg130
  z168 := Tryd.sizeOf130
  v168 := Tryd.zeroValue130
  t210 := Tryd.underlying137
  a210 := Tryd.isAgg137
  z210 := Tryd.sizeOf137
  v210 := Tryd.zeroValue137
  g16 := by kernel_rfl
  t5 := Tryd.underlying5
  a5 := Tryd.isAgg5
  z5 := Tryd.sizeOf5
  v5 := Tryd.zeroValue5
  t80 := Tryd.underlying39
  a80 := Tryd.isAgg39
  z80 := Tryd.sizeOf39
  v80 := Tryd.zeroValue39
  i0 := by kernel_rfl
  i3 := by kernel_rfl
  i4 := by kernel_rfl
  i5 := by kernel_rfl
  i9 := by kernel_rfl
  i37 := by kernel_rfl
  i75 := by kernel_rfl
  i80 := by kernel_rfl
  i127 := by kernel_rfl
  i168 := by kernel_rfl
  i210 := by kernel_rfl
  m16 := by kernel_rfl }
open Go.RowKit in
/-- strconv.rangeError: '&NumError{fn, stringslite.Clone(str), ErrRange}': A POINTER TO A NEW BLOCK that holds fn, str's bytes, and what the variable ErrRange holds. Of what was there nothing has turned. (LAID: no walk: one application.) -/
theorem Tryd.strconv_rangeError (fn s : ByteArray) (ev : Value) (w : World) (hlim : s.size ≤ 281474976710656) (hv : w.cell? ⟨5, 0, none⟩ = some ev) (hev : ev = .nilIface ∨ ∃ te pe, ev = .iface te pe) :
    Calls Tryd.prog 38 #[.string fn, .string s] w fun e w' => ∃ N, e = .returned (.pointer (some ⟨N, 0, none⟩)) ∧ w.heap.size ≤ N ∧ w'.heap[N]? = some (.cells #[.string fn, .string s, ev] 137 (0, 0)) ∧ Below w.heap.size w w' := Any.strconv_rangeError Tryd.laysM280 fn s ev w hlim hv hev
open Go.RowKit in
/-- strconv.toError, at the inner package's ErrRange: 'rangeError(fn, s)' as an error: A *NumError IN A NEW BLOCK. (LAID: no walk: one application.) -/
theorem Tryd.strconv_toError_range (fn s : ByteArray) (base bits : Int) (ev : Value) (w : World) (hlim : s.size ≤ 281474976710656) (hv : w.cell? ⟨5, 0, none⟩ = some ev) (hev : ev = .nilIface ∨ ∃ te pe, ev = .iface te pe) :
    Calls Tryd.prog 35 #[.string fn, .string s, .int .i64 base, .int .i64 bits, .iface 126 (.int .i64 1)] w fun e w' => ∃ N, e = .returned (.iface 130 (.pointer (some ⟨N, 0, none⟩))) ∧ w.heap.size ≤ N ∧ w'.heap[N]? = some (.cells #[.string fn, .string s, ev] 137 (0, 0)) ∧ Below w.heap.size w w' := Any.strconv_toError_range Tryd.laysC245 fn s base bits ev w hlim hv hev
def Tryd.laysC172_ren : Go.Shelf.Ren := ⟨fun | 172 => 32 | 244 => 34 | 245 => 35 | 247 => 36 | 279 => 37 | 280 => 38 | 281 => 39 | 282 => 40 | 287 => 41 | 316 => 42 | 171 => 43 | 205 => 14 | 321 => 44 | 322 => 45 | 243 => 46 | 246 => 47 | 283 => 48 | 284 => 49 | 285 => 50 | 286 => 51 | 129 => 53 | 317 => 52 | 318 => 54 | 319 => 55 | 320 => 56 | 337 => 57 | 338 => 58 | n => n, fun | 9 => 9 | 3 => 3 | 75 => 35 | 76 => 122 | 4 => 4 | 5 => 5 | 167 => 126 | 37 => 127 | 0 => 0 | 85 => 128 | 2 => 2 | 168 => 130 | 53 => 133 | 175 => 134 | 46 => 120 | 210 => 137 | 127 => 140 | 145 => 98 | 143 => 96 | 21 => 21 | 171 => 142 | 173 => 145 | 212 => 149 | 51 => 99 | 20 => 20 | 213 => 150 | 232 => 154 | 233 => 155 | 80 => 39 | n => n, fun | 15 => 4 | 16 => 5 | 17 => 6 | 18 => 7 | 19 => 8 | n => n⟩
theorem Tryd.laysC172 : Go.Proofs.LaysC.n172 Tryd.prog Tryd.laysC172_ren := {
  mixed := by kernel_rfl
  f129 := Tryd.func53.trans (congrArg some (by kernel_rfl))
  f171 := Tryd.func43.trans (congrArg some (by kernel_rfl))
  f172 := Tryd.func32.trans (congrArg some (by kernel_rfl))
  f205 := Tryd.func14.trans (congrArg some (by kernel_rfl))
  f243 := Tryd.func46.trans (congrArg some (by kernel_rfl))
  f244 := Tryd.func34.trans (congrArg some (by kernel_rfl))
  f245 := Tryd.func35.trans (congrArg some (by kernel_rfl))
  f246 := Tryd.func47.trans (congrArg some (by kernel_rfl))
  f247 := Tryd.func36.trans (congrArg some (by kernel_rfl))
  f279 := Tryd.func37.trans (congrArg some (by kernel_rfl))
  f280 := Tryd.func38.trans (congrArg some (by kernel_rfl))
  f281 := Tryd.func39.trans (congrArg some (by kernel_rfl))
  f282 := Tryd.func40.trans (congrArg some (by kernel_rfl))
  f283 := Tryd.func48.trans (congrArg some (by kernel_rfl))
  f284 := Tryd.func49.trans (congrArg some (by kernel_rfl))
  f285 := Tryd.func50.trans (congrArg some (by kernel_rfl))
  f286 := Tryd.func51.trans (congrArg some (by kernel_rfl))
  f287 := Tryd.func41.trans (congrArg some (by kernel_rfl))
  f316 := Tryd.func42.trans (congrArg some (by kernel_rfl))
  f317 := Tryd.func52.trans (congrArg some (by kernel_rfl))
  f318 := Tryd.func54.trans (congrArg some (by kernel_rfl))
  f319 := Tryd.func55.trans (congrArg some (by kernel_rfl))
  f320 := Tryd.func56.trans (congrArg some (by kernel_rfl))
  f321 := Tryd.func44.trans (congrArg some (by kernel_rfl))
  f322 := Tryd.func45.trans (congrArg some (by kernel_rfl))
  f337 := Tryd.func57.trans (congrArg some (by kernel_rfl))
  f338 := Tryd.func58.trans (congrArg some (by kernel_rfl))
  t0 := Tryd.underlying0
  a0 := Tryd.isAgg0
  z0 := Tryd.sizeOf0
  v0 := Tryd.zeroValue0
  t2 := Tryd.underlying2
  a2 := Tryd.isAgg2
  z2 := Tryd.sizeOf2
  v2 := Tryd.zeroValue2
  t3 := Tryd.underlying3
  a3 := Tryd.isAgg3
  z3 := Tryd.sizeOf3
  v3 := Tryd.zeroValue3
  t4 := Tryd.underlying4
  a4 := Tryd.isAgg4
  z4 := Tryd.sizeOf4
  v4 := Tryd.zeroValue4
  t5 := Tryd.underlying5
  a5 := Tryd.isAgg5
  z5 := Tryd.sizeOf5
  v5 := Tryd.zeroValue5
  t9 := Tryd.underlying9
  a9 := Tryd.isAgg9
  z9 := Tryd.sizeOf9
  v9 := Tryd.zeroValue9
  t20 := Tryd.underlying20
  a20 := Tryd.isAgg20
  z20 := Tryd.sizeOf20
  v20 := Tryd.zeroValue20
  t21 := Tryd.underlying21
  a21 := Tryd.isAgg21
  z21 := Tryd.sizeOf21
  v21 := Tryd.zeroValue21
  t37 := Tryd.underlying127
  a37 := Tryd.isAgg127
  z37 := Tryd.sizeOf127
  v37 := Tryd.zeroValue127
  t46 := Tryd.underlying120
  a46 := Tryd.isAgg120
  z46 := Tryd.sizeOf120
  v46 := Tryd.zeroValue120
  t51 := Tryd.underlying99
  a51 := Tryd.isAgg99
  z51 := Tryd.sizeOf99
  v51 := Tryd.zeroValue99
  t53 := Tryd.underlying133
  a53 := Tryd.isAgg133
  z53 := Tryd.sizeOf133
  v53 := Tryd.zeroValue133
  t75 := Tryd.underlying35
  a75 := Tryd.isAgg35
  z75 := Tryd.sizeOf35
  v75 := Tryd.zeroValue35
  t76 := Tryd.underlying122
  a76 := Tryd.isAgg122
  z76 := Tryd.sizeOf122
  v76 := Tryd.zeroValue122
  t85 := Tryd.underlying128
  a85 := Tryd.isAgg128
  z85 := Tryd.sizeOf128
  v85 := Tryd.zeroValue128
  t127 := Tryd.underlying140
  a127 := Tryd.isAgg140
  z127 := Tryd.sizeOf140
  v127 := Tryd.zeroValue140
  t143 := Tryd.underlying96
  a143 := Tryd.isAgg96
  z143 := Tryd.sizeOf96
  v143 := Tryd.zeroValue96
  t145 := Tryd.underlying98
  a145 := Tryd.isAgg98
  z145 := Tryd.sizeOf98
  v145 := Tryd.zeroValue98
  t167 := Tryd.underlying126
  a167 := Tryd.isAgg126
  z167 := Tryd.sizeOf126
  v167 := Tryd.zeroValue126
  t168 := Tryd.underlying130
  a168 := Tryd.isAgg130
  z168 := Tryd.sizeOf130
  v168 := Tryd.zeroValue130
  t171 := Tryd.underlying142
  a171 := Tryd.isAgg142
  z171 := Tryd.sizeOf142
  v171 := Tryd.zeroValue142
  t173 := Tryd.underlying145
  a173 := Tryd.isAgg145
  z173 := Tryd.sizeOf145
  v173 := Tryd.zeroValue145
  t175 := Tryd.underlying134
  a175 := Tryd.isAgg134
  z175 := Tryd.sizeOf134
  v175 := Tryd.zeroValue134
  t210 := Tryd.underlying137
  a210 := Tryd.isAgg137
  z210 := Tryd.sizeOf137
  v210 := Tryd.zeroValue137
  t212 := Tryd.underlying149
  a212 := Tryd.isAgg149
  z212 := Tryd.sizeOf149
  v212 := Tryd.zeroValue149
  t213 := Tryd.underlying150
  a213 := Tryd.isAgg150
  z213 := Tryd.sizeOf150
  t232 := Tryd.underlying154
  a232 := Tryd.isAgg154
  z232 := Tryd.sizeOf154
  v232 := Tryd.zeroValue154
  t233 := Tryd.underlying155
  a233 := Tryd.isAgg155
  z233 := Tryd.sizeOf155
  v233 := Tryd.zeroValue155
  g15 := by kernel_rfl
  g16 := by kernel_rfl
  g17 := by kernel_rfl
  g18 := by kernel_rfl
  g19 := by kernel_rfl
  t80 := Tryd.underlying39
  a80 := Tryd.isAgg39
  z80 := Tryd.sizeOf39
  v80 := Tryd.zeroValue39
  i0 := by kernel_rfl
  i2 := by kernel_rfl
  i3 := by kernel_rfl
  i4 := by kernel_rfl
  i5 := by kernel_rfl
  i9 := by kernel_rfl
  i20 := by kernel_rfl
  i21 := by kernel_rfl
  i37 := by kernel_rfl
  i46 := by kernel_rfl
  i51 := by kernel_rfl
  i53 := by kernel_rfl
  i75 := by kernel_rfl
  i76 := by kernel_rfl
  i80 := by kernel_rfl
  i85 := by kernel_rfl
  i127 := by kernel_rfl
  i143 := by kernel_rfl
  i145 := by kernel_rfl
  i167 := by kernel_rfl
  i168 := by kernel_rfl
  i171 := by kernel_rfl
  i173 := by kernel_rfl
  i175 := by kernel_rfl
  i210 := by kernel_rfl
  i212 := by kernel_rfl
  i232 := by kernel_rfl
  i233 := by kernel_rfl
  m15 := by kernel_rfl
  m16 := by kernel_rfl
  m17 := by kernel_rfl
  m18 := by kernel_rfl
  m19 := by kernel_rfl
  c0 := by kernel_rfl
  c2 := by kernel_rfl
  c3 := by kernel_rfl
  c4 := by kernel_rfl
  c5 := by kernel_rfl
  c9 := by kernel_rfl
  c20 := by kernel_rfl
  c21 := by kernel_rfl
  c37 := by kernel_rfl
  c46 := by kernel_rfl
  c51 := by kernel_rfl
  c53 := by kernel_rfl
  c75 := by kernel_rfl
  c76 := by kernel_rfl
  c80 := by kernel_rfl
  c85 := by kernel_rfl
  c127 := by kernel_rfl
  c143 := by kernel_rfl
  c145 := by kernel_rfl
  c167 := by kernel_rfl
  c168 := by kernel_rfl
  c171 := by kernel_rfl
  c173 := by kernel_rfl
  c175 := by kernel_rfl
  c210 := by kernel_rfl
  c212 := by kernel_rfl
  c213 := by kernel_rfl
  c232 := by kernel_rfl
  c233 := by kernel_rfl }
open Go.RowKit in
/-- strconv.Atoi, AT EVERY STRING THAT SPELLS AN int ('Lib.atoiAll .. = .ok v'; of whatever length: leading zeros count): v, AND NO ERROR. The world: as it was, or with the one new row that '[]byte(..)' lays. (LAID: no walk: one application.) -/
theorem Tryd.strconv_Atoi_ok (s : ByteArray) (hmax : s.size ≤ 9223372036854775806) (v : Int) (h : Lib.atoiAll s.data.toList = .ok v) (w : World) :
    Calls Tryd.prog 32 #[.string s] w fun e w' => e = .returned (.tuple #[.int .i64 v, .nilIface]) ∧ (w' = w ∨ ∃ t, w' = Lib.bytesWorld w 5 t) := Any.strconv_Atoi_ok Tryd.laysC172 s hmax v h w
open Go.RowKit in
/-- strconv.Atoi, AT EVERY STRING THAT IS NO DECIMAL NUMERAL ('.syntax'): 0, AND AN ERROR THAT IS NOT nil: a *NumError in a new block N: {Func: "Atoi", Num: s's bytes, Err: what the variable ErrSyntax holds}. Of what was there nothing has turned. (LAID: no walk: one application.) -/
theorem Tryd.strconv_Atoi_syntax (s : ByteArray) (hlim : s.size ≤ 281474976710656) (h : Lib.atoiAll s.data.toList = .syntax) (ev : Value) (w : World) (hv : w.cell? ⟨4, 0, none⟩ = some ev) (hev : ev = .nilIface ∨ ∃ te pe, ev = .iface te pe) :
    Calls Tryd.prog 32 #[.string s] w fun e w' => ∃ N, e = .returned (.tuple #[.int .i64 (0), .iface 130 (.pointer (some ⟨N, 0, none⟩))]) ∧ w.heap.size ≤ N ∧ w'.heap[N]? = some (.cells #[.string ⟨#[65, 116, 111, 105]⟩, .string s, ev] 137 (0, 0)) ∧ Below w.heap.size w w' := Any.strconv_Atoi_syntax Tryd.laysC172 s hlim h ev w hv hev
open Go.RowKit in
/-- strconv.Atoi, AT EVERY NUMERAL THAT NO int HOLDS ('.range'): THE GREATEST OR THE LEAST int, BY THE SIGN ('Lib.atoiSat'), AND AN ERROR THAT IS NOT nil: a *NumError in a new block N: {Func: "Atoi", Num: s's bytes, Err: what the variable ErrRange holds}. Of what was there nothing has turned. (LAID: no walk: one application.) -/
theorem Tryd.strconv_Atoi_range (s : ByteArray) (hlim : s.size ≤ 281474976710656) (h : Lib.atoiAll s.data.toList = .range) (ev : Value) (w : World) (hv : w.cell? ⟨5, 0, none⟩ = some ev) (hev : ev = .nilIface ∨ ∃ te pe, ev = .iface te pe) :
    Calls Tryd.prog 32 #[.string s] w fun e w' => ∃ N, e = .returned (.tuple #[.int .i64 (Lib.atoiSat s.data.toList), .iface 130 (.pointer (some ⟨N, 0, none⟩))]) ∧ w.heap.size ≤ N ∧ w'.heap[N]? = some (.cells #[.string ⟨#[65, 116, 111, 105]⟩, .string s, ev] 137 (0, 0)) ∧ Below w.heap.size w w' := Any.strconv_Atoi_range Tryd.laysC172 s hlim h ev w hv hev
open Go.RowKit in
theorem Tryd.strconv_Atoi_syntax_var (s : ByteArray) (hlim : s.size ≤ 281474976710656) (h : Lib.atoiAll s.data.toList = .syntax) (tp : TypeId) (p : Value) (w : World) (hvar : w.var? Tryd.prog "strconv.ErrSyntax" = some #[.iface tp p]) :
    Calls Tryd.prog 32 #[.string s] w fun e w' => ∃ N, e = .returned (.tuple #[.int .i64 0, .iface 130 (.pointer (some ⟨N, 0, none⟩))]) ∧ w.heap.size ≤ N ∧ w'.heap[N]? = some (.cells #[.string ⟨#[65, 116, 111, 105]⟩, .string s, .iface tp p] 137 (0, 0)) ∧ Below w.heap.size w w' := Any.strconv_Atoi_syntax_var Tryd.laysC172 s hlim h tp p w hvar
open Go.RowKit in
theorem Tryd.strconv_Atoi_range_var (s : ByteArray) (hlim : s.size ≤ 281474976710656) (h : Lib.atoiAll s.data.toList = .range) (tp : TypeId) (p : Value) (w : World) (hvar : w.var? Tryd.prog "strconv.ErrRange" = some #[.iface tp p]) :
    Calls Tryd.prog 32 #[.string s] w fun e w' => ∃ N, e = .returned (.tuple #[.int .i64 (Lib.atoiSat s.data.toList), .iface 130 (.pointer (some ⟨N, 0, none⟩))]) ∧ w.heap.size ≤ N ∧ w'.heap[N]? = some (.cells #[.string ⟨#[65, 116, 111, 105]⟩, .string s, .iface tp p] 137 (0, 0)) ∧ Below w.heap.size w w' := Any.strconv_Atoi_range_var Tryd.laysC172 s hlim h tp p w hvar
def Tryd.lays198_ren : Go.Shelf.Ren := ⟨fun | 198 => 31 | 261 => 20 | 311 => 23 | 312 => 24 | n => n, fun | 21 => 21 | 4 => 4 | 141 => 101 | 0 => 0 | 196 => 106 | 193 => 103 | 3 => 3 | 51 => 99 | 198 => 109 | 49 => 107 | 194 => 104 | 201 => 112 | 226 => 119 | 46 => 120 | 227 => 121 | n => n, fun | 5 => 1 | n => n⟩
theorem Tryd.lays198 : Go.Proofs.Lays.n198 Tryd.prog Tryd.lays198_ren := {
  mixed := by kernel_rfl
  f198 := Tryd.func31.trans (congrArg some (by kernel_rfl))
  f261 := Tryd.func20.trans (congrArg some (by kernel_rfl))
  f311 := Tryd.func23.trans (congrArg some (by kernel_rfl))
  f312 := Tryd.func24.trans (congrArg some (by kernel_rfl))
  t0 := Tryd.underlying0
  a0 := Tryd.isAgg0
  z0 := Tryd.sizeOf0
  v0 := Tryd.zeroValue0
  t3 := Tryd.underlying3
  a3 := Tryd.isAgg3
  z3 := Tryd.sizeOf3
  v3 := Tryd.zeroValue3
  t4 := Tryd.underlying4
  a4 := Tryd.isAgg4
  z4 := Tryd.sizeOf4
  v4 := Tryd.zeroValue4
  t21 := Tryd.underlying21
  a21 := Tryd.isAgg21
  z21 := Tryd.sizeOf21
  v21 := Tryd.zeroValue21
  t46 := Tryd.underlying120
  a46 := Tryd.isAgg120
  z46 := Tryd.sizeOf120
  v46 := Tryd.zeroValue120
  t49 := Tryd.underlying107
  a49 := Tryd.isAgg107
  z49 := Tryd.sizeOf107
  v49 := Tryd.zeroValue107
  t51 := Tryd.underlying99
  a51 := Tryd.isAgg99
  z51 := Tryd.sizeOf99
  v51 := Tryd.zeroValue99
  t141 := Tryd.underlying101
  a141 := Tryd.isAgg101
  z141 := Tryd.sizeOf101
  v141 := Tryd.zeroValue101
  t193 := Tryd.underlying103
  a193 := Tryd.isAgg103
  z193 := Tryd.sizeOf103
  v193 := Tryd.zeroValue103
  t194 := Tryd.underlying104
  a194 := Tryd.isAgg104
  z194 := Tryd.sizeOf104
  v194 := Tryd.zeroValue104
  t196 := Tryd.underlying106
  a196 := Tryd.isAgg106
  z196 := Tryd.sizeOf106
  v196 := Tryd.zeroValue106
  t198 := Tryd.underlying109
  a198 := Tryd.isAgg109
  z198 := Tryd.sizeOf109
  v198 := Tryd.zeroValue109
  t201 := Tryd.underlying112
  a201 := Tryd.isAgg112
  z201 := Tryd.sizeOf112
  v201 := Tryd.zeroValue112
  t226 := Tryd.underlying119
  a226 := Tryd.isAgg119
  z226 := Tryd.sizeOf119
  v226 := Tryd.zeroValue119
  t227 := Tryd.underlying121
  a227 := Tryd.isAgg121
  z227 := Tryd.sizeOf121
  v227 := Tryd.zeroValue121
  g5 := by kernel_rfl }
open Go.RowKit Go.Lib in
theorem Tryd.unicode_IsDigit (r : Int) (w : World) (h : r ≤ 255) :
    Calls Tryd.prog 31 #[.int .i32 r] w fun e w' => e = .returned (.bool (Lib.isDigitL r)) ∧ w' = w := Any.unicode_IsDigit Tryd.lays198 r w h
def Tryd.lays199_ren : Go.Shelf.Ren := ⟨fun | 199 => 15 | 261 => 20 | 311 => 23 | 312 => 24 | n => n, fun | 21 => 21 | 4 => 4 | 51 => 99 | 141 => 101 | 0 => 0 | 196 => 106 | 193 => 103 | 3 => 3 | 198 => 109 | 49 => 107 | 194 => 104 | 201 => 112 | 226 => 119 | 46 => 120 | 227 => 121 | n => n, fun | 6 => 0 | n => n⟩
theorem Tryd.lays199 : Go.Proofs.Lays.n199 Tryd.prog Tryd.lays199_ren := {
  mixed := by kernel_rfl
  f199 := Tryd.func15.trans (congrArg some (by kernel_rfl))
  f261 := Tryd.func20.trans (congrArg some (by kernel_rfl))
  f311 := Tryd.func23.trans (congrArg some (by kernel_rfl))
  f312 := Tryd.func24.trans (congrArg some (by kernel_rfl))
  t0 := Tryd.underlying0
  a0 := Tryd.isAgg0
  z0 := Tryd.sizeOf0
  v0 := Tryd.zeroValue0
  t3 := Tryd.underlying3
  a3 := Tryd.isAgg3
  z3 := Tryd.sizeOf3
  v3 := Tryd.zeroValue3
  t4 := Tryd.underlying4
  a4 := Tryd.isAgg4
  z4 := Tryd.sizeOf4
  v4 := Tryd.zeroValue4
  t21 := Tryd.underlying21
  a21 := Tryd.isAgg21
  z21 := Tryd.sizeOf21
  v21 := Tryd.zeroValue21
  t46 := Tryd.underlying120
  a46 := Tryd.isAgg120
  z46 := Tryd.sizeOf120
  v46 := Tryd.zeroValue120
  t49 := Tryd.underlying107
  a49 := Tryd.isAgg107
  z49 := Tryd.sizeOf107
  v49 := Tryd.zeroValue107
  t51 := Tryd.underlying99
  a51 := Tryd.isAgg99
  z51 := Tryd.sizeOf99
  v51 := Tryd.zeroValue99
  t141 := Tryd.underlying101
  a141 := Tryd.isAgg101
  z141 := Tryd.sizeOf101
  v141 := Tryd.zeroValue101
  t193 := Tryd.underlying103
  a193 := Tryd.isAgg103
  z193 := Tryd.sizeOf103
  v193 := Tryd.zeroValue103
  t194 := Tryd.underlying104
  a194 := Tryd.isAgg104
  z194 := Tryd.sizeOf104
  v194 := Tryd.zeroValue104
  t196 := Tryd.underlying106
  a196 := Tryd.isAgg106
  z196 := Tryd.sizeOf106
  v196 := Tryd.zeroValue106
  t198 := Tryd.underlying109
  a198 := Tryd.isAgg109
  z198 := Tryd.sizeOf109
  v198 := Tryd.zeroValue109
  t201 := Tryd.underlying112
  a201 := Tryd.isAgg112
  z201 := Tryd.sizeOf112
  v201 := Tryd.zeroValue112
  t226 := Tryd.underlying119
  a226 := Tryd.isAgg119
  z226 := Tryd.sizeOf119
  v226 := Tryd.zeroValue119
  t227 := Tryd.underlying121
  a227 := Tryd.isAgg121
  z227 := Tryd.sizeOf121
  v227 := Tryd.zeroValue121
  g6 := by kernel_rfl }
open Go.RowKit Go.Lib in
theorem Tryd.unicode_IsSpace (r : Int) (w : World) (h0 : 0 ≤ r) (h : r ≤ 255) :
    Calls Tryd.prog 15 #[.int .i32 r] w fun e w' => e = .returned (.bool (Lib.isSpaceL r)) ∧ w' = w := Any.unicode_IsSpace Tryd.lays199 r w h0 h
def Tryd.lays200_ren : Go.Shelf.Ren := ⟨fun | 200 => 33 | 261 => 20 | 311 => 23 | 312 => 24 | n => n, fun | 21 => 21 | 4 => 4 | 51 => 99 | 5 => 5 | 119 => 125 | 0 => 0 | 141 => 101 | 196 => 106 | 193 => 103 | 3 => 3 | 198 => 109 | 49 => 107 | 194 => 104 | 201 => 112 | 226 => 119 | 46 => 120 | 227 => 121 | n => n, fun | 7 => 2 | 8 => 3 | n => n⟩
theorem Tryd.lays200 : Go.Proofs.Lays.n200 Tryd.prog Tryd.lays200_ren := {
  mixed := by kernel_rfl
  f200 := Tryd.func33.trans (congrArg some (by kernel_rfl))
  f261 := Tryd.func20.trans (congrArg some (by kernel_rfl))
  f311 := Tryd.func23.trans (congrArg some (by kernel_rfl))
  f312 := Tryd.func24.trans (congrArg some (by kernel_rfl))
  t0 := Tryd.underlying0
  a0 := Tryd.isAgg0
  z0 := Tryd.sizeOf0
  v0 := Tryd.zeroValue0
  t3 := Tryd.underlying3
  a3 := Tryd.isAgg3
  z3 := Tryd.sizeOf3
  v3 := Tryd.zeroValue3
  t4 := Tryd.underlying4
  a4 := Tryd.isAgg4
  z4 := Tryd.sizeOf4
  v4 := Tryd.zeroValue4
  t5 := Tryd.underlying5
  a5 := Tryd.isAgg5
  z5 := Tryd.sizeOf5
  v5 := Tryd.zeroValue5
  t21 := Tryd.underlying21
  a21 := Tryd.isAgg21
  z21 := Tryd.sizeOf21
  v21 := Tryd.zeroValue21
  t46 := Tryd.underlying120
  a46 := Tryd.isAgg120
  z46 := Tryd.sizeOf120
  v46 := Tryd.zeroValue120
  t49 := Tryd.underlying107
  a49 := Tryd.isAgg107
  z49 := Tryd.sizeOf107
  v49 := Tryd.zeroValue107
  t51 := Tryd.underlying99
  a51 := Tryd.isAgg99
  z51 := Tryd.sizeOf99
  v51 := Tryd.zeroValue99
  t119 := Tryd.underlying125
  a119 := Tryd.isAgg125
  z119 := Tryd.sizeOf125
  t141 := Tryd.underlying101
  a141 := Tryd.isAgg101
  z141 := Tryd.sizeOf101
  v141 := Tryd.zeroValue101
  t193 := Tryd.underlying103
  a193 := Tryd.isAgg103
  z193 := Tryd.sizeOf103
  v193 := Tryd.zeroValue103
  t194 := Tryd.underlying104
  a194 := Tryd.isAgg104
  z194 := Tryd.sizeOf104
  v194 := Tryd.zeroValue104
  t196 := Tryd.underlying106
  a196 := Tryd.isAgg106
  z196 := Tryd.sizeOf106
  v196 := Tryd.zeroValue106
  t198 := Tryd.underlying109
  a198 := Tryd.isAgg109
  z198 := Tryd.sizeOf109
  v198 := Tryd.zeroValue109
  t201 := Tryd.underlying112
  a201 := Tryd.isAgg112
  z201 := Tryd.sizeOf112
  v201 := Tryd.zeroValue112
  t226 := Tryd.underlying119
  a226 := Tryd.isAgg119
  z226 := Tryd.sizeOf119
  v226 := Tryd.zeroValue119
  t227 := Tryd.underlying121
  a227 := Tryd.isAgg121
  z227 := Tryd.sizeOf121
  v227 := Tryd.zeroValue121
  g7 := by kernel_rfl
  g8 := by kernel_rfl }
open Go.RowKit Go.Lib in
theorem Tryd.unicode_IsLetter (c : Nat) (w : World) (hc : c < 256) (htab : Lib.TabIs Tryd.prog w "unicode.properties" .u8 Lib.propertiesTab) :
    Calls Tryd.prog 33 #[.int .i32 c] w fun e w' => e = .returned (.bool (Lib.isLetterL c)) ∧ w' = w := Any.unicode_IsLetter Tryd.lays200 (by kernel_rfl) c w hc htab
def Tryd.laysM200_ren : Go.Shelf.Ren := ⟨fun | 200 => 33 | 261 => 20 | 311 => 23 | 312 => 24 | n => n, fun | 21 => 21 | 4 => 4 | 51 => 99 | 5 => 5 | 119 => 125 | 0 => 0 | 141 => 101 | 196 => 106 | 193 => 103 | 3 => 3 | 198 => 109 | 49 => 107 | 194 => 104 | 201 => 112 | 226 => 119 | 46 => 120 | 227 => 121 | n => n, fun | 7 => 2 | 8 => 3 | n => n⟩
theorem Tryd.laysM200 : Go.Proofs.LaysM.n200 Tryd.prog Tryd.laysM200_ren := {
  mixed := by kernel_rfl
  f200 := Tryd.func33.trans (congrArg some (by kernel_rfl))
  f261 := Tryd.func20.trans (congrArg some (by kernel_rfl))
  f311 := Tryd.func23.trans (congrArg some (by kernel_rfl))
  f312 := Tryd.func24.trans (congrArg some (by kernel_rfl))
  t0 := Tryd.underlying0
  a0 := Tryd.isAgg0
  z0 := Tryd.sizeOf0
  v0 := Tryd.zeroValue0
  t3 := Tryd.underlying3
  a3 := Tryd.isAgg3
  z3 := Tryd.sizeOf3
  v3 := Tryd.zeroValue3
  t4 := Tryd.underlying4
  a4 := Tryd.isAgg4
  z4 := Tryd.sizeOf4
  v4 := Tryd.zeroValue4
  t5 := Tryd.underlying5
  a5 := Tryd.isAgg5
  z5 := Tryd.sizeOf5
  v5 := Tryd.zeroValue5
  t21 := Tryd.underlying21
  a21 := Tryd.isAgg21
  z21 := Tryd.sizeOf21
  v21 := Tryd.zeroValue21
  t46 := Tryd.underlying120
  a46 := Tryd.isAgg120
  z46 := Tryd.sizeOf120
  v46 := Tryd.zeroValue120
  t49 := Tryd.underlying107
  a49 := Tryd.isAgg107
  z49 := Tryd.sizeOf107
  v49 := Tryd.zeroValue107
  t51 := Tryd.underlying99
  a51 := Tryd.isAgg99
  z51 := Tryd.sizeOf99
  v51 := Tryd.zeroValue99
  t119 := Tryd.underlying125
  a119 := Tryd.isAgg125
  z119 := Tryd.sizeOf125
  t141 := Tryd.underlying101
  a141 := Tryd.isAgg101
  z141 := Tryd.sizeOf101
  v141 := Tryd.zeroValue101
  t193 := Tryd.underlying103
  a193 := Tryd.isAgg103
  z193 := Tryd.sizeOf103
  v193 := Tryd.zeroValue103
  t194 := Tryd.underlying104
  a194 := Tryd.isAgg104
  z194 := Tryd.sizeOf104
  v194 := Tryd.zeroValue104
  t196 := Tryd.underlying106
  a196 := Tryd.isAgg106
  z196 := Tryd.sizeOf106
  v196 := Tryd.zeroValue106
  t198 := Tryd.underlying109
  a198 := Tryd.isAgg109
  z198 := Tryd.sizeOf109
  v198 := Tryd.zeroValue109
  t201 := Tryd.underlying112
  a201 := Tryd.isAgg112
  z201 := Tryd.sizeOf112
  v201 := Tryd.zeroValue112
  t226 := Tryd.underlying119
  a226 := Tryd.isAgg119
  z226 := Tryd.sizeOf119
  v226 := Tryd.zeroValue119
  t227 := Tryd.underlying121
  a227 := Tryd.isAgg121
  z227 := Tryd.sizeOf121
  v227 := Tryd.zeroValue121
  g7 := by kernel_rfl
  g8 := by kernel_rfl
  i0 := by kernel_rfl
  i3 := by kernel_rfl
  i4 := by kernel_rfl
  i5 := by kernel_rfl
  i21 := by kernel_rfl
  i46 := by kernel_rfl
  i49 := by kernel_rfl
  i51 := by kernel_rfl
  i141 := by kernel_rfl
  i193 := by kernel_rfl
  i194 := by kernel_rfl
  i196 := by kernel_rfl
  i198 := by kernel_rfl
  i201 := by kernel_rfl
  i226 := by kernel_rfl
  i227 := by kernel_rfl
  m7 := by kernel_rfl
  m8 := by kernel_rfl }
open Go.RowKit Go.Lib in
theorem Tryd.unicode_IsLetter_laid (c : Nat) (w : World) (hc : c < 256) (htab : Lib.TabIs Tryd.prog w "unicode.properties" .u8 Lib.propertiesTab) :
    Calls Tryd.prog 33 #[.int .i32 c] w fun e w' => e = .returned (.bool (Lib.isLetterL c)) ∧ w' = w := Any.unicode_IsLetter_laid Tryd.laysM200 c w hc htab
def Tryd.lays311_ren : Go.Shelf.Ren := ⟨fun | 311 => 23 | n => n, fun | 193 => 103 | 49 => 107 | 4 => 4 | 3 => 3 | 0 => 0 | 226 => 119 | 198 => 109 | 46 => 120 | n => n, fun | n => n⟩
theorem Tryd.lays311 : Go.Proofs.Lays.n311 Tryd.prog Tryd.lays311_ren := {
  mixed := by kernel_rfl
  f311 := Tryd.func23.trans (congrArg some (by kernel_rfl))
  t0 := Tryd.underlying0
  a0 := Tryd.isAgg0
  z0 := Tryd.sizeOf0
  v0 := Tryd.zeroValue0
  t3 := Tryd.underlying3
  a3 := Tryd.isAgg3
  z3 := Tryd.sizeOf3
  v3 := Tryd.zeroValue3
  t4 := Tryd.underlying4
  a4 := Tryd.isAgg4
  z4 := Tryd.sizeOf4
  v4 := Tryd.zeroValue4
  t46 := Tryd.underlying120
  a46 := Tryd.isAgg120
  z46 := Tryd.sizeOf120
  v46 := Tryd.zeroValue120
  t49 := Tryd.underlying107
  a49 := Tryd.isAgg107
  z49 := Tryd.sizeOf107
  v49 := Tryd.zeroValue107
  t193 := Tryd.underlying103
  a193 := Tryd.isAgg103
  z193 := Tryd.sizeOf103
  v193 := Tryd.zeroValue103
  t198 := Tryd.underlying109
  a198 := Tryd.isAgg109
  z198 := Tryd.sizeOf109
  v198 := Tryd.zeroValue109
  t226 := Tryd.underlying119
  a226 := Tryd.isAgg119
  z226 := Tryd.sizeOf119
  v226 := Tryd.zeroValue119 }
open Go.RowKit Go.Lib in
theorem Tryd.unicode_is16_white (R oR : Nat) (z : Nat) (w : World) (hz : z < 65536) (hz0 : 255 < z) (c6 : w.cell? ⟨R, oR + 6, none⟩ = some (.int .u16 160)) (c7 : w.cell? ⟨R, oR + 7, none⟩ = some (.int .u16 5760)) (c8 : w.cell? ⟨R, oR + 8, none⟩ = some (.int .u16 5600)) (c9 : w.cell? ⟨R, oR + 9, none⟩ = some (.int .u16 8192)) (c10 : w.cell? ⟨R, oR + 10, none⟩ = some (.int .u16 8202)) (c11 : w.cell? ⟨R, oR + 11, none⟩ = some (.int .u16 1)) (c12 : w.cell? ⟨R, oR + 12, none⟩ = some (.int .u16 8232)) (c13 : w.cell? ⟨R, oR + 13, none⟩ = some (.int .u16 8233)) (c14 : w.cell? ⟨R, oR + 14, none⟩ = some (.int .u16 1)) (c15 : w.cell? ⟨R, oR + 15, none⟩ = some (.int .u16 8239)) (c16 : w.cell? ⟨R, oR + 16, none⟩ = some (.int .u16 8287)) (c17 : w.cell? ⟨R, oR + 17, none⟩ = some (.int .u16 48)) (c18 : w.cell? ⟨R, oR + 18, none⟩ = some (.int .u16 12288)) (c19 : w.cell? ⟨R, oR + 19, none⟩ = some (.int .u16 12288)) (c20 : w.cell? ⟨R, oR + 20, none⟩ = some (.int .u16 1)) :
    Calls Tryd.prog 23 #[.slice (some ⟨R, oR + 6, none⟩) 5 5, .int .u16 z] w fun e w' => e = .returned (.bool (Lib.isSpaceR z)) ∧ Below w.heap.size w w' := Any.unicode_is16_white Tryd.lays311 R oR z w hz hz0 c6 c7 c8 c9 c10 c11 c12 c13 c14 c15 c16 c17 c18 c19 c20
def Tryd.lays261_ren : Go.Shelf.Ren := ⟨fun | 261 => 20 | 311 => 23 | 312 => 24 | n => n, fun | 141 => 101 | 21 => 21 | 4 => 4 | 0 => 0 | 196 => 106 | 193 => 103 | 3 => 3 | 51 => 99 | 198 => 109 | 49 => 107 | 194 => 104 | 201 => 112 | 226 => 119 | 46 => 120 | 227 => 121 | n => n, fun | n => n⟩
theorem Tryd.lays261 : Go.Proofs.Lays.n261 Tryd.prog Tryd.lays261_ren := {
  mixed := by kernel_rfl
  f261 := Tryd.func20.trans (congrArg some (by kernel_rfl))
  f311 := Tryd.func23.trans (congrArg some (by kernel_rfl))
  f312 := Tryd.func24.trans (congrArg some (by kernel_rfl))
  t0 := Tryd.underlying0
  a0 := Tryd.isAgg0
  z0 := Tryd.sizeOf0
  v0 := Tryd.zeroValue0
  t3 := Tryd.underlying3
  a3 := Tryd.isAgg3
  z3 := Tryd.sizeOf3
  v3 := Tryd.zeroValue3
  t4 := Tryd.underlying4
  a4 := Tryd.isAgg4
  z4 := Tryd.sizeOf4
  v4 := Tryd.zeroValue4
  t21 := Tryd.underlying21
  a21 := Tryd.isAgg21
  z21 := Tryd.sizeOf21
  v21 := Tryd.zeroValue21
  t46 := Tryd.underlying120
  a46 := Tryd.isAgg120
  z46 := Tryd.sizeOf120
  v46 := Tryd.zeroValue120
  t49 := Tryd.underlying107
  a49 := Tryd.isAgg107
  z49 := Tryd.sizeOf107
  v49 := Tryd.zeroValue107
  t51 := Tryd.underlying99
  a51 := Tryd.isAgg99
  z51 := Tryd.sizeOf99
  v51 := Tryd.zeroValue99
  t141 := Tryd.underlying101
  a141 := Tryd.isAgg101
  z141 := Tryd.sizeOf101
  v141 := Tryd.zeroValue101
  t193 := Tryd.underlying103
  a193 := Tryd.isAgg103
  z193 := Tryd.sizeOf103
  v193 := Tryd.zeroValue103
  t194 := Tryd.underlying104
  a194 := Tryd.isAgg104
  z194 := Tryd.sizeOf104
  v194 := Tryd.zeroValue104
  t196 := Tryd.underlying106
  a196 := Tryd.isAgg106
  z196 := Tryd.sizeOf106
  v196 := Tryd.zeroValue106
  t198 := Tryd.underlying109
  a198 := Tryd.isAgg109
  z198 := Tryd.sizeOf109
  v198 := Tryd.zeroValue109
  t201 := Tryd.underlying112
  a201 := Tryd.isAgg112
  z201 := Tryd.sizeOf112
  v201 := Tryd.zeroValue112
  t226 := Tryd.underlying119
  a226 := Tryd.isAgg119
  z226 := Tryd.sizeOf119
  v226 := Tryd.zeroValue119
  t227 := Tryd.underlying121
  a227 := Tryd.isAgg121
  z227 := Tryd.sizeOf121
  v227 := Tryd.zeroValue121 }
open Go.RowKit Go.Lib in
/-- unicode.isExcludingLatin(White_Space, r), r beyond U+00FF or negative. (LAID: no walk: one application.) -/
theorem Tryd.unicode_isExcludingLatin_white (T oT R oR : Nat) (r : Int) (w : World) (hlo : -2147483648 ≤ r) (hhi : r ≤ 2147483647) (hr : r < 0 ∨ 255 < r) (h2 : w.cell? ⟨T, oT, none⟩ = some (.slice (some ⟨R, oR, none⟩) 7 7)) (h3 : w.cell? ⟨T, oT + 1, none⟩ = some (.slice none 0 0)) (h4 : w.cell? ⟨T, oT + 2, none⟩ = some (.int .i64 2)) (h5 : ∀ i, i < 21 → w.cell? ⟨R, oR + i, none⟩ = some (.int .u16 (whiteT.getD i 0))) :
    Calls Tryd.prog 20 #[.pointer (some ⟨T, oT, none⟩), .int .i32 r] w fun e w' => e = .returned (.bool (Lib.isSpaceZ r)) ∧ Below w.heap.size w w' := Any.unicode_isExcludingLatin_white Tryd.lays261 T oT R oR r w hlo hhi hr h2 h3 h4 h5
open Go.RowKit Go.Lib in
/-- **unicode.IsSpace AT EVERY int32.** (LAID: no walk: one application.) -/
theorem Tryd.unicode_IsSpace_any (r : Int) (w : World) (hlo : -2147483648 ≤ r) (hhi : r ≤ 2147483647) (hW : Lib.WhiteTab 0 w) :
    Calls Tryd.prog 15 #[.int .i32 r] w fun e w' => e = .returned (.bool (Lib.isSpaceZ r)) ∧ Below w.heap.size w w' := Any.unicode_IsSpace_any Tryd.lays199 r w hlo hhi hW
open Go.RowKit Go.Lib in
theorem Tryd.unicode_is16_white_d (R oR : Nat) (z : Nat) (w : World) (hz : z < 65536) (hz0 : 255 < z) (c6 : w.cell? ⟨R, oR + 6, none⟩ = some (.int .u16 160)) (c7 : w.cell? ⟨R, oR + 7, none⟩ = some (.int .u16 5760)) (c8 : w.cell? ⟨R, oR + 8, none⟩ = some (.int .u16 5600)) (c9 : w.cell? ⟨R, oR + 9, none⟩ = some (.int .u16 8192)) (c10 : w.cell? ⟨R, oR + 10, none⟩ = some (.int .u16 8202)) (c11 : w.cell? ⟨R, oR + 11, none⟩ = some (.int .u16 1)) (c12 : w.cell? ⟨R, oR + 12, none⟩ = some (.int .u16 8232)) (c13 : w.cell? ⟨R, oR + 13, none⟩ = some (.int .u16 8233)) (c14 : w.cell? ⟨R, oR + 14, none⟩ = some (.int .u16 1)) (c15 : w.cell? ⟨R, oR + 15, none⟩ = some (.int .u16 8239)) (c16 : w.cell? ⟨R, oR + 16, none⟩ = some (.int .u16 8287)) (c17 : w.cell? ⟨R, oR + 17, none⟩ = some (.int .u16 48)) (c18 : w.cell? ⟨R, oR + 18, none⟩ = some (.int .u16 12288)) (c19 : w.cell? ⟨R, oR + 19, none⟩ = some (.int .u16 12288)) (c20 : w.cell? ⟨R, oR + 20, none⟩ = some (.int .u16 1)) :
    Calls Tryd.prog 23 #[.slice (some ⟨R, oR + 6, none⟩) 5 5, .int .u16 z] w fun e w' => e = .returned (.bool (Lib.isSpaceR z)) ∧ ∃ q, w' = w.drewN q := Any.unicode_is16_white_d Tryd.lays311 R oR z w hz hz0 c6 c7 c8 c9 c10 c11 c12 c13 c14 c15 c16 c17 c18 c19 c20
open Go.RowKit Go.Lib in
/-- unicode.isExcludingLatin(White_Space, r), r beyond U+00FF or negative. (LAID: no walk: one application.) -/
theorem Tryd.unicode_isExcludingLatin_white_d (T oT R oR : Nat) (r : Int) (w : World) (hlo : -2147483648 ≤ r) (hhi : r ≤ 2147483647) (hr : r < 0 ∨ 255 < r) (h2 : w.cell? ⟨T, oT, none⟩ = some (.slice (some ⟨R, oR, none⟩) 7 7)) (h3 : w.cell? ⟨T, oT + 1, none⟩ = some (.slice none 0 0)) (h4 : w.cell? ⟨T, oT + 2, none⟩ = some (.int .i64 2)) (h5 : ∀ i, i < 21 → w.cell? ⟨R, oR + i, none⟩ = some (.int .u16 (whiteT.getD i 0))) :
    Calls Tryd.prog 20 #[.pointer (some ⟨T, oT, none⟩), .int .i32 r] w fun e w' => e = .returned (.bool (Lib.isSpaceZ r)) ∧ ∃ q, w' = w.drewN q := Any.unicode_isExcludingLatin_white_d Tryd.lays261 T oT R oR r w hlo hhi hr h2 h3 h4 h5
open Go.RowKit Go.Lib in
/-- **unicode.IsSpace AT EVERY int32.** (LAID: no walk: one application.) -/
theorem Tryd.unicode_IsSpace_any_d (r : Int) (w : World) (hlo : -2147483648 ≤ r) (hhi : r ≤ 2147483647) (hW : Lib.WhiteTab 0 w) :
    Calls Tryd.prog 15 #[.int .i32 r] w fun e w' => e = .returned (.bool (Lib.isSpaceZ r)) ∧ ∃ q, w' = w.drewN q := Any.unicode_IsSpace_any_d Tryd.lays199 r w hlo hhi hW
open Go.RowKit Go.Lib in
theorem Tryd.unicode_is16_any (T : Array Rg) (R oR cap : Nat) (z : Nat) (w : World) (hz : z < 65536) (hT : RgTab .u16 R oR T w) (hok : RgOk 65536 T) (hn : T.size ≤ 1000000000) :
    Calls Tryd.prog 23 #[.slice (some ⟨R, oR, none⟩) T.size cap, .int .u16 z] w fun e w' => e = .returned (.bool (is16Go T z)) ∧ ∃ q, w' = w.drewN q := Any.unicode_is16_any Tryd.lays311 T R oR cap z w hz hT hok hn
def Tryd.lays312_ren : Go.Shelf.Ren := ⟨fun | 312 => 24 | n => n, fun | 194 => 104 | 51 => 99 | 4 => 4 | 3 => 3 | 0 => 0 | 227 => 121 | 201 => 112 | 46 => 120 | n => n, fun | n => n⟩
theorem Tryd.lays312 : Go.Proofs.Lays.n312 Tryd.prog Tryd.lays312_ren := {
  mixed := by kernel_rfl
  f312 := Tryd.func24.trans (congrArg some (by kernel_rfl))
  t0 := Tryd.underlying0
  a0 := Tryd.isAgg0
  z0 := Tryd.sizeOf0
  v0 := Tryd.zeroValue0
  t3 := Tryd.underlying3
  a3 := Tryd.isAgg3
  z3 := Tryd.sizeOf3
  v3 := Tryd.zeroValue3
  t4 := Tryd.underlying4
  a4 := Tryd.isAgg4
  z4 := Tryd.sizeOf4
  v4 := Tryd.zeroValue4
  t46 := Tryd.underlying120
  a46 := Tryd.isAgg120
  z46 := Tryd.sizeOf120
  v46 := Tryd.zeroValue120
  t51 := Tryd.underlying99
  a51 := Tryd.isAgg99
  z51 := Tryd.sizeOf99
  v51 := Tryd.zeroValue99
  t194 := Tryd.underlying104
  a194 := Tryd.isAgg104
  z194 := Tryd.sizeOf104
  v194 := Tryd.zeroValue104
  t201 := Tryd.underlying112
  a201 := Tryd.isAgg112
  z201 := Tryd.sizeOf112
  v201 := Tryd.zeroValue112
  t227 := Tryd.underlying121
  a227 := Tryd.isAgg121
  z227 := Tryd.sizeOf121
  v227 := Tryd.zeroValue121 }
open Go.RowKit Go.Lib in
theorem Tryd.unicode_is32_any (T : Array Rg) (R oR cap : Nat) (z : Nat) (w : World) (hz : z < 4294967296) (hT : RgTab .u32 R oR T w) (hok : RgOk 4294967296 T) (hn : T.size ≤ 1000000000) :
    Calls Tryd.prog 24 #[.slice (some ⟨R, oR, none⟩) T.size cap, .int .u32 z] w fun e w' => e = .returned (.bool (is32Go T z)) ∧ Below w.heap.size w w' := Any.unicode_is32_any Tryd.lays312 T R oR cap z w hz hT hok hn
open Go.RowKit Go.Lib in
theorem Tryd.unicode_isExcludingLatin_any (Tb oT : Nat) (T : RTab) (r : Int) (w : World) (hlo : -2147483648 ≤ r) (hhi : r ≤ 2147483647) (hA : RTabAt Tb oT T w) (hok : RTabOk T) :
    Calls Tryd.prog 20 #[.pointer (some ⟨Tb, oT, none⟩), .int .i32 r] w fun e w' => e = .returned (.bool (exclGo T r)) ∧ Below w.heap.size w w' := Any.unicode_isExcludingLatin_any Tryd.lays261 Tb oT T r w hlo hhi hA hok
open Go.RowKit Go.Lib in
/-- unicode.IsLetter(r) AT EVERY int32, over whatever table the variable unicode.Letter leads to. (LAID: no walk: one application.) -/
theorem Tryd.unicode_IsLetter_any (T : RTab) (r : Int) (w : World) (hlo : -2147483648 ≤ r) (hhi : r ≤ 2147483647) (htab : Lib.TabIs Tryd.prog w "unicode.properties" .u8 Lib.propertiesTab) (hV : RVar 3 T w) (hok : RTabOk T) :
    Calls Tryd.prog 33 #[.int .i32 r] w fun e w' => e = .returned (.bool (if latin1 r then isLetterL r else exclGo T r)) ∧ Below w.heap.size w w' := Any.unicode_IsLetter_any Tryd.lays200 (by kernel_rfl) T r w hlo hhi htab hV hok
open Go.RowKit Go.Lib in
/-- unicode.IsDigit(r) AT EVERY int32, over whatever table the variable unicode.Digit leads to. (LAID: no walk: one application.) -/
theorem Tryd.unicode_IsDigit_any (T : RTab) (r : Int) (w : World) (hlo : -2147483648 ≤ r) (hhi : r ≤ 2147483647) (hV : RVar 1 T w) (hok : RTabOk T) :
    Calls Tryd.prog 31 #[.int .i32 r] w fun e w' => e = .returned (.bool (if r ≤ 255 then isDigitL r else exclGo T r)) ∧ Below w.heap.size w w' := Any.unicode_IsDigit_any Tryd.lays198 T r w hlo hhi hV hok
open Go.RowKit Go.Lib in
/-- unicode.IsLetter(r) AT EVERY int32, the tables as their initialisers lay them: 'Lib.isLetterU r'. (LAID: no walk: one application.) -/
theorem Tryd.unicode_IsLetter_all (r : Int) (w : World) (hlo : -2147483648 ≤ r) (hhi : r ≤ 2147483647) (htab : Lib.TabIs Tryd.prog w "unicode.properties" .u8 Lib.propertiesTab) (hV : RVar 3 letterT w) :
    Calls Tryd.prog 33 #[.int .i32 r] w fun e w' => e = .returned (.bool (isLetterU r)) ∧ Below w.heap.size w w' := Any.unicode_IsLetter_all Tryd.lays200 (by kernel_rfl) r w hlo hhi htab hV
open Go.RowKit Go.Lib in
/-- unicode.IsDigit(r) AT EVERY int32: 'Lib.isDigitU r'. (LAID: no walk: one application.) -/
theorem Tryd.unicode_IsDigit_all (r : Int) (w : World) (hlo : -2147483648 ≤ r) (hhi : r ≤ 2147483647) (hV : RVar 1 digitT w) :
    Calls Tryd.prog 31 #[.int .i32 r] w fun e w' => e = .returned (.bool (isDigitU r)) ∧ Below w.heap.size w w' := Any.unicode_IsDigit_all Tryd.lays198 r w hlo hhi hV
end Go.Proofs
