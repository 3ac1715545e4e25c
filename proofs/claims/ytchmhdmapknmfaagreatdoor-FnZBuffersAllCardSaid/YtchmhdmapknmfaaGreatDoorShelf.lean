/-
  DERIVED: THE SHELF's CONTRACTS AT THIS DUMP, IN PLAIN WORDS (tools/lay-plain.mjs out of 'TryzShelf.lean', which tools/lay-shelf.mjs wrote): THE SAME DECLARATIONS UNDER THE SAME NAMES: 'import', 'namespace', 'open', 'def', 'theorem' AND NOTHING ELSE: no command of the shelf's: FOR A HAND-IN. Each laying: the table of numbers ('.._ren') and one theorem, a field a fact of the dump's own or the kernel's comparison; each contract: ONE APPLICATION.
-/
import Derived.Shelf.Strings.Builder1
import Derived.Shelf.Strings.Builder2
import Derived.Shelf.Strings.OnBuilder
import Derived.Shelf.Strings.BuilderF
import Derived.Shelf.Strings.BuilderK
import Derived.Shelf.Utf8.AppendRunePlain
import Derived.Shelf.Strconv.Itoa0
import Derived.Shelf.Strconv.Itoa1
import Derived.Shelf.LaysM
import Derived.Shelf.Strconv.Itoa2
import Derived.Shelf.Strconv.Itoa3
import Derived.Shelf.Strings.LastIndex
import Derived.Shelf.Strconv.AppendUint10
import Derived.Shelf.Strconv.AppendInt10
import Derived.Shelf.Strconv.AppendIntPublic10
import Derived.Shelf.Bits.Mul64
import Derived.Shelf.Unicode.DecodeSlow
import Derived.Shelf.Unicode.DecodeAny
import Derived.Shelf.Slices.Turned
import Derived.Test.YtchmhdmapknmfaaGreatDoorProg
namespace Go.Proofs
open Go.Shelf
def Tryz.lays169_ren : Go.Shelf.Ren := ⟨fun | 169 => 136 | n => n, fun | 70 => 200 | 9 => 9 | 0 => 0 | 72 => 202 | 37 => 101 | 127 => 244 | 3 => 3 | 5 => 5 | n => n, fun | n => n⟩
theorem Tryz.lays169 : Go.Proofs.Lays.n169 Tryz.prog Tryz.lays169_ren := {
  mixed := by kernel_rfl
  f169 := Tryz.func136.trans (congrArg some (by kernel_rfl))
  t0 := Tryz.underlying0
  a0 := Tryz.isAgg0
  z0 := Tryz.sizeOf0
  v0 := Tryz.zeroValue0
  t3 := Tryz.underlying3
  a3 := Tryz.isAgg3
  z3 := Tryz.sizeOf3
  v3 := Tryz.zeroValue3
  t9 := Tryz.underlying9
  a9 := Tryz.isAgg9
  z9 := Tryz.sizeOf9
  v9 := Tryz.zeroValue9
  t37 := Tryz.underlying101
  a37 := Tryz.isAgg101
  z37 := Tryz.sizeOf101
  v37 := Tryz.zeroValue101
  t70 := Tryz.underlying200
  a70 := Tryz.isAgg200
  z70 := Tryz.sizeOf200
  v70 := Tryz.zeroValue200
  t72 := Tryz.underlying202
  a72 := Tryz.isAgg202
  z72 := Tryz.sizeOf202
  v72 := Tryz.zeroValue202
  t127 := Tryz.underlying244
  a127 := Tryz.isAgg244
  z127 := Tryz.sizeOf244
  v127 := Tryz.zeroValue244 }
theorem Tryz.Builder_Extra_169 : Builder.Extra Tryz.prog Tryz.lays169_ren := {
  sizeBuilder := by kernel_rfl
  liesBuilder := by kernel_rfl
  t5 := Tryz.underlying5
  a5 := Tryz.isAgg5
  z5 := Tryz.sizeOf5
  v5 := Tryz.zeroValue5
  infoByte := by kernel_rfl
  cellsByte := by kernel_rfl
  sizeByte := by kernel_rfl
  neB5 := by decide }
open Go.RowKit in
/-- (*strings.Builder).String: "String returns the accumulated string.": OF A BUILDER THAT HOLDS AT LEAST ONE BYTE. ✋ THE MODEL FREEZES THOSE BYTES IN THE BUFFER (unsafe.String): a later write INTO them ends the model's run without an answer; a later append BEHIND them goes on. The statement's order of evaluation is drawn: one draw. (LAID: no walk: one application.) -/
theorem Tryz.Builder_String (B b : Nat) (l : List UInt8) (w : World) (h : Lib.IsBuilder 202 5 B b (Lib.byteCells l) w) (h0 : l ≠ []) :
    Calls Tryz.prog 136 #[.pointer (some ⟨b, 0, none⟩)] w fun e w' => e = .returned (.string ⟨l.toArray⟩) ∧ Below B w w' := Any.Builder_String Tryz.lays169 Tryz.Builder_Extra_169 B b l w h h0
open Go.RowKit in
/-- (*strings.Builder).String OF A BUILDER THAT HOLDS NO BYTE: the empty string. (Its buffer is nil, or a row of which it has taken nothing yet; where that row has NO capacity the model lays one new block for unsafe.SliceData's 'some address'.) One draw. (LAID: no walk: one application.) -/
theorem Tryz.Builder_String_empty (B b : Nat) (w : World) (h : Lib.IsBuilder 202 5 B b [] w) (hBw : B ≤ w.heap.size) :
    Calls Tryz.prog 136 #[.pointer (some ⟨b, 0, none⟩)] w fun e w' => e = .returned (.string ⟨#[]⟩) ∧ Below B w w' := Any.Builder_String_empty Tryz.lays169 Tryz.Builder_Extra_169 B b w h hBw
open Go.RowKit in
/-- (*strings.Builder).String: "String returns the accumulated string.": WHATEVER THE BUILDER HOLDS. (LAID: no walk: one application.) -/
theorem Tryz.Builder_String_any (B b : Nat) (l : List UInt8) (w : World) (h : Lib.IsBuilder 202 5 B b (Lib.byteCells l) w) (hBw : B ≤ w.heap.size) :
    Calls Tryz.prog 136 #[.pointer (some ⟨b, 0, none⟩)] w fun e w' => e = .returned (.string ⟨l.toArray⟩) ∧ Below B w w' := Any.Builder_String_any Tryz.lays169 Tryz.Builder_Extra_169 B b l w h hBw
def Tryz.lays241_ren : Go.Shelf.Ren := ⟨fun | 241 => 169 | 277 => 192 | n => n, fun | 70 => 200 | 3 => 3 | 0 => 0 | 72 => 202 | 37 => 101 | 5 => 5 | n => n, fun | n => n⟩
theorem Tryz.lays241 : Go.Proofs.Lays.n241 Tryz.prog Tryz.lays241_ren := {
  mixed := by kernel_rfl
  f241 := Tryz.func169.trans (congrArg some (by kernel_rfl))
  f277 := Tryz.func192.trans (congrArg some (by kernel_rfl))
  t0 := Tryz.underlying0
  a0 := Tryz.isAgg0
  z0 := Tryz.sizeOf0
  v0 := Tryz.zeroValue0
  t3 := Tryz.underlying3
  a3 := Tryz.isAgg3
  z3 := Tryz.sizeOf3
  v3 := Tryz.zeroValue3
  t37 := Tryz.underlying101
  a37 := Tryz.isAgg101
  z37 := Tryz.sizeOf101
  v37 := Tryz.zeroValue101
  t70 := Tryz.underlying200
  a70 := Tryz.isAgg200
  z70 := Tryz.sizeOf200
  v70 := Tryz.zeroValue200
  t72 := Tryz.underlying202
  a72 := Tryz.isAgg202
  z72 := Tryz.sizeOf202
  v72 := Tryz.zeroValue202 }
theorem Tryz.Builder_Extra_241 : Builder.Extra Tryz.prog Tryz.lays241_ren := {
  sizeBuilder := by kernel_rfl
  liesBuilder := by kernel_rfl
  t5 := Tryz.underlying5
  a5 := Tryz.isAgg5
  z5 := Tryz.sizeOf5
  v5 := Tryz.zeroValue5
  infoByte := by kernel_rfl
  cellsByte := by kernel_rfl
  sizeByte := by kernel_rfl
  neB5 := by decide }
open Go.RowKit in
/-- (*strings.Builder).grow (no doc but "grow copies the buffer to a new, larger buffer so that there are at least n bytes of capacity beyond len(b.buf)."): AT A BUILDER WITHOUT A BUFFER: a new row of whatever bytes for its buffer, none of them its own yet. Three draws. (LAID: no walk: one application.) -/
theorem Tryz.Builder_grow_fresh (B b n : Nat) (w : World) (hB : B ≤ b) (hbk : w.heap[b]? = some (.cells #[.pointer (some ⟨b, 0, none⟩), .slice none 0 0] 202 (0, 0))) (hBw : B ≤ w.heap.size) (hn : n ≤ 281474976710656) :
    Calls Tryz.prog 169 #[.pointer (some ⟨b, 0, none⟩), .int .i64 n] w fun e w' => e = .returned (.tuple #[]) ∧ (Lib.BuilderAt 202 5 B b (.pointer (some ⟨b, 0, none⟩)) [] w' ∧ Below B w w') := Any.Builder_grow_fresh Tryz.lays241 Tryz.Builder_Extra_241 B b n w hB hbk hBw hn
def Tryz.lays165_ren : Go.Shelf.Ren := ⟨fun | 165 => 134 | 240 => 168 | 241 => 169 | 276 => 191 | 277 => 192 | n => n, fun | 70 => 200 | 3 => 3 | 0 => 0 | 4 => 4 | 9 => 9 | 20 => 20 | 72 => 202 | 37 => 101 | 164 => 274 | 5 => 5 | n => n, fun | n => n⟩
theorem Tryz.lays165 : Go.Proofs.Lays.n165 Tryz.prog Tryz.lays165_ren := {
  mixed := by kernel_rfl
  f165 := Tryz.func134.trans (congrArg some (by kernel_rfl))
  f240 := Tryz.func168.trans (congrArg some (by kernel_rfl))
  f241 := Tryz.func169.trans (congrArg some (by kernel_rfl))
  f276 := Tryz.func191.trans (congrArg some (by kernel_rfl))
  f277 := Tryz.func192.trans (congrArg some (by kernel_rfl))
  t0 := Tryz.underlying0
  a0 := Tryz.isAgg0
  z0 := Tryz.sizeOf0
  v0 := Tryz.zeroValue0
  t3 := Tryz.underlying3
  a3 := Tryz.isAgg3
  z3 := Tryz.sizeOf3
  v3 := Tryz.zeroValue3
  t4 := Tryz.underlying4
  a4 := Tryz.isAgg4
  z4 := Tryz.sizeOf4
  v4 := Tryz.zeroValue4
  t9 := Tryz.underlying9
  a9 := Tryz.isAgg9
  z9 := Tryz.sizeOf9
  v9 := Tryz.zeroValue9
  t20 := Tryz.underlying20
  a20 := Tryz.isAgg20
  z20 := Tryz.sizeOf20
  v20 := Tryz.zeroValue20
  t37 := Tryz.underlying101
  a37 := Tryz.isAgg101
  z37 := Tryz.sizeOf101
  v37 := Tryz.zeroValue101
  t70 := Tryz.underlying200
  a70 := Tryz.isAgg200
  z70 := Tryz.sizeOf200
  v70 := Tryz.zeroValue200
  t72 := Tryz.underlying202
  a72 := Tryz.isAgg202
  z72 := Tryz.sizeOf202
  v72 := Tryz.zeroValue202
  t164 := Tryz.underlying274
  a164 := Tryz.isAgg274
  z164 := Tryz.sizeOf274
  v164 := Tryz.zeroValue274 }
theorem Tryz.Builder_Extra_165 : Builder.Extra Tryz.prog Tryz.lays165_ren := {
  sizeBuilder := by kernel_rfl
  liesBuilder := by kernel_rfl
  t5 := Tryz.underlying5
  a5 := Tryz.isAgg5
  z5 := Tryz.sizeOf5
  v5 := Tryz.zeroValue5
  infoByte := by kernel_rfl
  cellsByte := by kernel_rfl
  sizeByte := by kernel_rfl
  neB5 := by decide }
open Go.RowKit in
/-- (*strings.Builder).Grow AT A BUILDER THAT HAS NOT BEEN WRITTEN ('var b strings.Builder; b.Grow(n)'): "Grow grows b's capacity, if necessary, to guarantee space for another n bytes.": it holds no byte behind it as before it. (LAID: no walk: one application.) -/
theorem Tryz.Builder_Grow_fresh (B b n : Nat) (w : World) (hB : B ≤ b) (hbk : w.heap[b]? = some (.cells #[.pointer none, .slice none 0 0] 202 (0, 0))) (hBw : B ≤ w.heap.size) (hn : n ≤ 281474976710656) :
    Calls Tryz.prog 134 #[.pointer (some ⟨b, 0, none⟩), .int .i64 n] w fun e w' => e = .returned (.tuple #[]) ∧ (Lib.BuilderAt 202 5 B b (.pointer (some ⟨b, 0, none⟩)) [] w' ∧ Below B w w') := Any.Builder_Grow_fresh Tryz.lays165 Tryz.Builder_Extra_165 B b n w hB hbk hBw hn
def Tryz.lays156_ren : Go.Shelf.Ren := ⟨fun | 156 => 100 | 165 => 134 | 166 => 135 | 169 => 136 | 240 => 168 | 241 => 169 | 276 => 191 | 277 => 192 | n => n, fun | 31 => 22 | 9 => 9 | 3 => 3 | 4 => 4 | 0 => 0 | 20 => 20 | 72 => 202 | 76 => 121 | 70 => 200 | 37 => 101 | 75 => 120 | 127 => 244 | 164 => 274 | 5 => 5 | 80 => 113 | n => n, fun | n => n⟩
theorem Tryz.lays156 : Go.Proofs.Lays.n156 Tryz.prog Tryz.lays156_ren := {
  mixed := by kernel_rfl
  f156 := Tryz.func100.trans (congrArg some (by kernel_rfl))
  f165 := Tryz.func134.trans (congrArg some (by kernel_rfl))
  f166 := Tryz.func135.trans (congrArg some (by kernel_rfl))
  f169 := Tryz.func136.trans (congrArg some (by kernel_rfl))
  f240 := Tryz.func168.trans (congrArg some (by kernel_rfl))
  f241 := Tryz.func169.trans (congrArg some (by kernel_rfl))
  f276 := Tryz.func191.trans (congrArg some (by kernel_rfl))
  f277 := Tryz.func192.trans (congrArg some (by kernel_rfl))
  t0 := Tryz.underlying0
  a0 := Tryz.isAgg0
  z0 := Tryz.sizeOf0
  v0 := Tryz.zeroValue0
  t3 := Tryz.underlying3
  a3 := Tryz.isAgg3
  z3 := Tryz.sizeOf3
  v3 := Tryz.zeroValue3
  t4 := Tryz.underlying4
  a4 := Tryz.isAgg4
  z4 := Tryz.sizeOf4
  v4 := Tryz.zeroValue4
  t9 := Tryz.underlying9
  a9 := Tryz.isAgg9
  z9 := Tryz.sizeOf9
  v9 := Tryz.zeroValue9
  t20 := Tryz.underlying20
  a20 := Tryz.isAgg20
  z20 := Tryz.sizeOf20
  v20 := Tryz.zeroValue20
  t31 := Tryz.underlying22
  a31 := Tryz.isAgg22
  z31 := Tryz.sizeOf22
  v31 := Tryz.zeroValue22
  t37 := Tryz.underlying101
  a37 := Tryz.isAgg101
  z37 := Tryz.sizeOf101
  v37 := Tryz.zeroValue101
  t70 := Tryz.underlying200
  a70 := Tryz.isAgg200
  z70 := Tryz.sizeOf200
  v70 := Tryz.zeroValue200
  t72 := Tryz.underlying202
  a72 := Tryz.isAgg202
  z72 := Tryz.sizeOf202
  v72 := Tryz.zeroValue202
  t75 := Tryz.underlying120
  a75 := Tryz.isAgg120
  z75 := Tryz.sizeOf120
  v75 := Tryz.zeroValue120
  t76 := Tryz.underlying121
  a76 := Tryz.isAgg121
  z76 := Tryz.sizeOf121
  v76 := Tryz.zeroValue121
  t127 := Tryz.underlying244
  a127 := Tryz.isAgg244
  z127 := Tryz.sizeOf244
  v127 := Tryz.zeroValue244
  t164 := Tryz.underlying274
  a164 := Tryz.isAgg274
  z164 := Tryz.sizeOf274
  v164 := Tryz.zeroValue274 }
theorem Tryz.Builder_Extra_156 : Builder.Extra Tryz.prog Tryz.lays156_ren := {
  sizeBuilder := by kernel_rfl
  liesBuilder := by kernel_rfl
  t5 := Tryz.underlying5
  a5 := Tryz.isAgg5
  z5 := Tryz.sizeOf5
  v5 := Tryz.zeroValue5
  infoByte := by kernel_rfl
  cellsByte := by kernel_rfl
  sizeByte := by kernel_rfl
  neB5 := by decide }
open Go.RowKit in
/-- No element: the empty string; the world is as it was. (Whatever the slice's address and capacity: a nil slice too.) (LAID: no walk: one application.) -/
theorem Tryz.strings_Join_none (a : Option Addr) (c : Nat) (sep : ByteArray) (w : World) :
    Calls Tryz.prog 100 #[.slice a 0 c, .string sep] w fun e w' => e = .returned (.string ⟨#[]⟩) ∧ w' = w := Any.strings_Join_none Tryz.lays156 Tryz.Builder_Extra_156 a c sep w
open Go.RowKit in
/-- strings.Join: "Join concatenates the elements of its first argument to create a single string. The separator string sep is placed between elements in the resulting string.": HOWEVER MANY ELEMENTS. Below the heap's end the world is as it was. (LAID: no walk: one application.) -/
theorem Tryz.strings_Join (bk o c : Nat) (xs : List ByteArray) (sep : ByteArray) (w : World) (hcells : ∀ (j : Nat) x, xs[j]? = some x → w.cell? ⟨bk, o + j, none⟩ = some (.string x)) (hbk : bk < w.heap.size) (hN : xs.length ≤ 140737488355328) (hcap : xs.length ≤ c) (hlen : (Lib.join (xs.map (·.data.toList)) sep.data.toList).length ≤ 140737488355328) :
    Calls Tryz.prog 100 #[.slice (some ⟨bk, o, none⟩) xs.length c, .string sep] w fun e w' => e = .returned (.string ⟨(Lib.join (xs.map (·.data.toList)) sep.data.toList).toArray⟩) ∧ Below w.heap.size w w' := Any.strings_Join Tryz.lays156 Tryz.Builder_Extra_156 bk o c xs sep w hcells hbk hN hcap hlen
open Go.RowKit in
/-- (*strings.Builder).String: "String returns the accumulated string.": OF A BUILDER THAT HOLDS AT LEAST ONE BYTE. ✋ THE MODEL FREEZES THOSE BYTES IN THE BUFFER (unsafe.String): a later write INTO them ends the model's run without an answer; a later append BEHIND them goes on. The statement's order of evaluation is drawn: one draw. THE FORM '_f': IT SAYS BESIDES THAT THE BUILDER IS A BUILDER STILL ('Lib.IsBuilderF', the same bytes): SO IT CAN BE WRITTEN ON: 'b.WriteString(b.String()[:k])'. (LAID: no walk: one application.) -/
theorem Tryz.Builder_String_f (B b : Nat) (l : List UInt8) (w : World) (h : Lib.IsBuilderF 202 5 B b (Lib.byteCells l) w) (h0 : l ≠ []) :
    Calls Tryz.prog 136 #[.pointer (some ⟨b, 0, none⟩)] w fun e w' => e = .returned (.string ⟨l.toArray⟩) ∧ (Lib.IsBuilderF 202 5 B b (Lib.byteCells l) w' ∧ Below B w w') := Any.Builder_String_f Tryz.lays169 Tryz.Builder_Extra_169 B b l w h h0
open Go.RowKit in
/-- (*strings.Builder).String OF A BUILDER THAT HOLDS NO BYTE: the empty string; THE FORM '_f': a builder still. (LAID: no walk: one application.) -/
theorem Tryz.Builder_String_empty_f (B b : Nat) (w : World) (h : Lib.IsBuilderF 202 5 B b [] w) (hBw : B ≤ w.heap.size) :
    Calls Tryz.prog 136 #[.pointer (some ⟨b, 0, none⟩)] w fun e w' => e = .returned (.string ⟨#[]⟩) ∧ (Lib.IsBuilderF 202 5 B b [] w' ∧ Below B w w') := Any.Builder_String_empty_f Tryz.lays169 Tryz.Builder_Extra_169 B b w h hBw
open Go.RowKit in
/-- (*strings.Builder).String: "String returns the accumulated string.": WHATEVER THE BUILDER HOLDS; THE FORM '_f': OF A BUILDER THAT MAY HAVE BEEN READ BEFORE; AND IT IS A BUILDER STILL, holding the same bytes: it can be written on. (LAID: no walk: one application.) -/
theorem Tryz.Builder_String_any_f (B b : Nat) (l : List UInt8) (w : World) (h : Lib.IsBuilderF 202 5 B b (Lib.byteCells l) w) (hBw : B ≤ w.heap.size) :
    Calls Tryz.prog 136 #[.pointer (some ⟨b, 0, none⟩)] w fun e w' => e = .returned (.string ⟨l.toArray⟩) ∧ (Lib.IsBuilderF 202 5 B b (Lib.byteCells l) w' ∧ Below B w w') := Any.Builder_String_any_f Tryz.lays169 Tryz.Builder_Extra_169 B b l w h hBw
open Go.RowKit in
/-- (*strings.Builder).String: "String returns the accumulated string.": OF A BUILDER THAT HOLDS AT LEAST ONE BYTE. ✋ THE MODEL FREEZES THOSE BYTES IN THE BUFFER (unsafe.String): a later write INTO them ends the model's run without an answer; a later append BEHIND them goes on. The statement's order of evaluation is drawn: one draw. THE FORM '_k': OVER 'Lib.IsBuilderF' (a builder that 'String()' may have read), AND WITH THE FRAME THAT REACHES ABOVE THE BUILDER: 'Lib.OthersKept': every block that is not b and is no row of uint8's stands as it stood: the iterator of a range among them. (LAID: no walk: one application.) -/
theorem Tryz.Builder_String_k (B b : Nat) (l : List UInt8) (w : World) (h : Lib.IsBuilderF 202 5 B b (Lib.byteCells l) w) (h0 : l ≠ []) :
    Calls Tryz.prog 136 #[.pointer (some ⟨b, 0, none⟩)] w fun e w' => e = .returned (.string ⟨l.toArray⟩) ∧ (Lib.IsBuilderF 202 5 B b (Lib.byteCells l) w' ∧ Below B w w' ∧ Lib.OthersKept 5 (some b) w w') := Any.Builder_String_k Tryz.lays169 Tryz.Builder_Extra_169 B b l w h h0
open Go.RowKit in
/-- (*strings.Builder).String OF A BUILDER THAT HOLDS NO BYTE: the empty string; THE FORM '_k': OVER 'Lib.IsBuilderF' (a builder that 'String()' may have read), AND WITH THE FRAME THAT REACHES ABOVE THE BUILDER: 'Lib.OthersKept': every block that is not b and is no row of uint8's stands as it stood: the iterator of a range among them. (LAID: no walk: one application.) -/
theorem Tryz.Builder_String_empty_k (B b : Nat) (w : World) (h : Lib.IsBuilderF 202 5 B b [] w) (hBw : B ≤ w.heap.size) :
    Calls Tryz.prog 136 #[.pointer (some ⟨b, 0, none⟩)] w fun e w' => e = .returned (.string ⟨#[]⟩) ∧ (Lib.IsBuilderF 202 5 B b [] w' ∧ Below B w w' ∧ Lib.OthersKept 5 (some b) w w') := Any.Builder_String_empty_k Tryz.lays169 Tryz.Builder_Extra_169 B b w h hBw
open Go.RowKit in
/-- (*strings.Builder).String: "String returns the accumulated string.": WHATEVER THE BUILDER HOLDS; THE FORM '_k': OVER 'Lib.IsBuilderF' (a builder that 'String()' may have read), AND WITH THE FRAME THAT REACHES ABOVE THE BUILDER: 'Lib.OthersKept': every block that is not b and is no row of uint8's stands as it stood: the iterator of a range among them. (LAID: no walk: one application.) -/
theorem Tryz.Builder_String_any_k (B b : Nat) (l : List UInt8) (w : World) (h : Lib.IsBuilderF 202 5 B b (Lib.byteCells l) w) (hBw : B ≤ w.heap.size) :
    Calls Tryz.prog 136 #[.pointer (some ⟨b, 0, none⟩)] w fun e w' => e = .returned (.string ⟨l.toArray⟩) ∧ (Lib.IsBuilderF 202 5 B b (Lib.byteCells l) w' ∧ Below B w w' ∧ Lib.OthersKept 5 (some b) w w') := Any.Builder_String_any_k Tryz.lays169 Tryz.Builder_Extra_169 B b l w h hBw
def Tryz.lays278_ren : Go.Shelf.Ren := ⟨fun | 278 => 139 | n => n, fun | 37 => 101 | 21 => 21 | 51 => 210 | 4 => 4 | 46 => 192 | 5 => 5 | n => n, fun | n => n⟩
theorem Tryz.lays278 : Go.Proofs.Lays.n278 Tryz.prog Tryz.lays278_ren := {
  mixed := by kernel_rfl
  f278 := Tryz.func139.trans (congrArg some (by kernel_rfl))
  t4 := Tryz.underlying4
  a4 := Tryz.isAgg4
  z4 := Tryz.sizeOf4
  v4 := Tryz.zeroValue4
  t5 := Tryz.underlying5
  a5 := Tryz.isAgg5
  z5 := Tryz.sizeOf5
  v5 := Tryz.zeroValue5
  t21 := Tryz.underlying21
  a21 := Tryz.isAgg21
  z21 := Tryz.sizeOf21
  v21 := Tryz.zeroValue21
  t37 := Tryz.underlying101
  a37 := Tryz.isAgg101
  z37 := Tryz.sizeOf101
  v37 := Tryz.zeroValue101
  t46 := Tryz.underlying192
  a46 := Tryz.isAgg192
  z46 := Tryz.sizeOf192
  v46 := Tryz.zeroValue192
  t51 := Tryz.underlying210
  a51 := Tryz.isAgg210
  z51 := Tryz.sizeOf210
  v51 := Tryz.zeroValue210 }
open Go.RowKit in
/-- unicode/utf8.appendRuneNonASCII (what AppendRune calls for all but ASCII), ONTO A ROW OF BYTES THAT THE CALL OWNS: every int32 that is no ASCII rune: 'Lib.runeCells r' goes in behind what the row holds. (LAID: no walk: one application.) -/
theorem Tryz.utf8_appendRuneNonASCII_plain (B : Nat) (v : Value) (n : Nat) (xs : List Value) (r : Int) (hr0 : -2147483648 ≤ r) (hr1 : r ≤ 2147483647) (hna : r < 0 ∨ 128 ≤ r) (w : World) (hown : w.ownsRow B 5 1 v n xs) (hlen : n + 4 ≤ 140737488355328) (hBw : B ≤ w.heap.size) :
    Calls Tryz.prog 139 #[v, .int .i32 r] w fun e w' => ∃ v', e = .returned v' ∧ w'.ownsRow B 5 1 v' (n + (Lib.runeCells r).length) (xs ++ Lib.runeCells r) ∧ ∃ o, (w.alloc o).grownBy w' v.ownBlock := Any.utf8_appendRuneNonASCII_plain Tryz.lays278 (by kernel_rfl) B v n xs r hr0 hr1 hna w hown hlen hBw
def Tryz.lays242_ren : Go.Shelf.Ren := ⟨fun | 242 => 109 | 278 => 139 | n => n, fun | 37 => 101 | 21 => 21 | 51 => 210 | 4 => 4 | 5 => 5 | 46 => 192 | n => n, fun | n => n⟩
theorem Tryz.lays242 : Go.Proofs.Lays.n242 Tryz.prog Tryz.lays242_ren := {
  mixed := by kernel_rfl
  f242 := Tryz.func109.trans (congrArg some (by kernel_rfl))
  f278 := Tryz.func139.trans (congrArg some (by kernel_rfl))
  t4 := Tryz.underlying4
  a4 := Tryz.isAgg4
  z4 := Tryz.sizeOf4
  v4 := Tryz.zeroValue4
  t5 := Tryz.underlying5
  a5 := Tryz.isAgg5
  z5 := Tryz.sizeOf5
  v5 := Tryz.zeroValue5
  t21 := Tryz.underlying21
  a21 := Tryz.isAgg21
  z21 := Tryz.sizeOf21
  v21 := Tryz.zeroValue21
  t37 := Tryz.underlying101
  a37 := Tryz.isAgg101
  z37 := Tryz.sizeOf101
  v37 := Tryz.zeroValue101
  t46 := Tryz.underlying192
  a46 := Tryz.isAgg192
  z46 := Tryz.sizeOf192
  v46 := Tryz.zeroValue192
  t51 := Tryz.underlying210
  a51 := Tryz.isAgg210
  z51 := Tryz.sizeOf210
  v51 := Tryz.zeroValue210 }
open Go.RowKit in
/-- unicode/utf8.AppendRune: "AppendRune appends the UTF-8 encoding of r to the end of p and returns the extended buffer. If the rune is out of range, it appends the encoding of RuneError.": ONTO A ROW OF BYTES THAT THE CALL OWNS (its head frozen or not): EVERY int32: 'Lib.runeCells r' goes in behind what the row holds; the world: one new block (the bytes as the call's variadic argument), then what 'append' does to the row. (LAID: no walk: one application.) -/
theorem Tryz.utf8_AppendRune_plain (B : Nat) (v : Value) (n : Nat) (xs : List Value) (r : Int) (hr0 : -2147483648 ≤ r) (hr1 : r ≤ 2147483647) (w : World) (hown : w.ownsRow B 5 1 v n xs) (hlen : n + 4 ≤ 140737488355328) (hBw : B ≤ w.heap.size) :
    Calls Tryz.prog 109 #[v, .int .i32 r] w fun e w' => ∃ v', e = .returned v' ∧ w'.ownsRow B 5 1 v' (n + (Lib.runeCells r).length) (xs ++ Lib.runeCells r) ∧ ∃ o, (w.alloc o).grownBy w' v.ownBlock := Any.utf8_AppendRune_plain Tryz.lays242 (by kernel_rfl) B v n xs r hr0 hr1 w hown hlen hBw
def Tryz.lays129_ren : Go.Shelf.Ren := ⟨fun | 129 => 196 | n => n, fun | 53 => 86 | 3 => 3 | 4 => 4 | 46 => 192 | 5 => 5 | 9 => 9 | n => n, fun | n => n⟩
theorem Tryz.lays129 : Go.Proofs.Lays.n129 Tryz.prog Tryz.lays129_ren := {
  mixed := by kernel_rfl
  f129 := Tryz.func196.trans (congrArg some (by kernel_rfl))
  t3 := Tryz.underlying3
  a3 := Tryz.isAgg3
  z3 := Tryz.sizeOf3
  v3 := Tryz.zeroValue3
  t4 := Tryz.underlying4
  a4 := Tryz.isAgg4
  z4 := Tryz.sizeOf4
  v4 := Tryz.zeroValue4
  t5 := Tryz.underlying5
  a5 := Tryz.isAgg5
  z5 := Tryz.sizeOf5
  v5 := Tryz.zeroValue5
  t9 := Tryz.underlying9
  a9 := Tryz.isAgg9
  z9 := Tryz.sizeOf9
  v9 := Tryz.zeroValue9
  t46 := Tryz.underlying192
  a46 := Tryz.isAgg192
  z46 := Tryz.sizeOf192
  v46 := Tryz.zeroValue192
  t53 := Tryz.underlying86
  a53 := Tryz.isAgg86
  z53 := Tryz.sizeOf86
  v53 := Tryz.zeroValue86 }
/-- bits.Len64: "Len64 returns the minimum number of bits required to represent x; the result is 0 for x == 0.": IT RETURNS 'Lib.bitLen x'; the world is as it was. ('h0', 'h1': x is a uint64.) (LAID: no walk: one application.) -/
theorem Tryz.bits_Len64 (x : Int) (w : World) (h0 : 0 ≤ x) (h1 : x ≤ 18446744073709551615) :
    Calls Tryz.prog 196 #[.int .u64 x] w fun e w' => e = .returned (.int .i64 (Lib.bitLen x.toNat)) ∧ w' = w := Any.bits_Len64 Tryz.lays129 x w h0 h1
def Tryz.lays317_ren : Go.Shelf.Ren := ⟨fun | 317 => 195 | n => n, fun | 3 => 3 | 46 => 192 | n => n, fun | n => n⟩
theorem Tryz.lays317 : Go.Proofs.Lays.n317 Tryz.prog Tryz.lays317_ren := {
  mixed := by kernel_rfl
  f317 := Tryz.func195.trans (congrArg some (by kernel_rfl))
  t3 := Tryz.underlying3
  a3 := Tryz.isAgg3
  z3 := Tryz.sizeOf3
  v3 := Tryz.zeroValue3
  t46 := Tryz.underlying192
  a46 := Tryz.isAgg192
  z46 := Tryz.sizeOf192
  v46 := Tryz.zeroValue192 }
open Go.Lib in
/-- internal/strconv.log10Pow2: "log10Pow2(x) returns ⌊log₁₀ 2**x⌋ = ⌊x * log₁₀ 2⌋.": '(x * 78913) >> 18', at an x up to 64 (a length in bits). The world is as it was. (LAID: no walk: one application.) -/
theorem Tryz.internal_strconv_log10Pow2 (x : Nat) (h : x ≤ 64) (w : World) :
    Calls Tryz.prog 195 #[.int .i64 x] w fun e w' => e = .returned (.int .i64 (Lib.l10 x)) ∧ w' = w := Any.internal_strconv_log10Pow2 Tryz.lays317 x h w
def Tryz.lays318_ren : Go.Shelf.Ren := ⟨fun | 318 => 197 | n => n, fun | 3 => 3 | 4 => 4 | n => n, fun | n => n⟩
theorem Tryz.lays318 : Go.Proofs.Lays.n318 Tryz.prog Tryz.lays318_ren := {
  mixed := by kernel_rfl
  f318 := Tryz.func197.trans (congrArg some (by kernel_rfl))
  t3 := Tryz.underlying3
  a3 := Tryz.isAgg3
  z3 := Tryz.sizeOf3
  v3 := Tryz.zeroValue3
  t4 := Tryz.underlying4
  a4 := Tryz.isAgg4
  z4 := Tryz.sizeOf4
  v4 := Tryz.zeroValue4 }
open Go.Lib in
/-- internal/strconv.bool2: "bool2 converts b to an integer: 1 for true, 0 for false." The world is as it was. (LAID: no walk: one application.) -/
theorem Tryz.internal_strconv_bool2_int (b : Bool) (w : World) :
    Calls Tryz.prog 197 #[.bool b] w fun e w' => e = .returned (.int .i64 (if b then 1 else 0)) ∧ w' = w := Any.internal_strconv_bool2_int Tryz.lays318 b w
def Tryz.lays283_ren : Go.Shelf.Ren := ⟨fun | 283 => 187 | n => n, fun | 3 => 3 | 9 => 9 | 4 => 4 | n => n, fun | n => n⟩
theorem Tryz.lays283 : Go.Proofs.Lays.n283 Tryz.prog Tryz.lays283_ren := {
  mixed := by kernel_rfl
  f283 := Tryz.func187.trans (congrArg some (by kernel_rfl))
  t3 := Tryz.underlying3
  a3 := Tryz.isAgg3
  z3 := Tryz.sizeOf3
  v3 := Tryz.zeroValue3
  t4 := Tryz.underlying4
  a4 := Tryz.isAgg4
  z4 := Tryz.sizeOf4
  v4 := Tryz.zeroValue4
  t9 := Tryz.underlying9
  a9 := Tryz.isAgg9
  z9 := Tryz.sizeOf9
  v9 := Tryz.zeroValue9 }
open Go.Lib in
/-- internal/strconv.small: "small returns the string for an i with 0 <= i < nSmalls.": i's decimal numeral. The world is as it was. (LAID: no walk: one application.) -/
theorem Tryz.internal_strconv_small (i : Nat) (h : i < 100) (w : World) :
    Calls Tryz.prog 187 #[.int .i64 i] w fun e w' => e = .returned (.string ⟨(Lib.decDigits i).toArray⟩) ∧ w' = w := Any.internal_strconv_small Tryz.lays283 i h w
def Tryz.laysM284_ren : Go.Shelf.Ren := ⟨fun | 284 => 188 | 129 => 196 | 317 => 195 | 318 => 197 | n => n, fun | 53 => 86 | 3 => 3 | 212 => 280 | 0 => 0 | 4 => 4 | 46 => 192 | 5 => 5 | 9 => 9 | n => n, fun | 17 => 8 | n => n⟩
theorem Tryz.laysM284 : Go.Proofs.LaysM.n284 Tryz.prog Tryz.laysM284_ren := {
  mixed := by kernel_rfl
  f129 := Tryz.func196.trans (congrArg some (by kernel_rfl))
  f284 := Tryz.func188.trans (congrArg some (by kernel_rfl))
  f317 := Tryz.func195.trans (congrArg some (by kernel_rfl))
  f318 := Tryz.func197.trans (congrArg some (by kernel_rfl))
  t0 := Tryz.underlying0
  a0 := Tryz.isAgg0
  z0 := Tryz.sizeOf0
  v0 := Tryz.zeroValue0
  t3 := Tryz.underlying3
  a3 := Tryz.isAgg3
  z3 := Tryz.sizeOf3
  v3 := Tryz.zeroValue3
  t4 := Tryz.underlying4
  a4 := Tryz.isAgg4
  z4 := Tryz.sizeOf4
  v4 := Tryz.zeroValue4
  t5 := Tryz.underlying5
  a5 := Tryz.isAgg5
  z5 := Tryz.sizeOf5
  v5 := Tryz.zeroValue5
  t9 := Tryz.underlying9
  a9 := Tryz.isAgg9
  z9 := Tryz.sizeOf9
  v9 := Tryz.zeroValue9
  t46 := Tryz.underlying192
  a46 := Tryz.isAgg192
  z46 := Tryz.sizeOf192
  v46 := Tryz.zeroValue192
  t53 := Tryz.underlying86
  a53 := Tryz.isAgg86
  z53 := Tryz.sizeOf86
  v53 := Tryz.zeroValue86
  t212 := Tryz.underlying280
  a212 := Tryz.isAgg280
  z212 := Tryz.sizeOf280
  v212 := Tryz.zeroValue280
  g17 := by kernel_rfl
  i0 := by kernel_rfl
  i3 := by kernel_rfl
  i4 := by kernel_rfl
  i5 := by kernel_rfl
  i9 := by kernel_rfl
  i46 := by kernel_rfl
  i53 := by kernel_rfl
  i212 := by kernel_rfl
  m17 := by kernel_rfl }
open Go.Lib in
/-- internal/strconv.numDigits, at a d that is not 0: THE NUMBER OF d's DECIMAL DIGITS. The world is as it was. (LAID: no walk: one application.) -/
theorem Tryz.internal_strconv_numDigits (u : Nat) (h1 : 1 ≤ u) (h2 : u < 18446744073709551616) (w : World) (htab : Lib.TabIs Tryz.prog w "internal/strconv.uint64pow10" .u64 Lib.pow10Tab) :
    Calls Tryz.prog 188 #[.int .u64 u] w fun e w' => e = .returned (.int .i64 (Lib.nDigits u)) ∧ w' = w := Any.internal_strconv_numDigits Tryz.laysM284 u h1 h2 w htab
def Tryz.lays285_ren : Go.Shelf.Ren := ⟨fun | 285 => 189 | n => n, fun | 37 => 101 | 53 => 86 | 3 => 3 | 4 => 4 | 51 => 210 | 9 => 9 | 5 => 5 | 0 => 0 | n => n, fun | n => n⟩
theorem Tryz.lays285 : Go.Proofs.Lays.n285 Tryz.prog Tryz.lays285_ren := {
  mixed := by kernel_rfl
  f285 := Tryz.func189.trans (congrArg some (by kernel_rfl))
  t0 := Tryz.underlying0
  a0 := Tryz.isAgg0
  z0 := Tryz.sizeOf0
  v0 := Tryz.zeroValue0
  t3 := Tryz.underlying3
  a3 := Tryz.isAgg3
  z3 := Tryz.sizeOf3
  v3 := Tryz.zeroValue3
  t4 := Tryz.underlying4
  a4 := Tryz.isAgg4
  z4 := Tryz.sizeOf4
  v4 := Tryz.zeroValue4
  t5 := Tryz.underlying5
  a5 := Tryz.isAgg5
  z5 := Tryz.sizeOf5
  v5 := Tryz.zeroValue5
  t9 := Tryz.underlying9
  a9 := Tryz.isAgg9
  z9 := Tryz.sizeOf9
  v9 := Tryz.zeroValue9
  t37 := Tryz.underlying101
  a37 := Tryz.isAgg101
  z37 := Tryz.sizeOf101
  v37 := Tryz.zeroValue101
  t51 := Tryz.underlying210
  a51 := Tryz.isAgg210
  z51 := Tryz.sizeOf210
  v51 := Tryz.zeroValue210
  t53 := Tryz.underlying86
  a53 := Tryz.isAgg86
  z53 := Tryz.sizeOf86
  v53 := Tryz.zeroValue86 }
open Go.RowKit Go.Sort Go.Lib in
/-- internal/strconv.formatBase10: "formatBase10 formats the decimal representation of u into a. The caller is responsible for ensuring that a is big enough to hold u. If a is too big, leading zeros will be filled in as needed.": THE ROW HOLDS u's DIGITS ('FmtInv .. 0 ..': every place t holds 'dg u (len - 1 - t)'); all else is as it was but for the count of draws. (LAID: no walk: one application.) -/
theorem Tryz.internal_strconv_formatBase10 (blk off cap : Nat) (u : Nat) (d : Array UInt8) (w : World) (hH : Holds (fun (b : UInt8) => Value.int .u8 (b.toNat : Int)) w blk off d) (hu : u < 10 ^ d.size) (hu64 : u < 18446744073709551616) (hsz : d.size < 4611686018427387904) :
    Calls Tryz.prog 189 #[.slice (some ⟨blk, off, none⟩) d.size cap, .int .u64 u] w fun e w' =>
      e = .returned (.tuple #[]) ∧ ∃ (n v' : Nat) (dk : Array UInt8), w' = (putRow (fun (b : UInt8) => Value.int .u8 (b.toNat : Int)) w blk off dk).drewN n ∧ FmtInv d.size u 0 v' dk := Any.internal_strconv_formatBase10 Tryz.lays285 blk off cap u d w hH hu hu64 hsz
def Tryz.laysM246_ren : Go.Shelf.Ren := ⟨fun | 246 => 167 | 283 => 187 | 284 => 188 | 285 => 189 | 286 => 190 | 129 => 196 | 317 => 195 | 318 => 197 | 319 => 198 | 320 => 199 | 337 => 201 | 338 => 202 | n => n, fun | 2 => 2 | 3 => 3 | 9 => 9 | 4 => 4 | 171 => 269 | 0 => 0 | 53 => 86 | 37 => 101 | 5 => 5 | 173 => 272 | 212 => 280 | 51 => 210 | 20 => 20 | 213 => 281 | 46 => 192 | 232 => 224 | 233 => 157 | n => n, fun | 17 => 8 | 18 => 9 | 19 => 10 | n => n⟩
theorem Tryz.laysM246 : Go.Proofs.LaysM.n246 Tryz.prog Tryz.laysM246_ren := {
  mixed := by kernel_rfl
  f129 := Tryz.func196.trans (congrArg some (by kernel_rfl))
  f246 := Tryz.func167.trans (congrArg some (by kernel_rfl))
  f283 := Tryz.func187.trans (congrArg some (by kernel_rfl))
  f284 := Tryz.func188.trans (congrArg some (by kernel_rfl))
  f285 := Tryz.func189.trans (congrArg some (by kernel_rfl))
  f286 := Tryz.func190.trans (congrArg some (by kernel_rfl))
  f317 := Tryz.func195.trans (congrArg some (by kernel_rfl))
  f318 := Tryz.func197.trans (congrArg some (by kernel_rfl))
  f319 := Tryz.func198.trans (congrArg some (by kernel_rfl))
  f320 := Tryz.func199.trans (congrArg some (by kernel_rfl))
  f337 := Tryz.func201.trans (congrArg some (by kernel_rfl))
  f338 := Tryz.func202.trans (congrArg some (by kernel_rfl))
  t0 := Tryz.underlying0
  a0 := Tryz.isAgg0
  z0 := Tryz.sizeOf0
  v0 := Tryz.zeroValue0
  t2 := Tryz.underlying2
  a2 := Tryz.isAgg2
  z2 := Tryz.sizeOf2
  v2 := Tryz.zeroValue2
  t3 := Tryz.underlying3
  a3 := Tryz.isAgg3
  z3 := Tryz.sizeOf3
  v3 := Tryz.zeroValue3
  t4 := Tryz.underlying4
  a4 := Tryz.isAgg4
  z4 := Tryz.sizeOf4
  v4 := Tryz.zeroValue4
  t5 := Tryz.underlying5
  a5 := Tryz.isAgg5
  z5 := Tryz.sizeOf5
  v5 := Tryz.zeroValue5
  t9 := Tryz.underlying9
  a9 := Tryz.isAgg9
  z9 := Tryz.sizeOf9
  v9 := Tryz.zeroValue9
  t20 := Tryz.underlying20
  a20 := Tryz.isAgg20
  z20 := Tryz.sizeOf20
  v20 := Tryz.zeroValue20
  t37 := Tryz.underlying101
  a37 := Tryz.isAgg101
  z37 := Tryz.sizeOf101
  v37 := Tryz.zeroValue101
  t46 := Tryz.underlying192
  a46 := Tryz.isAgg192
  z46 := Tryz.sizeOf192
  v46 := Tryz.zeroValue192
  t51 := Tryz.underlying210
  a51 := Tryz.isAgg210
  z51 := Tryz.sizeOf210
  v51 := Tryz.zeroValue210
  t53 := Tryz.underlying86
  a53 := Tryz.isAgg86
  z53 := Tryz.sizeOf86
  v53 := Tryz.zeroValue86
  t171 := Tryz.underlying269
  a171 := Tryz.isAgg269
  z171 := Tryz.sizeOf269
  v171 := Tryz.zeroValue269
  t173 := Tryz.underlying272
  a173 := Tryz.isAgg272
  z173 := Tryz.sizeOf272
  v173 := Tryz.zeroValue272
  t212 := Tryz.underlying280
  a212 := Tryz.isAgg280
  z212 := Tryz.sizeOf280
  v212 := Tryz.zeroValue280
  t213 := Tryz.underlying281
  a213 := Tryz.isAgg281
  z213 := Tryz.sizeOf281
  t232 := Tryz.underlying224
  a232 := Tryz.isAgg224
  z232 := Tryz.sizeOf224
  v232 := Tryz.zeroValue224
  t233 := Tryz.underlying157
  a233 := Tryz.isAgg157
  z233 := Tryz.sizeOf157
  v233 := Tryz.zeroValue157
  g17 := by kernel_rfl
  g18 := by kernel_rfl
  g19 := by kernel_rfl
  i0 := by kernel_rfl
  i2 := by kernel_rfl
  i3 := by kernel_rfl
  i4 := by kernel_rfl
  i5 := by kernel_rfl
  i9 := by kernel_rfl
  i20 := by kernel_rfl
  i37 := by kernel_rfl
  i46 := by kernel_rfl
  i51 := by kernel_rfl
  i53 := by kernel_rfl
  i171 := by kernel_rfl
  i173 := by kernel_rfl
  i212 := by kernel_rfl
  i232 := by kernel_rfl
  i233 := by kernel_rfl
  m17 := by kernel_rfl
  m18 := by kernel_rfl
  m19 := by kernel_rfl }
open Go.RowKit Go.Sort Go.Lib in
/-- internal/strconv.FormatInt: "FormatInt returns the string representation of i in the given base": AT BASE 10: i's decimal numeral, for every int64. The world behind the call: the world before it, new blocks behind the heap, draws. (LAID: no walk: one application.) -/
theorem Tryz.internal_strconv_FormatInt_10 (n : Int) (h0 : -9223372036854775808 ≤ n) (h1 : n ≤ 9223372036854775807) (w : World) (htab : Lib.TabIs Tryz.prog w "internal/strconv.uint64pow10" .u64 Lib.pow10Tab) :
    Calls Tryz.prog 167 #[.int .i64 n, .int .i64 10] w fun e w' => e = .returned (.string ⟨(Lib.itoa n).toArray⟩) ∧ ∃ k os, w' = grow (w.drewN k) os := Any.internal_strconv_FormatInt_10 Tryz.laysM246 n h0 h1 w htab
def Tryz.lays246_ren : Go.Shelf.Ren := ⟨fun | 246 => 167 | 283 => 187 | 284 => 188 | 285 => 189 | 286 => 190 | 129 => 196 | 317 => 195 | 318 => 197 | 319 => 198 | 320 => 199 | 337 => 201 | 338 => 202 | n => n, fun | 2 => 2 | 3 => 3 | 9 => 9 | 4 => 4 | 171 => 269 | 0 => 0 | 53 => 86 | 37 => 101 | 5 => 5 | 173 => 272 | 212 => 280 | 51 => 210 | 20 => 20 | 213 => 281 | 46 => 192 | 232 => 224 | 233 => 157 | n => n, fun | 17 => 8 | 18 => 9 | 19 => 10 | n => n⟩
theorem Tryz.lays246 : Go.Proofs.Lays.n246 Tryz.prog Tryz.lays246_ren := {
  mixed := by kernel_rfl
  f129 := Tryz.func196.trans (congrArg some (by kernel_rfl))
  f246 := Tryz.func167.trans (congrArg some (by kernel_rfl))
  f283 := Tryz.func187.trans (congrArg some (by kernel_rfl))
  f284 := Tryz.func188.trans (congrArg some (by kernel_rfl))
  f285 := Tryz.func189.trans (congrArg some (by kernel_rfl))
  f286 := Tryz.func190.trans (congrArg some (by kernel_rfl))
  f317 := Tryz.func195.trans (congrArg some (by kernel_rfl))
  f318 := Tryz.func197.trans (congrArg some (by kernel_rfl))
  f319 := Tryz.func198.trans (congrArg some (by kernel_rfl))
  f320 := Tryz.func199.trans (congrArg some (by kernel_rfl))
  f337 := Tryz.func201.trans (congrArg some (by kernel_rfl))
  f338 := Tryz.func202.trans (congrArg some (by kernel_rfl))
  t0 := Tryz.underlying0
  a0 := Tryz.isAgg0
  z0 := Tryz.sizeOf0
  v0 := Tryz.zeroValue0
  t2 := Tryz.underlying2
  a2 := Tryz.isAgg2
  z2 := Tryz.sizeOf2
  v2 := Tryz.zeroValue2
  t3 := Tryz.underlying3
  a3 := Tryz.isAgg3
  z3 := Tryz.sizeOf3
  v3 := Tryz.zeroValue3
  t4 := Tryz.underlying4
  a4 := Tryz.isAgg4
  z4 := Tryz.sizeOf4
  v4 := Tryz.zeroValue4
  t5 := Tryz.underlying5
  a5 := Tryz.isAgg5
  z5 := Tryz.sizeOf5
  v5 := Tryz.zeroValue5
  t9 := Tryz.underlying9
  a9 := Tryz.isAgg9
  z9 := Tryz.sizeOf9
  v9 := Tryz.zeroValue9
  t20 := Tryz.underlying20
  a20 := Tryz.isAgg20
  z20 := Tryz.sizeOf20
  v20 := Tryz.zeroValue20
  t37 := Tryz.underlying101
  a37 := Tryz.isAgg101
  z37 := Tryz.sizeOf101
  v37 := Tryz.zeroValue101
  t46 := Tryz.underlying192
  a46 := Tryz.isAgg192
  z46 := Tryz.sizeOf192
  v46 := Tryz.zeroValue192
  t51 := Tryz.underlying210
  a51 := Tryz.isAgg210
  z51 := Tryz.sizeOf210
  v51 := Tryz.zeroValue210
  t53 := Tryz.underlying86
  a53 := Tryz.isAgg86
  z53 := Tryz.sizeOf86
  v53 := Tryz.zeroValue86
  t171 := Tryz.underlying269
  a171 := Tryz.isAgg269
  z171 := Tryz.sizeOf269
  v171 := Tryz.zeroValue269
  t173 := Tryz.underlying272
  a173 := Tryz.isAgg272
  z173 := Tryz.sizeOf272
  v173 := Tryz.zeroValue272
  t212 := Tryz.underlying280
  a212 := Tryz.isAgg280
  z212 := Tryz.sizeOf280
  v212 := Tryz.zeroValue280
  t213 := Tryz.underlying281
  a213 := Tryz.isAgg281
  z213 := Tryz.sizeOf281
  t232 := Tryz.underlying224
  a232 := Tryz.isAgg224
  z232 := Tryz.sizeOf224
  v232 := Tryz.zeroValue224
  t233 := Tryz.underlying157
  a233 := Tryz.isAgg157
  z233 := Tryz.sizeOf157
  v233 := Tryz.zeroValue157
  g17 := by kernel_rfl
  g18 := by kernel_rfl
  g19 := by kernel_rfl }
open Go.RowKit Go.Sort Go.Lib in
/-- THE ROAD WITHOUT THE TABLE: 0 <= i < 100: two constants are read, nothing is laid: no premise on the world, and the world is as it was. (LAID: no walk: one application.) -/
theorem Tryz.internal_strconv_FormatInt_10_small (i : Nat) (hi : i < 100) (w : World) :
    Calls Tryz.prog 167 #[.int .i64 i, .int .i64 10] w fun e w' => e = .returned (.string ⟨(Lib.decDigits i).toArray⟩) ∧ w' = w := Any.internal_strconv_FormatInt_10_small Tryz.lays246 i hi w
def Tryz.laysM243_ren : Go.Shelf.Ren := ⟨fun | 243 => 133 | 246 => 167 | 283 => 187 | 284 => 188 | 285 => 189 | 286 => 190 | 129 => 196 | 317 => 195 | 318 => 197 | 319 => 198 | 320 => 199 | 337 => 201 | 338 => 202 | n => n, fun | 3 => 3 | 9 => 9 | 2 => 2 | 4 => 4 | 171 => 269 | 0 => 0 | 53 => 86 | 37 => 101 | 5 => 5 | 173 => 272 | 212 => 280 | 51 => 210 | 20 => 20 | 213 => 281 | 46 => 192 | 232 => 224 | 233 => 157 | n => n, fun | 17 => 8 | 18 => 9 | 19 => 10 | n => n⟩
theorem Tryz.laysM243 : Go.Proofs.LaysM.n243 Tryz.prog Tryz.laysM243_ren := {
  mixed := by kernel_rfl
  f129 := Tryz.func196.trans (congrArg some (by kernel_rfl))
  f243 := Tryz.func133.trans (congrArg some (by kernel_rfl))
  f246 := Tryz.func167.trans (congrArg some (by kernel_rfl))
  f283 := Tryz.func187.trans (congrArg some (by kernel_rfl))
  f284 := Tryz.func188.trans (congrArg some (by kernel_rfl))
  f285 := Tryz.func189.trans (congrArg some (by kernel_rfl))
  f286 := Tryz.func190.trans (congrArg some (by kernel_rfl))
  f317 := Tryz.func195.trans (congrArg some (by kernel_rfl))
  f318 := Tryz.func197.trans (congrArg some (by kernel_rfl))
  f319 := Tryz.func198.trans (congrArg some (by kernel_rfl))
  f320 := Tryz.func199.trans (congrArg some (by kernel_rfl))
  f337 := Tryz.func201.trans (congrArg some (by kernel_rfl))
  f338 := Tryz.func202.trans (congrArg some (by kernel_rfl))
  t0 := Tryz.underlying0
  a0 := Tryz.isAgg0
  z0 := Tryz.sizeOf0
  v0 := Tryz.zeroValue0
  t2 := Tryz.underlying2
  a2 := Tryz.isAgg2
  z2 := Tryz.sizeOf2
  v2 := Tryz.zeroValue2
  t3 := Tryz.underlying3
  a3 := Tryz.isAgg3
  z3 := Tryz.sizeOf3
  v3 := Tryz.zeroValue3
  t4 := Tryz.underlying4
  a4 := Tryz.isAgg4
  z4 := Tryz.sizeOf4
  v4 := Tryz.zeroValue4
  t5 := Tryz.underlying5
  a5 := Tryz.isAgg5
  z5 := Tryz.sizeOf5
  v5 := Tryz.zeroValue5
  t9 := Tryz.underlying9
  a9 := Tryz.isAgg9
  z9 := Tryz.sizeOf9
  v9 := Tryz.zeroValue9
  t20 := Tryz.underlying20
  a20 := Tryz.isAgg20
  z20 := Tryz.sizeOf20
  v20 := Tryz.zeroValue20
  t37 := Tryz.underlying101
  a37 := Tryz.isAgg101
  z37 := Tryz.sizeOf101
  v37 := Tryz.zeroValue101
  t46 := Tryz.underlying192
  a46 := Tryz.isAgg192
  z46 := Tryz.sizeOf192
  v46 := Tryz.zeroValue192
  t51 := Tryz.underlying210
  a51 := Tryz.isAgg210
  z51 := Tryz.sizeOf210
  v51 := Tryz.zeroValue210
  t53 := Tryz.underlying86
  a53 := Tryz.isAgg86
  z53 := Tryz.sizeOf86
  v53 := Tryz.zeroValue86
  t171 := Tryz.underlying269
  a171 := Tryz.isAgg269
  z171 := Tryz.sizeOf269
  v171 := Tryz.zeroValue269
  t173 := Tryz.underlying272
  a173 := Tryz.isAgg272
  z173 := Tryz.sizeOf272
  v173 := Tryz.zeroValue272
  t212 := Tryz.underlying280
  a212 := Tryz.isAgg280
  z212 := Tryz.sizeOf280
  v212 := Tryz.zeroValue280
  t213 := Tryz.underlying281
  a213 := Tryz.isAgg281
  z213 := Tryz.sizeOf281
  t232 := Tryz.underlying224
  a232 := Tryz.isAgg224
  z232 := Tryz.sizeOf224
  v232 := Tryz.zeroValue224
  t233 := Tryz.underlying157
  a233 := Tryz.isAgg157
  z233 := Tryz.sizeOf157
  v233 := Tryz.zeroValue157
  g17 := by kernel_rfl
  g18 := by kernel_rfl
  g19 := by kernel_rfl
  i0 := by kernel_rfl
  i2 := by kernel_rfl
  i3 := by kernel_rfl
  i4 := by kernel_rfl
  i5 := by kernel_rfl
  i9 := by kernel_rfl
  i20 := by kernel_rfl
  i37 := by kernel_rfl
  i46 := by kernel_rfl
  i51 := by kernel_rfl
  i53 := by kernel_rfl
  i171 := by kernel_rfl
  i173 := by kernel_rfl
  i212 := by kernel_rfl
  i232 := by kernel_rfl
  i233 := by kernel_rfl
  m17 := by kernel_rfl
  m18 := by kernel_rfl
  m19 := by kernel_rfl }
open Go.RowKit Go.Sort Go.Lib in
/-- internal/strconv.Itoa: "Itoa is equivalent to FormatInt(int64(i), 10).": i's decimal numeral, for every int. (LAID: no walk: one application.) -/
theorem Tryz.internal_strconv_Itoa (n : Int) (h0 : -9223372036854775808 ≤ n) (h1 : n ≤ 9223372036854775807) (w : World) (htab : Lib.TabIs Tryz.prog w "internal/strconv.uint64pow10" .u64 Lib.pow10Tab) :
    Calls Tryz.prog 133 #[.int .i64 n] w fun e w' => e = .returned (.string ⟨(Lib.itoa n).toArray⟩) ∧ ∃ k os, w' = grow (w.drewN k) os := Any.internal_strconv_Itoa Tryz.laysM243 n h0 h1 w htab
def Tryz.lays243_ren : Go.Shelf.Ren := ⟨fun | 243 => 133 | 246 => 167 | 283 => 187 | 284 => 188 | 285 => 189 | 286 => 190 | 129 => 196 | 317 => 195 | 318 => 197 | 319 => 198 | 320 => 199 | 337 => 201 | 338 => 202 | n => n, fun | 3 => 3 | 9 => 9 | 2 => 2 | 4 => 4 | 171 => 269 | 0 => 0 | 53 => 86 | 37 => 101 | 5 => 5 | 173 => 272 | 212 => 280 | 51 => 210 | 20 => 20 | 213 => 281 | 46 => 192 | 232 => 224 | 233 => 157 | n => n, fun | 17 => 8 | 18 => 9 | 19 => 10 | n => n⟩
theorem Tryz.lays243 : Go.Proofs.Lays.n243 Tryz.prog Tryz.lays243_ren := {
  mixed := by kernel_rfl
  f129 := Tryz.func196.trans (congrArg some (by kernel_rfl))
  f243 := Tryz.func133.trans (congrArg some (by kernel_rfl))
  f246 := Tryz.func167.trans (congrArg some (by kernel_rfl))
  f283 := Tryz.func187.trans (congrArg some (by kernel_rfl))
  f284 := Tryz.func188.trans (congrArg some (by kernel_rfl))
  f285 := Tryz.func189.trans (congrArg some (by kernel_rfl))
  f286 := Tryz.func190.trans (congrArg some (by kernel_rfl))
  f317 := Tryz.func195.trans (congrArg some (by kernel_rfl))
  f318 := Tryz.func197.trans (congrArg some (by kernel_rfl))
  f319 := Tryz.func198.trans (congrArg some (by kernel_rfl))
  f320 := Tryz.func199.trans (congrArg some (by kernel_rfl))
  f337 := Tryz.func201.trans (congrArg some (by kernel_rfl))
  f338 := Tryz.func202.trans (congrArg some (by kernel_rfl))
  t0 := Tryz.underlying0
  a0 := Tryz.isAgg0
  z0 := Tryz.sizeOf0
  v0 := Tryz.zeroValue0
  t2 := Tryz.underlying2
  a2 := Tryz.isAgg2
  z2 := Tryz.sizeOf2
  v2 := Tryz.zeroValue2
  t3 := Tryz.underlying3
  a3 := Tryz.isAgg3
  z3 := Tryz.sizeOf3
  v3 := Tryz.zeroValue3
  t4 := Tryz.underlying4
  a4 := Tryz.isAgg4
  z4 := Tryz.sizeOf4
  v4 := Tryz.zeroValue4
  t5 := Tryz.underlying5
  a5 := Tryz.isAgg5
  z5 := Tryz.sizeOf5
  v5 := Tryz.zeroValue5
  t9 := Tryz.underlying9
  a9 := Tryz.isAgg9
  z9 := Tryz.sizeOf9
  v9 := Tryz.zeroValue9
  t20 := Tryz.underlying20
  a20 := Tryz.isAgg20
  z20 := Tryz.sizeOf20
  v20 := Tryz.zeroValue20
  t37 := Tryz.underlying101
  a37 := Tryz.isAgg101
  z37 := Tryz.sizeOf101
  v37 := Tryz.zeroValue101
  t46 := Tryz.underlying192
  a46 := Tryz.isAgg192
  z46 := Tryz.sizeOf192
  v46 := Tryz.zeroValue192
  t51 := Tryz.underlying210
  a51 := Tryz.isAgg210
  z51 := Tryz.sizeOf210
  v51 := Tryz.zeroValue210
  t53 := Tryz.underlying86
  a53 := Tryz.isAgg86
  z53 := Tryz.sizeOf86
  v53 := Tryz.zeroValue86
  t171 := Tryz.underlying269
  a171 := Tryz.isAgg269
  z171 := Tryz.sizeOf269
  v171 := Tryz.zeroValue269
  t173 := Tryz.underlying272
  a173 := Tryz.isAgg272
  z173 := Tryz.sizeOf272
  v173 := Tryz.zeroValue272
  t212 := Tryz.underlying280
  a212 := Tryz.isAgg280
  z212 := Tryz.sizeOf280
  v212 := Tryz.zeroValue280
  t213 := Tryz.underlying281
  a213 := Tryz.isAgg281
  z213 := Tryz.sizeOf281
  t232 := Tryz.underlying224
  a232 := Tryz.isAgg224
  z232 := Tryz.sizeOf224
  v232 := Tryz.zeroValue224
  t233 := Tryz.underlying157
  a233 := Tryz.isAgg157
  z233 := Tryz.sizeOf157
  v233 := Tryz.zeroValue157
  g17 := by kernel_rfl
  g18 := by kernel_rfl
  g19 := by kernel_rfl }
open Go.RowKit Go.Sort Go.Lib in
/-- THE ROAD WITHOUT THE TABLE: 0 <= i < 100. (LAID: no walk: one application.) -/
theorem Tryz.internal_strconv_Itoa_small (i : Nat) (hi : i < 100) (w : World) :
    Calls Tryz.prog 133 #[.int .i64 i] w fun e w' => e = .returned (.string ⟨(Lib.decDigits i).toArray⟩) ∧ w' = w := Any.internal_strconv_Itoa_small Tryz.lays243 i hi w
def Tryz.laysM171_ren : Go.Shelf.Ren := ⟨fun | 171 => 94 | 243 => 133 | 246 => 167 | 283 => 187 | 284 => 188 | 285 => 189 | 286 => 190 | 129 => 196 | 317 => 195 | 318 => 197 | 319 => 198 | 320 => 199 | 337 => 201 | 338 => 202 | n => n, fun | 3 => 3 | 9 => 9 | 2 => 2 | 4 => 4 | 171 => 269 | 0 => 0 | 53 => 86 | 37 => 101 | 5 => 5 | 173 => 272 | 212 => 280 | 51 => 210 | 20 => 20 | 213 => 281 | 46 => 192 | 232 => 224 | 233 => 157 | n => n, fun | 17 => 8 | 18 => 9 | 19 => 10 | n => n⟩
theorem Tryz.laysM171 : Go.Proofs.LaysM.n171 Tryz.prog Tryz.laysM171_ren := {
  mixed := by kernel_rfl
  f129 := Tryz.func196.trans (congrArg some (by kernel_rfl))
  f171 := Tryz.func94.trans (congrArg some (by kernel_rfl))
  f243 := Tryz.func133.trans (congrArg some (by kernel_rfl))
  f246 := Tryz.func167.trans (congrArg some (by kernel_rfl))
  f283 := Tryz.func187.trans (congrArg some (by kernel_rfl))
  f284 := Tryz.func188.trans (congrArg some (by kernel_rfl))
  f285 := Tryz.func189.trans (congrArg some (by kernel_rfl))
  f286 := Tryz.func190.trans (congrArg some (by kernel_rfl))
  f317 := Tryz.func195.trans (congrArg some (by kernel_rfl))
  f318 := Tryz.func197.trans (congrArg some (by kernel_rfl))
  f319 := Tryz.func198.trans (congrArg some (by kernel_rfl))
  f320 := Tryz.func199.trans (congrArg some (by kernel_rfl))
  f337 := Tryz.func201.trans (congrArg some (by kernel_rfl))
  f338 := Tryz.func202.trans (congrArg some (by kernel_rfl))
  t0 := Tryz.underlying0
  a0 := Tryz.isAgg0
  z0 := Tryz.sizeOf0
  v0 := Tryz.zeroValue0
  t2 := Tryz.underlying2
  a2 := Tryz.isAgg2
  z2 := Tryz.sizeOf2
  v2 := Tryz.zeroValue2
  t3 := Tryz.underlying3
  a3 := Tryz.isAgg3
  z3 := Tryz.sizeOf3
  v3 := Tryz.zeroValue3
  t4 := Tryz.underlying4
  a4 := Tryz.isAgg4
  z4 := Tryz.sizeOf4
  v4 := Tryz.zeroValue4
  t5 := Tryz.underlying5
  a5 := Tryz.isAgg5
  z5 := Tryz.sizeOf5
  v5 := Tryz.zeroValue5
  t9 := Tryz.underlying9
  a9 := Tryz.isAgg9
  z9 := Tryz.sizeOf9
  v9 := Tryz.zeroValue9
  t20 := Tryz.underlying20
  a20 := Tryz.isAgg20
  z20 := Tryz.sizeOf20
  v20 := Tryz.zeroValue20
  t37 := Tryz.underlying101
  a37 := Tryz.isAgg101
  z37 := Tryz.sizeOf101
  v37 := Tryz.zeroValue101
  t46 := Tryz.underlying192
  a46 := Tryz.isAgg192
  z46 := Tryz.sizeOf192
  v46 := Tryz.zeroValue192
  t51 := Tryz.underlying210
  a51 := Tryz.isAgg210
  z51 := Tryz.sizeOf210
  v51 := Tryz.zeroValue210
  t53 := Tryz.underlying86
  a53 := Tryz.isAgg86
  z53 := Tryz.sizeOf86
  v53 := Tryz.zeroValue86
  t171 := Tryz.underlying269
  a171 := Tryz.isAgg269
  z171 := Tryz.sizeOf269
  v171 := Tryz.zeroValue269
  t173 := Tryz.underlying272
  a173 := Tryz.isAgg272
  z173 := Tryz.sizeOf272
  v173 := Tryz.zeroValue272
  t212 := Tryz.underlying280
  a212 := Tryz.isAgg280
  z212 := Tryz.sizeOf280
  v212 := Tryz.zeroValue280
  t213 := Tryz.underlying281
  a213 := Tryz.isAgg281
  z213 := Tryz.sizeOf281
  t232 := Tryz.underlying224
  a232 := Tryz.isAgg224
  z232 := Tryz.sizeOf224
  v232 := Tryz.zeroValue224
  t233 := Tryz.underlying157
  a233 := Tryz.isAgg157
  z233 := Tryz.sizeOf157
  v233 := Tryz.zeroValue157
  g17 := by kernel_rfl
  g18 := by kernel_rfl
  g19 := by kernel_rfl
  i0 := by kernel_rfl
  i2 := by kernel_rfl
  i3 := by kernel_rfl
  i4 := by kernel_rfl
  i5 := by kernel_rfl
  i9 := by kernel_rfl
  i20 := by kernel_rfl
  i37 := by kernel_rfl
  i46 := by kernel_rfl
  i51 := by kernel_rfl
  i53 := by kernel_rfl
  i171 := by kernel_rfl
  i173 := by kernel_rfl
  i212 := by kernel_rfl
  i232 := by kernel_rfl
  i233 := by kernel_rfl
  m17 := by kernel_rfl
  m18 := by kernel_rfl
  m19 := by kernel_rfl }
open Go.RowKit Go.Sort Go.Lib in
/-- strconv.Itoa: "Itoa is equivalent to FormatInt(int64(i), 10).": i's DECIMAL NUMERAL ('Lib.itoa': a '-' where i is negative, then the digits), FOR EVERY int. The world behind the call: the world before it, new blocks behind the heap (the library's 'var a [24]byte'), draws. (LAID: no walk: one application.) -/
theorem Tryz.strconv_Itoa (n : Int) (h0 : -9223372036854775808 ≤ n) (h1 : n ≤ 9223372036854775807) (w : World) (htab : Lib.TabIs Tryz.prog w "internal/strconv.uint64pow10" .u64 Lib.pow10Tab) :
    Calls Tryz.prog 94 #[.int .i64 n] w fun e w' => e = .returned (.string ⟨(Lib.itoa n).toArray⟩) ∧ ∃ k os, w' = grow (w.drewN k) os := Any.strconv_Itoa Tryz.laysM171 n h0 h1 w htab
def Tryz.lays171_ren : Go.Shelf.Ren := ⟨fun | 171 => 94 | 243 => 133 | 246 => 167 | 283 => 187 | 284 => 188 | 285 => 189 | 286 => 190 | 129 => 196 | 317 => 195 | 318 => 197 | 319 => 198 | 320 => 199 | 337 => 201 | 338 => 202 | n => n, fun | 3 => 3 | 9 => 9 | 2 => 2 | 4 => 4 | 171 => 269 | 0 => 0 | 53 => 86 | 37 => 101 | 5 => 5 | 173 => 272 | 212 => 280 | 51 => 210 | 20 => 20 | 213 => 281 | 46 => 192 | 232 => 224 | 233 => 157 | n => n, fun | 17 => 8 | 18 => 9 | 19 => 10 | n => n⟩
theorem Tryz.lays171 : Go.Proofs.Lays.n171 Tryz.prog Tryz.lays171_ren := {
  mixed := by kernel_rfl
  f129 := Tryz.func196.trans (congrArg some (by kernel_rfl))
  f171 := Tryz.func94.trans (congrArg some (by kernel_rfl))
  f243 := Tryz.func133.trans (congrArg some (by kernel_rfl))
  f246 := Tryz.func167.trans (congrArg some (by kernel_rfl))
  f283 := Tryz.func187.trans (congrArg some (by kernel_rfl))
  f284 := Tryz.func188.trans (congrArg some (by kernel_rfl))
  f285 := Tryz.func189.trans (congrArg some (by kernel_rfl))
  f286 := Tryz.func190.trans (congrArg some (by kernel_rfl))
  f317 := Tryz.func195.trans (congrArg some (by kernel_rfl))
  f318 := Tryz.func197.trans (congrArg some (by kernel_rfl))
  f319 := Tryz.func198.trans (congrArg some (by kernel_rfl))
  f320 := Tryz.func199.trans (congrArg some (by kernel_rfl))
  f337 := Tryz.func201.trans (congrArg some (by kernel_rfl))
  f338 := Tryz.func202.trans (congrArg some (by kernel_rfl))
  t0 := Tryz.underlying0
  a0 := Tryz.isAgg0
  z0 := Tryz.sizeOf0
  v0 := Tryz.zeroValue0
  t2 := Tryz.underlying2
  a2 := Tryz.isAgg2
  z2 := Tryz.sizeOf2
  v2 := Tryz.zeroValue2
  t3 := Tryz.underlying3
  a3 := Tryz.isAgg3
  z3 := Tryz.sizeOf3
  v3 := Tryz.zeroValue3
  t4 := Tryz.underlying4
  a4 := Tryz.isAgg4
  z4 := Tryz.sizeOf4
  v4 := Tryz.zeroValue4
  t5 := Tryz.underlying5
  a5 := Tryz.isAgg5
  z5 := Tryz.sizeOf5
  v5 := Tryz.zeroValue5
  t9 := Tryz.underlying9
  a9 := Tryz.isAgg9
  z9 := Tryz.sizeOf9
  v9 := Tryz.zeroValue9
  t20 := Tryz.underlying20
  a20 := Tryz.isAgg20
  z20 := Tryz.sizeOf20
  v20 := Tryz.zeroValue20
  t37 := Tryz.underlying101
  a37 := Tryz.isAgg101
  z37 := Tryz.sizeOf101
  v37 := Tryz.zeroValue101
  t46 := Tryz.underlying192
  a46 := Tryz.isAgg192
  z46 := Tryz.sizeOf192
  v46 := Tryz.zeroValue192
  t51 := Tryz.underlying210
  a51 := Tryz.isAgg210
  z51 := Tryz.sizeOf210
  v51 := Tryz.zeroValue210
  t53 := Tryz.underlying86
  a53 := Tryz.isAgg86
  z53 := Tryz.sizeOf86
  v53 := Tryz.zeroValue86
  t171 := Tryz.underlying269
  a171 := Tryz.isAgg269
  z171 := Tryz.sizeOf269
  v171 := Tryz.zeroValue269
  t173 := Tryz.underlying272
  a173 := Tryz.isAgg272
  z173 := Tryz.sizeOf272
  v173 := Tryz.zeroValue272
  t212 := Tryz.underlying280
  a212 := Tryz.isAgg280
  z212 := Tryz.sizeOf280
  v212 := Tryz.zeroValue280
  t213 := Tryz.underlying281
  a213 := Tryz.isAgg281
  z213 := Tryz.sizeOf281
  t232 := Tryz.underlying224
  a232 := Tryz.isAgg224
  z232 := Tryz.sizeOf224
  v232 := Tryz.zeroValue224
  t233 := Tryz.underlying157
  a233 := Tryz.isAgg157
  z233 := Tryz.sizeOf157
  v233 := Tryz.zeroValue157
  g17 := by kernel_rfl
  g18 := by kernel_rfl
  g19 := by kernel_rfl }
open Go.RowKit Go.Sort Go.Lib in
/-- THE ROAD WITHOUT THE TABLE: 0 <= i < 100: NO PREMISE ON THE WORLD, AND THE WORLD IS AS IT WAS: a row that keeps its argument in that range need list no table ('laid = []'). (LAID: no walk: one application.) -/
theorem Tryz.strconv_Itoa_small (i : Nat) (hi : i < 100) (w : World) :
    Calls Tryz.prog 94 #[.int .i64 i] w fun e w' => e = .returned (.string ⟨(Lib.decDigits i).toArray⟩) ∧ w' = w := Any.strconv_Itoa_small Tryz.lays171 i hi w
def Tryz.lays222_ren : Go.Shelf.Ren := ⟨fun | 222 => 171 | n => n, fun | 9 => 9 | 5 => 5 | 3 => 3 | 4 => 4 | n => n, fun | n => n⟩
theorem Tryz.lays222 : Go.Proofs.Lays.n222 Tryz.prog Tryz.lays222_ren := {
  mixed := by kernel_rfl
  f222 := Tryz.func171.trans (congrArg some (by kernel_rfl))
  t3 := Tryz.underlying3
  a3 := Tryz.isAgg3
  z3 := Tryz.sizeOf3
  v3 := Tryz.zeroValue3
  t4 := Tryz.underlying4
  a4 := Tryz.isAgg4
  z4 := Tryz.sizeOf4
  v4 := Tryz.zeroValue4
  t5 := Tryz.underlying5
  a5 := Tryz.isAgg5
  z5 := Tryz.sizeOf5
  v5 := Tryz.zeroValue5
  t9 := Tryz.underlying9
  a9 := Tryz.isAgg9
  z9 := Tryz.sizeOf9
  v9 := Tryz.zeroValue9 }
open Go.RowKit Go.Lib in
/-- internal/bytealg.LastIndexByteString: 'for i := len(s) - 1; i >= 0; i-- { if s[i] == c { return i } }; return -1'. (LAID: no walk: one application.) -/
theorem Tryz.bytealg_LastIndexByteString_nm (s : ByteArray) (c : Int) (hs : s.size < 4611686018427387904) (w : World) :
    Calls Tryz.prog 171 #[.string s, .int .u8 c] w fun e w' => e = .returned (.int .i64 (Lib.lastIndexByte s c)) ∧ w' = w := Any.bytealg_LastIndexByteString_nm Tryz.lays222 s c hs w
def Tryz.lays149_ren : Go.Shelf.Ren := ⟨fun | 149 => 148 | 222 => 171 | n => n, fun | 9 => 9 | 5 => 5 | 3 => 3 | 4 => 4 | n => n, fun | n => n⟩
theorem Tryz.lays149 : Go.Proofs.Lays.n149 Tryz.prog Tryz.lays149_ren := {
  mixed := by kernel_rfl
  f149 := Tryz.func148.trans (congrArg some (by kernel_rfl))
  f222 := Tryz.func171.trans (congrArg some (by kernel_rfl))
  t3 := Tryz.underlying3
  a3 := Tryz.isAgg3
  z3 := Tryz.sizeOf3
  v3 := Tryz.zeroValue3
  t4 := Tryz.underlying4
  a4 := Tryz.isAgg4
  z4 := Tryz.sizeOf4
  v4 := Tryz.zeroValue4
  t5 := Tryz.underlying5
  a5 := Tryz.isAgg5
  z5 := Tryz.sizeOf5
  v5 := Tryz.zeroValue5
  t9 := Tryz.underlying9
  a9 := Tryz.isAgg9
  z9 := Tryz.sizeOf9
  v9 := Tryz.zeroValue9 }
open Go.RowKit Go.Lib in
/-- strings.LastIndexByte: "LastIndexByte returns the index of the last instance of c in s, or -1 if c is not present in s." (LAID: no walk: one application.) -/
theorem Tryz.strings_LastIndexByte (s : ByteArray) (c : Int) (hs : s.size < 4611686018427387904) (w : World) :
    Calls Tryz.prog 148 #[.string s, .int .u8 c] w fun e w' => e = .returned (.int .i64 (Lib.lastIndexByte s c)) ∧ w' = w := Any.strings_LastIndexByte Tryz.lays149 s c hs w
def Tryz.laysM288_ren : Go.Shelf.Ren := ⟨fun | 288 => 200 | 283 => 187 | 284 => 188 | 285 => 189 | 286 => 190 | 129 => 196 | 317 => 195 | 318 => 197 | 319 => 198 | 320 => 199 | 337 => 201 | 338 => 202 | n => n, fun | 37 => 101 | 53 => 86 | 3 => 3 | 4 => 4 | 9 => 9 | 171 => 269 | 0 => 0 | 173 => 272 | 212 => 280 | 51 => 210 | 5 => 5 | 20 => 20 | 213 => 281 | 46 => 192 | 232 => 224 | 233 => 157 | n => n, fun | 17 => 8 | 18 => 9 | 19 => 10 | n => n⟩
theorem Tryz.laysM288 : Go.Proofs.LaysM.n288 Tryz.prog Tryz.laysM288_ren := {
  mixed := by kernel_rfl
  f129 := Tryz.func196.trans (congrArg some (by kernel_rfl))
  f283 := Tryz.func187.trans (congrArg some (by kernel_rfl))
  f284 := Tryz.func188.trans (congrArg some (by kernel_rfl))
  f285 := Tryz.func189.trans (congrArg some (by kernel_rfl))
  f286 := Tryz.func190.trans (congrArg some (by kernel_rfl))
  f288 := Tryz.func200.trans (congrArg some (by kernel_rfl))
  f317 := Tryz.func195.trans (congrArg some (by kernel_rfl))
  f318 := Tryz.func197.trans (congrArg some (by kernel_rfl))
  f319 := Tryz.func198.trans (congrArg some (by kernel_rfl))
  f320 := Tryz.func199.trans (congrArg some (by kernel_rfl))
  f337 := Tryz.func201.trans (congrArg some (by kernel_rfl))
  f338 := Tryz.func202.trans (congrArg some (by kernel_rfl))
  t0 := Tryz.underlying0
  a0 := Tryz.isAgg0
  z0 := Tryz.sizeOf0
  v0 := Tryz.zeroValue0
  t3 := Tryz.underlying3
  a3 := Tryz.isAgg3
  z3 := Tryz.sizeOf3
  v3 := Tryz.zeroValue3
  t4 := Tryz.underlying4
  a4 := Tryz.isAgg4
  z4 := Tryz.sizeOf4
  v4 := Tryz.zeroValue4
  t5 := Tryz.underlying5
  a5 := Tryz.isAgg5
  z5 := Tryz.sizeOf5
  v5 := Tryz.zeroValue5
  t9 := Tryz.underlying9
  a9 := Tryz.isAgg9
  z9 := Tryz.sizeOf9
  v9 := Tryz.zeroValue9
  t20 := Tryz.underlying20
  a20 := Tryz.isAgg20
  z20 := Tryz.sizeOf20
  v20 := Tryz.zeroValue20
  t37 := Tryz.underlying101
  a37 := Tryz.isAgg101
  z37 := Tryz.sizeOf101
  v37 := Tryz.zeroValue101
  t46 := Tryz.underlying192
  a46 := Tryz.isAgg192
  z46 := Tryz.sizeOf192
  v46 := Tryz.zeroValue192
  t51 := Tryz.underlying210
  a51 := Tryz.isAgg210
  z51 := Tryz.sizeOf210
  v51 := Tryz.zeroValue210
  t53 := Tryz.underlying86
  a53 := Tryz.isAgg86
  z53 := Tryz.sizeOf86
  v53 := Tryz.zeroValue86
  t171 := Tryz.underlying269
  a171 := Tryz.isAgg269
  z171 := Tryz.sizeOf269
  v171 := Tryz.zeroValue269
  t173 := Tryz.underlying272
  a173 := Tryz.isAgg272
  z173 := Tryz.sizeOf272
  v173 := Tryz.zeroValue272
  t212 := Tryz.underlying280
  a212 := Tryz.isAgg280
  z212 := Tryz.sizeOf280
  v212 := Tryz.zeroValue280
  t213 := Tryz.underlying281
  a213 := Tryz.isAgg281
  z213 := Tryz.sizeOf281
  t232 := Tryz.underlying224
  a232 := Tryz.isAgg224
  z232 := Tryz.sizeOf224
  v232 := Tryz.zeroValue224
  t233 := Tryz.underlying157
  a233 := Tryz.isAgg157
  z233 := Tryz.sizeOf157
  v233 := Tryz.zeroValue157
  g17 := by kernel_rfl
  g18 := by kernel_rfl
  g19 := by kernel_rfl
  i0 := by kernel_rfl
  i3 := by kernel_rfl
  i4 := by kernel_rfl
  i5 := by kernel_rfl
  i9 := by kernel_rfl
  i20 := by kernel_rfl
  i37 := by kernel_rfl
  i46 := by kernel_rfl
  i51 := by kernel_rfl
  i53 := by kernel_rfl
  i171 := by kernel_rfl
  i173 := by kernel_rfl
  i212 := by kernel_rfl
  i232 := by kernel_rfl
  i233 := by kernel_rfl
  m17 := by kernel_rfl
  m18 := by kernel_rfl
  m19 := by kernel_rfl }
open Go.RowKit Go.Sort Go.Lib in
/-- internal/strconv.AppendUint(dst, i, 10), i BELOW 100: WHAT COMES BACK OWNS dst's CELLS AND, BEHIND THEM, i's DECIMAL NUMERAL. No table is read. Below the call's own blocks nothing has turned. (LAID: no walk: one application.) -/
theorem Tryz.internal_strconv_AppendUint_10_small (B n u : Nat) (hu : u < 100) (sv : Value) (xs : List Value) (w : World) (hown : w.ownsRow B 5 1 sv n xs) (hBw : B ≤ w.heap.size) (hlim : n + 20 ≤ 140737488355328) :
    Calls Tryz.prog 200 #[sv, .int .u64 u, .int .i64 10] w fun e w' => ∃ v', e = .returned v' ∧ w'.ownsRow B 5 1 v' (n + (Lib.decDigits u).length) (xs ++ Lib.byteCells (Lib.decDigits u)) ∧ Below B w w' ∧ Lib.OthersKept 5 none w w' := Any.internal_strconv_AppendUint_10_small Tryz.laysM288 B n u hu sv xs w hown hBw hlim
open Go.RowKit Go.Sort Go.Lib in
/-- internal/strconv.AppendUint(dst, i, 10), i FROM 100 ON: likewise; the digits are laid in an array of the call's own and appended. (LAID: no walk: one application.) -/
theorem Tryz.internal_strconv_AppendUint_10_big (B n u : Nat) (hu : 100 ≤ u) (hu64 : u < 18446744073709551616) (sv : Value) (xs : List Value) (w : World) (hown : w.ownsRow B 5 1 sv n xs) (hBw : B ≤ w.heap.size) (hlim : n + 20 ≤ 140737488355328) (htab : Lib.TabIs Tryz.prog w "internal/strconv.uint64pow10" .u64 Lib.pow10Tab) :
    Calls Tryz.prog 200 #[sv, .int .u64 u, .int .i64 10] w fun e w' => ∃ v', e = .returned v' ∧ w'.ownsRow B 5 1 v' (n + (Lib.decDigits u).length) (xs ++ Lib.byteCells (Lib.decDigits u)) ∧ Below B w w' ∧ Lib.OthersKept 5 none w w' := Any.internal_strconv_AppendUint_10_big Tryz.laysM288 B n u hu hu64 sv xs w hown hBw hlim htab
open Go.RowKit Go.Sort Go.Lib in
/-- internal/strconv.AppendUint(dst, i, 10): the two contracts as one. NO WALK. (LAID: no walk: one application.) -/
theorem Tryz.internal_strconv_AppendUint_10 (B n u : Nat) (hu64 : u < 18446744073709551616) (sv : Value) (xs : List Value) (w : World) (hown : w.ownsRow B 5 1 sv n xs) (hBw : B ≤ w.heap.size) (hlim : n + 20 ≤ 140737488355328) (htab : Lib.TabIs Tryz.prog w "internal/strconv.uint64pow10" .u64 Lib.pow10Tab) :
    Calls Tryz.prog 200 #[sv, .int .u64 u, .int .i64 10] w fun e w' => ∃ v', e = .returned v' ∧ w'.ownsRow B 5 1 v' (n + (Lib.decDigits u).length) (xs ++ Lib.byteCells (Lib.decDigits u)) ∧ Below B w w' ∧ Lib.OthersKept 5 none w w' := Any.internal_strconv_AppendUint_10 Tryz.laysM288 B n u hu64 sv xs w hown hBw hlim htab
def Tryz.laysM249_ren : Go.Shelf.Ren := ⟨fun | 249 => 193 | 288 => 200 | 283 => 187 | 284 => 188 | 285 => 189 | 286 => 190 | 129 => 196 | 317 => 195 | 318 => 197 | 319 => 198 | 320 => 199 | 337 => 201 | 338 => 202 | n => n, fun | 37 => 101 | 2 => 2 | 3 => 3 | 53 => 86 | 4 => 4 | 9 => 9 | 171 => 269 | 0 => 0 | 173 => 272 | 212 => 280 | 51 => 210 | 5 => 5 | 20 => 20 | 213 => 281 | 46 => 192 | 232 => 224 | 233 => 157 | n => n, fun | 17 => 8 | 18 => 9 | 19 => 10 | n => n⟩
theorem Tryz.laysM249 : Go.Proofs.LaysM.n249 Tryz.prog Tryz.laysM249_ren := {
  mixed := by kernel_rfl
  f129 := Tryz.func196.trans (congrArg some (by kernel_rfl))
  f249 := Tryz.func193.trans (congrArg some (by kernel_rfl))
  f283 := Tryz.func187.trans (congrArg some (by kernel_rfl))
  f284 := Tryz.func188.trans (congrArg some (by kernel_rfl))
  f285 := Tryz.func189.trans (congrArg some (by kernel_rfl))
  f286 := Tryz.func190.trans (congrArg some (by kernel_rfl))
  f288 := Tryz.func200.trans (congrArg some (by kernel_rfl))
  f317 := Tryz.func195.trans (congrArg some (by kernel_rfl))
  f318 := Tryz.func197.trans (congrArg some (by kernel_rfl))
  f319 := Tryz.func198.trans (congrArg some (by kernel_rfl))
  f320 := Tryz.func199.trans (congrArg some (by kernel_rfl))
  f337 := Tryz.func201.trans (congrArg some (by kernel_rfl))
  f338 := Tryz.func202.trans (congrArg some (by kernel_rfl))
  t0 := Tryz.underlying0
  a0 := Tryz.isAgg0
  z0 := Tryz.sizeOf0
  v0 := Tryz.zeroValue0
  t2 := Tryz.underlying2
  a2 := Tryz.isAgg2
  z2 := Tryz.sizeOf2
  v2 := Tryz.zeroValue2
  t3 := Tryz.underlying3
  a3 := Tryz.isAgg3
  z3 := Tryz.sizeOf3
  v3 := Tryz.zeroValue3
  t4 := Tryz.underlying4
  a4 := Tryz.isAgg4
  z4 := Tryz.sizeOf4
  v4 := Tryz.zeroValue4
  t5 := Tryz.underlying5
  a5 := Tryz.isAgg5
  z5 := Tryz.sizeOf5
  v5 := Tryz.zeroValue5
  t9 := Tryz.underlying9
  a9 := Tryz.isAgg9
  z9 := Tryz.sizeOf9
  v9 := Tryz.zeroValue9
  t20 := Tryz.underlying20
  a20 := Tryz.isAgg20
  z20 := Tryz.sizeOf20
  v20 := Tryz.zeroValue20
  t37 := Tryz.underlying101
  a37 := Tryz.isAgg101
  z37 := Tryz.sizeOf101
  v37 := Tryz.zeroValue101
  t46 := Tryz.underlying192
  a46 := Tryz.isAgg192
  z46 := Tryz.sizeOf192
  v46 := Tryz.zeroValue192
  t51 := Tryz.underlying210
  a51 := Tryz.isAgg210
  z51 := Tryz.sizeOf210
  v51 := Tryz.zeroValue210
  t53 := Tryz.underlying86
  a53 := Tryz.isAgg86
  z53 := Tryz.sizeOf86
  v53 := Tryz.zeroValue86
  t171 := Tryz.underlying269
  a171 := Tryz.isAgg269
  z171 := Tryz.sizeOf269
  v171 := Tryz.zeroValue269
  t173 := Tryz.underlying272
  a173 := Tryz.isAgg272
  z173 := Tryz.sizeOf272
  v173 := Tryz.zeroValue272
  t212 := Tryz.underlying280
  a212 := Tryz.isAgg280
  z212 := Tryz.sizeOf280
  v212 := Tryz.zeroValue280
  t213 := Tryz.underlying281
  a213 := Tryz.isAgg281
  z213 := Tryz.sizeOf281
  t232 := Tryz.underlying224
  a232 := Tryz.isAgg224
  z232 := Tryz.sizeOf224
  v232 := Tryz.zeroValue224
  t233 := Tryz.underlying157
  a233 := Tryz.isAgg157
  z233 := Tryz.sizeOf157
  v233 := Tryz.zeroValue157
  g17 := by kernel_rfl
  g18 := by kernel_rfl
  g19 := by kernel_rfl
  i0 := by kernel_rfl
  i2 := by kernel_rfl
  i3 := by kernel_rfl
  i4 := by kernel_rfl
  i5 := by kernel_rfl
  i9 := by kernel_rfl
  i20 := by kernel_rfl
  i37 := by kernel_rfl
  i46 := by kernel_rfl
  i51 := by kernel_rfl
  i53 := by kernel_rfl
  i171 := by kernel_rfl
  i173 := by kernel_rfl
  i212 := by kernel_rfl
  i232 := by kernel_rfl
  i233 := by kernel_rfl
  m17 := by kernel_rfl
  m18 := by kernel_rfl
  m19 := by kernel_rfl }
open Go.RowKit Go.Sort Go.Lib in
/-- internal/strconv.AppendInt: "AppendInt appends the string form of the integer i, as generated by FormatInt, to dst and returns the extended buffer.": AT BASE 10: WHAT COMES BACK OWNS dst's CELLS AND, BEHIND THEM, i's DECIMAL NUMERAL ('Lib.itoa i': at most 20 bytes), for every int64. Below the call's own blocks nothing has turned. (LAID: no walk: one application.) -/
theorem Tryz.internal_strconv_AppendInt_10 (B n : Nat) (i : Int) (h0 : -9223372036854775808 ≤ i) (h1 : i ≤ 9223372036854775807) (sv : Value) (xs : List Value) (w : World) (hown : w.ownsRow B 5 1 sv n xs) (hBw : B ≤ w.heap.size) (hlim : n + 21 ≤ 140737488355328) (htab : Lib.TabBelow Tryz.prog B w "internal/strconv.uint64pow10" .u64 Lib.pow10Tab) :
    Calls Tryz.prog 193 #[sv, .int .i64 i, .int .i64 10] w fun e w' => ∃ v', e = .returned v' ∧ w'.ownsRow B 5 1 v' (n + (Lib.itoa i).length) (xs ++ Lib.byteCells (Lib.itoa i)) ∧ Below B w w' ∧ Lib.OthersKept 5 none w w' := Any.internal_strconv_AppendInt_10 Tryz.laysM249 B n i h0 h1 sv xs w hown hBw hlim htab
def Tryz.laysM176_ren : Go.Shelf.Ren := ⟨fun | 176 => 172 | 249 => 193 | 288 => 200 | 283 => 187 | 284 => 188 | 285 => 189 | 286 => 190 | 129 => 196 | 317 => 195 | 318 => 197 | 319 => 198 | 320 => 199 | 337 => 201 | 338 => 202 | n => n, fun | 37 => 101 | 2 => 2 | 3 => 3 | 53 => 86 | 4 => 4 | 9 => 9 | 171 => 269 | 0 => 0 | 173 => 272 | 212 => 280 | 51 => 210 | 5 => 5 | 20 => 20 | 213 => 281 | 46 => 192 | 232 => 224 | 233 => 157 | n => n, fun | 17 => 8 | 18 => 9 | 19 => 10 | n => n⟩
theorem Tryz.laysM176 : Go.Proofs.LaysM.n176 Tryz.prog Tryz.laysM176_ren := {
  mixed := by kernel_rfl
  f129 := Tryz.func196.trans (congrArg some (by kernel_rfl))
  f176 := Tryz.func172.trans (congrArg some (by kernel_rfl))
  f249 := Tryz.func193.trans (congrArg some (by kernel_rfl))
  f283 := Tryz.func187.trans (congrArg some (by kernel_rfl))
  f284 := Tryz.func188.trans (congrArg some (by kernel_rfl))
  f285 := Tryz.func189.trans (congrArg some (by kernel_rfl))
  f286 := Tryz.func190.trans (congrArg some (by kernel_rfl))
  f288 := Tryz.func200.trans (congrArg some (by kernel_rfl))
  f317 := Tryz.func195.trans (congrArg some (by kernel_rfl))
  f318 := Tryz.func197.trans (congrArg some (by kernel_rfl))
  f319 := Tryz.func198.trans (congrArg some (by kernel_rfl))
  f320 := Tryz.func199.trans (congrArg some (by kernel_rfl))
  f337 := Tryz.func201.trans (congrArg some (by kernel_rfl))
  f338 := Tryz.func202.trans (congrArg some (by kernel_rfl))
  t0 := Tryz.underlying0
  a0 := Tryz.isAgg0
  z0 := Tryz.sizeOf0
  v0 := Tryz.zeroValue0
  t2 := Tryz.underlying2
  a2 := Tryz.isAgg2
  z2 := Tryz.sizeOf2
  v2 := Tryz.zeroValue2
  t3 := Tryz.underlying3
  a3 := Tryz.isAgg3
  z3 := Tryz.sizeOf3
  v3 := Tryz.zeroValue3
  t4 := Tryz.underlying4
  a4 := Tryz.isAgg4
  z4 := Tryz.sizeOf4
  v4 := Tryz.zeroValue4
  t5 := Tryz.underlying5
  a5 := Tryz.isAgg5
  z5 := Tryz.sizeOf5
  v5 := Tryz.zeroValue5
  t9 := Tryz.underlying9
  a9 := Tryz.isAgg9
  z9 := Tryz.sizeOf9
  v9 := Tryz.zeroValue9
  t20 := Tryz.underlying20
  a20 := Tryz.isAgg20
  z20 := Tryz.sizeOf20
  v20 := Tryz.zeroValue20
  t37 := Tryz.underlying101
  a37 := Tryz.isAgg101
  z37 := Tryz.sizeOf101
  v37 := Tryz.zeroValue101
  t46 := Tryz.underlying192
  a46 := Tryz.isAgg192
  z46 := Tryz.sizeOf192
  v46 := Tryz.zeroValue192
  t51 := Tryz.underlying210
  a51 := Tryz.isAgg210
  z51 := Tryz.sizeOf210
  v51 := Tryz.zeroValue210
  t53 := Tryz.underlying86
  a53 := Tryz.isAgg86
  z53 := Tryz.sizeOf86
  v53 := Tryz.zeroValue86
  t171 := Tryz.underlying269
  a171 := Tryz.isAgg269
  z171 := Tryz.sizeOf269
  v171 := Tryz.zeroValue269
  t173 := Tryz.underlying272
  a173 := Tryz.isAgg272
  z173 := Tryz.sizeOf272
  v173 := Tryz.zeroValue272
  t212 := Tryz.underlying280
  a212 := Tryz.isAgg280
  z212 := Tryz.sizeOf280
  v212 := Tryz.zeroValue280
  t213 := Tryz.underlying281
  a213 := Tryz.isAgg281
  z213 := Tryz.sizeOf281
  t232 := Tryz.underlying224
  a232 := Tryz.isAgg224
  z232 := Tryz.sizeOf224
  v232 := Tryz.zeroValue224
  t233 := Tryz.underlying157
  a233 := Tryz.isAgg157
  z233 := Tryz.sizeOf157
  v233 := Tryz.zeroValue157
  g17 := by kernel_rfl
  g18 := by kernel_rfl
  g19 := by kernel_rfl
  i0 := by kernel_rfl
  i2 := by kernel_rfl
  i3 := by kernel_rfl
  i4 := by kernel_rfl
  i5 := by kernel_rfl
  i9 := by kernel_rfl
  i20 := by kernel_rfl
  i37 := by kernel_rfl
  i46 := by kernel_rfl
  i51 := by kernel_rfl
  i53 := by kernel_rfl
  i171 := by kernel_rfl
  i173 := by kernel_rfl
  i212 := by kernel_rfl
  i232 := by kernel_rfl
  i233 := by kernel_rfl
  m17 := by kernel_rfl
  m18 := by kernel_rfl
  m19 := by kernel_rfl }
open Go.RowKit Go.Sort Go.Lib in
/-- strconv.AppendInt: "AppendInt appends the string form of the integer i, as generated by FormatInt, to dst and returns the extended buffer.": AT BASE 10: WHAT COMES BACK OWNS dst's CELLS AND, BEHIND THEM, i's DECIMAL NUMERAL ('Lib.itoa i': at most 20 bytes), for every int64. Below the call's own blocks nothing has turned. (LAID: no walk: one application.) -/
theorem Tryz.strconv_AppendInt_10 (B n : Nat) (i : Int) (h0 : -9223372036854775808 ≤ i) (h1 : i ≤ 9223372036854775807) (sv : Value) (xs : List Value) (w : World) (hown : w.ownsRow B 5 1 sv n xs) (hBw : B ≤ w.heap.size) (hlim : n + 21 ≤ 140737488355328) (htab : Lib.TabBelow Tryz.prog B w "internal/strconv.uint64pow10" .u64 Lib.pow10Tab) :
    Calls Tryz.prog 172 #[sv, .int .i64 i, .int .i64 10] w fun e w' => ∃ v', e = .returned v' ∧ w'.ownsRow B 5 1 v' (n + (Lib.itoa i).length) (xs ++ Lib.byteCells (Lib.itoa i)) ∧ Below B w w' ∧ Lib.OthersKept 5 none w w' := Any.strconv_AppendInt_10 Tryz.laysM176 B n i h0 h1 sv xs w hown hBw hlim htab
def Tryz.lays264_ren : Go.Shelf.Ren := ⟨fun | 264 => 293 | n => n, fun | 53 => 86 | 46 => 192 | n => n, fun | n => n⟩
theorem Tryz.lays264 : Go.Proofs.Lays.n264 Tryz.prog Tryz.lays264_ren := {
  mixed := by kernel_rfl
  f264 := Tryz.func293.trans (congrArg some (by kernel_rfl))
  t46 := Tryz.underlying192
  a46 := Tryz.isAgg192
  z46 := Tryz.sizeOf192
  v46 := Tryz.zeroValue192
  t53 := Tryz.underlying86
  a53 := Tryz.isAgg86
  z53 := Tryz.sizeOf86
  v53 := Tryz.zeroValue86 }
open Go.RowKit Go.Lib in
theorem Tryz.bits_Mul64 (x y : Nat) (hx : x < 18446744073709551616) (hy : y < 18446744073709551616) (w : World) :
    Calls Tryz.prog 293 #[.int .u64 x, .int .u64 y] w fun e w' => e = .returned (.tuple #[.int .u64 ((x * y / 18446744073709551616 : Nat) : Int), .int .u64 ((x * y % 18446744073709551616 : Nat) : Int)]) ∧ w' = w := Any.bits_Mul64 Tryz.lays264 x y hx hy w
def Tryz.lays260_ren : Go.Shelf.Ren := ⟨fun | 260 => 88 | n => n, fun | 9 => 9 | 21 => 21 | 3 => 3 | 4 => 4 | 5 => 5 | 119 => 191 | 0 => 0 | 46 => 192 | 139 => 195 | 138 => 194 | n => n, fun | 3 => 1 | 4 => 2 | n => n⟩
theorem Tryz.lays260 : Go.Proofs.Lays.n260 Tryz.prog Tryz.lays260_ren := {
  mixed := by kernel_rfl
  f260 := Tryz.func88.trans (congrArg some (by kernel_rfl))
  t0 := Tryz.underlying0
  a0 := Tryz.isAgg0
  z0 := Tryz.sizeOf0
  v0 := Tryz.zeroValue0
  t3 := Tryz.underlying3
  a3 := Tryz.isAgg3
  z3 := Tryz.sizeOf3
  v3 := Tryz.zeroValue3
  t4 := Tryz.underlying4
  a4 := Tryz.isAgg4
  z4 := Tryz.sizeOf4
  v4 := Tryz.zeroValue4
  t5 := Tryz.underlying5
  a5 := Tryz.isAgg5
  z5 := Tryz.sizeOf5
  v5 := Tryz.zeroValue5
  t9 := Tryz.underlying9
  a9 := Tryz.isAgg9
  z9 := Tryz.sizeOf9
  v9 := Tryz.zeroValue9
  t21 := Tryz.underlying21
  a21 := Tryz.isAgg21
  z21 := Tryz.sizeOf21
  v21 := Tryz.zeroValue21
  t46 := Tryz.underlying192
  a46 := Tryz.isAgg192
  z46 := Tryz.sizeOf192
  v46 := Tryz.zeroValue192
  t119 := Tryz.underlying191
  a119 := Tryz.isAgg191
  z119 := Tryz.sizeOf191
  t138 := Tryz.underlying194
  a138 := Tryz.isAgg194
  z138 := Tryz.sizeOf194
  v138 := Tryz.zeroValue194
  t139 := Tryz.underlying195
  a139 := Tryz.isAgg195
  z139 := Tryz.sizeOf195
  v139 := Tryz.zeroValue195
  g3 := by kernel_rfl
  g4 := by kernel_rfl }
open Go.RowKit Go.Lib in
theorem Tryz.utf8_decodeRuneInStringSlow (s : ByteArray) (w : World) (hT : Lib.Utf8Tabs 1 2 w) :
    Calls Tryz.prog 88 #[.string s] w fun e w' => e = .returned (.tuple #[.int .i32 (Lib.decodeGo s).1, .int .i64 (Lib.decodeGo s).2]) ∧ Below w.heap.size w w' := Any.utf8_decodeRuneInStringSlow Tryz.lays260 s w hT
def Tryz.lays197_ren : Go.Shelf.Ren := ⟨fun | 197 => 49 | 260 => 88 | n => n, fun | 9 => 9 | 21 => 21 | 3 => 3 | 4 => 4 | 5 => 5 | 105 => 102 | 119 => 191 | 0 => 0 | 46 => 192 | 139 => 195 | 138 => 194 | n => n, fun | 3 => 1 | 4 => 2 | n => n⟩
theorem Tryz.lays197 : Go.Proofs.Lays.n197 Tryz.prog Tryz.lays197_ren := {
  mixed := by kernel_rfl
  f197 := Tryz.func49.trans (congrArg some (by kernel_rfl))
  f260 := Tryz.func88.trans (congrArg some (by kernel_rfl))
  t0 := Tryz.underlying0
  a0 := Tryz.isAgg0
  z0 := Tryz.sizeOf0
  v0 := Tryz.zeroValue0
  t3 := Tryz.underlying3
  a3 := Tryz.isAgg3
  z3 := Tryz.sizeOf3
  v3 := Tryz.zeroValue3
  t4 := Tryz.underlying4
  a4 := Tryz.isAgg4
  z4 := Tryz.sizeOf4
  v4 := Tryz.zeroValue4
  t5 := Tryz.underlying5
  a5 := Tryz.isAgg5
  z5 := Tryz.sizeOf5
  v5 := Tryz.zeroValue5
  t9 := Tryz.underlying9
  a9 := Tryz.isAgg9
  z9 := Tryz.sizeOf9
  v9 := Tryz.zeroValue9
  t21 := Tryz.underlying21
  a21 := Tryz.isAgg21
  z21 := Tryz.sizeOf21
  v21 := Tryz.zeroValue21
  t46 := Tryz.underlying192
  a46 := Tryz.isAgg192
  z46 := Tryz.sizeOf192
  v46 := Tryz.zeroValue192
  t105 := Tryz.underlying102
  a105 := Tryz.isAgg102
  z105 := Tryz.sizeOf102
  v105 := Tryz.zeroValue102
  t119 := Tryz.underlying191
  a119 := Tryz.isAgg191
  z119 := Tryz.sizeOf191
  t138 := Tryz.underlying194
  a138 := Tryz.isAgg194
  z138 := Tryz.sizeOf194
  v138 := Tryz.zeroValue194
  t139 := Tryz.underlying195
  a139 := Tryz.isAgg195
  z139 := Tryz.sizeOf195
  v139 := Tryz.zeroValue195
  g3 := by kernel_rfl
  g4 := by kernel_rfl }
open Go.RowKit Go.Lib in
/-- **unicode/utf8.DecodeRuneInString AT EVERY STRING.** (LAID: no walk: one application.) -/
theorem Tryz.utf8_DecodeRuneInString (s : ByteArray) (w : World) (hT : Lib.Utf8Tabs 1 2 w) :
    Calls Tryz.prog 49 #[.string s] w fun e w' => e = .returned (.tuple #[.int .i32 (Lib.decodeGo s).1, .int .i64 (Lib.decodeGo s).2]) ∧ Below w.heap.size w w' := Any.utf8_DecodeRuneInString Tryz.lays197 s w hT
def Tryz.lays109_ren : Go.Shelf.Ren := ⟨fun | 109 => 85 | n => n, fun | 31 => 22 | 9 => 9 | 3 => 3 | 0 => 0 | 4 => 4 | n => n, fun | n => n⟩
theorem Tryz.lays109 : Go.Proofs.Lays.n109 Tryz.prog Tryz.lays109_ren := {
  mixed := by kernel_rfl
  f109 := Tryz.func85.trans (congrArg some (by kernel_rfl))
  t0 := Tryz.underlying0
  a0 := Tryz.isAgg0
  z0 := Tryz.sizeOf0
  v0 := Tryz.zeroValue0
  t3 := Tryz.underlying3
  a3 := Tryz.isAgg3
  z3 := Tryz.sizeOf3
  v3 := Tryz.zeroValue3
  t4 := Tryz.underlying4
  a4 := Tryz.isAgg4
  z4 := Tryz.sizeOf4
  v4 := Tryz.zeroValue4
  t9 := Tryz.underlying9
  a9 := Tryz.isAgg9
  z9 := Tryz.sizeOf9
  v9 := Tryz.zeroValue9
  t31 := Tryz.underlying22
  a31 := Tryz.isAgg22
  z31 := Tryz.sizeOf22
  v31 := Tryz.zeroValue22 }
open Go.Lib in
/-- slices.Index at []string: "Index returns the index of the first occurrence of v in s, or -1 if not present.": IT RETURNS 'Lib.idxOfS (the elements) v'; the world is as it was. 'zs': what the cells behind the slice's address hold (its spare capacity too, if you have it); 'zs.take n': its elements. (LAID: no walk: one application.) -/
theorem Tryz.slices_Index_string (b off n c : Nat) (zs : List ByteArray) (x : ByteArray) (w : World) (hz : n ≤ zs.length) (hbig : n ≤ 9223372036854775807) (hc : ∀ j, j < zs.length → w.cell? ⟨b, off + j, none⟩ = some (.string (zs.getD j ByteArray.empty))) :
    Calls Tryz.prog 85 #[.slice (some ⟨b, off, none⟩) n c, .string x] w fun e w' => e = .returned (.int .i64 (Lib.idxOfS (zs.take n) x)) ∧ w' = w := Any.slices_Index_string Tryz.lays109 b off n c zs x w hz hbig hc
open Go.Lib in
/-- The same at a slice of length 0, a nil one too: no cell is known, none is asked for. (LAID: no walk: one application.) -/
theorem Tryz.slices_Index_string_empty (a : Option Addr) (c : Nat) (x : ByteArray) (w : World) :
    Calls Tryz.prog 85 #[.slice a 0 c, .string x] w fun e w' => e = .returned (.int .i64 (Lib.idxOfS [] x)) ∧ w' = w := Any.slices_Index_string_empty Tryz.lays109 a c x w
end Go.Proofs
