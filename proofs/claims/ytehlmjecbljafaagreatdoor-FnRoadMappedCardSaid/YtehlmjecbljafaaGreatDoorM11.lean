/- DERIVED: THE SHELF's CONTRACTS AT THIS DUMP, IN PLAIN WORDS (tools/lay-plain.mjs out of 'TryzShelf.lean', which tools/lay-shelf.mjs wrote): THE SAME DECLARATIONS UNDER THE SAME NAMES: 'import', 'namespace', 'open', 'def', 'theorem' AND NOTHING ELSE: no command of the shelf's: FOR A HAND-IN. Each laying: the table of numbers ('.._ren') and one theorem, a field a fact of the dump's own or the kernel's comparison; each contract: ONE APPLICATION. -/
import Derived.Shelf.Strings.Builder1
import Derived.Shelf.Strings.Builder2
import Derived.Shelf.Strings.OnBuilder
import Derived.Shelf.Small.Strs
import Derived.Shelf.Strings.BuilderF
import Derived.Shelf.Strings.BuilderK
import Derived.Shelf.Strings.Builder2Cap
import Derived.Shelf.Strconv.Itoa0
import Derived.Shelf.Strconv.Itoa1
import Derived.Shelf.LaysM
import Derived.Shelf.Strconv.Itoa2
import Derived.Shelf.Strconv.Itoa3
import Derived.Shelf.Strings.Search1
import Derived.Shelf.Bytes.Small
import Derived.Shelf.Bytes.IndexByte
import Derived.Test.YtehlmjecbljafaaGreatDoorProg
namespace Go.Proofs
open Go.Shelf
def Tryz.lays169_ren : Go.Shelf.Ren := ⟨fun | 169 => 122 | n => n, fun | 70 => 182 | 9 => 9 | 0 => 0 | 72 => 184 | 37 => 94 | 127 => 266 | 3 => 3 | 5 => 5 | n => n, fun | n => n⟩
theorem Tryz.lays169 : Go.Proofs.Lays.n169 Tryz.prog Tryz.lays169_ren := {
  mixed := by kernel_rfl
  f169 := Tryz.func122.trans (congrArg some (by kernel_rfl))
  t0 := Tryz.underlying0
  a0 := Tryz.isAgg0
  z0 := Tryz.sizeOf0
  v0 := Tryz.zeroValue0
  t3 := Tryz.underlying3
  a3 := Tryz.isAgg3
  z3 := Tryz.sizeOf3
  v3 := Tryz.zeroValue3
  t9 := Tryz.underlying9
  a9 := Tryz.isAgg9
  z9 := Tryz.sizeOf9
  v9 := Tryz.zeroValue9
  t37 := Tryz.underlying94
  a37 := Tryz.isAgg94
  z37 := Tryz.sizeOf94
  v37 := Tryz.zeroValue94
  t70 := Tryz.underlying182
  a70 := Tryz.isAgg182
  z70 := Tryz.sizeOf182
  v70 := Tryz.zeroValue182
  t72 := Tryz.underlying184
  a72 := Tryz.isAgg184
  z72 := Tryz.sizeOf184
  v72 := Tryz.zeroValue184
  t127 := Tryz.underlying266
  a127 := Tryz.isAgg266
  z127 := Tryz.sizeOf266
  v127 := Tryz.zeroValue266 }
theorem Tryz.Builder_Extra_169 : Builder.Extra Tryz.prog Tryz.lays169_ren := {
  sizeBuilder := by kernel_rfl
  liesBuilder := by kernel_rfl
  t5 := Tryz.underlying5
  a5 := Tryz.isAgg5
  z5 := Tryz.sizeOf5
  v5 := Tryz.zeroValue5
  infoByte := by kernel_rfl
  cellsByte := by kernel_rfl
  sizeByte := by kernel_rfl
  neB5 := by decide }
open Go.RowKit in
/-- (*strings.Builder).String: "String returns the accumulated string.": OF A BUILDER THAT HOLDS AT LEAST ONE BYTE. ✋ THE MODEL FREEZES THOSE BYTES IN THE BUFFER (unsafe.String): a later write INTO them ends the model's run without an answer; a later append BEHIND them goes on. The statement's order of evaluation is drawn: one draw. (LAID: no walk: one application.) -/
theorem Tryz.Builder_String (B b : Nat) (l : List UInt8) (w : World) (h : Lib.IsBuilder 184 5 B b (Lib.byteCells l) w) (h0 : l ≠ []) :
    Calls Tryz.prog 122 #[.pointer (some ⟨b, 0, none⟩)] w fun e w' => e = .returned (.string ⟨l.toArray⟩) ∧ Below B w w' := Any.Builder_String Tryz.lays169 Tryz.Builder_Extra_169 B b l w h h0
open Go.RowKit in
/-- (*strings.Builder).String OF A BUILDER THAT HOLDS NO BYTE: the empty string. (Its buffer is nil, or a row of which it has taken nothing yet; where that row has NO capacity the model lays one new block for unsafe.SliceData's 'some address'.) One draw. (LAID: no walk: one application.) -/
theorem Tryz.Builder_String_empty (B b : Nat) (w : World) (h : Lib.IsBuilder 184 5 B b [] w) (hBw : B ≤ w.heap.size) :
    Calls Tryz.prog 122 #[.pointer (some ⟨b, 0, none⟩)] w fun e w' => e = .returned (.string ⟨#[]⟩) ∧ Below B w w' := Any.Builder_String_empty Tryz.lays169 Tryz.Builder_Extra_169 B b w h hBw
open Go.RowKit in
/-- (*strings.Builder).String: "String returns the accumulated string.": WHATEVER THE BUILDER HOLDS. (LAID: no walk: one application.) -/
theorem Tryz.Builder_String_any (B b : Nat) (l : List UInt8) (w : World) (h : Lib.IsBuilder 184 5 B b (Lib.byteCells l) w) (hBw : B ≤ w.heap.size) :
    Calls Tryz.prog 122 #[.pointer (some ⟨b, 0, none⟩)] w fun e w' => e = .returned (.string ⟨l.toArray⟩) ∧ Below B w w' := Any.Builder_String_any Tryz.lays169 Tryz.Builder_Extra_169 B b l w h hBw
def Tryz.lays241_ren : Go.Shelf.Ren := ⟨fun | 241 => 208 | 277 => 233 | n => n, fun | 70 => 182 | 3 => 3 | 0 => 0 | 72 => 184 | 37 => 94 | 5 => 5 | n => n, fun | n => n⟩
theorem Tryz.lays241 : Go.Proofs.Lays.n241 Tryz.prog Tryz.lays241_ren := {
  mixed := by kernel_rfl
  f241 := Tryz.func208.trans (congrArg some (by kernel_rfl))
  f277 := Tryz.func233.trans (congrArg some (by kernel_rfl))
  t0 := Tryz.underlying0
  a0 := Tryz.isAgg0
  z0 := Tryz.sizeOf0
  v0 := Tryz.zeroValue0
  t3 := Tryz.underlying3
  a3 := Tryz.isAgg3
  z3 := Tryz.sizeOf3
  v3 := Tryz.zeroValue3
  t37 := Tryz.underlying94
  a37 := Tryz.isAgg94
  z37 := Tryz.sizeOf94
  v37 := Tryz.zeroValue94
  t70 := Tryz.underlying182
  a70 := Tryz.isAgg182
  z70 := Tryz.sizeOf182
  v70 := Tryz.zeroValue182
  t72 := Tryz.underlying184
  a72 := Tryz.isAgg184
  z72 := Tryz.sizeOf184
  v72 := Tryz.zeroValue184 }
theorem Tryz.Builder_Extra_241 : Builder.Extra Tryz.prog Tryz.lays241_ren := {
  sizeBuilder := by kernel_rfl
  liesBuilder := by kernel_rfl
  t5 := Tryz.underlying5
  a5 := Tryz.isAgg5
  z5 := Tryz.sizeOf5
  v5 := Tryz.zeroValue5
  infoByte := by kernel_rfl
  cellsByte := by kernel_rfl
  sizeByte := by kernel_rfl
  neB5 := by decide }
open Go.RowKit in
/-- (*strings.Builder).grow (no doc but "grow copies the buffer to a new, larger buffer so that there are at least n bytes of capacity beyond len(b.buf)."): AT A BUILDER WITHOUT A BUFFER: a new row of whatever bytes for its buffer, none of them its own yet. Three draws. (LAID: no walk: one application.) -/
theorem Tryz.Builder_grow_fresh (B b n : Nat) (w : World) (hB : B ≤ b) (hbk : w.heap[b]? = some (.cells #[.pointer (some ⟨b, 0, none⟩), .slice none 0 0] 184 (0, 0))) (hBw : B ≤ w.heap.size) (hn : n ≤ 281474976710656) :
    Calls Tryz.prog 208 #[.pointer (some ⟨b, 0, none⟩), .int .i64 n] w fun e w' => e = .returned (.tuple #[]) ∧ (Lib.BuilderAt 184 5 B b (.pointer (some ⟨b, 0, none⟩)) [] w' ∧ Below B w w') := Any.Builder_grow_fresh Tryz.lays241 Tryz.Builder_Extra_241 B b n w hB hbk hBw hn
def Tryz.lays165_ren : Go.Shelf.Ren := ⟨fun | 165 => 168 | 240 => 167 | 241 => 208 | 276 => 207 | 277 => 233 | n => n, fun | 70 => 182 | 3 => 3 | 0 => 0 | 4 => 4 | 9 => 9 | 20 => 20 | 72 => 184 | 37 => 94 | 164 => 256 | 5 => 5 | n => n, fun | n => n⟩
theorem Tryz.lays165 : Go.Proofs.Lays.n165 Tryz.prog Tryz.lays165_ren := {
  mixed := by kernel_rfl
  f165 := Tryz.func168.trans (congrArg some (by kernel_rfl))
  f240 := Tryz.func167.trans (congrArg some (by kernel_rfl))
  f241 := Tryz.func208.trans (congrArg some (by kernel_rfl))
  f276 := Tryz.func207.trans (congrArg some (by kernel_rfl))
  f277 := Tryz.func233.trans (congrArg some (by kernel_rfl))
  t0 := Tryz.underlying0
  a0 := Tryz.isAgg0
  z0 := Tryz.sizeOf0
  v0 := Tryz.zeroValue0
  t3 := Tryz.underlying3
  a3 := Tryz.isAgg3
  z3 := Tryz.sizeOf3
  v3 := Tryz.zeroValue3
  t4 := Tryz.underlying4
  a4 := Tryz.isAgg4
  z4 := Tryz.sizeOf4
  v4 := Tryz.zeroValue4
  t9 := Tryz.underlying9
  a9 := Tryz.isAgg9
  z9 := Tryz.sizeOf9
  v9 := Tryz.zeroValue9
  t20 := Tryz.underlying20
  a20 := Tryz.isAgg20
  z20 := Tryz.sizeOf20
  v20 := Tryz.zeroValue20
  t37 := Tryz.underlying94
  a37 := Tryz.isAgg94
  z37 := Tryz.sizeOf94
  v37 := Tryz.zeroValue94
  t70 := Tryz.underlying182
  a70 := Tryz.isAgg182
  z70 := Tryz.sizeOf182
  v70 := Tryz.zeroValue182
  t72 := Tryz.underlying184
  a72 := Tryz.isAgg184
  z72 := Tryz.sizeOf184
  v72 := Tryz.zeroValue184
  t164 := Tryz.underlying256
  a164 := Tryz.isAgg256
  z164 := Tryz.sizeOf256
  v164 := Tryz.zeroValue256 }
theorem Tryz.Builder_Extra_165 : Builder.Extra Tryz.prog Tryz.lays165_ren := {
  sizeBuilder := by kernel_rfl
  liesBuilder := by kernel_rfl
  t5 := Tryz.underlying5
  a5 := Tryz.isAgg5
  z5 := Tryz.sizeOf5
  v5 := Tryz.zeroValue5
  infoByte := by kernel_rfl
  cellsByte := by kernel_rfl
  sizeByte := by kernel_rfl
  neB5 := by decide }
open Go.RowKit in
/-- (*strings.Builder).Grow AT A BUILDER THAT HAS NOT BEEN WRITTEN ('var b strings.Builder; b.Grow(n)'): "Grow grows b's capacity, if necessary, to guarantee space for another n bytes.": it holds no byte behind it as before it. (LAID: no walk: one application.) -/
theorem Tryz.Builder_Grow_fresh (B b n : Nat) (w : World) (hB : B ≤ b) (hbk : w.heap[b]? = some (.cells #[.pointer none, .slice none 0 0] 184 (0, 0))) (hBw : B ≤ w.heap.size) (hn : n ≤ 281474976710656) :
    Calls Tryz.prog 168 #[.pointer (some ⟨b, 0, none⟩), .int .i64 n] w fun e w' => e = .returned (.tuple #[]) ∧ (Lib.BuilderAt 184 5 B b (.pointer (some ⟨b, 0, none⟩)) [] w' ∧ Below B w w') := Any.Builder_Grow_fresh Tryz.lays165 Tryz.Builder_Extra_165 B b n w hB hbk hBw hn
def Tryz.lays156_ren : Go.Shelf.Ren := ⟨fun | 156 => 118 | 165 => 168 | 166 => 117 | 169 => 122 | 240 => 167 | 241 => 208 | 276 => 207 | 277 => 233 | n => n, fun | 31 => 32 | 9 => 9 | 3 => 3 | 4 => 4 | 0 => 0 | 20 => 20 | 72 => 184 | 76 => 185 | 70 => 182 | 37 => 94 | 75 => 82 | 127 => 266 | 164 => 256 | 5 => 5 | 80 => 192 | n => n, fun | n => n⟩
theorem Tryz.lays156 : Go.Proofs.Lays.n156 Tryz.prog Tryz.lays156_ren := {
  mixed := by kernel_rfl
  f156 := Tryz.func118.trans (congrArg some (by kernel_rfl))
  f165 := Tryz.func168.trans (congrArg some (by kernel_rfl))
  f166 := Tryz.func117.trans (congrArg some (by kernel_rfl))
  f169 := Tryz.func122.trans (congrArg some (by kernel_rfl))
  f240 := Tryz.func167.trans (congrArg some (by kernel_rfl))
  f241 := Tryz.func208.trans (congrArg some (by kernel_rfl))
  f276 := Tryz.func207.trans (congrArg some (by kernel_rfl))
  f277 := Tryz.func233.trans (congrArg some (by kernel_rfl))
  t0 := Tryz.underlying0
  a0 := Tryz.isAgg0
  z0 := Tryz.sizeOf0
  v0 := Tryz.zeroValue0
  t3 := Tryz.underlying3
  a3 := Tryz.isAgg3
  z3 := Tryz.sizeOf3
  v3 := Tryz.zeroValue3
  t4 := Tryz.underlying4
  a4 := Tryz.isAgg4
  z4 := Tryz.sizeOf4
  v4 := Tryz.zeroValue4
  t9 := Tryz.underlying9
  a9 := Tryz.isAgg9
  z9 := Tryz.sizeOf9
  v9 := Tryz.zeroValue9
  t20 := Tryz.underlying20
  a20 := Tryz.isAgg20
  z20 := Tryz.sizeOf20
  v20 := Tryz.zeroValue20
  t31 := Tryz.underlying32
  a31 := Tryz.isAgg32
  z31 := Tryz.sizeOf32
  v31 := Tryz.zeroValue32
  t37 := Tryz.underlying94
  a37 := Tryz.isAgg94
  z37 := Tryz.sizeOf94
  v37 := Tryz.zeroValue94
  t70 := Tryz.underlying182
  a70 := Tryz.isAgg182
  z70 := Tryz.sizeOf182
  v70 := Tryz.zeroValue182
  t72 := Tryz.underlying184
  a72 := Tryz.isAgg184
  z72 := Tryz.sizeOf184
  v72 := Tryz.zeroValue184
  t75 := Tryz.underlying82
  a75 := Tryz.isAgg82
  z75 := Tryz.sizeOf82
  v75 := Tryz.zeroValue82
  t76 := Tryz.underlying185
  a76 := Tryz.isAgg185
  z76 := Tryz.sizeOf185
  v76 := Tryz.zeroValue185
  t127 := Tryz.underlying266
  a127 := Tryz.isAgg266
  z127 := Tryz.sizeOf266
  v127 := Tryz.zeroValue266
  t164 := Tryz.underlying256
  a164 := Tryz.isAgg256
  z164 := Tryz.sizeOf256
  v164 := Tryz.zeroValue256 }
theorem Tryz.Builder_Extra_156 : Builder.Extra Tryz.prog Tryz.lays156_ren := {
  sizeBuilder := by kernel_rfl
  liesBuilder := by kernel_rfl
  t5 := Tryz.underlying5
  a5 := Tryz.isAgg5
  z5 := Tryz.sizeOf5
  v5 := Tryz.zeroValue5
  infoByte := by kernel_rfl
  cellsByte := by kernel_rfl
  sizeByte := by kernel_rfl
  neB5 := by decide }
open Go.RowKit in
/-- No element: the empty string; the world is as it was. (Whatever the slice's address and capacity: a nil slice too.) (LAID: no walk: one application.) -/
theorem Tryz.strings_Join_none (a : Option Addr) (c : Nat) (sep : ByteArray) (w : World) :
    Calls Tryz.prog 118 #[.slice a 0 c, .string sep] w fun e w' => e = .returned (.string ⟨#[]⟩) ∧ w' = w := Any.strings_Join_none Tryz.lays156 Tryz.Builder_Extra_156 a c sep w
open Go.RowKit in
/-- strings.Join: "Join concatenates the elements of its first argument to create a single string. The separator string sep is placed between elements in the resulting string.": HOWEVER MANY ELEMENTS. Below the heap's end the world is as it was. (LAID: no walk: one application.) -/
theorem Tryz.strings_Join (bk o c : Nat) (xs : List ByteArray) (sep : ByteArray) (w : World) (hcells : ∀ (j : Nat) x, xs[j]? = some x → w.cell? ⟨bk, o + j, none⟩ = some (.string x)) (hbk : bk < w.heap.size) (hN : xs.length ≤ 140737488355328) (hcap : xs.length ≤ c) (hlen : (Lib.join (xs.map (·.data.toList)) sep.data.toList).length ≤ 140737488355328) :
    Calls Tryz.prog 118 #[.slice (some ⟨bk, o, none⟩) xs.length c, .string sep] w fun e w' => e = .returned (.string ⟨(Lib.join (xs.map (·.data.toList)) sep.data.toList).toArray⟩) ∧ Below w.heap.size w w' := Any.strings_Join Tryz.lays156 Tryz.Builder_Extra_156 bk o c xs sep w hcells hbk hN hcap hlen
def Tryz.lays213_ren : Go.Shelf.Ren := ⟨fun | 213 => 196 | 265 => 229 | n => n, fun | 9 => 9 | 3 => 3 | n => n, fun | n => n⟩
theorem Tryz.lays213 : Go.Proofs.Lays.n213 Tryz.prog Tryz.lays213_ren := {
  mixed := by kernel_rfl
  f213 := Tryz.func196.trans (congrArg some (by kernel_rfl))
  f265 := Tryz.func229.trans (congrArg some (by kernel_rfl))
  t3 := Tryz.underlying3
  a3 := Tryz.isAgg3
  z3 := Tryz.sizeOf3
  v3 := Tryz.zeroValue3
  t9 := Tryz.underlying9
  a9 := Tryz.isAgg9
  z9 := Tryz.sizeOf9
  v9 := Tryz.zeroValue9 }
open Go.RowKit in
/-- internal/bytealg.CompareString (what strings.Compare calls): IT RETURNS 'Lib.compareBytes a b'; the world is as it was. (LAID: no walk: one application.) -/
theorem Tryz.bytealg_CompareString (a b : ByteArray) (w : World) :
    Calls Tryz.prog 196 #[.string a, .string b] w fun e w' => e = .returned (.int .i64 (Lib.compareBytes a.data.toList b.data.toList)) ∧ w' = w := Any.bytealg_CompareString Tryz.lays213 a b w
def Tryz.lays106_ren : Go.Shelf.Ren := ⟨fun | 106 => 151 | 213 => 196 | 265 => 229 | n => n, fun | 9 => 9 | 3 => 3 | n => n, fun | n => n⟩
theorem Tryz.lays106 : Go.Proofs.Lays.n106 Tryz.prog Tryz.lays106_ren := {
  mixed := by kernel_rfl
  f106 := Tryz.func151.trans (congrArg some (by kernel_rfl))
  f213 := Tryz.func196.trans (congrArg some (by kernel_rfl))
  f265 := Tryz.func229.trans (congrArg some (by kernel_rfl))
  t3 := Tryz.underlying3
  a3 := Tryz.isAgg3
  z3 := Tryz.sizeOf3
  v3 := Tryz.zeroValue3
  t9 := Tryz.underlying9
  a9 := Tryz.isAgg9
  z9 := Tryz.sizeOf9
  v9 := Tryz.zeroValue9 }
open Go.RowKit in
/-- strings.Compare: "Compare returns an integer comparing two strings lexicographically. The result will be 0 if a == b, -1 if a < b, and +1 if a > b.": IT RETURNS 'Lib.compareBytes a b'; the world is as it was. (LAID: no walk: one application.) -/
theorem Tryz.strings_Compare (a b : ByteArray) (w : World) :
    Calls Tryz.prog 151 #[.string a, .string b] w fun e w' => e = .returned (.int .i64 (Lib.compareBytes a.data.toList b.data.toList)) ∧ w' = w := Any.strings_Compare Tryz.lays106 a b w
def Tryz.lays137_ren : Go.Shelf.Ren := ⟨fun | 137 => 127 | 217 => 174 | 266 => 211 | n => n, fun | 9 => 9 | 5 => 5 | 3 => 3 | n => n, fun | n => n⟩
theorem Tryz.lays137 : Go.Proofs.Lays.n137 Tryz.prog Tryz.lays137_ren := {
  mixed := by kernel_rfl
  f137 := Tryz.func127.trans (congrArg some (by kernel_rfl))
  f217 := Tryz.func174.trans (congrArg some (by kernel_rfl))
  f266 := Tryz.func211.trans (congrArg some (by kernel_rfl))
  t3 := Tryz.underlying3
  a3 := Tryz.isAgg3
  z3 := Tryz.sizeOf3
  v3 := Tryz.zeroValue3
  t5 := Tryz.underlying5
  a5 := Tryz.isAgg5
  z5 := Tryz.sizeOf5
  v5 := Tryz.zeroValue5
  t9 := Tryz.underlying9
  a9 := Tryz.isAgg9
  z9 := Tryz.sizeOf9
  v9 := Tryz.zeroValue9 }
open Go.RowKit in
/-- strings.IndexByte: "IndexByte returns the index of the first instance of c in s, or -1 if c is not present in s.": IT RETURNS 'Lib.indexByte s c'; the world is as it was. (LAID: no walk: one application.) -/
theorem Tryz.strings_IndexByte (s : ByteArray) (c : Int) (w : World) :
    Calls Tryz.prog 127 #[.string s, .int .u8 c] w fun e w' => e = .returned (.int .i64 (Lib.indexByte s.data.toList c.toNat.toUInt8)) ∧ w' = w := Any.strings_IndexByte Tryz.lays137 s c w
open Go.RowKit in
/-- (*strings.Builder).String: "String returns the accumulated string.": OF A BUILDER THAT HOLDS AT LEAST ONE BYTE. ✋ THE MODEL FREEZES THOSE BYTES IN THE BUFFER (unsafe.String): a later write INTO them ends the model's run without an answer; a later append BEHIND them goes on. The statement's order of evaluation is drawn: one draw. THE FORM '_f': IT SAYS BESIDES THAT THE BUILDER IS A BUILDER STILL ('Lib.IsBuilderF', the same bytes): SO IT CAN BE WRITTEN ON: 'b.WriteString(b.String()[:k])'. (LAID: no walk: one application.) -/
theorem Tryz.Builder_String_f (B b : Nat) (l : List UInt8) (w : World) (h : Lib.IsBuilderF 184 5 B b (Lib.byteCells l) w) (h0 : l ≠ []) :
    Calls Tryz.prog 122 #[.pointer (some ⟨b, 0, none⟩)] w fun e w' => e = .returned (.string ⟨l.toArray⟩) ∧ (Lib.IsBuilderF 184 5 B b (Lib.byteCells l) w' ∧ Below B w w') := Any.Builder_String_f Tryz.lays169 Tryz.Builder_Extra_169 B b l w h h0
open Go.RowKit in
/-- (*strings.Builder).String OF A BUILDER THAT HOLDS NO BYTE: the empty string; THE FORM '_f': a builder still. (LAID: no walk: one application.) -/
theorem Tryz.Builder_String_empty_f (B b : Nat) (w : World) (h : Lib.IsBuilderF 184 5 B b [] w) (hBw : B ≤ w.heap.size) :
    Calls Tryz.prog 122 #[.pointer (some ⟨b, 0, none⟩)] w fun e w' => e = .returned (.string ⟨#[]⟩) ∧ (Lib.IsBuilderF 184 5 B b [] w' ∧ Below B w w') := Any.Builder_String_empty_f Tryz.lays169 Tryz.Builder_Extra_169 B b w h hBw
open Go.RowKit in
/-- (*strings.Builder).String: "String returns the accumulated string.": WHATEVER THE BUILDER HOLDS; THE FORM '_f': OF A BUILDER THAT MAY HAVE BEEN READ BEFORE; AND IT IS A BUILDER STILL, holding the same bytes: it can be written on. (LAID: no walk: one application.) -/
theorem Tryz.Builder_String_any_f (B b : Nat) (l : List UInt8) (w : World) (h : Lib.IsBuilderF 184 5 B b (Lib.byteCells l) w) (hBw : B ≤ w.heap.size) :
    Calls Tryz.prog 122 #[.pointer (some ⟨b, 0, none⟩)] w fun e w' => e = .returned (.string ⟨l.toArray⟩) ∧ (Lib.IsBuilderF 184 5 B b (Lib.byteCells l) w' ∧ Below B w w') := Any.Builder_String_any_f Tryz.lays169 Tryz.Builder_Extra_169 B b l w h hBw
open Go.RowKit in
/-- (*strings.Builder).String: "String returns the accumulated string.": OF A BUILDER THAT HOLDS AT LEAST ONE BYTE. ✋ THE MODEL FREEZES THOSE BYTES IN THE BUFFER (unsafe.String): a later write INTO them ends the model's run without an answer; a later append BEHIND them goes on. The statement's order of evaluation is drawn: one draw. THE FORM '_k': OVER 'Lib.IsBuilderF' (a builder that 'String()' may have read), AND WITH THE FRAME THAT REACHES ABOVE THE BUILDER: 'Lib.OthersKept': every block that is not b and is no row of uint8's stands as it stood: the iterator of a range among them. (LAID: no walk: one application.) -/
theorem Tryz.Builder_String_k (B b : Nat) (l : List UInt8) (w : World) (h : Lib.IsBuilderF 184 5 B b (Lib.byteCells l) w) (h0 : l ≠ []) :
    Calls Tryz.prog 122 #[.pointer (some ⟨b, 0, none⟩)] w fun e w' => e = .returned (.string ⟨l.toArray⟩) ∧ (Lib.IsBuilderF 184 5 B b (Lib.byteCells l) w' ∧ Below B w w' ∧ Lib.OthersKept 5 (some b) w w') := Any.Builder_String_k Tryz.lays169 Tryz.Builder_Extra_169 B b l w h h0
open Go.RowKit in
/-- (*strings.Builder).String OF A BUILDER THAT HOLDS NO BYTE: the empty string; THE FORM '_k': OVER 'Lib.IsBuilderF' (a builder that 'String()' may have read), AND WITH THE FRAME THAT REACHES ABOVE THE BUILDER: 'Lib.OthersKept': every block that is not b and is no row of uint8's stands as it stood: the iterator of a range among them. (LAID: no walk: one application.) -/
theorem Tryz.Builder_String_empty_k (B b : Nat) (w : World) (h : Lib.IsBuilderF 184 5 B b [] w) (hBw : B ≤ w.heap.size) :
    Calls Tryz.prog 122 #[.pointer (some ⟨b, 0, none⟩)] w fun e w' => e = .returned (.string ⟨#[]⟩) ∧ (Lib.IsBuilderF 184 5 B b [] w' ∧ Below B w w' ∧ Lib.OthersKept 5 (some b) w w') := Any.Builder_String_empty_k Tryz.lays169 Tryz.Builder_Extra_169 B b w h hBw
open Go.RowKit in
/-- (*strings.Builder).String: "String returns the accumulated string.": WHATEVER THE BUILDER HOLDS; THE FORM '_k': OVER 'Lib.IsBuilderF' (a builder that 'String()' may have read), AND WITH THE FRAME THAT REACHES ABOVE THE BUILDER: 'Lib.OthersKept': every block that is not b and is no row of uint8's stands as it stood: the iterator of a range among them. (LAID: no walk: one application.) -/
theorem Tryz.Builder_String_any_k (B b : Nat) (l : List UInt8) (w : World) (h : Lib.IsBuilderF 184 5 B b (Lib.byteCells l) w) (hBw : B ≤ w.heap.size) :
    Calls Tryz.prog 122 #[.pointer (some ⟨b, 0, none⟩)] w fun e w' => e = .returned (.string ⟨l.toArray⟩) ∧ (Lib.IsBuilderF 184 5 B b (Lib.byteCells l) w' ∧ Below B w w' ∧ Lib.OthersKept 5 (some b) w w') := Any.Builder_String_any_k Tryz.lays169 Tryz.Builder_Extra_169 B b l w h hBw
open Go.RowKit in
/-- (*strings.Builder).grow (no doc but "grow copies the buffer to a new, larger buffer so that there are at least n bytes of capacity beyond len(b.buf)."): AT A BUILDER WITHOUT A BUFFER: a new row of whatever bytes for its buffer, none of them its own yet. Three draws. (LAID: no walk: one application.) -/
theorem Tryz.Builder_grow_fresh_cap (B b n : Nat) (w : World) (hB : B ≤ b) (hbk : w.heap[b]? = some (.cells #[.pointer (some ⟨b, 0, none⟩), .slice none 0 0] 184 (0, 0))) (hBw : B ≤ w.heap.size) (hn : n ≤ 281474976710656) :
    Calls Tryz.prog 208 #[.pointer (some ⟨b, 0, none⟩), .int .i64 n] w fun e w' => e = .returned (.tuple #[]) ∧ (Lib.BuilderAt 184 5 B b (.pointer (some ⟨b, 0, none⟩)) [] w' ∧ Below B w w') ∧ ∃ p cap, w'.cell? ⟨b, 1, none⟩ = some (.slice p 0 cap) ∧ n ≤ cap := Any.Builder_grow_fresh_cap Tryz.lays241 Tryz.Builder_Extra_241 B b n w hB hbk hBw hn
open Go.RowKit in
/-- (*strings.Builder).Grow AT A BUILDER THAT HAS NOT BEEN WRITTEN ('var b strings.Builder; b.Grow(n)'): "Grow grows b's capacity, if necessary, to guarantee space for another n bytes.": it holds no byte behind it as before it. (LAID: no walk: one application.) -/
theorem Tryz.Builder_Grow_fresh_cap (B b n : Nat) (w : World) (hB : B ≤ b) (hbk : w.heap[b]? = some (.cells #[.pointer none, .slice none 0 0] 184 (0, 0))) (hBw : B ≤ w.heap.size) (hn : n ≤ 281474976710656) :
    Calls Tryz.prog 168 #[.pointer (some ⟨b, 0, none⟩), .int .i64 n] w fun e w' => e = .returned (.tuple #[]) ∧ (Lib.BuilderAt 184 5 B b (.pointer (some ⟨b, 0, none⟩)) [] w' ∧ Below B w w') ∧ ∃ p cap, w'.cell? ⟨b, 1, none⟩ = some (.slice p 0 cap) ∧ n ≤ cap := Any.Builder_Grow_fresh_cap Tryz.lays165 Tryz.Builder_Extra_165 B b n w hB hbk hBw hn
def Tryz.lays129_ren : Go.Shelf.Ren := ⟨fun | 129 => 258 | n => n, fun | 53 => 227 | 3 => 3 | 4 => 4 | 46 => 344 | 5 => 5 | 9 => 9 | n => n, fun | n => n⟩
theorem Tryz.lays129 : Go.Proofs.Lays.n129 Tryz.prog Tryz.lays129_ren := {
  mixed := by kernel_rfl
  f129 := Tryz.func258.trans (congrArg some (by kernel_rfl))
  t3 := Tryz.underlying3
  a3 := Tryz.isAgg3
  z3 := Tryz.sizeOf3
  v3 := Tryz.zeroValue3
  t4 := Tryz.underlying4
  a4 := Tryz.isAgg4
  z4 := Tryz.sizeOf4
  v4 := Tryz.zeroValue4
  t5 := Tryz.underlying5
  a5 := Tryz.isAgg5
  z5 := Tryz.sizeOf5
  v5 := Tryz.zeroValue5
  t9 := Tryz.underlying9
  a9 := Tryz.isAgg9
  z9 := Tryz.sizeOf9
  v9 := Tryz.zeroValue9
  t46 := Tryz.underlying344
  a46 := Tryz.isAgg344
  z46 := Tryz.sizeOf344
  v46 := Tryz.zeroValue344
  t53 := Tryz.underlying227
  a53 := Tryz.isAgg227
  z53 := Tryz.sizeOf227
  v53 := Tryz.zeroValue227 }
/-- bits.Len64: "Len64 returns the minimum number of bits required to represent x; the result is 0 for x == 0.": IT RETURNS 'Lib.bitLen x'; the world is as it was. ('h0', 'h1': x is a uint64.) (LAID: no walk: one application.) -/
theorem Tryz.bits_Len64 (x : Int) (w : World) (h0 : 0 ≤ x) (h1 : x ≤ 18446744073709551615) :
    Calls Tryz.prog 258 #[.int .u64 x] w fun e w' => e = .returned (.int .i64 (Lib.bitLen x.toNat)) ∧ w' = w := Any.bits_Len64 Tryz.lays129 x w h0 h1
def Tryz.lays317_ren : Go.Shelf.Ren := ⟨fun | 317 => 257 | n => n, fun | 3 => 3 | 46 => 344 | n => n, fun | n => n⟩
theorem Tryz.lays317 : Go.Proofs.Lays.n317 Tryz.prog Tryz.lays317_ren := {
  mixed := by kernel_rfl
  f317 := Tryz.func257.trans (congrArg some (by kernel_rfl))
  t3 := Tryz.underlying3
  a3 := Tryz.isAgg3
  z3 := Tryz.sizeOf3
  v3 := Tryz.zeroValue3
  t46 := Tryz.underlying344
  a46 := Tryz.isAgg344
  z46 := Tryz.sizeOf344
  v46 := Tryz.zeroValue344 }
open Go.Lib in
/-- internal/strconv.log10Pow2: "log10Pow2(x) returns ⌊log₁₀ 2**x⌋ = ⌊x * log₁₀ 2⌋.": '(x * 78913) >> 18', at an x up to 64 (a length in bits). The world is as it was. (LAID: no walk: one application.) -/
theorem Tryz.internal_strconv_log10Pow2 (x : Nat) (h : x ≤ 64) (w : World) :
    Calls Tryz.prog 257 #[.int .i64 x] w fun e w' => e = .returned (.int .i64 (Lib.l10 x)) ∧ w' = w := Any.internal_strconv_log10Pow2 Tryz.lays317 x h w
def Tryz.lays318_ren : Go.Shelf.Ren := ⟨fun | 318 => 259 | n => n, fun | 3 => 3 | 4 => 4 | n => n, fun | n => n⟩
theorem Tryz.lays318 : Go.Proofs.Lays.n318 Tryz.prog Tryz.lays318_ren := {
  mixed := by kernel_rfl
  f318 := Tryz.func259.trans (congrArg some (by kernel_rfl))
  t3 := Tryz.underlying3
  a3 := Tryz.isAgg3
  z3 := Tryz.sizeOf3
  v3 := Tryz.zeroValue3
  t4 := Tryz.underlying4
  a4 := Tryz.isAgg4
  z4 := Tryz.sizeOf4
  v4 := Tryz.zeroValue4 }
open Go.Lib in
/-- internal/strconv.bool2: "bool2 converts b to an integer: 1 for true, 0 for false." The world is as it was. (LAID: no walk: one application.) -/
theorem Tryz.internal_strconv_bool2_int (b : Bool) (w : World) :
    Calls Tryz.prog 259 #[.bool b] w fun e w' => e = .returned (.int .i64 (if b then 1 else 0)) ∧ w' = w := Any.internal_strconv_bool2_int Tryz.lays318 b w
def Tryz.lays283_ren : Go.Shelf.Ren := ⟨fun | 283 => 243 | n => n, fun | 3 => 3 | 9 => 9 | 4 => 4 | n => n, fun | n => n⟩
theorem Tryz.lays283 : Go.Proofs.Lays.n283 Tryz.prog Tryz.lays283_ren := {
  mixed := by kernel_rfl
  f283 := Tryz.func243.trans (congrArg some (by kernel_rfl))
  t3 := Tryz.underlying3
  a3 := Tryz.isAgg3
  z3 := Tryz.sizeOf3
  v3 := Tryz.zeroValue3
  t4 := Tryz.underlying4
  a4 := Tryz.isAgg4
  z4 := Tryz.sizeOf4
  v4 := Tryz.zeroValue4
  t9 := Tryz.underlying9
  a9 := Tryz.isAgg9
  z9 := Tryz.sizeOf9
  v9 := Tryz.zeroValue9 }
open Go.Lib in
/-- internal/strconv.small: "small returns the string for an i with 0 <= i < nSmalls.": i's decimal numeral. The world is as it was. (LAID: no walk: one application.) -/
theorem Tryz.internal_strconv_small (i : Nat) (h : i < 100) (w : World) :
    Calls Tryz.prog 243 #[.int .i64 i] w fun e w' => e = .returned (.string ⟨(Lib.decDigits i).toArray⟩) ∧ w' = w := Any.internal_strconv_small Tryz.lays283 i h w
def Tryz.laysM284_ren : Go.Shelf.Ren := ⟨fun | 284 => 244 | 129 => 258 | 317 => 257 | 318 => 259 | n => n, fun | 53 => 227 | 3 => 3 | 212 => 355 | 0 => 0 | 4 => 4 | 46 => 344 | 5 => 5 | 9 => 9 | n => n, fun | 17 => 7 | n => n⟩
theorem Tryz.laysM284 : Go.Proofs.LaysM.n284 Tryz.prog Tryz.laysM284_ren := {
  mixed := by kernel_rfl
  f129 := Tryz.func258.trans (congrArg some (by kernel_rfl))
  f284 := Tryz.func244.trans (congrArg some (by kernel_rfl))
  f317 := Tryz.func257.trans (congrArg some (by kernel_rfl))
  f318 := Tryz.func259.trans (congrArg some (by kernel_rfl))
  t0 := Tryz.underlying0
  a0 := Tryz.isAgg0
  z0 := Tryz.sizeOf0
  v0 := Tryz.zeroValue0
  t3 := Tryz.underlying3
  a3 := Tryz.isAgg3
  z3 := Tryz.sizeOf3
  v3 := Tryz.zeroValue3
  t4 := Tryz.underlying4
  a4 := Tryz.isAgg4
  z4 := Tryz.sizeOf4
  v4 := Tryz.zeroValue4
  t5 := Tryz.underlying5
  a5 := Tryz.isAgg5
  z5 := Tryz.sizeOf5
  v5 := Tryz.zeroValue5
  t9 := Tryz.underlying9
  a9 := Tryz.isAgg9
  z9 := Tryz.sizeOf9
  v9 := Tryz.zeroValue9
  t46 := Tryz.underlying344
  a46 := Tryz.isAgg344
  z46 := Tryz.sizeOf344
  v46 := Tryz.zeroValue344
  t53 := Tryz.underlying227
  a53 := Tryz.isAgg227
  z53 := Tryz.sizeOf227
  v53 := Tryz.zeroValue227
  t212 := Tryz.underlying355
  a212 := Tryz.isAgg355
  z212 := Tryz.sizeOf355
  v212 := Tryz.zeroValue355
  g17 := by kernel_rfl
  i0 := by kernel_rfl
  i3 := by kernel_rfl
  i4 := by kernel_rfl
  i5 := by kernel_rfl
  i9 := by kernel_rfl
  i46 := by kernel_rfl
  i53 := by kernel_rfl
  i212 := by kernel_rfl
  m17 := by kernel_rfl }
open Go.Lib in
/-- internal/strconv.numDigits, at a d that is not 0: THE NUMBER OF d's DECIMAL DIGITS. The world is as it was. (LAID: no walk: one application.) -/
theorem Tryz.internal_strconv_numDigits (u : Nat) (h1 : 1 ≤ u) (h2 : u < 18446744073709551616) (w : World) (htab : Lib.TabIs Tryz.prog w "internal/strconv.uint64pow10" .u64 Lib.pow10Tab) :
    Calls Tryz.prog 244 #[.int .u64 u] w fun e w' => e = .returned (.int .i64 (Lib.nDigits u)) ∧ w' = w := Any.internal_strconv_numDigits Tryz.laysM284 u h1 h2 w htab
def Tryz.lays285_ren : Go.Shelf.Ren := ⟨fun | 285 => 245 | n => n, fun | 37 => 94 | 53 => 227 | 3 => 3 | 4 => 4 | 51 => 122 | 9 => 9 | 5 => 5 | 0 => 0 | n => n, fun | n => n⟩
theorem Tryz.lays285 : Go.Proofs.Lays.n285 Tryz.prog Tryz.lays285_ren := {
  mixed := by kernel_rfl
  f285 := Tryz.func245.trans (congrArg some (by kernel_rfl))
  t0 := Tryz.underlying0
  a0 := Tryz.isAgg0
  z0 := Tryz.sizeOf0
  v0 := Tryz.zeroValue0
  t3 := Tryz.underlying3
  a3 := Tryz.isAgg3
  z3 := Tryz.sizeOf3
  v3 := Tryz.zeroValue3
  t4 := Tryz.underlying4
  a4 := Tryz.isAgg4
  z4 := Tryz.sizeOf4
  v4 := Tryz.zeroValue4
  t5 := Tryz.underlying5
  a5 := Tryz.isAgg5
  z5 := Tryz.sizeOf5
  v5 := Tryz.zeroValue5
  t9 := Tryz.underlying9
  a9 := Tryz.isAgg9
  z9 := Tryz.sizeOf9
  v9 := Tryz.zeroValue9
  t37 := Tryz.underlying94
  a37 := Tryz.isAgg94
  z37 := Tryz.sizeOf94
  v37 := Tryz.zeroValue94
  t51 := Tryz.underlying122
  a51 := Tryz.isAgg122
  z51 := Tryz.sizeOf122
  v51 := Tryz.zeroValue122
  t53 := Tryz.underlying227
  a53 := Tryz.isAgg227
  z53 := Tryz.sizeOf227
  v53 := Tryz.zeroValue227 }
open Go.RowKit Go.Sort Go.Lib in
/-- internal/strconv.formatBase10: "formatBase10 formats the decimal representation of u into a. The caller is responsible for ensuring that a is big enough to hold u. If a is too big, leading zeros will be filled in as needed.": THE ROW HOLDS u's DIGITS ('FmtInv .. 0 ..': every place t holds 'dg u (len - 1 - t)'); all else is as it was but for the count of draws. (LAID: no walk: one application.) -/
theorem Tryz.internal_strconv_formatBase10 (blk off cap : Nat) (u : Nat) (d : Array UInt8) (w : World) (hH : Holds (fun (b : UInt8) => Value.int .u8 (b.toNat : Int)) w blk off d) (hu : u < 10 ^ d.size) (hu64 : u < 18446744073709551616) (hsz : d.size < 4611686018427387904) :
    Calls Tryz.prog 245 #[.slice (some ⟨blk, off, none⟩) d.size cap, .int .u64 u] w fun e w' =>
      e = .returned (.tuple #[]) ∧ ∃ (n v' : Nat) (dk : Array UInt8), w' = (putRow (fun (b : UInt8) => Value.int .u8 (b.toNat : Int)) w blk off dk).drewN n ∧ FmtInv d.size u 0 v' dk := Any.internal_strconv_formatBase10 Tryz.lays285 blk off cap u d w hH hu hu64 hsz
def Tryz.laysM246_ren : Go.Shelf.Ren := ⟨fun | 246 => 234 | 283 => 243 | 284 => 244 | 285 => 245 | 286 => 246 | 129 => 258 | 317 => 257 | 318 => 259 | 319 => 260 | 320 => 261 | 337 => 264 | 338 => 265 | n => n, fun | 2 => 2 | 3 => 3 | 9 => 9 | 4 => 4 | 171 => 345 | 0 => 0 | 53 => 227 | 37 => 94 | 5 => 5 | 173 => 348 | 212 => 355 | 51 => 122 | 20 => 20 | 213 => 356 | 46 => 344 | 232 => 365 | 233 => 187 | n => n, fun | 17 => 7 | 18 => 8 | 19 => 9 | n => n⟩
theorem Tryz.laysM246 : Go.Proofs.LaysM.n246 Tryz.prog Tryz.laysM246_ren := {
  mixed := by kernel_rfl
  f129 := Tryz.func258.trans (congrArg some (by kernel_rfl))
  f246 := Tryz.func234.trans (congrArg some (by kernel_rfl))
  f283 := Tryz.func243.trans (congrArg some (by kernel_rfl))
  f284 := Tryz.func244.trans (congrArg some (by kernel_rfl))
  f285 := Tryz.func245.trans (congrArg some (by kernel_rfl))
  f286 := Tryz.func246.trans (congrArg some (by kernel_rfl))
  f317 := Tryz.func257.trans (congrArg some (by kernel_rfl))
  f318 := Tryz.func259.trans (congrArg some (by kernel_rfl))
  f319 := Tryz.func260.trans (congrArg some (by kernel_rfl))
  f320 := Tryz.func261.trans (congrArg some (by kernel_rfl))
  f337 := Tryz.func264.trans (congrArg some (by kernel_rfl))
  f338 := Tryz.func265.trans (congrArg some (by kernel_rfl))
  t0 := Tryz.underlying0
  a0 := Tryz.isAgg0
  z0 := Tryz.sizeOf0
  v0 := Tryz.zeroValue0
  t2 := Tryz.underlying2
  a2 := Tryz.isAgg2
  z2 := Tryz.sizeOf2
  v2 := Tryz.zeroValue2
  t3 := Tryz.underlying3
  a3 := Tryz.isAgg3
  z3 := Tryz.sizeOf3
  v3 := Tryz.zeroValue3
  t4 := Tryz.underlying4
  a4 := Tryz.isAgg4
  z4 := Tryz.sizeOf4
  v4 := Tryz.zeroValue4
  t5 := Tryz.underlying5
  a5 := Tryz.isAgg5
  z5 := Tryz.sizeOf5
  v5 := Tryz.zeroValue5
  t9 := Tryz.underlying9
  a9 := Tryz.isAgg9
  z9 := Tryz.sizeOf9
  v9 := Tryz.zeroValue9
  t20 := Tryz.underlying20
  a20 := Tryz.isAgg20
  z20 := Tryz.sizeOf20
  v20 := Tryz.zeroValue20
  t37 := Tryz.underlying94
  a37 := Tryz.isAgg94
  z37 := Tryz.sizeOf94
  v37 := Tryz.zeroValue94
  t46 := Tryz.underlying344
  a46 := Tryz.isAgg344
  z46 := Tryz.sizeOf344
  v46 := Tryz.zeroValue344
  t51 := Tryz.underlying122
  a51 := Tryz.isAgg122
  z51 := Tryz.sizeOf122
  v51 := Tryz.zeroValue122
  t53 := Tryz.underlying227
  a53 := Tryz.isAgg227
  z53 := Tryz.sizeOf227
  v53 := Tryz.zeroValue227
  t171 := Tryz.underlying345
  a171 := Tryz.isAgg345
  z171 := Tryz.sizeOf345
  v171 := Tryz.zeroValue345
  t173 := Tryz.underlying348
  a173 := Tryz.isAgg348
  z173 := Tryz.sizeOf348
  v173 := Tryz.zeroValue348
  t212 := Tryz.underlying355
  a212 := Tryz.isAgg355
  z212 := Tryz.sizeOf355
  v212 := Tryz.zeroValue355
  t213 := Tryz.underlying356
  a213 := Tryz.isAgg356
  z213 := Tryz.sizeOf356
  t232 := Tryz.underlying365
  a232 := Tryz.isAgg365
  z232 := Tryz.sizeOf365
  v232 := Tryz.zeroValue365
  t233 := Tryz.underlying187
  a233 := Tryz.isAgg187
  z233 := Tryz.sizeOf187
  v233 := Tryz.zeroValue187
  g17 := by kernel_rfl
  g18 := by kernel_rfl
  g19 := by kernel_rfl
  i0 := by kernel_rfl
  i2 := by kernel_rfl
  i3 := by kernel_rfl
  i4 := by kernel_rfl
  i5 := by kernel_rfl
  i9 := by kernel_rfl
  i20 := by kernel_rfl
  i37 := by kernel_rfl
  i46 := by kernel_rfl
  i51 := by kernel_rfl
  i53 := by kernel_rfl
  i171 := by kernel_rfl
  i173 := by kernel_rfl
  i212 := by kernel_rfl
  i232 := by kernel_rfl
  i233 := by kernel_rfl
  m17 := by kernel_rfl
  m18 := by kernel_rfl
  m19 := by kernel_rfl }
open Go.RowKit Go.Sort Go.Lib in
/-- internal/strconv.FormatInt: "FormatInt returns the string representation of i in the given base": AT BASE 10: i's decimal numeral, for every int64. The world behind the call: the world before it, new blocks behind the heap, draws. (LAID: no walk: one application.) -/
theorem Tryz.internal_strconv_FormatInt_10 (n : Int) (h0 : -9223372036854775808 ≤ n) (h1 : n ≤ 9223372036854775807) (w : World) (htab : Lib.TabIs Tryz.prog w "internal/strconv.uint64pow10" .u64 Lib.pow10Tab) :
    Calls Tryz.prog 234 #[.int .i64 n, .int .i64 10] w fun e w' => e = .returned (.string ⟨(Lib.itoa n).toArray⟩) ∧ ∃ k os, w' = grow (w.drewN k) os := Any.internal_strconv_FormatInt_10 Tryz.laysM246 n h0 h1 w htab
def Tryz.lays246_ren : Go.Shelf.Ren := ⟨fun | 246 => 234 | 283 => 243 | 284 => 244 | 285 => 245 | 286 => 246 | 129 => 258 | 317 => 257 | 318 => 259 | 319 => 260 | 320 => 261 | 337 => 264 | 338 => 265 | n => n, fun | 2 => 2 | 3 => 3 | 9 => 9 | 4 => 4 | 171 => 345 | 0 => 0 | 53 => 227 | 37 => 94 | 5 => 5 | 173 => 348 | 212 => 355 | 51 => 122 | 20 => 20 | 213 => 356 | 46 => 344 | 232 => 365 | 233 => 187 | n => n, fun | 17 => 7 | 18 => 8 | 19 => 9 | n => n⟩
theorem Tryz.lays246 : Go.Proofs.Lays.n246 Tryz.prog Tryz.lays246_ren := {
  mixed := by kernel_rfl
  f129 := Tryz.func258.trans (congrArg some (by kernel_rfl))
  f246 := Tryz.func234.trans (congrArg some (by kernel_rfl))
  f283 := Tryz.func243.trans (congrArg some (by kernel_rfl))
  f284 := Tryz.func244.trans (congrArg some (by kernel_rfl))
  f285 := Tryz.func245.trans (congrArg some (by kernel_rfl))
  f286 := Tryz.func246.trans (congrArg some (by kernel_rfl))
  f317 := Tryz.func257.trans (congrArg some (by kernel_rfl))
  f318 := Tryz.func259.trans (congrArg some (by kernel_rfl))
  f319 := Tryz.func260.trans (congrArg some (by kernel_rfl))
  f320 := Tryz.func261.trans (congrArg some (by kernel_rfl))
  f337 := Tryz.func264.trans (congrArg some (by kernel_rfl))
  f338 := Tryz.func265.trans (congrArg some (by kernel_rfl))
  t0 := Tryz.underlying0
  a0 := Tryz.isAgg0
  z0 := Tryz.sizeOf0
  v0 := Tryz.zeroValue0
  t2 := Tryz.underlying2
  a2 := Tryz.isAgg2
  z2 := Tryz.sizeOf2
  v2 := Tryz.zeroValue2
  t3 := Tryz.underlying3
  a3 := Tryz.isAgg3
  z3 := Tryz.sizeOf3
  v3 := Tryz.zeroValue3
  t4 := Tryz.underlying4
  a4 := Tryz.isAgg4
  z4 := Tryz.sizeOf4
  v4 := Tryz.zeroValue4
  t5 := Tryz.underlying5
  a5 := Tryz.isAgg5
  z5 := Tryz.sizeOf5
  v5 := Tryz.zeroValue5
  t9 := Tryz.underlying9
  a9 := Tryz.isAgg9
  z9 := Tryz.sizeOf9
  v9 := Tryz.zeroValue9
  t20 := Tryz.underlying20
  a20 := Tryz.isAgg20
  z20 := Tryz.sizeOf20
  v20 := Tryz.zeroValue20
  t37 := Tryz.underlying94
  a37 := Tryz.isAgg94
  z37 := Tryz.sizeOf94
  v37 := Tryz.zeroValue94
  t46 := Tryz.underlying344
  a46 := Tryz.isAgg344
  z46 := Tryz.sizeOf344
  v46 := Tryz.zeroValue344
  t51 := Tryz.underlying122
  a51 := Tryz.isAgg122
  z51 := Tryz.sizeOf122
  v51 := Tryz.zeroValue122
  t53 := Tryz.underlying227
  a53 := Tryz.isAgg227
  z53 := Tryz.sizeOf227
  v53 := Tryz.zeroValue227
  t171 := Tryz.underlying345
  a171 := Tryz.isAgg345
  z171 := Tryz.sizeOf345
  v171 := Tryz.zeroValue345
  t173 := Tryz.underlying348
  a173 := Tryz.isAgg348
  z173 := Tryz.sizeOf348
  v173 := Tryz.zeroValue348
  t212 := Tryz.underlying355
  a212 := Tryz.isAgg355
  z212 := Tryz.sizeOf355
  v212 := Tryz.zeroValue355
  t213 := Tryz.underlying356
  a213 := Tryz.isAgg356
  z213 := Tryz.sizeOf356
  t232 := Tryz.underlying365
  a232 := Tryz.isAgg365
  z232 := Tryz.sizeOf365
  v232 := Tryz.zeroValue365
  t233 := Tryz.underlying187
  a233 := Tryz.isAgg187
  z233 := Tryz.sizeOf187
  v233 := Tryz.zeroValue187
  g17 := by kernel_rfl
  g18 := by kernel_rfl
  g19 := by kernel_rfl }
open Go.RowKit Go.Sort Go.Lib in
/-- THE ROAD WITHOUT THE TABLE: 0 <= i < 100: two constants are read, nothing is laid: no premise on the world, and the world is as it was. (LAID: no walk: one application.) -/
theorem Tryz.internal_strconv_FormatInt_10_small (i : Nat) (hi : i < 100) (w : World) :
    Calls Tryz.prog 234 #[.int .i64 i, .int .i64 10] w fun e w' => e = .returned (.string ⟨(Lib.decDigits i).toArray⟩) ∧ w' = w := Any.internal_strconv_FormatInt_10_small Tryz.lays246 i hi w
def Tryz.laysM243_ren : Go.Shelf.Ren := ⟨fun | 243 => 209 | 246 => 234 | 283 => 243 | 284 => 244 | 285 => 245 | 286 => 246 | 129 => 258 | 317 => 257 | 318 => 259 | 319 => 260 | 320 => 261 | 337 => 264 | 338 => 265 | n => n, fun | 3 => 3 | 9 => 9 | 2 => 2 | 4 => 4 | 171 => 345 | 0 => 0 | 53 => 227 | 37 => 94 | 5 => 5 | 173 => 348 | 212 => 355 | 51 => 122 | 20 => 20 | 213 => 356 | 46 => 344 | 232 => 365 | 233 => 187 | n => n, fun | 17 => 7 | 18 => 8 | 19 => 9 | n => n⟩
theorem Tryz.laysM243 : Go.Proofs.LaysM.n243 Tryz.prog Tryz.laysM243_ren := {
  mixed := by kernel_rfl
  f129 := Tryz.func258.trans (congrArg some (by kernel_rfl))
  f243 := Tryz.func209.trans (congrArg some (by kernel_rfl))
  f246 := Tryz.func234.trans (congrArg some (by kernel_rfl))
  f283 := Tryz.func243.trans (congrArg some (by kernel_rfl))
  f284 := Tryz.func244.trans (congrArg some (by kernel_rfl))
  f285 := Tryz.func245.trans (congrArg some (by kernel_rfl))
  f286 := Tryz.func246.trans (congrArg some (by kernel_rfl))
  f317 := Tryz.func257.trans (congrArg some (by kernel_rfl))
  f318 := Tryz.func259.trans (congrArg some (by kernel_rfl))
  f319 := Tryz.func260.trans (congrArg some (by kernel_rfl))
  f320 := Tryz.func261.trans (congrArg some (by kernel_rfl))
  f337 := Tryz.func264.trans (congrArg some (by kernel_rfl))
  f338 := Tryz.func265.trans (congrArg some (by kernel_rfl))
  t0 := Tryz.underlying0
  a0 := Tryz.isAgg0
  z0 := Tryz.sizeOf0
  v0 := Tryz.zeroValue0
  t2 := Tryz.underlying2
  a2 := Tryz.isAgg2
  z2 := Tryz.sizeOf2
  v2 := Tryz.zeroValue2
  t3 := Tryz.underlying3
  a3 := Tryz.isAgg3
  z3 := Tryz.sizeOf3
  v3 := Tryz.zeroValue3
  t4 := Tryz.underlying4
  a4 := Tryz.isAgg4
  z4 := Tryz.sizeOf4
  v4 := Tryz.zeroValue4
  t5 := Tryz.underlying5
  a5 := Tryz.isAgg5
  z5 := Tryz.sizeOf5
  v5 := Tryz.zeroValue5
  t9 := Tryz.underlying9
  a9 := Tryz.isAgg9
  z9 := Tryz.sizeOf9
  v9 := Tryz.zeroValue9
  t20 := Tryz.underlying20
  a20 := Tryz.isAgg20
  z20 := Tryz.sizeOf20
  v20 := Tryz.zeroValue20
  t37 := Tryz.underlying94
  a37 := Tryz.isAgg94
  z37 := Tryz.sizeOf94
  v37 := Tryz.zeroValue94
  t46 := Tryz.underlying344
  a46 := Tryz.isAgg344
  z46 := Tryz.sizeOf344
  v46 := Tryz.zeroValue344
  t51 := Tryz.underlying122
  a51 := Tryz.isAgg122
  z51 := Tryz.sizeOf122
  v51 := Tryz.zeroValue122
  t53 := Tryz.underlying227
  a53 := Tryz.isAgg227
  z53 := Tryz.sizeOf227
  v53 := Tryz.zeroValue227
  t171 := Tryz.underlying345
  a171 := Tryz.isAgg345
  z171 := Tryz.sizeOf345
  v171 := Tryz.zeroValue345
  t173 := Tryz.underlying348
  a173 := Tryz.isAgg348
  z173 := Tryz.sizeOf348
  v173 := Tryz.zeroValue348
  t212 := Tryz.underlying355
  a212 := Tryz.isAgg355
  z212 := Tryz.sizeOf355
  v212 := Tryz.zeroValue355
  t213 := Tryz.underlying356
  a213 := Tryz.isAgg356
  z213 := Tryz.sizeOf356
  t232 := Tryz.underlying365
  a232 := Tryz.isAgg365
  z232 := Tryz.sizeOf365
  v232 := Tryz.zeroValue365
  t233 := Tryz.underlying187
  a233 := Tryz.isAgg187
  z233 := Tryz.sizeOf187
  v233 := Tryz.zeroValue187
  g17 := by kernel_rfl
  g18 := by kernel_rfl
  g19 := by kernel_rfl
  i0 := by kernel_rfl
  i2 := by kernel_rfl
  i3 := by kernel_rfl
  i4 := by kernel_rfl
  i5 := by kernel_rfl
  i9 := by kernel_rfl
  i20 := by kernel_rfl
  i37 := by kernel_rfl
  i46 := by kernel_rfl
  i51 := by kernel_rfl
  i53 := by kernel_rfl
  i171 := by kernel_rfl
  i173 := by kernel_rfl
  i212 := by kernel_rfl
  i232 := by kernel_rfl
  i233 := by kernel_rfl
  m17 := by kernel_rfl
  m18 := by kernel_rfl
  m19 := by kernel_rfl }
open Go.RowKit Go.Sort Go.Lib in
/-- internal/strconv.Itoa: "Itoa is equivalent to FormatInt(int64(i), 10).": i's decimal numeral, for every int. (LAID: no walk: one application.) -/
theorem Tryz.internal_strconv_Itoa (n : Int) (h0 : -9223372036854775808 ≤ n) (h1 : n ≤ 9223372036854775807) (w : World) (htab : Lib.TabIs Tryz.prog w "internal/strconv.uint64pow10" .u64 Lib.pow10Tab) :
    Calls Tryz.prog 209 #[.int .i64 n] w fun e w' => e = .returned (.string ⟨(Lib.itoa n).toArray⟩) ∧ ∃ k os, w' = grow (w.drewN k) os := Any.internal_strconv_Itoa Tryz.laysM243 n h0 h1 w htab
def Tryz.lays243_ren : Go.Shelf.Ren := ⟨fun | 243 => 209 | 246 => 234 | 283 => 243 | 284 => 244 | 285 => 245 | 286 => 246 | 129 => 258 | 317 => 257 | 318 => 259 | 319 => 260 | 320 => 261 | 337 => 264 | 338 => 265 | n => n, fun | 3 => 3 | 9 => 9 | 2 => 2 | 4 => 4 | 171 => 345 | 0 => 0 | 53 => 227 | 37 => 94 | 5 => 5 | 173 => 348 | 212 => 355 | 51 => 122 | 20 => 20 | 213 => 356 | 46 => 344 | 232 => 365 | 233 => 187 | n => n, fun | 17 => 7 | 18 => 8 | 19 => 9 | n => n⟩
theorem Tryz.lays243 : Go.Proofs.Lays.n243 Tryz.prog Tryz.lays243_ren := {
  mixed := by kernel_rfl
  f129 := Tryz.func258.trans (congrArg some (by kernel_rfl))
  f243 := Tryz.func209.trans (congrArg some (by kernel_rfl))
  f246 := Tryz.func234.trans (congrArg some (by kernel_rfl))
  f283 := Tryz.func243.trans (congrArg some (by kernel_rfl))
  f284 := Tryz.func244.trans (congrArg some (by kernel_rfl))
  f285 := Tryz.func245.trans (congrArg some (by kernel_rfl))
  f286 := Tryz.func246.trans (congrArg some (by kernel_rfl))
  f317 := Tryz.func257.trans (congrArg some (by kernel_rfl))
  f318 := Tryz.func259.trans (congrArg some (by kernel_rfl))
  f319 := Tryz.func260.trans (congrArg some (by kernel_rfl))
  f320 := Tryz.func261.trans (congrArg some (by kernel_rfl))
  f337 := Tryz.func264.trans (congrArg some (by kernel_rfl))
  f338 := Tryz.func265.trans (congrArg some (by kernel_rfl))
  t0 := Tryz.underlying0
  a0 := Tryz.isAgg0
  z0 := Tryz.sizeOf0
  v0 := Tryz.zeroValue0
  t2 := Tryz.underlying2
  a2 := Tryz.isAgg2
  z2 := Tryz.sizeOf2
  v2 := Tryz.zeroValue2
  t3 := Tryz.underlying3
  a3 := Tryz.isAgg3
  z3 := Tryz.sizeOf3
  v3 := Tryz.zeroValue3
  t4 := Tryz.underlying4
  a4 := Tryz.isAgg4
  z4 := Tryz.sizeOf4
  v4 := Tryz.zeroValue4
  t5 := Tryz.underlying5
  a5 := Tryz.isAgg5
  z5 := Tryz.sizeOf5
  v5 := Tryz.zeroValue5
  t9 := Tryz.underlying9
  a9 := Tryz.isAgg9
  z9 := Tryz.sizeOf9
  v9 := Tryz.zeroValue9
  t20 := Tryz.underlying20
  a20 := Tryz.isAgg20
  z20 := Tryz.sizeOf20
  v20 := Tryz.zeroValue20
  t37 := Tryz.underlying94
  a37 := Tryz.isAgg94
  z37 := Tryz.sizeOf94
  v37 := Tryz.zeroValue94
  t46 := Tryz.underlying344
  a46 := Tryz.isAgg344
  z46 := Tryz.sizeOf344
  v46 := Tryz.zeroValue344
  t51 := Tryz.underlying122
  a51 := Tryz.isAgg122
  z51 := Tryz.sizeOf122
  v51 := Tryz.zeroValue122
  t53 := Tryz.underlying227
  a53 := Tryz.isAgg227
  z53 := Tryz.sizeOf227
  v53 := Tryz.zeroValue227
  t171 := Tryz.underlying345
  a171 := Tryz.isAgg345
  z171 := Tryz.sizeOf345
  v171 := Tryz.zeroValue345
  t173 := Tryz.underlying348
  a173 := Tryz.isAgg348
  z173 := Tryz.sizeOf348
  v173 := Tryz.zeroValue348
  t212 := Tryz.underlying355
  a212 := Tryz.isAgg355
  z212 := Tryz.sizeOf355
  v212 := Tryz.zeroValue355
  t213 := Tryz.underlying356
  a213 := Tryz.isAgg356
  z213 := Tryz.sizeOf356
  t232 := Tryz.underlying365
  a232 := Tryz.isAgg365
  z232 := Tryz.sizeOf365
  v232 := Tryz.zeroValue365
  t233 := Tryz.underlying187
  a233 := Tryz.isAgg187
  z233 := Tryz.sizeOf187
  v233 := Tryz.zeroValue187
  g17 := by kernel_rfl
  g18 := by kernel_rfl
  g19 := by kernel_rfl }
open Go.RowKit Go.Sort Go.Lib in
/-- THE ROAD WITHOUT THE TABLE: 0 <= i < 100. (LAID: no walk: one application.) -/
theorem Tryz.internal_strconv_Itoa_small (i : Nat) (hi : i < 100) (w : World) :
    Calls Tryz.prog 209 #[.int .i64 i] w fun e w' => e = .returned (.string ⟨(Lib.decDigits i).toArray⟩) ∧ w' = w := Any.internal_strconv_Itoa_small Tryz.lays243 i hi w
def Tryz.laysM171_ren : Go.Shelf.Ren := ⟨fun | 171 => 170 | 243 => 209 | 246 => 234 | 283 => 243 | 284 => 244 | 285 => 245 | 286 => 246 | 129 => 258 | 317 => 257 | 318 => 259 | 319 => 260 | 320 => 261 | 337 => 264 | 338 => 265 | n => n, fun | 3 => 3 | 9 => 9 | 2 => 2 | 4 => 4 | 171 => 345 | 0 => 0 | 53 => 227 | 37 => 94 | 5 => 5 | 173 => 348 | 212 => 355 | 51 => 122 | 20 => 20 | 213 => 356 | 46 => 344 | 232 => 365 | 233 => 187 | n => n, fun | 17 => 7 | 18 => 8 | 19 => 9 | n => n⟩
theorem Tryz.laysM171 : Go.Proofs.LaysM.n171 Tryz.prog Tryz.laysM171_ren := {
  mixed := by kernel_rfl
  f129 := Tryz.func258.trans (congrArg some (by kernel_rfl))
  f171 := Tryz.func170.trans (congrArg some (by kernel_rfl))
  f243 := Tryz.func209.trans (congrArg some (by kernel_rfl))
  f246 := Tryz.func234.trans (congrArg some (by kernel_rfl))
  f283 := Tryz.func243.trans (congrArg some (by kernel_rfl))
  f284 := Tryz.func244.trans (congrArg some (by kernel_rfl))
  f285 := Tryz.func245.trans (congrArg some (by kernel_rfl))
  f286 := Tryz.func246.trans (congrArg some (by kernel_rfl))
  f317 := Tryz.func257.trans (congrArg some (by kernel_rfl))
  f318 := Tryz.func259.trans (congrArg some (by kernel_rfl))
  f319 := Tryz.func260.trans (congrArg some (by kernel_rfl))
  f320 := Tryz.func261.trans (congrArg some (by kernel_rfl))
  f337 := Tryz.func264.trans (congrArg some (by kernel_rfl))
  f338 := Tryz.func265.trans (congrArg some (by kernel_rfl))
  t0 := Tryz.underlying0
  a0 := Tryz.isAgg0
  z0 := Tryz.sizeOf0
  v0 := Tryz.zeroValue0
  t2 := Tryz.underlying2
  a2 := Tryz.isAgg2
  z2 := Tryz.sizeOf2
  v2 := Tryz.zeroValue2
  t3 := Tryz.underlying3
  a3 := Tryz.isAgg3
  z3 := Tryz.sizeOf3
  v3 := Tryz.zeroValue3
  t4 := Tryz.underlying4
  a4 := Tryz.isAgg4
  z4 := Tryz.sizeOf4
  v4 := Tryz.zeroValue4
  t5 := Tryz.underlying5
  a5 := Tryz.isAgg5
  z5 := Tryz.sizeOf5
  v5 := Tryz.zeroValue5
  t9 := Tryz.underlying9
  a9 := Tryz.isAgg9
  z9 := Tryz.sizeOf9
  v9 := Tryz.zeroValue9
  t20 := Tryz.underlying20
  a20 := Tryz.isAgg20
  z20 := Tryz.sizeOf20
  v20 := Tryz.zeroValue20
  t37 := Tryz.underlying94
  a37 := Tryz.isAgg94
  z37 := Tryz.sizeOf94
  v37 := Tryz.zeroValue94
  t46 := Tryz.underlying344
  a46 := Tryz.isAgg344
  z46 := Tryz.sizeOf344
  v46 := Tryz.zeroValue344
  t51 := Tryz.underlying122
  a51 := Tryz.isAgg122
  z51 := Tryz.sizeOf122
  v51 := Tryz.zeroValue122
  t53 := Tryz.underlying227
  a53 := Tryz.isAgg227
  z53 := Tryz.sizeOf227
  v53 := Tryz.zeroValue227
  t171 := Tryz.underlying345
  a171 := Tryz.isAgg345
  z171 := Tryz.sizeOf345
  v171 := Tryz.zeroValue345
  t173 := Tryz.underlying348
  a173 := Tryz.isAgg348
  z173 := Tryz.sizeOf348
  v173 := Tryz.zeroValue348
  t212 := Tryz.underlying355
  a212 := Tryz.isAgg355
  z212 := Tryz.sizeOf355
  v212 := Tryz.zeroValue355
  t213 := Tryz.underlying356
  a213 := Tryz.isAgg356
  z213 := Tryz.sizeOf356
  t232 := Tryz.underlying365
  a232 := Tryz.isAgg365
  z232 := Tryz.sizeOf365
  v232 := Tryz.zeroValue365
  t233 := Tryz.underlying187
  a233 := Tryz.isAgg187
  z233 := Tryz.sizeOf187
  v233 := Tryz.zeroValue187
  g17 := by kernel_rfl
  g18 := by kernel_rfl
  g19 := by kernel_rfl
  i0 := by kernel_rfl
  i2 := by kernel_rfl
  i3 := by kernel_rfl
  i4 := by kernel_rfl
  i5 := by kernel_rfl
  i9 := by kernel_rfl
  i20 := by kernel_rfl
  i37 := by kernel_rfl
  i46 := by kernel_rfl
  i51 := by kernel_rfl
  i53 := by kernel_rfl
  i171 := by kernel_rfl
  i173 := by kernel_rfl
  i212 := by kernel_rfl
  i232 := by kernel_rfl
  i233 := by kernel_rfl
  m17 := by kernel_rfl
  m18 := by kernel_rfl
  m19 := by kernel_rfl }
open Go.RowKit Go.Sort Go.Lib in
/-- strconv.Itoa: "Itoa is equivalent to FormatInt(int64(i), 10).": i's DECIMAL NUMERAL ('Lib.itoa': a '-' where i is negative, then the digits), FOR EVERY int. The world behind the call: the world before it, new blocks behind the heap (the library's 'var a [24]byte'), draws. (LAID: no walk: one application.) -/
theorem Tryz.strconv_Itoa (n : Int) (h0 : -9223372036854775808 ≤ n) (h1 : n ≤ 9223372036854775807) (w : World) (htab : Lib.TabIs Tryz.prog w "internal/strconv.uint64pow10" .u64 Lib.pow10Tab) :
    Calls Tryz.prog 170 #[.int .i64 n] w fun e w' => e = .returned (.string ⟨(Lib.itoa n).toArray⟩) ∧ ∃ k os, w' = grow (w.drewN k) os := Any.strconv_Itoa Tryz.laysM171 n h0 h1 w htab
def Tryz.lays171_ren : Go.Shelf.Ren := ⟨fun | 171 => 170 | 243 => 209 | 246 => 234 | 283 => 243 | 284 => 244 | 285 => 245 | 286 => 246 | 129 => 258 | 317 => 257 | 318 => 259 | 319 => 260 | 320 => 261 | 337 => 264 | 338 => 265 | n => n, fun | 3 => 3 | 9 => 9 | 2 => 2 | 4 => 4 | 171 => 345 | 0 => 0 | 53 => 227 | 37 => 94 | 5 => 5 | 173 => 348 | 212 => 355 | 51 => 122 | 20 => 20 | 213 => 356 | 46 => 344 | 232 => 365 | 233 => 187 | n => n, fun | 17 => 7 | 18 => 8 | 19 => 9 | n => n⟩
theorem Tryz.lays171 : Go.Proofs.Lays.n171 Tryz.prog Tryz.lays171_ren := {
  mixed := by kernel_rfl
  f129 := Tryz.func258.trans (congrArg some (by kernel_rfl))
  f171 := Tryz.func170.trans (congrArg some (by kernel_rfl))
  f243 := Tryz.func209.trans (congrArg some (by kernel_rfl))
  f246 := Tryz.func234.trans (congrArg some (by kernel_rfl))
  f283 := Tryz.func243.trans (congrArg some (by kernel_rfl))
  f284 := Tryz.func244.trans (congrArg some (by kernel_rfl))
  f285 := Tryz.func245.trans (congrArg some (by kernel_rfl))
  f286 := Tryz.func246.trans (congrArg some (by kernel_rfl))
  f317 := Tryz.func257.trans (congrArg some (by kernel_rfl))
  f318 := Tryz.func259.trans (congrArg some (by kernel_rfl))
  f319 := Tryz.func260.trans (congrArg some (by kernel_rfl))
  f320 := Tryz.func261.trans (congrArg some (by kernel_rfl))
  f337 := Tryz.func264.trans (congrArg some (by kernel_rfl))
  f338 := Tryz.func265.trans (congrArg some (by kernel_rfl))
  t0 := Tryz.underlying0
  a0 := Tryz.isAgg0
  z0 := Tryz.sizeOf0
  v0 := Tryz.zeroValue0
  t2 := Tryz.underlying2
  a2 := Tryz.isAgg2
  z2 := Tryz.sizeOf2
  v2 := Tryz.zeroValue2
  t3 := Tryz.underlying3
  a3 := Tryz.isAgg3
  z3 := Tryz.sizeOf3
  v3 := Tryz.zeroValue3
  t4 := Tryz.underlying4
  a4 := Tryz.isAgg4
  z4 := Tryz.sizeOf4
  v4 := Tryz.zeroValue4
  t5 := Tryz.underlying5
  a5 := Tryz.isAgg5
  z5 := Tryz.sizeOf5
  v5 := Tryz.zeroValue5
  t9 := Tryz.underlying9
  a9 := Tryz.isAgg9
  z9 := Tryz.sizeOf9
  v9 := Tryz.zeroValue9
  t20 := Tryz.underlying20
  a20 := Tryz.isAgg20
  z20 := Tryz.sizeOf20
  v20 := Tryz.zeroValue20
  t37 := Tryz.underlying94
  a37 := Tryz.isAgg94
  z37 := Tryz.sizeOf94
  v37 := Tryz.zeroValue94
  t46 := Tryz.underlying344
  a46 := Tryz.isAgg344
  z46 := Tryz.sizeOf344
  v46 := Tryz.zeroValue344
  t51 := Tryz.underlying122
  a51 := Tryz.isAgg122
  z51 := Tryz.sizeOf122
  v51 := Tryz.zeroValue122
  t53 := Tryz.underlying227
  a53 := Tryz.isAgg227
  z53 := Tryz.sizeOf227
  v53 := Tryz.zeroValue227
  t171 := Tryz.underlying345
  a171 := Tryz.isAgg345
  z171 := Tryz.sizeOf345
  v171 := Tryz.zeroValue345
  t173 := Tryz.underlying348
  a173 := Tryz.isAgg348
  z173 := Tryz.sizeOf348
  v173 := Tryz.zeroValue348
  t212 := Tryz.underlying355
  a212 := Tryz.isAgg355
  z212 := Tryz.sizeOf355
  v212 := Tryz.zeroValue355
  t213 := Tryz.underlying356
  a213 := Tryz.isAgg356
  z213 := Tryz.sizeOf356
  t232 := Tryz.underlying365
  a232 := Tryz.isAgg365
  z232 := Tryz.sizeOf365
  v232 := Tryz.zeroValue365
  t233 := Tryz.underlying187
  a233 := Tryz.isAgg187
  z233 := Tryz.sizeOf187
  v233 := Tryz.zeroValue187
  g17 := by kernel_rfl
  g18 := by kernel_rfl
  g19 := by kernel_rfl }
open Go.RowKit Go.Sort Go.Lib in
/-- THE ROAD WITHOUT THE TABLE: 0 <= i < 100: NO PREMISE ON THE WORLD, AND THE WORLD IS AS IT WAS: a row that keeps its argument in that range need list no table ('laid = []'). (LAID: no walk: one application.) -/
theorem Tryz.strconv_Itoa_small (i : Nat) (hi : i < 100) (w : World) :
    Calls Tryz.prog 170 #[.int .i64 i] w fun e w' => e = .returned (.string ⟨(Lib.decDigits i).toArray⟩) ∧ w' = w := Any.strconv_Itoa_small Tryz.lays171 i hi w
def Tryz.lays217_ren : Go.Shelf.Ren := ⟨fun | 217 => 174 | 266 => 211 | n => n, fun | 9 => 9 | 5 => 5 | 3 => 3 | n => n, fun | n => n⟩
theorem Tryz.lays217 : Go.Proofs.Lays.n217 Tryz.prog Tryz.lays217_ren := {
  mixed := by kernel_rfl
  f217 := Tryz.func174.trans (congrArg some (by kernel_rfl))
  f266 := Tryz.func211.trans (congrArg some (by kernel_rfl))
  t3 := Tryz.underlying3
  a3 := Tryz.isAgg3
  z3 := Tryz.sizeOf3
  v3 := Tryz.zeroValue3
  t5 := Tryz.underlying5
  a5 := Tryz.isAgg5
  z5 := Tryz.sizeOf5
  v5 := Tryz.zeroValue5
  t9 := Tryz.underlying9
  a9 := Tryz.isAgg9
  z9 := Tryz.sizeOf9
  v9 := Tryz.zeroValue9 }
open Go.RowKit Go.Lib in
/-- internal/stringslite.IndexByte (what strings.IndexByte calls): IT RETURNS 'Lib.indexByte s c'; the world is as it was. (LAID: no walk: one application.) -/
theorem Tryz.stringslite_IndexByte (s : ByteArray) (c : Int) (w : World) :
    Calls Tryz.prog 174 #[.string s, .int .u8 c] w fun e w' => e = .returned (.int .i64 (Lib.indexByte s.data.toList c.toNat.toUInt8)) ∧ w' = w := Any.stringslite_IndexByte Tryz.lays217 s c w
def Tryz.lays115_ren : Go.Shelf.Ren := ⟨fun | 115 => 254 | n => n, fun | 37 => 94 | 4 => 4 | 9 => 9 | 5 => 5 | n => n, fun | n => n⟩
theorem Tryz.lays115 : Go.Proofs.Lays.n115 Tryz.prog Tryz.lays115_ren := {
  mixed := by kernel_rfl
  f115 := Tryz.func254.trans (congrArg some (by kernel_rfl))
  t4 := Tryz.underlying4
  a4 := Tryz.isAgg4
  z4 := Tryz.sizeOf4
  v4 := Tryz.zeroValue4
  t9 := Tryz.underlying9
  a9 := Tryz.isAgg9
  z9 := Tryz.sizeOf9
  v9 := Tryz.zeroValue9
  t37 := Tryz.underlying94
  a37 := Tryz.isAgg94
  z37 := Tryz.sizeOf94
  v37 := Tryz.zeroValue94 }
/-- bytes.Equal: "Equal reports whether a and b are the same length and contain the same bytes. A nil argument is equivalent to an empty slice.": IT RETURNS 'the bytes of the one == the bytes of the other'; the world is as it was. THE TWO ARGUMENTS COME AS WHATEVER VALUES, each with the one fact that the walk wants of it: what 'string(..)' of it gives: for a slice whose cells you know: 'run_convert_bytes_arg' (Derived/Laws/BytesArg.lean) hands that fact; for a nil one: 'run_convert_bytes_nil' (with xs := []). (LAID: no walk: one application.) -/
theorem Tryz.bytes_Equal (v1 v2 : Value) (xs ys : List Int) (w : World) (h1 : (convert 94 9 v1).run Tryz.prog w = .ok (.string (strOfNums xs)) w) (h2 : (convert 94 9 v2).run Tryz.prog w = .ok (.string (strOfNums ys)) w) :
    Calls Tryz.prog 254 #[v1, v2] w fun e w' => e = .returned (.bool (Lib.bytesOf xs == Lib.bytesOf ys)) ∧ w' = w := Any.bytes_Equal Tryz.lays115 v1 v2 xs ys w h1 h2
def Tryz.lays187_ren : Go.Shelf.Ren := ⟨fun | 187 => 156 | 255 => 198 | n => n, fun | 37 => 94 | 5 => 5 | 3 => 3 | n => n, fun | n => n⟩
theorem Tryz.lays187 : Go.Proofs.Lays.n187 Tryz.prog Tryz.lays187_ren := {
  mixed := by kernel_rfl
  f187 := Tryz.func156.trans (congrArg some (by kernel_rfl))
  f255 := Tryz.func198.trans (congrArg some (by kernel_rfl))
  t3 := Tryz.underlying3
  a3 := Tryz.isAgg3
  z3 := Tryz.sizeOf3
  v3 := Tryz.zeroValue3
  t5 := Tryz.underlying5
  a5 := Tryz.isAgg5
  z5 := Tryz.sizeOf5
  v5 := Tryz.zeroValue5
  t37 := Tryz.underlying94
  a37 := Tryz.isAgg94
  z37 := Tryz.sizeOf94
  v37 := Tryz.zeroValue94 }
/-- bytes.IndexByte: "IndexByte returns the index of the first instance of c in b, or -1 if c is not present in b.": IT RETURNS 'Lib.indexByte (the bytes of b) c'; the world is as it was. 'xs': the numbers that the slice's cells hold. (LAID: no walk: one application.) -/
theorem Tryz.bytes_IndexByte (b o n c : Nat) (xs : List Int) (cv : Int) (w : World) (hx : xs.length = n) (hc : ∀ i, i < n → w.cell? ⟨b, o + i, none⟩ = some (.int .u8 (xs.getD i 0))) :
    Calls Tryz.prog 156 #[.slice (some ⟨b, o, none⟩) n c, .int .u8 cv] w fun e w' => e = .returned (.int .i64 (Lib.indexByte (Lib.bytesOf xs) cv.toNat.toUInt8)) ∧ w' = w := Any.bytes_IndexByte Tryz.lays187 b o n c xs cv w hx hc
/-- bytes.IndexByte AT nil: -1. (LAID: no walk: one application.) -/
theorem Tryz.bytes_IndexByte_nil (cv : Int) (w : World) :
    Calls Tryz.prog 156 #[.slice none 0 0, .int .u8 cv] w fun e w' => e = .returned (.int .i64 (-1)) ∧ w' = w := Any.bytes_IndexByte_nil Tryz.lays187 cv w
end Go.Proofs
