/- Some texts of one proof, put into one file: Plain, Print2, Print3, Print4, Print5, Print6. -/
import Derived.Shelf.Strings.Builder1
import Derived.Shelf.Strings.Builder2
import Derived.Shelf.Strings.OnBuilder
import Derived.Shelf.Small.Utf8
import Derived.Shelf.Small.Strs
import Derived.Shelf.Strings.BuilderF
import Derived.Shelf.Strings.BuilderK
import Derived.Shelf.LaysM
import Derived.Shelf.Bytes.Len
import Derived.Shelf.Bytes.TryGrow
import Derived.Shelf.Bytes.GrowSliceCatch
import Derived.Shelf.Bytes.GrowSlice
import Derived.Shelf.Bytes.String
import Derived.Shelf.Bytes.Bytes
import Derived.Shelf.Strings.Search1
import Derived.Shelf.Bytes.GrowRow0Kept
import Derived.Shelf.Bytes.GrowRowKept
import Derived.Shelf.Bytes.GrowNilKept
import Derived.Shelf.Bytes.GrowKept
import Derived.Shelf.Bytes.WriteByteKept
import Derived.Shelf.Bytes.WriteStringKept
import Derived.Shelf.Bytes.ResetKept
import Derived.Shelf.Bytes.BufferK
import Derived.Shelf.Bits.Mul64
import Derived.Shelf.Unicode.DecodeSlow
import Derived.Test.YtdnlfdppjfjncaaGreatDoorProg
import Derived.Test.YtdnlfdppjfjncaaGreatDoorFn5
/-
  DERIVED: THE SHELF's CONTRACTS AT THIS DUMP, IN PLAIN WORDS (tools/lay-plain.mjs out of 'TryzShelf.lean', which tools/lay-shelf.mjs wrote): THE SAME DECLARATIONS UNDER THE SAME NAMES: 'import', 'namespace', 'open', 'def', 'theorem' AND NOTHING ELSE: no command of the shelf's: FOR A HAND-IN. Each laying: the table of numbers ('.._ren') and one theorem, a field a fact of the dump's own or the kernel's comparison; each contract: ONE APPLICATION.
-/
namespace Go.Proofs
open Go.Shelf
def Tryz.lays170_ren : Go.Shelf.Ren := ⟨fun | 170 => 48 | n => n, fun | 70 => 53 | 3 => 3 | 0 => 0 | 72 => 55 | 37 => 35 | 5 => 5 | n => n, fun | n => n⟩
theorem Tryz.lays170 : Go.Proofs.Lays.n170 Tryz.prog Tryz.lays170_ren := {
  mixed := by kernel_rfl
  f170 := Tryz.func48.trans (congrArg some (by kernel_rfl))
  t0 := Tryz.underlying0
  a0 := Tryz.isAgg0
  z0 := Tryz.sizeOf0
  v0 := Tryz.zeroValue0
  t3 := Tryz.underlying3
  a3 := Tryz.isAgg3
  z3 := Tryz.sizeOf3
  v3 := Tryz.zeroValue3
  t37 := Tryz.underlying35
  a37 := Tryz.isAgg35
  z37 := Tryz.sizeOf35
  v37 := Tryz.zeroValue35
  t70 := Tryz.underlying53
  a70 := Tryz.isAgg53
  z70 := Tryz.sizeOf53
  v70 := Tryz.zeroValue53
  t72 := Tryz.underlying55
  a72 := Tryz.isAgg55
  z72 := Tryz.sizeOf55
  v72 := Tryz.zeroValue55 }
open Go.RowKit in
/-- (*strings.Builder).Len: "Len returns the number of accumulated bytes; b.Len() == len(b.String()).": the world is as it was. (LAID: no walk: one application.) -/
theorem Tryz.Builder_Len (B b : Nat) (bs : List Value) (w : World) (h : Lib.IsBuilder 55 5 B b bs w) :
    Calls Tryz.prog 48 #[.pointer (some ⟨b, 0, none⟩)] w fun e w' => e = .returned (.int .i64 bs.length) ∧ w' = w := Any.Builder_Len Tryz.lays170 B b bs w h
def Tryz.lays169_ren : Go.Shelf.Ren := ⟨fun | 169 => 43 | n => n, fun | 70 => 53 | 9 => 9 | 0 => 0 | 72 => 55 | 37 => 35 | 127 => 79 | 3 => 3 | 5 => 5 | n => n, fun | n => n⟩
theorem Tryz.lays169 : Go.Proofs.Lays.n169 Tryz.prog Tryz.lays169_ren := {
  mixed := by kernel_rfl
  f169 := Tryz.func43.trans (congrArg some (by kernel_rfl))
  t0 := Tryz.underlying0
  a0 := Tryz.isAgg0
  z0 := Tryz.sizeOf0
  v0 := Tryz.zeroValue0
  t3 := Tryz.underlying3
  a3 := Tryz.isAgg3
  z3 := Tryz.sizeOf3
  v3 := Tryz.zeroValue3
  t9 := Tryz.underlying9
  a9 := Tryz.isAgg9
  z9 := Tryz.sizeOf9
  v9 := Tryz.zeroValue9
  t37 := Tryz.underlying35
  a37 := Tryz.isAgg35
  z37 := Tryz.sizeOf35
  v37 := Tryz.zeroValue35
  t70 := Tryz.underlying53
  a70 := Tryz.isAgg53
  z70 := Tryz.sizeOf53
  v70 := Tryz.zeroValue53
  t72 := Tryz.underlying55
  a72 := Tryz.isAgg55
  z72 := Tryz.sizeOf55
  v72 := Tryz.zeroValue55
  t127 := Tryz.underlying79
  a127 := Tryz.isAgg79
  z127 := Tryz.sizeOf79
  v127 := Tryz.zeroValue79 }
theorem Tryz.Builder_Extra_169 : Builder.Extra Tryz.prog Tryz.lays169_ren := {
  sizeBuilder := by kernel_rfl
  liesBuilder := by kernel_rfl
  t5 := Tryz.underlying5
  a5 := Tryz.isAgg5
  z5 := Tryz.sizeOf5
  v5 := Tryz.zeroValue5
  infoByte := by kernel_rfl
  cellsByte := by kernel_rfl
  sizeByte := by kernel_rfl
  neB5 := by decide }
open Go.RowKit in
/-- (*strings.Builder).String: "String returns the accumulated string.": OF A BUILDER THAT HOLDS AT LEAST ONE BYTE. ✋ THE MODEL FREEZES THOSE BYTES IN THE BUFFER (unsafe.String): a later write INTO them ends the model's run without an answer; a later append BEHIND them goes on. The statement's order of evaluation is drawn: one draw. (LAID: no walk: one application.) -/
theorem Tryz.Builder_String (B b : Nat) (l : List UInt8) (w : World) (h : Lib.IsBuilder 55 5 B b (Lib.byteCells l) w) (h0 : l ≠ []) :
    Calls Tryz.prog 43 #[.pointer (some ⟨b, 0, none⟩)] w fun e w' => e = .returned (.string ⟨l.toArray⟩) ∧ Below B w w' := Any.Builder_String Tryz.lays169 Tryz.Builder_Extra_169 B b l w h h0
open Go.RowKit in
/-- (*strings.Builder).String OF A BUILDER THAT HOLDS NO BYTE: the empty string. (Its buffer is nil, or a row of which it has taken nothing yet; where that row has NO capacity the model lays one new block for unsafe.SliceData's 'some address'.) One draw. (LAID: no walk: one application.) -/
theorem Tryz.Builder_String_empty (B b : Nat) (w : World) (h : Lib.IsBuilder 55 5 B b [] w) (hBw : B ≤ w.heap.size) :
    Calls Tryz.prog 43 #[.pointer (some ⟨b, 0, none⟩)] w fun e w' => e = .returned (.string ⟨#[]⟩) ∧ Below B w w' := Any.Builder_String_empty Tryz.lays169 Tryz.Builder_Extra_169 B b w h hBw
open Go.RowKit in
/-- (*strings.Builder).String: "String returns the accumulated string.": WHATEVER THE BUILDER HOLDS. (LAID: no walk: one application.) -/
theorem Tryz.Builder_String_any (B b : Nat) (l : List UInt8) (w : World) (h : Lib.IsBuilder 55 5 B b (Lib.byteCells l) w) (hBw : B ≤ w.heap.size) :
    Calls Tryz.prog 43 #[.pointer (some ⟨b, 0, none⟩)] w fun e w' => e = .returned (.string ⟨l.toArray⟩) ∧ Below B w w' := Any.Builder_String_any Tryz.lays169 Tryz.Builder_Extra_169 B b l w h hBw
def Tryz.lays241_ren : Go.Shelf.Ren := ⟨fun | 241 => 58 | 277 => 69 | n => n, fun | 70 => 53 | 3 => 3 | 0 => 0 | 72 => 55 | 37 => 35 | 5 => 5 | n => n, fun | n => n⟩
theorem Tryz.lays241 : Go.Proofs.Lays.n241 Tryz.prog Tryz.lays241_ren := {
  mixed := by kernel_rfl
  f241 := Tryz.func58.trans (congrArg some (by kernel_rfl))
  f277 := Tryz.func69.trans (congrArg some (by kernel_rfl))
  t0 := Tryz.underlying0
  a0 := Tryz.isAgg0
  z0 := Tryz.sizeOf0
  v0 := Tryz.zeroValue0
  t3 := Tryz.underlying3
  a3 := Tryz.isAgg3
  z3 := Tryz.sizeOf3
  v3 := Tryz.zeroValue3
  t37 := Tryz.underlying35
  a37 := Tryz.isAgg35
  z37 := Tryz.sizeOf35
  v37 := Tryz.zeroValue35
  t70 := Tryz.underlying53
  a70 := Tryz.isAgg53
  z70 := Tryz.sizeOf53
  v70 := Tryz.zeroValue53
  t72 := Tryz.underlying55
  a72 := Tryz.isAgg55
  z72 := Tryz.sizeOf55
  v72 := Tryz.zeroValue55 }
theorem Tryz.Builder_Extra_241 : Builder.Extra Tryz.prog Tryz.lays241_ren := {
  sizeBuilder := by kernel_rfl
  liesBuilder := by kernel_rfl
  t5 := Tryz.underlying5
  a5 := Tryz.isAgg5
  z5 := Tryz.sizeOf5
  v5 := Tryz.zeroValue5
  infoByte := by kernel_rfl
  cellsByte := by kernel_rfl
  sizeByte := by kernel_rfl
  neB5 := by decide }
open Go.RowKit in
/-- (*strings.Builder).grow (no doc but "grow copies the buffer to a new, larger buffer so that there are at least n bytes of capacity beyond len(b.buf)."): AT A BUILDER WITHOUT A BUFFER: a new row of whatever bytes for its buffer, none of them its own yet. Three draws. (LAID: no walk: one application.) -/
theorem Tryz.Builder_grow_fresh (B b n : Nat) (w : World) (hB : B ≤ b) (hbk : w.heap[b]? = some (.cells #[.pointer (some ⟨b, 0, none⟩), .slice none 0 0] 55 (0, 0))) (hBw : B ≤ w.heap.size) (hn : n ≤ 281474976710656) :
    Calls Tryz.prog 58 #[.pointer (some ⟨b, 0, none⟩), .int .i64 n] w fun e w' => e = .returned (.tuple #[]) ∧ (Lib.BuilderAt 55 5 B b (.pointer (some ⟨b, 0, none⟩)) [] w' ∧ Below B w w') := Any.Builder_grow_fresh Tryz.lays241 Tryz.Builder_Extra_241 B b n w hB hbk hBw hn
def Tryz.lays165_ren : Go.Shelf.Ren := ⟨fun | 165 => 46 | 240 => 54 | 241 => 58 | 276 => 68 | 277 => 69 | n => n, fun | 70 => 53 | 3 => 3 | 0 => 0 | 4 => 4 | 9 => 9 | 20 => 20 | 72 => 55 | 37 => 35 | 164 => 113 | 5 => 5 | n => n, fun | n => n⟩
theorem Tryz.lays165 : Go.Proofs.Lays.n165 Tryz.prog Tryz.lays165_ren := {
  mixed := by kernel_rfl
  f165 := Tryz.func46.trans (congrArg some (by kernel_rfl))
  f240 := Tryz.func54.trans (congrArg some (by kernel_rfl))
  f241 := Tryz.func58.trans (congrArg some (by kernel_rfl))
  f276 := Tryz.func68.trans (congrArg some (by kernel_rfl))
  f277 := Tryz.func69.trans (congrArg some (by kernel_rfl))
  t0 := Tryz.underlying0
  a0 := Tryz.isAgg0
  z0 := Tryz.sizeOf0
  v0 := Tryz.zeroValue0
  t3 := Tryz.underlying3
  a3 := Tryz.isAgg3
  z3 := Tryz.sizeOf3
  v3 := Tryz.zeroValue3
  t4 := Tryz.underlying4
  a4 := Tryz.isAgg4
  z4 := Tryz.sizeOf4
  v4 := Tryz.zeroValue4
  t9 := Tryz.underlying9
  a9 := Tryz.isAgg9
  z9 := Tryz.sizeOf9
  v9 := Tryz.zeroValue9
  t20 := Tryz.underlying20
  a20 := Tryz.isAgg20
  z20 := Tryz.sizeOf20
  v20 := Tryz.zeroValue20
  t37 := Tryz.underlying35
  a37 := Tryz.isAgg35
  z37 := Tryz.sizeOf35
  v37 := Tryz.zeroValue35
  t70 := Tryz.underlying53
  a70 := Tryz.isAgg53
  z70 := Tryz.sizeOf53
  v70 := Tryz.zeroValue53
  t72 := Tryz.underlying55
  a72 := Tryz.isAgg55
  z72 := Tryz.sizeOf55
  v72 := Tryz.zeroValue55
  t164 := Tryz.underlying113
  a164 := Tryz.isAgg113
  z164 := Tryz.sizeOf113
  v164 := Tryz.zeroValue113 }
theorem Tryz.Builder_Extra_165 : Builder.Extra Tryz.prog Tryz.lays165_ren := {
  sizeBuilder := by kernel_rfl
  liesBuilder := by kernel_rfl
  t5 := Tryz.underlying5
  a5 := Tryz.isAgg5
  z5 := Tryz.sizeOf5
  v5 := Tryz.zeroValue5
  infoByte := by kernel_rfl
  cellsByte := by kernel_rfl
  sizeByte := by kernel_rfl
  neB5 := by decide }
open Go.RowKit in
/-- (*strings.Builder).Grow AT A BUILDER THAT HAS NOT BEEN WRITTEN ('var b strings.Builder; b.Grow(n)'): "Grow grows b's capacity, if necessary, to guarantee space for another n bytes.": it holds no byte behind it as before it. (LAID: no walk: one application.) -/
theorem Tryz.Builder_Grow_fresh (B b n : Nat) (w : World) (hB : B ≤ b) (hbk : w.heap[b]? = some (.cells #[.pointer none, .slice none 0 0] 55 (0, 0))) (hBw : B ≤ w.heap.size) (hn : n ≤ 281474976710656) :
    Calls Tryz.prog 46 #[.pointer (some ⟨b, 0, none⟩), .int .i64 n] w fun e w' => e = .returned (.tuple #[]) ∧ (Lib.BuilderAt 55 5 B b (.pointer (some ⟨b, 0, none⟩)) [] w' ∧ Below B w w') := Any.Builder_Grow_fresh Tryz.lays165 Tryz.Builder_Extra_165 B b n w hB hbk hBw hn
def Tryz.lays156_ren : Go.Shelf.Ren := ⟨fun | 156 => 29 | 165 => 46 | 166 => 47 | 169 => 43 | 240 => 54 | 241 => 58 | 276 => 68 | 277 => 69 | n => n, fun | 31 => 36 | 9 => 9 | 3 => 3 | 4 => 4 | 0 => 0 | 20 => 20 | 72 => 55 | 76 => 64 | 70 => 53 | 37 => 35 | 75 => 57 | 127 => 79 | 164 => 113 | 5 => 5 | 80 => 59 | n => n, fun | n => n⟩
theorem Tryz.lays156 : Go.Proofs.Lays.n156 Tryz.prog Tryz.lays156_ren := {
  mixed := by kernel_rfl
  f156 := Tryz.func29.trans (congrArg some (by kernel_rfl))
  f165 := Tryz.func46.trans (congrArg some (by kernel_rfl))
  f166 := Tryz.func47.trans (congrArg some (by kernel_rfl))
  f169 := Tryz.func43.trans (congrArg some (by kernel_rfl))
  f240 := Tryz.func54.trans (congrArg some (by kernel_rfl))
  f241 := Tryz.func58.trans (congrArg some (by kernel_rfl))
  f276 := Tryz.func68.trans (congrArg some (by kernel_rfl))
  f277 := Tryz.func69.trans (congrArg some (by kernel_rfl))
  t0 := Tryz.underlying0
  a0 := Tryz.isAgg0
  z0 := Tryz.sizeOf0
  v0 := Tryz.zeroValue0
  t3 := Tryz.underlying3
  a3 := Tryz.isAgg3
  z3 := Tryz.sizeOf3
  v3 := Tryz.zeroValue3
  t4 := Tryz.underlying4
  a4 := Tryz.isAgg4
  z4 := Tryz.sizeOf4
  v4 := Tryz.zeroValue4
  t9 := Tryz.underlying9
  a9 := Tryz.isAgg9
  z9 := Tryz.sizeOf9
  v9 := Tryz.zeroValue9
  t20 := Tryz.underlying20
  a20 := Tryz.isAgg20
  z20 := Tryz.sizeOf20
  v20 := Tryz.zeroValue20
  t31 := Tryz.underlying36
  a31 := Tryz.isAgg36
  z31 := Tryz.sizeOf36
  v31 := Tryz.zeroValue36
  t37 := Tryz.underlying35
  a37 := Tryz.isAgg35
  z37 := Tryz.sizeOf35
  v37 := Tryz.zeroValue35
  t70 := Tryz.underlying53
  a70 := Tryz.isAgg53
  z70 := Tryz.sizeOf53
  v70 := Tryz.zeroValue53
  t72 := Tryz.underlying55
  a72 := Tryz.isAgg55
  z72 := Tryz.sizeOf55
  v72 := Tryz.zeroValue55
  t75 := Tryz.underlying57
  a75 := Tryz.isAgg57
  z75 := Tryz.sizeOf57
  v75 := Tryz.zeroValue57
  t76 := Tryz.underlying64
  a76 := Tryz.isAgg64
  z76 := Tryz.sizeOf64
  v76 := Tryz.zeroValue64
  t127 := Tryz.underlying79
  a127 := Tryz.isAgg79
  z127 := Tryz.sizeOf79
  v127 := Tryz.zeroValue79
  t164 := Tryz.underlying113
  a164 := Tryz.isAgg113
  z164 := Tryz.sizeOf113
  v164 := Tryz.zeroValue113 }
theorem Tryz.Builder_Extra_156 : Builder.Extra Tryz.prog Tryz.lays156_ren := {
  sizeBuilder := by kernel_rfl
  liesBuilder := by kernel_rfl
  t5 := Tryz.underlying5
  a5 := Tryz.isAgg5
  z5 := Tryz.sizeOf5
  v5 := Tryz.zeroValue5
  infoByte := by kernel_rfl
  cellsByte := by kernel_rfl
  sizeByte := by kernel_rfl
  neB5 := by decide }
open Go.RowKit in
/-- No element: the empty string; the world is as it was. (Whatever the slice's address and capacity: a nil slice too.) (LAID: no walk: one application.) -/
theorem Tryz.strings_Join_none (a : Option Addr) (c : Nat) (sep : ByteArray) (w : World) :
    Calls Tryz.prog 29 #[.slice a 0 c, .string sep] w fun e w' => e = .returned (.string ⟨#[]⟩) ∧ w' = w := Any.strings_Join_none Tryz.lays156 Tryz.Builder_Extra_156 a c sep w
open Go.RowKit in
/-- strings.Join: "Join concatenates the elements of its first argument to create a single string. The separator string sep is placed between elements in the resulting string.": HOWEVER MANY ELEMENTS. Below the heap's end the world is as it was. (LAID: no walk: one application.) -/
theorem Tryz.strings_Join (bk o c : Nat) (xs : List ByteArray) (sep : ByteArray) (w : World) (hcells : ∀ (j : Nat) x, xs[j]? = some x → w.cell? ⟨bk, o + j, none⟩ = some (.string x)) (hbk : bk < w.heap.size) (hN : xs.length ≤ 140737488355328) (hcap : xs.length ≤ c) (hlen : (Lib.join (xs.map (·.data.toList)) sep.data.toList).length ≤ 140737488355328) :
    Calls Tryz.prog 29 #[.slice (some ⟨bk, o, none⟩) xs.length c, .string sep] w fun e w' => e = .returned (.string ⟨(Lib.join (xs.map (·.data.toList)) sep.data.toList).toArray⟩) ∧ Below w.heap.size w w' := Any.strings_Join Tryz.lays156 Tryz.Builder_Extra_156 bk o c xs sep w hcells hbk hN hcap hlen
def Tryz.lays120_ren : Go.Shelf.Ren := ⟨fun | 120 => 168 | n => n, fun | 5 => 5 | 4 => 4 | n => n, fun | n => n⟩
theorem Tryz.lays120 : Go.Proofs.Lays.n120 Tryz.prog Tryz.lays120_ren := {
  mixed := by kernel_rfl
  f120 := Tryz.func168.trans (congrArg some (by kernel_rfl))
  t4 := Tryz.underlying4
  a4 := Tryz.isAgg4
  z4 := Tryz.sizeOf4
  v4 := Tryz.zeroValue4
  t5 := Tryz.underlying5
  a5 := Tryz.isAgg5
  z5 := Tryz.sizeOf5
  v5 := Tryz.zeroValue5 }
/-- utf8.RuneStart: "RuneStart reports whether the byte could be the first byte of an encoded, possibly invalid rune. Second and subsequent bytes always have the top two bits set to 10.": IT RETURNS 'Lib.runeStart b'; the world is as it was. ('h0', 'h1': b is a byte: a caller has it of every byte that it was handed.) (LAID: no walk: one application.) -/
theorem Tryz.utf8_RuneStart (b : Int) (w : World) (h0 : 0 ≤ b) (h1 : b < 256) :
    Calls Tryz.prog 168 #[.int .u8 b] w fun e w' => e = .returned (.bool (Lib.runeStart b)) ∧ w' = w := Any.utf8_RuneStart Tryz.lays120 b w h0 h1
def Tryz.lays137_ren : Go.Shelf.Ren := ⟨fun | 137 => 36 | 217 => 49 | 266 => 59 | n => n, fun | 9 => 9 | 5 => 5 | 3 => 3 | n => n, fun | n => n⟩
theorem Tryz.lays137 : Go.Proofs.Lays.n137 Tryz.prog Tryz.lays137_ren := {
  mixed := by kernel_rfl
  f137 := Tryz.func36.trans (congrArg some (by kernel_rfl))
  f217 := Tryz.func49.trans (congrArg some (by kernel_rfl))
  f266 := Tryz.func59.trans (congrArg some (by kernel_rfl))
  t3 := Tryz.underlying3
  a3 := Tryz.isAgg3
  z3 := Tryz.sizeOf3
  v3 := Tryz.zeroValue3
  t5 := Tryz.underlying5
  a5 := Tryz.isAgg5
  z5 := Tryz.sizeOf5
  v5 := Tryz.zeroValue5
  t9 := Tryz.underlying9
  a9 := Tryz.isAgg9
  z9 := Tryz.sizeOf9
  v9 := Tryz.zeroValue9 }
open Go.RowKit in
/-- strings.IndexByte: "IndexByte returns the index of the first instance of c in s, or -1 if c is not present in s.": IT RETURNS 'Lib.indexByte s c'; the world is as it was. (LAID: no walk: one application.) -/
theorem Tryz.strings_IndexByte (s : ByteArray) (c : Int) (w : World) :
    Calls Tryz.prog 36 #[.string s, .int .u8 c] w fun e w' => e = .returned (.int .i64 (Lib.indexByte s.data.toList c.toNat.toUInt8)) ∧ w' = w := Any.strings_IndexByte Tryz.lays137 s c w
open Go.RowKit in
/-- (*strings.Builder).Len: "Len returns the number of accumulated bytes; b.Len() == len(b.String()).": the world is as it was. (THE FORM '_f': 'Lib.IsBuilderF'.) (LAID: no walk: one application.) -/
theorem Tryz.Builder_Len_f (B b : Nat) (bs : List Value) (w : World) (h : Lib.IsBuilderF 55 5 B b bs w) :
    Calls Tryz.prog 48 #[.pointer (some ⟨b, 0, none⟩)] w fun e w' => e = .returned (.int .i64 bs.length) ∧ w' = w := Any.Builder_Len_f Tryz.lays170 B b bs w h
open Go.RowKit in
/-- (*strings.Builder).String: "String returns the accumulated string.": OF A BUILDER THAT HOLDS AT LEAST ONE BYTE. ✋ THE MODEL FREEZES THOSE BYTES IN THE BUFFER (unsafe.String): a later write INTO them ends the model's run without an answer; a later append BEHIND them goes on. The statement's order of evaluation is drawn: one draw. THE FORM '_f': IT SAYS BESIDES THAT THE BUILDER IS A BUILDER STILL ('Lib.IsBuilderF', the same bytes): SO IT CAN BE WRITTEN ON: 'b.WriteString(b.String()[:k])'. (LAID: no walk: one application.) -/
theorem Tryz.Builder_String_f (B b : Nat) (l : List UInt8) (w : World) (h : Lib.IsBuilderF 55 5 B b (Lib.byteCells l) w) (h0 : l ≠ []) :
    Calls Tryz.prog 43 #[.pointer (some ⟨b, 0, none⟩)] w fun e w' => e = .returned (.string ⟨l.toArray⟩) ∧ (Lib.IsBuilderF 55 5 B b (Lib.byteCells l) w' ∧ Below B w w') := Any.Builder_String_f Tryz.lays169 Tryz.Builder_Extra_169 B b l w h h0
open Go.RowKit in
/-- (*strings.Builder).String OF A BUILDER THAT HOLDS NO BYTE: the empty string; THE FORM '_f': a builder still. (LAID: no walk: one application.) -/
theorem Tryz.Builder_String_empty_f (B b : Nat) (w : World) (h : Lib.IsBuilderF 55 5 B b [] w) (hBw : B ≤ w.heap.size) :
    Calls Tryz.prog 43 #[.pointer (some ⟨b, 0, none⟩)] w fun e w' => e = .returned (.string ⟨#[]⟩) ∧ (Lib.IsBuilderF 55 5 B b [] w' ∧ Below B w w') := Any.Builder_String_empty_f Tryz.lays169 Tryz.Builder_Extra_169 B b w h hBw
open Go.RowKit in
/-- (*strings.Builder).String: "String returns the accumulated string.": WHATEVER THE BUILDER HOLDS; THE FORM '_f': OF A BUILDER THAT MAY HAVE BEEN READ BEFORE; AND IT IS A BUILDER STILL, holding the same bytes: it can be written on. (LAID: no walk: one application.) -/
theorem Tryz.Builder_String_any_f (B b : Nat) (l : List UInt8) (w : World) (h : Lib.IsBuilderF 55 5 B b (Lib.byteCells l) w) (hBw : B ≤ w.heap.size) :
    Calls Tryz.prog 43 #[.pointer (some ⟨b, 0, none⟩)] w fun e w' => e = .returned (.string ⟨l.toArray⟩) ∧ (Lib.IsBuilderF 55 5 B b (Lib.byteCells l) w' ∧ Below B w w') := Any.Builder_String_any_f Tryz.lays169 Tryz.Builder_Extra_169 B b l w h hBw
open Go.RowKit in
/-- (*strings.Builder).String: "String returns the accumulated string.": OF A BUILDER THAT HOLDS AT LEAST ONE BYTE. ✋ THE MODEL FREEZES THOSE BYTES IN THE BUFFER (unsafe.String): a later write INTO them ends the model's run without an answer; a later append BEHIND them goes on. The statement's order of evaluation is drawn: one draw. THE FORM '_k': OVER 'Lib.IsBuilderF' (a builder that 'String()' may have read), AND WITH THE FRAME THAT REACHES ABOVE THE BUILDER: 'Lib.OthersKept': every block that is not b and is no row of uint8's stands as it stood: the iterator of a range among them. (LAID: no walk: one application.) -/
theorem Tryz.Builder_String_k (B b : Nat) (l : List UInt8) (w : World) (h : Lib.IsBuilderF 55 5 B b (Lib.byteCells l) w) (h0 : l ≠ []) :
    Calls Tryz.prog 43 #[.pointer (some ⟨b, 0, none⟩)] w fun e w' => e = .returned (.string ⟨l.toArray⟩) ∧ (Lib.IsBuilderF 55 5 B b (Lib.byteCells l) w' ∧ Below B w w' ∧ Lib.OthersKept 5 (some b) w w') := Any.Builder_String_k Tryz.lays169 Tryz.Builder_Extra_169 B b l w h h0
open Go.RowKit in
/-- (*strings.Builder).String OF A BUILDER THAT HOLDS NO BYTE: the empty string; THE FORM '_k': OVER 'Lib.IsBuilderF' (a builder that 'String()' may have read), AND WITH THE FRAME THAT REACHES ABOVE THE BUILDER: 'Lib.OthersKept': every block that is not b and is no row of uint8's stands as it stood: the iterator of a range among them. (LAID: no walk: one application.) -/
theorem Tryz.Builder_String_empty_k (B b : Nat) (w : World) (h : Lib.IsBuilderF 55 5 B b [] w) (hBw : B ≤ w.heap.size) :
    Calls Tryz.prog 43 #[.pointer (some ⟨b, 0, none⟩)] w fun e w' => e = .returned (.string ⟨#[]⟩) ∧ (Lib.IsBuilderF 55 5 B b [] w' ∧ Below B w w' ∧ Lib.OthersKept 5 (some b) w w') := Any.Builder_String_empty_k Tryz.lays169 Tryz.Builder_Extra_169 B b w h hBw
open Go.RowKit in
/-- (*strings.Builder).String: "String returns the accumulated string.": WHATEVER THE BUILDER HOLDS; THE FORM '_k': OVER 'Lib.IsBuilderF' (a builder that 'String()' may have read), AND WITH THE FRAME THAT REACHES ABOVE THE BUILDER: 'Lib.OthersKept': every block that is not b and is no row of uint8's stands as it stood: the iterator of a range among them. (LAID: no walk: one application.) -/
theorem Tryz.Builder_String_any_k (B b : Nat) (l : List UInt8) (w : World) (h : Lib.IsBuilderF 55 5 B b (Lib.byteCells l) w) (hBw : B ≤ w.heap.size) :
    Calls Tryz.prog 43 #[.pointer (some ⟨b, 0, none⟩)] w fun e w' => e = .returned (.string ⟨l.toArray⟩) ∧ (Lib.IsBuilderF 55 5 B b (Lib.byteCells l) w' ∧ Below B w w' ∧ Lib.OthersKept 5 (some b) w w') := Any.Builder_String_any_k Tryz.lays169 Tryz.Builder_Extra_169 B b l w h hBw
def Tryz.laysM181_ren : Go.Shelf.Ren := ⟨fun | 181 => 256 | n => n, fun | 130 => 74 | 3 => 3 | 0 => 0 | 93 => 72 | 37 => 35 | 91 => 70 | 5 => 5 | n => n, fun | n => n⟩
theorem Tryz.laysM181 : Go.Proofs.LaysM.n181 Tryz.prog Tryz.laysM181_ren := {
  mixed := by kernel_rfl
  f181 := Tryz.func256.trans (congrArg some (by kernel_rfl))
  t0 := Tryz.underlying0
  a0 := Tryz.isAgg0
  z0 := Tryz.sizeOf0
  v0 := Tryz.zeroValue0
  t3 := Tryz.underlying3
  a3 := Tryz.isAgg3
  z3 := Tryz.sizeOf3
  v3 := Tryz.zeroValue3
  t37 := Tryz.underlying35
  a37 := Tryz.isAgg35
  z37 := Tryz.sizeOf35
  v37 := Tryz.zeroValue35
  t93 := Tryz.underlying72
  a93 := Tryz.isAgg72
  z93 := Tryz.sizeOf72
  v93 := Tryz.zeroValue72
  t130 := Tryz.underlying74
  a130 := Tryz.isAgg74
  z130 := Tryz.sizeOf74
  v130 := Tryz.zeroValue74
  t5 := Tryz.underlying5
  a5 := Tryz.isAgg5
  z5 := Tryz.sizeOf5
  v5 := Tryz.zeroValue5
  t91 := Tryz.underlying70
  a91 := Tryz.isAgg70
  z91 := Tryz.sizeOf70
  v91 := Tryz.zeroValue70
  i0 := by kernel_rfl
  i3 := by kernel_rfl
  i5 := by kernel_rfl
  i37 := by kernel_rfl
  i91 := by kernel_rfl
  i93 := by kernel_rfl
  i130 := by kernel_rfl }
open Go.RowKit in
/-- (*bytes.Buffer).Len: "Len returns the number of bytes of the unread portion of the buffer; b.Len() == len(b.Bytes()).": the world is as it was but for the count of draws (the statement has two reads: its order is drawn). (LAID: no walk: one application.) -/
theorem Tryz.Buffer_Len (B b : Nat) (bs : List Value) (w : World) (h : Lib.IsBuffer 72 5 B b bs w) :
    Calls Tryz.prog 256 #[.pointer (some ⟨b, 0, none⟩)] w fun e w' => e = .returned (.int .i64 bs.length) ∧ ∃ n, w' = w.drewN n := Any.Buffer_Len Tryz.laysM181 B b bs w h
def Tryz.laysM251_ren : Go.Shelf.Ren := ⟨fun | 251 => 254 | n => n, fun | 130 => 74 | 3 => 3 | 4 => 4 | 0 => 0 | 93 => 72 | 37 => 35 | 91 => 70 | 5 => 5 | n => n, fun | n => n⟩
theorem Tryz.laysM251 : Go.Proofs.LaysM.n251 Tryz.prog Tryz.laysM251_ren := {
  mixed := by kernel_rfl
  f251 := Tryz.func254.trans (congrArg some (by kernel_rfl))
  t0 := Tryz.underlying0
  a0 := Tryz.isAgg0
  z0 := Tryz.sizeOf0
  v0 := Tryz.zeroValue0
  t3 := Tryz.underlying3
  a3 := Tryz.isAgg3
  z3 := Tryz.sizeOf3
  v3 := Tryz.zeroValue3
  t4 := Tryz.underlying4
  a4 := Tryz.isAgg4
  z4 := Tryz.sizeOf4
  v4 := Tryz.zeroValue4
  t37 := Tryz.underlying35
  a37 := Tryz.isAgg35
  z37 := Tryz.sizeOf35
  v37 := Tryz.zeroValue35
  t93 := Tryz.underlying72
  a93 := Tryz.isAgg72
  z93 := Tryz.sizeOf72
  v93 := Tryz.zeroValue72
  t130 := Tryz.underlying74
  a130 := Tryz.isAgg74
  z130 := Tryz.sizeOf74
  v130 := Tryz.zeroValue74
  t5 := Tryz.underlying5
  a5 := Tryz.isAgg5
  z5 := Tryz.sizeOf5
  v5 := Tryz.zeroValue5
  t91 := Tryz.underlying70
  a91 := Tryz.isAgg70
  z91 := Tryz.sizeOf70
  v91 := Tryz.zeroValue70
  i0 := by kernel_rfl
  i3 := by kernel_rfl
  i4 := by kernel_rfl
  i5 := by kernel_rfl
  i37 := by kernel_rfl
  i91 := by kernel_rfl
  i93 := by kernel_rfl
  i130 := by kernel_rfl }
open Go.RowKit in
/-- (*bytes.Buffer).tryGrowByReslice: "tryGrowByReslice is an inlineable version of grow for the fast-case where the internal buffer only needs to be resliced. It returns the index where bytes should be written and whether it succeeded.": THERE IS ROOM: 'buf' is resliced to l + n. (LAID: no walk: one application.) -/
theorem Tryz.Buffer_tryGrow_room (b : Nat) (ao : Option Addr) (l cap n : Nat) (w : World) (c0 : w.cell? ⟨b, 0, none⟩ = some (.slice ao l cap)) (f0 : w.frozen? ⟨b, 0, none⟩ = false) (hlc : l ≤ cap) (hcap : cap ≤ maxLen) (hn : n ≤ cap - l) :
    Calls Tryz.prog 254 #[.pointer (some ⟨b, 0, none⟩), .int .i64 n] w fun e w' => e = .returned (.tuple #[.int .i64 l, .bool true]) ∧ w' = w.setCell ⟨b, 0, none⟩ (.slice ao (l + n) cap) := Any.Buffer_tryGrow_room Tryz.laysM251 b ao l cap n w c0 f0 hlc hcap hn
open Go.RowKit in
/-- .. THERE IS NONE: nothing turns. (LAID: no walk: one application.) -/
theorem Tryz.Buffer_tryGrow_none (b : Nat) (ao : Option Addr) (l cap n : Nat) (w : World) (c0 : w.cell? ⟨b, 0, none⟩ = some (.slice ao l cap)) (hlc : l ≤ cap) (hcap : cap ≤ maxLen) (hn : cap - l < n) :
    Calls Tryz.prog 254 #[.pointer (some ⟨b, 0, none⟩), .int .i64 n] w fun e w' => e = .returned (.tuple #[.int .i64 0, .bool false]) ∧ w' = w := Any.Buffer_tryGrow_none Tryz.laysM251 b ao l cap n w c0 hlc hcap hn
def Tryz.laysM324_ren : Go.Shelf.Ren := ⟨fun | 324 => 258 | n => n, fun | 20 => 20 | 4 => 4 | 75 => 57 | 0 => 0 | 80 => 59 | 9 => 9 | n => n, fun | 14 => 9 | n => n⟩
theorem Tryz.laysM324 : Go.Proofs.LaysM.n324 Tryz.prog Tryz.laysM324_ren := {
  mixed := by kernel_rfl
  f324 := Tryz.func258.trans (congrArg some (by kernel_rfl))
  t0 := Tryz.underlying0
  a0 := Tryz.isAgg0
  z0 := Tryz.sizeOf0
  v0 := Tryz.zeroValue0
  t4 := Tryz.underlying4
  a4 := Tryz.isAgg4
  z4 := Tryz.sizeOf4
  v4 := Tryz.zeroValue4
  t20 := Tryz.underlying20
  a20 := Tryz.isAgg20
  z20 := Tryz.sizeOf20
  v20 := Tryz.zeroValue20
  t75 := Tryz.underlying57
  a75 := Tryz.isAgg57
  z75 := Tryz.sizeOf57
  v75 := Tryz.zeroValue57
  g14 := by kernel_rfl
  t9 := Tryz.underlying9
  a9 := Tryz.isAgg9
  z9 := Tryz.sizeOf9
  v9 := Tryz.zeroValue9
  t80 := Tryz.underlying59
  a80 := Tryz.isAgg59
  z80 := Tryz.sizeOf59
  v80 := Tryz.zeroValue59
  i0 := by kernel_rfl
  i4 := by kernel_rfl
  i9 := by kernel_rfl
  i20 := by kernel_rfl
  i75 := by kernel_rfl
  i80 := by kernel_rfl
  m14 := by kernel_rfl }
theorem Tryz.growSlice_catch_idle (w : World) :
    CallsD Tryz.prog 258 #[] .returning w fun e u' w' => e = .returned (.tuple #[]) ∧ u' = .returning ∧ w' = w := Any.growSlice_catch_idle Tryz.laysM324 w
def Tryz.laysM290_ren : Go.Shelf.Ren := ⟨fun | 290 => 257 | 324 => 258 | n => n, fun | 37 => 35 | 3 => 3 | 0 => 0 | 4 => 4 | 20 => 20 | 75 => 57 | 5 => 5 | 80 => 59 | 9 => 9 | n => n, fun | 14 => 9 | n => n⟩
theorem Tryz.laysM290 : Go.Proofs.LaysM.n290 Tryz.prog Tryz.laysM290_ren := {
  mixed := by kernel_rfl
  f290 := Tryz.func257.trans (congrArg some (by kernel_rfl))
  f324 := Tryz.func258.trans (congrArg some (by kernel_rfl))
  t0 := Tryz.underlying0
  a0 := Tryz.isAgg0
  z0 := Tryz.sizeOf0
  v0 := Tryz.zeroValue0
  t3 := Tryz.underlying3
  a3 := Tryz.isAgg3
  z3 := Tryz.sizeOf3
  v3 := Tryz.zeroValue3
  t4 := Tryz.underlying4
  a4 := Tryz.isAgg4
  z4 := Tryz.sizeOf4
  v4 := Tryz.zeroValue4
  t20 := Tryz.underlying20
  a20 := Tryz.isAgg20
  z20 := Tryz.sizeOf20
  v20 := Tryz.zeroValue20
  t37 := Tryz.underlying35
  a37 := Tryz.isAgg35
  z37 := Tryz.sizeOf35
  v37 := Tryz.zeroValue35
  t75 := Tryz.underlying57
  a75 := Tryz.isAgg57
  z75 := Tryz.sizeOf57
  v75 := Tryz.zeroValue57
  g14 := by kernel_rfl
  t5 := Tryz.underlying5
  a5 := Tryz.isAgg5
  z5 := Tryz.sizeOf5
  v5 := Tryz.zeroValue5
  t9 := Tryz.underlying9
  a9 := Tryz.isAgg9
  z9 := Tryz.sizeOf9
  v9 := Tryz.zeroValue9
  t80 := Tryz.underlying59
  a80 := Tryz.isAgg59
  z80 := Tryz.sizeOf59
  v80 := Tryz.zeroValue59
  i0 := by kernel_rfl
  i3 := by kernel_rfl
  i4 := by kernel_rfl
  i5 := by kernel_rfl
  i9 := by kernel_rfl
  i20 := by kernel_rfl
  i37 := by kernel_rfl
  i75 := by kernel_rfl
  i80 := by kernel_rfl
  m14 := by kernel_rfl }
open Go.RowKit in
/-- bytes.growSlice: "growSlice grows b by n, preserving the original content of b.": OF A SLICE THAT LIES AT THE HEAD OF A ROW: a new row, number 'w.heap.size': it begins with b's l cells; its capacity has room for n more; whatever lay below is as it was. (LAID: no walk: one application.) -/
theorem Tryz.bytes_growSlice_row (g l c n : Nat) (cur : Array Value) (w : World) (hg : w.heap[g]? = some (.cells cur 5 (0, 0))) (hcs : cur.size = c) (hlc : l ≤ c) (hn : 1 ≤ n) (hlim : l + n ≤ 140737488355328) (hc2 : c ≤ 140737488355328) (h1 : ∀ v ∈ cur.toList.take l, v.oneCell' = true) :
    Calls Tryz.prog 257 #[.slice (some ⟨g, 0, none⟩) l c, .int .i64 n] w fun e w' => ∃ cap2 cells, e = .returned (.slice (some ⟨w.heap.size, 0, none⟩) l cap2) ∧ w'.heap[w.heap.size]? = some (.cells cells 5 (0, 0)) ∧
      cells.size = cap2 ∧ cells.toList.take l = cur.toList.take l ∧ l + n ≤ cap2 ∧ cap2 ≤ maxLen ∧ Below w.heap.size w w' := Any.bytes_growSlice_row Tryz.laysM290 g l c n cur w hg hcs hlc hn hlim hc2 h1
open Go.RowKit in
/-- .. OF THE NIL SLICE: a new row with room for n. (LAID: no walk: one application.) -/
theorem Tryz.bytes_growSlice_nil (n : Nat) (w : World) (hn : 1 ≤ n) (hlim : n ≤ 140737488355328) :
    Calls Tryz.prog 257 #[.slice none 0 0, .int .i64 n] w fun e w' => ∃ cap2 cells, e = .returned (.slice (some ⟨w.heap.size, 0, none⟩) 0 cap2) ∧ w'.heap[w.heap.size]? = some (.cells cells 5 (0, 0)) ∧
      cells.size = cap2 ∧ n ≤ cap2 ∧ cap2 ≤ maxLen ∧ Below w.heap.size w w' := Any.bytes_growSlice_nil Tryz.laysM290 n w hn hlim
def Tryz.laysM182_ren : Go.Shelf.Ren := ⟨fun | 182 => 50 | n => n, fun | 130 => 74 | 9 => 9 | 4 => 4 | 0 => 0 | 93 => 72 | 37 => 35 | 3 => 3 | 91 => 70 | 5 => 5 | n => n, fun | n => n⟩
theorem Tryz.laysM182 : Go.Proofs.LaysM.n182 Tryz.prog Tryz.laysM182_ren := {
  mixed := by kernel_rfl
  f182 := Tryz.func50.trans (congrArg some (by kernel_rfl))
  t0 := Tryz.underlying0
  a0 := Tryz.isAgg0
  z0 := Tryz.sizeOf0
  v0 := Tryz.zeroValue0
  t3 := Tryz.underlying3
  a3 := Tryz.isAgg3
  z3 := Tryz.sizeOf3
  v3 := Tryz.zeroValue3
  t4 := Tryz.underlying4
  a4 := Tryz.isAgg4
  z4 := Tryz.sizeOf4
  v4 := Tryz.zeroValue4
  t9 := Tryz.underlying9
  a9 := Tryz.isAgg9
  z9 := Tryz.sizeOf9
  v9 := Tryz.zeroValue9
  t37 := Tryz.underlying35
  a37 := Tryz.isAgg35
  z37 := Tryz.sizeOf35
  v37 := Tryz.zeroValue35
  t93 := Tryz.underlying72
  a93 := Tryz.isAgg72
  z93 := Tryz.sizeOf72
  v93 := Tryz.zeroValue72
  t130 := Tryz.underlying74
  a130 := Tryz.isAgg74
  z130 := Tryz.sizeOf74
  v130 := Tryz.zeroValue74
  t5 := Tryz.underlying5
  a5 := Tryz.isAgg5
  z5 := Tryz.sizeOf5
  v5 := Tryz.zeroValue5
  t91 := Tryz.underlying70
  a91 := Tryz.isAgg70
  z91 := Tryz.sizeOf70
  v91 := Tryz.zeroValue70
  i0 := by kernel_rfl
  i3 := by kernel_rfl
  i4 := by kernel_rfl
  i5 := by kernel_rfl
  i9 := by kernel_rfl
  i37 := by kernel_rfl
  i91 := by kernel_rfl
  i93 := by kernel_rfl
  i130 := by kernel_rfl }
open Go.RowKit in
/-- (*bytes.Buffer).String: "String returns the contents of the unread portion of the buffer as a string.": THE BYTES THAT WERE WRITTEN. The world is as it was but for the count of draws (the statement has two reads: its order is drawn). (LAID: no walk: one application.) -/
theorem Tryz.Buffer_String (B b : Nat) (l : List UInt8) (w : World) (h : Lib.IsBuffer 72 5 B b (Lib.byteCells l) w) :
    Calls Tryz.prog 50 #[.pointer (some ⟨b, 0, none⟩)] w fun e w' => e = .returned (.string ⟨l.toArray⟩) ∧ ∃ n, w' = w.drewN n := Any.Buffer_String Tryz.laysM182 B b l w h
def Tryz.laysM183_ren : Go.Shelf.Ren := ⟨fun | 183 => 279 | n => n, fun | 130 => 74 | 37 => 35 | 0 => 0 | 93 => 72 | 3 => 3 | 5 => 5 | 91 => 70 | n => n, fun | n => n⟩
theorem Tryz.laysM183 : Go.Proofs.LaysM.n183 Tryz.prog Tryz.laysM183_ren := {
  mixed := by kernel_rfl
  f183 := Tryz.func279.trans (congrArg some (by kernel_rfl))
  t0 := Tryz.underlying0
  a0 := Tryz.isAgg0
  z0 := Tryz.sizeOf0
  v0 := Tryz.zeroValue0
  t3 := Tryz.underlying3
  a3 := Tryz.isAgg3
  z3 := Tryz.sizeOf3
  v3 := Tryz.zeroValue3
  t37 := Tryz.underlying35
  a37 := Tryz.isAgg35
  z37 := Tryz.sizeOf35
  v37 := Tryz.zeroValue35
  t93 := Tryz.underlying72
  a93 := Tryz.isAgg72
  z93 := Tryz.sizeOf72
  v93 := Tryz.zeroValue72
  t130 := Tryz.underlying74
  a130 := Tryz.isAgg74
  z130 := Tryz.sizeOf74
  v130 := Tryz.zeroValue74
  t5 := Tryz.underlying5
  a5 := Tryz.isAgg5
  z5 := Tryz.sizeOf5
  v5 := Tryz.zeroValue5
  t91 := Tryz.underlying70
  a91 := Tryz.isAgg70
  z91 := Tryz.sizeOf70
  v91 := Tryz.zeroValue70
  i0 := by kernel_rfl
  i3 := by kernel_rfl
  i5 := by kernel_rfl
  i37 := by kernel_rfl
  i91 := by kernel_rfl
  i93 := by kernel_rfl
  i130 := by kernel_rfl }
open Go.RowKit in
/-- (*bytes.Buffer).Bytes: "Bytes returns a slice of length b.Len() holding the unread portion of the buffer. .. The slice aliases the buffer content at least until the next buffer modification": A SLICE THAT OWNS THE CELLS bs ('World.ownsRow': nil where nothing was ever written). The world is as it was but for the count of draws. (LAID: no walk: one application.) -/
theorem Tryz.Buffer_Bytes (B b : Nat) (bs : List Value) (w : World) (h : Lib.IsBuffer 72 5 B b bs w) :
    Calls Tryz.prog 279 #[.pointer (some ⟨b, 0, none⟩)] w fun e w' => ∃ v, e = .returned v ∧ w'.ownsRow B 5 1 v bs.length bs ∧ ∃ n, w' = w.drewN n := Any.Buffer_Bytes Tryz.laysM183 B b bs w h
def Tryz.lays217_ren : Go.Shelf.Ren := ⟨fun | 217 => 49 | 266 => 59 | n => n, fun | 9 => 9 | 5 => 5 | 3 => 3 | n => n, fun | n => n⟩
theorem Tryz.lays217 : Go.Proofs.Lays.n217 Tryz.prog Tryz.lays217_ren := {
  mixed := by kernel_rfl
  f217 := Tryz.func49.trans (congrArg some (by kernel_rfl))
  f266 := Tryz.func59.trans (congrArg some (by kernel_rfl))
  t3 := Tryz.underlying3
  a3 := Tryz.isAgg3
  z3 := Tryz.sizeOf3
  v3 := Tryz.zeroValue3
  t5 := Tryz.underlying5
  a5 := Tryz.isAgg5
  z5 := Tryz.sizeOf5
  v5 := Tryz.zeroValue5
  t9 := Tryz.underlying9
  a9 := Tryz.isAgg9
  z9 := Tryz.sizeOf9
  v9 := Tryz.zeroValue9 }
open Go.RowKit Go.Lib in
/-- internal/stringslite.IndexByte (what strings.IndexByte calls): IT RETURNS 'Lib.indexByte s c'; the world is as it was. (LAID: no walk: one application.) -/
theorem Tryz.stringslite_IndexByte (s : ByteArray) (c : Int) (w : World) :
    Calls Tryz.prog 49 #[.string s, .int .u8 c] w fun e w' => e = .returned (.int .i64 (Lib.indexByte s.data.toList c.toNat.toUInt8)) ∧ w' = w := Any.stringslite_IndexByte Tryz.lays217 s c w
def Tryz.laysM252_ren : Go.Shelf.Ren := ⟨fun | 252 => 255 | 181 => 256 | 184 => 246 | 251 => 254 | 290 => 257 | 324 => 258 | n => n, fun | 130 => 74 | 3 => 3 | 4 => 4 | 0 => 0 | 93 => 72 | 131 => 265 | 37 => 35 | 75 => 57 | 91 => 70 | 20 => 20 | 5 => 5 | 80 => 59 | 9 => 9 | n => n, fun | 14 => 9 | n => n⟩
theorem Tryz.laysM252 : Go.Proofs.LaysM.n252 Tryz.prog Tryz.laysM252_ren := {
  mixed := by kernel_rfl
  f181 := Tryz.func256.trans (congrArg some (by kernel_rfl))
  f184 := Tryz.func246.trans (congrArg some (by kernel_rfl))
  f251 := Tryz.func254.trans (congrArg some (by kernel_rfl))
  f252 := Tryz.func255.trans (congrArg some (by kernel_rfl))
  f290 := Tryz.func257.trans (congrArg some (by kernel_rfl))
  f324 := Tryz.func258.trans (congrArg some (by kernel_rfl))
  t0 := Tryz.underlying0
  a0 := Tryz.isAgg0
  z0 := Tryz.sizeOf0
  v0 := Tryz.zeroValue0
  t3 := Tryz.underlying3
  a3 := Tryz.isAgg3
  z3 := Tryz.sizeOf3
  v3 := Tryz.zeroValue3
  t4 := Tryz.underlying4
  a4 := Tryz.isAgg4
  z4 := Tryz.sizeOf4
  v4 := Tryz.zeroValue4
  t20 := Tryz.underlying20
  a20 := Tryz.isAgg20
  z20 := Tryz.sizeOf20
  v20 := Tryz.zeroValue20
  t37 := Tryz.underlying35
  a37 := Tryz.isAgg35
  z37 := Tryz.sizeOf35
  v37 := Tryz.zeroValue35
  t75 := Tryz.underlying57
  a75 := Tryz.isAgg57
  z75 := Tryz.sizeOf57
  v75 := Tryz.zeroValue57
  t91 := Tryz.underlying70
  a91 := Tryz.isAgg70
  z91 := Tryz.sizeOf70
  v91 := Tryz.zeroValue70
  t93 := Tryz.underlying72
  a93 := Tryz.isAgg72
  z93 := Tryz.sizeOf72
  v93 := Tryz.zeroValue72
  t130 := Tryz.underlying74
  a130 := Tryz.isAgg74
  z130 := Tryz.sizeOf74
  v130 := Tryz.zeroValue74
  t131 := Tryz.underlying265
  a131 := Tryz.isAgg265
  z131 := Tryz.sizeOf265
  v131 := Tryz.zeroValue265
  g14 := by kernel_rfl
  t5 := Tryz.underlying5
  a5 := Tryz.isAgg5
  z5 := Tryz.sizeOf5
  v5 := Tryz.zeroValue5
  t9 := Tryz.underlying9
  a9 := Tryz.isAgg9
  z9 := Tryz.sizeOf9
  v9 := Tryz.zeroValue9
  t80 := Tryz.underlying59
  a80 := Tryz.isAgg59
  z80 := Tryz.sizeOf59
  v80 := Tryz.zeroValue59
  i0 := by kernel_rfl
  i3 := by kernel_rfl
  i4 := by kernel_rfl
  i5 := by kernel_rfl
  i9 := by kernel_rfl
  i20 := by kernel_rfl
  i37 := by kernel_rfl
  i75 := by kernel_rfl
  i80 := by kernel_rfl
  i91 := by kernel_rfl
  i93 := by kernel_rfl
  i130 := by kernel_rfl
  i131 := by kernel_rfl
  m14 := by kernel_rfl }
open Go.RowKit in
/-- grow, WHERE THE BUFFER HOLDS A ROW, NO BYTE IN IT (behind a Reset), AND THE ROW HAS NO ROOM: growSlice. (THE TEXT OF 'Buffer_grow_row' WITH 0 FOR l, BY PROGRAM: the walk parts on 'm == 0' and writes 0 for l throughout the goal: facts that still say l then do not strike: so l is laid in ahead of the walk.) (LAID: no walk: one application.) -/
theorem Tryz.Buffer_grow_row0_kept (B b g cap n : Nat) (lr : Int) (cur : Array Value) (bs : List Value) (w : World) (hB : B ≤ b) (hBw : B ≤ w.heap.size) (hbk : w.heap[b]? = some (.cells #[.slice (some ⟨g, 0, none⟩) 0 cap, .int .i64 0, .int .i8 lr] 72 (0, 0))) (hl : bs.length = 0) (hBg : B ≤ g) (hg : w.heap[g]? = some (.cells cur 5 (0, 0))) (hlc : 0 ≤ cap) (hcm : cap ≤ maxLen) (hcs : cur.size = cap) (htake : cur.toList.take 0 = bs) (hgb : g ≠ b) (h1 : ∀ v ∈ bs, v.oneCell' = true) (hn : 1 ≤ n) (hroom : cap - 0 < n) (hlim : 0 + n ≤ 140737488355328) :
    Calls Tryz.prog 255 #[.pointer (some ⟨b, 0, none⟩), .int .i64 n] w fun e w' => e = .returned (.int .i64 0) ∧ ∃ xs, xs.length = n ∧ Lib.IsBuffer 72 5 B b (bs ++ xs) w' ∧ Below B w w' ∧ Lib.OthersKept 5 (some b) w w' := Any.Buffer_grow_row0_kept Tryz.laysM252 B b g cap n lr cur bs w hB hBw hbk hl hBg hg hlc hcm hcs htake hgb h1 hn hroom hlim
open Go.RowKit in
/-- grow, WHERE THE BUFFER HOLDS A ROW THAT HAS NO ROOM: growSlice. (LAID: no walk: one application.) -/
theorem Tryz.Buffer_grow_row_kept (B b g l cap n : Nat) (lr : Int) (cur : Array Value) (bs : List Value) (w : World) (hB : B ≤ b) (hBw : B ≤ w.heap.size) (hbk : w.heap[b]? = some (.cells #[.slice (some ⟨g, 0, none⟩) l cap, .int .i64 0, .int .i8 lr] 72 (0, 0))) (hl : bs.length = l) (hBg : B ≤ g) (hg : w.heap[g]? = some (.cells cur 5 (0, 0))) (hlc : l ≤ cap) (hcm : cap ≤ maxLen) (hcs : cur.size = cap) (htake : cur.toList.take l = bs) (hgb : g ≠ b) (h1 : ∀ v ∈ bs, v.oneCell' = true) (hn : 1 ≤ n) (hroom : cap - l < n) (hlim : l + n ≤ 140737488355328) :
    Calls Tryz.prog 255 #[.pointer (some ⟨b, 0, none⟩), .int .i64 n] w fun e w' => e = .returned (.int .i64 l) ∧ ∃ xs, xs.length = n ∧ Lib.IsBuffer 72 5 B b (bs ++ xs) w' ∧ Below B w w' ∧ Lib.OthersKept 5 (some b) w w' := Any.Buffer_grow_row_kept Tryz.laysM252 B b g l cap n lr cur bs w hB hBw hbk hl hBg hg hlc hcm hcs htake hgb h1 hn hroom hlim
open Go.RowKit in
/-- grow, 'buf' nil, n AT MOST 64: 'b.buf = make([]byte, n, smallBufferSize)'. (LAID: no walk: one application.) -/
theorem Tryz.Buffer_grow_nil_small_kept (B b n : Nat) (lr : Int) (w : World) (hB : B ≤ b) (hBw : B ≤ w.heap.size) (hbk : w.heap[b]? = some (.cells #[.slice none 0 0, .int .i64 0, .int .i8 lr] 72 (0, 0))) (hn : 1 ≤ n) (h64 : n ≤ 64) :
    Calls Tryz.prog 255 #[.pointer (some ⟨b, 0, none⟩), .int .i64 n] w fun e w' => e = .returned (.int .i64 0) ∧ ∃ xs, xs.length = n ∧ Lib.IsBuffer 72 5 B b xs w' ∧ Below B w w' ∧ Lib.OthersKept 5 (some b) w w' := Any.Buffer_grow_nil_small_kept Tryz.laysM252 B b n lr w hB hBw hbk hn h64
open Go.RowKit in
/-- grow, 'buf' nil, n ABOVE 64: growSlice of the nil slice. (LAID: no walk: one application.) -/
theorem Tryz.Buffer_grow_nil_big_kept (B b n : Nat) (lr : Int) (w : World) (hB : B ≤ b) (hBw : B ≤ w.heap.size) (hbk : w.heap[b]? = some (.cells #[.slice none 0 0, .int .i64 0, .int .i8 lr] 72 (0, 0))) (h64 : 64 < n) (hlim : n ≤ 140737488355328) :
    Calls Tryz.prog 255 #[.pointer (some ⟨b, 0, none⟩), .int .i64 n] w fun e w' => e = .returned (.int .i64 0) ∧ ∃ xs, xs.length = n ∧ Lib.IsBuffer 72 5 B b xs w' ∧ Below B w w' ∧ Lib.OthersKept 5 (some b) w w' := Any.Buffer_grow_nil_big_kept Tryz.laysM252 B b n lr w hB hBw hbk h64 hlim
open Go.RowKit in
/-- tryGrowByReslice: EITHER there is room: the place to write at is the old length, and the buffer holds the old bytes and n more of whatever lay there; OR there is none: nothing turns, and 'Lib.NoRoom' is what grow asks. (LAID: no walk: one application.) -/
theorem Tryz.Buffer_tryGrow_kept (B b n : Nat) (bs : List Value) (w : World) (h : Lib.IsBuffer 72 5 B b bs w) :
    Calls Tryz.prog 254 #[.pointer (some ⟨b, 0, none⟩), .int .i64 n] w fun e w' =>
      (e = .returned (.tuple #[.int .i64 bs.length, .bool true]) ∧ ∃ xs, xs.length = n ∧ Lib.IsBuffer 72 5 B b (bs ++ xs) w' ∧ Below B w w' ∧ Lib.OthersKept 5 (some b) w w') ∨
      (e = .returned (.tuple #[.int .i64 0, .bool false]) ∧ w' = w ∧ Lib.NoRoom b n w) := Any.Buffer_tryGrow_kept Tryz.laysM251 B b n bs w h
open Go.RowKit in
/-- (*bytes.Buffer).grow: "grow grows the buffer to guarantee space for n more bytes. It returns the index where bytes should be written.": WHERE THERE IS NO ROOM; UNDER Go's OWN LIMIT (the new length takes at most 2^47 bytes): the old length; the buffer holds the old bytes and n more of whatever. (LAID: no walk: one application.) -/
theorem Tryz.Buffer_grow_kept (B b n : Nat) (bs : List Value) (w : World) (h : Lib.IsBuffer 72 5 B b bs w) (hnr : Lib.NoRoom b n w) (hBw : B ≤ w.heap.size) (h1 : ∀ v ∈ bs, v.oneCell' = true) (hlim : bs.length + n ≤ 140737488355328) :
    Calls Tryz.prog 255 #[.pointer (some ⟨b, 0, none⟩), .int .i64 n] w fun e w' => e = .returned (.int .i64 bs.length) ∧ ∃ xs, xs.length = n ∧ Lib.IsBuffer 72 5 B b (bs ++ xs) w' ∧ Below B w w' ∧ Lib.OthersKept 5 (some b) w w' := Any.Buffer_grow_kept Tryz.laysM252 B b n bs w h hnr hBw h1 hlim
def Tryz.laysM179_ren : Go.Shelf.Ren := ⟨fun | 179 => 267 | 251 => 254 | 252 => 255 | 181 => 256 | 184 => 246 | 290 => 257 | 324 => 258 | n => n, fun | 130 => 74 | 5 => 5 | 75 => 57 | 0 => 0 | 93 => 72 | 91 => 70 | 3 => 3 | 131 => 265 | 4 => 4 | 37 => 35 | 20 => 20 | 80 => 59 | 9 => 9 | n => n, fun | 14 => 9 | n => n⟩
theorem Tryz.laysM179 : Go.Proofs.LaysM.n179 Tryz.prog Tryz.laysM179_ren := {
  mixed := by kernel_rfl
  f179 := Tryz.func267.trans (congrArg some (by kernel_rfl))
  f181 := Tryz.func256.trans (congrArg some (by kernel_rfl))
  f184 := Tryz.func246.trans (congrArg some (by kernel_rfl))
  f251 := Tryz.func254.trans (congrArg some (by kernel_rfl))
  f252 := Tryz.func255.trans (congrArg some (by kernel_rfl))
  f290 := Tryz.func257.trans (congrArg some (by kernel_rfl))
  f324 := Tryz.func258.trans (congrArg some (by kernel_rfl))
  t0 := Tryz.underlying0
  a0 := Tryz.isAgg0
  z0 := Tryz.sizeOf0
  v0 := Tryz.zeroValue0
  t3 := Tryz.underlying3
  a3 := Tryz.isAgg3
  z3 := Tryz.sizeOf3
  v3 := Tryz.zeroValue3
  t4 := Tryz.underlying4
  a4 := Tryz.isAgg4
  z4 := Tryz.sizeOf4
  v4 := Tryz.zeroValue4
  t5 := Tryz.underlying5
  a5 := Tryz.isAgg5
  z5 := Tryz.sizeOf5
  v5 := Tryz.zeroValue5
  t20 := Tryz.underlying20
  a20 := Tryz.isAgg20
  z20 := Tryz.sizeOf20
  v20 := Tryz.zeroValue20
  t37 := Tryz.underlying35
  a37 := Tryz.isAgg35
  z37 := Tryz.sizeOf35
  v37 := Tryz.zeroValue35
  t75 := Tryz.underlying57
  a75 := Tryz.isAgg57
  z75 := Tryz.sizeOf57
  v75 := Tryz.zeroValue57
  t91 := Tryz.underlying70
  a91 := Tryz.isAgg70
  z91 := Tryz.sizeOf70
  v91 := Tryz.zeroValue70
  t93 := Tryz.underlying72
  a93 := Tryz.isAgg72
  z93 := Tryz.sizeOf72
  v93 := Tryz.zeroValue72
  t130 := Tryz.underlying74
  a130 := Tryz.isAgg74
  z130 := Tryz.sizeOf74
  v130 := Tryz.zeroValue74
  t131 := Tryz.underlying265
  a131 := Tryz.isAgg265
  z131 := Tryz.sizeOf265
  v131 := Tryz.zeroValue265
  g14 := by kernel_rfl
  t9 := Tryz.underlying9
  a9 := Tryz.isAgg9
  z9 := Tryz.sizeOf9
  v9 := Tryz.zeroValue9
  t80 := Tryz.underlying59
  a80 := Tryz.isAgg59
  z80 := Tryz.sizeOf59
  v80 := Tryz.zeroValue59
  i0 := by kernel_rfl
  i3 := by kernel_rfl
  i4 := by kernel_rfl
  i5 := by kernel_rfl
  i9 := by kernel_rfl
  i20 := by kernel_rfl
  i37 := by kernel_rfl
  i75 := by kernel_rfl
  i80 := by kernel_rfl
  i91 := by kernel_rfl
  i93 := by kernel_rfl
  i130 := by kernel_rfl
  i131 := by kernel_rfl
  m14 := by kernel_rfl }
open Go.RowKit in
/-- (*bytes.Buffer).WriteByte: "WriteByte appends the byte c to the buffer, growing the buffer as needed. The returned error is always nil". (LAID: no walk: one application.) -/
theorem Tryz.Buffer_WriteByte_kept (B b : Nat) (bs : List Value) (c : Int) (w : World) (h : Lib.IsBuffer 72 5 B b bs w) (hBw : B ≤ w.heap.size) (h1 : ∀ v ∈ bs, v.oneCell' = true) (hlim : bs.length + 1 ≤ 140737488355328) :
    Calls Tryz.prog 267 #[.pointer (some ⟨b, 0, none⟩), .int .u8 c] w fun e w' => e = .returned .nilIface ∧ Lib.IsBuffer 72 5 B b (bs ++ [.int .u8 c]) w' ∧ Below B w w' ∧ Lib.OthersKept 5 (some b) w w' := Any.Buffer_WriteByte_kept Tryz.laysM179 B b bs c w h hBw h1 hlim
def Tryz.laysM178_ren : Go.Shelf.Ren := ⟨fun | 178 => 253 | 251 => 254 | 252 => 255 | 181 => 256 | 184 => 246 | 290 => 257 | 324 => 258 | n => n, fun | 130 => 74 | 9 => 9 | 3 => 3 | 75 => 57 | 0 => 0 | 93 => 72 | 91 => 70 | 131 => 265 | 4 => 4 | 37 => 35 | 20 => 20 | 80 => 59 | 5 => 5 | n => n, fun | 14 => 9 | n => n⟩
theorem Tryz.laysM178 : Go.Proofs.LaysM.n178 Tryz.prog Tryz.laysM178_ren := {
  mixed := by kernel_rfl
  f178 := Tryz.func253.trans (congrArg some (by kernel_rfl))
  f181 := Tryz.func256.trans (congrArg some (by kernel_rfl))
  f184 := Tryz.func246.trans (congrArg some (by kernel_rfl))
  f251 := Tryz.func254.trans (congrArg some (by kernel_rfl))
  f252 := Tryz.func255.trans (congrArg some (by kernel_rfl))
  f290 := Tryz.func257.trans (congrArg some (by kernel_rfl))
  f324 := Tryz.func258.trans (congrArg some (by kernel_rfl))
  t0 := Tryz.underlying0
  a0 := Tryz.isAgg0
  z0 := Tryz.sizeOf0
  v0 := Tryz.zeroValue0
  t3 := Tryz.underlying3
  a3 := Tryz.isAgg3
  z3 := Tryz.sizeOf3
  v3 := Tryz.zeroValue3
  t4 := Tryz.underlying4
  a4 := Tryz.isAgg4
  z4 := Tryz.sizeOf4
  v4 := Tryz.zeroValue4
  t9 := Tryz.underlying9
  a9 := Tryz.isAgg9
  z9 := Tryz.sizeOf9
  v9 := Tryz.zeroValue9
  t20 := Tryz.underlying20
  a20 := Tryz.isAgg20
  z20 := Tryz.sizeOf20
  v20 := Tryz.zeroValue20
  t37 := Tryz.underlying35
  a37 := Tryz.isAgg35
  z37 := Tryz.sizeOf35
  v37 := Tryz.zeroValue35
  t75 := Tryz.underlying57
  a75 := Tryz.isAgg57
  z75 := Tryz.sizeOf57
  v75 := Tryz.zeroValue57
  t91 := Tryz.underlying70
  a91 := Tryz.isAgg70
  z91 := Tryz.sizeOf70
  v91 := Tryz.zeroValue70
  t93 := Tryz.underlying72
  a93 := Tryz.isAgg72
  z93 := Tryz.sizeOf72
  v93 := Tryz.zeroValue72
  t130 := Tryz.underlying74
  a130 := Tryz.isAgg74
  z130 := Tryz.sizeOf74
  v130 := Tryz.zeroValue74
  t131 := Tryz.underlying265
  a131 := Tryz.isAgg265
  z131 := Tryz.sizeOf265
  v131 := Tryz.zeroValue265
  g14 := by kernel_rfl
  t5 := Tryz.underlying5
  a5 := Tryz.isAgg5
  z5 := Tryz.sizeOf5
  v5 := Tryz.zeroValue5
  t80 := Tryz.underlying59
  a80 := Tryz.isAgg59
  z80 := Tryz.sizeOf59
  v80 := Tryz.zeroValue59
  i0 := by kernel_rfl
  i3 := by kernel_rfl
  i4 := by kernel_rfl
  i5 := by kernel_rfl
  i9 := by kernel_rfl
  i20 := by kernel_rfl
  i37 := by kernel_rfl
  i75 := by kernel_rfl
  i80 := by kernel_rfl
  i91 := by kernel_rfl
  i93 := by kernel_rfl
  i130 := by kernel_rfl
  i131 := by kernel_rfl
  m14 := by kernel_rfl }
open Go.RowKit in
/-- (*bytes.Buffer).WriteString: "WriteString appends the contents of s to the buffer, growing the buffer as needed. The return value n is the length of s; err is always nil." (LAID: no walk: one application.) -/
theorem Tryz.Buffer_WriteString_kept (B b : Nat) (bs : List Value) (s : ByteArray) (w : World) (h : Lib.IsBuffer 72 5 B b bs w) (hBw : B ≤ w.heap.size) (h1 : ∀ v ∈ bs, v.oneCell' = true) (hlim : bs.length + s.size ≤ 140737488355328) :
    Calls Tryz.prog 253 #[.pointer (some ⟨b, 0, none⟩), .string s] w fun e w' => e = .returned (.tuple #[.int .i64 s.size, .nilIface]) ∧ Lib.IsBuffer 72 5 B b (bs ++ Lib.byteCells s.data.toList) w' ∧ Below B w w' ∧ Lib.OthersKept 5 (some b) w w' := Any.Buffer_WriteString_kept Tryz.laysM178 B b bs s w h hBw h1 hlim
def Tryz.laysM184_ren : Go.Shelf.Ren := ⟨fun | 184 => 246 | n => n, fun | 130 => 74 | 0 => 0 | 93 => 72 | 37 => 35 | 3 => 3 | 91 => 70 | 5 => 5 | n => n, fun | n => n⟩
theorem Tryz.laysM184 : Go.Proofs.LaysM.n184 Tryz.prog Tryz.laysM184_ren := {
  mixed := by kernel_rfl
  f184 := Tryz.func246.trans (congrArg some (by kernel_rfl))
  t0 := Tryz.underlying0
  a0 := Tryz.isAgg0
  z0 := Tryz.sizeOf0
  v0 := Tryz.zeroValue0
  t3 := Tryz.underlying3
  a3 := Tryz.isAgg3
  z3 := Tryz.sizeOf3
  v3 := Tryz.zeroValue3
  t37 := Tryz.underlying35
  a37 := Tryz.isAgg35
  z37 := Tryz.sizeOf35
  v37 := Tryz.zeroValue35
  t91 := Tryz.underlying70
  a91 := Tryz.isAgg70
  z91 := Tryz.sizeOf70
  v91 := Tryz.zeroValue70
  t93 := Tryz.underlying72
  a93 := Tryz.isAgg72
  z93 := Tryz.sizeOf72
  v93 := Tryz.zeroValue72
  t130 := Tryz.underlying74
  a130 := Tryz.isAgg74
  z130 := Tryz.sizeOf74
  v130 := Tryz.zeroValue74
  t5 := Tryz.underlying5
  a5 := Tryz.isAgg5
  z5 := Tryz.sizeOf5
  v5 := Tryz.zeroValue5
  i0 := by kernel_rfl
  i3 := by kernel_rfl
  i5 := by kernel_rfl
  i37 := by kernel_rfl
  i91 := by kernel_rfl
  i93 := by kernel_rfl
  i130 := by kernel_rfl }
open Go.RowKit in
/-- (*bytes.Buffer).Reset: "Reset resets the buffer to be empty, but it retains the underlying storage for use by future writes." (LAID: no walk: one application.) -/
theorem Tryz.Buffer_Reset_kept (B b : Nat) (bs : List Value) (w : World) (h : Lib.IsBuffer 72 5 B b bs w) :
    Calls Tryz.prog 246 #[.pointer (some ⟨b, 0, none⟩)] w fun e w' => e = .returned (.tuple #[]) ∧ Lib.IsBuffer 72 5 B b [] w' ∧ Below B w w' ∧ Lib.OthersKept 5 (some b) w w' := Any.Buffer_Reset_kept Tryz.laysM184 B b bs w h
open Go.RowKit in
theorem Tryz.Buffer_WriteByte_k (B b : Nat) (bs : List Value) (c : Int) (w : World) (h : Lib.IsBuffer 72 5 B b bs w) (hBw : B ≤ w.heap.size) (h1 : ∀ v ∈ bs, v.oneCell' = true) (hlim : bs.length + 1 ≤ 140737488355328) :
    Calls Tryz.prog 267 #[.pointer (some ⟨b, 0, none⟩), .int .u8 c] w fun e w' => e = .returned .nilIface ∧ Lib.IsBuffer 72 5 B b (bs ++ [.int .u8 c]) w' ∧ Below B w w' ∧ Lib.OthersKept 5 (some b) w w' := Any.Buffer_WriteByte_k Tryz.laysM179 B b bs c w h hBw h1 hlim
open Go.RowKit in
theorem Tryz.Buffer_WriteString_k (B b : Nat) (bs : List Value) (s : ByteArray) (w : World) (h : Lib.IsBuffer 72 5 B b bs w) (hBw : B ≤ w.heap.size) (h1 : ∀ v ∈ bs, v.oneCell' = true) (hlim : bs.length + s.size ≤ 140737488355328) :
    Calls Tryz.prog 253 #[.pointer (some ⟨b, 0, none⟩), .string s] w fun e w' => e = .returned (.tuple #[.int .i64 s.size, .nilIface]) ∧ Lib.IsBuffer 72 5 B b (bs ++ Lib.byteCells s.data.toList) w' ∧ Below B w w' ∧ Lib.OthersKept 5 (some b) w w' := Any.Buffer_WriteString_k Tryz.laysM178 B b bs s w h hBw h1 hlim
open Go.RowKit in
theorem Tryz.Buffer_Reset_k (B b : Nat) (bs : List Value) (w : World) (h : Lib.IsBuffer 72 5 B b bs w) :
    Calls Tryz.prog 246 #[.pointer (some ⟨b, 0, none⟩)] w fun e w' => e = .returned (.tuple #[]) ∧ Lib.IsBuffer 72 5 B b [] w' ∧ Below B w w' ∧ Lib.OthersKept 5 (some b) w w' := Any.Buffer_Reset_k Tryz.laysM184 B b bs w h
def Tryz.lays264_ren : Go.Shelf.Ren := ⟨fun | 264 => 56 | n => n, fun | 53 => 83 | 46 => 60 | n => n, fun | n => n⟩
theorem Tryz.lays264 : Go.Proofs.Lays.n264 Tryz.prog Tryz.lays264_ren := {
  mixed := by kernel_rfl
  f264 := Tryz.func56.trans (congrArg some (by kernel_rfl))
  t46 := Tryz.underlying60
  a46 := Tryz.isAgg60
  z46 := Tryz.sizeOf60
  v46 := Tryz.zeroValue60
  t53 := Tryz.underlying83
  a53 := Tryz.isAgg83
  z53 := Tryz.sizeOf83
  v53 := Tryz.zeroValue83 }
open Go.RowKit Go.Lib in
theorem Tryz.bits_Mul64 (x y : Nat) (hx : x < 18446744073709551616) (hy : y < 18446744073709551616) (w : World) :
    Calls Tryz.prog 56 #[.int .u64 x, .int .u64 y] w fun e w' => e = .returned (.tuple #[.int .u64 ((x * y / 18446744073709551616 : Nat) : Int), .int .u64 ((x * y % 18446744073709551616 : Nat) : Int)]) ∧ w' = w := Any.bits_Mul64 Tryz.lays264 x y hx hy w
def Tryz.lays212_ren : Go.Shelf.Ren := ⟨fun | 212 => 44 | 263 => 55 | 264 => 56 | n => n, fun | 46 => 60 | 51 => 80 | 146 => 81 | 53 => 83 | 148 => 84 | n => n, fun | n => n⟩
theorem Tryz.lays212 : Go.Proofs.Lays.n212 Tryz.prog Tryz.lays212_ren := {
  mixed := by kernel_rfl
  f212 := Tryz.func44.trans (congrArg some (by kernel_rfl))
  f263 := Tryz.func55.trans (congrArg some (by kernel_rfl))
  f264 := Tryz.func56.trans (congrArg some (by kernel_rfl))
  t46 := Tryz.underlying60
  a46 := Tryz.isAgg60
  z46 := Tryz.sizeOf60
  v46 := Tryz.zeroValue60
  t51 := Tryz.underlying80
  a51 := Tryz.isAgg80
  z51 := Tryz.sizeOf80
  v51 := Tryz.zeroValue80
  t53 := Tryz.underlying83
  a53 := Tryz.isAgg83
  z53 := Tryz.sizeOf83
  v53 := Tryz.zeroValue83
  t146 := Tryz.underlying81
  a146 := Tryz.isAgg81
  z146 := Tryz.sizeOf81
  v146 := Tryz.zeroValue81
  t148 := Tryz.underlying84
  a148 := Tryz.isAgg84
  z148 := Tryz.sizeOf84
  v148 := Tryz.zeroValue84 }
open Go.RowKit Go.Lib in
/-- math/bits.Mul: "Mul returns the full-width product of x and y": on a machine of 64 bits: Mul64's. (LAID: no walk: one application.) -/
theorem Tryz.bits_Mul (x y : Nat) (hx : x < 18446744073709551616) (hy : y < 18446744073709551616) (w : World) :
    Calls Tryz.prog 44 #[.int .u64 x, .int .u64 y] w fun e w' => e = .returned (.tuple #[.int .u64 ((x * y / 18446744073709551616 : Nat) : Int), .int .u64 ((x * y % 18446744073709551616 : Nat) : Int)]) ∧ w' = w := Any.bits_Mul Tryz.lays212 x y hx hy w
def Tryz.lays260_ren : Go.Shelf.Ren := ⟨fun | 260 => 169 | n => n, fun | 9 => 9 | 21 => 21 | 3 => 3 | 4 => 4 | 5 => 5 | 119 => 288 | 0 => 0 | 46 => 60 | 139 => 291 | 138 => 290 | n => n, fun | 3 => 2 | 4 => 3 | n => n⟩
theorem Tryz.lays260 : Go.Proofs.Lays.n260 Tryz.prog Tryz.lays260_ren := {
  mixed := by kernel_rfl
  f260 := Tryz.func169.trans (congrArg some (by kernel_rfl))
  t0 := Tryz.underlying0
  a0 := Tryz.isAgg0
  z0 := Tryz.sizeOf0
  v0 := Tryz.zeroValue0
  t3 := Tryz.underlying3
  a3 := Tryz.isAgg3
  z3 := Tryz.sizeOf3
  v3 := Tryz.zeroValue3
  t4 := Tryz.underlying4
  a4 := Tryz.isAgg4
  z4 := Tryz.sizeOf4
  v4 := Tryz.zeroValue4
  t5 := Tryz.underlying5
  a5 := Tryz.isAgg5
  z5 := Tryz.sizeOf5
  v5 := Tryz.zeroValue5
  t9 := Tryz.underlying9
  a9 := Tryz.isAgg9
  z9 := Tryz.sizeOf9
  v9 := Tryz.zeroValue9
  t21 := Tryz.underlying21
  a21 := Tryz.isAgg21
  z21 := Tryz.sizeOf21
  v21 := Tryz.zeroValue21
  t46 := Tryz.underlying60
  a46 := Tryz.isAgg60
  z46 := Tryz.sizeOf60
  v46 := Tryz.zeroValue60
  t119 := Tryz.underlying288
  a119 := Tryz.isAgg288
  z119 := Tryz.sizeOf288
  t138 := Tryz.underlying290
  a138 := Tryz.isAgg290
  z138 := Tryz.sizeOf290
  v138 := Tryz.zeroValue290
  t139 := Tryz.underlying291
  a139 := Tryz.isAgg291
  z139 := Tryz.sizeOf291
  v139 := Tryz.zeroValue291
  g3 := by kernel_rfl
  g4 := by kernel_rfl }
open Go.RowKit Go.Lib in
theorem Tryz.utf8_decodeRuneInStringSlow (s : ByteArray) (w : World) (hT : Lib.Utf8Tabs 2 3 w) :
    Calls Tryz.prog 169 #[.string s] w fun e w' => e = .returned (.tuple #[.int .i32 (Lib.decodeGo s).1, .int .i64 (Lib.decodeGo s).2]) ∧ Below w.heap.size w w' := Any.utf8_decodeRuneInStringSlow Tryz.lays260 s w hT
end Go.Proofs

/- zzPairs.WriteString of the HTML escaper's table. -/
namespace Go.Proofs.YtdnlfdppjfjncaaGreatDoor
open Go Go.RowKit Go.Proofs

def escN (s : ByteArray) (i : Nat) : List UInt8 := (s.data.toList.take i).flatMap escB

theorem blk_others {w w' : World} {k b T : Nat} {cs : Array Value} (h : Blk w k cs T) (ho : Lib.OthersKept 5 (some b) w w') (hk : k ≠ b) (hT : T ≠ 5) : Blk w' k cs T :=
  ho k _ h (fun e => hk (Option.some.inj e)) (fun c fz e => by cases e; exact hT rfl)

/-- The buffer, and what a writer leaves. -/
structure Wrote (w w' : World) (B b : Nat) (l : List UInt8) : Prop where
  buf : Lib.IsBuffer 72 5 B b (Lib.byteCells l) w'
  below : Below B w w'
  others : Lib.OthersKept 5 (some b) w w'

theorem Wrote.trans {a c d : World} {B b : Nat} {l m : List UInt8} (h : Wrote a c B b l) (k : Wrote c d B b m) : Wrote a d B b m := ⟨k.buf, h.below.trans k.below, h.others.trans k.others⟩

theorem write_string (B b : Nat) (l : List UInt8) (s : ByteArray) (w : World) (h : Lib.IsBuffer 72 5 B b (Lib.byteCells l) w) (hB : B ≤ w.heap.size) (hl : l.length ≤ 100000000) (hs : s.size ≤ 100000000) :
    Calls Tryz.prog 253 #[.pointer (some ⟨b, 0, none⟩), .string s] w fun e w' => e = .returned (.tuple #[.int .i64 s.size, .nilIface]) ∧ Wrote w w' B b (l ++ s.data.toList) := by
  have hlen : (Lib.byteCells l).length = l.length := by simp [Lib.byteCells]
  refine (Tryz.Buffer_WriteString_k B b _ s w h hB (Lib.byteCells_one _) (by omega)).mono ?_
  rintro e w' ⟨h1, h2, h3, h4⟩
  exact ⟨h1, by rw [Lib.byteCells_append]; exact h2, h3, h4⟩

theorem write_byte (B b : Nat) (l : List UInt8) (c : UInt8) (w : World) (h : Lib.IsBuffer 72 5 B b (Lib.byteCells l) w) (hB : B ≤ w.heap.size) (hl : l.length ≤ 100000000) :
    Calls Tryz.prog 267 #[.pointer (some ⟨b, 0, none⟩), .int .u8 c.toNat] w fun e w' => e = .returned .nilIface ∧ Wrote w w' B b (l ++ [c]) := by
  have hlen : (Lib.byteCells l).length = l.length := by simp [Lib.byteCells]
  refine (Tryz.Buffer_WriteByte_k B b _ _ w h hB (Lib.byteCells_one _) (by omega)).mono ?_
  rintro e w' ⟨h1, h2, h3, h4⟩
  exact ⟨h1, by simpa [Lib.byteCells] using h2, h3, h4⟩

theorem Wrote.drewN {w w1 : World} {B b : Nat} {l : List UInt8} (h : Wrote w w1 B b l) (n : Nat) : Wrote w (w1.drewN n) B b l :=
  ⟨h.buf, ⟨h.below.os, h.below.tape, h.below.output, h.below.size, h.below.block⟩, h.others⟩

theorem escN_succ (s : ByteArray) (i : Nat) (h : i < s.size) : escN s (i + 1) = escN s i ++ escB s[i] := by
  unfold escN
  have h' : i < s.data.toList.length := by simpa using h
  rw [List.take_succ_eq_append_getElem h', List.flatMap_append]
  simp
  rfl

theorem escN_len (s : ByteArray) : ∀ i, i ≤ s.size → (escN s i).length ≤ 6 * i
  | 0, _ => by simp [escN]
  | i + 1, h => by
    have h1 := escN_len s i (by omega)
    rw [escN_succ s i (by omega), List.length_append]
    have : (escB (s[i]'(by omega))).length ≤ 6 := by
      unfold escB
      repeat' split
      all_goals simp
    omega

theorem escN_bound {l : List UInt8} {s : ByteArray} {i : Nat} (hl : l.length ≤ 10000000) (hi : i ≤ s.size) (hs : s.size ≤ 1000000) : (l ++ escN s i).length ≤ 100000000 := by
  have := escN_len s i hi
  rw [List.length_append]
  omega

theorem ne_byte {c : UInt8} {k : Nat} (h : c ≠ UInt8.ofNat k) : ((c.toNat : Int) == ((UInt8.ofNat k).toNat : Int)) = false :=
  beq_eq_false_iff_ne.2 (fun he => h (UInt8.toNat_inj.1 (by omega)))

set_option maxRecDepth 100000 in
set_option maxHeartbeats 8000000 in
theorem esc_write (B b K : Nat) (l : List UInt8) (s : ByteArray) (w : World) (h : Lib.IsBuffer 72 5 B b (Lib.byteCells l) w) (hB : B ≤ w.heap.size) (hl : l.length ≤ 10000000) (hs : s.size ≤ 1000000) (hK : Blk w K escCells 9) (hKb : K ≠ b) :
    Calls Tryz.prog 266 #[.slice (some ⟨K, 0, none⟩) 8 8, .pointer (some ⟨b, 0, none⟩), .string s] w fun e w' => e = .returned (.tuple #[]) ∧ Wrote w w' B b (l ++ escN s s.size) := by
  go_enter Tryz.func266, Tryz.ntmps266
  go_wp2_with fail
  go_step3
  go_wp2_with fail
  go_step3
  go_wp2_with fail
  go_loopg [6] s.size (fun m v6 wr => ∃ i : Nat, v6 = .int .i64 i ∧ m = s.size - i ∧ i ≤ s.size ∧ Wrote w wr B b (l ++ escN s i))
  case atStart => exact ⟨0, rfl, rfl, Nat.zero_le _, by simpa [escN] using h, Below.refl _ _, Lib.OthersKept.refl _ _ _⟩
  case round =>
    obtain ⟨i, rfl, rfl, hi, hW⟩ := hrel
    have hK1 := blk_others hK hW.others hKb (by decide)
    have HW := Lib.hid hW
    clear hW
    by_cases hlt : i < s.size
    · have w1 : (i : Int) < s.size := by omega
      have w2 : (0 : Int) ≤ i := by omega
      have w3 : IntKind.i64.wrap ((i : Int) + 1) = (i : Int) + 1 := IntWalk.i64_in _ (by omega)
      go_wp2_with fail
      go_loopg [7] 4 (fun m v7 wx => (Wrote w wx B b (l ++ escN s i) ∧ Blk wx K escCells 9) ∧ ((m = 4 ∧ v7 = .int .i64 0) ∨ (m = 3 ∧ v7 = .int .i64 2 ∧ s[i] ≠ 34) ∨ (m = 2 ∧ v7 = .int .i64 4 ∧ s[i] ≠ 34 ∧ s[i] ≠ 38) ∨ (m = 1 ∧ v7 = .int .i64 6 ∧ s[i] ≠ 34 ∧ s[i] ≠ 38 ∧ s[i] ≠ 60) ∨ (m = 0 ∧ v7 = .int .i64 8 ∧ s[i] ≠ 34 ∧ s[i] ≠ 38 ∧ s[i] ≠ 60 ∧ s[i] ≠ 62)))
      case atStart => exact ⟨⟨HW.out, hK1⟩, Or.inl ⟨rfl, rfl⟩⟩
      case round =>
        clear HW hK1
        obtain ⟨⟨hW2, hK2⟩, hr⟩ := hrel
        have HW := Lib.hid hW2
        clear hW2
        have k0 : wr.cell? ⟨K, 0, none⟩ = some (.string ⟨#[34]⟩) := hK2.cell 0
        have k1 : wr.cell? ⟨K, 1, none⟩ = some (.string ⟨#[38, 113, 117, 111, 116, 59]⟩) := hK2.cell 1
        have k2 : wr.cell? ⟨K, 2, none⟩ = some (.string ⟨#[38]⟩) := hK2.cell 2
        have k3 : wr.cell? ⟨K, 3, none⟩ = some (.string ⟨#[38, 97, 109, 112, 59]⟩) := hK2.cell 3
        have k4 : wr.cell? ⟨K, 4, none⟩ = some (.string ⟨#[60]⟩) := hK2.cell 4
        have k5 : wr.cell? ⟨K, 5, none⟩ = some (.string ⟨#[38, 108, 116, 59]⟩) := hK2.cell 5
        have k6 : wr.cell? ⟨K, 6, none⟩ = some (.string ⟨#[62]⟩) := hK2.cell 6
        have k7 : wr.cell? ⟨K, 7, none⟩ = some (.string ⟨#[38, 103, 116, 59]⟩) := hK2.cell 7
        rcases hr with ⟨rfl, rfl⟩ | ⟨rfl, rfl, n1⟩ | ⟨rfl, rfl, n1, n2⟩ | ⟨rfl, rfl, n1, n2, n3⟩ | ⟨rfl, rfl, n1, n2, n3, n4⟩
        · have z : (((⟨#[34]⟩ : ByteArray)[0]'(by decide)).toNat : Int) = 34 := rfl
          by_cases hc : s[i] = 34
          · have hcb : ((s[i].toNat : Int) == 34) = true := by rw [hc]; rfl
            have hesc : escN s (i + 1) = escN s i ++ (#[38, 113, 117, 111, 116, 59] : Array UInt8).toList := by rw [escN_succ s i hlt, hc]; rfl
            have Hc := Lib.hid hesc
            clear hc hesc
            go_wp2_with fail
            go_quiet (fail)
            go_wp2_with fail
            refine (write_string B b _ ⟨#[38, 113, 117, 111, 116, 59]⟩ _ (HW.out.drewN nq).buf (Nat.le_trans hB (HW.out.drewN nq).below.size) (escN_bound hl hi hs) (by decide)).mono ?_
            rintro e w5 ⟨rfl, hW5⟩
            go_wp2_with fail
            go_roundg (s.size - (i + 1))
            case measure => omega
            case rel => exact ⟨i + 1, by simp, rfl, by omega, by rw [Hc.out, ← List.append_assoc]; exact (HW.out.drewN nq).trans hW5⟩
          · have hcb : ((s[i].toNat : Int) == 34) = false := ne_byte hc
            have Hc := Lib.hid hc
            clear hc
            go_wp2_with fail
            go_quiet (fail)
            go_wp2_with fail
            go_roundg 3
            case measure => omega
            case rel => exact ⟨⟨HW.out.drewN nq, hK2.drewN nq⟩, Or.inr (Or.inl ⟨rfl, rfl, Hc.out⟩)⟩
        · have Hn1 := Lib.hid n1
          clear n1
          have z : (((⟨#[38]⟩ : ByteArray)[0]'(by decide)).toNat : Int) = 38 := rfl
          by_cases hc : s[i] = 38
          · have hcb : ((s[i].toNat : Int) == 38) = true := by rw [hc]; rfl
            have hesc : escN s (i + 1) = escN s i ++ (#[38, 97, 109, 112, 59] : Array UInt8).toList := by rw [escN_succ s i hlt, hc]; rfl
            have Hc := Lib.hid hesc
            clear hc hesc
            go_wp2_with fail
            go_quiet (fail)
            go_wp2_with fail
            refine (write_string B b _ ⟨#[38, 97, 109, 112, 59]⟩ _ (HW.out.drewN nq).buf (Nat.le_trans hB (HW.out.drewN nq).below.size) (escN_bound hl hi hs) (by decide)).mono ?_
            rintro e w5 ⟨rfl, hW5⟩
            go_wp2_with fail
            go_roundg (s.size - (i + 1))
            case measure => omega
            case rel => exact ⟨i + 1, by simp, rfl, by omega, by rw [Hc.out, ← List.append_assoc]; exact (HW.out.drewN nq).trans hW5⟩
          · have hcb : ((s[i].toNat : Int) == 38) = false := ne_byte hc
            have Hc := Lib.hid hc
            clear hc
            go_wp2_with fail
            go_quiet (fail)
            go_wp2_with fail
            go_roundg 2
            case measure => omega
            case rel => exact ⟨⟨HW.out.drewN nq, hK2.drewN nq⟩, Or.inr (Or.inr (Or.inl ⟨rfl, rfl, Hn1.out, Hc.out⟩))⟩
        · have Hn1 := Lib.hid n1
          have Hn2 := Lib.hid n2
          clear n1 n2
          have z : (((⟨#[60]⟩ : ByteArray)[0]'(by decide)).toNat : Int) = 60 := rfl
          by_cases hc : s[i] = 60
          · have hcb : ((s[i].toNat : Int) == 60) = true := by rw [hc]; rfl
            have hesc : escN s (i + 1) = escN s i ++ (#[38, 108, 116, 59] : Array UInt8).toList := by rw [escN_succ s i hlt, hc]; rfl
            have Hc := Lib.hid hesc
            clear hc hesc
            go_wp2_with fail
            go_quiet (fail)
            go_wp2_with fail
            refine (write_string B b _ ⟨#[38, 108, 116, 59]⟩ _ (HW.out.drewN nq).buf (Nat.le_trans hB (HW.out.drewN nq).below.size) (escN_bound hl hi hs) (by decide)).mono ?_
            rintro e w5 ⟨rfl, hW5⟩
            go_wp2_with fail
            go_roundg (s.size - (i + 1))
            case measure => omega
            case rel => exact ⟨i + 1, by simp, rfl, by omega, by rw [Hc.out, ← List.append_assoc]; exact (HW.out.drewN nq).trans hW5⟩
          · have hcb : ((s[i].toNat : Int) == 60) = false := ne_byte hc
            have Hc := Lib.hid hc
            clear hc
            go_wp2_with fail
            go_quiet (fail)
            go_wp2_with fail
            go_roundg 1
            case measure => omega
            case rel => exact ⟨⟨HW.out.drewN nq, hK2.drewN nq⟩, Or.inr (Or.inr (Or.inr (Or.inl ⟨rfl, rfl, Hn1.out, Hn2.out, Hc.out⟩)))⟩
        · have Hn1 := Lib.hid n1
          have Hn2 := Lib.hid n2
          have Hn3 := Lib.hid n3
          clear n1 n2 n3
          have z : (((⟨#[62]⟩ : ByteArray)[0]'(by decide)).toNat : Int) = 62 := rfl
          by_cases hc : s[i] = 62
          · have hcb : ((s[i].toNat : Int) == 62) = true := by rw [hc]; rfl
            have hesc : escN s (i + 1) = escN s i ++ (#[38, 103, 116, 59] : Array UInt8).toList := by rw [escN_succ s i hlt, hc]; rfl
            have Hc := Lib.hid hesc
            clear hc hesc
            go_wp2_with fail
            go_quiet (fail)
            go_wp2_with fail
            refine (write_string B b _ ⟨#[38, 103, 116, 59]⟩ _ (HW.out.drewN nq).buf (Nat.le_trans hB (HW.out.drewN nq).below.size) (escN_bound hl hi hs) (by decide)).mono ?_
            rintro e w5 ⟨rfl, hW5⟩
            go_wp2_with fail
            go_roundg (s.size - (i + 1))
            case measure => omega
            case rel => exact ⟨i + 1, by simp, rfl, by omega, by rw [Hc.out, ← List.append_assoc]; exact (HW.out.drewN nq).trans hW5⟩
          · have hcb : ((s[i].toNat : Int) == 62) = false := ne_byte hc
            have Hc := Lib.hid hc
            clear hc
            go_wp2_with fail
            go_quiet (fail)
            go_wp2_with fail
            go_roundg 0
            case measure => omega
            case rel => exact ⟨⟨HW.out.drewN nq, hK2.drewN nq⟩, Or.inr (Or.inr (Or.inr (Or.inr (⟨rfl, rfl, Hn1.out, Hn2.out, Hn3.out, Hc.out⟩))))⟩
        · have hesc : escN s (i + 1) = escN s i ++ [s[i]] := by rw [escN_succ s i hlt]; unfold escB; rw [if_neg n1, if_neg n2, if_neg n3, if_neg n4]
          have Hc := Lib.hid hesc
          clear n1 n2 n3 n4 hesc
          go_wp2_with fail
          refine (write_byte B b _ s[i] _ HW.out.buf (Nat.le_trans hB HW.out.below.size) (escN_bound hl hi hs)).mono ?_
          rintro e w5 ⟨rfl, hW5⟩
          go_wp2_with fail
          go_roundg (s.size - (i + 1))
          case measure => omega
          case rel => exact ⟨i + 1, by simp, rfl, by omega, by rw [Hc.out, ← List.append_assoc]; exact HW.out.trans hW5⟩
    · have hin : i = s.size := by omega
      have w1 : ¬ ((i : Int) < s.size) := by omega
      subst hin
      go_wp2_with fail
      go_end0
      exact ⟨rfl, HW.out⟩
end Go.Proofs.YtdnlfdppjfjncaaGreatDoor

/- Plain, Escaped, Text, Paragraph, Document to HTML. -/
namespace Go.Proofs.YtdnlfdppjfjncaaGreatDoor
open Go Go.RowKit Go.Proofs

theorem Wrote.alloc {w w1 : World} {B b : Nat} {l : List UInt8} (h : Wrote w w1 B b l) (hB : B ≤ w.heap.size) (o : Obj) : Wrote w (w1.alloc o) B b l :=
  ⟨h.buf.alloc o, h.below.alloc (Nat.le_trans hB h.below.size) o, h.others.alloc o⟩

theorem htmlEscaper_at (w : World) (n : Nat) (hn : w.heap.size = n) :
    Calls Tryz.prog 265 #[] w fun e w' => e = .returned (.slice (some ⟨n, 0, none⟩) 8 8) ∧ w' = w.alloc (.cells escCells 9) := by
  subst hn
  exact htmlEscaper_any w

theorem plain_print (B b xb : Nat) (l : List UInt8) (t : ByteArray) (w : World) (h : Lib.IsBuffer 72 5 B b (Lib.byteCells l) w) (hB : B ≤ w.heap.size) (hl : l.length ≤ 10000000) (ht : t.size ≤ 1000000) (hX : w.cell? ⟨xb, 0, none⟩ = some (.string t)) (_hXl : xb < B) :
    Calls Tryz.prog 262 #[.pointer (some ⟨xb, 0, none⟩), .pointer (some ⟨b, 0, none⟩)] w fun e w' => e = .returned (.tuple #[]) ∧ Wrote w w' B b (l ++ escN t t.size) := by
  go_enter Tryz.func262, Tryz.ntmps262
  go_wp2_with fail
  have hbl := h.lt
  have hd : Wrote w w.drew B b l := ⟨h, ⟨rfl, rfl, rfl, Nat.le_refl _, fun _ _ => rfl⟩, (Lib.OthersKept.refl _ _ w).drew⟩
  have h0 : Wrote w (w.drew.alloc (.cells escCells 9)) B b l := Wrote.alloc hd hB _
  have hX0 : w.drew.cell? ⟨xb, 0, none⟩ = some (.string t) := hX
  have hX1 : (w.drew.alloc (.cells escCells 9)).cell? ⟨xb, 0, none⟩ = some (.string t) := by
    rw [← hX0]; exact World.cell?_of_block (Below.heap_alloc _ _ _ (World.block_lt_of_cell? _ _ hX0))
  have hK : Blk (w.drew.alloc (.cells escCells 9)) w.heap.size escCells 9 := Blk.newAt (w := w.drew) _ _ rfl
  have HW := esc_write B b w.heap.size l t _ h0.buf (Nat.le_trans hB h0.below.size) hl ht hK (by omega)
  generalize hY : (w.drew.alloc (.cells escCells 9) : World) = Y at *
  go_region_with (first
    | (go_at_call 265; refine (htmlEscaper_at w.drew w.heap.size rfl).mono ?_; rintro e w1 ⟨rfl, hw1⟩; rw [hY] at hw1; subst hw1)
    | (go_at_call 266; refine HW.mono ?_; rintro e w2 ⟨rfl, h2⟩))
  all_goals
    go_wp2_with fail
    go_end0
    exact ⟨rfl, h0.trans h2⟩
end Go.Proofs.YtdnlfdppjfjncaaGreatDoor

/- Text, Paragraph, Document to HTML. -/
namespace Go.Proofs.YtdnlfdppjfjncaaGreatDoor
open Go Go.RowKit Go.Proofs

theorem m_print_plain (k : Nat) (a : Addr) (w : World) : (method (k + 1) 156 (.pointer (some a)) "PrintHTML").run Tryz.prog w = .ok (262, .pointer (some a)) w := by kernel_rfl
theorem m_print_esc (k : Nat) (b : Nat) (w : World) : (method (k + 2) 176 (.pointer (some ⟨b, 0, none⟩)) "PrintHTML").run Tryz.prog w = .ok (262, .pointer (some ⟨b, 0, none⟩)) w := by kernel_rfl
theorem m_print_para (k : Nat) (a : Addr) (w : World) : (method (k + 1) 153 (.pointer (some a)) "PrintHTML").run Tryz.prog w = .ok (282, .pointer (some a)) w := by kernel_rfl

theorem m_print_soft (k : Nat) (a : Addr) (w : World) : (method (k + 1) 193 (.pointer (some a)) "PrintHTML").run Tryz.prog w = .ok (310, .pointer (some a)) w := by kernel_rfl
theorem m_print_tag (k : Nat) (a : Addr) (w : World) : (method (k + 1) 285 (.pointer (some a)) "PrintHTML").run Tryz.prog w = .ok (352, .pointer (some a)) w := by kernel_rfl

/-- The HTML of a piece (of an autolink: see elsewhere). -/
def outPc : Pc → List UInt8
  | .plain s => escN s s.size
  | .esc s => escN s s.size
  | .soft => [10]
  | .auto _ _ => []
  | .tag s => s.data.toList

theorem soft_print (B b : Nat) (v : Value) (l : List UInt8) (w : World) (h : Lib.IsBuffer 72 5 B b (Lib.byteCells l) w) (hB : B ≤ w.heap.size) (hl : l.length ≤ 10000000) :
    Calls Tryz.prog 310 #[v, .pointer (some ⟨b, 0, none⟩)] w fun e w' => e = .returned (.tuple #[]) ∧ Wrote w w' B b (l ++ [10]) := by
  go_enter Tryz.func310, Tryz.ntmps310
  go_wp2_with fail
  refine (write_string B b l ⟨#[10]⟩ w h hB (by omega) (by decide)).mono ?_
  rintro e w' ⟨rfl, hW⟩
  go_wp2_with fail
  go_end0
  exact ⟨rfl, hW⟩

theorem tag_print (B b xb : Nat) (l : List UInt8) (t : ByteArray) (w : World) (h : Lib.IsBuffer 72 5 B b (Lib.byteCells l) w) (hB : B ≤ w.heap.size) (hl : l.length ≤ 10000000) (ht : t.size ≤ 1000000)
    (hX : w.cell? ⟨xb, 0, none⟩ = some (.string t)) :
    Calls Tryz.prog 352 #[.pointer (some ⟨xb, 0, none⟩), .pointer (some ⟨b, 0, none⟩)] w fun e w' => e = .returned (.tuple #[]) ∧ Wrote w w' B b (l ++ t.data.toList) := by
  go_enter Tryz.func352, Tryz.ntmps352
  go_wp2_with fail
  refine (write_string B b l t w h hB (by omega) (by omega)).mono ?_
  rintro e w' ⟨rfl, hW⟩
  go_wp2_with fail
  go_end0
  exact ⟨rfl, hW⟩

theorem Wrote.same {w0 w w' : World} {B b : Nat} {l : List UInt8} (hS : Same w0 w) (hB : w0.heap.size = B) (h : Wrote w w' B b l) : Same w0 w' :=
  Mods.then hS (Below.mods (S := fun k => B ≤ k) h.below (fun k _ hk => hk)) (fun b hb hk => by omega)

theorem take_out {ps : List Pc} {i : Nat} {pc : Pc} (h : ps[i]? = some pc) : (ps.take (i + 1)).flatMap outPc = (ps.take i).flatMap outPc ++ outPc pc := by
  rw [List.take_add_one, List.flatMap_append, h]
  simp

set_option maxHeartbeats 4000000 in
theorem text_print (w0 : World) (B b tb gl n lc : Nat) (x y : Int) (s : ByteArray) (l : List UInt8) (xs : List Value) (ps : List Pc) (w : World) (hS : Same w0 w) (hB : w0.heap.size = B) (h : Lib.IsBuffer 72 5 B b (Lib.byteCells l) w)
    (hT : Blk w0 tb #[.int .i64 x, .int .i64 y, .slice (some ⟨gl, 0, none⟩) n lc, .string s] 110) (hown : w0.ownsRow 0 132 1 (.slice (some ⟨gl, 0, none⟩) n lc) n xs) (hx : PcsAt w0 xs ps) (hn : 0 < n) (hn6 : n ≤ 1000000)
    (hlim : ∀ i, (l ++ (ps.take i).flatMap outPc).length ≤ 10000000) (hsz : ∀ t, Pc.plain t ∈ ps ∨ Pc.esc t ∈ ps ∨ Pc.tag t ∈ ps → t.size ≤ 1000000) (hau : ∀ t u, Pc.auto t u ∉ ps) :
    Calls Tryz.prog 249 #[.pointer (some ⟨tb, 0, none⟩), .pointer (some ⟨b, 0, none⟩)] w fun e w' => e = .returned (.tuple #[]) ∧ Wrote w w' B b (l ++ ps.flatMap outPc) := by
  have hTw := hS.blk hT
  have c2 : w.cell? ⟨tb, 2, none⟩ = some (.slice (some ⟨gl, 0, none⟩) n lc) := hTw.cell 2
  have hps : ps.length = n := by have := hx.length; have := hown.1; omega
  obtain ⟨_, _, he, ⟨cur, hcur⟩, _, hc⟩ := ownsRow_form hown hn
  cases he
  go_enter Tryz.func249, Tryz.ntmps249
  go_wp2_with fail
  go_loopg [11] n (fun m v wr => ∃ i : Nat, v = .int .i64 i ∧ m = n - i ∧ i ≤ n ∧ Wrote w wr B b (l ++ (ps.take i).flatMap outPc))
  case atStart => exact ⟨0, rfl, rfl, Nat.zero_le _, by simpa using h, Below.refl _ _, Lib.OthersKept.refl _ _ _⟩
  case round =>
    obtain ⟨i, rfl, rfl, hi, hW⟩ := hrel
    have hSr := Wrote.same hS hB hW
    have HW := Lib.hid hW
    clear hW c2
    by_cases hlt : i < n
    · have w1 : (i : Int) < n := by omega
      have w2 : (0 : Int) ≤ i := by omega
      have w3 : IntKind.i64.wrap ((i : Int) + 1) = (i : Int) + 1 := IntWalk.i64_in _ (by omega)
      have hxl : xs.length = n := by have := hown.1; omega
      obtain ⟨u, pc, hu, hpc, hat⟩ := hx.get i (by omega)
      have hc1 := hc i _ hu
      have hc2 : wr.cell? ⟨gl, i, none⟩ = some u := (World.cell?_of_block (hSr.block gl (World.block_lt_of_cell? _ _ hc1) (fun x => x))).trans hc1
      have m1 := m_print_plain
      have m2 := m_print_esc
      have m3 := m_print_soft
      have m4 := m_print_tag
      cases pc with
      | plain t =>
        obtain ⟨xb, rfl, hb⟩ := hat
        have hb : Blk w0 xb #[.string t] 137 := hb
        have hbw := hSr.blk hb
        have hc3 : wr.cell? ⟨gl, i, none⟩ = some (.iface 156 (.pointer (some ⟨xb, 0, none⟩))) := hc2
        clear hc2 hc1 hu
        go_wp2_with fail
        refine (plain_print B b xb _ t wr HW.out.buf (by have := HW.out.below.size; have := hS.size; omega) (hlim i) (hsz t (Or.inl (List.mem_of_getElem? hpc))) (hbw.cell 0) (by have := hb.lt; omega)).mono ?_
        rintro e w5 ⟨rfl, hW5⟩
        go_wp2_with fail
        go_roundg (n - (i + 1))
        case measure => omega
        case rel => exact ⟨i + 1, by simp, rfl, by omega, by rw [take_out hpc, ← List.append_assoc]; exact HW.out.trans hW5⟩
      | esc t =>
        obtain ⟨xb, rfl, hb⟩ := hat
        have hb : Blk w0 xb #[.string t] 178 := hb
        have hbw := hSr.blk hb
        have hc3 : wr.cell? ⟨gl, i, none⟩ = some (.iface 176 (.pointer (some ⟨xb, 0, none⟩))) := hc2
        clear hc2 hc1 hu
        go_wp2_with fail
        refine (plain_print B b xb _ t wr HW.out.buf (by have := HW.out.below.size; have := hS.size; omega) (hlim i) (hsz t (Or.inr (Or.inl (List.mem_of_getElem? hpc)))) (hbw.cell 0) (by have := hb.lt; omega)).mono ?_
        rintro e w5 ⟨rfl, hW5⟩
        go_wp2_with fail
        go_roundg (n - (i + 1))
        case measure => omega
        case rel => exact ⟨i + 1, by simp, rfl, by omega, by rw [take_out hpc, ← List.append_assoc]; exact HW.out.trans hW5⟩
      | soft =>
        obtain ⟨xb, rfl, hb⟩ := hat
        have hb : Blk w0 xb #[] 194 := hb
        have hbw := hSr.blk hb
        have hc3 : wr.cell? ⟨gl, i, none⟩ = some (.iface 193 (.pointer (some ⟨xb, 0, none⟩))) := hc2
        clear hc2 hc1 hu
        go_wp2_with fail
        refine (soft_print B b _ _ wr HW.out.buf (by have := HW.out.below.size; have := hS.size; omega) (hlim i)).mono ?_
        rintro e w5 ⟨rfl, hW5⟩
        go_wp2_with fail
        go_roundg (n - (i + 1))
        case measure => omega
        case rel => exact ⟨i + 1, by simp, rfl, by omega, by rw [take_out hpc, ← List.append_assoc]; exact HW.out.trans hW5⟩
      | tag t =>
        obtain ⟨xb, rfl, hb⟩ := hat
        have hb : Blk w0 xb #[.string t] 286 := hb
        have hbw := hSr.blk hb
        have hc3 : wr.cell? ⟨gl, i, none⟩ = some (.iface 285 (.pointer (some ⟨xb, 0, none⟩))) := hc2
        clear hc2 hc1 hu
        go_wp2_with fail
        refine (tag_print B b xb _ t wr HW.out.buf (by have := HW.out.below.size; have := hS.size; omega) (hlim i) (hsz t (Or.inr (Or.inr (List.mem_of_getElem? hpc)))) (hbw.cell 0)).mono ?_
        rintro e w5 ⟨rfl, hW5⟩
        go_wp2_with fail
        go_roundg (n - (i + 1))
        case measure => omega
        case rel => exact ⟨i + 1, by simp, rfl, by omega, by rw [take_out hpc, ← List.append_assoc]; exact HW.out.trans hW5⟩
      | auto t u => exact absurd (List.mem_of_getElem? hpc) (hau t u)
    · have hin : i = n := by omega
      subst hin
      have w1 : ¬ ((i : Int) < i) := by omega
      go_wp2_with fail
      go_end0
      refine ⟨rfl, ?_⟩
      have := HW.out
      rw [← hps, List.take_length] at this
      exact this
end Go.Proofs.YtdnlfdppjfjncaaGreatDoor

/- Paragraph and Document to HTML. -/
namespace Go.Proofs.YtdnlfdppjfjncaaGreatDoor
open Go Go.RowKit Go.Proofs

def pOpen : List UInt8 := [60, 112, 62]
def pClose : List UInt8 := [60, 47, 112, 62, 10]

set_option maxHeartbeats 4000000 in
theorem para_print (w0 : World) (B b pk tb gl n lc : Nat) (x y x' y' : Int) (s : ByteArray) (l : List UInt8) (xs : List Value) (ps : List Pc) (w : World) (hS : Same w0 w) (hB : w0.heap.size = B) (h : Lib.IsBuffer 72 5 B b (Lib.byteCells l) w)
    (hP : Blk w0 pk #[.int .i64 x', .int .i64 y', .pointer (some ⟨tb, 0, none⟩)] 155)
    (hT : Blk w0 tb #[.int .i64 x, .int .i64 y, .slice (some ⟨gl, 0, none⟩) n lc, .string s] 110) (hown : w0.ownsRow 0 132 1 (.slice (some ⟨gl, 0, none⟩) n lc) n xs) (hx : PcsAt w0 xs ps) (hn : 0 < n) (hn6 : n ≤ 1000000)
    (hlim : ∀ i, ((l ++ pOpen) ++ (ps.take i).flatMap outPc).length ≤ 10000000) (hsz : ∀ t, Pc.plain t ∈ ps ∨ Pc.esc t ∈ ps ∨ Pc.tag t ∈ ps → t.size ≤ 1000000) (hau : ∀ t u, Pc.auto t u ∉ ps) :
    Calls Tryz.prog 282 #[.pointer (some ⟨pk, 0, none⟩), .pointer (some ⟨b, 0, none⟩)] w fun e w' => e = .returned (.tuple #[]) ∧ Wrote w w' B b (l ++ pOpen ++ ps.flatMap outPc ++ pClose) := by
  have hl0 := hlim 0
  have hlA := hlim ps.length
  rw [List.take_length] at hlA
  have hl1 : l.length ≤ 100000000 := by simp at hl0; omega
  have hl2 : (l ++ pOpen ++ ps.flatMap outPc).length ≤ 100000000 := by omega
  have hBw : B ≤ w.heap.size := by have := hS.size; omega
  clear hl0 hlA
  go_enter Tryz.func282, Tryz.ntmps282
  go_wp2_with fail
  refine (write_string B b l ⟨#[60, 112, 62]⟩ w h hBw hl1 (by decide)).mono ?_
  rintro e w1 ⟨rfl, h1⟩
  have hS1 := Wrote.same hS hB h1
  have hP1 := hS1.blk hP
  have c2 : w1.cell? ⟨pk, 2, none⟩ = some (.pointer (some ⟨tb, 0, none⟩)) := hP1.cell 2
  go_wp2_with fail
  refine (text_print w0 B b tb gl n lc x y s (l ++ pOpen) xs ps w1 hS1 hB h1.buf hT hown hx hn hn6 hlim hsz hau).mono ?_
  rintro e w2 ⟨rfl, h2⟩
  go_wp2_with fail
  refine (write_string B b _ ⟨#[60, 47, 112, 62, 10]⟩ w2 h2.buf (Nat.le_trans hBw (h1.trans h2).below.size) hl2 (by decide)).mono ?_
  rintro e w3 ⟨rfl, h3⟩
  go_wp2_with fail
  go_end0
  exact ⟨rfl, (h1.trans h2).trans h3⟩

set_option maxHeartbeats 4000000 in
theorem doc_print (w0 : World) (B b rk pk tb ig ic gl n lc : Nat) (x y x' y' x2 y2 : Int) (ml : Option Nat) (s : ByteArray) (l : List UInt8) (xs : List Value) (ps : List Pc) (w : World) (hS : Same w0 w) (hB : w0.heap.size = B) (h : Lib.IsBuffer 72 5 B b (Lib.byteCells l) w)
    (hR : Blk w0 rk #[.int .i64 x2, .int .i64 y2, .slice (some ⟨ig, 0, none⟩) 1 ic, .map ml] 339) (hin : w0.ownsRow 0 68 1 (.slice (some ⟨ig, 0, none⟩) 1 ic) 1 [.iface 153 (.pointer (some ⟨pk, 0, none⟩))])
    (hP : Blk w0 pk #[.int .i64 x', .int .i64 y', .pointer (some ⟨tb, 0, none⟩)] 155)
    (hT : Blk w0 tb #[.int .i64 x, .int .i64 y, .slice (some ⟨gl, 0, none⟩) n lc, .string s] 110) (hown : w0.ownsRow 0 132 1 (.slice (some ⟨gl, 0, none⟩) n lc) n xs) (hx : PcsAt w0 xs ps) (hn : 0 < n) (hn6 : n ≤ 1000000)
    (hlim : ∀ i, ((l ++ pOpen) ++ (ps.take i).flatMap outPc).length ≤ 10000000) (hsz : ∀ t, Pc.plain t ∈ ps ∨ Pc.esc t ∈ ps ∨ Pc.tag t ∈ ps → t.size ≤ 1000000) (hau : ∀ t u, Pc.auto t u ∉ ps) :
    Calls Tryz.prog 244 #[.pointer (some ⟨rk, 0, none⟩), .pointer (some ⟨b, 0, none⟩)] w fun e w' => e = .returned (.tuple #[]) ∧ Wrote w w' B b (l ++ pOpen ++ ps.flatMap outPc ++ pClose) := by
  have hRw := hS.blk hR
  have c2 : w.cell? ⟨rk, 2, none⟩ = some (.slice (some ⟨ig, 0, none⟩) 1 ic) := hRw.cell 2
  obtain ⟨_, _, he, _, _, hc⟩ := ownsRow_form (ownsRow_keep hin hS (fun _ _ x => x)) (by omega)
  cases he
  have hc0 := hc 0 _ rfl
  have m1 := m_print_para
  go_enter Tryz.func244, Tryz.ntmps244
  go_wp2_with fail
  go_loopg [11] 1 (fun m v wr => (m = 1 ∧ v = .int .i64 0 ∧ wr = w) ∨ (m = 0 ∧ v = .int .i64 1 ∧ Wrote w wr B b (l ++ pOpen ++ ps.flatMap outPc ++ pClose)))
  case atStart => exact Or.inl ⟨rfl, rfl, rfl⟩
  case round =>
    rcases hrel with ⟨rfl, rfl, rfl⟩ | ⟨rfl, rfl, hW⟩
    · go_wp2_with fail
      refine (para_print w0 B b pk tb gl n lc x y x' y' s l xs ps _ hS hB h hP hT hown hx hn hn6 hlim hsz hau).mono ?_
      rintro e w1 ⟨rfl, h1⟩
      go_wp2_with fail
      go_roundg 0
      case measure => omega
      case rel => exact Or.inr ⟨rfl, rfl, h1⟩
    · go_wp2_with fail
      go_end0
      exact ⟨rfl, hW⟩

theorem m_print_doc (k : Nat) (a : Addr) (w : World) : (method (k + 1) 48 (.pointer (some a)) "PrintHTML").run Tryz.prog w = .ok (244, .pointer (some a)) w := by kernel_rfl
end Go.Proofs.YtdnlfdppjfjncaaGreatDoor

/- ToHTML of a document of one paragraph. -/
namespace Go.Proofs.YtdnlfdppjfjncaaGreatDoor
open Go Go.RowKit Go.Proofs

set_option maxHeartbeats 4000000 in
theorem toHTML_doc (w0 : World) (rk pk tb ig ic gl n lc : Nat) (x y x' y' x2 y2 : Int) (ml : Option Nat) (s : ByteArray) (xs : List Value) (ps : List Pc)
    (hR : Blk w0 rk #[.int .i64 x2, .int .i64 y2, .slice (some ⟨ig, 0, none⟩) 1 ic, .map ml] 339) (hin : w0.ownsRow 0 68 1 (.slice (some ⟨ig, 0, none⟩) 1 ic) 1 [.iface 153 (.pointer (some ⟨pk, 0, none⟩))])
    (hP : Blk w0 pk #[.int .i64 x', .int .i64 y', .pointer (some ⟨tb, 0, none⟩)] 155)
    (hT : Blk w0 tb #[.int .i64 x, .int .i64 y, .slice (some ⟨gl, 0, none⟩) n lc, .string s] 110) (hown : w0.ownsRow 0 132 1 (.slice (some ⟨gl, 0, none⟩) n lc) n xs) (hx : PcsAt w0 xs ps) (hn : 0 < n) (hn6 : n ≤ 1000000)
    (hlim : ∀ i, ((([] : List UInt8) ++ pOpen) ++ (ps.take i).flatMap outPc).length ≤ 10000000) (hsz : ∀ t, Pc.plain t ∈ ps ∨ Pc.esc t ∈ ps ∨ Pc.tag t ∈ ps → t.size ≤ 1000000) (hau : ∀ t u, Pc.auto t u ∉ ps) :
    Calls Tryz.prog 37 #[.iface 48 (.pointer (some ⟨rk, 0, none⟩))] w0 fun e w' => e = .returned (.string ⟨(pOpen ++ ps.flatMap outPc ++ pClose).toArray⟩) ∧ Same w0 w' := by
  have m1 := m_print_doc
  go_enter Tryz.func37, Tryz.ntmps37
  go_wp2_with fail
  have hS : Same w0 (w0.alloc (.cells #[.slice none 0 0, .int .i64 0, .int .i8 0] 72)) := (Mods.refl _ w0).alloc _
  have hF := Lib.fresh_isBuffer 72 5 w0
  generalize hW : (w0.alloc _ : World) = W at *
  refine (doc_print w0 w0.heap.size w0.heap.size rk pk tb ig ic gl n lc x y x' y' x2 y2 ml s [] xs ps W hS rfl hF hR hin hP hT hown hx hn hn6 hlim hsz hau).mono ?_
  rintro e w1 ⟨rfl, h1⟩
  have hS1 := Wrote.same hS rfl h1
  go_wp2_with fail
  refine (Tryz.Buffer_String w0.heap.size w0.heap.size _ w1 h1.buf).mono ?_
  rintro e w2 ⟨rfl, k, rfl⟩
  go_wp2_with fail
  go_ret
  exact ⟨rfl, hS1.drewN k⟩

def allOff : Value := .agg #[.bool false, .bool false, .bool false, .bool false, .bool false, .bool false, .bool false, .bool false, .bool false, .bool false]

set_option maxHeartbeats 4000000 in
theorem impl_HTML_of (s : ByteArray) (w : World) (hs9 : s.size ≤ 900000) (all : List Pc)
    (hparse : ∀ (pp : Nat) (w1 : World), Off w1 pp → Calls Tryz.prog 39 #[.pointer (some ⟨pp, 0, none⟩), .string s] w1 fun e w' => ∃ bp rk, e = .returned (.pointer (some ⟨rk, 0, none⟩)) ∧ DocAt w1 w' bp rk pp s all)
    (hlim : ∀ i, ((([] : List UInt8) ++ pOpen) ++ ((all).take i).flatMap outPc).length ≤ 10000000) (hsz : ∀ t, Pc.plain t ∈ all ∨ Pc.esc t ∈ all ∨ Pc.tag t ∈ all → t.size ≤ 1000000) (hau : ∀ t u, Pc.auto t u ∉ all) :
    Calls Tryz.prog 17 #[.agg #[.bool false, .bool false, .bool false, .bool false, .bool false, .bool false, .bool false, .bool false, .bool false, .bool false], .string s] w fun e w' => e = .returned (.string ⟨(pOpen ++ (all).flatMap outPc ++ pClose).toArray⟩) ∧ Same w w' := by
  go_enter Tryz.func17, Tryz.ntmps17
  go_wp2_with fail
  generalize hW : (w.alloc _ : World) = W
  have hm : Same w W := by subst hW; exact (Mods.refl _ w).alloc _
  clear hW
  refine (impl_parser W).mono ?_
  rintro e w1 ⟨pp, rfl, hm1, _, hO⟩
  go_wp2_with fail
  refine (hparse pp w1 hO).mono ?_
  rintro e w2 ⟨bp, rk, rfl, hD⟩
  obtain ⟨hm2, _, pk, tb, ig, ic, gl, n, lc, xs, x, y, x2, y2, a1, a2, a3, a4, a5, a6, a7, a8⟩ := hD
  go_wp2_with fail
  refine (toHTML_doc w2 rk pk tb ig ic gl n lc x2 y2 x2 y2 x y none s xs (all) a1 a2 a3 a4 a7 a8 a5 (by omega) hlim hsz hau).mono ?_
  rintro e w3 ⟨rfl, hm3⟩
  go_wp2_with fail
  go_ret
  exact ⟨rfl, ((hm.trans hm1).trans hm2).trans hm3⟩

theorem impl_HTML (s : ByteArray) (w : World) (hs : OneLine s) (all : List Pc) (hg : Plan s 0 0 all)
    (hlim : ∀ i, ((([] : List UInt8) ++ pOpen) ++ ((all).take i).flatMap outPc).length ≤ 10000000) (hsz : ∀ t, Pc.plain t ∈ all ∨ Pc.esc t ∈ all ∨ Pc.tag t ∈ all → t.size ≤ 1000000) (hau : ∀ t u, Pc.auto t u ∉ all) :
    Calls Tryz.prog 17 #[.agg #[.bool false, .bool false, .bool false, .bool false, .bool false, .bool false, .bool false, .bool false, .bool false, .bool false], .string s] w fun e w' => e = .returned (.string ⟨(pOpen ++ (all).flatMap outPc ++ pClose).toArray⟩) ∧ Same w w' :=
  impl_HTML_of s w (by have := hs.small; omega) all (fun pp w1 hO => parser_Parse pp s w1 hs all hg hO) hlim hsz hau
end Go.Proofs.YtdnlfdppjfjncaaGreatDoor
