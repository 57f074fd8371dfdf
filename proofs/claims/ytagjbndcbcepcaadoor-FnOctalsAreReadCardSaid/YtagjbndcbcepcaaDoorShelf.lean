/-
  DERIVED: THE SHELF's CONTRACTS AT THIS DUMP, IN PLAIN WORDS (tools/lay-plain.mjs out of 'TrydShelf.lean', which tools/lay-shelf.mjs wrote): THE SAME DECLARATIONS UNDER THE SAME NAMES: 'import', 'namespace', 'open', 'def', 'theorem' AND NOTHING ELSE: no command of the shelf's: FOR A HAND-IN. Each laying: the table of numbers ('.._ren') and one theorem, a field a fact of the dump's own or the kernel's comparison; each contract: ONE APPLICATION.
-/
import Derived.Shelf.Strings.Builder1
import Derived.Shelf.Strings.Builder2
import Derived.Shelf.Small.Utf8
import Derived.Shelf.Strconv.Itoa0
import Derived.Shelf.Strconv.Itoa1
import Derived.Shelf.LaysM
import Derived.Shelf.Strconv.Itoa2
import Derived.Shelf.Strconv.Itoa3
import Derived.Shelf.Strconv.Itoa4
import Derived.Shelf.Strconv.Clone
import Derived.Shelf.Strconv.SyntaxError
import Derived.Shelf.LaysC
import Derived.Shelf.Strconv.ToError
import Derived.Shelf.Strconv.Lower
import Derived.Shelf.Strconv.ParseUint10
import Derived.Shelf.Strconv.ParseUint10Empty
import Derived.Shelf.Strconv.ParseUint10Any
import Derived.Shelf.Strconv.RangeError
import Derived.Shelf.Strconv.ToErrorRange
import Derived.Shelf.Strconv.ParseUintEmpty
import Derived.Shelf.Strconv.ParseUint10b64
import Derived.Shelf.Strconv.ParseUint10b32
import Derived.Shelf.Strconv.ParseUint10b16
import Derived.Shelf.Strconv.ParseUint10b8
import Derived.Shelf.Strconv.ParseUint10At
import Derived.Shelf.Bits.Mul64
import Derived.Shelf.Bytes.SlIndexAt
import Derived.Shelf.Bytes.SlSearch0
import Derived.Shelf.Bytes.IndexByte
import Derived.Test.YtagjbndcbcepcaaDoorProg
namespace Go.Proofs
open Go.Shelf
def Tryd.lays170_ren : Go.Shelf.Ren := ⟨fun | 170 => 57 | n => n, fun | 70 => 68 | 3 => 3 | 0 => 0 | 72 => 70 | 37 => 22 | 5 => 5 | n => n, fun | n => n⟩
theorem Tryd.lays170 : Go.Proofs.Lays.n170 Tryd.prog Tryd.lays170_ren := {
  mixed := by kernel_rfl
  f170 := Tryd.func57.trans (congrArg some (by kernel_rfl))
  t0 := Tryd.underlying0
  a0 := Tryd.isAgg0
  z0 := Tryd.sizeOf0
  v0 := Tryd.zeroValue0
  t3 := Tryd.underlying3
  a3 := Tryd.isAgg3
  z3 := Tryd.sizeOf3
  v3 := Tryd.zeroValue3
  t37 := Tryd.underlying22
  a37 := Tryd.isAgg22
  z37 := Tryd.sizeOf22
  v37 := Tryd.zeroValue22
  t70 := Tryd.underlying68
  a70 := Tryd.isAgg68
  z70 := Tryd.sizeOf68
  v70 := Tryd.zeroValue68
  t72 := Tryd.underlying70
  a72 := Tryd.isAgg70
  z72 := Tryd.sizeOf70
  v72 := Tryd.zeroValue70 }
open Go.RowKit in
/-- (*strings.Builder).Len: "Len returns the number of accumulated bytes; b.Len() == len(b.String()).": the world is as it was. (LAID: no walk: one application.) -/
theorem Tryd.Builder_Len (B b : Nat) (bs : List Value) (w : World) (h : Lib.IsBuilder 70 5 B b bs w) :
    Calls Tryd.prog 57 #[.pointer (some ⟨b, 0, none⟩)] w fun e w' => e = .returned (.int .i64 bs.length) ∧ w' = w := Any.Builder_Len Tryd.lays170 B b bs w h
def Tryd.lays169_ren : Go.Shelf.Ren := ⟨fun | 169 => 58 | n => n, fun | 70 => 68 | 9 => 9 | 0 => 0 | 72 => 70 | 37 => 22 | 127 => 97 | 3 => 3 | 5 => 5 | n => n, fun | n => n⟩
theorem Tryd.lays169 : Go.Proofs.Lays.n169 Tryd.prog Tryd.lays169_ren := {
  mixed := by kernel_rfl
  f169 := Tryd.func58.trans (congrArg some (by kernel_rfl))
  t0 := Tryd.underlying0
  a0 := Tryd.isAgg0
  z0 := Tryd.sizeOf0
  v0 := Tryd.zeroValue0
  t3 := Tryd.underlying3
  a3 := Tryd.isAgg3
  z3 := Tryd.sizeOf3
  v3 := Tryd.zeroValue3
  t9 := Tryd.underlying9
  a9 := Tryd.isAgg9
  z9 := Tryd.sizeOf9
  v9 := Tryd.zeroValue9
  t37 := Tryd.underlying22
  a37 := Tryd.isAgg22
  z37 := Tryd.sizeOf22
  v37 := Tryd.zeroValue22
  t70 := Tryd.underlying68
  a70 := Tryd.isAgg68
  z70 := Tryd.sizeOf68
  v70 := Tryd.zeroValue68
  t72 := Tryd.underlying70
  a72 := Tryd.isAgg70
  z72 := Tryd.sizeOf70
  v72 := Tryd.zeroValue70
  t127 := Tryd.underlying97
  a127 := Tryd.isAgg97
  z127 := Tryd.sizeOf97
  v127 := Tryd.zeroValue97 }
theorem Tryd.Builder_Extra_169 : Builder.Extra Tryd.prog Tryd.lays169_ren := {
  sizeBuilder := by kernel_rfl
  liesBuilder := by kernel_rfl
  t5 := Tryd.underlying5
  a5 := Tryd.isAgg5
  z5 := Tryd.sizeOf5
  v5 := Tryd.zeroValue5
  infoByte := by kernel_rfl
  cellsByte := by kernel_rfl
  sizeByte := by kernel_rfl
  neB5 := by decide }
open Go.RowKit in
/-- (*strings.Builder).String: "String returns the accumulated string.": OF A BUILDER THAT HOLDS AT LEAST ONE BYTE. ✋ THE MODEL FREEZES THOSE BYTES IN THE BUFFER (unsafe.String): a later write INTO them ends the model's run without an answer; a later append BEHIND them goes on. The statement's order of evaluation is drawn: one draw. (LAID: no walk: one application.) -/
theorem Tryd.Builder_String (B b : Nat) (l : List UInt8) (w : World) (h : Lib.IsBuilder 70 5 B b (Lib.byteCells l) w) (h0 : l ≠ []) :
    Calls Tryd.prog 58 #[.pointer (some ⟨b, 0, none⟩)] w fun e w' => e = .returned (.string ⟨l.toArray⟩) ∧ Below B w w' := Any.Builder_String Tryd.lays169 Tryd.Builder_Extra_169 B b l w h h0
open Go.RowKit in
/-- (*strings.Builder).String OF A BUILDER THAT HOLDS NO BYTE: the empty string. (Its buffer is nil, or a row of which it has taken nothing yet; where that row has NO capacity the model lays one new block for unsafe.SliceData's 'some address'.) One draw. (LAID: no walk: one application.) -/
theorem Tryd.Builder_String_empty (B b : Nat) (w : World) (h : Lib.IsBuilder 70 5 B b [] w) (hBw : B ≤ w.heap.size) :
    Calls Tryd.prog 58 #[.pointer (some ⟨b, 0, none⟩)] w fun e w' => e = .returned (.string ⟨#[]⟩) ∧ Below B w w' := Any.Builder_String_empty Tryd.lays169 Tryd.Builder_Extra_169 B b w h hBw
open Go.RowKit in
/-- (*strings.Builder).String: "String returns the accumulated string.": WHATEVER THE BUILDER HOLDS. (LAID: no walk: one application.) -/
theorem Tryd.Builder_String_any (B b : Nat) (l : List UInt8) (w : World) (h : Lib.IsBuilder 70 5 B b (Lib.byteCells l) w) (hBw : B ≤ w.heap.size) :
    Calls Tryd.prog 58 #[.pointer (some ⟨b, 0, none⟩)] w fun e w' => e = .returned (.string ⟨l.toArray⟩) ∧ Below B w w' := Any.Builder_String_any Tryd.lays169 Tryd.Builder_Extra_169 B b l w h hBw
def Tryd.lays241_ren : Go.Shelf.Ren := ⟨fun | 241 => 79 | 277 => 91 | n => n, fun | 70 => 68 | 3 => 3 | 0 => 0 | 72 => 70 | 37 => 22 | 5 => 5 | n => n, fun | n => n⟩
theorem Tryd.lays241 : Go.Proofs.Lays.n241 Tryd.prog Tryd.lays241_ren := {
  mixed := by kernel_rfl
  f241 := Tryd.func79.trans (congrArg some (by kernel_rfl))
  f277 := Tryd.func91.trans (congrArg some (by kernel_rfl))
  t0 := Tryd.underlying0
  a0 := Tryd.isAgg0
  z0 := Tryd.sizeOf0
  v0 := Tryd.zeroValue0
  t3 := Tryd.underlying3
  a3 := Tryd.isAgg3
  z3 := Tryd.sizeOf3
  v3 := Tryd.zeroValue3
  t37 := Tryd.underlying22
  a37 := Tryd.isAgg22
  z37 := Tryd.sizeOf22
  v37 := Tryd.zeroValue22
  t70 := Tryd.underlying68
  a70 := Tryd.isAgg68
  z70 := Tryd.sizeOf68
  v70 := Tryd.zeroValue68
  t72 := Tryd.underlying70
  a72 := Tryd.isAgg70
  z72 := Tryd.sizeOf70
  v72 := Tryd.zeroValue70 }
theorem Tryd.Builder_Extra_241 : Builder.Extra Tryd.prog Tryd.lays241_ren := {
  sizeBuilder := by kernel_rfl
  liesBuilder := by kernel_rfl
  t5 := Tryd.underlying5
  a5 := Tryd.isAgg5
  z5 := Tryd.sizeOf5
  v5 := Tryd.zeroValue5
  infoByte := by kernel_rfl
  cellsByte := by kernel_rfl
  sizeByte := by kernel_rfl
  neB5 := by decide }
open Go.RowKit in
/-- (*strings.Builder).grow (no doc but "grow copies the buffer to a new, larger buffer so that there are at least n bytes of capacity beyond len(b.buf)."): AT A BUILDER WITHOUT A BUFFER: a new row of whatever bytes for its buffer, none of them its own yet. Three draws. (LAID: no walk: one application.) -/
theorem Tryd.Builder_grow_fresh (B b n : Nat) (w : World) (hB : B ≤ b) (hbk : w.heap[b]? = some (.cells #[.pointer (some ⟨b, 0, none⟩), .slice none 0 0] 70 (0, 0))) (hBw : B ≤ w.heap.size) (hn : n ≤ 281474976710656) :
    Calls Tryd.prog 79 #[.pointer (some ⟨b, 0, none⟩), .int .i64 n] w fun e w' => e = .returned (.tuple #[]) ∧ (Lib.BuilderAt 70 5 B b (.pointer (some ⟨b, 0, none⟩)) [] w' ∧ Below B w w') := Any.Builder_grow_fresh Tryd.lays241 Tryd.Builder_Extra_241 B b n w hB hbk hBw hn
def Tryd.lays165_ren : Go.Shelf.Ren := ⟨fun | 165 => 55 | 240 => 78 | 241 => 79 | 276 => 90 | 277 => 91 | n => n, fun | 70 => 68 | 3 => 3 | 0 => 0 | 4 => 4 | 9 => 9 | 20 => 20 | 72 => 70 | 37 => 22 | 164 => 108 | 5 => 5 | n => n, fun | n => n⟩
theorem Tryd.lays165 : Go.Proofs.Lays.n165 Tryd.prog Tryd.lays165_ren := {
  mixed := by kernel_rfl
  f165 := Tryd.func55.trans (congrArg some (by kernel_rfl))
  f240 := Tryd.func78.trans (congrArg some (by kernel_rfl))
  f241 := Tryd.func79.trans (congrArg some (by kernel_rfl))
  f276 := Tryd.func90.trans (congrArg some (by kernel_rfl))
  f277 := Tryd.func91.trans (congrArg some (by kernel_rfl))
  t0 := Tryd.underlying0
  a0 := Tryd.isAgg0
  z0 := Tryd.sizeOf0
  v0 := Tryd.zeroValue0
  t3 := Tryd.underlying3
  a3 := Tryd.isAgg3
  z3 := Tryd.sizeOf3
  v3 := Tryd.zeroValue3
  t4 := Tryd.underlying4
  a4 := Tryd.isAgg4
  z4 := Tryd.sizeOf4
  v4 := Tryd.zeroValue4
  t9 := Tryd.underlying9
  a9 := Tryd.isAgg9
  z9 := Tryd.sizeOf9
  v9 := Tryd.zeroValue9
  t20 := Tryd.underlying20
  a20 := Tryd.isAgg20
  z20 := Tryd.sizeOf20
  v20 := Tryd.zeroValue20
  t37 := Tryd.underlying22
  a37 := Tryd.isAgg22
  z37 := Tryd.sizeOf22
  v37 := Tryd.zeroValue22
  t70 := Tryd.underlying68
  a70 := Tryd.isAgg68
  z70 := Tryd.sizeOf68
  v70 := Tryd.zeroValue68
  t72 := Tryd.underlying70
  a72 := Tryd.isAgg70
  z72 := Tryd.sizeOf70
  v72 := Tryd.zeroValue70
  t164 := Tryd.underlying108
  a164 := Tryd.isAgg108
  z164 := Tryd.sizeOf108
  v164 := Tryd.zeroValue108 }
theorem Tryd.Builder_Extra_165 : Builder.Extra Tryd.prog Tryd.lays165_ren := {
  sizeBuilder := by kernel_rfl
  liesBuilder := by kernel_rfl
  t5 := Tryd.underlying5
  a5 := Tryd.isAgg5
  z5 := Tryd.sizeOf5
  v5 := Tryd.zeroValue5
  infoByte := by kernel_rfl
  cellsByte := by kernel_rfl
  sizeByte := by kernel_rfl
  neB5 := by decide }
open Go.RowKit in
/-- (*strings.Builder).Grow AT A BUILDER THAT HAS NOT BEEN WRITTEN ('var b strings.Builder; b.Grow(n)'): "Grow grows b's capacity, if necessary, to guarantee space for another n bytes.": it holds no byte behind it as before it. (LAID: no walk: one application.) -/
theorem Tryd.Builder_Grow_fresh (B b n : Nat) (w : World) (hB : B ≤ b) (hbk : w.heap[b]? = some (.cells #[.pointer none, .slice none 0 0] 70 (0, 0))) (hBw : B ≤ w.heap.size) (hn : n ≤ 281474976710656) :
    Calls Tryd.prog 55 #[.pointer (some ⟨b, 0, none⟩), .int .i64 n] w fun e w' => e = .returned (.tuple #[]) ∧ (Lib.BuilderAt 70 5 B b (.pointer (some ⟨b, 0, none⟩)) [] w' ∧ Below B w w') := Any.Builder_Grow_fresh Tryd.lays165 Tryd.Builder_Extra_165 B b n w hB hbk hBw hn
def Tryd.lays120_ren : Go.Shelf.Ren := ⟨fun | 120 => 81 | n => n, fun | 5 => 5 | 4 => 4 | n => n, fun | n => n⟩
theorem Tryd.lays120 : Go.Proofs.Lays.n120 Tryd.prog Tryd.lays120_ren := {
  mixed := by kernel_rfl
  f120 := Tryd.func81.trans (congrArg some (by kernel_rfl))
  t4 := Tryd.underlying4
  a4 := Tryd.isAgg4
  z4 := Tryd.sizeOf4
  v4 := Tryd.zeroValue4
  t5 := Tryd.underlying5
  a5 := Tryd.isAgg5
  z5 := Tryd.sizeOf5
  v5 := Tryd.zeroValue5 }
/-- utf8.RuneStart: "RuneStart reports whether the byte could be the first byte of an encoded, possibly invalid rune. Second and subsequent bytes always have the top two bits set to 10.": IT RETURNS 'Lib.runeStart b'; the world is as it was. ('h0', 'h1': b is a byte: a caller has it of every byte that it was handed.) (LAID: no walk: one application.) -/
theorem Tryd.utf8_RuneStart (b : Int) (w : World) (h0 : 0 ≤ b) (h1 : b < 256) :
    Calls Tryd.prog 81 #[.int .u8 b] w fun e w' => e = .returned (.bool (Lib.runeStart b)) ∧ w' = w := Any.utf8_RuneStart Tryd.lays120 b w h0 h1
def Tryd.lays129_ren : Go.Shelf.Ren := ⟨fun | 129 => 86 | n => n, fun | 53 => 48 | 3 => 3 | 4 => 4 | 46 => 37 | 5 => 5 | 9 => 9 | n => n, fun | n => n⟩
theorem Tryd.lays129 : Go.Proofs.Lays.n129 Tryd.prog Tryd.lays129_ren := {
  mixed := by kernel_rfl
  f129 := Tryd.func86.trans (congrArg some (by kernel_rfl))
  t3 := Tryd.underlying3
  a3 := Tryd.isAgg3
  z3 := Tryd.sizeOf3
  v3 := Tryd.zeroValue3
  t4 := Tryd.underlying4
  a4 := Tryd.isAgg4
  z4 := Tryd.sizeOf4
  v4 := Tryd.zeroValue4
  t5 := Tryd.underlying5
  a5 := Tryd.isAgg5
  z5 := Tryd.sizeOf5
  v5 := Tryd.zeroValue5
  t9 := Tryd.underlying9
  a9 := Tryd.isAgg9
  z9 := Tryd.sizeOf9
  v9 := Tryd.zeroValue9
  t46 := Tryd.underlying37
  a46 := Tryd.isAgg37
  z46 := Tryd.sizeOf37
  v46 := Tryd.zeroValue37
  t53 := Tryd.underlying48
  a53 := Tryd.isAgg48
  z53 := Tryd.sizeOf48
  v53 := Tryd.zeroValue48 }
/-- bits.Len64: "Len64 returns the minimum number of bits required to represent x; the result is 0 for x == 0.": IT RETURNS 'Lib.bitLen x'; the world is as it was. ('h0', 'h1': x is a uint64.) (LAID: no walk: one application.) -/
theorem Tryd.bits_Len64 (x : Int) (w : World) (h0 : 0 ≤ x) (h1 : x ≤ 18446744073709551615) :
    Calls Tryd.prog 86 #[.int .u64 x] w fun e w' => e = .returned (.int .i64 (Lib.bitLen x.toNat)) ∧ w' = w := Any.bits_Len64 Tryd.lays129 x w h0 h1
def Tryd.lays317_ren : Go.Shelf.Ren := ⟨fun | 317 => 85 | n => n, fun | 3 => 3 | 46 => 37 | n => n, fun | n => n⟩
theorem Tryd.lays317 : Go.Proofs.Lays.n317 Tryd.prog Tryd.lays317_ren := {
  mixed := by kernel_rfl
  f317 := Tryd.func85.trans (congrArg some (by kernel_rfl))
  t3 := Tryd.underlying3
  a3 := Tryd.isAgg3
  z3 := Tryd.sizeOf3
  v3 := Tryd.zeroValue3
  t46 := Tryd.underlying37
  a46 := Tryd.isAgg37
  z46 := Tryd.sizeOf37
  v46 := Tryd.zeroValue37 }
open Go.Lib in
/-- internal/strconv.log10Pow2: "log10Pow2(x) returns ⌊log₁₀ 2**x⌋ = ⌊x * log₁₀ 2⌋.": '(x * 78913) >> 18', at an x up to 64 (a length in bits). The world is as it was. (LAID: no walk: one application.) -/
theorem Tryd.internal_strconv_log10Pow2 (x : Nat) (h : x ≤ 64) (w : World) :
    Calls Tryd.prog 85 #[.int .i64 x] w fun e w' => e = .returned (.int .i64 (Lib.l10 x)) ∧ w' = w := Any.internal_strconv_log10Pow2 Tryd.lays317 x h w
def Tryd.lays318_ren : Go.Shelf.Ren := ⟨fun | 318 => 87 | n => n, fun | 3 => 3 | 4 => 4 | n => n, fun | n => n⟩
theorem Tryd.lays318 : Go.Proofs.Lays.n318 Tryd.prog Tryd.lays318_ren := {
  mixed := by kernel_rfl
  f318 := Tryd.func87.trans (congrArg some (by kernel_rfl))
  t3 := Tryd.underlying3
  a3 := Tryd.isAgg3
  z3 := Tryd.sizeOf3
  v3 := Tryd.zeroValue3
  t4 := Tryd.underlying4
  a4 := Tryd.isAgg4
  z4 := Tryd.sizeOf4
  v4 := Tryd.zeroValue4 }
open Go.Lib in
/-- internal/strconv.bool2: "bool2 converts b to an integer: 1 for true, 0 for false." The world is as it was. (LAID: no walk: one application.) -/
theorem Tryd.internal_strconv_bool2_int (b : Bool) (w : World) :
    Calls Tryd.prog 87 #[.bool b] w fun e w' => e = .returned (.int .i64 (if b then 1 else 0)) ∧ w' = w := Any.internal_strconv_bool2_int Tryd.lays318 b w
def Tryd.lays283_ren : Go.Shelf.Ren := ⟨fun | 283 => 71 | n => n, fun | 3 => 3 | 9 => 9 | 4 => 4 | n => n, fun | n => n⟩
theorem Tryd.lays283 : Go.Proofs.Lays.n283 Tryd.prog Tryd.lays283_ren := {
  mixed := by kernel_rfl
  f283 := Tryd.func71.trans (congrArg some (by kernel_rfl))
  t3 := Tryd.underlying3
  a3 := Tryd.isAgg3
  z3 := Tryd.sizeOf3
  v3 := Tryd.zeroValue3
  t4 := Tryd.underlying4
  a4 := Tryd.isAgg4
  z4 := Tryd.sizeOf4
  v4 := Tryd.zeroValue4
  t9 := Tryd.underlying9
  a9 := Tryd.isAgg9
  z9 := Tryd.sizeOf9
  v9 := Tryd.zeroValue9 }
open Go.Lib in
/-- internal/strconv.small: "small returns the string for an i with 0 <= i < nSmalls.": i's decimal numeral. The world is as it was. (LAID: no walk: one application.) -/
theorem Tryd.internal_strconv_small (i : Nat) (h : i < 100) (w : World) :
    Calls Tryd.prog 71 #[.int .i64 i] w fun e w' => e = .returned (.string ⟨(Lib.decDigits i).toArray⟩) ∧ w' = w := Any.internal_strconv_small Tryd.lays283 i h w
def Tryd.laysM284_ren : Go.Shelf.Ren := ⟨fun | 284 => 72 | 129 => 86 | 317 => 85 | 318 => 87 | n => n, fun | 53 => 48 | 3 => 3 | 212 => 104 | 0 => 0 | 4 => 4 | 46 => 37 | 5 => 5 | 9 => 9 | n => n, fun | 17 => 5 | n => n⟩
theorem Tryd.laysM284 : Go.Proofs.LaysM.n284 Tryd.prog Tryd.laysM284_ren := {
  mixed := by kernel_rfl
  f129 := Tryd.func86.trans (congrArg some (by kernel_rfl))
  f284 := Tryd.func72.trans (congrArg some (by kernel_rfl))
  f317 := Tryd.func85.trans (congrArg some (by kernel_rfl))
  f318 := Tryd.func87.trans (congrArg some (by kernel_rfl))
  t0 := Tryd.underlying0
  a0 := Tryd.isAgg0
  z0 := Tryd.sizeOf0
  v0 := Tryd.zeroValue0
  t3 := Tryd.underlying3
  a3 := Tryd.isAgg3
  z3 := Tryd.sizeOf3
  v3 := Tryd.zeroValue3
  t4 := Tryd.underlying4
  a4 := Tryd.isAgg4
  z4 := Tryd.sizeOf4
  v4 := Tryd.zeroValue4
  t5 := Tryd.underlying5
  a5 := Tryd.isAgg5
  z5 := Tryd.sizeOf5
  v5 := Tryd.zeroValue5
  t9 := Tryd.underlying9
  a9 := Tryd.isAgg9
  z9 := Tryd.sizeOf9
  v9 := Tryd.zeroValue9
  t46 := Tryd.underlying37
  a46 := Tryd.isAgg37
  z46 := Tryd.sizeOf37
  v46 := Tryd.zeroValue37
  t53 := Tryd.underlying48
  a53 := Tryd.isAgg48
  z53 := Tryd.sizeOf48
  v53 := Tryd.zeroValue48
  t212 := Tryd.underlying104
  a212 := Tryd.isAgg104
  z212 := Tryd.sizeOf104
  v212 := Tryd.zeroValue104
  g17 := by kernel_rfl
  i0 := by kernel_rfl
  i3 := by kernel_rfl
  i4 := by kernel_rfl
  i5 := by kernel_rfl
  i9 := by kernel_rfl
  i46 := by kernel_rfl
  i53 := by kernel_rfl
  i212 := by kernel_rfl
  m17 := by kernel_rfl }
open Go.Lib in
/-- internal/strconv.numDigits, at a d that is not 0: THE NUMBER OF d's DECIMAL DIGITS. The world is as it was. (LAID: no walk: one application.) -/
theorem Tryd.internal_strconv_numDigits (u : Nat) (h1 : 1 ≤ u) (h2 : u < 18446744073709551616) (w : World) (htab : Lib.TabIs Tryd.prog w "internal/strconv.uint64pow10" .u64 Lib.pow10Tab) :
    Calls Tryd.prog 72 #[.int .u64 u] w fun e w' => e = .returned (.int .i64 (Lib.nDigits u)) ∧ w' = w := Any.internal_strconv_numDigits Tryd.laysM284 u h1 h2 w htab
def Tryd.lays285_ren : Go.Shelf.Ren := ⟨fun | 285 => 73 | n => n, fun | 37 => 22 | 53 => 48 | 3 => 3 | 4 => 4 | 51 => 92 | 9 => 9 | 5 => 5 | 0 => 0 | n => n, fun | n => n⟩
theorem Tryd.lays285 : Go.Proofs.Lays.n285 Tryd.prog Tryd.lays285_ren := {
  mixed := by kernel_rfl
  f285 := Tryd.func73.trans (congrArg some (by kernel_rfl))
  t0 := Tryd.underlying0
  a0 := Tryd.isAgg0
  z0 := Tryd.sizeOf0
  v0 := Tryd.zeroValue0
  t3 := Tryd.underlying3
  a3 := Tryd.isAgg3
  z3 := Tryd.sizeOf3
  v3 := Tryd.zeroValue3
  t4 := Tryd.underlying4
  a4 := Tryd.isAgg4
  z4 := Tryd.sizeOf4
  v4 := Tryd.zeroValue4
  t5 := Tryd.underlying5
  a5 := Tryd.isAgg5
  z5 := Tryd.sizeOf5
  v5 := Tryd.zeroValue5
  t9 := Tryd.underlying9
  a9 := Tryd.isAgg9
  z9 := Tryd.sizeOf9
  v9 := Tryd.zeroValue9
  t37 := Tryd.underlying22
  a37 := Tryd.isAgg22
  z37 := Tryd.sizeOf22
  v37 := Tryd.zeroValue22
  t51 := Tryd.underlying92
  a51 := Tryd.isAgg92
  z51 := Tryd.sizeOf92
  v51 := Tryd.zeroValue92
  t53 := Tryd.underlying48
  a53 := Tryd.isAgg48
  z53 := Tryd.sizeOf48
  v53 := Tryd.zeroValue48 }
open Go.RowKit Go.Sort Go.Lib in
/-- internal/strconv.formatBase10: "formatBase10 formats the decimal representation of u into a. The caller is responsible for ensuring that a is big enough to hold u. If a is too big, leading zeros will be filled in as needed.": THE ROW HOLDS u's DIGITS ('FmtInv .. 0 ..': every place t holds 'dg u (len - 1 - t)'); all else is as it was but for the count of draws. (LAID: no walk: one application.) -/
theorem Tryd.internal_strconv_formatBase10 (blk off cap : Nat) (u : Nat) (d : Array UInt8) (w : World) (hH : Holds (fun (b : UInt8) => Value.int .u8 (b.toNat : Int)) w blk off d) (hu : u < 10 ^ d.size) (hu64 : u < 18446744073709551616) (hsz : d.size < 4611686018427387904) :
    Calls Tryd.prog 73 #[.slice (some ⟨blk, off, none⟩) d.size cap, .int .u64 u] w fun e w' =>
      e = .returned (.tuple #[]) ∧ ∃ (n v' : Nat) (dk : Array UInt8), w' = (putRow (fun (b : UInt8) => Value.int .u8 (b.toNat : Int)) w blk off dk).drewN n ∧ FmtInv d.size u 0 v' dk := Any.internal_strconv_formatBase10 Tryd.lays285 blk off cap u d w hH hu hu64 hsz
def Tryd.laysM246_ren : Go.Shelf.Ren := ⟨fun | 246 => 52 | 283 => 71 | 284 => 72 | 285 => 73 | 286 => 74 | 129 => 86 | 317 => 85 | 318 => 87 | 319 => 88 | 320 => 89 | 337 => 93 | 338 => 94 | n => n, fun | 2 => 2 | 3 => 3 | 9 => 9 | 4 => 4 | 171 => 87 | 0 => 0 | 53 => 48 | 37 => 22 | 5 => 5 | 173 => 90 | 212 => 104 | 51 => 92 | 20 => 20 | 213 => 105 | 46 => 37 | 232 => 119 | 233 => 120 | n => n, fun | 17 => 5 | 18 => 8 | 19 => 9 | n => n⟩
theorem Tryd.laysM246 : Go.Proofs.LaysM.n246 Tryd.prog Tryd.laysM246_ren := {
  mixed := by kernel_rfl
  f129 := Tryd.func86.trans (congrArg some (by kernel_rfl))
  f246 := Tryd.func52.trans (congrArg some (by kernel_rfl))
  f283 := Tryd.func71.trans (congrArg some (by kernel_rfl))
  f284 := Tryd.func72.trans (congrArg some (by kernel_rfl))
  f285 := Tryd.func73.trans (congrArg some (by kernel_rfl))
  f286 := Tryd.func74.trans (congrArg some (by kernel_rfl))
  f317 := Tryd.func85.trans (congrArg some (by kernel_rfl))
  f318 := Tryd.func87.trans (congrArg some (by kernel_rfl))
  f319 := Tryd.func88.trans (congrArg some (by kernel_rfl))
  f320 := Tryd.func89.trans (congrArg some (by kernel_rfl))
  f337 := Tryd.func93.trans (congrArg some (by kernel_rfl))
  f338 := Tryd.func94.trans (congrArg some (by kernel_rfl))
  t0 := Tryd.underlying0
  a0 := Tryd.isAgg0
  z0 := Tryd.sizeOf0
  v0 := Tryd.zeroValue0
  t2 := Tryd.underlying2
  a2 := Tryd.isAgg2
  z2 := Tryd.sizeOf2
  v2 := Tryd.zeroValue2
  t3 := Tryd.underlying3
  a3 := Tryd.isAgg3
  z3 := Tryd.sizeOf3
  v3 := Tryd.zeroValue3
  t4 := Tryd.underlying4
  a4 := Tryd.isAgg4
  z4 := Tryd.sizeOf4
  v4 := Tryd.zeroValue4
  t5 := Tryd.underlying5
  a5 := Tryd.isAgg5
  z5 := Tryd.sizeOf5
  v5 := Tryd.zeroValue5
  t9 := Tryd.underlying9
  a9 := Tryd.isAgg9
  z9 := Tryd.sizeOf9
  v9 := Tryd.zeroValue9
  t20 := Tryd.underlying20
  a20 := Tryd.isAgg20
  z20 := Tryd.sizeOf20
  v20 := Tryd.zeroValue20
  t37 := Tryd.underlying22
  a37 := Tryd.isAgg22
  z37 := Tryd.sizeOf22
  v37 := Tryd.zeroValue22
  t46 := Tryd.underlying37
  a46 := Tryd.isAgg37
  z46 := Tryd.sizeOf37
  v46 := Tryd.zeroValue37
  t51 := Tryd.underlying92
  a51 := Tryd.isAgg92
  z51 := Tryd.sizeOf92
  v51 := Tryd.zeroValue92
  t53 := Tryd.underlying48
  a53 := Tryd.isAgg48
  z53 := Tryd.sizeOf48
  v53 := Tryd.zeroValue48
  t171 := Tryd.underlying87
  a171 := Tryd.isAgg87
  z171 := Tryd.sizeOf87
  v171 := Tryd.zeroValue87
  t173 := Tryd.underlying90
  a173 := Tryd.isAgg90
  z173 := Tryd.sizeOf90
  v173 := Tryd.zeroValue90
  t212 := Tryd.underlying104
  a212 := Tryd.isAgg104
  z212 := Tryd.sizeOf104
  v212 := Tryd.zeroValue104
  t213 := Tryd.underlying105
  a213 := Tryd.isAgg105
  z213 := Tryd.sizeOf105
  t232 := Tryd.underlying119
  a232 := Tryd.isAgg119
  z232 := Tryd.sizeOf119
  v232 := Tryd.zeroValue119
  t233 := Tryd.underlying120
  a233 := Tryd.isAgg120
  z233 := Tryd.sizeOf120
  v233 := Tryd.zeroValue120
  g17 := by kernel_rfl
  g18 := by kernel_rfl
  g19 := by kernel_rfl
  i0 := by kernel_rfl
  i2 := by kernel_rfl
  i3 := by kernel_rfl
  i4 := by kernel_rfl
  i5 := by kernel_rfl
  i9 := by kernel_rfl
  i20 := by kernel_rfl
  i37 := by kernel_rfl
  i46 := by kernel_rfl
  i51 := by kernel_rfl
  i53 := by kernel_rfl
  i171 := by kernel_rfl
  i173 := by kernel_rfl
  i212 := by kernel_rfl
  i232 := by kernel_rfl
  i233 := by kernel_rfl
  m17 := by kernel_rfl
  m18 := by kernel_rfl
  m19 := by kernel_rfl }
open Go.RowKit Go.Sort Go.Lib in
/-- internal/strconv.FormatInt: "FormatInt returns the string representation of i in the given base": AT BASE 10: i's decimal numeral, for every int64. The world behind the call: the world before it, new blocks behind the heap, draws. (LAID: no walk: one application.) -/
theorem Tryd.internal_strconv_FormatInt_10 (n : Int) (h0 : -9223372036854775808 ≤ n) (h1 : n ≤ 9223372036854775807) (w : World) (htab : Lib.TabIs Tryd.prog w "internal/strconv.uint64pow10" .u64 Lib.pow10Tab) :
    Calls Tryd.prog 52 #[.int .i64 n, .int .i64 10] w fun e w' => e = .returned (.string ⟨(Lib.itoa n).toArray⟩) ∧ ∃ k os, w' = grow (w.drewN k) os := Any.internal_strconv_FormatInt_10 Tryd.laysM246 n h0 h1 w htab
def Tryd.lays246_ren : Go.Shelf.Ren := ⟨fun | 246 => 52 | 283 => 71 | 284 => 72 | 285 => 73 | 286 => 74 | 129 => 86 | 317 => 85 | 318 => 87 | 319 => 88 | 320 => 89 | 337 => 93 | 338 => 94 | n => n, fun | 2 => 2 | 3 => 3 | 9 => 9 | 4 => 4 | 171 => 87 | 0 => 0 | 53 => 48 | 37 => 22 | 5 => 5 | 173 => 90 | 212 => 104 | 51 => 92 | 20 => 20 | 213 => 105 | 46 => 37 | 232 => 119 | 233 => 120 | n => n, fun | 17 => 5 | 18 => 8 | 19 => 9 | n => n⟩
theorem Tryd.lays246 : Go.Proofs.Lays.n246 Tryd.prog Tryd.lays246_ren := {
  mixed := by kernel_rfl
  f129 := Tryd.func86.trans (congrArg some (by kernel_rfl))
  f246 := Tryd.func52.trans (congrArg some (by kernel_rfl))
  f283 := Tryd.func71.trans (congrArg some (by kernel_rfl))
  f284 := Tryd.func72.trans (congrArg some (by kernel_rfl))
  f285 := Tryd.func73.trans (congrArg some (by kernel_rfl))
  f286 := Tryd.func74.trans (congrArg some (by kernel_rfl))
  f317 := Tryd.func85.trans (congrArg some (by kernel_rfl))
  f318 := Tryd.func87.trans (congrArg some (by kernel_rfl))
  f319 := Tryd.func88.trans (congrArg some (by kernel_rfl))
  f320 := Tryd.func89.trans (congrArg some (by kernel_rfl))
  f337 := Tryd.func93.trans (congrArg some (by kernel_rfl))
  f338 := Tryd.func94.trans (congrArg some (by kernel_rfl))
  t0 := Tryd.underlying0
  a0 := Tryd.isAgg0
  z0 := Tryd.sizeOf0
  v0 := Tryd.zeroValue0
  t2 := Tryd.underlying2
  a2 := Tryd.isAgg2
  z2 := Tryd.sizeOf2
  v2 := Tryd.zeroValue2
  t3 := Tryd.underlying3
  a3 := Tryd.isAgg3
  z3 := Tryd.sizeOf3
  v3 := Tryd.zeroValue3
  t4 := Tryd.underlying4
  a4 := Tryd.isAgg4
  z4 := Tryd.sizeOf4
  v4 := Tryd.zeroValue4
  t5 := Tryd.underlying5
  a5 := Tryd.isAgg5
  z5 := Tryd.sizeOf5
  v5 := Tryd.zeroValue5
  t9 := Tryd.underlying9
  a9 := Tryd.isAgg9
  z9 := Tryd.sizeOf9
  v9 := Tryd.zeroValue9
  t20 := Tryd.underlying20
  a20 := Tryd.isAgg20
  z20 := Tryd.sizeOf20
  v20 := Tryd.zeroValue20
  t37 := Tryd.underlying22
  a37 := Tryd.isAgg22
  z37 := Tryd.sizeOf22
  v37 := Tryd.zeroValue22
  t46 := Tryd.underlying37
  a46 := Tryd.isAgg37
  z46 := Tryd.sizeOf37
  v46 := Tryd.zeroValue37
  t51 := Tryd.underlying92
  a51 := Tryd.isAgg92
  z51 := Tryd.sizeOf92
  v51 := Tryd.zeroValue92
  t53 := Tryd.underlying48
  a53 := Tryd.isAgg48
  z53 := Tryd.sizeOf48
  v53 := Tryd.zeroValue48
  t171 := Tryd.underlying87
  a171 := Tryd.isAgg87
  z171 := Tryd.sizeOf87
  v171 := Tryd.zeroValue87
  t173 := Tryd.underlying90
  a173 := Tryd.isAgg90
  z173 := Tryd.sizeOf90
  v173 := Tryd.zeroValue90
  t212 := Tryd.underlying104
  a212 := Tryd.isAgg104
  z212 := Tryd.sizeOf104
  v212 := Tryd.zeroValue104
  t213 := Tryd.underlying105
  a213 := Tryd.isAgg105
  z213 := Tryd.sizeOf105
  t232 := Tryd.underlying119
  a232 := Tryd.isAgg119
  z232 := Tryd.sizeOf119
  v232 := Tryd.zeroValue119
  t233 := Tryd.underlying120
  a233 := Tryd.isAgg120
  z233 := Tryd.sizeOf120
  v233 := Tryd.zeroValue120
  g17 := by kernel_rfl
  g18 := by kernel_rfl
  g19 := by kernel_rfl }
open Go.RowKit Go.Sort Go.Lib in
/-- THE ROAD WITHOUT THE TABLE: 0 <= i < 100: two constants are read, nothing is laid: no premise on the world, and the world is as it was. (LAID: no walk: one application.) -/
theorem Tryd.internal_strconv_FormatInt_10_small (i : Nat) (hi : i < 100) (w : World) :
    Calls Tryd.prog 52 #[.int .i64 i, .int .i64 10] w fun e w' => e = .returned (.string ⟨(Lib.decDigits i).toArray⟩) ∧ w' = w := Any.internal_strconv_FormatInt_10_small Tryd.lays246 i hi w
def Tryd.laysM243_ren : Go.Shelf.Ren := ⟨fun | 243 => 92 | 246 => 52 | 283 => 71 | 284 => 72 | 285 => 73 | 286 => 74 | 129 => 86 | 317 => 85 | 318 => 87 | 319 => 88 | 320 => 89 | 337 => 93 | 338 => 94 | n => n, fun | 3 => 3 | 9 => 9 | 2 => 2 | 4 => 4 | 171 => 87 | 0 => 0 | 53 => 48 | 37 => 22 | 5 => 5 | 173 => 90 | 212 => 104 | 51 => 92 | 20 => 20 | 213 => 105 | 46 => 37 | 232 => 119 | 233 => 120 | n => n, fun | 17 => 5 | 18 => 8 | 19 => 9 | n => n⟩
theorem Tryd.laysM243 : Go.Proofs.LaysM.n243 Tryd.prog Tryd.laysM243_ren := {
  mixed := by kernel_rfl
  f129 := Tryd.func86.trans (congrArg some (by kernel_rfl))
  f243 := Tryd.func92.trans (congrArg some (by kernel_rfl))
  f246 := Tryd.func52.trans (congrArg some (by kernel_rfl))
  f283 := Tryd.func71.trans (congrArg some (by kernel_rfl))
  f284 := Tryd.func72.trans (congrArg some (by kernel_rfl))
  f285 := Tryd.func73.trans (congrArg some (by kernel_rfl))
  f286 := Tryd.func74.trans (congrArg some (by kernel_rfl))
  f317 := Tryd.func85.trans (congrArg some (by kernel_rfl))
  f318 := Tryd.func87.trans (congrArg some (by kernel_rfl))
  f319 := Tryd.func88.trans (congrArg some (by kernel_rfl))
  f320 := Tryd.func89.trans (congrArg some (by kernel_rfl))
  f337 := Tryd.func93.trans (congrArg some (by kernel_rfl))
  f338 := Tryd.func94.trans (congrArg some (by kernel_rfl))
  t0 := Tryd.underlying0
  a0 := Tryd.isAgg0
  z0 := Tryd.sizeOf0
  v0 := Tryd.zeroValue0
  t2 := Tryd.underlying2
  a2 := Tryd.isAgg2
  z2 := Tryd.sizeOf2
  v2 := Tryd.zeroValue2
  t3 := Tryd.underlying3
  a3 := Tryd.isAgg3
  z3 := Tryd.sizeOf3
  v3 := Tryd.zeroValue3
  t4 := Tryd.underlying4
  a4 := Tryd.isAgg4
  z4 := Tryd.sizeOf4
  v4 := Tryd.zeroValue4
  t5 := Tryd.underlying5
  a5 := Tryd.isAgg5
  z5 := Tryd.sizeOf5
  v5 := Tryd.zeroValue5
  t9 := Tryd.underlying9
  a9 := Tryd.isAgg9
  z9 := Tryd.sizeOf9
  v9 := Tryd.zeroValue9
  t20 := Tryd.underlying20
  a20 := Tryd.isAgg20
  z20 := Tryd.sizeOf20
  v20 := Tryd.zeroValue20
  t37 := Tryd.underlying22
  a37 := Tryd.isAgg22
  z37 := Tryd.sizeOf22
  v37 := Tryd.zeroValue22
  t46 := Tryd.underlying37
  a46 := Tryd.isAgg37
  z46 := Tryd.sizeOf37
  v46 := Tryd.zeroValue37
  t51 := Tryd.underlying92
  a51 := Tryd.isAgg92
  z51 := Tryd.sizeOf92
  v51 := Tryd.zeroValue92
  t53 := Tryd.underlying48
  a53 := Tryd.isAgg48
  z53 := Tryd.sizeOf48
  v53 := Tryd.zeroValue48
  t171 := Tryd.underlying87
  a171 := Tryd.isAgg87
  z171 := Tryd.sizeOf87
  v171 := Tryd.zeroValue87
  t173 := Tryd.underlying90
  a173 := Tryd.isAgg90
  z173 := Tryd.sizeOf90
  v173 := Tryd.zeroValue90
  t212 := Tryd.underlying104
  a212 := Tryd.isAgg104
  z212 := Tryd.sizeOf104
  v212 := Tryd.zeroValue104
  t213 := Tryd.underlying105
  a213 := Tryd.isAgg105
  z213 := Tryd.sizeOf105
  t232 := Tryd.underlying119
  a232 := Tryd.isAgg119
  z232 := Tryd.sizeOf119
  v232 := Tryd.zeroValue119
  t233 := Tryd.underlying120
  a233 := Tryd.isAgg120
  z233 := Tryd.sizeOf120
  v233 := Tryd.zeroValue120
  g17 := by kernel_rfl
  g18 := by kernel_rfl
  g19 := by kernel_rfl
  i0 := by kernel_rfl
  i2 := by kernel_rfl
  i3 := by kernel_rfl
  i4 := by kernel_rfl
  i5 := by kernel_rfl
  i9 := by kernel_rfl
  i20 := by kernel_rfl
  i37 := by kernel_rfl
  i46 := by kernel_rfl
  i51 := by kernel_rfl
  i53 := by kernel_rfl
  i171 := by kernel_rfl
  i173 := by kernel_rfl
  i212 := by kernel_rfl
  i232 := by kernel_rfl
  i233 := by kernel_rfl
  m17 := by kernel_rfl
  m18 := by kernel_rfl
  m19 := by kernel_rfl }
open Go.RowKit Go.Sort Go.Lib in
/-- internal/strconv.Itoa: "Itoa is equivalent to FormatInt(int64(i), 10).": i's decimal numeral, for every int. (LAID: no walk: one application.) -/
theorem Tryd.internal_strconv_Itoa (n : Int) (h0 : -9223372036854775808 ≤ n) (h1 : n ≤ 9223372036854775807) (w : World) (htab : Lib.TabIs Tryd.prog w "internal/strconv.uint64pow10" .u64 Lib.pow10Tab) :
    Calls Tryd.prog 92 #[.int .i64 n] w fun e w' => e = .returned (.string ⟨(Lib.itoa n).toArray⟩) ∧ ∃ k os, w' = grow (w.drewN k) os := Any.internal_strconv_Itoa Tryd.laysM243 n h0 h1 w htab
def Tryd.lays243_ren : Go.Shelf.Ren := ⟨fun | 243 => 92 | 246 => 52 | 283 => 71 | 284 => 72 | 285 => 73 | 286 => 74 | 129 => 86 | 317 => 85 | 318 => 87 | 319 => 88 | 320 => 89 | 337 => 93 | 338 => 94 | n => n, fun | 3 => 3 | 9 => 9 | 2 => 2 | 4 => 4 | 171 => 87 | 0 => 0 | 53 => 48 | 37 => 22 | 5 => 5 | 173 => 90 | 212 => 104 | 51 => 92 | 20 => 20 | 213 => 105 | 46 => 37 | 232 => 119 | 233 => 120 | n => n, fun | 17 => 5 | 18 => 8 | 19 => 9 | n => n⟩
theorem Tryd.lays243 : Go.Proofs.Lays.n243 Tryd.prog Tryd.lays243_ren := {
  mixed := by kernel_rfl
  f129 := Tryd.func86.trans (congrArg some (by kernel_rfl))
  f243 := Tryd.func92.trans (congrArg some (by kernel_rfl))
  f246 := Tryd.func52.trans (congrArg some (by kernel_rfl))
  f283 := Tryd.func71.trans (congrArg some (by kernel_rfl))
  f284 := Tryd.func72.trans (congrArg some (by kernel_rfl))
  f285 := Tryd.func73.trans (congrArg some (by kernel_rfl))
  f286 := Tryd.func74.trans (congrArg some (by kernel_rfl))
  f317 := Tryd.func85.trans (congrArg some (by kernel_rfl))
  f318 := Tryd.func87.trans (congrArg some (by kernel_rfl))
  f319 := Tryd.func88.trans (congrArg some (by kernel_rfl))
  f320 := Tryd.func89.trans (congrArg some (by kernel_rfl))
  f337 := Tryd.func93.trans (congrArg some (by kernel_rfl))
  f338 := Tryd.func94.trans (congrArg some (by kernel_rfl))
  t0 := Tryd.underlying0
  a0 := Tryd.isAgg0
  z0 := Tryd.sizeOf0
  v0 := Tryd.zeroValue0
  t2 := Tryd.underlying2
  a2 := Tryd.isAgg2
  z2 := Tryd.sizeOf2
  v2 := Tryd.zeroValue2
  t3 := Tryd.underlying3
  a3 := Tryd.isAgg3
  z3 := Tryd.sizeOf3
  v3 := Tryd.zeroValue3
  t4 := Tryd.underlying4
  a4 := Tryd.isAgg4
  z4 := Tryd.sizeOf4
  v4 := Tryd.zeroValue4
  t5 := Tryd.underlying5
  a5 := Tryd.isAgg5
  z5 := Tryd.sizeOf5
  v5 := Tryd.zeroValue5
  t9 := Tryd.underlying9
  a9 := Tryd.isAgg9
  z9 := Tryd.sizeOf9
  v9 := Tryd.zeroValue9
  t20 := Tryd.underlying20
  a20 := Tryd.isAgg20
  z20 := Tryd.sizeOf20
  v20 := Tryd.zeroValue20
  t37 := Tryd.underlying22
  a37 := Tryd.isAgg22
  z37 := Tryd.sizeOf22
  v37 := Tryd.zeroValue22
  t46 := Tryd.underlying37
  a46 := Tryd.isAgg37
  z46 := Tryd.sizeOf37
  v46 := Tryd.zeroValue37
  t51 := Tryd.underlying92
  a51 := Tryd.isAgg92
  z51 := Tryd.sizeOf92
  v51 := Tryd.zeroValue92
  t53 := Tryd.underlying48
  a53 := Tryd.isAgg48
  z53 := Tryd.sizeOf48
  v53 := Tryd.zeroValue48
  t171 := Tryd.underlying87
  a171 := Tryd.isAgg87
  z171 := Tryd.sizeOf87
  v171 := Tryd.zeroValue87
  t173 := Tryd.underlying90
  a173 := Tryd.isAgg90
  z173 := Tryd.sizeOf90
  v173 := Tryd.zeroValue90
  t212 := Tryd.underlying104
  a212 := Tryd.isAgg104
  z212 := Tryd.sizeOf104
  v212 := Tryd.zeroValue104
  t213 := Tryd.underlying105
  a213 := Tryd.isAgg105
  z213 := Tryd.sizeOf105
  t232 := Tryd.underlying119
  a232 := Tryd.isAgg119
  z232 := Tryd.sizeOf119
  v232 := Tryd.zeroValue119
  t233 := Tryd.underlying120
  a233 := Tryd.isAgg120
  z233 := Tryd.sizeOf120
  v233 := Tryd.zeroValue120
  g17 := by kernel_rfl
  g18 := by kernel_rfl
  g19 := by kernel_rfl }
open Go.RowKit Go.Sort Go.Lib in
/-- THE ROAD WITHOUT THE TABLE: 0 <= i < 100. (LAID: no walk: one application.) -/
theorem Tryd.internal_strconv_Itoa_small (i : Nat) (hi : i < 100) (w : World) :
    Calls Tryd.prog 92 #[.int .i64 i] w fun e w' => e = .returned (.string ⟨(Lib.decDigits i).toArray⟩) ∧ w' = w := Any.internal_strconv_Itoa_small Tryd.lays243 i hi w
def Tryd.laysM171_ren : Go.Shelf.Ren := ⟨fun | 171 => 84 | 243 => 92 | 246 => 52 | 283 => 71 | 284 => 72 | 285 => 73 | 286 => 74 | 129 => 86 | 317 => 85 | 318 => 87 | 319 => 88 | 320 => 89 | 337 => 93 | 338 => 94 | n => n, fun | 3 => 3 | 9 => 9 | 2 => 2 | 4 => 4 | 171 => 87 | 0 => 0 | 53 => 48 | 37 => 22 | 5 => 5 | 173 => 90 | 212 => 104 | 51 => 92 | 20 => 20 | 213 => 105 | 46 => 37 | 232 => 119 | 233 => 120 | n => n, fun | 17 => 5 | 18 => 8 | 19 => 9 | n => n⟩
theorem Tryd.laysM171 : Go.Proofs.LaysM.n171 Tryd.prog Tryd.laysM171_ren := {
  mixed := by kernel_rfl
  f129 := Tryd.func86.trans (congrArg some (by kernel_rfl))
  f171 := Tryd.func84.trans (congrArg some (by kernel_rfl))
  f243 := Tryd.func92.trans (congrArg some (by kernel_rfl))
  f246 := Tryd.func52.trans (congrArg some (by kernel_rfl))
  f283 := Tryd.func71.trans (congrArg some (by kernel_rfl))
  f284 := Tryd.func72.trans (congrArg some (by kernel_rfl))
  f285 := Tryd.func73.trans (congrArg some (by kernel_rfl))
  f286 := Tryd.func74.trans (congrArg some (by kernel_rfl))
  f317 := Tryd.func85.trans (congrArg some (by kernel_rfl))
  f318 := Tryd.func87.trans (congrArg some (by kernel_rfl))
  f319 := Tryd.func88.trans (congrArg some (by kernel_rfl))
  f320 := Tryd.func89.trans (congrArg some (by kernel_rfl))
  f337 := Tryd.func93.trans (congrArg some (by kernel_rfl))
  f338 := Tryd.func94.trans (congrArg some (by kernel_rfl))
  t0 := Tryd.underlying0
  a0 := Tryd.isAgg0
  z0 := Tryd.sizeOf0
  v0 := Tryd.zeroValue0
  t2 := Tryd.underlying2
  a2 := Tryd.isAgg2
  z2 := Tryd.sizeOf2
  v2 := Tryd.zeroValue2
  t3 := Tryd.underlying3
  a3 := Tryd.isAgg3
  z3 := Tryd.sizeOf3
  v3 := Tryd.zeroValue3
  t4 := Tryd.underlying4
  a4 := Tryd.isAgg4
  z4 := Tryd.sizeOf4
  v4 := Tryd.zeroValue4
  t5 := Tryd.underlying5
  a5 := Tryd.isAgg5
  z5 := Tryd.sizeOf5
  v5 := Tryd.zeroValue5
  t9 := Tryd.underlying9
  a9 := Tryd.isAgg9
  z9 := Tryd.sizeOf9
  v9 := Tryd.zeroValue9
  t20 := Tryd.underlying20
  a20 := Tryd.isAgg20
  z20 := Tryd.sizeOf20
  v20 := Tryd.zeroValue20
  t37 := Tryd.underlying22
  a37 := Tryd.isAgg22
  z37 := Tryd.sizeOf22
  v37 := Tryd.zeroValue22
  t46 := Tryd.underlying37
  a46 := Tryd.isAgg37
  z46 := Tryd.sizeOf37
  v46 := Tryd.zeroValue37
  t51 := Tryd.underlying92
  a51 := Tryd.isAgg92
  z51 := Tryd.sizeOf92
  v51 := Tryd.zeroValue92
  t53 := Tryd.underlying48
  a53 := Tryd.isAgg48
  z53 := Tryd.sizeOf48
  v53 := Tryd.zeroValue48
  t171 := Tryd.underlying87
  a171 := Tryd.isAgg87
  z171 := Tryd.sizeOf87
  v171 := Tryd.zeroValue87
  t173 := Tryd.underlying90
  a173 := Tryd.isAgg90
  z173 := Tryd.sizeOf90
  v173 := Tryd.zeroValue90
  t212 := Tryd.underlying104
  a212 := Tryd.isAgg104
  z212 := Tryd.sizeOf104
  v212 := Tryd.zeroValue104
  t213 := Tryd.underlying105
  a213 := Tryd.isAgg105
  z213 := Tryd.sizeOf105
  t232 := Tryd.underlying119
  a232 := Tryd.isAgg119
  z232 := Tryd.sizeOf119
  v232 := Tryd.zeroValue119
  t233 := Tryd.underlying120
  a233 := Tryd.isAgg120
  z233 := Tryd.sizeOf120
  v233 := Tryd.zeroValue120
  g17 := by kernel_rfl
  g18 := by kernel_rfl
  g19 := by kernel_rfl
  i0 := by kernel_rfl
  i2 := by kernel_rfl
  i3 := by kernel_rfl
  i4 := by kernel_rfl
  i5 := by kernel_rfl
  i9 := by kernel_rfl
  i20 := by kernel_rfl
  i37 := by kernel_rfl
  i46 := by kernel_rfl
  i51 := by kernel_rfl
  i53 := by kernel_rfl
  i171 := by kernel_rfl
  i173 := by kernel_rfl
  i212 := by kernel_rfl
  i232 := by kernel_rfl
  i233 := by kernel_rfl
  m17 := by kernel_rfl
  m18 := by kernel_rfl
  m19 := by kernel_rfl }
open Go.RowKit Go.Sort Go.Lib in
/-- strconv.Itoa: "Itoa is equivalent to FormatInt(int64(i), 10).": i's DECIMAL NUMERAL ('Lib.itoa': a '-' where i is negative, then the digits), FOR EVERY int. The world behind the call: the world before it, new blocks behind the heap (the library's 'var a [24]byte'), draws. (LAID: no walk: one application.) -/
theorem Tryd.strconv_Itoa (n : Int) (h0 : -9223372036854775808 ≤ n) (h1 : n ≤ 9223372036854775807) (w : World) (htab : Lib.TabIs Tryd.prog w "internal/strconv.uint64pow10" .u64 Lib.pow10Tab) :
    Calls Tryd.prog 84 #[.int .i64 n] w fun e w' => e = .returned (.string ⟨(Lib.itoa n).toArray⟩) ∧ ∃ k os, w' = grow (w.drewN k) os := Any.strconv_Itoa Tryd.laysM171 n h0 h1 w htab
def Tryd.lays171_ren : Go.Shelf.Ren := ⟨fun | 171 => 84 | 243 => 92 | 246 => 52 | 283 => 71 | 284 => 72 | 285 => 73 | 286 => 74 | 129 => 86 | 317 => 85 | 318 => 87 | 319 => 88 | 320 => 89 | 337 => 93 | 338 => 94 | n => n, fun | 3 => 3 | 9 => 9 | 2 => 2 | 4 => 4 | 171 => 87 | 0 => 0 | 53 => 48 | 37 => 22 | 5 => 5 | 173 => 90 | 212 => 104 | 51 => 92 | 20 => 20 | 213 => 105 | 46 => 37 | 232 => 119 | 233 => 120 | n => n, fun | 17 => 5 | 18 => 8 | 19 => 9 | n => n⟩
theorem Tryd.lays171 : Go.Proofs.Lays.n171 Tryd.prog Tryd.lays171_ren := {
  mixed := by kernel_rfl
  f129 := Tryd.func86.trans (congrArg some (by kernel_rfl))
  f171 := Tryd.func84.trans (congrArg some (by kernel_rfl))
  f243 := Tryd.func92.trans (congrArg some (by kernel_rfl))
  f246 := Tryd.func52.trans (congrArg some (by kernel_rfl))
  f283 := Tryd.func71.trans (congrArg some (by kernel_rfl))
  f284 := Tryd.func72.trans (congrArg some (by kernel_rfl))
  f285 := Tryd.func73.trans (congrArg some (by kernel_rfl))
  f286 := Tryd.func74.trans (congrArg some (by kernel_rfl))
  f317 := Tryd.func85.trans (congrArg some (by kernel_rfl))
  f318 := Tryd.func87.trans (congrArg some (by kernel_rfl))
  f319 := Tryd.func88.trans (congrArg some (by kernel_rfl))
  f320 := Tryd.func89.trans (congrArg some (by kernel_rfl))
  f337 := Tryd.func93.trans (congrArg some (by kernel_rfl))
  f338 := Tryd.func94.trans (congrArg some (by kernel_rfl))
  t0 := Tryd.underlying0
  a0 := Tryd.isAgg0
  z0 := Tryd.sizeOf0
  v0 := Tryd.zeroValue0
  t2 := Tryd.underlying2
  a2 := Tryd.isAgg2
  z2 := Tryd.sizeOf2
  v2 := Tryd.zeroValue2
  t3 := Tryd.underlying3
  a3 := Tryd.isAgg3
  z3 := Tryd.sizeOf3
  v3 := Tryd.zeroValue3
  t4 := Tryd.underlying4
  a4 := Tryd.isAgg4
  z4 := Tryd.sizeOf4
  v4 := Tryd.zeroValue4
  t5 := Tryd.underlying5
  a5 := Tryd.isAgg5
  z5 := Tryd.sizeOf5
  v5 := Tryd.zeroValue5
  t9 := Tryd.underlying9
  a9 := Tryd.isAgg9
  z9 := Tryd.sizeOf9
  v9 := Tryd.zeroValue9
  t20 := Tryd.underlying20
  a20 := Tryd.isAgg20
  z20 := Tryd.sizeOf20
  v20 := Tryd.zeroValue20
  t37 := Tryd.underlying22
  a37 := Tryd.isAgg22
  z37 := Tryd.sizeOf22
  v37 := Tryd.zeroValue22
  t46 := Tryd.underlying37
  a46 := Tryd.isAgg37
  z46 := Tryd.sizeOf37
  v46 := Tryd.zeroValue37
  t51 := Tryd.underlying92
  a51 := Tryd.isAgg92
  z51 := Tryd.sizeOf92
  v51 := Tryd.zeroValue92
  t53 := Tryd.underlying48
  a53 := Tryd.isAgg48
  z53 := Tryd.sizeOf48
  v53 := Tryd.zeroValue48
  t171 := Tryd.underlying87
  a171 := Tryd.isAgg87
  z171 := Tryd.sizeOf87
  v171 := Tryd.zeroValue87
  t173 := Tryd.underlying90
  a173 := Tryd.isAgg90
  z173 := Tryd.sizeOf90
  v173 := Tryd.zeroValue90
  t212 := Tryd.underlying104
  a212 := Tryd.isAgg104
  z212 := Tryd.sizeOf104
  v212 := Tryd.zeroValue104
  t213 := Tryd.underlying105
  a213 := Tryd.isAgg105
  z213 := Tryd.sizeOf105
  t232 := Tryd.underlying119
  a232 := Tryd.isAgg119
  z232 := Tryd.sizeOf119
  v232 := Tryd.zeroValue119
  t233 := Tryd.underlying120
  a233 := Tryd.isAgg120
  z233 := Tryd.sizeOf120
  v233 := Tryd.zeroValue120
  g17 := by kernel_rfl
  g18 := by kernel_rfl
  g19 := by kernel_rfl }
open Go.RowKit Go.Sort Go.Lib in
/-- THE ROAD WITHOUT THE TABLE: 0 <= i < 100: NO PREMISE ON THE WORLD, AND THE WORLD IS AS IT WAS: a row that keeps its argument in that range need list no table ('laid = []'). (LAID: no walk: one application.) -/
theorem Tryd.strconv_Itoa_small (i : Nat) (hi : i < 100) (w : World) :
    Calls Tryd.prog 84 #[.int .i64 i] w fun e w' => e = .returned (.string ⟨(Lib.decDigits i).toArray⟩) ∧ w' = w := Any.strconv_Itoa_small Tryd.lays171 i hi w
def Tryd.laysM173_ren : Go.Shelf.Ren := ⟨fun | 173 => 39 | 246 => 52 | 283 => 71 | 284 => 72 | 285 => 73 | 286 => 74 | 129 => 86 | 317 => 85 | 318 => 87 | 319 => 88 | 320 => 89 | 337 => 93 | 338 => 94 | n => n, fun | 2 => 2 | 3 => 3 | 9 => 9 | 4 => 4 | 171 => 87 | 0 => 0 | 53 => 48 | 37 => 22 | 5 => 5 | 173 => 90 | 212 => 104 | 51 => 92 | 20 => 20 | 213 => 105 | 46 => 37 | 232 => 119 | 233 => 120 | n => n, fun | 17 => 5 | 18 => 8 | 19 => 9 | n => n⟩
theorem Tryd.laysM173 : Go.Proofs.LaysM.n173 Tryd.prog Tryd.laysM173_ren := {
  mixed := by kernel_rfl
  f129 := Tryd.func86.trans (congrArg some (by kernel_rfl))
  f173 := Tryd.func39.trans (congrArg some (by kernel_rfl))
  f246 := Tryd.func52.trans (congrArg some (by kernel_rfl))
  f283 := Tryd.func71.trans (congrArg some (by kernel_rfl))
  f284 := Tryd.func72.trans (congrArg some (by kernel_rfl))
  f285 := Tryd.func73.trans (congrArg some (by kernel_rfl))
  f286 := Tryd.func74.trans (congrArg some (by kernel_rfl))
  f317 := Tryd.func85.trans (congrArg some (by kernel_rfl))
  f318 := Tryd.func87.trans (congrArg some (by kernel_rfl))
  f319 := Tryd.func88.trans (congrArg some (by kernel_rfl))
  f320 := Tryd.func89.trans (congrArg some (by kernel_rfl))
  f337 := Tryd.func93.trans (congrArg some (by kernel_rfl))
  f338 := Tryd.func94.trans (congrArg some (by kernel_rfl))
  t0 := Tryd.underlying0
  a0 := Tryd.isAgg0
  z0 := Tryd.sizeOf0
  v0 := Tryd.zeroValue0
  t2 := Tryd.underlying2
  a2 := Tryd.isAgg2
  z2 := Tryd.sizeOf2
  v2 := Tryd.zeroValue2
  t3 := Tryd.underlying3
  a3 := Tryd.isAgg3
  z3 := Tryd.sizeOf3
  v3 := Tryd.zeroValue3
  t4 := Tryd.underlying4
  a4 := Tryd.isAgg4
  z4 := Tryd.sizeOf4
  v4 := Tryd.zeroValue4
  t5 := Tryd.underlying5
  a5 := Tryd.isAgg5
  z5 := Tryd.sizeOf5
  v5 := Tryd.zeroValue5
  t9 := Tryd.underlying9
  a9 := Tryd.isAgg9
  z9 := Tryd.sizeOf9
  v9 := Tryd.zeroValue9
  t20 := Tryd.underlying20
  a20 := Tryd.isAgg20
  z20 := Tryd.sizeOf20
  v20 := Tryd.zeroValue20
  t37 := Tryd.underlying22
  a37 := Tryd.isAgg22
  z37 := Tryd.sizeOf22
  v37 := Tryd.zeroValue22
  t46 := Tryd.underlying37
  a46 := Tryd.isAgg37
  z46 := Tryd.sizeOf37
  v46 := Tryd.zeroValue37
  t51 := Tryd.underlying92
  a51 := Tryd.isAgg92
  z51 := Tryd.sizeOf92
  v51 := Tryd.zeroValue92
  t53 := Tryd.underlying48
  a53 := Tryd.isAgg48
  z53 := Tryd.sizeOf48
  v53 := Tryd.zeroValue48
  t171 := Tryd.underlying87
  a171 := Tryd.isAgg87
  z171 := Tryd.sizeOf87
  v171 := Tryd.zeroValue87
  t173 := Tryd.underlying90
  a173 := Tryd.isAgg90
  z173 := Tryd.sizeOf90
  v173 := Tryd.zeroValue90
  t212 := Tryd.underlying104
  a212 := Tryd.isAgg104
  z212 := Tryd.sizeOf104
  v212 := Tryd.zeroValue104
  t213 := Tryd.underlying105
  a213 := Tryd.isAgg105
  z213 := Tryd.sizeOf105
  t232 := Tryd.underlying119
  a232 := Tryd.isAgg119
  z232 := Tryd.sizeOf119
  v232 := Tryd.zeroValue119
  t233 := Tryd.underlying120
  a233 := Tryd.isAgg120
  z233 := Tryd.sizeOf120
  v233 := Tryd.zeroValue120
  g17 := by kernel_rfl
  g18 := by kernel_rfl
  g19 := by kernel_rfl
  i0 := by kernel_rfl
  i2 := by kernel_rfl
  i3 := by kernel_rfl
  i4 := by kernel_rfl
  i5 := by kernel_rfl
  i9 := by kernel_rfl
  i20 := by kernel_rfl
  i37 := by kernel_rfl
  i46 := by kernel_rfl
  i51 := by kernel_rfl
  i53 := by kernel_rfl
  i171 := by kernel_rfl
  i173 := by kernel_rfl
  i212 := by kernel_rfl
  i232 := by kernel_rfl
  i233 := by kernel_rfl
  m17 := by kernel_rfl
  m18 := by kernel_rfl
  m19 := by kernel_rfl }
open Go.RowKit Go.Sort Go.Lib in
/-- strconv.FormatInt: "FormatInt returns the string representation of i in the given base": AT BASE 10: i's decimal numeral, for every int64. (LAID: no walk: one application.) -/
theorem Tryd.strconv_FormatInt_10 (n : Int) (h0 : -9223372036854775808 ≤ n) (h1 : n ≤ 9223372036854775807) (w : World) (htab : Lib.TabIs Tryd.prog w "internal/strconv.uint64pow10" .u64 Lib.pow10Tab) :
    Calls Tryd.prog 39 #[.int .i64 n, .int .i64 10] w fun e w' => e = .returned (.string ⟨(Lib.itoa n).toArray⟩) ∧ ∃ k os, w' = grow (w.drewN k) os := Any.strconv_FormatInt_10 Tryd.laysM173 n h0 h1 w htab
def Tryd.lays173_ren : Go.Shelf.Ren := ⟨fun | 173 => 39 | 246 => 52 | 283 => 71 | 284 => 72 | 285 => 73 | 286 => 74 | 129 => 86 | 317 => 85 | 318 => 87 | 319 => 88 | 320 => 89 | 337 => 93 | 338 => 94 | n => n, fun | 2 => 2 | 3 => 3 | 9 => 9 | 4 => 4 | 171 => 87 | 0 => 0 | 53 => 48 | 37 => 22 | 5 => 5 | 173 => 90 | 212 => 104 | 51 => 92 | 20 => 20 | 213 => 105 | 46 => 37 | 232 => 119 | 233 => 120 | n => n, fun | 17 => 5 | 18 => 8 | 19 => 9 | n => n⟩
theorem Tryd.lays173 : Go.Proofs.Lays.n173 Tryd.prog Tryd.lays173_ren := {
  mixed := by kernel_rfl
  f129 := Tryd.func86.trans (congrArg some (by kernel_rfl))
  f173 := Tryd.func39.trans (congrArg some (by kernel_rfl))
  f246 := Tryd.func52.trans (congrArg some (by kernel_rfl))
  f283 := Tryd.func71.trans (congrArg some (by kernel_rfl))
  f284 := Tryd.func72.trans (congrArg some (by kernel_rfl))
  f285 := Tryd.func73.trans (congrArg some (by kernel_rfl))
  f286 := Tryd.func74.trans (congrArg some (by kernel_rfl))
  f317 := Tryd.func85.trans (congrArg some (by kernel_rfl))
  f318 := Tryd.func87.trans (congrArg some (by kernel_rfl))
  f319 := Tryd.func88.trans (congrArg some (by kernel_rfl))
  f320 := Tryd.func89.trans (congrArg some (by kernel_rfl))
  f337 := Tryd.func93.trans (congrArg some (by kernel_rfl))
  f338 := Tryd.func94.trans (congrArg some (by kernel_rfl))
  t0 := Tryd.underlying0
  a0 := Tryd.isAgg0
  z0 := Tryd.sizeOf0
  v0 := Tryd.zeroValue0
  t2 := Tryd.underlying2
  a2 := Tryd.isAgg2
  z2 := Tryd.sizeOf2
  v2 := Tryd.zeroValue2
  t3 := Tryd.underlying3
  a3 := Tryd.isAgg3
  z3 := Tryd.sizeOf3
  v3 := Tryd.zeroValue3
  t4 := Tryd.underlying4
  a4 := Tryd.isAgg4
  z4 := Tryd.sizeOf4
  v4 := Tryd.zeroValue4
  t5 := Tryd.underlying5
  a5 := Tryd.isAgg5
  z5 := Tryd.sizeOf5
  v5 := Tryd.zeroValue5
  t9 := Tryd.underlying9
  a9 := Tryd.isAgg9
  z9 := Tryd.sizeOf9
  v9 := Tryd.zeroValue9
  t20 := Tryd.underlying20
  a20 := Tryd.isAgg20
  z20 := Tryd.sizeOf20
  v20 := Tryd.zeroValue20
  t37 := Tryd.underlying22
  a37 := Tryd.isAgg22
  z37 := Tryd.sizeOf22
  v37 := Tryd.zeroValue22
  t46 := Tryd.underlying37
  a46 := Tryd.isAgg37
  z46 := Tryd.sizeOf37
  v46 := Tryd.zeroValue37
  t51 := Tryd.underlying92
  a51 := Tryd.isAgg92
  z51 := Tryd.sizeOf92
  v51 := Tryd.zeroValue92
  t53 := Tryd.underlying48
  a53 := Tryd.isAgg48
  z53 := Tryd.sizeOf48
  v53 := Tryd.zeroValue48
  t171 := Tryd.underlying87
  a171 := Tryd.isAgg87
  z171 := Tryd.sizeOf87
  v171 := Tryd.zeroValue87
  t173 := Tryd.underlying90
  a173 := Tryd.isAgg90
  z173 := Tryd.sizeOf90
  v173 := Tryd.zeroValue90
  t212 := Tryd.underlying104
  a212 := Tryd.isAgg104
  z212 := Tryd.sizeOf104
  v212 := Tryd.zeroValue104
  t213 := Tryd.underlying105
  a213 := Tryd.isAgg105
  z213 := Tryd.sizeOf105
  t232 := Tryd.underlying119
  a232 := Tryd.isAgg119
  z232 := Tryd.sizeOf119
  v232 := Tryd.zeroValue119
  t233 := Tryd.underlying120
  a233 := Tryd.isAgg120
  z233 := Tryd.sizeOf120
  v233 := Tryd.zeroValue120
  g17 := by kernel_rfl
  g18 := by kernel_rfl
  g19 := by kernel_rfl }
open Go.RowKit Go.Sort Go.Lib in
/-- THE ROAD WITHOUT THE TABLE: 0 <= i < 100. (LAID: no walk: one application.) -/
theorem Tryd.strconv_FormatInt_10_small (i : Nat) (hi : i < 100) (w : World) :
    Calls Tryd.prog 39 #[.int .i64 i, .int .i64 10] w fun e w' => e = .returned (.string ⟨(Lib.decDigits i).toArray⟩) ∧ w' = w := Any.strconv_FormatInt_10_small Tryd.lays173 i hi w
def Tryd.laysM316_ren : Go.Shelf.Ren := ⟨fun | 316 => 82 | n => n, fun | 9 => 9 | 3 => 3 | 4 => 4 | 37 => 22 | 0 => 0 | 127 => 97 | 5 => 5 | n => n, fun | n => n⟩
theorem Tryd.laysM316 : Go.Proofs.LaysM.n316 Tryd.prog Tryd.laysM316_ren := {
  mixed := by kernel_rfl
  f316 := Tryd.func82.trans (congrArg some (by kernel_rfl))
  t0 := Tryd.underlying0
  a0 := Tryd.isAgg0
  z0 := Tryd.sizeOf0
  v0 := Tryd.zeroValue0
  t3 := Tryd.underlying3
  a3 := Tryd.isAgg3
  z3 := Tryd.sizeOf3
  v3 := Tryd.zeroValue3
  t4 := Tryd.underlying4
  a4 := Tryd.isAgg4
  z4 := Tryd.sizeOf4
  v4 := Tryd.zeroValue4
  t9 := Tryd.underlying9
  a9 := Tryd.isAgg9
  z9 := Tryd.sizeOf9
  v9 := Tryd.zeroValue9
  t37 := Tryd.underlying22
  a37 := Tryd.isAgg22
  z37 := Tryd.sizeOf22
  v37 := Tryd.zeroValue22
  t127 := Tryd.underlying97
  a127 := Tryd.isAgg97
  z127 := Tryd.sizeOf97
  v127 := Tryd.zeroValue97
  t5 := Tryd.underlying5
  a5 := Tryd.isAgg5
  z5 := Tryd.sizeOf5
  v5 := Tryd.zeroValue5
  i0 := by kernel_rfl
  i3 := by kernel_rfl
  i4 := by kernel_rfl
  i5 := by kernel_rfl
  i9 := by kernel_rfl
  i37 := by kernel_rfl
  i127 := by kernel_rfl }
open Go.RowKit in
/-- internal/stringslite.Clone (what strings.Clone calls): "Clone returns a fresh copy of s.": THE SAME BYTES. Of what was there nothing has turned (a new row is laid, and frozen, where s is not empty). (LAID: no walk: one application.) -/
theorem Tryd.stringslite_Clone (s : ByteArray) (w : World) (hlim : s.size ≤ 281474976710656) :
    Calls Tryd.prog 82 #[.string s] w fun e w' => e = .returned (.string s) ∧ Below w.heap.size w w' := Any.stringslite_Clone Tryd.laysM316 s w hlim
def Tryd.laysM279_ren : Go.Shelf.Ren := ⟨fun | 279 => 66 | 316 => 82 | n => n, fun | 9 => 9 | 168 => 83 | 75 => 39 | 210 => 100 | 3 => 3 | 4 => 4 | 37 => 22 | 0 => 0 | 127 => 97 | 80 => 75 | 5 => 5 | n => n, fun | 15 => 2 | n => n⟩
theorem Tryd.laysM279 : Go.Proofs.LaysM.n279 Tryd.prog Tryd.laysM279_ren := {
  mixed := by kernel_rfl
  f279 := Tryd.func66.trans (congrArg some (by kernel_rfl))
  f316 := Tryd.func82.trans (congrArg some (by kernel_rfl))
  t0 := Tryd.underlying0
  a0 := Tryd.isAgg0
  z0 := Tryd.sizeOf0
  v0 := Tryd.zeroValue0
  t3 := Tryd.underlying3
  a3 := Tryd.isAgg3
  z3 := Tryd.sizeOf3
  v3 := Tryd.zeroValue3
  t4 := Tryd.underlying4
  a4 := Tryd.isAgg4
  z4 := Tryd.sizeOf4
  v4 := Tryd.zeroValue4
  t9 := Tryd.underlying9
  a9 := Tryd.isAgg9
  z9 := Tryd.sizeOf9
  v9 := Tryd.zeroValue9
  t37 := Tryd.underlying22
  a37 := Tryd.isAgg22
  z37 := Tryd.sizeOf22
  v37 := Tryd.zeroValue22
  t75 := Tryd.underlying39
  a75 := Tryd.isAgg39
  z75 := Tryd.sizeOf39
  v75 := Tryd.zeroValue39
  t127 := Tryd.underlying97
  a127 := Tryd.isAgg97
  z127 := Tryd.sizeOf97
  v127 := Tryd.zeroValue97
  t168 := Tryd.underlying83
  a168 := Tryd.isAgg83
  z168 := Tryd.sizeOf83
  v168 := Tryd.zeroValue83
  t210 := Tryd.underlying100
  a210 := Tryd.isAgg100
  z210 := Tryd.sizeOf100
  v210 := Tryd.zeroValue100
  g15 := by kernel_rfl
  t5 := Tryd.underlying5
  a5 := Tryd.isAgg5
  z5 := Tryd.sizeOf5
  v5 := Tryd.zeroValue5
  t80 := Tryd.underlying75
  a80 := Tryd.isAgg75
  z80 := Tryd.sizeOf75
  v80 := Tryd.zeroValue75
  i0 := by kernel_rfl
  i3 := by kernel_rfl
  i4 := by kernel_rfl
  i5 := by kernel_rfl
  i9 := by kernel_rfl
  i37 := by kernel_rfl
  i75 := by kernel_rfl
  i80 := by kernel_rfl
  i127 := by kernel_rfl
  i168 := by kernel_rfl
  i210 := by kernel_rfl
  m15 := by kernel_rfl }
open Go.RowKit in
/-- strconv.syntaxError: '&NumError{fn, stringslite.Clone(str), ErrSyntax}': A POINTER TO A NEW BLOCK that holds fn, str's bytes, and what the variable ErrSyntax holds. Of what was there nothing has turned. (LAID: no walk: one application.) -/
theorem Tryd.strconv_syntaxError (fn s : ByteArray) (ev : Value) (w : World) (hlim : s.size ≤ 281474976710656) (hv : w.cell? ⟨2, 0, none⟩ = some ev) (hev : ev = .nilIface ∨ ∃ te pe, ev = .iface te pe) :
    Calls Tryd.prog 66 #[.string fn, .string s] w fun e w' => ∃ N, e = .returned (.pointer (some ⟨N, 0, none⟩)) ∧ w.heap.size ≤ N ∧ w'.heap[N]? = some (.cells #[.string fn, .string s, ev] 100 (0, 0)) ∧ Below w.heap.size w w' := Any.strconv_syntaxError Tryd.laysM279 fn s ev w hlim hv hev
def Tryd.laysC245_ren : Go.Shelf.Ren := ⟨fun | 245 => 50 | 279 => 66 | 280 => 67 | 281 => 68 | 282 => 69 | 316 => 82 | 171 => 84 | 205 => 83 | 243 => 92 | 246 => 52 | 283 => 71 | 284 => 72 | 285 => 73 | 286 => 74 | 129 => 86 | 317 => 85 | 318 => 87 | 319 => 88 | 320 => 89 | 337 => 93 | 338 => 94 | n => n, fun | 9 => 9 | 3 => 3 | 75 => 39 | 167 => 80 | 4 => 4 | 168 => 83 | 210 => 100 | 37 => 22 | 0 => 0 | 127 => 97 | 145 => 117 | 143 => 115 | 2 => 2 | 171 => 87 | 53 => 48 | 5 => 5 | 173 => 90 | 212 => 104 | 51 => 92 | 20 => 20 | 213 => 105 | 46 => 37 | 232 => 119 | 233 => 120 | 80 => 75 | n => n, fun | 15 => 2 | 16 => 3 | 17 => 5 | 18 => 8 | 19 => 9 | n => n⟩
theorem Tryd.laysC245 : Go.Proofs.LaysC.n245 Tryd.prog Tryd.laysC245_ren := {
  mixed := by kernel_rfl
  f129 := Tryd.func86.trans (congrArg some (by kernel_rfl))
  f171 := Tryd.func84.trans (congrArg some (by kernel_rfl))
  f205 := Tryd.func83.trans (congrArg some (by kernel_rfl))
  f243 := Tryd.func92.trans (congrArg some (by kernel_rfl))
  f245 := Tryd.func50.trans (congrArg some (by kernel_rfl))
  f246 := Tryd.func52.trans (congrArg some (by kernel_rfl))
  f279 := Tryd.func66.trans (congrArg some (by kernel_rfl))
  f280 := Tryd.func67.trans (congrArg some (by kernel_rfl))
  f281 := Tryd.func68.trans (congrArg some (by kernel_rfl))
  f282 := Tryd.func69.trans (congrArg some (by kernel_rfl))
  f283 := Tryd.func71.trans (congrArg some (by kernel_rfl))
  f284 := Tryd.func72.trans (congrArg some (by kernel_rfl))
  f285 := Tryd.func73.trans (congrArg some (by kernel_rfl))
  f286 := Tryd.func74.trans (congrArg some (by kernel_rfl))
  f316 := Tryd.func82.trans (congrArg some (by kernel_rfl))
  f317 := Tryd.func85.trans (congrArg some (by kernel_rfl))
  f318 := Tryd.func87.trans (congrArg some (by kernel_rfl))
  f319 := Tryd.func88.trans (congrArg some (by kernel_rfl))
  f320 := Tryd.func89.trans (congrArg some (by kernel_rfl))
  f337 := Tryd.func93.trans (congrArg some (by kernel_rfl))
  f338 := Tryd.func94.trans (congrArg some (by kernel_rfl))
  t0 := Tryd.underlying0
  a0 := Tryd.isAgg0
  z0 := Tryd.sizeOf0
  v0 := Tryd.zeroValue0
  t2 := Tryd.underlying2
  a2 := Tryd.isAgg2
  z2 := Tryd.sizeOf2
  v2 := Tryd.zeroValue2
  t3 := Tryd.underlying3
  a3 := Tryd.isAgg3
  z3 := Tryd.sizeOf3
  v3 := Tryd.zeroValue3
  t4 := Tryd.underlying4
  a4 := Tryd.isAgg4
  z4 := Tryd.sizeOf4
  v4 := Tryd.zeroValue4
  t5 := Tryd.underlying5
  a5 := Tryd.isAgg5
  z5 := Tryd.sizeOf5
  v5 := Tryd.zeroValue5
  t9 := Tryd.underlying9
  a9 := Tryd.isAgg9
  z9 := Tryd.sizeOf9
  v9 := Tryd.zeroValue9
  t20 := Tryd.underlying20
  a20 := Tryd.isAgg20
  z20 := Tryd.sizeOf20
  v20 := Tryd.zeroValue20
  t37 := Tryd.underlying22
  a37 := Tryd.isAgg22
  z37 := Tryd.sizeOf22
  v37 := Tryd.zeroValue22
  t46 := Tryd.underlying37
  a46 := Tryd.isAgg37
  z46 := Tryd.sizeOf37
  v46 := Tryd.zeroValue37
  t51 := Tryd.underlying92
  a51 := Tryd.isAgg92
  z51 := Tryd.sizeOf92
  v51 := Tryd.zeroValue92
  t53 := Tryd.underlying48
  a53 := Tryd.isAgg48
  z53 := Tryd.sizeOf48
  v53 := Tryd.zeroValue48
  t75 := Tryd.underlying39
  a75 := Tryd.isAgg39
  z75 := Tryd.sizeOf39
  v75 := Tryd.zeroValue39
  t127 := Tryd.underlying97
  a127 := Tryd.isAgg97
  z127 := Tryd.sizeOf97
  v127 := Tryd.zeroValue97
  t143 := Tryd.underlying115
  a143 := Tryd.isAgg115
  z143 := Tryd.sizeOf115
  v143 := Tryd.zeroValue115
  t145 := Tryd.underlying117
  a145 := Tryd.isAgg117
  z145 := Tryd.sizeOf117
  v145 := Tryd.zeroValue117
  t167 := Tryd.underlying80
  a167 := Tryd.isAgg80
  z167 := Tryd.sizeOf80
  v167 := Tryd.zeroValue80
  t168 := Tryd.underlying83
  a168 := Tryd.isAgg83
  z168 := Tryd.sizeOf83
  v168 := Tryd.zeroValue83
  t171 := Tryd.underlying87
  a171 := Tryd.isAgg87
  z171 := Tryd.sizeOf87
  v171 := Tryd.zeroValue87
  t173 := Tryd.underlying90
  a173 := Tryd.isAgg90
  z173 := Tryd.sizeOf90
  v173 := Tryd.zeroValue90
  t210 := Tryd.underlying100
  a210 := Tryd.isAgg100
  z210 := Tryd.sizeOf100
  v210 := Tryd.zeroValue100
  t212 := Tryd.underlying104
  a212 := Tryd.isAgg104
  z212 := Tryd.sizeOf104
  v212 := Tryd.zeroValue104
  t213 := Tryd.underlying105
  a213 := Tryd.isAgg105
  z213 := Tryd.sizeOf105
  t232 := Tryd.underlying119
  a232 := Tryd.isAgg119
  z232 := Tryd.sizeOf119
  v232 := Tryd.zeroValue119
  t233 := Tryd.underlying120
  a233 := Tryd.isAgg120
  z233 := Tryd.sizeOf120
  v233 := Tryd.zeroValue120
  g15 := by kernel_rfl
  g16 := by kernel_rfl
  g17 := by kernel_rfl
  g18 := by kernel_rfl
  g19 := by kernel_rfl
  t80 := Tryd.underlying75
  a80 := Tryd.isAgg75
  z80 := Tryd.sizeOf75
  v80 := Tryd.zeroValue75
  i0 := by kernel_rfl
  i2 := by kernel_rfl
  i3 := by kernel_rfl
  i4 := by kernel_rfl
  i5 := by kernel_rfl
  i9 := by kernel_rfl
  i20 := by kernel_rfl
  i37 := by kernel_rfl
  i46 := by kernel_rfl
  i51 := by kernel_rfl
  i53 := by kernel_rfl
  i75 := by kernel_rfl
  i80 := by kernel_rfl
  i127 := by kernel_rfl
  i143 := by kernel_rfl
  i145 := by kernel_rfl
  i167 := by kernel_rfl
  i168 := by kernel_rfl
  i171 := by kernel_rfl
  i173 := by kernel_rfl
  i210 := by kernel_rfl
  i212 := by kernel_rfl
  i232 := by kernel_rfl
  i233 := by kernel_rfl
  m15 := by kernel_rfl
  m16 := by kernel_rfl
  m17 := by kernel_rfl
  m18 := by kernel_rfl
  m19 := by kernel_rfl
  c0 := by kernel_rfl
  c2 := by kernel_rfl
  c3 := by kernel_rfl
  c4 := by kernel_rfl
  c5 := by kernel_rfl
  c9 := by kernel_rfl
  c20 := by kernel_rfl
  c37 := by kernel_rfl
  c46 := by kernel_rfl
  c51 := by kernel_rfl
  c53 := by kernel_rfl
  c75 := by kernel_rfl
  c80 := by kernel_rfl
  c127 := by kernel_rfl
  c143 := by kernel_rfl
  c145 := by kernel_rfl
  c167 := by kernel_rfl
  c168 := by kernel_rfl
  c171 := by kernel_rfl
  c173 := by kernel_rfl
  c210 := by kernel_rfl
  c212 := by kernel_rfl
  c213 := by kernel_rfl
  c232 := by kernel_rfl
  c233 := by kernel_rfl }
open Go.RowKit in
/-- strconv.toError, at the inner package's ErrSyntax: 'syntaxError(fn, s)' as an error: A *NumError IN A NEW BLOCK. (LAID: no walk: one application.) -/
theorem Tryd.strconv_toError_syntax (fn s : ByteArray) (base bits : Int) (ev : Value) (w : World) (hlim : s.size ≤ 281474976710656) (hv : w.cell? ⟨2, 0, none⟩ = some ev) (hev : ev = .nilIface ∨ ∃ te pe, ev = .iface te pe) :
    Calls Tryd.prog 50 #[.string fn, .string s, .int .i64 base, .int .i64 bits, .iface 80 (.int .i64 2)] w fun e w' => ∃ N, e = .returned (.iface 83 (.pointer (some ⟨N, 0, none⟩))) ∧ w.heap.size ≤ N ∧ w'.heap[N]? = some (.cells #[.string fn, .string s, ev] 100 (0, 0)) ∧ Below w.heap.size w w' := Any.strconv_toError_syntax Tryd.laysC245 fn s base bits ev w hlim hv hev
def Tryd.lays321_ren : Go.Shelf.Ren := ⟨fun | 321 => 64 | n => n, fun | 5 => 5 | n => n, fun | n => n⟩
theorem Tryd.lays321 : Go.Proofs.Lays.n321 Tryd.prog Tryd.lays321_ren := {
  mixed := by kernel_rfl
  f321 := Tryd.func64.trans (congrArg some (by kernel_rfl))
  t5 := Tryd.underlying5
  a5 := Tryd.isAgg5
  z5 := Tryd.sizeOf5
  v5 := Tryd.zeroValue5 }
open Go.RowKit in
/-- internal/strconv.lower: 'c | ('x' - 'X')': the bit 32 set. The world is as it was. (LAID: no walk: one application.) -/
theorem Tryd.internal_strconv_lower (c : Int) (w : World) :
    Calls Tryd.prog 64 #[.int .u8 c] w fun e w' => e = .returned (.int .u8 (bits .or .u8 c 32)) ∧ w' = w := Any.internal_strconv_lower Tryd.lays321 c w
def Tryd.lays287_ren : Go.Shelf.Ren := ⟨fun | 287 => 49 | 321 => 64 | 322 => 65 | n => n, fun | 9 => 9 | 3 => 3 | 53 => 48 | 75 => 39 | 4 => 4 | 167 => 80 | 5 => 5 | 46 => 37 | 37 => 22 | 0 => 0 | 21 => 21 | 80 => 75 | n => n, fun | n => n⟩
theorem Tryd.lays287 : Go.Proofs.Lays.n287 Tryd.prog Tryd.lays287_ren := {
  mixed := by kernel_rfl
  f287 := Tryd.func49.trans (congrArg some (by kernel_rfl))
  f321 := Tryd.func64.trans (congrArg some (by kernel_rfl))
  f322 := Tryd.func65.trans (congrArg some (by kernel_rfl))
  t0 := Tryd.underlying0
  a0 := Tryd.isAgg0
  z0 := Tryd.sizeOf0
  v0 := Tryd.zeroValue0
  t3 := Tryd.underlying3
  a3 := Tryd.isAgg3
  z3 := Tryd.sizeOf3
  v3 := Tryd.zeroValue3
  t4 := Tryd.underlying4
  a4 := Tryd.isAgg4
  z4 := Tryd.sizeOf4
  v4 := Tryd.zeroValue4
  t5 := Tryd.underlying5
  a5 := Tryd.isAgg5
  z5 := Tryd.sizeOf5
  v5 := Tryd.zeroValue5
  t9 := Tryd.underlying9
  a9 := Tryd.isAgg9
  z9 := Tryd.sizeOf9
  v9 := Tryd.zeroValue9
  t21 := Tryd.underlying21
  a21 := Tryd.isAgg21
  z21 := Tryd.sizeOf21
  v21 := Tryd.zeroValue21
  t37 := Tryd.underlying22
  a37 := Tryd.isAgg22
  z37 := Tryd.sizeOf22
  v37 := Tryd.zeroValue22
  t46 := Tryd.underlying37
  a46 := Tryd.isAgg37
  z46 := Tryd.sizeOf37
  v46 := Tryd.zeroValue37
  t53 := Tryd.underlying48
  a53 := Tryd.isAgg48
  z53 := Tryd.sizeOf48
  v53 := Tryd.zeroValue48
  t75 := Tryd.underlying39
  a75 := Tryd.isAgg39
  z75 := Tryd.sizeOf39
  v75 := Tryd.zeroValue39
  t167 := Tryd.underlying80
  a167 := Tryd.isAgg80
  z167 := Tryd.sizeOf80
  v167 := Tryd.zeroValue80 }
open Go.RowKit in
/-- internal/strconv.ParseUint(s, 10, 0), s NOT EMPTY: 'Lib.parseUint10 0' OF ITS BYTES: the number; or (0, ErrSyntax); or (the greatest uint64, ErrRange). The world behind the call: the one new row that '[]byte(s)' lays. (LAID: no walk: one application.) -/
theorem Tryd.internal_strconv_ParseUint_10 (t : ByteArray) (hne : t.size ≠ 0) (hmax : t.size ≤ 9223372036854775806) (w : World) :
    Calls Tryd.prog 49 #[.string t, .int .i64 10, .int .i64 0] w fun e w' => e = .returned (Lib.uintTuple 80 (Lib.parseUint10 0 t.data.toList)) ∧ w' = Lib.bytesWorld w 5 t := Any.internal_strconv_ParseUint_10 Tryd.lays287 t hne hmax w
open Go.RowKit in
/-- internal/strconv.ParseUint("", 10, 0): (0, ErrSyntax). The world is as it was. (LAID: no walk: one application.) -/
theorem Tryd.internal_strconv_ParseUint_10_empty (w : World) :
    Calls Tryd.prog 49 #[.string ⟨#[]⟩, .int .i64 10, .int .i64 0] w fun e w' => e = .returned (Lib.uintTuple 80 Lib.NumEnd.syntax) ∧ w' = w := Any.internal_strconv_ParseUint_10_empty Tryd.lays287 w
open Go.RowKit in
/-- internal/strconv.ParseUint(s, 10, 0): 'Lib.parseMag' OF ITS BYTES. The world: as it was (the empty string), or with the one new row that '[]byte(s)' lays. (LAID: no walk: one application.) -/
theorem Tryd.internal_strconv_ParseUint_10_any (t : ByteArray) (hmax : t.size ≤ 9223372036854775806) (w : World) :
    Calls Tryd.prog 49 #[.string t, .int .i64 10, .int .i64 0] w fun e w' => e = .returned (Lib.uintTuple 80 (Lib.parseMag t.data.toList)) ∧ (w' = w ∨ w' = Lib.bytesWorld w 5 t) := Any.internal_strconv_ParseUint_10_any Tryd.lays287 t hmax w
def Tryd.laysM280_ren : Go.Shelf.Ren := ⟨fun | 280 => 67 | 316 => 82 | n => n, fun | 9 => 9 | 168 => 83 | 75 => 39 | 210 => 100 | 3 => 3 | 4 => 4 | 37 => 22 | 0 => 0 | 127 => 97 | 80 => 75 | 5 => 5 | n => n, fun | 16 => 3 | n => n⟩
theorem Tryd.laysM280 : Go.Proofs.LaysM.n280 Tryd.prog Tryd.laysM280_ren := {
  mixed := by kernel_rfl
  f280 := Tryd.func67.trans (congrArg some (by kernel_rfl))
  f316 := Tryd.func82.trans (congrArg some (by kernel_rfl))
  t0 := Tryd.underlying0
  a0 := Tryd.isAgg0
  z0 := Tryd.sizeOf0
  v0 := Tryd.zeroValue0
  t3 := Tryd.underlying3
  a3 := Tryd.isAgg3
  z3 := Tryd.sizeOf3
  v3 := Tryd.zeroValue3
  t4 := Tryd.underlying4
  a4 := Tryd.isAgg4
  z4 := Tryd.sizeOf4
  v4 := Tryd.zeroValue4
  t9 := Tryd.underlying9
  a9 := Tryd.isAgg9
  z9 := Tryd.sizeOf9
  v9 := Tryd.zeroValue9
  t37 := Tryd.underlying22
  a37 := Tryd.isAgg22
  z37 := Tryd.sizeOf22
  v37 := Tryd.zeroValue22
  t75 := Tryd.underlying39
  a75 := Tryd.isAgg39
  z75 := Tryd.sizeOf39
  v75 := Tryd.zeroValue39
  t127 := Tryd.underlying97
  a127 := Tryd.isAgg97
  z127 := Tryd.sizeOf97
  v127 := Tryd.zeroValue97
  t168 := Tryd.underlying83
  a168 := Tryd.isAgg83
  z168 := Tryd.sizeOf83
  v168 := Tryd.zeroValue83
  t210 := Tryd.underlying100
  a210 := Tryd.isAgg100
  z210 := Tryd.sizeOf100
  v210 := Tryd.zeroValue100
  g16 := by kernel_rfl
  t5 := Tryd.underlying5
  a5 := Tryd.isAgg5
  z5 := Tryd.sizeOf5
  v5 := Tryd.zeroValue5
  t80 := Tryd.underlying75
  a80 := Tryd.isAgg75
  z80 := Tryd.sizeOf75
  v80 := Tryd.zeroValue75
  i0 := by kernel_rfl
  i3 := by kernel_rfl
  i4 := by kernel_rfl
  i5 := by kernel_rfl
  i9 := by kernel_rfl
  i37 := by kernel_rfl
  i75 := by kernel_rfl
  i80 := by kernel_rfl
  i127 := by kernel_rfl
  i168 := by kernel_rfl
  i210 := by kernel_rfl
  m16 := by kernel_rfl }
open Go.RowKit in
/-- strconv.rangeError: '&NumError{fn, stringslite.Clone(str), ErrRange}': A POINTER TO A NEW BLOCK that holds fn, str's bytes, and what the variable ErrRange holds. Of what was there nothing has turned. (LAID: no walk: one application.) -/
theorem Tryd.strconv_rangeError (fn s : ByteArray) (ev : Value) (w : World) (hlim : s.size ≤ 281474976710656) (hv : w.cell? ⟨3, 0, none⟩ = some ev) (hev : ev = .nilIface ∨ ∃ te pe, ev = .iface te pe) :
    Calls Tryd.prog 67 #[.string fn, .string s] w fun e w' => ∃ N, e = .returned (.pointer (some ⟨N, 0, none⟩)) ∧ w.heap.size ≤ N ∧ w'.heap[N]? = some (.cells #[.string fn, .string s, ev] 100 (0, 0)) ∧ Below w.heap.size w w' := Any.strconv_rangeError Tryd.laysM280 fn s ev w hlim hv hev
open Go.RowKit in
/-- strconv.toError, at the inner package's ErrRange: 'rangeError(fn, s)' as an error: A *NumError IN A NEW BLOCK. (LAID: no walk: one application.) -/
theorem Tryd.strconv_toError_range (fn s : ByteArray) (base bits : Int) (ev : Value) (w : World) (hlim : s.size ≤ 281474976710656) (hv : w.cell? ⟨3, 0, none⟩ = some ev) (hev : ev = .nilIface ∨ ∃ te pe, ev = .iface te pe) :
    Calls Tryd.prog 50 #[.string fn, .string s, .int .i64 base, .int .i64 bits, .iface 80 (.int .i64 1)] w fun e w' => ∃ N, e = .returned (.iface 83 (.pointer (some ⟨N, 0, none⟩))) ∧ w.heap.size ≤ N ∧ w'.heap[N]? = some (.cells #[.string fn, .string s, ev] 100 (0, 0)) ∧ Below w.heap.size w w' := Any.strconv_toError_range Tryd.laysC245 fn s base bits ev w hlim hv hev
open Go.RowKit in
/-- internal/strconv.ParseUint("", base, bitSize): (0, ErrSyntax): the first test of the text. The world is as it was. (LAID: no walk: one application.) -/
theorem Tryd.internal_strconv_ParseUint_empty (base bits : Int) (w : World) :
    Calls Tryd.prog 49 #[.string ⟨#[]⟩, .int .i64 base, .int .i64 bits] w fun e w' => e = .returned (.tuple #[.int .u64 0, .iface 80 (.int .i64 2)]) ∧ w' = w := Any.internal_strconv_ParseUint_empty Tryd.lays287 base bits w
open Go.RowKit in
/-- internal/strconv.ParseUint(s, 10, 64), s NOT EMPTY: 'Lib.parseUint10 0' OF ITS BYTES: the number; or (0, ErrSyntax); or (the greatest uint64, ErrRange). The world behind the call: the one new row that '[]byte(s)' lays. (LAID: no walk: one application.) -/
theorem Tryd.internal_strconv_ParseUint_10_b64 (t : ByteArray) (hne : t.size ≠ 0) (hmax : t.size ≤ 9223372036854775806) (w : World) :
    Calls Tryd.prog 49 #[.string t, .int .i64 10, .int .i64 64] w fun e w' => e = .returned (Lib.uintTuple 80 (Lib.parseUint10 0 t.data.toList)) ∧ w' = Lib.bytesWorld w 5 t := Any.internal_strconv_ParseUint_10_b64 Tryd.lays287 t hne hmax w
open Go.RowKit in
/-- internal/strconv.ParseUint(s, 10, 32), s NOT EMPTY: 'Lib.parseUintM 4294967295 0' OF ITS BYTES: the number; or (0, ErrSyntax); or (the greatest uint32, ErrRange). The world behind the call: the one new row that '[]byte(s)' lays. (LAID: no walk: one application.) -/
theorem Tryd.internal_strconv_ParseUint_10_b32 (t : ByteArray) (hne : t.size ≠ 0) (hmax : t.size ≤ 9223372036854775806) (w : World) :
    Calls Tryd.prog 49 #[.string t, .int .i64 10, .int .i64 32] w fun e w' => e = .returned (Lib.uintTupleM 80 4294967295 (Lib.parseUintM 4294967295 0 t.data.toList)) ∧ w' = Lib.bytesWorld w 5 t := Any.internal_strconv_ParseUint_10_b32 Tryd.lays287 t hne hmax w
open Go.RowKit in
/-- internal/strconv.ParseUint(s, 10, 16), s NOT EMPTY: 'Lib.parseUintM 65535 0' OF ITS BYTES: the number; or (0, ErrSyntax); or (the greatest uint16, ErrRange). The world behind the call: the one new row that '[]byte(s)' lays. (LAID: no walk: one application.) -/
theorem Tryd.internal_strconv_ParseUint_10_b16 (t : ByteArray) (hne : t.size ≠ 0) (hmax : t.size ≤ 9223372036854775806) (w : World) :
    Calls Tryd.prog 49 #[.string t, .int .i64 10, .int .i64 16] w fun e w' => e = .returned (Lib.uintTupleM 80 65535 (Lib.parseUintM 65535 0 t.data.toList)) ∧ w' = Lib.bytesWorld w 5 t := Any.internal_strconv_ParseUint_10_b16 Tryd.lays287 t hne hmax w
open Go.RowKit in
/-- internal/strconv.ParseUint(s, 10, 8), s NOT EMPTY: 'Lib.parseUintM 255 0' OF ITS BYTES: the number; or (0, ErrSyntax); or (the greatest uint8, ErrRange). The world behind the call: the one new row that '[]byte(s)' lays. (LAID: no walk: one application.) -/
theorem Tryd.internal_strconv_ParseUint_10_b8 (t : ByteArray) (hne : t.size ≠ 0) (hmax : t.size ≤ 9223372036854775806) (w : World) :
    Calls Tryd.prog 49 #[.string t, .int .i64 10, .int .i64 8] w fun e w' => e = .returned (Lib.uintTupleM 80 255 (Lib.parseUintM 255 0 t.data.toList)) ∧ w' = Lib.bytesWorld w 5 t := Any.internal_strconv_ParseUint_10_b8 Tryd.lays287 t hne hmax w
open Go.RowKit in
/-- internal/strconv.ParseUint(s, 10, 0): 'Lib.parseUintB 64' OF ITS BYTES. The world: as it was (the empty string), or with the one new row that '[]byte(s)' lays. (LAID: no walk: one application.) -/
theorem Tryd.internal_strconv_ParseUint_10_at0 (t : ByteArray) (hmax : t.size ≤ 9223372036854775806) (w : World) :
    Calls Tryd.prog 49 #[.string t, .int .i64 10, .int .i64 0] w fun e w' => e = .returned (Lib.uintTupleM 80 18446744073709551615 (Lib.parseUintB 64 t.data.toList)) ∧ (w' = w ∨ w' = Lib.bytesWorld w 5 t) := Any.internal_strconv_ParseUint_10_at0 Tryd.lays287 t hmax w
open Go.RowKit in
/-- internal/strconv.ParseUint(s, 10, 64): 'Lib.parseUintB 64' OF ITS BYTES. The world: as it was (the empty string), or with the one new row that '[]byte(s)' lays. (LAID: no walk: one application.) -/
theorem Tryd.internal_strconv_ParseUint_10_at64 (t : ByteArray) (hmax : t.size ≤ 9223372036854775806) (w : World) :
    Calls Tryd.prog 49 #[.string t, .int .i64 10, .int .i64 64] w fun e w' => e = .returned (Lib.uintTupleM 80 18446744073709551615 (Lib.parseUintB 64 t.data.toList)) ∧ (w' = w ∨ w' = Lib.bytesWorld w 5 t) := Any.internal_strconv_ParseUint_10_at64 Tryd.lays287 t hmax w
open Go.RowKit in
/-- internal/strconv.ParseUint(s, 10, 32): 'Lib.parseUintB 32' OF ITS BYTES. The world: as it was (the empty string), or with the one new row that '[]byte(s)' lays. (LAID: no walk: one application.) -/
theorem Tryd.internal_strconv_ParseUint_10_at32 (t : ByteArray) (hmax : t.size ≤ 9223372036854775806) (w : World) :
    Calls Tryd.prog 49 #[.string t, .int .i64 10, .int .i64 32] w fun e w' => e = .returned (Lib.uintTupleM 80 4294967295 (Lib.parseUintB 32 t.data.toList)) ∧ (w' = w ∨ w' = Lib.bytesWorld w 5 t) := Any.internal_strconv_ParseUint_10_at32 Tryd.lays287 t hmax w
open Go.RowKit in
/-- internal/strconv.ParseUint(s, 10, 16): 'Lib.parseUintB 16' OF ITS BYTES. The world: as it was (the empty string), or with the one new row that '[]byte(s)' lays. (LAID: no walk: one application.) -/
theorem Tryd.internal_strconv_ParseUint_10_at16 (t : ByteArray) (hmax : t.size ≤ 9223372036854775806) (w : World) :
    Calls Tryd.prog 49 #[.string t, .int .i64 10, .int .i64 16] w fun e w' => e = .returned (Lib.uintTupleM 80 65535 (Lib.parseUintB 16 t.data.toList)) ∧ (w' = w ∨ w' = Lib.bytesWorld w 5 t) := Any.internal_strconv_ParseUint_10_at16 Tryd.lays287 t hmax w
open Go.RowKit in
/-- internal/strconv.ParseUint(s, 10, 8): 'Lib.parseUintB 8' OF ITS BYTES. The world: as it was (the empty string), or with the one new row that '[]byte(s)' lays. (LAID: no walk: one application.) -/
theorem Tryd.internal_strconv_ParseUint_10_at8 (t : ByteArray) (hmax : t.size ≤ 9223372036854775806) (w : World) :
    Calls Tryd.prog 49 #[.string t, .int .i64 10, .int .i64 8] w fun e w' => e = .returned (Lib.uintTupleM 80 255 (Lib.parseUintB 8 t.data.toList)) ∧ (w' = w ∨ w' = Lib.bytesWorld w 5 t) := Any.internal_strconv_ParseUint_10_at8 Tryd.lays287 t hmax w
def Tryd.lays264_ren : Go.Shelf.Ren := ⟨fun | 264 => 76 | n => n, fun | 53 => 48 | 46 => 37 | n => n, fun | n => n⟩
theorem Tryd.lays264 : Go.Proofs.Lays.n264 Tryd.prog Tryd.lays264_ren := {
  mixed := by kernel_rfl
  f264 := Tryd.func76.trans (congrArg some (by kernel_rfl))
  t46 := Tryd.underlying37
  a46 := Tryd.isAgg37
  z46 := Tryd.sizeOf37
  v46 := Tryd.zeroValue37
  t53 := Tryd.underlying48
  a53 := Tryd.isAgg48
  z53 := Tryd.sizeOf48
  v53 := Tryd.zeroValue48 }
open Go.RowKit Go.Lib in
theorem Tryd.bits_Mul64 (x y : Nat) (hx : x < 18446744073709551616) (hy : y < 18446744073709551616) (w : World) :
    Calls Tryd.prog 76 #[.int .u64 x, .int .u64 y] w fun e w' => e = .returned (.tuple #[.int .u64 ((x * y / 18446744073709551616 : Nat) : Int), .int .u64 ((x * y % 18446744073709551616 : Nat) : Int)]) ∧ w' = w := Any.bits_Mul64 Tryd.lays264 x y hx hy w
def Tryd.lays212_ren : Go.Shelf.Ren := ⟨fun | 212 => 53 | 263 => 75 | 264 => 76 | n => n, fun | 46 => 37 | 51 => 92 | 146 => 93 | 53 => 48 | 148 => 95 | n => n, fun | n => n⟩
theorem Tryd.lays212 : Go.Proofs.Lays.n212 Tryd.prog Tryd.lays212_ren := {
  mixed := by kernel_rfl
  f212 := Tryd.func53.trans (congrArg some (by kernel_rfl))
  f263 := Tryd.func75.trans (congrArg some (by kernel_rfl))
  f264 := Tryd.func76.trans (congrArg some (by kernel_rfl))
  t46 := Tryd.underlying37
  a46 := Tryd.isAgg37
  z46 := Tryd.sizeOf37
  v46 := Tryd.zeroValue37
  t51 := Tryd.underlying92
  a51 := Tryd.isAgg92
  z51 := Tryd.sizeOf92
  v51 := Tryd.zeroValue92
  t53 := Tryd.underlying48
  a53 := Tryd.isAgg48
  z53 := Tryd.sizeOf48
  v53 := Tryd.zeroValue48
  t146 := Tryd.underlying93
  a146 := Tryd.isAgg93
  z146 := Tryd.sizeOf93
  v146 := Tryd.zeroValue93
  t148 := Tryd.underlying95
  a148 := Tryd.isAgg95
  z148 := Tryd.sizeOf95
  v148 := Tryd.zeroValue95 }
open Go.RowKit Go.Lib in
/-- math/bits.Mul: "Mul returns the full-width product of x and y": on a machine of 64 bits: Mul64's. (LAID: no walk: one application.) -/
theorem Tryd.bits_Mul (x y : Nat) (hx : x < 18446744073709551616) (hy : y < 18446744073709551616) (w : World) :
    Calls Tryd.prog 53 #[.int .u64 x, .int .u64 y] w fun e w' => e = .returned (.tuple #[.int .u64 ((x * y / 18446744073709551616 : Nat) : Int), .int .u64 ((x * y % 18446744073709551616 : Nat) : Int)]) ∧ w' = w := Any.bits_Mul Tryd.lays212 x y hx hy w
def Tryd.lays187_ren : Go.Shelf.Ren := ⟨fun | 187 => 51 | 255 => 70 | n => n, fun | 37 => 22 | 5 => 5 | 3 => 3 | n => n, fun | n => n⟩
theorem Tryd.lays187 : Go.Proofs.Lays.n187 Tryd.prog Tryd.lays187_ren := {
  mixed := by kernel_rfl
  f187 := Tryd.func51.trans (congrArg some (by kernel_rfl))
  f255 := Tryd.func70.trans (congrArg some (by kernel_rfl))
  t3 := Tryd.underlying3
  a3 := Tryd.isAgg3
  z3 := Tryd.sizeOf3
  v3 := Tryd.zeroValue3
  t5 := Tryd.underlying5
  a5 := Tryd.isAgg5
  z5 := Tryd.sizeOf5
  v5 := Tryd.zeroValue5
  t37 := Tryd.underlying22
  a37 := Tryd.isAgg22
  z37 := Tryd.sizeOf22
  v37 := Tryd.zeroValue22 }
open Go.RowKit Go.Lib in
/-- bytes.IndexByte, b at whatever address: "IndexByte returns the index of the first instance of c in b, or -1 if c is not present in b." (LAID: no walk: one application.) -/
theorem Tryd.bytes_IndexByte_at (a : Addr) (n c : Nat) (xs : List Int) (cv : Int) (w : World) (hx : xs.length = n) (hc : ∀ i, i < n → w.cell? (a.add i) = some (.int .u8 (xs.getD i 0))) :
    Calls Tryd.prog 51 #[.slice (some a) n c, .int .u8 cv] w fun e w' => e = .returned (.int .i64 (Lib.indexByte (Lib.bytesOf xs) cv.toNat.toUInt8)) ∧ w' = w := Any.bytes_IndexByte_at Tryd.lays187 a n c xs cv w hx hc
open Go.Proofs Go.RowKit Go.Lib in
/-- bytes.IndexByte, the slice's bytes told by a ByteArray. (LAID: no walk: one application.) -/
theorem Tryd.bytes_IndexByte_bytes (b o cap : Nat) (t : ByteArray) (cv : Int) (w : World) (hc : Lib.Bytes w b o t) :
    Calls Tryd.prog 51 #[.slice (some ⟨b, o, none⟩) t.size cap, .int .u8 cv] w fun e w' => e = .returned (.int .i64 (Lib.indexByte t.data.toList cv.toNat.toUInt8)) ∧ w' = w := Any.bytes_IndexByte_bytes Tryd.lays187 b o cap t cv w hc
/-- bytes.IndexByte: "IndexByte returns the index of the first instance of c in b, or -1 if c is not present in b.": IT RETURNS 'Lib.indexByte (the bytes of b) c'; the world is as it was. 'xs': the numbers that the slice's cells hold. (LAID: no walk: one application.) -/
theorem Tryd.bytes_IndexByte (b o n c : Nat) (xs : List Int) (cv : Int) (w : World) (hx : xs.length = n) (hc : ∀ i, i < n → w.cell? ⟨b, o + i, none⟩ = some (.int .u8 (xs.getD i 0))) :
    Calls Tryd.prog 51 #[.slice (some ⟨b, o, none⟩) n c, .int .u8 cv] w fun e w' => e = .returned (.int .i64 (Lib.indexByte (Lib.bytesOf xs) cv.toNat.toUInt8)) ∧ w' = w := Any.bytes_IndexByte Tryd.lays187 b o n c xs cv w hx hc
/-- bytes.IndexByte AT nil: -1. (LAID: no walk: one application.) -/
theorem Tryd.bytes_IndexByte_nil (cv : Int) (w : World) :
    Calls Tryd.prog 51 #[.slice none 0 0, .int .u8 cv] w fun e w' => e = .returned (.int .i64 (-1)) ∧ w' = w := Any.bytes_IndexByte_nil Tryd.lays187 cv w
end Go.Proofs
