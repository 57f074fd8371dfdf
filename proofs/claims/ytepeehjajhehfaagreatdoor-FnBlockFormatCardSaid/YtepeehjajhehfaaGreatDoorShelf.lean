/-
  DERIVED: THE SHELF's CONTRACTS AT THIS DUMP, IN PLAIN WORDS (tools/lay-plain.mjs out of 'TryzShelf.lean', which tools/lay-shelf.mjs wrote): THE SAME DECLARATIONS UNDER THE SAME NAMES: 'import', 'namespace', 'open', 'def', 'theorem' AND NOTHING ELSE: no command of the shelf's: FOR A HAND-IN. Each laying: the table of numbers ('.._ren') and one theorem, a field a fact of the dump's own or the kernel's comparison; each contract: ONE APPLICATION.
-/
import Derived.Shelf.Small.Utf8
import Derived.Shelf.Strconv.Itoa0
import Derived.Shelf.Strconv.Itoa1
import Derived.Shelf.LaysM
import Derived.Shelf.Strconv.Itoa2
import Derived.Shelf.Strconv.Itoa3
import Derived.Shelf.Strconv.Itoa4
import Derived.Shelf.Strconv.Clone
import Derived.Shelf.Strconv.SyntaxError
import Derived.Shelf.LaysC
import Derived.Shelf.Strconv.ToError
import Derived.Shelf.Strconv.Lower
import Derived.Shelf.Strconv.ParseUint10
import Derived.Shelf.Strconv.ParseUint10Empty
import Derived.Shelf.Strconv.ParseUint10Any
import Derived.Shelf.Strconv.RangeError
import Derived.Shelf.Strconv.ToErrorRange
import Derived.Shelf.Strconv.ParseUintEmpty
import Derived.Shelf.Strconv.ParseUint10b64
import Derived.Shelf.Strconv.ParseUint10b32
import Derived.Shelf.Strconv.ParseUint10b16
import Derived.Shelf.Strconv.ParseUint10b8
import Derived.Shelf.Strconv.ParseUint10At
import Derived.Ground.MpProg
import Derived.Shelf.Pu.ParseUintPublic10
import Derived.Shelf.Pu.ErrVarParseUint
import Derived.Shelf.Strings.LastIndex
import Derived.Shelf.Strings.LastIndexAll
import Derived.Shelf.Strings.Prefix
import Derived.Shelf.Bytes.SlIndexAt
import Derived.Shelf.Bytes.SlSearch0
import Derived.Ground.PaProg
import Derived.Shelf.Path.Small
import Derived.Shelf.Bytes.IndexByte
import Derived.Test.YtepeehjajhehfaaGreatDoorProg
namespace Go.Proofs
open Go.Shelf
def Tryz.lays120_ren : Go.Shelf.Ren := ⟨fun | 120 => 175 | n => n, fun | 5 => 5 | 4 => 4 | n => n, fun | n => n⟩
theorem Tryz.lays120 : Go.Proofs.Lays.n120 Tryz.prog Tryz.lays120_ren := {
  mixed := by kernel_rfl
  f120 := Tryz.func175.trans (congrArg some (by kernel_rfl))
  t4 := Tryz.underlying4
  a4 := Tryz.isAgg4
  z4 := Tryz.sizeOf4
  v4 := Tryz.zeroValue4
  t5 := Tryz.underlying5
  a5 := Tryz.isAgg5
  z5 := Tryz.sizeOf5
  v5 := Tryz.zeroValue5 }
/-- utf8.RuneStart: "RuneStart reports whether the byte could be the first byte of an encoded, possibly invalid rune. Second and subsequent bytes always have the top two bits set to 10.": IT RETURNS 'Lib.runeStart b'; the world is as it was. ('h0', 'h1': b is a byte: a caller has it of every byte that it was handed.) (LAID: no walk: one application.) -/
theorem Tryz.utf8_RuneStart (b : Int) (w : World) (h0 : 0 ≤ b) (h1 : b < 256) :
    Calls Tryz.prog 175 #[.int .u8 b] w fun e w' => e = .returned (.bool (Lib.runeStart b)) ∧ w' = w := Any.utf8_RuneStart Tryz.lays120 b w h0 h1
def Tryz.lays129_ren : Go.Shelf.Ren := ⟨fun | 129 => 159 | n => n, fun | 53 => 69 | 3 => 3 | 4 => 4 | 46 => 110 | 5 => 5 | 9 => 9 | n => n, fun | n => n⟩
theorem Tryz.lays129 : Go.Proofs.Lays.n129 Tryz.prog Tryz.lays129_ren := {
  mixed := by kernel_rfl
  f129 := Tryz.func159.trans (congrArg some (by kernel_rfl))
  t3 := Tryz.underlying3
  a3 := Tryz.isAgg3
  z3 := Tryz.sizeOf3
  v3 := Tryz.zeroValue3
  t4 := Tryz.underlying4
  a4 := Tryz.isAgg4
  z4 := Tryz.sizeOf4
  v4 := Tryz.zeroValue4
  t5 := Tryz.underlying5
  a5 := Tryz.isAgg5
  z5 := Tryz.sizeOf5
  v5 := Tryz.zeroValue5
  t9 := Tryz.underlying9
  a9 := Tryz.isAgg9
  z9 := Tryz.sizeOf9
  v9 := Tryz.zeroValue9
  t46 := Tryz.underlying110
  a46 := Tryz.isAgg110
  z46 := Tryz.sizeOf110
  v46 := Tryz.zeroValue110
  t53 := Tryz.underlying69
  a53 := Tryz.isAgg69
  z53 := Tryz.sizeOf69
  v53 := Tryz.zeroValue69 }
/-- bits.Len64: "Len64 returns the minimum number of bits required to represent x; the result is 0 for x == 0.": IT RETURNS 'Lib.bitLen x'; the world is as it was. ('h0', 'h1': x is a uint64.) (LAID: no walk: one application.) -/
theorem Tryz.bits_Len64 (x : Int) (w : World) (h0 : 0 ≤ x) (h1 : x ≤ 18446744073709551615) :
    Calls Tryz.prog 159 #[.int .u64 x] w fun e w' => e = .returned (.int .i64 (Lib.bitLen x.toNat)) ∧ w' = w := Any.bits_Len64 Tryz.lays129 x w h0 h1
def Tryz.lays317_ren : Go.Shelf.Ren := ⟨fun | 317 => 158 | n => n, fun | 3 => 3 | 46 => 110 | n => n, fun | n => n⟩
theorem Tryz.lays317 : Go.Proofs.Lays.n317 Tryz.prog Tryz.lays317_ren := {
  mixed := by kernel_rfl
  f317 := Tryz.func158.trans (congrArg some (by kernel_rfl))
  t3 := Tryz.underlying3
  a3 := Tryz.isAgg3
  z3 := Tryz.sizeOf3
  v3 := Tryz.zeroValue3
  t46 := Tryz.underlying110
  a46 := Tryz.isAgg110
  z46 := Tryz.sizeOf110
  v46 := Tryz.zeroValue110 }
open Go.Lib in
/-- internal/strconv.log10Pow2: "log10Pow2(x) returns ⌊log₁₀ 2**x⌋ = ⌊x * log₁₀ 2⌋.": '(x * 78913) >> 18', at an x up to 64 (a length in bits). The world is as it was. (LAID: no walk: one application.) -/
theorem Tryz.internal_strconv_log10Pow2 (x : Nat) (h : x ≤ 64) (w : World) :
    Calls Tryz.prog 158 #[.int .i64 x] w fun e w' => e = .returned (.int .i64 (Lib.l10 x)) ∧ w' = w := Any.internal_strconv_log10Pow2 Tryz.lays317 x h w
def Tryz.lays318_ren : Go.Shelf.Ren := ⟨fun | 318 => 160 | n => n, fun | 3 => 3 | 4 => 4 | n => n, fun | n => n⟩
theorem Tryz.lays318 : Go.Proofs.Lays.n318 Tryz.prog Tryz.lays318_ren := {
  mixed := by kernel_rfl
  f318 := Tryz.func160.trans (congrArg some (by kernel_rfl))
  t3 := Tryz.underlying3
  a3 := Tryz.isAgg3
  z3 := Tryz.sizeOf3
  v3 := Tryz.zeroValue3
  t4 := Tryz.underlying4
  a4 := Tryz.isAgg4
  z4 := Tryz.sizeOf4
  v4 := Tryz.zeroValue4 }
open Go.Lib in
/-- internal/strconv.bool2: "bool2 converts b to an integer: 1 for true, 0 for false." The world is as it was. (LAID: no walk: one application.) -/
theorem Tryz.internal_strconv_bool2_int (b : Bool) (w : World) :
    Calls Tryz.prog 160 #[.bool b] w fun e w' => e = .returned (.int .i64 (if b then 1 else 0)) ∧ w' = w := Any.internal_strconv_bool2_int Tryz.lays318 b w
def Tryz.lays283_ren : Go.Shelf.Ren := ⟨fun | 283 => 137 | n => n, fun | 3 => 3 | 9 => 9 | 4 => 4 | n => n, fun | n => n⟩
theorem Tryz.lays283 : Go.Proofs.Lays.n283 Tryz.prog Tryz.lays283_ren := {
  mixed := by kernel_rfl
  f283 := Tryz.func137.trans (congrArg some (by kernel_rfl))
  t3 := Tryz.underlying3
  a3 := Tryz.isAgg3
  z3 := Tryz.sizeOf3
  v3 := Tryz.zeroValue3
  t4 := Tryz.underlying4
  a4 := Tryz.isAgg4
  z4 := Tryz.sizeOf4
  v4 := Tryz.zeroValue4
  t9 := Tryz.underlying9
  a9 := Tryz.isAgg9
  z9 := Tryz.sizeOf9
  v9 := Tryz.zeroValue9 }
open Go.Lib in
/-- internal/strconv.small: "small returns the string for an i with 0 <= i < nSmalls.": i's decimal numeral. The world is as it was. (LAID: no walk: one application.) -/
theorem Tryz.internal_strconv_small (i : Nat) (h : i < 100) (w : World) :
    Calls Tryz.prog 137 #[.int .i64 i] w fun e w' => e = .returned (.string ⟨(Lib.decDigits i).toArray⟩) ∧ w' = w := Any.internal_strconv_small Tryz.lays283 i h w
def Tryz.laysM284_ren : Go.Shelf.Ren := ⟨fun | 284 => 138 | 129 => 159 | 317 => 158 | 318 => 160 | n => n, fun | 53 => 69 | 3 => 3 | 212 => 194 | 0 => 0 | 4 => 4 | 46 => 110 | 5 => 5 | 9 => 9 | n => n, fun | 17 => 3 | n => n⟩
theorem Tryz.laysM284 : Go.Proofs.LaysM.n284 Tryz.prog Tryz.laysM284_ren := {
  mixed := by kernel_rfl
  f129 := Tryz.func159.trans (congrArg some (by kernel_rfl))
  f284 := Tryz.func138.trans (congrArg some (by kernel_rfl))
  f317 := Tryz.func158.trans (congrArg some (by kernel_rfl))
  f318 := Tryz.func160.trans (congrArg some (by kernel_rfl))
  t0 := Tryz.underlying0
  a0 := Tryz.isAgg0
  z0 := Tryz.sizeOf0
  v0 := Tryz.zeroValue0
  t3 := Tryz.underlying3
  a3 := Tryz.isAgg3
  z3 := Tryz.sizeOf3
  v3 := Tryz.zeroValue3
  t4 := Tryz.underlying4
  a4 := Tryz.isAgg4
  z4 := Tryz.sizeOf4
  v4 := Tryz.zeroValue4
  t5 := Tryz.underlying5
  a5 := Tryz.isAgg5
  z5 := Tryz.sizeOf5
  v5 := Tryz.zeroValue5
  t9 := Tryz.underlying9
  a9 := Tryz.isAgg9
  z9 := Tryz.sizeOf9
  v9 := Tryz.zeroValue9
  t46 := Tryz.underlying110
  a46 := Tryz.isAgg110
  z46 := Tryz.sizeOf110
  v46 := Tryz.zeroValue110
  t53 := Tryz.underlying69
  a53 := Tryz.isAgg69
  z53 := Tryz.sizeOf69
  v53 := Tryz.zeroValue69
  t212 := Tryz.underlying194
  a212 := Tryz.isAgg194
  z212 := Tryz.sizeOf194
  v212 := Tryz.zeroValue194
  g17 := by kernel_rfl
  i0 := by kernel_rfl
  i3 := by kernel_rfl
  i4 := by kernel_rfl
  i5 := by kernel_rfl
  i9 := by kernel_rfl
  i46 := by kernel_rfl
  i53 := by kernel_rfl
  i212 := by kernel_rfl
  m17 := by kernel_rfl }
open Go.Lib in
/-- internal/strconv.numDigits, at a d that is not 0: THE NUMBER OF d's DECIMAL DIGITS. The world is as it was. (LAID: no walk: one application.) -/
theorem Tryz.internal_strconv_numDigits (u : Nat) (h1 : 1 ≤ u) (h2 : u < 18446744073709551616) (w : World) (htab : Lib.TabIs Tryz.prog w "internal/strconv.uint64pow10" .u64 Lib.pow10Tab) :
    Calls Tryz.prog 138 #[.int .u64 u] w fun e w' => e = .returned (.int .i64 (Lib.nDigits u)) ∧ w' = w := Any.internal_strconv_numDigits Tryz.laysM284 u h1 h2 w htab
def Tryz.lays285_ren : Go.Shelf.Ren := ⟨fun | 285 => 139 | n => n, fun | 37 => 35 | 53 => 69 | 3 => 3 | 4 => 4 | 51 => 191 | 9 => 9 | 5 => 5 | 0 => 0 | n => n, fun | n => n⟩
theorem Tryz.lays285 : Go.Proofs.Lays.n285 Tryz.prog Tryz.lays285_ren := {
  mixed := by kernel_rfl
  f285 := Tryz.func139.trans (congrArg some (by kernel_rfl))
  t0 := Tryz.underlying0
  a0 := Tryz.isAgg0
  z0 := Tryz.sizeOf0
  v0 := Tryz.zeroValue0
  t3 := Tryz.underlying3
  a3 := Tryz.isAgg3
  z3 := Tryz.sizeOf3
  v3 := Tryz.zeroValue3
  t4 := Tryz.underlying4
  a4 := Tryz.isAgg4
  z4 := Tryz.sizeOf4
  v4 := Tryz.zeroValue4
  t5 := Tryz.underlying5
  a5 := Tryz.isAgg5
  z5 := Tryz.sizeOf5
  v5 := Tryz.zeroValue5
  t9 := Tryz.underlying9
  a9 := Tryz.isAgg9
  z9 := Tryz.sizeOf9
  v9 := Tryz.zeroValue9
  t37 := Tryz.underlying35
  a37 := Tryz.isAgg35
  z37 := Tryz.sizeOf35
  v37 := Tryz.zeroValue35
  t51 := Tryz.underlying191
  a51 := Tryz.isAgg191
  z51 := Tryz.sizeOf191
  v51 := Tryz.zeroValue191
  t53 := Tryz.underlying69
  a53 := Tryz.isAgg69
  z53 := Tryz.sizeOf69
  v53 := Tryz.zeroValue69 }
open Go.RowKit Go.Sort Go.Lib in
/-- internal/strconv.formatBase10: "formatBase10 formats the decimal representation of u into a. The caller is responsible for ensuring that a is big enough to hold u. If a is too big, leading zeros will be filled in as needed.": THE ROW HOLDS u's DIGITS ('FmtInv .. 0 ..': every place t holds 'dg u (len - 1 - t)'); all else is as it was but for the count of draws. (LAID: no walk: one application.) -/
theorem Tryz.internal_strconv_formatBase10 (blk off cap : Nat) (u : Nat) (d : Array UInt8) (w : World) (hH : Holds (fun (b : UInt8) => Value.int .u8 (b.toNat : Int)) w blk off d) (hu : u < 10 ^ d.size) (hu64 : u < 18446744073709551616) (hsz : d.size < 4611686018427387904) :
    Calls Tryz.prog 139 #[.slice (some ⟨blk, off, none⟩) d.size cap, .int .u64 u] w fun e w' =>
      e = .returned (.tuple #[]) ∧ ∃ (n v' : Nat) (dk : Array UInt8), w' = (putRow (fun (b : UInt8) => Value.int .u8 (b.toNat : Int)) w blk off dk).drewN n ∧ FmtInv d.size u 0 v' dk := Any.internal_strconv_formatBase10 Tryz.lays285 blk off cap u d w hH hu hu64 hsz
def Tryz.laysM246_ren : Go.Shelf.Ren := ⟨fun | 246 => 114 | 283 => 137 | 284 => 138 | 285 => 139 | 286 => 140 | 129 => 159 | 317 => 158 | 318 => 160 | 319 => 161 | 320 => 162 | 337 => 178 | 338 => 179 | n => n, fun | 2 => 2 | 3 => 3 | 9 => 9 | 4 => 4 | 171 => 174 | 0 => 0 | 53 => 69 | 37 => 35 | 5 => 5 | 173 => 177 | 212 => 194 | 51 => 191 | 20 => 20 | 213 => 195 | 46 => 110 | 232 => 224 | 233 => 225 | n => n, fun | 17 => 3 | 18 => 8 | 19 => 9 | n => n⟩
theorem Tryz.laysM246 : Go.Proofs.LaysM.n246 Tryz.prog Tryz.laysM246_ren := {
  mixed := by kernel_rfl
  f129 := Tryz.func159.trans (congrArg some (by kernel_rfl))
  f246 := Tryz.func114.trans (congrArg some (by kernel_rfl))
  f283 := Tryz.func137.trans (congrArg some (by kernel_rfl))
  f284 := Tryz.func138.trans (congrArg some (by kernel_rfl))
  f285 := Tryz.func139.trans (congrArg some (by kernel_rfl))
  f286 := Tryz.func140.trans (congrArg some (by kernel_rfl))
  f317 := Tryz.func158.trans (congrArg some (by kernel_rfl))
  f318 := Tryz.func160.trans (congrArg some (by kernel_rfl))
  f319 := Tryz.func161.trans (congrArg some (by kernel_rfl))
  f320 := Tryz.func162.trans (congrArg some (by kernel_rfl))
  f337 := Tryz.func178.trans (congrArg some (by kernel_rfl))
  f338 := Tryz.func179.trans (congrArg some (by kernel_rfl))
  t0 := Tryz.underlying0
  a0 := Tryz.isAgg0
  z0 := Tryz.sizeOf0
  v0 := Tryz.zeroValue0
  t2 := Tryz.underlying2
  a2 := Tryz.isAgg2
  z2 := Tryz.sizeOf2
  v2 := Tryz.zeroValue2
  t3 := Tryz.underlying3
  a3 := Tryz.isAgg3
  z3 := Tryz.sizeOf3
  v3 := Tryz.zeroValue3
  t4 := Tryz.underlying4
  a4 := Tryz.isAgg4
  z4 := Tryz.sizeOf4
  v4 := Tryz.zeroValue4
  t5 := Tryz.underlying5
  a5 := Tryz.isAgg5
  z5 := Tryz.sizeOf5
  v5 := Tryz.zeroValue5
  t9 := Tryz.underlying9
  a9 := Tryz.isAgg9
  z9 := Tryz.sizeOf9
  v9 := Tryz.zeroValue9
  t20 := Tryz.underlying20
  a20 := Tryz.isAgg20
  z20 := Tryz.sizeOf20
  v20 := Tryz.zeroValue20
  t37 := Tryz.underlying35
  a37 := Tryz.isAgg35
  z37 := Tryz.sizeOf35
  v37 := Tryz.zeroValue35
  t46 := Tryz.underlying110
  a46 := Tryz.isAgg110
  z46 := Tryz.sizeOf110
  v46 := Tryz.zeroValue110
  t51 := Tryz.underlying191
  a51 := Tryz.isAgg191
  z51 := Tryz.sizeOf191
  v51 := Tryz.zeroValue191
  t53 := Tryz.underlying69
  a53 := Tryz.isAgg69
  z53 := Tryz.sizeOf69
  v53 := Tryz.zeroValue69
  t171 := Tryz.underlying174
  a171 := Tryz.isAgg174
  z171 := Tryz.sizeOf174
  v171 := Tryz.zeroValue174
  t173 := Tryz.underlying177
  a173 := Tryz.isAgg177
  z173 := Tryz.sizeOf177
  v173 := Tryz.zeroValue177
  t212 := Tryz.underlying194
  a212 := Tryz.isAgg194
  z212 := Tryz.sizeOf194
  v212 := Tryz.zeroValue194
  t213 := Tryz.underlying195
  a213 := Tryz.isAgg195
  z213 := Tryz.sizeOf195
  t232 := Tryz.underlying224
  a232 := Tryz.isAgg224
  z232 := Tryz.sizeOf224
  v232 := Tryz.zeroValue224
  t233 := Tryz.underlying225
  a233 := Tryz.isAgg225
  z233 := Tryz.sizeOf225
  v233 := Tryz.zeroValue225
  g17 := by kernel_rfl
  g18 := by kernel_rfl
  g19 := by kernel_rfl
  i0 := by kernel_rfl
  i2 := by kernel_rfl
  i3 := by kernel_rfl
  i4 := by kernel_rfl
  i5 := by kernel_rfl
  i9 := by kernel_rfl
  i20 := by kernel_rfl
  i37 := by kernel_rfl
  i46 := by kernel_rfl
  i51 := by kernel_rfl
  i53 := by kernel_rfl
  i171 := by kernel_rfl
  i173 := by kernel_rfl
  i212 := by kernel_rfl
  i232 := by kernel_rfl
  i233 := by kernel_rfl
  m17 := by kernel_rfl
  m18 := by kernel_rfl
  m19 := by kernel_rfl }
open Go.RowKit Go.Sort Go.Lib in
/-- internal/strconv.FormatInt: "FormatInt returns the string representation of i in the given base": AT BASE 10: i's decimal numeral, for every int64. The world behind the call: the world before it, new blocks behind the heap, draws. (LAID: no walk: one application.) -/
theorem Tryz.internal_strconv_FormatInt_10 (n : Int) (h0 : -9223372036854775808 ≤ n) (h1 : n ≤ 9223372036854775807) (w : World) (htab : Lib.TabIs Tryz.prog w "internal/strconv.uint64pow10" .u64 Lib.pow10Tab) :
    Calls Tryz.prog 114 #[.int .i64 n, .int .i64 10] w fun e w' => e = .returned (.string ⟨(Lib.itoa n).toArray⟩) ∧ ∃ k os, w' = grow (w.drewN k) os := Any.internal_strconv_FormatInt_10 Tryz.laysM246 n h0 h1 w htab
def Tryz.lays246_ren : Go.Shelf.Ren := ⟨fun | 246 => 114 | 283 => 137 | 284 => 138 | 285 => 139 | 286 => 140 | 129 => 159 | 317 => 158 | 318 => 160 | 319 => 161 | 320 => 162 | 337 => 178 | 338 => 179 | n => n, fun | 2 => 2 | 3 => 3 | 9 => 9 | 4 => 4 | 171 => 174 | 0 => 0 | 53 => 69 | 37 => 35 | 5 => 5 | 173 => 177 | 212 => 194 | 51 => 191 | 20 => 20 | 213 => 195 | 46 => 110 | 232 => 224 | 233 => 225 | n => n, fun | 17 => 3 | 18 => 8 | 19 => 9 | n => n⟩
theorem Tryz.lays246 : Go.Proofs.Lays.n246 Tryz.prog Tryz.lays246_ren := {
  mixed := by kernel_rfl
  f129 := Tryz.func159.trans (congrArg some (by kernel_rfl))
  f246 := Tryz.func114.trans (congrArg some (by kernel_rfl))
  f283 := Tryz.func137.trans (congrArg some (by kernel_rfl))
  f284 := Tryz.func138.trans (congrArg some (by kernel_rfl))
  f285 := Tryz.func139.trans (congrArg some (by kernel_rfl))
  f286 := Tryz.func140.trans (congrArg some (by kernel_rfl))
  f317 := Tryz.func158.trans (congrArg some (by kernel_rfl))
  f318 := Tryz.func160.trans (congrArg some (by kernel_rfl))
  f319 := Tryz.func161.trans (congrArg some (by kernel_rfl))
  f320 := Tryz.func162.trans (congrArg some (by kernel_rfl))
  f337 := Tryz.func178.trans (congrArg some (by kernel_rfl))
  f338 := Tryz.func179.trans (congrArg some (by kernel_rfl))
  t0 := Tryz.underlying0
  a0 := Tryz.isAgg0
  z0 := Tryz.sizeOf0
  v0 := Tryz.zeroValue0
  t2 := Tryz.underlying2
  a2 := Tryz.isAgg2
  z2 := Tryz.sizeOf2
  v2 := Tryz.zeroValue2
  t3 := Tryz.underlying3
  a3 := Tryz.isAgg3
  z3 := Tryz.sizeOf3
  v3 := Tryz.zeroValue3
  t4 := Tryz.underlying4
  a4 := Tryz.isAgg4
  z4 := Tryz.sizeOf4
  v4 := Tryz.zeroValue4
  t5 := Tryz.underlying5
  a5 := Tryz.isAgg5
  z5 := Tryz.sizeOf5
  v5 := Tryz.zeroValue5
  t9 := Tryz.underlying9
  a9 := Tryz.isAgg9
  z9 := Tryz.sizeOf9
  v9 := Tryz.zeroValue9
  t20 := Tryz.underlying20
  a20 := Tryz.isAgg20
  z20 := Tryz.sizeOf20
  v20 := Tryz.zeroValue20
  t37 := Tryz.underlying35
  a37 := Tryz.isAgg35
  z37 := Tryz.sizeOf35
  v37 := Tryz.zeroValue35
  t46 := Tryz.underlying110
  a46 := Tryz.isAgg110
  z46 := Tryz.sizeOf110
  v46 := Tryz.zeroValue110
  t51 := Tryz.underlying191
  a51 := Tryz.isAgg191
  z51 := Tryz.sizeOf191
  v51 := Tryz.zeroValue191
  t53 := Tryz.underlying69
  a53 := Tryz.isAgg69
  z53 := Tryz.sizeOf69
  v53 := Tryz.zeroValue69
  t171 := Tryz.underlying174
  a171 := Tryz.isAgg174
  z171 := Tryz.sizeOf174
  v171 := Tryz.zeroValue174
  t173 := Tryz.underlying177
  a173 := Tryz.isAgg177
  z173 := Tryz.sizeOf177
  v173 := Tryz.zeroValue177
  t212 := Tryz.underlying194
  a212 := Tryz.isAgg194
  z212 := Tryz.sizeOf194
  v212 := Tryz.zeroValue194
  t213 := Tryz.underlying195
  a213 := Tryz.isAgg195
  z213 := Tryz.sizeOf195
  t232 := Tryz.underlying224
  a232 := Tryz.isAgg224
  z232 := Tryz.sizeOf224
  v232 := Tryz.zeroValue224
  t233 := Tryz.underlying225
  a233 := Tryz.isAgg225
  z233 := Tryz.sizeOf225
  v233 := Tryz.zeroValue225
  g17 := by kernel_rfl
  g18 := by kernel_rfl
  g19 := by kernel_rfl }
open Go.RowKit Go.Sort Go.Lib in
/-- THE ROAD WITHOUT THE TABLE: 0 <= i < 100: two constants are read, nothing is laid: no premise on the world, and the world is as it was. (LAID: no walk: one application.) -/
theorem Tryz.internal_strconv_FormatInt_10_small (i : Nat) (hi : i < 100) (w : World) :
    Calls Tryz.prog 114 #[.int .i64 i, .int .i64 10] w fun e w' => e = .returned (.string ⟨(Lib.decDigits i).toArray⟩) ∧ w' = w := Any.internal_strconv_FormatInt_10_small Tryz.lays246 i hi w
def Tryz.laysM243_ren : Go.Shelf.Ren := ⟨fun | 243 => 163 | 246 => 114 | 283 => 137 | 284 => 138 | 285 => 139 | 286 => 140 | 129 => 159 | 317 => 158 | 318 => 160 | 319 => 161 | 320 => 162 | 337 => 178 | 338 => 179 | n => n, fun | 3 => 3 | 9 => 9 | 2 => 2 | 4 => 4 | 171 => 174 | 0 => 0 | 53 => 69 | 37 => 35 | 5 => 5 | 173 => 177 | 212 => 194 | 51 => 191 | 20 => 20 | 213 => 195 | 46 => 110 | 232 => 224 | 233 => 225 | n => n, fun | 17 => 3 | 18 => 8 | 19 => 9 | n => n⟩
theorem Tryz.laysM243 : Go.Proofs.LaysM.n243 Tryz.prog Tryz.laysM243_ren := {
  mixed := by kernel_rfl
  f129 := Tryz.func159.trans (congrArg some (by kernel_rfl))
  f243 := Tryz.func163.trans (congrArg some (by kernel_rfl))
  f246 := Tryz.func114.trans (congrArg some (by kernel_rfl))
  f283 := Tryz.func137.trans (congrArg some (by kernel_rfl))
  f284 := Tryz.func138.trans (congrArg some (by kernel_rfl))
  f285 := Tryz.func139.trans (congrArg some (by kernel_rfl))
  f286 := Tryz.func140.trans (congrArg some (by kernel_rfl))
  f317 := Tryz.func158.trans (congrArg some (by kernel_rfl))
  f318 := Tryz.func160.trans (congrArg some (by kernel_rfl))
  f319 := Tryz.func161.trans (congrArg some (by kernel_rfl))
  f320 := Tryz.func162.trans (congrArg some (by kernel_rfl))
  f337 := Tryz.func178.trans (congrArg some (by kernel_rfl))
  f338 := Tryz.func179.trans (congrArg some (by kernel_rfl))
  t0 := Tryz.underlying0
  a0 := Tryz.isAgg0
  z0 := Tryz.sizeOf0
  v0 := Tryz.zeroValue0
  t2 := Tryz.underlying2
  a2 := Tryz.isAgg2
  z2 := Tryz.sizeOf2
  v2 := Tryz.zeroValue2
  t3 := Tryz.underlying3
  a3 := Tryz.isAgg3
  z3 := Tryz.sizeOf3
  v3 := Tryz.zeroValue3
  t4 := Tryz.underlying4
  a4 := Tryz.isAgg4
  z4 := Tryz.sizeOf4
  v4 := Tryz.zeroValue4
  t5 := Tryz.underlying5
  a5 := Tryz.isAgg5
  z5 := Tryz.sizeOf5
  v5 := Tryz.zeroValue5
  t9 := Tryz.underlying9
  a9 := Tryz.isAgg9
  z9 := Tryz.sizeOf9
  v9 := Tryz.zeroValue9
  t20 := Tryz.underlying20
  a20 := Tryz.isAgg20
  z20 := Tryz.sizeOf20
  v20 := Tryz.zeroValue20
  t37 := Tryz.underlying35
  a37 := Tryz.isAgg35
  z37 := Tryz.sizeOf35
  v37 := Tryz.zeroValue35
  t46 := Tryz.underlying110
  a46 := Tryz.isAgg110
  z46 := Tryz.sizeOf110
  v46 := Tryz.zeroValue110
  t51 := Tryz.underlying191
  a51 := Tryz.isAgg191
  z51 := Tryz.sizeOf191
  v51 := Tryz.zeroValue191
  t53 := Tryz.underlying69
  a53 := Tryz.isAgg69
  z53 := Tryz.sizeOf69
  v53 := Tryz.zeroValue69
  t171 := Tryz.underlying174
  a171 := Tryz.isAgg174
  z171 := Tryz.sizeOf174
  v171 := Tryz.zeroValue174
  t173 := Tryz.underlying177
  a173 := Tryz.isAgg177
  z173 := Tryz.sizeOf177
  v173 := Tryz.zeroValue177
  t212 := Tryz.underlying194
  a212 := Tryz.isAgg194
  z212 := Tryz.sizeOf194
  v212 := Tryz.zeroValue194
  t213 := Tryz.underlying195
  a213 := Tryz.isAgg195
  z213 := Tryz.sizeOf195
  t232 := Tryz.underlying224
  a232 := Tryz.isAgg224
  z232 := Tryz.sizeOf224
  v232 := Tryz.zeroValue224
  t233 := Tryz.underlying225
  a233 := Tryz.isAgg225
  z233 := Tryz.sizeOf225
  v233 := Tryz.zeroValue225
  g17 := by kernel_rfl
  g18 := by kernel_rfl
  g19 := by kernel_rfl
  i0 := by kernel_rfl
  i2 := by kernel_rfl
  i3 := by kernel_rfl
  i4 := by kernel_rfl
  i5 := by kernel_rfl
  i9 := by kernel_rfl
  i20 := by kernel_rfl
  i37 := by kernel_rfl
  i46 := by kernel_rfl
  i51 := by kernel_rfl
  i53 := by kernel_rfl
  i171 := by kernel_rfl
  i173 := by kernel_rfl
  i212 := by kernel_rfl
  i232 := by kernel_rfl
  i233 := by kernel_rfl
  m17 := by kernel_rfl
  m18 := by kernel_rfl
  m19 := by kernel_rfl }
open Go.RowKit Go.Sort Go.Lib in
/-- internal/strconv.Itoa: "Itoa is equivalent to FormatInt(int64(i), 10).": i's decimal numeral, for every int. (LAID: no walk: one application.) -/
theorem Tryz.internal_strconv_Itoa (n : Int) (h0 : -9223372036854775808 ≤ n) (h1 : n ≤ 9223372036854775807) (w : World) (htab : Lib.TabIs Tryz.prog w "internal/strconv.uint64pow10" .u64 Lib.pow10Tab) :
    Calls Tryz.prog 163 #[.int .i64 n] w fun e w' => e = .returned (.string ⟨(Lib.itoa n).toArray⟩) ∧ ∃ k os, w' = grow (w.drewN k) os := Any.internal_strconv_Itoa Tryz.laysM243 n h0 h1 w htab
def Tryz.lays243_ren : Go.Shelf.Ren := ⟨fun | 243 => 163 | 246 => 114 | 283 => 137 | 284 => 138 | 285 => 139 | 286 => 140 | 129 => 159 | 317 => 158 | 318 => 160 | 319 => 161 | 320 => 162 | 337 => 178 | 338 => 179 | n => n, fun | 3 => 3 | 9 => 9 | 2 => 2 | 4 => 4 | 171 => 174 | 0 => 0 | 53 => 69 | 37 => 35 | 5 => 5 | 173 => 177 | 212 => 194 | 51 => 191 | 20 => 20 | 213 => 195 | 46 => 110 | 232 => 224 | 233 => 225 | n => n, fun | 17 => 3 | 18 => 8 | 19 => 9 | n => n⟩
theorem Tryz.lays243 : Go.Proofs.Lays.n243 Tryz.prog Tryz.lays243_ren := {
  mixed := by kernel_rfl
  f129 := Tryz.func159.trans (congrArg some (by kernel_rfl))
  f243 := Tryz.func163.trans (congrArg some (by kernel_rfl))
  f246 := Tryz.func114.trans (congrArg some (by kernel_rfl))
  f283 := Tryz.func137.trans (congrArg some (by kernel_rfl))
  f284 := Tryz.func138.trans (congrArg some (by kernel_rfl))
  f285 := Tryz.func139.trans (congrArg some (by kernel_rfl))
  f286 := Tryz.func140.trans (congrArg some (by kernel_rfl))
  f317 := Tryz.func158.trans (congrArg some (by kernel_rfl))
  f318 := Tryz.func160.trans (congrArg some (by kernel_rfl))
  f319 := Tryz.func161.trans (congrArg some (by kernel_rfl))
  f320 := Tryz.func162.trans (congrArg some (by kernel_rfl))
  f337 := Tryz.func178.trans (congrArg some (by kernel_rfl))
  f338 := Tryz.func179.trans (congrArg some (by kernel_rfl))
  t0 := Tryz.underlying0
  a0 := Tryz.isAgg0
  z0 := Tryz.sizeOf0
  v0 := Tryz.zeroValue0
  t2 := Tryz.underlying2
  a2 := Tryz.isAgg2
  z2 := Tryz.sizeOf2
  v2 := Tryz.zeroValue2
  t3 := Tryz.underlying3
  a3 := Tryz.isAgg3
  z3 := Tryz.sizeOf3
  v3 := Tryz.zeroValue3
  t4 := Tryz.underlying4
  a4 := Tryz.isAgg4
  z4 := Tryz.sizeOf4
  v4 := Tryz.zeroValue4
  t5 := Tryz.underlying5
  a5 := Tryz.isAgg5
  z5 := Tryz.sizeOf5
  v5 := Tryz.zeroValue5
  t9 := Tryz.underlying9
  a9 := Tryz.isAgg9
  z9 := Tryz.sizeOf9
  v9 := Tryz.zeroValue9
  t20 := Tryz.underlying20
  a20 := Tryz.isAgg20
  z20 := Tryz.sizeOf20
  v20 := Tryz.zeroValue20
  t37 := Tryz.underlying35
  a37 := Tryz.isAgg35
  z37 := Tryz.sizeOf35
  v37 := Tryz.zeroValue35
  t46 := Tryz.underlying110
  a46 := Tryz.isAgg110
  z46 := Tryz.sizeOf110
  v46 := Tryz.zeroValue110
  t51 := Tryz.underlying191
  a51 := Tryz.isAgg191
  z51 := Tryz.sizeOf191
  v51 := Tryz.zeroValue191
  t53 := Tryz.underlying69
  a53 := Tryz.isAgg69
  z53 := Tryz.sizeOf69
  v53 := Tryz.zeroValue69
  t171 := Tryz.underlying174
  a171 := Tryz.isAgg174
  z171 := Tryz.sizeOf174
  v171 := Tryz.zeroValue174
  t173 := Tryz.underlying177
  a173 := Tryz.isAgg177
  z173 := Tryz.sizeOf177
  v173 := Tryz.zeroValue177
  t212 := Tryz.underlying194
  a212 := Tryz.isAgg194
  z212 := Tryz.sizeOf194
  v212 := Tryz.zeroValue194
  t213 := Tryz.underlying195
  a213 := Tryz.isAgg195
  z213 := Tryz.sizeOf195
  t232 := Tryz.underlying224
  a232 := Tryz.isAgg224
  z232 := Tryz.sizeOf224
  v232 := Tryz.zeroValue224
  t233 := Tryz.underlying225
  a233 := Tryz.isAgg225
  z233 := Tryz.sizeOf225
  v233 := Tryz.zeroValue225
  g17 := by kernel_rfl
  g18 := by kernel_rfl
  g19 := by kernel_rfl }
open Go.RowKit Go.Sort Go.Lib in
/-- THE ROAD WITHOUT THE TABLE: 0 <= i < 100. (LAID: no walk: one application.) -/
theorem Tryz.internal_strconv_Itoa_small (i : Nat) (hi : i < 100) (w : World) :
    Calls Tryz.prog 163 #[.int .i64 i] w fun e w' => e = .returned (.string ⟨(Lib.decDigits i).toArray⟩) ∧ w' = w := Any.internal_strconv_Itoa_small Tryz.lays243 i hi w
def Tryz.laysM171_ren : Go.Shelf.Ren := ⟨fun | 171 => 142 | 243 => 163 | 246 => 114 | 283 => 137 | 284 => 138 | 285 => 139 | 286 => 140 | 129 => 159 | 317 => 158 | 318 => 160 | 319 => 161 | 320 => 162 | 337 => 178 | 338 => 179 | n => n, fun | 3 => 3 | 9 => 9 | 2 => 2 | 4 => 4 | 171 => 174 | 0 => 0 | 53 => 69 | 37 => 35 | 5 => 5 | 173 => 177 | 212 => 194 | 51 => 191 | 20 => 20 | 213 => 195 | 46 => 110 | 232 => 224 | 233 => 225 | n => n, fun | 17 => 3 | 18 => 8 | 19 => 9 | n => n⟩
theorem Tryz.laysM171 : Go.Proofs.LaysM.n171 Tryz.prog Tryz.laysM171_ren := {
  mixed := by kernel_rfl
  f129 := Tryz.func159.trans (congrArg some (by kernel_rfl))
  f171 := Tryz.func142.trans (congrArg some (by kernel_rfl))
  f243 := Tryz.func163.trans (congrArg some (by kernel_rfl))
  f246 := Tryz.func114.trans (congrArg some (by kernel_rfl))
  f283 := Tryz.func137.trans (congrArg some (by kernel_rfl))
  f284 := Tryz.func138.trans (congrArg some (by kernel_rfl))
  f285 := Tryz.func139.trans (congrArg some (by kernel_rfl))
  f286 := Tryz.func140.trans (congrArg some (by kernel_rfl))
  f317 := Tryz.func158.trans (congrArg some (by kernel_rfl))
  f318 := Tryz.func160.trans (congrArg some (by kernel_rfl))
  f319 := Tryz.func161.trans (congrArg some (by kernel_rfl))
  f320 := Tryz.func162.trans (congrArg some (by kernel_rfl))
  f337 := Tryz.func178.trans (congrArg some (by kernel_rfl))
  f338 := Tryz.func179.trans (congrArg some (by kernel_rfl))
  t0 := Tryz.underlying0
  a0 := Tryz.isAgg0
  z0 := Tryz.sizeOf0
  v0 := Tryz.zeroValue0
  t2 := Tryz.underlying2
  a2 := Tryz.isAgg2
  z2 := Tryz.sizeOf2
  v2 := Tryz.zeroValue2
  t3 := Tryz.underlying3
  a3 := Tryz.isAgg3
  z3 := Tryz.sizeOf3
  v3 := Tryz.zeroValue3
  t4 := Tryz.underlying4
  a4 := Tryz.isAgg4
  z4 := Tryz.sizeOf4
  v4 := Tryz.zeroValue4
  t5 := Tryz.underlying5
  a5 := Tryz.isAgg5
  z5 := Tryz.sizeOf5
  v5 := Tryz.zeroValue5
  t9 := Tryz.underlying9
  a9 := Tryz.isAgg9
  z9 := Tryz.sizeOf9
  v9 := Tryz.zeroValue9
  t20 := Tryz.underlying20
  a20 := Tryz.isAgg20
  z20 := Tryz.sizeOf20
  v20 := Tryz.zeroValue20
  t37 := Tryz.underlying35
  a37 := Tryz.isAgg35
  z37 := Tryz.sizeOf35
  v37 := Tryz.zeroValue35
  t46 := Tryz.underlying110
  a46 := Tryz.isAgg110
  z46 := Tryz.sizeOf110
  v46 := Tryz.zeroValue110
  t51 := Tryz.underlying191
  a51 := Tryz.isAgg191
  z51 := Tryz.sizeOf191
  v51 := Tryz.zeroValue191
  t53 := Tryz.underlying69
  a53 := Tryz.isAgg69
  z53 := Tryz.sizeOf69
  v53 := Tryz.zeroValue69
  t171 := Tryz.underlying174
  a171 := Tryz.isAgg174
  z171 := Tryz.sizeOf174
  v171 := Tryz.zeroValue174
  t173 := Tryz.underlying177
  a173 := Tryz.isAgg177
  z173 := Tryz.sizeOf177
  v173 := Tryz.zeroValue177
  t212 := Tryz.underlying194
  a212 := Tryz.isAgg194
  z212 := Tryz.sizeOf194
  v212 := Tryz.zeroValue194
  t213 := Tryz.underlying195
  a213 := Tryz.isAgg195
  z213 := Tryz.sizeOf195
  t232 := Tryz.underlying224
  a232 := Tryz.isAgg224
  z232 := Tryz.sizeOf224
  v232 := Tryz.zeroValue224
  t233 := Tryz.underlying225
  a233 := Tryz.isAgg225
  z233 := Tryz.sizeOf225
  v233 := Tryz.zeroValue225
  g17 := by kernel_rfl
  g18 := by kernel_rfl
  g19 := by kernel_rfl
  i0 := by kernel_rfl
  i2 := by kernel_rfl
  i3 := by kernel_rfl
  i4 := by kernel_rfl
  i5 := by kernel_rfl
  i9 := by kernel_rfl
  i20 := by kernel_rfl
  i37 := by kernel_rfl
  i46 := by kernel_rfl
  i51 := by kernel_rfl
  i53 := by kernel_rfl
  i171 := by kernel_rfl
  i173 := by kernel_rfl
  i212 := by kernel_rfl
  i232 := by kernel_rfl
  i233 := by kernel_rfl
  m17 := by kernel_rfl
  m18 := by kernel_rfl
  m19 := by kernel_rfl }
open Go.RowKit Go.Sort Go.Lib in
/-- strconv.Itoa: "Itoa is equivalent to FormatInt(int64(i), 10).": i's DECIMAL NUMERAL ('Lib.itoa': a '-' where i is negative, then the digits), FOR EVERY int. The world behind the call: the world before it, new blocks behind the heap (the library's 'var a [24]byte'), draws. (LAID: no walk: one application.) -/
theorem Tryz.strconv_Itoa (n : Int) (h0 : -9223372036854775808 ≤ n) (h1 : n ≤ 9223372036854775807) (w : World) (htab : Lib.TabIs Tryz.prog w "internal/strconv.uint64pow10" .u64 Lib.pow10Tab) :
    Calls Tryz.prog 142 #[.int .i64 n] w fun e w' => e = .returned (.string ⟨(Lib.itoa n).toArray⟩) ∧ ∃ k os, w' = grow (w.drewN k) os := Any.strconv_Itoa Tryz.laysM171 n h0 h1 w htab
def Tryz.lays171_ren : Go.Shelf.Ren := ⟨fun | 171 => 142 | 243 => 163 | 246 => 114 | 283 => 137 | 284 => 138 | 285 => 139 | 286 => 140 | 129 => 159 | 317 => 158 | 318 => 160 | 319 => 161 | 320 => 162 | 337 => 178 | 338 => 179 | n => n, fun | 3 => 3 | 9 => 9 | 2 => 2 | 4 => 4 | 171 => 174 | 0 => 0 | 53 => 69 | 37 => 35 | 5 => 5 | 173 => 177 | 212 => 194 | 51 => 191 | 20 => 20 | 213 => 195 | 46 => 110 | 232 => 224 | 233 => 225 | n => n, fun | 17 => 3 | 18 => 8 | 19 => 9 | n => n⟩
theorem Tryz.lays171 : Go.Proofs.Lays.n171 Tryz.prog Tryz.lays171_ren := {
  mixed := by kernel_rfl
  f129 := Tryz.func159.trans (congrArg some (by kernel_rfl))
  f171 := Tryz.func142.trans (congrArg some (by kernel_rfl))
  f243 := Tryz.func163.trans (congrArg some (by kernel_rfl))
  f246 := Tryz.func114.trans (congrArg some (by kernel_rfl))
  f283 := Tryz.func137.trans (congrArg some (by kernel_rfl))
  f284 := Tryz.func138.trans (congrArg some (by kernel_rfl))
  f285 := Tryz.func139.trans (congrArg some (by kernel_rfl))
  f286 := Tryz.func140.trans (congrArg some (by kernel_rfl))
  f317 := Tryz.func158.trans (congrArg some (by kernel_rfl))
  f318 := Tryz.func160.trans (congrArg some (by kernel_rfl))
  f319 := Tryz.func161.trans (congrArg some (by kernel_rfl))
  f320 := Tryz.func162.trans (congrArg some (by kernel_rfl))
  f337 := Tryz.func178.trans (congrArg some (by kernel_rfl))
  f338 := Tryz.func179.trans (congrArg some (by kernel_rfl))
  t0 := Tryz.underlying0
  a0 := Tryz.isAgg0
  z0 := Tryz.sizeOf0
  v0 := Tryz.zeroValue0
  t2 := Tryz.underlying2
  a2 := Tryz.isAgg2
  z2 := Tryz.sizeOf2
  v2 := Tryz.zeroValue2
  t3 := Tryz.underlying3
  a3 := Tryz.isAgg3
  z3 := Tryz.sizeOf3
  v3 := Tryz.zeroValue3
  t4 := Tryz.underlying4
  a4 := Tryz.isAgg4
  z4 := Tryz.sizeOf4
  v4 := Tryz.zeroValue4
  t5 := Tryz.underlying5
  a5 := Tryz.isAgg5
  z5 := Tryz.sizeOf5
  v5 := Tryz.zeroValue5
  t9 := Tryz.underlying9
  a9 := Tryz.isAgg9
  z9 := Tryz.sizeOf9
  v9 := Tryz.zeroValue9
  t20 := Tryz.underlying20
  a20 := Tryz.isAgg20
  z20 := Tryz.sizeOf20
  v20 := Tryz.zeroValue20
  t37 := Tryz.underlying35
  a37 := Tryz.isAgg35
  z37 := Tryz.sizeOf35
  v37 := Tryz.zeroValue35
  t46 := Tryz.underlying110
  a46 := Tryz.isAgg110
  z46 := Tryz.sizeOf110
  v46 := Tryz.zeroValue110
  t51 := Tryz.underlying191
  a51 := Tryz.isAgg191
  z51 := Tryz.sizeOf191
  v51 := Tryz.zeroValue191
  t53 := Tryz.underlying69
  a53 := Tryz.isAgg69
  z53 := Tryz.sizeOf69
  v53 := Tryz.zeroValue69
  t171 := Tryz.underlying174
  a171 := Tryz.isAgg174
  z171 := Tryz.sizeOf174
  v171 := Tryz.zeroValue174
  t173 := Tryz.underlying177
  a173 := Tryz.isAgg177
  z173 := Tryz.sizeOf177
  v173 := Tryz.zeroValue177
  t212 := Tryz.underlying194
  a212 := Tryz.isAgg194
  z212 := Tryz.sizeOf194
  v212 := Tryz.zeroValue194
  t213 := Tryz.underlying195
  a213 := Tryz.isAgg195
  z213 := Tryz.sizeOf195
  t232 := Tryz.underlying224
  a232 := Tryz.isAgg224
  z232 := Tryz.sizeOf224
  v232 := Tryz.zeroValue224
  t233 := Tryz.underlying225
  a233 := Tryz.isAgg225
  z233 := Tryz.sizeOf225
  v233 := Tryz.zeroValue225
  g17 := by kernel_rfl
  g18 := by kernel_rfl
  g19 := by kernel_rfl }
open Go.RowKit Go.Sort Go.Lib in
/-- THE ROAD WITHOUT THE TABLE: 0 <= i < 100: NO PREMISE ON THE WORLD, AND THE WORLD IS AS IT WAS: a row that keeps its argument in that range need list no table ('laid = []'). (LAID: no walk: one application.) -/
theorem Tryz.strconv_Itoa_small (i : Nat) (hi : i < 100) (w : World) :
    Calls Tryz.prog 142 #[.int .i64 i] w fun e w' => e = .returned (.string ⟨(Lib.decDigits i).toArray⟩) ∧ w' = w := Any.strconv_Itoa_small Tryz.lays171 i hi w
def Tryz.laysM173_ren : Go.Shelf.Ren := ⟨fun | 173 => 79 | 246 => 114 | 283 => 137 | 284 => 138 | 285 => 139 | 286 => 140 | 129 => 159 | 317 => 158 | 318 => 160 | 319 => 161 | 320 => 162 | 337 => 178 | 338 => 179 | n => n, fun | 2 => 2 | 3 => 3 | 9 => 9 | 4 => 4 | 171 => 174 | 0 => 0 | 53 => 69 | 37 => 35 | 5 => 5 | 173 => 177 | 212 => 194 | 51 => 191 | 20 => 20 | 213 => 195 | 46 => 110 | 232 => 224 | 233 => 225 | n => n, fun | 17 => 3 | 18 => 8 | 19 => 9 | n => n⟩
theorem Tryz.laysM173 : Go.Proofs.LaysM.n173 Tryz.prog Tryz.laysM173_ren := {
  mixed := by kernel_rfl
  f129 := Tryz.func159.trans (congrArg some (by kernel_rfl))
  f173 := Tryz.func79.trans (congrArg some (by kernel_rfl))
  f246 := Tryz.func114.trans (congrArg some (by kernel_rfl))
  f283 := Tryz.func137.trans (congrArg some (by kernel_rfl))
  f284 := Tryz.func138.trans (congrArg some (by kernel_rfl))
  f285 := Tryz.func139.trans (congrArg some (by kernel_rfl))
  f286 := Tryz.func140.trans (congrArg some (by kernel_rfl))
  f317 := Tryz.func158.trans (congrArg some (by kernel_rfl))
  f318 := Tryz.func160.trans (congrArg some (by kernel_rfl))
  f319 := Tryz.func161.trans (congrArg some (by kernel_rfl))
  f320 := Tryz.func162.trans (congrArg some (by kernel_rfl))
  f337 := Tryz.func178.trans (congrArg some (by kernel_rfl))
  f338 := Tryz.func179.trans (congrArg some (by kernel_rfl))
  t0 := Tryz.underlying0
  a0 := Tryz.isAgg0
  z0 := Tryz.sizeOf0
  v0 := Tryz.zeroValue0
  t2 := Tryz.underlying2
  a2 := Tryz.isAgg2
  z2 := Tryz.sizeOf2
  v2 := Tryz.zeroValue2
  t3 := Tryz.underlying3
  a3 := Tryz.isAgg3
  z3 := Tryz.sizeOf3
  v3 := Tryz.zeroValue3
  t4 := Tryz.underlying4
  a4 := Tryz.isAgg4
  z4 := Tryz.sizeOf4
  v4 := Tryz.zeroValue4
  t5 := Tryz.underlying5
  a5 := Tryz.isAgg5
  z5 := Tryz.sizeOf5
  v5 := Tryz.zeroValue5
  t9 := Tryz.underlying9
  a9 := Tryz.isAgg9
  z9 := Tryz.sizeOf9
  v9 := Tryz.zeroValue9
  t20 := Tryz.underlying20
  a20 := Tryz.isAgg20
  z20 := Tryz.sizeOf20
  v20 := Tryz.zeroValue20
  t37 := Tryz.underlying35
  a37 := Tryz.isAgg35
  z37 := Tryz.sizeOf35
  v37 := Tryz.zeroValue35
  t46 := Tryz.underlying110
  a46 := Tryz.isAgg110
  z46 := Tryz.sizeOf110
  v46 := Tryz.zeroValue110
  t51 := Tryz.underlying191
  a51 := Tryz.isAgg191
  z51 := Tryz.sizeOf191
  v51 := Tryz.zeroValue191
  t53 := Tryz.underlying69
  a53 := Tryz.isAgg69
  z53 := Tryz.sizeOf69
  v53 := Tryz.zeroValue69
  t171 := Tryz.underlying174
  a171 := Tryz.isAgg174
  z171 := Tryz.sizeOf174
  v171 := Tryz.zeroValue174
  t173 := Tryz.underlying177
  a173 := Tryz.isAgg177
  z173 := Tryz.sizeOf177
  v173 := Tryz.zeroValue177
  t212 := Tryz.underlying194
  a212 := Tryz.isAgg194
  z212 := Tryz.sizeOf194
  v212 := Tryz.zeroValue194
  t213 := Tryz.underlying195
  a213 := Tryz.isAgg195
  z213 := Tryz.sizeOf195
  t232 := Tryz.underlying224
  a232 := Tryz.isAgg224
  z232 := Tryz.sizeOf224
  v232 := Tryz.zeroValue224
  t233 := Tryz.underlying225
  a233 := Tryz.isAgg225
  z233 := Tryz.sizeOf225
  v233 := Tryz.zeroValue225
  g17 := by kernel_rfl
  g18 := by kernel_rfl
  g19 := by kernel_rfl
  i0 := by kernel_rfl
  i2 := by kernel_rfl
  i3 := by kernel_rfl
  i4 := by kernel_rfl
  i5 := by kernel_rfl
  i9 := by kernel_rfl
  i20 := by kernel_rfl
  i37 := by kernel_rfl
  i46 := by kernel_rfl
  i51 := by kernel_rfl
  i53 := by kernel_rfl
  i171 := by kernel_rfl
  i173 := by kernel_rfl
  i212 := by kernel_rfl
  i232 := by kernel_rfl
  i233 := by kernel_rfl
  m17 := by kernel_rfl
  m18 := by kernel_rfl
  m19 := by kernel_rfl }
open Go.RowKit Go.Sort Go.Lib in
/-- strconv.FormatInt: "FormatInt returns the string representation of i in the given base": AT BASE 10: i's decimal numeral, for every int64. (LAID: no walk: one application.) -/
theorem Tryz.strconv_FormatInt_10 (n : Int) (h0 : -9223372036854775808 ≤ n) (h1 : n ≤ 9223372036854775807) (w : World) (htab : Lib.TabIs Tryz.prog w "internal/strconv.uint64pow10" .u64 Lib.pow10Tab) :
    Calls Tryz.prog 79 #[.int .i64 n, .int .i64 10] w fun e w' => e = .returned (.string ⟨(Lib.itoa n).toArray⟩) ∧ ∃ k os, w' = grow (w.drewN k) os := Any.strconv_FormatInt_10 Tryz.laysM173 n h0 h1 w htab
def Tryz.lays173_ren : Go.Shelf.Ren := ⟨fun | 173 => 79 | 246 => 114 | 283 => 137 | 284 => 138 | 285 => 139 | 286 => 140 | 129 => 159 | 317 => 158 | 318 => 160 | 319 => 161 | 320 => 162 | 337 => 178 | 338 => 179 | n => n, fun | 2 => 2 | 3 => 3 | 9 => 9 | 4 => 4 | 171 => 174 | 0 => 0 | 53 => 69 | 37 => 35 | 5 => 5 | 173 => 177 | 212 => 194 | 51 => 191 | 20 => 20 | 213 => 195 | 46 => 110 | 232 => 224 | 233 => 225 | n => n, fun | 17 => 3 | 18 => 8 | 19 => 9 | n => n⟩
theorem Tryz.lays173 : Go.Proofs.Lays.n173 Tryz.prog Tryz.lays173_ren := {
  mixed := by kernel_rfl
  f129 := Tryz.func159.trans (congrArg some (by kernel_rfl))
  f173 := Tryz.func79.trans (congrArg some (by kernel_rfl))
  f246 := Tryz.func114.trans (congrArg some (by kernel_rfl))
  f283 := Tryz.func137.trans (congrArg some (by kernel_rfl))
  f284 := Tryz.func138.trans (congrArg some (by kernel_rfl))
  f285 := Tryz.func139.trans (congrArg some (by kernel_rfl))
  f286 := Tryz.func140.trans (congrArg some (by kernel_rfl))
  f317 := Tryz.func158.trans (congrArg some (by kernel_rfl))
  f318 := Tryz.func160.trans (congrArg some (by kernel_rfl))
  f319 := Tryz.func161.trans (congrArg some (by kernel_rfl))
  f320 := Tryz.func162.trans (congrArg some (by kernel_rfl))
  f337 := Tryz.func178.trans (congrArg some (by kernel_rfl))
  f338 := Tryz.func179.trans (congrArg some (by kernel_rfl))
  t0 := Tryz.underlying0
  a0 := Tryz.isAgg0
  z0 := Tryz.sizeOf0
  v0 := Tryz.zeroValue0
  t2 := Tryz.underlying2
  a2 := Tryz.isAgg2
  z2 := Tryz.sizeOf2
  v2 := Tryz.zeroValue2
  t3 := Tryz.underlying3
  a3 := Tryz.isAgg3
  z3 := Tryz.sizeOf3
  v3 := Tryz.zeroValue3
  t4 := Tryz.underlying4
  a4 := Tryz.isAgg4
  z4 := Tryz.sizeOf4
  v4 := Tryz.zeroValue4
  t5 := Tryz.underlying5
  a5 := Tryz.isAgg5
  z5 := Tryz.sizeOf5
  v5 := Tryz.zeroValue5
  t9 := Tryz.underlying9
  a9 := Tryz.isAgg9
  z9 := Tryz.sizeOf9
  v9 := Tryz.zeroValue9
  t20 := Tryz.underlying20
  a20 := Tryz.isAgg20
  z20 := Tryz.sizeOf20
  v20 := Tryz.zeroValue20
  t37 := Tryz.underlying35
  a37 := Tryz.isAgg35
  z37 := Tryz.sizeOf35
  v37 := Tryz.zeroValue35
  t46 := Tryz.underlying110
  a46 := Tryz.isAgg110
  z46 := Tryz.sizeOf110
  v46 := Tryz.zeroValue110
  t51 := Tryz.underlying191
  a51 := Tryz.isAgg191
  z51 := Tryz.sizeOf191
  v51 := Tryz.zeroValue191
  t53 := Tryz.underlying69
  a53 := Tryz.isAgg69
  z53 := Tryz.sizeOf69
  v53 := Tryz.zeroValue69
  t171 := Tryz.underlying174
  a171 := Tryz.isAgg174
  z171 := Tryz.sizeOf174
  v171 := Tryz.zeroValue174
  t173 := Tryz.underlying177
  a173 := Tryz.isAgg177
  z173 := Tryz.sizeOf177
  v173 := Tryz.zeroValue177
  t212 := Tryz.underlying194
  a212 := Tryz.isAgg194
  z212 := Tryz.sizeOf194
  v212 := Tryz.zeroValue194
  t213 := Tryz.underlying195
  a213 := Tryz.isAgg195
  z213 := Tryz.sizeOf195
  t232 := Tryz.underlying224
  a232 := Tryz.isAgg224
  z232 := Tryz.sizeOf224
  v232 := Tryz.zeroValue224
  t233 := Tryz.underlying225
  a233 := Tryz.isAgg225
  z233 := Tryz.sizeOf225
  v233 := Tryz.zeroValue225
  g17 := by kernel_rfl
  g18 := by kernel_rfl
  g19 := by kernel_rfl }
open Go.RowKit Go.Sort Go.Lib in
/-- THE ROAD WITHOUT THE TABLE: 0 <= i < 100. (LAID: no walk: one application.) -/
theorem Tryz.strconv_FormatInt_10_small (i : Nat) (hi : i < 100) (w : World) :
    Calls Tryz.prog 79 #[.int .i64 i, .int .i64 10] w fun e w' => e = .returned (.string ⟨(Lib.decDigits i).toArray⟩) ∧ w' = w := Any.strconv_FormatInt_10_small Tryz.lays173 i hi w
def Tryz.laysM316_ren : Go.Shelf.Ren := ⟨fun | 316 => 176 | n => n, fun | 9 => 9 | 3 => 3 | 4 => 4 | 37 => 35 | 0 => 0 | 127 => 220 | 5 => 5 | n => n, fun | n => n⟩
theorem Tryz.laysM316 : Go.Proofs.LaysM.n316 Tryz.prog Tryz.laysM316_ren := {
  mixed := by kernel_rfl
  f316 := Tryz.func176.trans (congrArg some (by kernel_rfl))
  t0 := Tryz.underlying0
  a0 := Tryz.isAgg0
  z0 := Tryz.sizeOf0
  v0 := Tryz.zeroValue0
  t3 := Tryz.underlying3
  a3 := Tryz.isAgg3
  z3 := Tryz.sizeOf3
  v3 := Tryz.zeroValue3
  t4 := Tryz.underlying4
  a4 := Tryz.isAgg4
  z4 := Tryz.sizeOf4
  v4 := Tryz.zeroValue4
  t9 := Tryz.underlying9
  a9 := Tryz.isAgg9
  z9 := Tryz.sizeOf9
  v9 := Tryz.zeroValue9
  t37 := Tryz.underlying35
  a37 := Tryz.isAgg35
  z37 := Tryz.sizeOf35
  v37 := Tryz.zeroValue35
  t127 := Tryz.underlying220
  a127 := Tryz.isAgg220
  z127 := Tryz.sizeOf220
  v127 := Tryz.zeroValue220
  t5 := Tryz.underlying5
  a5 := Tryz.isAgg5
  z5 := Tryz.sizeOf5
  v5 := Tryz.zeroValue5
  i0 := by kernel_rfl
  i3 := by kernel_rfl
  i4 := by kernel_rfl
  i5 := by kernel_rfl
  i9 := by kernel_rfl
  i37 := by kernel_rfl
  i127 := by kernel_rfl }
open Go.RowKit in
/-- internal/stringslite.Clone (what strings.Clone calls): "Clone returns a fresh copy of s.": THE SAME BYTES. Of what was there nothing has turned (a new row is laid, and frozen, where s is not empty). (LAID: no walk: one application.) -/
theorem Tryz.stringslite_Clone (s : ByteArray) (w : World) (hlim : s.size ≤ 281474976710656) :
    Calls Tryz.prog 176 #[.string s] w fun e w' => e = .returned (.string s) ∧ Below w.heap.size w w' := Any.stringslite_Clone Tryz.laysM316 s w hlim
def Tryz.laysM279_ren : Go.Shelf.Ren := ⟨fun | 279 => 152 | 316 => 176 | n => n, fun | 9 => 9 | 168 => 188 | 75 => 101 | 210 => 208 | 3 => 3 | 4 => 4 | 37 => 35 | 0 => 0 | 127 => 220 | 80 => 229 | 5 => 5 | n => n, fun | 15 => 4 | n => n⟩
theorem Tryz.laysM279 : Go.Proofs.LaysM.n279 Tryz.prog Tryz.laysM279_ren := {
  mixed := by kernel_rfl
  f279 := Tryz.func152.trans (congrArg some (by kernel_rfl))
  f316 := Tryz.func176.trans (congrArg some (by kernel_rfl))
  t0 := Tryz.underlying0
  a0 := Tryz.isAgg0
  z0 := Tryz.sizeOf0
  v0 := Tryz.zeroValue0
  t3 := Tryz.underlying3
  a3 := Tryz.isAgg3
  z3 := Tryz.sizeOf3
  v3 := Tryz.zeroValue3
  t4 := Tryz.underlying4
  a4 := Tryz.isAgg4
  z4 := Tryz.sizeOf4
  v4 := Tryz.zeroValue4
  t9 := Tryz.underlying9
  a9 := Tryz.isAgg9
  z9 := Tryz.sizeOf9
  v9 := Tryz.zeroValue9
  t37 := Tryz.underlying35
  a37 := Tryz.isAgg35
  z37 := Tryz.sizeOf35
  v37 := Tryz.zeroValue35
  t75 := Tryz.underlying101
  a75 := Tryz.isAgg101
  z75 := Tryz.sizeOf101
  v75 := Tryz.zeroValue101
  t127 := Tryz.underlying220
  a127 := Tryz.isAgg220
  z127 := Tryz.sizeOf220
  v127 := Tryz.zeroValue220
  t168 := Tryz.underlying188
  a168 := Tryz.isAgg188
  z168 := Tryz.sizeOf188
  v168 := Tryz.zeroValue188
  t210 := Tryz.underlying208
  a210 := Tryz.isAgg208
  z210 := Tryz.sizeOf208
  v210 := Tryz.zeroValue208
  g15 := by kernel_rfl
  t5 := Tryz.underlying5
  a5 := Tryz.isAgg5
  z5 := Tryz.sizeOf5
  v5 := Tryz.zeroValue5
  t80 := Tryz.underlying229
  a80 := Tryz.isAgg229
  z80 := Tryz.sizeOf229
  v80 := Tryz.zeroValue229
  i0 := by kernel_rfl
  i3 := by kernel_rfl
  i4 := by kernel_rfl
  i5 := by kernel_rfl
  i9 := by kernel_rfl
  i37 := by kernel_rfl
  i75 := by kernel_rfl
  i80 := by kernel_rfl
  i127 := by kernel_rfl
  i168 := by kernel_rfl
  i210 := by kernel_rfl
  m15 := by kernel_rfl }
open Go.RowKit in
/-- strconv.syntaxError: '&NumError{fn, stringslite.Clone(str), ErrSyntax}': A POINTER TO A NEW BLOCK that holds fn, str's bytes, and what the variable ErrSyntax holds. Of what was there nothing has turned. (LAID: no walk: one application.) -/
theorem Tryz.strconv_syntaxError (fn s : ByteArray) (ev : Value) (w : World) (hlim : s.size ≤ 281474976710656) (hv : w.cell? ⟨4, 0, none⟩ = some ev) (hev : ev = .nilIface ∨ ∃ te pe, ev = .iface te pe) :
    Calls Tryz.prog 152 #[.string fn, .string s] w fun e w' => ∃ N, e = .returned (.pointer (some ⟨N, 0, none⟩)) ∧ w.heap.size ≤ N ∧ w'.heap[N]? = some (.cells #[.string fn, .string s, ev] 208 (0, 0)) ∧ Below w.heap.size w w' := Any.strconv_syntaxError Tryz.laysM279 fn s ev w hlim hv hev
def Tryz.laysC245_ren : Go.Shelf.Ren := ⟨fun | 245 => 132 | 279 => 152 | 280 => 153 | 281 => 154 | 282 => 155 | 316 => 176 | 171 => 142 | 205 => 177 | 243 => 163 | 246 => 114 | 283 => 137 | 284 => 138 | 285 => 139 | 286 => 140 | 129 => 159 | 317 => 158 | 318 => 160 | 319 => 161 | 320 => 162 | 337 => 178 | 338 => 179 | n => n, fun | 9 => 9 | 3 => 3 | 75 => 101 | 167 => 186 | 4 => 4 | 168 => 188 | 210 => 208 | 37 => 35 | 0 => 0 | 127 => 220 | 145 => 223 | 143 => 221 | 2 => 2 | 171 => 174 | 53 => 69 | 5 => 5 | 173 => 177 | 212 => 194 | 51 => 191 | 20 => 20 | 213 => 195 | 46 => 110 | 232 => 224 | 233 => 225 | 80 => 229 | n => n, fun | 15 => 4 | 16 => 5 | 17 => 3 | 18 => 8 | 19 => 9 | n => n⟩
theorem Tryz.laysC245 : Go.Proofs.LaysC.n245 Tryz.prog Tryz.laysC245_ren := {
  mixed := by kernel_rfl
  f129 := Tryz.func159.trans (congrArg some (by kernel_rfl))
  f171 := Tryz.func142.trans (congrArg some (by kernel_rfl))
  f205 := Tryz.func177.trans (congrArg some (by kernel_rfl))
  f243 := Tryz.func163.trans (congrArg some (by kernel_rfl))
  f245 := Tryz.func132.trans (congrArg some (by kernel_rfl))
  f246 := Tryz.func114.trans (congrArg some (by kernel_rfl))
  f279 := Tryz.func152.trans (congrArg some (by kernel_rfl))
  f280 := Tryz.func153.trans (congrArg some (by kernel_rfl))
  f281 := Tryz.func154.trans (congrArg some (by kernel_rfl))
  f282 := Tryz.func155.trans (congrArg some (by kernel_rfl))
  f283 := Tryz.func137.trans (congrArg some (by kernel_rfl))
  f284 := Tryz.func138.trans (congrArg some (by kernel_rfl))
  f285 := Tryz.func139.trans (congrArg some (by kernel_rfl))
  f286 := Tryz.func140.trans (congrArg some (by kernel_rfl))
  f316 := Tryz.func176.trans (congrArg some (by kernel_rfl))
  f317 := Tryz.func158.trans (congrArg some (by kernel_rfl))
  f318 := Tryz.func160.trans (congrArg some (by kernel_rfl))
  f319 := Tryz.func161.trans (congrArg some (by kernel_rfl))
  f320 := Tryz.func162.trans (congrArg some (by kernel_rfl))
  f337 := Tryz.func178.trans (congrArg some (by kernel_rfl))
  f338 := Tryz.func179.trans (congrArg some (by kernel_rfl))
  t0 := Tryz.underlying0
  a0 := Tryz.isAgg0
  z0 := Tryz.sizeOf0
  v0 := Tryz.zeroValue0
  t2 := Tryz.underlying2
  a2 := Tryz.isAgg2
  z2 := Tryz.sizeOf2
  v2 := Tryz.zeroValue2
  t3 := Tryz.underlying3
  a3 := Tryz.isAgg3
  z3 := Tryz.sizeOf3
  v3 := Tryz.zeroValue3
  t4 := Tryz.underlying4
  a4 := Tryz.isAgg4
  z4 := Tryz.sizeOf4
  v4 := Tryz.zeroValue4
  t5 := Tryz.underlying5
  a5 := Tryz.isAgg5
  z5 := Tryz.sizeOf5
  v5 := Tryz.zeroValue5
  t9 := Tryz.underlying9
  a9 := Tryz.isAgg9
  z9 := Tryz.sizeOf9
  v9 := Tryz.zeroValue9
  t20 := Tryz.underlying20
  a20 := Tryz.isAgg20
  z20 := Tryz.sizeOf20
  v20 := Tryz.zeroValue20
  t37 := Tryz.underlying35
  a37 := Tryz.isAgg35
  z37 := Tryz.sizeOf35
  v37 := Tryz.zeroValue35
  t46 := Tryz.underlying110
  a46 := Tryz.isAgg110
  z46 := Tryz.sizeOf110
  v46 := Tryz.zeroValue110
  t51 := Tryz.underlying191
  a51 := Tryz.isAgg191
  z51 := Tryz.sizeOf191
  v51 := Tryz.zeroValue191
  t53 := Tryz.underlying69
  a53 := Tryz.isAgg69
  z53 := Tryz.sizeOf69
  v53 := Tryz.zeroValue69
  t75 := Tryz.underlying101
  a75 := Tryz.isAgg101
  z75 := Tryz.sizeOf101
  v75 := Tryz.zeroValue101
  t127 := Tryz.underlying220
  a127 := Tryz.isAgg220
  z127 := Tryz.sizeOf220
  v127 := Tryz.zeroValue220
  t143 := Tryz.underlying221
  a143 := Tryz.isAgg221
  z143 := Tryz.sizeOf221
  v143 := Tryz.zeroValue221
  t145 := Tryz.underlying223
  a145 := Tryz.isAgg223
  z145 := Tryz.sizeOf223
  v145 := Tryz.zeroValue223
  t167 := Tryz.underlying186
  a167 := Tryz.isAgg186
  z167 := Tryz.sizeOf186
  v167 := Tryz.zeroValue186
  t168 := Tryz.underlying188
  a168 := Tryz.isAgg188
  z168 := Tryz.sizeOf188
  v168 := Tryz.zeroValue188
  t171 := Tryz.underlying174
  a171 := Tryz.isAgg174
  z171 := Tryz.sizeOf174
  v171 := Tryz.zeroValue174
  t173 := Tryz.underlying177
  a173 := Tryz.isAgg177
  z173 := Tryz.sizeOf177
  v173 := Tryz.zeroValue177
  t210 := Tryz.underlying208
  a210 := Tryz.isAgg208
  z210 := Tryz.sizeOf208
  v210 := Tryz.zeroValue208
  t212 := Tryz.underlying194
  a212 := Tryz.isAgg194
  z212 := Tryz.sizeOf194
  v212 := Tryz.zeroValue194
  t213 := Tryz.underlying195
  a213 := Tryz.isAgg195
  z213 := Tryz.sizeOf195
  t232 := Tryz.underlying224
  a232 := Tryz.isAgg224
  z232 := Tryz.sizeOf224
  v232 := Tryz.zeroValue224
  t233 := Tryz.underlying225
  a233 := Tryz.isAgg225
  z233 := Tryz.sizeOf225
  v233 := Tryz.zeroValue225
  g15 := by kernel_rfl
  g16 := by kernel_rfl
  g17 := by kernel_rfl
  g18 := by kernel_rfl
  g19 := by kernel_rfl
  t80 := Tryz.underlying229
  a80 := Tryz.isAgg229
  z80 := Tryz.sizeOf229
  v80 := Tryz.zeroValue229
  i0 := by kernel_rfl
  i2 := by kernel_rfl
  i3 := by kernel_rfl
  i4 := by kernel_rfl
  i5 := by kernel_rfl
  i9 := by kernel_rfl
  i20 := by kernel_rfl
  i37 := by kernel_rfl
  i46 := by kernel_rfl
  i51 := by kernel_rfl
  i53 := by kernel_rfl
  i75 := by kernel_rfl
  i80 := by kernel_rfl
  i127 := by kernel_rfl
  i143 := by kernel_rfl
  i145 := by kernel_rfl
  i167 := by kernel_rfl
  i168 := by kernel_rfl
  i171 := by kernel_rfl
  i173 := by kernel_rfl
  i210 := by kernel_rfl
  i212 := by kernel_rfl
  i232 := by kernel_rfl
  i233 := by kernel_rfl
  m15 := by kernel_rfl
  m16 := by kernel_rfl
  m17 := by kernel_rfl
  m18 := by kernel_rfl
  m19 := by kernel_rfl
  c0 := by kernel_rfl
  c2 := by kernel_rfl
  c3 := by kernel_rfl
  c4 := by kernel_rfl
  c5 := by kernel_rfl
  c9 := by kernel_rfl
  c20 := by kernel_rfl
  c37 := by kernel_rfl
  c46 := by kernel_rfl
  c51 := by kernel_rfl
  c53 := by kernel_rfl
  c75 := by kernel_rfl
  c80 := by kernel_rfl
  c127 := by kernel_rfl
  c143 := by kernel_rfl
  c145 := by kernel_rfl
  c167 := by kernel_rfl
  c168 := by kernel_rfl
  c171 := by kernel_rfl
  c173 := by kernel_rfl
  c210 := by kernel_rfl
  c212 := by kernel_rfl
  c213 := by kernel_rfl
  c232 := by kernel_rfl
  c233 := by kernel_rfl }
open Go.RowKit in
/-- strconv.toError, at the inner package's ErrSyntax: 'syntaxError(fn, s)' as an error: A *NumError IN A NEW BLOCK. (LAID: no walk: one application.) -/
theorem Tryz.strconv_toError_syntax (fn s : ByteArray) (base bits : Int) (ev : Value) (w : World) (hlim : s.size ≤ 281474976710656) (hv : w.cell? ⟨4, 0, none⟩ = some ev) (hev : ev = .nilIface ∨ ∃ te pe, ev = .iface te pe) :
    Calls Tryz.prog 132 #[.string fn, .string s, .int .i64 base, .int .i64 bits, .iface 186 (.int .i64 2)] w fun e w' => ∃ N, e = .returned (.iface 188 (.pointer (some ⟨N, 0, none⟩))) ∧ w.heap.size ≤ N ∧ w'.heap[N]? = some (.cells #[.string fn, .string s, ev] 208 (0, 0)) ∧ Below w.heap.size w w' := Any.strconv_toError_syntax Tryz.laysC245 fn s base bits ev w hlim hv hev
def Tryz.lays321_ren : Go.Shelf.Ren := ⟨fun | 321 => 150 | n => n, fun | 5 => 5 | n => n, fun | n => n⟩
theorem Tryz.lays321 : Go.Proofs.Lays.n321 Tryz.prog Tryz.lays321_ren := {
  mixed := by kernel_rfl
  f321 := Tryz.func150.trans (congrArg some (by kernel_rfl))
  t5 := Tryz.underlying5
  a5 := Tryz.isAgg5
  z5 := Tryz.sizeOf5
  v5 := Tryz.zeroValue5 }
open Go.RowKit in
/-- internal/strconv.lower: 'c | ('x' - 'X')': the bit 32 set. The world is as it was. (LAID: no walk: one application.) -/
theorem Tryz.internal_strconv_lower (c : Int) (w : World) :
    Calls Tryz.prog 150 #[.int .u8 c] w fun e w' => e = .returned (.int .u8 (bits .or .u8 c 32)) ∧ w' = w := Any.internal_strconv_lower Tryz.lays321 c w
def Tryz.lays287_ren : Go.Shelf.Ren := ⟨fun | 287 => 131 | 321 => 150 | 322 => 151 | n => n, fun | 9 => 9 | 3 => 3 | 53 => 69 | 75 => 101 | 4 => 4 | 167 => 186 | 5 => 5 | 46 => 110 | 37 => 35 | 0 => 0 | 21 => 21 | 80 => 229 | n => n, fun | n => n⟩
theorem Tryz.lays287 : Go.Proofs.Lays.n287 Tryz.prog Tryz.lays287_ren := {
  mixed := by kernel_rfl
  f287 := Tryz.func131.trans (congrArg some (by kernel_rfl))
  f321 := Tryz.func150.trans (congrArg some (by kernel_rfl))
  f322 := Tryz.func151.trans (congrArg some (by kernel_rfl))
  t0 := Tryz.underlying0
  a0 := Tryz.isAgg0
  z0 := Tryz.sizeOf0
  v0 := Tryz.zeroValue0
  t3 := Tryz.underlying3
  a3 := Tryz.isAgg3
  z3 := Tryz.sizeOf3
  v3 := Tryz.zeroValue3
  t4 := Tryz.underlying4
  a4 := Tryz.isAgg4
  z4 := Tryz.sizeOf4
  v4 := Tryz.zeroValue4
  t5 := Tryz.underlying5
  a5 := Tryz.isAgg5
  z5 := Tryz.sizeOf5
  v5 := Tryz.zeroValue5
  t9 := Tryz.underlying9
  a9 := Tryz.isAgg9
  z9 := Tryz.sizeOf9
  v9 := Tryz.zeroValue9
  t21 := Tryz.underlying21
  a21 := Tryz.isAgg21
  z21 := Tryz.sizeOf21
  v21 := Tryz.zeroValue21
  t37 := Tryz.underlying35
  a37 := Tryz.isAgg35
  z37 := Tryz.sizeOf35
  v37 := Tryz.zeroValue35
  t46 := Tryz.underlying110
  a46 := Tryz.isAgg110
  z46 := Tryz.sizeOf110
  v46 := Tryz.zeroValue110
  t53 := Tryz.underlying69
  a53 := Tryz.isAgg69
  z53 := Tryz.sizeOf69
  v53 := Tryz.zeroValue69
  t75 := Tryz.underlying101
  a75 := Tryz.isAgg101
  z75 := Tryz.sizeOf101
  v75 := Tryz.zeroValue101
  t167 := Tryz.underlying186
  a167 := Tryz.isAgg186
  z167 := Tryz.sizeOf186
  v167 := Tryz.zeroValue186 }
open Go.RowKit in
/-- internal/strconv.ParseUint(s, 10, 0), s NOT EMPTY: 'Lib.parseUint10 0' OF ITS BYTES: the number; or (0, ErrSyntax); or (the greatest uint64, ErrRange). The world behind the call: the one new row that '[]byte(s)' lays. (LAID: no walk: one application.) -/
theorem Tryz.internal_strconv_ParseUint_10 (t : ByteArray) (hne : t.size ≠ 0) (hmax : t.size ≤ 9223372036854775806) (w : World) :
    Calls Tryz.prog 131 #[.string t, .int .i64 10, .int .i64 0] w fun e w' => e = .returned (Lib.uintTuple 186 (Lib.parseUint10 0 t.data.toList)) ∧ w' = Lib.bytesWorld w 5 t := Any.internal_strconv_ParseUint_10 Tryz.lays287 t hne hmax w
open Go.RowKit in
/-- internal/strconv.ParseUint("", 10, 0): (0, ErrSyntax). The world is as it was. (LAID: no walk: one application.) -/
theorem Tryz.internal_strconv_ParseUint_10_empty (w : World) :
    Calls Tryz.prog 131 #[.string ⟨#[]⟩, .int .i64 10, .int .i64 0] w fun e w' => e = .returned (Lib.uintTuple 186 Lib.NumEnd.syntax) ∧ w' = w := Any.internal_strconv_ParseUint_10_empty Tryz.lays287 w
open Go.RowKit in
/-- internal/strconv.ParseUint(s, 10, 0): 'Lib.parseMag' OF ITS BYTES. The world: as it was (the empty string), or with the one new row that '[]byte(s)' lays. (LAID: no walk: one application.) -/
theorem Tryz.internal_strconv_ParseUint_10_any (t : ByteArray) (hmax : t.size ≤ 9223372036854775806) (w : World) :
    Calls Tryz.prog 131 #[.string t, .int .i64 10, .int .i64 0] w fun e w' => e = .returned (Lib.uintTuple 186 (Lib.parseMag t.data.toList)) ∧ (w' = w ∨ w' = Lib.bytesWorld w 5 t) := Any.internal_strconv_ParseUint_10_any Tryz.lays287 t hmax w
def Tryz.laysM280_ren : Go.Shelf.Ren := ⟨fun | 280 => 153 | 316 => 176 | n => n, fun | 9 => 9 | 168 => 188 | 75 => 101 | 210 => 208 | 3 => 3 | 4 => 4 | 37 => 35 | 0 => 0 | 127 => 220 | 80 => 229 | 5 => 5 | n => n, fun | 16 => 5 | n => n⟩
theorem Tryz.laysM280 : Go.Proofs.LaysM.n280 Tryz.prog Tryz.laysM280_ren := {
  mixed := by kernel_rfl
  f280 := Tryz.func153.trans (congrArg some (by kernel_rfl))
  f316 := Tryz.func176.trans (congrArg some (by kernel_rfl))
  t0 := Tryz.underlying0
  a0 := Tryz.isAgg0
  z0 := Tryz.sizeOf0
  v0 := Tryz.zeroValue0
  t3 := Tryz.underlying3
  a3 := Tryz.isAgg3
  z3 := Tryz.sizeOf3
  v3 := Tryz.zeroValue3
  t4 := Tryz.underlying4
  a4 := Tryz.isAgg4
  z4 := Tryz.sizeOf4
  v4 := Tryz.zeroValue4
  t9 := Tryz.underlying9
  a9 := Tryz.isAgg9
  z9 := Tryz.sizeOf9
  v9 := Tryz.zeroValue9
  t37 := Tryz.underlying35
  a37 := Tryz.isAgg35
  z37 := Tryz.sizeOf35
  v37 := Tryz.zeroValue35
  t75 := Tryz.underlying101
  a75 := Tryz.isAgg101
  z75 := Tryz.sizeOf101
  v75 := Tryz.zeroValue101
  t127 := Tryz.underlying220
  a127 := Tryz.isAgg220
  z127 := Tryz.sizeOf220
  v127 := Tryz.zeroValue220
  t168 := Tryz.underlying188
  a168 := Tryz.isAgg188
  z168 := Tryz.sizeOf188
  v168 := Tryz.zeroValue188
  t210 := Tryz.underlying208
  a210 := Tryz.isAgg208
  z210 := Tryz.sizeOf208
  v210 := Tryz.zeroValue208
  g16 := by kernel_rfl
  t5 := Tryz.underlying5
  a5 := Tryz.isAgg5
  z5 := Tryz.sizeOf5
  v5 := Tryz.zeroValue5
  t80 := Tryz.underlying229
  a80 := Tryz.isAgg229
  z80 := Tryz.sizeOf229
  v80 := Tryz.zeroValue229
  i0 := by kernel_rfl
  i3 := by kernel_rfl
  i4 := by kernel_rfl
  i5 := by kernel_rfl
  i9 := by kernel_rfl
  i37 := by kernel_rfl
  i75 := by kernel_rfl
  i80 := by kernel_rfl
  i127 := by kernel_rfl
  i168 := by kernel_rfl
  i210 := by kernel_rfl
  m16 := by kernel_rfl }
open Go.RowKit in
/-- strconv.rangeError: '&NumError{fn, stringslite.Clone(str), ErrRange}': A POINTER TO A NEW BLOCK that holds fn, str's bytes, and what the variable ErrRange holds. Of what was there nothing has turned. (LAID: no walk: one application.) -/
theorem Tryz.strconv_rangeError (fn s : ByteArray) (ev : Value) (w : World) (hlim : s.size ≤ 281474976710656) (hv : w.cell? ⟨5, 0, none⟩ = some ev) (hev : ev = .nilIface ∨ ∃ te pe, ev = .iface te pe) :
    Calls Tryz.prog 153 #[.string fn, .string s] w fun e w' => ∃ N, e = .returned (.pointer (some ⟨N, 0, none⟩)) ∧ w.heap.size ≤ N ∧ w'.heap[N]? = some (.cells #[.string fn, .string s, ev] 208 (0, 0)) ∧ Below w.heap.size w w' := Any.strconv_rangeError Tryz.laysM280 fn s ev w hlim hv hev
open Go.RowKit in
/-- strconv.toError, at the inner package's ErrRange: 'rangeError(fn, s)' as an error: A *NumError IN A NEW BLOCK. (LAID: no walk: one application.) -/
theorem Tryz.strconv_toError_range (fn s : ByteArray) (base bits : Int) (ev : Value) (w : World) (hlim : s.size ≤ 281474976710656) (hv : w.cell? ⟨5, 0, none⟩ = some ev) (hev : ev = .nilIface ∨ ∃ te pe, ev = .iface te pe) :
    Calls Tryz.prog 132 #[.string fn, .string s, .int .i64 base, .int .i64 bits, .iface 186 (.int .i64 1)] w fun e w' => ∃ N, e = .returned (.iface 188 (.pointer (some ⟨N, 0, none⟩))) ∧ w.heap.size ≤ N ∧ w'.heap[N]? = some (.cells #[.string fn, .string s, ev] 208 (0, 0)) ∧ Below w.heap.size w w' := Any.strconv_toError_range Tryz.laysC245 fn s base bits ev w hlim hv hev
open Go.RowKit in
/-- internal/strconv.ParseUint("", base, bitSize): (0, ErrSyntax): the first test of the text. The world is as it was. (LAID: no walk: one application.) -/
theorem Tryz.internal_strconv_ParseUint_empty (base bits : Int) (w : World) :
    Calls Tryz.prog 131 #[.string ⟨#[]⟩, .int .i64 base, .int .i64 bits] w fun e w' => e = .returned (.tuple #[.int .u64 0, .iface 186 (.int .i64 2)]) ∧ w' = w := Any.internal_strconv_ParseUint_empty Tryz.lays287 base bits w
open Go.RowKit in
/-- internal/strconv.ParseUint(s, 10, 64), s NOT EMPTY: 'Lib.parseUint10 0' OF ITS BYTES: the number; or (0, ErrSyntax); or (the greatest uint64, ErrRange). The world behind the call: the one new row that '[]byte(s)' lays. (LAID: no walk: one application.) -/
theorem Tryz.internal_strconv_ParseUint_10_b64 (t : ByteArray) (hne : t.size ≠ 0) (hmax : t.size ≤ 9223372036854775806) (w : World) :
    Calls Tryz.prog 131 #[.string t, .int .i64 10, .int .i64 64] w fun e w' => e = .returned (Lib.uintTuple 186 (Lib.parseUint10 0 t.data.toList)) ∧ w' = Lib.bytesWorld w 5 t := Any.internal_strconv_ParseUint_10_b64 Tryz.lays287 t hne hmax w
open Go.RowKit in
/-- internal/strconv.ParseUint(s, 10, 32), s NOT EMPTY: 'Lib.parseUintM 4294967295 0' OF ITS BYTES: the number; or (0, ErrSyntax); or (the greatest uint32, ErrRange). The world behind the call: the one new row that '[]byte(s)' lays. (LAID: no walk: one application.) -/
theorem Tryz.internal_strconv_ParseUint_10_b32 (t : ByteArray) (hne : t.size ≠ 0) (hmax : t.size ≤ 9223372036854775806) (w : World) :
    Calls Tryz.prog 131 #[.string t, .int .i64 10, .int .i64 32] w fun e w' => e = .returned (Lib.uintTupleM 186 4294967295 (Lib.parseUintM 4294967295 0 t.data.toList)) ∧ w' = Lib.bytesWorld w 5 t := Any.internal_strconv_ParseUint_10_b32 Tryz.lays287 t hne hmax w
open Go.RowKit in
/-- internal/strconv.ParseUint(s, 10, 16), s NOT EMPTY: 'Lib.parseUintM 65535 0' OF ITS BYTES: the number; or (0, ErrSyntax); or (the greatest uint16, ErrRange). The world behind the call: the one new row that '[]byte(s)' lays. (LAID: no walk: one application.) -/
theorem Tryz.internal_strconv_ParseUint_10_b16 (t : ByteArray) (hne : t.size ≠ 0) (hmax : t.size ≤ 9223372036854775806) (w : World) :
    Calls Tryz.prog 131 #[.string t, .int .i64 10, .int .i64 16] w fun e w' => e = .returned (Lib.uintTupleM 186 65535 (Lib.parseUintM 65535 0 t.data.toList)) ∧ w' = Lib.bytesWorld w 5 t := Any.internal_strconv_ParseUint_10_b16 Tryz.lays287 t hne hmax w
open Go.RowKit in
/-- internal/strconv.ParseUint(s, 10, 8), s NOT EMPTY: 'Lib.parseUintM 255 0' OF ITS BYTES: the number; or (0, ErrSyntax); or (the greatest uint8, ErrRange). The world behind the call: the one new row that '[]byte(s)' lays. (LAID: no walk: one application.) -/
theorem Tryz.internal_strconv_ParseUint_10_b8 (t : ByteArray) (hne : t.size ≠ 0) (hmax : t.size ≤ 9223372036854775806) (w : World) :
    Calls Tryz.prog 131 #[.string t, .int .i64 10, .int .i64 8] w fun e w' => e = .returned (Lib.uintTupleM 186 255 (Lib.parseUintM 255 0 t.data.toList)) ∧ w' = Lib.bytesWorld w 5 t := Any.internal_strconv_ParseUint_10_b8 Tryz.lays287 t hne hmax w
open Go.RowKit in
/-- internal/strconv.ParseUint(s, 10, 0): 'Lib.parseUintB 64' OF ITS BYTES. The world: as it was (the empty string), or with the one new row that '[]byte(s)' lays. (LAID: no walk: one application.) -/
theorem Tryz.internal_strconv_ParseUint_10_at0 (t : ByteArray) (hmax : t.size ≤ 9223372036854775806) (w : World) :
    Calls Tryz.prog 131 #[.string t, .int .i64 10, .int .i64 0] w fun e w' => e = .returned (Lib.uintTupleM 186 18446744073709551615 (Lib.parseUintB 64 t.data.toList)) ∧ (w' = w ∨ w' = Lib.bytesWorld w 5 t) := Any.internal_strconv_ParseUint_10_at0 Tryz.lays287 t hmax w
open Go.RowKit in
/-- internal/strconv.ParseUint(s, 10, 64): 'Lib.parseUintB 64' OF ITS BYTES. The world: as it was (the empty string), or with the one new row that '[]byte(s)' lays. (LAID: no walk: one application.) -/
theorem Tryz.internal_strconv_ParseUint_10_at64 (t : ByteArray) (hmax : t.size ≤ 9223372036854775806) (w : World) :
    Calls Tryz.prog 131 #[.string t, .int .i64 10, .int .i64 64] w fun e w' => e = .returned (Lib.uintTupleM 186 18446744073709551615 (Lib.parseUintB 64 t.data.toList)) ∧ (w' = w ∨ w' = Lib.bytesWorld w 5 t) := Any.internal_strconv_ParseUint_10_at64 Tryz.lays287 t hmax w
open Go.RowKit in
/-- internal/strconv.ParseUint(s, 10, 32): 'Lib.parseUintB 32' OF ITS BYTES. The world: as it was (the empty string), or with the one new row that '[]byte(s)' lays. (LAID: no walk: one application.) -/
theorem Tryz.internal_strconv_ParseUint_10_at32 (t : ByteArray) (hmax : t.size ≤ 9223372036854775806) (w : World) :
    Calls Tryz.prog 131 #[.string t, .int .i64 10, .int .i64 32] w fun e w' => e = .returned (Lib.uintTupleM 186 4294967295 (Lib.parseUintB 32 t.data.toList)) ∧ (w' = w ∨ w' = Lib.bytesWorld w 5 t) := Any.internal_strconv_ParseUint_10_at32 Tryz.lays287 t hmax w
open Go.RowKit in
/-- internal/strconv.ParseUint(s, 10, 16): 'Lib.parseUintB 16' OF ITS BYTES. The world: as it was (the empty string), or with the one new row that '[]byte(s)' lays. (LAID: no walk: one application.) -/
theorem Tryz.internal_strconv_ParseUint_10_at16 (t : ByteArray) (hmax : t.size ≤ 9223372036854775806) (w : World) :
    Calls Tryz.prog 131 #[.string t, .int .i64 10, .int .i64 16] w fun e w' => e = .returned (Lib.uintTupleM 186 65535 (Lib.parseUintB 16 t.data.toList)) ∧ (w' = w ∨ w' = Lib.bytesWorld w 5 t) := Any.internal_strconv_ParseUint_10_at16 Tryz.lays287 t hmax w
open Go.RowKit in
/-- internal/strconv.ParseUint(s, 10, 8): 'Lib.parseUintB 8' OF ITS BYTES. The world: as it was (the empty string), or with the one new row that '[]byte(s)' lays. (LAID: no walk: one application.) -/
theorem Tryz.internal_strconv_ParseUint_10_at8 (t : ByteArray) (hmax : t.size ≤ 9223372036854775806) (w : World) :
    Calls Tryz.prog 131 #[.string t, .int .i64 10, .int .i64 8] w fun e w' => e = .returned (Lib.uintTupleM 186 255 (Lib.parseUintB 8 t.data.toList)) ∧ (w' = w ∨ w' = Lib.bytesWorld w 5 t) := Any.internal_strconv_ParseUint_10_at8 Tryz.lays287 t hmax w
def Tryz.laysPu14_ren : Go.Shelf.Ren := ⟨fun | 14 => 110 | 16 => 131 | 17 => 132 | 19 => 150 | 20 => 151 | 21 => 152 | 22 => 153 | 23 => 154 | 24 => 155 | 25 => 176 | 27 => 142 | 26 => 177 | 28 => 163 | 29 => 114 | 30 => 137 | 31 => 138 | 32 => 139 | 33 => 140 | 35 => 159 | 34 => 158 | 36 => 160 | 37 => 161 | 38 => 162 | 39 => 178 | 40 => 179 | n => n, fun | 9 => 9 | 3 => 3 | 22 => 69 | 24 => 101 | 25 => 155 | 4 => 4 | 34 => 186 | 5 => 5 | 36 => 110 | 37 => 35 | 0 => 0 | 39 => 188 | 21 => 21 | 44 => 208 | 47 => 220 | 50 => 223 | 48 => 221 | 2 => 2 | 52 => 174 | 55 => 177 | 59 => 194 | 60 => 191 | 20 => 20 | 61 => 195 | 65 => 224 | 66 => 225 | 67 => 229 | n => n, fun | 0 => 4 | 1 => 5 | 2 => 3 | 3 => 8 | 4 => 9 | n => n⟩
theorem Tryz.laysPu14 : Go.Proofs.LaysPu.n14 Tryz.prog Tryz.laysPu14_ren := {
  mixed := by kernel_rfl
  f14 := Tryz.func110.trans (congrArg some (by kernel_rfl))
  f16 := Tryz.func131.trans (congrArg some (by kernel_rfl))
  f17 := Tryz.func132.trans (congrArg some (by kernel_rfl))
  f19 := Tryz.func150.trans (congrArg some (by kernel_rfl))
  f20 := Tryz.func151.trans (congrArg some (by kernel_rfl))
  f21 := Tryz.func152.trans (congrArg some (by kernel_rfl))
  f22 := Tryz.func153.trans (congrArg some (by kernel_rfl))
  f23 := Tryz.func154.trans (congrArg some (by kernel_rfl))
  f24 := Tryz.func155.trans (congrArg some (by kernel_rfl))
  f25 := Tryz.func176.trans (congrArg some (by kernel_rfl))
  f26 := Tryz.func177.trans (congrArg some (by kernel_rfl))
  f27 := Tryz.func142.trans (congrArg some (by kernel_rfl))
  f28 := Tryz.func163.trans (congrArg some (by kernel_rfl))
  f29 := Tryz.func114.trans (congrArg some (by kernel_rfl))
  f30 := Tryz.func137.trans (congrArg some (by kernel_rfl))
  f31 := Tryz.func138.trans (congrArg some (by kernel_rfl))
  f32 := Tryz.func139.trans (congrArg some (by kernel_rfl))
  f33 := Tryz.func140.trans (congrArg some (by kernel_rfl))
  f34 := Tryz.func158.trans (congrArg some (by kernel_rfl))
  f35 := Tryz.func159.trans (congrArg some (by kernel_rfl))
  f36 := Tryz.func160.trans (congrArg some (by kernel_rfl))
  f37 := Tryz.func161.trans (congrArg some (by kernel_rfl))
  f38 := Tryz.func162.trans (congrArg some (by kernel_rfl))
  f39 := Tryz.func178.trans (congrArg some (by kernel_rfl))
  f40 := Tryz.func179.trans (congrArg some (by kernel_rfl))
  t0 := Tryz.underlying0
  a0 := Tryz.isAgg0
  z0 := Tryz.sizeOf0
  v0 := Tryz.zeroValue0
  i0 := by kernel_rfl
  t2 := Tryz.underlying2
  a2 := Tryz.isAgg2
  z2 := Tryz.sizeOf2
  v2 := Tryz.zeroValue2
  i2 := by kernel_rfl
  t3 := Tryz.underlying3
  a3 := Tryz.isAgg3
  z3 := Tryz.sizeOf3
  v3 := Tryz.zeroValue3
  i3 := by kernel_rfl
  t4 := Tryz.underlying4
  a4 := Tryz.isAgg4
  z4 := Tryz.sizeOf4
  v4 := Tryz.zeroValue4
  i4 := by kernel_rfl
  t5 := Tryz.underlying5
  a5 := Tryz.isAgg5
  z5 := Tryz.sizeOf5
  v5 := Tryz.zeroValue5
  i5 := by kernel_rfl
  t9 := Tryz.underlying9
  a9 := Tryz.isAgg9
  z9 := Tryz.sizeOf9
  v9 := Tryz.zeroValue9
  i9 := by kernel_rfl
  t20 := Tryz.underlying20
  a20 := Tryz.isAgg20
  z20 := Tryz.sizeOf20
  v20 := Tryz.zeroValue20
  i20 := by kernel_rfl
  t21 := Tryz.underlying21
  a21 := Tryz.isAgg21
  z21 := Tryz.sizeOf21
  v21 := Tryz.zeroValue21
  i21 := by kernel_rfl
  t22 := Tryz.underlying69
  a22 := Tryz.isAgg69
  z22 := Tryz.sizeOf69
  v22 := Tryz.zeroValue69
  i22 := by kernel_rfl
  t24 := Tryz.underlying101
  a24 := Tryz.isAgg101
  z24 := Tryz.sizeOf101
  v24 := Tryz.zeroValue101
  i24 := by kernel_rfl
  t25 := Tryz.underlying155
  a25 := Tryz.isAgg155
  z25 := Tryz.sizeOf155
  v25 := Tryz.zeroValue155
  i25 := by kernel_rfl
  t34 := Tryz.underlying186
  a34 := Tryz.isAgg186
  z34 := Tryz.sizeOf186
  v34 := Tryz.zeroValue186
  i34 := by kernel_rfl
  c34 := by kernel_rfl
  t36 := Tryz.underlying110
  a36 := Tryz.isAgg110
  z36 := Tryz.sizeOf110
  v36 := Tryz.zeroValue110
  i36 := by kernel_rfl
  t37 := Tryz.underlying35
  a37 := Tryz.isAgg35
  z37 := Tryz.sizeOf35
  v37 := Tryz.zeroValue35
  i37 := by kernel_rfl
  t39 := Tryz.underlying188
  a39 := Tryz.isAgg188
  z39 := Tryz.sizeOf188
  v39 := Tryz.zeroValue188
  i39 := by kernel_rfl
  t44 := Tryz.underlying208
  a44 := Tryz.isAgg208
  z44 := Tryz.sizeOf208
  v44 := Tryz.zeroValue208
  i44 := by kernel_rfl
  t47 := Tryz.underlying220
  a47 := Tryz.isAgg220
  z47 := Tryz.sizeOf220
  v47 := Tryz.zeroValue220
  i47 := by kernel_rfl
  t48 := Tryz.underlying221
  a48 := Tryz.isAgg221
  z48 := Tryz.sizeOf221
  v48 := Tryz.zeroValue221
  i48 := by kernel_rfl
  t50 := Tryz.underlying223
  a50 := Tryz.isAgg223
  z50 := Tryz.sizeOf223
  v50 := Tryz.zeroValue223
  i50 := by kernel_rfl
  t52 := Tryz.underlying174
  a52 := Tryz.isAgg174
  z52 := Tryz.sizeOf174
  v52 := Tryz.zeroValue174
  i52 := by kernel_rfl
  t55 := Tryz.underlying177
  a55 := Tryz.isAgg177
  z55 := Tryz.sizeOf177
  v55 := Tryz.zeroValue177
  i55 := by kernel_rfl
  t59 := Tryz.underlying194
  a59 := Tryz.isAgg194
  z59 := Tryz.sizeOf194
  v59 := Tryz.zeroValue194
  i59 := by kernel_rfl
  t60 := Tryz.underlying191
  a60 := Tryz.isAgg191
  z60 := Tryz.sizeOf191
  v60 := Tryz.zeroValue191
  i60 := by kernel_rfl
  t61 := Tryz.underlying195
  a61 := Tryz.isAgg195
  z61 := Tryz.sizeOf195
  t65 := Tryz.underlying224
  a65 := Tryz.isAgg224
  z65 := Tryz.sizeOf224
  v65 := Tryz.zeroValue224
  i65 := by kernel_rfl
  t66 := Tryz.underlying225
  a66 := Tryz.isAgg225
  z66 := Tryz.sizeOf225
  v66 := Tryz.zeroValue225
  i66 := by kernel_rfl
  t67 := Tryz.underlying229
  a67 := Tryz.isAgg229
  z67 := Tryz.sizeOf229
  v67 := Tryz.zeroValue229
  i67 := by kernel_rfl
  g0 := by kernel_rfl
  m0 := by kernel_rfl
  g1 := by kernel_rfl
  m1 := by kernel_rfl
  g2 := by kernel_rfl
  m2 := by kernel_rfl
  g3 := by kernel_rfl
  m3 := by kernel_rfl
  g4 := by kernel_rfl
  m4 := by kernel_rfl }
open Go.RowKit in
/-- strconv.ParseUint(s, 10, 0), AT EVERY STRING THAT SPELLS A uint64 ('Lib.parseUintB 64 s.data.toList = .ok u'): u, AND NO ERROR. (LAID: no walk: one application.) -/
theorem Tryz.strconv_ParseUint_10_at0_ok (s : ByteArray) (hmax : s.size ≤ 9223372036854775806) (u : Nat) (h : Lib.parseUintB 64 s.data.toList = .ok u) (w : World) :
    Calls Tryz.prog 110 #[.string s, .int .i64 10, .int .i64 0] w fun e w' => e = .returned (.tuple #[.int .u64 u, .nilIface]) ∧ (w' = w ∨ w' = Lib.bytesWorld w 5 s) := Any.strconv_ParseUint_10_at0_ok Tryz.laysPu14 s hmax u h w
open Go.RowKit in
/-- strconv.ParseUint(s, 10, 0), AT EVERY STRING THAT IS NO ROW OF DECIMAL DIGITS (a sign is a fault): 0, AND AN ERROR THAT IS NOT nil: a *NumError in a new block N: {Func: "ParseUint", Num: s's bytes, Err: what the variable ErrSyntax holds}. Of what was there nothing has turned. (LAID: no walk: one application.) -/
theorem Tryz.strconv_ParseUint_10_at0_syntax (s : ByteArray) (hlim : s.size ≤ 281474976710656) (h : Lib.parseUintB 64 s.data.toList = Lib.NumEnd.syntax) (ev : Value) (w : World) (hv : w.cell? ⟨4, 0, none⟩ = some ev) (hev : ev = .nilIface ∨ ∃ te pe, ev = .iface te pe) :
    Calls Tryz.prog 110 #[.string s, .int .i64 10, .int .i64 0] w fun e w' => ∃ N, e = .returned (.tuple #[.int .u64 0, .iface 188 (.pointer (some ⟨N, 0, none⟩))]) ∧ w.heap.size ≤ N ∧ w'.heap[N]? = some (.cells #[.string ⟨#[80, 97, 114, 115, 101, 85, 105, 110, 116]⟩, .string s, ev] 208 (0, 0)) ∧ Below w.heap.size w w' := Any.strconv_ParseUint_10_at0_syntax Tryz.laysPu14 s hlim h ev w hv hev
open Go.RowKit in
/-- strconv.ParseUint(s, 10, 0), AT EVERY NUMERAL THAT NO uint64 HOLDS: THE GREATEST uint64, AND AN ERROR THAT IS NOT nil: a *NumError in a new block N: {Func: "ParseUint", Num: s's bytes, Err: what the variable ErrRange holds}. Of what was there nothing has turned. (LAID: no walk: one application.) -/
theorem Tryz.strconv_ParseUint_10_at0_range (s : ByteArray) (hlim : s.size ≤ 281474976710656) (h : Lib.parseUintB 64 s.data.toList = .range) (ev : Value) (w : World) (hv : w.cell? ⟨5, 0, none⟩ = some ev) (hev : ev = .nilIface ∨ ∃ te pe, ev = .iface te pe) :
    Calls Tryz.prog 110 #[.string s, .int .i64 10, .int .i64 0] w fun e w' => ∃ N, e = .returned (.tuple #[.int .u64 18446744073709551615, .iface 188 (.pointer (some ⟨N, 0, none⟩))]) ∧ w.heap.size ≤ N ∧ w'.heap[N]? = some (.cells #[.string ⟨#[80, 97, 114, 115, 101, 85, 105, 110, 116]⟩, .string s, ev] 208 (0, 0)) ∧ Below w.heap.size w w' := Any.strconv_ParseUint_10_at0_range Tryz.laysPu14 s hlim h ev w hv hev
open Go.RowKit in
/-- strconv.ParseUint(s, 10, 64), AT EVERY STRING THAT SPELLS A uint64 ('Lib.parseUintB 64 s.data.toList = .ok u'): u, AND NO ERROR. (LAID: no walk: one application.) -/
theorem Tryz.strconv_ParseUint_10_at64_ok (s : ByteArray) (hmax : s.size ≤ 9223372036854775806) (u : Nat) (h : Lib.parseUintB 64 s.data.toList = .ok u) (w : World) :
    Calls Tryz.prog 110 #[.string s, .int .i64 10, .int .i64 64] w fun e w' => e = .returned (.tuple #[.int .u64 u, .nilIface]) ∧ (w' = w ∨ w' = Lib.bytesWorld w 5 s) := Any.strconv_ParseUint_10_at64_ok Tryz.laysPu14 s hmax u h w
open Go.RowKit in
/-- strconv.ParseUint(s, 10, 64), AT EVERY STRING THAT IS NO ROW OF DECIMAL DIGITS (a sign is a fault): 0, AND AN ERROR THAT IS NOT nil: a *NumError in a new block N: {Func: "ParseUint", Num: s's bytes, Err: what the variable ErrSyntax holds}. Of what was there nothing has turned. (LAID: no walk: one application.) -/
theorem Tryz.strconv_ParseUint_10_at64_syntax (s : ByteArray) (hlim : s.size ≤ 281474976710656) (h : Lib.parseUintB 64 s.data.toList = Lib.NumEnd.syntax) (ev : Value) (w : World) (hv : w.cell? ⟨4, 0, none⟩ = some ev) (hev : ev = .nilIface ∨ ∃ te pe, ev = .iface te pe) :
    Calls Tryz.prog 110 #[.string s, .int .i64 10, .int .i64 64] w fun e w' => ∃ N, e = .returned (.tuple #[.int .u64 0, .iface 188 (.pointer (some ⟨N, 0, none⟩))]) ∧ w.heap.size ≤ N ∧ w'.heap[N]? = some (.cells #[.string ⟨#[80, 97, 114, 115, 101, 85, 105, 110, 116]⟩, .string s, ev] 208 (0, 0)) ∧ Below w.heap.size w w' := Any.strconv_ParseUint_10_at64_syntax Tryz.laysPu14 s hlim h ev w hv hev
open Go.RowKit in
/-- strconv.ParseUint(s, 10, 64), AT EVERY NUMERAL THAT NO uint64 HOLDS: THE GREATEST uint64, AND AN ERROR THAT IS NOT nil: a *NumError in a new block N: {Func: "ParseUint", Num: s's bytes, Err: what the variable ErrRange holds}. Of what was there nothing has turned. (LAID: no walk: one application.) -/
theorem Tryz.strconv_ParseUint_10_at64_range (s : ByteArray) (hlim : s.size ≤ 281474976710656) (h : Lib.parseUintB 64 s.data.toList = .range) (ev : Value) (w : World) (hv : w.cell? ⟨5, 0, none⟩ = some ev) (hev : ev = .nilIface ∨ ∃ te pe, ev = .iface te pe) :
    Calls Tryz.prog 110 #[.string s, .int .i64 10, .int .i64 64] w fun e w' => ∃ N, e = .returned (.tuple #[.int .u64 18446744073709551615, .iface 188 (.pointer (some ⟨N, 0, none⟩))]) ∧ w.heap.size ≤ N ∧ w'.heap[N]? = some (.cells #[.string ⟨#[80, 97, 114, 115, 101, 85, 105, 110, 116]⟩, .string s, ev] 208 (0, 0)) ∧ Below w.heap.size w w' := Any.strconv_ParseUint_10_at64_range Tryz.laysPu14 s hlim h ev w hv hev
open Go.RowKit in
/-- strconv.ParseUint(s, 10, 32), AT EVERY STRING THAT SPELLS A uint32 ('Lib.parseUintB 32 s.data.toList = .ok u'): u, AND NO ERROR. (LAID: no walk: one application.) -/
theorem Tryz.strconv_ParseUint_10_at32_ok (s : ByteArray) (hmax : s.size ≤ 9223372036854775806) (u : Nat) (h : Lib.parseUintB 32 s.data.toList = .ok u) (w : World) :
    Calls Tryz.prog 110 #[.string s, .int .i64 10, .int .i64 32] w fun e w' => e = .returned (.tuple #[.int .u64 u, .nilIface]) ∧ (w' = w ∨ w' = Lib.bytesWorld w 5 s) := Any.strconv_ParseUint_10_at32_ok Tryz.laysPu14 s hmax u h w
open Go.RowKit in
/-- strconv.ParseUint(s, 10, 32), AT EVERY STRING THAT IS NO ROW OF DECIMAL DIGITS (a sign is a fault): 0, AND AN ERROR THAT IS NOT nil: a *NumError in a new block N: {Func: "ParseUint", Num: s's bytes, Err: what the variable ErrSyntax holds}. Of what was there nothing has turned. (LAID: no walk: one application.) -/
theorem Tryz.strconv_ParseUint_10_at32_syntax (s : ByteArray) (hlim : s.size ≤ 281474976710656) (h : Lib.parseUintB 32 s.data.toList = Lib.NumEnd.syntax) (ev : Value) (w : World) (hv : w.cell? ⟨4, 0, none⟩ = some ev) (hev : ev = .nilIface ∨ ∃ te pe, ev = .iface te pe) :
    Calls Tryz.prog 110 #[.string s, .int .i64 10, .int .i64 32] w fun e w' => ∃ N, e = .returned (.tuple #[.int .u64 0, .iface 188 (.pointer (some ⟨N, 0, none⟩))]) ∧ w.heap.size ≤ N ∧ w'.heap[N]? = some (.cells #[.string ⟨#[80, 97, 114, 115, 101, 85, 105, 110, 116]⟩, .string s, ev] 208 (0, 0)) ∧ Below w.heap.size w w' := Any.strconv_ParseUint_10_at32_syntax Tryz.laysPu14 s hlim h ev w hv hev
open Go.RowKit in
/-- strconv.ParseUint(s, 10, 32), AT EVERY NUMERAL THAT NO uint32 HOLDS: THE GREATEST uint32, AND AN ERROR THAT IS NOT nil: a *NumError in a new block N: {Func: "ParseUint", Num: s's bytes, Err: what the variable ErrRange holds}. Of what was there nothing has turned. (LAID: no walk: one application.) -/
theorem Tryz.strconv_ParseUint_10_at32_range (s : ByteArray) (hlim : s.size ≤ 281474976710656) (h : Lib.parseUintB 32 s.data.toList = .range) (ev : Value) (w : World) (hv : w.cell? ⟨5, 0, none⟩ = some ev) (hev : ev = .nilIface ∨ ∃ te pe, ev = .iface te pe) :
    Calls Tryz.prog 110 #[.string s, .int .i64 10, .int .i64 32] w fun e w' => ∃ N, e = .returned (.tuple #[.int .u64 4294967295, .iface 188 (.pointer (some ⟨N, 0, none⟩))]) ∧ w.heap.size ≤ N ∧ w'.heap[N]? = some (.cells #[.string ⟨#[80, 97, 114, 115, 101, 85, 105, 110, 116]⟩, .string s, ev] 208 (0, 0)) ∧ Below w.heap.size w w' := Any.strconv_ParseUint_10_at32_range Tryz.laysPu14 s hlim h ev w hv hev
open Go.RowKit in
/-- strconv.ParseUint(s, 10, 16), AT EVERY STRING THAT SPELLS A uint16 ('Lib.parseUintB 16 s.data.toList = .ok u'): u, AND NO ERROR. (LAID: no walk: one application.) -/
theorem Tryz.strconv_ParseUint_10_at16_ok (s : ByteArray) (hmax : s.size ≤ 9223372036854775806) (u : Nat) (h : Lib.parseUintB 16 s.data.toList = .ok u) (w : World) :
    Calls Tryz.prog 110 #[.string s, .int .i64 10, .int .i64 16] w fun e w' => e = .returned (.tuple #[.int .u64 u, .nilIface]) ∧ (w' = w ∨ w' = Lib.bytesWorld w 5 s) := Any.strconv_ParseUint_10_at16_ok Tryz.laysPu14 s hmax u h w
open Go.RowKit in
/-- strconv.ParseUint(s, 10, 16), AT EVERY STRING THAT IS NO ROW OF DECIMAL DIGITS (a sign is a fault): 0, AND AN ERROR THAT IS NOT nil: a *NumError in a new block N: {Func: "ParseUint", Num: s's bytes, Err: what the variable ErrSyntax holds}. Of what was there nothing has turned. (LAID: no walk: one application.) -/
theorem Tryz.strconv_ParseUint_10_at16_syntax (s : ByteArray) (hlim : s.size ≤ 281474976710656) (h : Lib.parseUintB 16 s.data.toList = Lib.NumEnd.syntax) (ev : Value) (w : World) (hv : w.cell? ⟨4, 0, none⟩ = some ev) (hev : ev = .nilIface ∨ ∃ te pe, ev = .iface te pe) :
    Calls Tryz.prog 110 #[.string s, .int .i64 10, .int .i64 16] w fun e w' => ∃ N, e = .returned (.tuple #[.int .u64 0, .iface 188 (.pointer (some ⟨N, 0, none⟩))]) ∧ w.heap.size ≤ N ∧ w'.heap[N]? = some (.cells #[.string ⟨#[80, 97, 114, 115, 101, 85, 105, 110, 116]⟩, .string s, ev] 208 (0, 0)) ∧ Below w.heap.size w w' := Any.strconv_ParseUint_10_at16_syntax Tryz.laysPu14 s hlim h ev w hv hev
open Go.RowKit in
/-- strconv.ParseUint(s, 10, 16), AT EVERY NUMERAL THAT NO uint16 HOLDS: THE GREATEST uint16, AND AN ERROR THAT IS NOT nil: a *NumError in a new block N: {Func: "ParseUint", Num: s's bytes, Err: what the variable ErrRange holds}. Of what was there nothing has turned. (LAID: no walk: one application.) -/
theorem Tryz.strconv_ParseUint_10_at16_range (s : ByteArray) (hlim : s.size ≤ 281474976710656) (h : Lib.parseUintB 16 s.data.toList = .range) (ev : Value) (w : World) (hv : w.cell? ⟨5, 0, none⟩ = some ev) (hev : ev = .nilIface ∨ ∃ te pe, ev = .iface te pe) :
    Calls Tryz.prog 110 #[.string s, .int .i64 10, .int .i64 16] w fun e w' => ∃ N, e = .returned (.tuple #[.int .u64 65535, .iface 188 (.pointer (some ⟨N, 0, none⟩))]) ∧ w.heap.size ≤ N ∧ w'.heap[N]? = some (.cells #[.string ⟨#[80, 97, 114, 115, 101, 85, 105, 110, 116]⟩, .string s, ev] 208 (0, 0)) ∧ Below w.heap.size w w' := Any.strconv_ParseUint_10_at16_range Tryz.laysPu14 s hlim h ev w hv hev
open Go.RowKit in
/-- strconv.ParseUint(s, 10, 8), AT EVERY STRING THAT SPELLS A uint8 ('Lib.parseUintB 8 s.data.toList = .ok u'): u, AND NO ERROR. (LAID: no walk: one application.) -/
theorem Tryz.strconv_ParseUint_10_at8_ok (s : ByteArray) (hmax : s.size ≤ 9223372036854775806) (u : Nat) (h : Lib.parseUintB 8 s.data.toList = .ok u) (w : World) :
    Calls Tryz.prog 110 #[.string s, .int .i64 10, .int .i64 8] w fun e w' => e = .returned (.tuple #[.int .u64 u, .nilIface]) ∧ (w' = w ∨ w' = Lib.bytesWorld w 5 s) := Any.strconv_ParseUint_10_at8_ok Tryz.laysPu14 s hmax u h w
open Go.RowKit in
/-- strconv.ParseUint(s, 10, 8), AT EVERY STRING THAT IS NO ROW OF DECIMAL DIGITS (a sign is a fault): 0, AND AN ERROR THAT IS NOT nil: a *NumError in a new block N: {Func: "ParseUint", Num: s's bytes, Err: what the variable ErrSyntax holds}. Of what was there nothing has turned. (LAID: no walk: one application.) -/
theorem Tryz.strconv_ParseUint_10_at8_syntax (s : ByteArray) (hlim : s.size ≤ 281474976710656) (h : Lib.parseUintB 8 s.data.toList = Lib.NumEnd.syntax) (ev : Value) (w : World) (hv : w.cell? ⟨4, 0, none⟩ = some ev) (hev : ev = .nilIface ∨ ∃ te pe, ev = .iface te pe) :
    Calls Tryz.prog 110 #[.string s, .int .i64 10, .int .i64 8] w fun e w' => ∃ N, e = .returned (.tuple #[.int .u64 0, .iface 188 (.pointer (some ⟨N, 0, none⟩))]) ∧ w.heap.size ≤ N ∧ w'.heap[N]? = some (.cells #[.string ⟨#[80, 97, 114, 115, 101, 85, 105, 110, 116]⟩, .string s, ev] 208 (0, 0)) ∧ Below w.heap.size w w' := Any.strconv_ParseUint_10_at8_syntax Tryz.laysPu14 s hlim h ev w hv hev
open Go.RowKit in
/-- strconv.ParseUint(s, 10, 8), AT EVERY NUMERAL THAT NO uint8 HOLDS: THE GREATEST uint8, AND AN ERROR THAT IS NOT nil: a *NumError in a new block N: {Func: "ParseUint", Num: s's bytes, Err: what the variable ErrRange holds}. Of what was there nothing has turned. (LAID: no walk: one application.) -/
theorem Tryz.strconv_ParseUint_10_at8_range (s : ByteArray) (hlim : s.size ≤ 281474976710656) (h : Lib.parseUintB 8 s.data.toList = .range) (ev : Value) (w : World) (hv : w.cell? ⟨5, 0, none⟩ = some ev) (hev : ev = .nilIface ∨ ∃ te pe, ev = .iface te pe) :
    Calls Tryz.prog 110 #[.string s, .int .i64 10, .int .i64 8] w fun e w' => ∃ N, e = .returned (.tuple #[.int .u64 255, .iface 188 (.pointer (some ⟨N, 0, none⟩))]) ∧ w.heap.size ≤ N ∧ w'.heap[N]? = some (.cells #[.string ⟨#[80, 97, 114, 115, 101, 85, 105, 110, 116]⟩, .string s, ev] 208 (0, 0)) ∧ Below w.heap.size w w' := Any.strconv_ParseUint_10_at8_range Tryz.laysPu14 s hlim h ev w hv hev
open Go.RowKit in
theorem Tryz.strconv_ParseUint_10_at0_syntax_var (s : ByteArray) (hlim : s.size ≤ 281474976710656) (h : Lib.parseUintB 64 s.data.toList = Lib.NumEnd.syntax) (tp : TypeId) (p : Value) (w : World) (hvar : w.var? Tryz.prog "strconv.ErrSyntax" = some #[.iface tp p]) :
    Calls Tryz.prog 110 #[.string s, .int .i64 10, .int .i64 0] w fun e w' => ∃ N, e = .returned (.tuple #[.int .u64 0, .iface 188 (.pointer (some ⟨N, 0, none⟩))]) ∧ w.heap.size ≤ N ∧ w'.heap[N]? = some (.cells #[.string ⟨#[80, 97, 114, 115, 101, 85, 105, 110, 116]⟩, .string s, .iface tp p] 208 (0, 0)) ∧ Below w.heap.size w w' := Any.strconv_ParseUint_10_at0_syntax_var Tryz.laysPu14 s hlim h tp p w hvar
open Go.RowKit in
theorem Tryz.strconv_ParseUint_10_at0_range_var (s : ByteArray) (hlim : s.size ≤ 281474976710656) (h : Lib.parseUintB 64 s.data.toList = .range) (tp : TypeId) (p : Value) (w : World) (hvar : w.var? Tryz.prog "strconv.ErrRange" = some #[.iface tp p]) :
    Calls Tryz.prog 110 #[.string s, .int .i64 10, .int .i64 0] w fun e w' => ∃ N, e = .returned (.tuple #[.int .u64 18446744073709551615, .iface 188 (.pointer (some ⟨N, 0, none⟩))]) ∧ w.heap.size ≤ N ∧ w'.heap[N]? = some (.cells #[.string ⟨#[80, 97, 114, 115, 101, 85, 105, 110, 116]⟩, .string s, .iface tp p] 208 (0, 0)) ∧ Below w.heap.size w w' := Any.strconv_ParseUint_10_at0_range_var Tryz.laysPu14 s hlim h tp p w hvar
open Go.RowKit in
theorem Tryz.strconv_ParseUint_10_at64_syntax_var (s : ByteArray) (hlim : s.size ≤ 281474976710656) (h : Lib.parseUintB 64 s.data.toList = Lib.NumEnd.syntax) (tp : TypeId) (p : Value) (w : World) (hvar : w.var? Tryz.prog "strconv.ErrSyntax" = some #[.iface tp p]) :
    Calls Tryz.prog 110 #[.string s, .int .i64 10, .int .i64 64] w fun e w' => ∃ N, e = .returned (.tuple #[.int .u64 0, .iface 188 (.pointer (some ⟨N, 0, none⟩))]) ∧ w.heap.size ≤ N ∧ w'.heap[N]? = some (.cells #[.string ⟨#[80, 97, 114, 115, 101, 85, 105, 110, 116]⟩, .string s, .iface tp p] 208 (0, 0)) ∧ Below w.heap.size w w' := Any.strconv_ParseUint_10_at64_syntax_var Tryz.laysPu14 s hlim h tp p w hvar
open Go.RowKit in
theorem Tryz.strconv_ParseUint_10_at64_range_var (s : ByteArray) (hlim : s.size ≤ 281474976710656) (h : Lib.parseUintB 64 s.data.toList = .range) (tp : TypeId) (p : Value) (w : World) (hvar : w.var? Tryz.prog "strconv.ErrRange" = some #[.iface tp p]) :
    Calls Tryz.prog 110 #[.string s, .int .i64 10, .int .i64 64] w fun e w' => ∃ N, e = .returned (.tuple #[.int .u64 18446744073709551615, .iface 188 (.pointer (some ⟨N, 0, none⟩))]) ∧ w.heap.size ≤ N ∧ w'.heap[N]? = some (.cells #[.string ⟨#[80, 97, 114, 115, 101, 85, 105, 110, 116]⟩, .string s, .iface tp p] 208 (0, 0)) ∧ Below w.heap.size w w' := Any.strconv_ParseUint_10_at64_range_var Tryz.laysPu14 s hlim h tp p w hvar
open Go.RowKit in
theorem Tryz.strconv_ParseUint_10_at32_syntax_var (s : ByteArray) (hlim : s.size ≤ 281474976710656) (h : Lib.parseUintB 32 s.data.toList = Lib.NumEnd.syntax) (tp : TypeId) (p : Value) (w : World) (hvar : w.var? Tryz.prog "strconv.ErrSyntax" = some #[.iface tp p]) :
    Calls Tryz.prog 110 #[.string s, .int .i64 10, .int .i64 32] w fun e w' => ∃ N, e = .returned (.tuple #[.int .u64 0, .iface 188 (.pointer (some ⟨N, 0, none⟩))]) ∧ w.heap.size ≤ N ∧ w'.heap[N]? = some (.cells #[.string ⟨#[80, 97, 114, 115, 101, 85, 105, 110, 116]⟩, .string s, .iface tp p] 208 (0, 0)) ∧ Below w.heap.size w w' := Any.strconv_ParseUint_10_at32_syntax_var Tryz.laysPu14 s hlim h tp p w hvar
open Go.RowKit in
theorem Tryz.strconv_ParseUint_10_at32_range_var (s : ByteArray) (hlim : s.size ≤ 281474976710656) (h : Lib.parseUintB 32 s.data.toList = .range) (tp : TypeId) (p : Value) (w : World) (hvar : w.var? Tryz.prog "strconv.ErrRange" = some #[.iface tp p]) :
    Calls Tryz.prog 110 #[.string s, .int .i64 10, .int .i64 32] w fun e w' => ∃ N, e = .returned (.tuple #[.int .u64 4294967295, .iface 188 (.pointer (some ⟨N, 0, none⟩))]) ∧ w.heap.size ≤ N ∧ w'.heap[N]? = some (.cells #[.string ⟨#[80, 97, 114, 115, 101, 85, 105, 110, 116]⟩, .string s, .iface tp p] 208 (0, 0)) ∧ Below w.heap.size w w' := Any.strconv_ParseUint_10_at32_range_var Tryz.laysPu14 s hlim h tp p w hvar
open Go.RowKit in
theorem Tryz.strconv_ParseUint_10_at16_syntax_var (s : ByteArray) (hlim : s.size ≤ 281474976710656) (h : Lib.parseUintB 16 s.data.toList = Lib.NumEnd.syntax) (tp : TypeId) (p : Value) (w : World) (hvar : w.var? Tryz.prog "strconv.ErrSyntax" = some #[.iface tp p]) :
    Calls Tryz.prog 110 #[.string s, .int .i64 10, .int .i64 16] w fun e w' => ∃ N, e = .returned (.tuple #[.int .u64 0, .iface 188 (.pointer (some ⟨N, 0, none⟩))]) ∧ w.heap.size ≤ N ∧ w'.heap[N]? = some (.cells #[.string ⟨#[80, 97, 114, 115, 101, 85, 105, 110, 116]⟩, .string s, .iface tp p] 208 (0, 0)) ∧ Below w.heap.size w w' := Any.strconv_ParseUint_10_at16_syntax_var Tryz.laysPu14 s hlim h tp p w hvar
open Go.RowKit in
theorem Tryz.strconv_ParseUint_10_at16_range_var (s : ByteArray) (hlim : s.size ≤ 281474976710656) (h : Lib.parseUintB 16 s.data.toList = .range) (tp : TypeId) (p : Value) (w : World) (hvar : w.var? Tryz.prog "strconv.ErrRange" = some #[.iface tp p]) :
    Calls Tryz.prog 110 #[.string s, .int .i64 10, .int .i64 16] w fun e w' => ∃ N, e = .returned (.tuple #[.int .u64 65535, .iface 188 (.pointer (some ⟨N, 0, none⟩))]) ∧ w.heap.size ≤ N ∧ w'.heap[N]? = some (.cells #[.string ⟨#[80, 97, 114, 115, 101, 85, 105, 110, 116]⟩, .string s, .iface tp p] 208 (0, 0)) ∧ Below w.heap.size w w' := Any.strconv_ParseUint_10_at16_range_var Tryz.laysPu14 s hlim h tp p w hvar
open Go.RowKit in
theorem Tryz.strconv_ParseUint_10_at8_syntax_var (s : ByteArray) (hlim : s.size ≤ 281474976710656) (h : Lib.parseUintB 8 s.data.toList = Lib.NumEnd.syntax) (tp : TypeId) (p : Value) (w : World) (hvar : w.var? Tryz.prog "strconv.ErrSyntax" = some #[.iface tp p]) :
    Calls Tryz.prog 110 #[.string s, .int .i64 10, .int .i64 8] w fun e w' => ∃ N, e = .returned (.tuple #[.int .u64 0, .iface 188 (.pointer (some ⟨N, 0, none⟩))]) ∧ w.heap.size ≤ N ∧ w'.heap[N]? = some (.cells #[.string ⟨#[80, 97, 114, 115, 101, 85, 105, 110, 116]⟩, .string s, .iface tp p] 208 (0, 0)) ∧ Below w.heap.size w w' := Any.strconv_ParseUint_10_at8_syntax_var Tryz.laysPu14 s hlim h tp p w hvar
open Go.RowKit in
theorem Tryz.strconv_ParseUint_10_at8_range_var (s : ByteArray) (hlim : s.size ≤ 281474976710656) (h : Lib.parseUintB 8 s.data.toList = .range) (tp : TypeId) (p : Value) (w : World) (hvar : w.var? Tryz.prog "strconv.ErrRange" = some #[.iface tp p]) :
    Calls Tryz.prog 110 #[.string s, .int .i64 10, .int .i64 8] w fun e w' => ∃ N, e = .returned (.tuple #[.int .u64 255, .iface 188 (.pointer (some ⟨N, 0, none⟩))]) ∧ w.heap.size ≤ N ∧ w'.heap[N]? = some (.cells #[.string ⟨#[80, 97, 114, 115, 101, 85, 105, 110, 116]⟩, .string s, .iface tp p] 208 (0, 0)) ∧ Below w.heap.size w w' := Any.strconv_ParseUint_10_at8_range_var Tryz.laysPu14 s hlim h tp p w hvar
def Tryz.lays222_ren : Go.Shelf.Ren := ⟨fun | 222 => 135 | n => n, fun | 9 => 9 | 5 => 5 | 3 => 3 | 4 => 4 | n => n, fun | n => n⟩
theorem Tryz.lays222 : Go.Proofs.Lays.n222 Tryz.prog Tryz.lays222_ren := {
  mixed := by kernel_rfl
  f222 := Tryz.func135.trans (congrArg some (by kernel_rfl))
  t3 := Tryz.underlying3
  a3 := Tryz.isAgg3
  z3 := Tryz.sizeOf3
  v3 := Tryz.zeroValue3
  t4 := Tryz.underlying4
  a4 := Tryz.isAgg4
  z4 := Tryz.sizeOf4
  v4 := Tryz.zeroValue4
  t5 := Tryz.underlying5
  a5 := Tryz.isAgg5
  z5 := Tryz.sizeOf5
  v5 := Tryz.zeroValue5
  t9 := Tryz.underlying9
  a9 := Tryz.isAgg9
  z9 := Tryz.sizeOf9
  v9 := Tryz.zeroValue9 }
open Go.RowKit Go.Lib in
/-- internal/bytealg.LastIndexByteString: 'for i := len(s) - 1; i >= 0; i-- { if s[i] == c { return i } }; return -1'. (LAID: no walk: one application.) -/
theorem Tryz.bytealg_LastIndexByteString_nm (s : ByteArray) (c : Int) (hs : s.size < 4611686018427387904) (w : World) :
    Calls Tryz.prog 135 #[.string s, .int .u8 c] w fun e w' => e = .returned (.int .i64 (Lib.lastIndexByte s c)) ∧ w' = w := Any.bytealg_LastIndexByteString_nm Tryz.lays222 s c hs w
def Tryz.lays148_ren : Go.Shelf.Ren := ⟨fun | 148 => 113 | 222 => 135 | 223 => 136 | 269 => 157 | n => n, fun | 9 => 9 | 3 => 3 | 4 => 4 | 5 => 5 | 146 => 192 | 51 => 191 | 46 => 110 | n => n, fun | n => n⟩
theorem Tryz.lays148 : Go.Proofs.Lays.n148 Tryz.prog Tryz.lays148_ren := {
  mixed := by kernel_rfl
  f148 := Tryz.func113.trans (congrArg some (by kernel_rfl))
  f222 := Tryz.func135.trans (congrArg some (by kernel_rfl))
  f223 := Tryz.func136.trans (congrArg some (by kernel_rfl))
  f269 := Tryz.func157.trans (congrArg some (by kernel_rfl))
  t3 := Tryz.underlying3
  a3 := Tryz.isAgg3
  z3 := Tryz.sizeOf3
  v3 := Tryz.zeroValue3
  t4 := Tryz.underlying4
  a4 := Tryz.isAgg4
  z4 := Tryz.sizeOf4
  v4 := Tryz.zeroValue4
  t5 := Tryz.underlying5
  a5 := Tryz.isAgg5
  z5 := Tryz.sizeOf5
  v5 := Tryz.zeroValue5
  t9 := Tryz.underlying9
  a9 := Tryz.isAgg9
  z9 := Tryz.sizeOf9
  v9 := Tryz.zeroValue9
  t46 := Tryz.underlying110
  a46 := Tryz.isAgg110
  z46 := Tryz.sizeOf110
  v46 := Tryz.zeroValue110
  t51 := Tryz.underlying191
  a51 := Tryz.isAgg191
  z51 := Tryz.sizeOf191
  v51 := Tryz.zeroValue191
  t146 := Tryz.underlying192
  a146 := Tryz.isAgg192
  z146 := Tryz.sizeOf192
  v146 := Tryz.zeroValue192 }
open Go.RowKit Go.Lib in
/-- strings.LastIndex AT A substr OF ONE BYTE (as in 'strings.LastIndex(path, "/")'): the last place of that byte, or -1. (LAID: no walk: one application.) -/
theorem Tryz.strings_LastIndex_one (s sub : ByteArray) (h1 : sub.size = 1) (hs : s.size < 4611686018427387904) (w : World) :
    Calls Tryz.prog 113 #[.string s, .string sub] w fun e w' => e = .returned (.int .i64 (Lib.lastIndexByte s ((sub[0]'(by omega)).toNat : Int))) ∧ w' = w := Any.strings_LastIndex_one Tryz.lays148 s sub h1 hs w
open Go.RowKit Go.Lib in
/-- .. AT THE EMPTY substr: len(s). (LAID: no walk: one application.) -/
theorem Tryz.strings_LastIndex_empty (s sub : ByteArray) (h0 : sub.size = 0) (w : World) :
    Calls Tryz.prog 113 #[.string s, .string sub] w fun e w' => e = .returned (.int .i64 s.size) ∧ w' = w := Any.strings_LastIndex_empty Tryz.lays148 s sub h0 w
open Go.RowKit Go.Lib in
/-- .. AT A substr LONGER THAN s (and of two bytes or more): -1. (LAID: no walk: one application.) -/
theorem Tryz.strings_LastIndex_longer (s sub : ByteArray) (h2 : 2 ≤ sub.size) (hl : s.size < sub.size) (w : World) :
    Calls Tryz.prog 113 #[.string s, .string sub] w fun e w' => e = .returned (.int .i64 (-1)) ∧ w' = w := Any.strings_LastIndex_longer Tryz.lays148 s sub h2 hl w
open Go.RowKit Go.Lib in
/-- .. AT A substr AS LONG AS s (and of two bytes or more): 0 where the two are one, else -1. (LAID: no walk: one application.) -/
theorem Tryz.strings_LastIndex_whole (s sub : ByteArray) (h2 : 2 ≤ sub.size) (hl : sub.size = s.size) (w : World) :
    Calls Tryz.prog 113 #[.string s, .string sub] w fun e w' => e = .returned (.int .i64 (if sub = s then 0 else -1)) ∧ w' = w := Any.strings_LastIndex_whole Tryz.lays148 s sub h2 hl w
def Tryz.lays269_ren : Go.Shelf.Ren := ⟨fun | 269 => 157 | n => n, fun | 9 => 9 | 51 => 191 | 3 => 3 | 4 => 4 | 5 => 5 | 46 => 110 | n => n, fun | n => n⟩
theorem Tryz.lays269 : Go.Proofs.Lays.n269 Tryz.prog Tryz.lays269_ren := {
  mixed := by kernel_rfl
  f269 := Tryz.func157.trans (congrArg some (by kernel_rfl))
  t3 := Tryz.underlying3
  a3 := Tryz.isAgg3
  z3 := Tryz.sizeOf3
  v3 := Tryz.zeroValue3
  t4 := Tryz.underlying4
  a4 := Tryz.isAgg4
  z4 := Tryz.sizeOf4
  v4 := Tryz.zeroValue4
  t5 := Tryz.underlying5
  a5 := Tryz.isAgg5
  z5 := Tryz.sizeOf5
  v5 := Tryz.zeroValue5
  t9 := Tryz.underlying9
  a9 := Tryz.isAgg9
  z9 := Tryz.sizeOf9
  v9 := Tryz.zeroValue9
  t46 := Tryz.underlying110
  a46 := Tryz.isAgg110
  z46 := Tryz.sizeOf110
  v46 := Tryz.zeroValue110
  t51 := Tryz.underlying191
  a51 := Tryz.isAgg191
  z51 := Tryz.sizeOf191
  v51 := Tryz.zeroValue191 }
open Go.RowKit Go.Lib in
/-- internal/bytealg.hashStrRev: the hash of sep REVERSED, and primeRK ^ len(sep). (LAID: no walk: one application.) -/
theorem Tryz.bytealg_hashStrRev (sep : ByteArray) (hs : sep.size < 4611686018427387904) (w : World) :
    Calls Tryz.prog 157 #[.string sep] w fun e w' => e = .returned (.tuple #[.int .u32 (RK.H sep.data.toList.reverse % 4294967296), .int .u32 (16777619 ^ sep.size % 4294967296)]) ∧ w' = w := Any.bytealg_hashStrRev Tryz.lays269 sep hs w
def Tryz.lays223_ren : Go.Shelf.Ren := ⟨fun | 223 => 136 | 269 => 157 | n => n, fun | 9 => 9 | 3 => 3 | 146 => 192 | 51 => 191 | 4 => 4 | 5 => 5 | 46 => 110 | n => n, fun | n => n⟩
theorem Tryz.lays223 : Go.Proofs.Lays.n223 Tryz.prog Tryz.lays223_ren := {
  mixed := by kernel_rfl
  f223 := Tryz.func136.trans (congrArg some (by kernel_rfl))
  f269 := Tryz.func157.trans (congrArg some (by kernel_rfl))
  t3 := Tryz.underlying3
  a3 := Tryz.isAgg3
  z3 := Tryz.sizeOf3
  v3 := Tryz.zeroValue3
  t4 := Tryz.underlying4
  a4 := Tryz.isAgg4
  z4 := Tryz.sizeOf4
  v4 := Tryz.zeroValue4
  t5 := Tryz.underlying5
  a5 := Tryz.isAgg5
  z5 := Tryz.sizeOf5
  v5 := Tryz.zeroValue5
  t9 := Tryz.underlying9
  a9 := Tryz.isAgg9
  z9 := Tryz.sizeOf9
  v9 := Tryz.zeroValue9
  t46 := Tryz.underlying110
  a46 := Tryz.isAgg110
  z46 := Tryz.sizeOf110
  v46 := Tryz.zeroValue110
  t51 := Tryz.underlying191
  a51 := Tryz.isAgg191
  z51 := Tryz.sizeOf191
  v51 := Tryz.zeroValue191
  t146 := Tryz.underlying192
  a146 := Tryz.isAgg192
  z146 := Tryz.sizeOf192
  v146 := Tryz.zeroValue192 }
open Go.RowKit Go.Lib in
/-- internal/bytealg.LastIndexRabinKarp: "LastIndexRabinKarp uses the Rabin-Karp search algorithm to return the last index of the occurrence of sep in s, or -1 if not present." (LAID: no walk: one application.) -/
theorem Tryz.bytealg_LastIndexRabinKarp (s sep : ByteArray) (h1 : 1 ≤ sep.size) (h2 : sep.size ≤ s.size) (hs : s.size < 4611686018427387904) (w : World) :
    Calls Tryz.prog 136 #[.string s, .string sep] w fun e w' => e = .returned (.int .i64 (Lib.lastIndex s.data.toList sep.data.toList)) ∧ w' = w := Any.bytealg_LastIndexRabinKarp Tryz.lays223 s sep h1 h2 hs w
open Go.RowKit Go.Lib in
/-- strings.LastIndex WHERE THE HASH IS ASKED: 2 bytes or more, shorter than s. (LAID: no walk: one application.) -/
theorem Tryz.strings_LastIndex_hash (s sub : ByteArray) (h2 : 2 ≤ sub.size) (hl : sub.size < s.size) (hs : s.size < 4611686018427387904) (w : World) :
    Calls Tryz.prog 113 #[.string s, .string sub] w fun e w' => e = .returned (.int .i64 (Lib.lastIndex s.data.toList sub.data.toList)) ∧ w' = w := Any.strings_LastIndex_hash Tryz.lays148 s sub h2 hl hs w
open Go.RowKit Go.Lib in
/-- strings.LastIndex: "LastIndex returns the index of the last instance of substr in s, or -1 if substr is not present in s.": AT A substr OF WHATEVER LENGTH. (LAID: no walk: one application.) -/
theorem Tryz.strings_LastIndex (s sub : ByteArray) (hs : s.size < 4611686018427387904) (w : World) :
    Calls Tryz.prog 113 #[.string s, .string sub] w fun e w' => e = .returned (.int .i64 (Lib.lastIndex s.data.toList sub.data.toList)) ∧ w' = w := Any.strings_LastIndex Tryz.lays148 s sub hs w
def Tryz.lays206_ren : Go.Shelf.Ren := ⟨fun | 206 => 120 | n => n, fun | 9 => 9 | 4 => 4 | 3 => 3 | n => n, fun | n => n⟩
theorem Tryz.lays206 : Go.Proofs.Lays.n206 Tryz.prog Tryz.lays206_ren := {
  mixed := by kernel_rfl
  f206 := Tryz.func120.trans (congrArg some (by kernel_rfl))
  t3 := Tryz.underlying3
  a3 := Tryz.isAgg3
  z3 := Tryz.sizeOf3
  v3 := Tryz.zeroValue3
  t4 := Tryz.underlying4
  a4 := Tryz.isAgg4
  z4 := Tryz.sizeOf4
  v4 := Tryz.zeroValue4
  t9 := Tryz.underlying9
  a9 := Tryz.isAgg9
  z9 := Tryz.sizeOf9
  v9 := Tryz.zeroValue9 }
open Go.RowKit Go.Lib in
/-- internal/stringslite.HasPrefix (what strings.HasPrefix calls). (LAID: no walk: one application.) -/
theorem Tryz.stringslite_HasPrefix (s p : ByteArray) (w : World) :
    Calls Tryz.prog 120 #[.string s, .string p] w fun e w' => e = .returned (.bool (Lib.hasPrefix s.data.toList p.data.toList)) ∧ w' = w := Any.stringslite_HasPrefix Tryz.lays206 s p w
def Tryz.lays99_ren : Go.Shelf.Ren := ⟨fun | 99 => 103 | 206 => 120 | n => n, fun | 9 => 9 | 4 => 4 | 3 => 3 | n => n, fun | n => n⟩
theorem Tryz.lays99 : Go.Proofs.Lays.n99 Tryz.prog Tryz.lays99_ren := {
  mixed := by kernel_rfl
  f99 := Tryz.func103.trans (congrArg some (by kernel_rfl))
  f206 := Tryz.func120.trans (congrArg some (by kernel_rfl))
  t3 := Tryz.underlying3
  a3 := Tryz.isAgg3
  z3 := Tryz.sizeOf3
  v3 := Tryz.zeroValue3
  t4 := Tryz.underlying4
  a4 := Tryz.isAgg4
  z4 := Tryz.sizeOf4
  v4 := Tryz.zeroValue4
  t9 := Tryz.underlying9
  a9 := Tryz.isAgg9
  z9 := Tryz.sizeOf9
  v9 := Tryz.zeroValue9 }
open Go.RowKit Go.Lib in
/-- strings.HasPrefix: "HasPrefix reports whether the string s begins with prefix.": IT RETURNS 'Lib.hasPrefix s prefix'; the world is as it was. (LAID: no walk: one application.) -/
theorem Tryz.strings_HasPrefix (s p : ByteArray) (w : World) :
    Calls Tryz.prog 103 #[.string s, .string p] w fun e w' => e = .returned (.bool (Lib.hasPrefix s.data.toList p.data.toList)) ∧ w' = w := Any.strings_HasPrefix Tryz.lays99 s p w
def Tryz.lays207_ren : Go.Shelf.Ren := ⟨fun | 207 => 119 | n => n, fun | 9 => 9 | 4 => 4 | 3 => 3 | n => n, fun | n => n⟩
theorem Tryz.lays207 : Go.Proofs.Lays.n207 Tryz.prog Tryz.lays207_ren := {
  mixed := by kernel_rfl
  f207 := Tryz.func119.trans (congrArg some (by kernel_rfl))
  t3 := Tryz.underlying3
  a3 := Tryz.isAgg3
  z3 := Tryz.sizeOf3
  v3 := Tryz.zeroValue3
  t4 := Tryz.underlying4
  a4 := Tryz.isAgg4
  z4 := Tryz.sizeOf4
  v4 := Tryz.zeroValue4
  t9 := Tryz.underlying9
  a9 := Tryz.isAgg9
  z9 := Tryz.sizeOf9
  v9 := Tryz.zeroValue9 }
open Go.RowKit Go.Lib in
/-- internal/stringslite.HasSuffix (what strings.HasSuffix calls). (LAID: no walk: one application.) -/
theorem Tryz.stringslite_HasSuffix (s p : ByteArray) (w : World) (hs : s.size ≤ 9223372036854775807) :
    Calls Tryz.prog 119 #[.string s, .string p] w fun e w' => e = .returned (.bool (Lib.hasSuffix s.data.toList p.data.toList)) ∧ w' = w := Any.stringslite_HasSuffix Tryz.lays207 s p w hs
def Tryz.lays100_ren : Go.Shelf.Ren := ⟨fun | 100 => 99 | 207 => 119 | n => n, fun | 9 => 9 | 4 => 4 | 3 => 3 | n => n, fun | n => n⟩
theorem Tryz.lays100 : Go.Proofs.Lays.n100 Tryz.prog Tryz.lays100_ren := {
  mixed := by kernel_rfl
  f100 := Tryz.func99.trans (congrArg some (by kernel_rfl))
  f207 := Tryz.func119.trans (congrArg some (by kernel_rfl))
  t3 := Tryz.underlying3
  a3 := Tryz.isAgg3
  z3 := Tryz.sizeOf3
  v3 := Tryz.zeroValue3
  t4 := Tryz.underlying4
  a4 := Tryz.isAgg4
  z4 := Tryz.sizeOf4
  v4 := Tryz.zeroValue4
  t9 := Tryz.underlying9
  a9 := Tryz.isAgg9
  z9 := Tryz.sizeOf9
  v9 := Tryz.zeroValue9 }
open Go.RowKit Go.Lib in
/-- strings.HasSuffix: "HasSuffix reports whether the string s ends with suffix.": IT RETURNS 'Lib.hasSuffix s suffix'; the world is as it was. ('hs': no Go string is longer: a caller has it of every string that it was handed.) (LAID: no walk: one application.) -/
theorem Tryz.strings_HasSuffix (s p : ByteArray) (w : World) (hs : s.size ≤ 9223372036854775807) :
    Calls Tryz.prog 99 #[.string s, .string p] w fun e w' => e = .returned (.bool (Lib.hasSuffix s.data.toList p.data.toList)) ∧ w' = w := Any.strings_HasSuffix Tryz.lays100 s p w hs
def Tryz.lays187_ren : Go.Shelf.Ren := ⟨fun | 187 => 133 | 255 => 156 | n => n, fun | 37 => 35 | 5 => 5 | 3 => 3 | n => n, fun | n => n⟩
theorem Tryz.lays187 : Go.Proofs.Lays.n187 Tryz.prog Tryz.lays187_ren := {
  mixed := by kernel_rfl
  f187 := Tryz.func133.trans (congrArg some (by kernel_rfl))
  f255 := Tryz.func156.trans (congrArg some (by kernel_rfl))
  t3 := Tryz.underlying3
  a3 := Tryz.isAgg3
  z3 := Tryz.sizeOf3
  v3 := Tryz.zeroValue3
  t5 := Tryz.underlying5
  a5 := Tryz.isAgg5
  z5 := Tryz.sizeOf5
  v5 := Tryz.zeroValue5
  t37 := Tryz.underlying35
  a37 := Tryz.isAgg35
  z37 := Tryz.sizeOf35
  v37 := Tryz.zeroValue35 }
open Go.RowKit Go.Lib in
/-- bytes.IndexByte, b at whatever address: "IndexByte returns the index of the first instance of c in b, or -1 if c is not present in b." (LAID: no walk: one application.) -/
theorem Tryz.bytes_IndexByte_at (a : Addr) (n c : Nat) (xs : List Int) (cv : Int) (w : World) (hx : xs.length = n) (hc : ∀ i, i < n → w.cell? (a.add i) = some (.int .u8 (xs.getD i 0))) :
    Calls Tryz.prog 133 #[.slice (some a) n c, .int .u8 cv] w fun e w' => e = .returned (.int .i64 (Lib.indexByte (Lib.bytesOf xs) cv.toNat.toUInt8)) ∧ w' = w := Any.bytes_IndexByte_at Tryz.lays187 a n c xs cv w hx hc
open Go.Proofs Go.RowKit Go.Lib in
/-- bytes.IndexByte, the slice's bytes told by a ByteArray. (LAID: no walk: one application.) -/
theorem Tryz.bytes_IndexByte_bytes (b o cap : Nat) (t : ByteArray) (cv : Int) (w : World) (hc : Lib.Bytes w b o t) :
    Calls Tryz.prog 133 #[.slice (some ⟨b, o, none⟩) t.size cap, .int .u8 cv] w fun e w' => e = .returned (.int .i64 (Lib.indexByte t.data.toList cv.toNat.toUInt8)) ∧ w' = w := Any.bytes_IndexByte_bytes Tryz.lays187 b o cap t cv w hc
def Tryz.laysPa45_ren : Go.Shelf.Ren := ⟨fun | 45 => 135 | n => n, fun | 9 => 9 | 5 => 5 | 3 => 3 | 4 => 4 | n => n, fun | n => n⟩
theorem Tryz.laysPa45 : Go.Proofs.Lays.p45 Tryz.prog Tryz.laysPa45_ren := {
  mixed := by kernel_rfl
  f45 := Tryz.func135.trans (congrArg some (by kernel_rfl))
  t3 := Tryz.underlying3
  a3 := Tryz.isAgg3
  z3 := Tryz.sizeOf3
  v3 := Tryz.zeroValue3
  t4 := Tryz.underlying4
  a4 := Tryz.isAgg4
  z4 := Tryz.sizeOf4
  v4 := Tryz.zeroValue4
  t5 := Tryz.underlying5
  a5 := Tryz.isAgg5
  z5 := Tryz.sizeOf5
  v5 := Tryz.zeroValue5
  t9 := Tryz.underlying9
  a9 := Tryz.isAgg9
  z9 := Tryz.sizeOf9
  v9 := Tryz.zeroValue9 }
open Go.RowKit Go.Lib in
/-- internal/bytealg.LastIndexByteString (what strings.LastIndexByte calls: "LastIndexByte returns the index of the last instance of c in s, or -1 if c is not present in s."): IT RETURNS 'Pa.lastIndexByte s c'; the world is as it was. (LAID: no walk: one application.) -/
theorem Tryz.bytealg_LastIndexByteString (s : ByteArray) (c : UInt8) (w : World) (hs : s.size ≤ 9223372036854775807) :
    Calls Tryz.prog 135 #[.string s, .int .u8 c.toNat] w fun e w' => e = .returned (.int .i64 (Pa.lastIndexByte s.data.toList c)) ∧ w' = w := Any.bytealg_LastIndexByteString Tryz.laysPa45 s c w hs
/-- bytes.IndexByte: "IndexByte returns the index of the first instance of c in b, or -1 if c is not present in b.": IT RETURNS 'Lib.indexByte (the bytes of b) c'; the world is as it was. 'xs': the numbers that the slice's cells hold. (LAID: no walk: one application.) -/
theorem Tryz.bytes_IndexByte (b o n c : Nat) (xs : List Int) (cv : Int) (w : World) (hx : xs.length = n) (hc : ∀ i, i < n → w.cell? ⟨b, o + i, none⟩ = some (.int .u8 (xs.getD i 0))) :
    Calls Tryz.prog 133 #[.slice (some ⟨b, o, none⟩) n c, .int .u8 cv] w fun e w' => e = .returned (.int .i64 (Lib.indexByte (Lib.bytesOf xs) cv.toNat.toUInt8)) ∧ w' = w := Any.bytes_IndexByte Tryz.lays187 b o n c xs cv w hx hc
/-- bytes.IndexByte AT nil: -1. (LAID: no walk: one application.) -/
theorem Tryz.bytes_IndexByte_nil (cv : Int) (w : World) :
    Calls Tryz.prog 133 #[.slice none 0 0, .int .u8 cv] w fun e w' => e = .returned (.int .i64 (-1)) ∧ w' = w := Any.bytes_IndexByte_nil Tryz.lays187 cv w
end Go.Proofs
