/-
  DERIVED: THE SHELF's CONTRACTS AT THIS DUMP, IN PLAIN WORDS (tools/lay-plain.mjs out of 'TryzShelf.lean', which tools/lay-shelf.mjs wrote): THE SAME DECLARATIONS UNDER THE SAME NAMES: 'import', 'namespace', 'open', 'def', 'theorem' AND NOTHING ELSE: no command of the shelf's: FOR A HAND-IN. Each laying: the table of numbers ('.._ren') and one theorem, a field a fact of the dump's own or the kernel's comparison; each contract: ONE APPLICATION.
-/
import Derived.Shelf.Small.Utf8
import Derived.Shelf.Strconv.Itoa0
import Derived.Shelf.Strconv.Itoa1
import Derived.Shelf.LaysM
import Derived.Shelf.Strconv.Itoa2
import Derived.Shelf.Strconv.Itoa3
import Derived.Shelf.Strconv.Itoa4
import Derived.Shelf.Strconv.Clone
import Derived.Shelf.Strconv.SyntaxError
import Derived.Shelf.LaysC
import Derived.Shelf.Strconv.ToError
import Derived.Shelf.Strconv.Lower
import Derived.Shelf.Strconv.ParseUint10
import Derived.Shelf.Strconv.ParseUint10Empty
import Derived.Shelf.Strconv.ParseUint10Any
import Derived.Shelf.Strconv.RangeError
import Derived.Shelf.Strconv.ToErrorRange
import Derived.Shelf.Strconv.ParseUintEmpty
import Derived.Shelf.Strconv.ParseUint10b64
import Derived.Shelf.Strconv.ParseUint10b32
import Derived.Shelf.Strconv.ParseUint10b16
import Derived.Shelf.Strconv.ParseUint10b8
import Derived.Shelf.Strconv.ParseUint10At
import Derived.Ground.MpProg
import Derived.Shelf.Pu.ParseUintPublic10
import Derived.Shelf.Pu.ErrVarParseUint
import Derived.Shelf.Strings.LastIndex
import Derived.Shelf.Strings.LastIndexAll
import Derived.Shelf.Strings.Prefix
import Derived.Shelf.Bytes.SlIndexAt
import Derived.Shelf.Bytes.SlSearch0
import Derived.Ground.PaProg
import Derived.Shelf.Path.Small
import Derived.Shelf.Bytes.IndexByte
import Derived.Test.YtepeehjajhehfaaGreatDoorProg
namespace Go.Proofs
open Go.Shelf
def Tryz.laysM171_ren : Go.Shelf.Ren := ⟨fun | 171 => 142 | 243 => 163 | 246 => 114 | 283 => 137 | 284 => 138 | 285 => 139 | 286 => 140 | 129 => 159 | 317 => 158 | 318 => 160 | 319 => 161 | 320 => 162 | 337 => 178 | 338 => 179 | n => n, fun | 3 => 3 | 9 => 9 | 2 => 2 | 4 => 4 | 171 => 174 | 0 => 0 | 53 => 69 | 37 => 35 | 5 => 5 | 173 => 177 | 212 => 194 | 51 => 191 | 20 => 20 | 213 => 195 | 46 => 110 | 232 => 224 | 233 => 225 | n => n, fun | 17 => 3 | 18 => 8 | 19 => 9 | n => n⟩
theorem Tryz.laysM171 : Go.Proofs.LaysM.n171 Tryz.prog Tryz.laysM171_ren := {
  mixed := by kernel_rfl
  f129 := Tryz.func159.trans (congrArg some (by kernel_rfl))
  f171 := Tryz.func142.trans (congrArg some (by kernel_rfl))
  f243 := Tryz.func163.trans (congrArg some (by kernel_rfl))
  f246 := Tryz.func114.trans (congrArg some (by kernel_rfl))
  f283 := Tryz.func137.trans (congrArg some (by kernel_rfl))
  f284 := Tryz.func138.trans (congrArg some (by kernel_rfl))
  f285 := Tryz.func139.trans (congrArg some (by kernel_rfl))
  f286 := Tryz.func140.trans (congrArg some (by kernel_rfl))
  f317 := Tryz.func158.trans (congrArg some (by kernel_rfl))
  f318 := Tryz.func160.trans (congrArg some (by kernel_rfl))
  f319 := Tryz.func161.trans (congrArg some (by kernel_rfl))
  f320 := Tryz.func162.trans (congrArg some (by kernel_rfl))
  f337 := Tryz.func178.trans (congrArg some (by kernel_rfl))
  f338 := Tryz.func179.trans (congrArg some (by kernel_rfl))
  t0 := Tryz.underlying0
  a0 := Tryz.isAgg0
  z0 := Tryz.sizeOf0
  v0 := Tryz.zeroValue0
  t2 := Tryz.underlying2
  a2 := Tryz.isAgg2
  z2 := Tryz.sizeOf2
  v2 := Tryz.zeroValue2
  t3 := Tryz.underlying3
  a3 := Tryz.isAgg3
  z3 := Tryz.sizeOf3
  v3 := Tryz.zeroValue3
  t4 := Tryz.underlying4
  a4 := Tryz.isAgg4
  z4 := Tryz.sizeOf4
  v4 := Tryz.zeroValue4
  t5 := Tryz.underlying5
  a5 := Tryz.isAgg5
  z5 := Tryz.sizeOf5
  v5 := Tryz.zeroValue5
  t9 := Tryz.underlying9
  a9 := Tryz.isAgg9
  z9 := Tryz.sizeOf9
  v9 := Tryz.zeroValue9
  t20 := Tryz.underlying20
  a20 := Tryz.isAgg20
  z20 := Tryz.sizeOf20
  v20 := Tryz.zeroValue20
  t37 := Tryz.underlying35
  a37 := Tryz.isAgg35
  z37 := Tryz.sizeOf35
  v37 := Tryz.zeroValue35
  t46 := Tryz.underlying110
  a46 := Tryz.isAgg110
  z46 := Tryz.sizeOf110
  v46 := Tryz.zeroValue110
  t51 := Tryz.underlying191
  a51 := Tryz.isAgg191
  z51 := Tryz.sizeOf191
  v51 := Tryz.zeroValue191
  t53 := Tryz.underlying69
  a53 := Tryz.isAgg69
  z53 := Tryz.sizeOf69
  v53 := Tryz.zeroValue69
  t171 := Tryz.underlying174
  a171 := Tryz.isAgg174
  z171 := Tryz.sizeOf174
  v171 := Tryz.zeroValue174
  t173 := Tryz.underlying177
  a173 := Tryz.isAgg177
  z173 := Tryz.sizeOf177
  v173 := Tryz.zeroValue177
  t212 := Tryz.underlying194
  a212 := Tryz.isAgg194
  z212 := Tryz.sizeOf194
  v212 := Tryz.zeroValue194
  t213 := Tryz.underlying195
  a213 := Tryz.isAgg195
  z213 := Tryz.sizeOf195
  t232 := Tryz.underlying224
  a232 := Tryz.isAgg224
  z232 := Tryz.sizeOf224
  v232 := Tryz.zeroValue224
  t233 := Tryz.underlying225
  a233 := Tryz.isAgg225
  z233 := Tryz.sizeOf225
  v233 := Tryz.zeroValue225
  g17 := by kernel_rfl
  g18 := by kernel_rfl
  g19 := by kernel_rfl
  i0 := by kernel_rfl
  i2 := by kernel_rfl
  i3 := by kernel_rfl
  i4 := by kernel_rfl
  i5 := by kernel_rfl
  i9 := by kernel_rfl
  i20 := by kernel_rfl
  i37 := by kernel_rfl
  i46 := by kernel_rfl
  i51 := by kernel_rfl
  i53 := by kernel_rfl
  i171 := by kernel_rfl
  i173 := by kernel_rfl
  i212 := by kernel_rfl
  i232 := by kernel_rfl
  i233 := by kernel_rfl
  m17 := by kernel_rfl
  m18 := by kernel_rfl
  m19 := by kernel_rfl }
open Go.RowKit Go.Sort Go.Lib in
/-- strconv.Itoa: "Itoa is equivalent to FormatInt(int64(i), 10).": i's DECIMAL NUMERAL ('Lib.itoa': a '-' where i is negative, then the digits), FOR EVERY int. The world behind the call: the world before it, new blocks behind the heap (the library's 'var a [24]byte'), draws. (LAID: no walk: one application.) -/
theorem Tryz.strconv_Itoa (n : Int) (h0 : -9223372036854775808 ≤ n) (h1 : n ≤ 9223372036854775807) (w : World) (htab : Lib.TabIs Tryz.prog w "internal/strconv.uint64pow10" .u64 Lib.pow10Tab) :
    Calls Tryz.prog 142 #[.int .i64 n] w fun e w' => e = .returned (.string ⟨(Lib.itoa n).toArray⟩) ∧ ∃ k os, w' = grow (w.drewN k) os := Any.strconv_Itoa Tryz.laysM171 n h0 h1 w htab
def Tryz.laysM173_ren : Go.Shelf.Ren := ⟨fun | 173 => 79 | 246 => 114 | 283 => 137 | 284 => 138 | 285 => 139 | 286 => 140 | 129 => 159 | 317 => 158 | 318 => 160 | 319 => 161 | 320 => 162 | 337 => 178 | 338 => 179 | n => n, fun | 2 => 2 | 3 => 3 | 9 => 9 | 4 => 4 | 171 => 174 | 0 => 0 | 53 => 69 | 37 => 35 | 5 => 5 | 173 => 177 | 212 => 194 | 51 => 191 | 20 => 20 | 213 => 195 | 46 => 110 | 232 => 224 | 233 => 225 | n => n, fun | 17 => 3 | 18 => 8 | 19 => 9 | n => n⟩
theorem Tryz.laysM173 : Go.Proofs.LaysM.n173 Tryz.prog Tryz.laysM173_ren := {
  mixed := by kernel_rfl
  f129 := Tryz.func159.trans (congrArg some (by kernel_rfl))
  f173 := Tryz.func79.trans (congrArg some (by kernel_rfl))
  f246 := Tryz.func114.trans (congrArg some (by kernel_rfl))
  f283 := Tryz.func137.trans (congrArg some (by kernel_rfl))
  f284 := Tryz.func138.trans (congrArg some (by kernel_rfl))
  f285 := Tryz.func139.trans (congrArg some (by kernel_rfl))
  f286 := Tryz.func140.trans (congrArg some (by kernel_rfl))
  f317 := Tryz.func158.trans (congrArg some (by kernel_rfl))
  f318 := Tryz.func160.trans (congrArg some (by kernel_rfl))
  f319 := Tryz.func161.trans (congrArg some (by kernel_rfl))
  f320 := Tryz.func162.trans (congrArg some (by kernel_rfl))
  f337 := Tryz.func178.trans (congrArg some (by kernel_rfl))
  f338 := Tryz.func179.trans (congrArg some (by kernel_rfl))
  t0 := Tryz.underlying0
  a0 := Tryz.isAgg0
  z0 := Tryz.sizeOf0
  v0 := Tryz.zeroValue0
  t2 := Tryz.underlying2
  a2 := Tryz.isAgg2
  z2 := Tryz.sizeOf2
  v2 := Tryz.zeroValue2
  t3 := Tryz.underlying3
  a3 := Tryz.isAgg3
  z3 := Tryz.sizeOf3
  v3 := Tryz.zeroValue3
  t4 := Tryz.underlying4
  a4 := Tryz.isAgg4
  z4 := Tryz.sizeOf4
  v4 := Tryz.zeroValue4
  t5 := Tryz.underlying5
  a5 := Tryz.isAgg5
  z5 := Tryz.sizeOf5
  v5 := Tryz.zeroValue5
  t9 := Tryz.underlying9
  a9 := Tryz.isAgg9
  z9 := Tryz.sizeOf9
  v9 := Tryz.zeroValue9
  t20 := Tryz.underlying20
  a20 := Tryz.isAgg20
  z20 := Tryz.sizeOf20
  v20 := Tryz.zeroValue20
  t37 := Tryz.underlying35
  a37 := Tryz.isAgg35
  z37 := Tryz.sizeOf35
  v37 := Tryz.zeroValue35
  t46 := Tryz.underlying110
  a46 := Tryz.isAgg110
  z46 := Tryz.sizeOf110
  v46 := Tryz.zeroValue110
  t51 := Tryz.underlying191
  a51 := Tryz.isAgg191
  z51 := Tryz.sizeOf191
  v51 := Tryz.zeroValue191
  t53 := Tryz.underlying69
  a53 := Tryz.isAgg69
  z53 := Tryz.sizeOf69
  v53 := Tryz.zeroValue69
  t171 := Tryz.underlying174
  a171 := Tryz.isAgg174
  z171 := Tryz.sizeOf174
  v171 := Tryz.zeroValue174
  t173 := Tryz.underlying177
  a173 := Tryz.isAgg177
  z173 := Tryz.sizeOf177
  v173 := Tryz.zeroValue177
  t212 := Tryz.underlying194
  a212 := Tryz.isAgg194
  z212 := Tryz.sizeOf194
  v212 := Tryz.zeroValue194
  t213 := Tryz.underlying195
  a213 := Tryz.isAgg195
  z213 := Tryz.sizeOf195
  t232 := Tryz.underlying224
  a232 := Tryz.isAgg224
  z232 := Tryz.sizeOf224
  v232 := Tryz.zeroValue224
  t233 := Tryz.underlying225
  a233 := Tryz.isAgg225
  z233 := Tryz.sizeOf225
  v233 := Tryz.zeroValue225
  g17 := by kernel_rfl
  g18 := by kernel_rfl
  g19 := by kernel_rfl
  i0 := by kernel_rfl
  i2 := by kernel_rfl
  i3 := by kernel_rfl
  i4 := by kernel_rfl
  i5 := by kernel_rfl
  i9 := by kernel_rfl
  i20 := by kernel_rfl
  i37 := by kernel_rfl
  i46 := by kernel_rfl
  i51 := by kernel_rfl
  i53 := by kernel_rfl
  i171 := by kernel_rfl
  i173 := by kernel_rfl
  i212 := by kernel_rfl
  i232 := by kernel_rfl
  i233 := by kernel_rfl
  m17 := by kernel_rfl
  m18 := by kernel_rfl
  m19 := by kernel_rfl }
open Go.RowKit Go.Sort Go.Lib in
/-- strconv.FormatInt: "FormatInt returns the string representation of i in the given base": AT BASE 10: i's decimal numeral, for every int64. (LAID: no walk: one application.) -/
theorem Tryz.strconv_FormatInt_10 (n : Int) (h0 : -9223372036854775808 ≤ n) (h1 : n ≤ 9223372036854775807) (w : World) (htab : Lib.TabIs Tryz.prog w "internal/strconv.uint64pow10" .u64 Lib.pow10Tab) :
    Calls Tryz.prog 79 #[.int .i64 n, .int .i64 10] w fun e w' => e = .returned (.string ⟨(Lib.itoa n).toArray⟩) ∧ ∃ k os, w' = grow (w.drewN k) os := Any.strconv_FormatInt_10 Tryz.laysM173 n h0 h1 w htab
def Tryz.lays148_ren : Go.Shelf.Ren := ⟨fun | 148 => 113 | 222 => 135 | 223 => 136 | 269 => 157 | n => n, fun | 9 => 9 | 3 => 3 | 4 => 4 | 5 => 5 | 146 => 192 | 51 => 191 | 46 => 110 | n => n, fun | n => n⟩
theorem Tryz.lays148 : Go.Proofs.Lays.n148 Tryz.prog Tryz.lays148_ren := {
  mixed := by kernel_rfl
  f148 := Tryz.func113.trans (congrArg some (by kernel_rfl))
  f222 := Tryz.func135.trans (congrArg some (by kernel_rfl))
  f223 := Tryz.func136.trans (congrArg some (by kernel_rfl))
  f269 := Tryz.func157.trans (congrArg some (by kernel_rfl))
  t3 := Tryz.underlying3
  a3 := Tryz.isAgg3
  z3 := Tryz.sizeOf3
  v3 := Tryz.zeroValue3
  t4 := Tryz.underlying4
  a4 := Tryz.isAgg4
  z4 := Tryz.sizeOf4
  v4 := Tryz.zeroValue4
  t5 := Tryz.underlying5
  a5 := Tryz.isAgg5
  z5 := Tryz.sizeOf5
  v5 := Tryz.zeroValue5
  t9 := Tryz.underlying9
  a9 := Tryz.isAgg9
  z9 := Tryz.sizeOf9
  v9 := Tryz.zeroValue9
  t46 := Tryz.underlying110
  a46 := Tryz.isAgg110
  z46 := Tryz.sizeOf110
  v46 := Tryz.zeroValue110
  t51 := Tryz.underlying191
  a51 := Tryz.isAgg191
  z51 := Tryz.sizeOf191
  v51 := Tryz.zeroValue191
  t146 := Tryz.underlying192
  a146 := Tryz.isAgg192
  z146 := Tryz.sizeOf192
  v146 := Tryz.zeroValue192 }
open Go.RowKit Go.Lib in
/-- strings.LastIndex AT A substr OF ONE BYTE (as in 'strings.LastIndex(path, "/")'): the last place of that byte, or -1. (LAID: no walk: one application.) -/
theorem Tryz.strings_LastIndex_one (s sub : ByteArray) (h1 : sub.size = 1) (hs : s.size < 4611686018427387904) (w : World) :
    Calls Tryz.prog 113 #[.string s, .string sub] w fun e w' => e = .returned (.int .i64 (Lib.lastIndexByte s ((sub[0]'(by omega)).toNat : Int))) ∧ w' = w := Any.strings_LastIndex_one Tryz.lays148 s sub h1 hs w
end Go.Proofs

