/-
  NARROWER THAN 'FOR EVERY INPUT', by the rows' own cells (each row's printed sentence says how): FnReadRecord: laid · FnRecordIsRead: laid · FnReadTime: laid · FnTimesAreRead: laid · FnMap01: laid · FnPutRecord: laid · FnPutTime: laid · FnMap10: laid · FnMap10IsTold: laid · FnRecords: laid · FnRecordsAreRead: laid.
  DERIVED. THE GIVEN ROWS OF THIS SEAT. 11 by the template 'for every input the law returns true; each argument reads behind the call as it read before'; 0 by the template 'total and deterministic' (their statements: YtlchagphjmfooaaDoorTotals.lean).
  GIVEN WITH THE SEED: the statements are not yours to turn. If you find one false, say at which input.
  Laid BY PROGRAM, IN A SANDBOX (cutbox-rows.mjs): the forced cells as the released guide's own fill.sh prints them over the translation 1c0c6e875baf32cc… (all of the seat's roots in one cut). By AI agents, Wed Nov 11 2026. No macro, syntax, notation, axiom, sorry.
-/
import Derived.Test.YtlchagphjmfooaaDoorChecked
import GoSem.Claim
import GoSem.ClaimJoined
import GoSem.ClaimMapViews
import Derived.JoinedTies
import Derived.KernelRfl
namespace Go.Proofs.YtlchagphjmfooaaDoor
/- THE CELL 'sum', in the pinned program and in every row, IS THE sha256 OF THE DUMP (.gsa) THAT YtlchagphjmfooaaDoorProg.lean LOADS. Nothing in Lean hashes anything: it is a label: what it is worth is what the hold of that sum in a sandbox is worth. -/
noncomputable def Tryd.pinned : Pinned := { name := "ytlchagphjmfooaadoor", sum := "1c0c6e875baf32ccdac5e322826ad281863afe8e1747a38b17c8ee752d835afa", checked := Tryd.checked }
namespace Rows
def none {H : Type} : Left H := { results := [], args := [] }

/- WHAT THE LISTED PACKAGE-LEVEL VARIABLES READ AS WHEN THE CALL BEGINS. Each datum BY PROGRAM (the guide's laid-datum.mjs) off the statement by which the dump's own 'gosem.cut.vars' lays the variable. In a bare row this is a premise. The card (YtlchagphjmfooaaDoorCards.lean) ties it to the program's text. -/
def laid_math_bits_deBruijn32tab {H : Type} : DataW H := .agg [.lit (.int .u8 0), .lit (.int .u8 1), .lit (.int .u8 28), .lit (.int .u8 2), .lit (.int .u8 29), .lit (.int .u8 14), .lit (.int .u8 24), .lit (.int .u8 3), .lit (.int .u8 30), .lit (.int .u8 22), .lit (.int .u8 20), .lit (.int .u8 15), .lit (.int .u8 25), .lit (.int .u8 17), .lit (.int .u8 4), .lit (.int .u8 8), .lit (.int .u8 31), .lit (.int .u8 27), .lit (.int .u8 13), .lit (.int .u8 23), .lit (.int .u8 21), .lit (.int .u8 19), .lit (.int .u8 16), .lit (.int .u8 7), .lit (.int .u8 26), .lit (.int .u8 12), .lit (.int .u8 18), .lit (.int .u8 6), .lit (.int .u8 11), .lit (.int .u8 5), .lit (.int .u8 10), .lit (.int .u8 9)]
def laid_math_bits_deBruijn64tab {H : Type} : DataW H := .agg [.lit (.int .u8 0), .lit (.int .u8 1), .lit (.int .u8 56), .lit (.int .u8 2), .lit (.int .u8 57), .lit (.int .u8 49), .lit (.int .u8 28), .lit (.int .u8 3), .lit (.int .u8 61), .lit (.int .u8 58), .lit (.int .u8 42), .lit (.int .u8 50), .lit (.int .u8 38), .lit (.int .u8 29), .lit (.int .u8 17), .lit (.int .u8 4), .lit (.int .u8 62), .lit (.int .u8 47), .lit (.int .u8 59), .lit (.int .u8 36), .lit (.int .u8 45), .lit (.int .u8 43), .lit (.int .u8 51), .lit (.int .u8 22), .lit (.int .u8 53), .lit (.int .u8 39), .lit (.int .u8 33), .lit (.int .u8 30), .lit (.int .u8 24), .lit (.int .u8 18), .lit (.int .u8 12), .lit (.int .u8 5), .lit (.int .u8 63), .lit (.int .u8 55), .lit (.int .u8 48), .lit (.int .u8 27), .lit (.int .u8 60), .lit (.int .u8 41), .lit (.int .u8 37), .lit (.int .u8 16), .lit (.int .u8 46), .lit (.int .u8 35), .lit (.int .u8 44), .lit (.int .u8 21), .lit (.int .u8 52), .lit (.int .u8 32), .lit (.int .u8 23), .lit (.int .u8 11), .lit (.int .u8 54), .lit (.int .u8 26), .lit (.int .u8 40), .lit (.int .u8 15), .lit (.int .u8 34), .lit (.int .u8 20), .lit (.int .u8 31), .lit (.int .u8 10), .lit (.int .u8 25), .lit (.int .u8 14), .lit (.int .u8 19), .lit (.int .u8 9), .lit (.int .u8 13), .lit (.int .u8 8), .lit (.int .u8 7), .lit (.int .u8 6)]
def laid_internal_strconv_uint64pow10 {H : Type} : DataW H := .agg [.lit (.int .u64 1), .lit (.int .u64 10), .lit (.int .u64 100), .lit (.int .u64 1000), .lit (.int .u64 10000), .lit (.int .u64 100000), .lit (.int .u64 1000000), .lit (.int .u64 10000000), .lit (.int .u64 100000000), .lit (.int .u64 1000000000), .lit (.int .u64 10000000000), .lit (.int .u64 100000000000), .lit (.int .u64 1000000000000), .lit (.int .u64 10000000000000), .lit (.int .u64 100000000000000), .lit (.int .u64 1000000000000000), .lit (.int .u64 10000000000000000), .lit (.int .u64 100000000000000000), .lit (.int .u64 1000000000000000000), .lit (.int .u64 10000000000000000000)]
def laid_strconv_ErrRange {H : Type} : DataW H := .iface "*errors.errorString" (.ptr (.agg [.lit (.string [118, 97, 108, 117, 101, 32, 111, 117, 116, 32, 111, 102, 32, 114, 97, 110, 103, 101])]))
def laid_strconv_ErrSyntax {H : Type} : DataW H := .iface "*errors.errorString" (.ptr (.agg [.lit (.string [105, 110, 118, 97, 108, 105, 100, 32, 115, 121, 110, 116, 97, 120])]))
def laid_tapearchives_pub_gotar_ErrHeader {H : Type} : DataW H := .iface "*errors.errorString" (.ptr (.agg [.lit (.string [97, 114, 99, 104, 105, 118, 101, 47, 116, 97, 114, 58, 32, 105, 110, 118, 97, 108, 105, 100, 32, 116, 97, 114, 32, 104, 101, 97, 100, 101, 114])]))
def laid_tapearchives_pub_gotar_errSparseTooLong {H : Type} : DataW H := .iface "*errors.errorString" (.ptr (.agg [.lit (.string [97, 114, 99, 104, 105, 118, 101, 47, 116, 97, 114, 58, 32, 115, 112, 97, 114, 115, 101, 32, 109, 97, 112, 32, 116, 111, 111, 32, 108, 111, 110, 103])]))
def laid_io_EOF {H : Type} : DataW H := .iface "*errors.errorString" (.ptr (.agg [.lit (.string [69, 79, 70])]))
def laid_io_ErrUnexpectedEOF {H : Type} : DataW H := .iface "*errors.errorString" (.ptr (.agg [.lit (.string [117, 110, 101, 120, 112, 101, 99, 116, 101, 100, 32, 69, 79, 70])]))
def laid_bytes_ErrTooLarge {H : Type} : DataW H := .iface "*errors.errorString" (.ptr (.agg [.lit (.string [98, 121, 116, 101, 115, 46, 66, 117, 102, 102, 101, 114, 58, 32, 116, 111, 111, 32, 108, 97, 114, 103, 101])]))
def laid_tapearchives_pub_gotar_ErrFieldTooLong {H : Type} : DataW H := .iface "*errors.errorString" (.ptr (.agg [.lit (.string [97, 114, 99, 104, 105, 118, 101, 47, 116, 97, 114, 58, 32, 104, 101, 97, 100, 101, 114, 32, 102, 105, 101, 108, 100, 32, 116, 111, 111, 32, 108, 111, 110, 103])]))

/-- 'laws.FnReadRecord': WHATEVER THE INPUT: true; the input reads as it did. -/
def fnReadRecordSpec : ChangeSpec := { name := "fnReadRecord", fn := fun _ => fun
  | [d] => { results := [.lit (.bool true)], args := [d] }
  | _ => none }
def fnReadRecordRow : OpenClaim := { program := "ytlchagphjmfooaadoor", sum := "1c0c6e875baf32ccdac5e322826ad281863afe8e1747a38b17c8ee752d835afa", func := "tapearchives/laws.FnReadRecord", spec := "fnReadRecord", named := ["tapearchives/pub/gotar.ErrHeader", "strconv.ErrSyntax", "strconv.ErrRange", "internal/strconv.uint64pow10", "math/bits.deBruijn32tab", "math/bits.deBruijn64tab"], apart := false, laid := [("math/bits.deBruijn32tab", laid_math_bits_deBruijn32tab), ("math/bits.deBruijn64tab", laid_math_bits_deBruijn64tab), ("internal/strconv.uint64pow10", laid_internal_strconv_uint64pow10), ("strconv.ErrRange", laid_strconv_ErrRange), ("strconv.ErrSyntax", laid_strconv_ErrSyntax), ("tapearchives/pub/gotar.ErrHeader", laid_tapearchives_pub_gotar_ErrHeader)] }
def FnReadRecordSaid : Prop := fnReadRecordRow.holds Tryd.pinned (OpenSpec.ofChange fnReadRecordSpec)

/-- ITS FALSE NEIGHBOUR: 'it returns false'. Refute it at one input. -/
def fnReadRecordWrong : ChangeSpec := { name := "fnReadRecord", fn := fun _ => fun
  | [d] => { results := [.lit (.bool false)], args := [d] }
  | _ => none }
def FnReadRecordWrongFalsely : Prop := fnReadRecordRow.holds Tryd.pinned (OpenSpec.ofChange fnReadRecordWrong)

/-- 'laws.FnRecordIsRead': WHATEVER THE INPUT: true; the input reads as it did. -/
def fnRecordIsReadSpec : ChangeSpec := { name := "fnRecordIsRead", fn := fun _ => fun
  | [d1, d2, d3, d4] => { results := [.lit (.bool true)], args := [d1, d2, d3, d4] }
  | _ => none }
def fnRecordIsReadRow : OpenClaim := { program := "ytlchagphjmfooaadoor", sum := "1c0c6e875baf32ccdac5e322826ad281863afe8e1747a38b17c8ee752d835afa", func := "tapearchives/laws.FnRecordIsRead", spec := "fnRecordIsRead", named := ["tapearchives/pub/gotar.ErrHeader", "strconv.ErrSyntax", "strconv.ErrRange", "internal/strconv.uint64pow10", "math/bits.deBruijn32tab", "math/bits.deBruijn64tab"], apart := false, laid := [("math/bits.deBruijn32tab", laid_math_bits_deBruijn32tab), ("math/bits.deBruijn64tab", laid_math_bits_deBruijn64tab), ("internal/strconv.uint64pow10", laid_internal_strconv_uint64pow10), ("strconv.ErrRange", laid_strconv_ErrRange), ("strconv.ErrSyntax", laid_strconv_ErrSyntax), ("tapearchives/pub/gotar.ErrHeader", laid_tapearchives_pub_gotar_ErrHeader)] }
def FnRecordIsReadSaid : Prop := fnRecordIsReadRow.holds Tryd.pinned (OpenSpec.ofChange fnRecordIsReadSpec)

/-- ITS FALSE NEIGHBOUR: 'it returns false'. Refute it at one input. -/
def fnRecordIsReadWrong : ChangeSpec := { name := "fnRecordIsRead", fn := fun _ => fun
  | [d1, d2, d3, d4] => { results := [.lit (.bool false)], args := [d1, d2, d3, d4] }
  | _ => none }
def FnRecordIsReadWrongFalsely : Prop := fnRecordIsReadRow.holds Tryd.pinned (OpenSpec.ofChange fnRecordIsReadWrong)

/-- 'laws.FnReadTime': WHATEVER THE INPUT: true; the input reads as it did. -/
def fnReadTimeSpec : ChangeSpec := { name := "fnReadTime", fn := fun _ => fun
  | [d] => { results := [.lit (.bool true)], args := [d] }
  | _ => none }
def fnReadTimeRow : OpenClaim := { program := "ytlchagphjmfooaadoor", sum := "1c0c6e875baf32ccdac5e322826ad281863afe8e1747a38b17c8ee752d835afa", func := "tapearchives/laws.FnReadTime", spec := "fnReadTime", named := ["tapearchives/pub/gotar.ErrHeader", "strconv.ErrSyntax", "strconv.ErrRange", "internal/strconv.uint64pow10", "math/bits.deBruijn32tab", "math/bits.deBruijn64tab"], apart := false, laid := [("math/bits.deBruijn32tab", laid_math_bits_deBruijn32tab), ("math/bits.deBruijn64tab", laid_math_bits_deBruijn64tab), ("internal/strconv.uint64pow10", laid_internal_strconv_uint64pow10), ("strconv.ErrRange", laid_strconv_ErrRange), ("strconv.ErrSyntax", laid_strconv_ErrSyntax), ("tapearchives/pub/gotar.ErrHeader", laid_tapearchives_pub_gotar_ErrHeader)] }
def FnReadTimeSaid : Prop := fnReadTimeRow.holds Tryd.pinned (OpenSpec.ofChange fnReadTimeSpec)

/-- ITS FALSE NEIGHBOUR: 'it returns false'. Refute it at one input. -/
def fnReadTimeWrong : ChangeSpec := { name := "fnReadTime", fn := fun _ => fun
  | [d] => { results := [.lit (.bool false)], args := [d] }
  | _ => none }
def FnReadTimeWrongFalsely : Prop := fnReadTimeRow.holds Tryd.pinned (OpenSpec.ofChange fnReadTimeWrong)

/-- 'laws.FnTimesAreRead': WHATEVER THE INPUT: true; the input reads as it did. -/
def fnTimesAreReadSpec : ChangeSpec := { name := "fnTimesAreRead", fn := fun _ => fun
  | [d1, d2, d3] => { results := [.lit (.bool true)], args := [d1, d2, d3] }
  | _ => none }
def fnTimesAreReadRow : OpenClaim := { program := "ytlchagphjmfooaadoor", sum := "1c0c6e875baf32ccdac5e322826ad281863afe8e1747a38b17c8ee752d835afa", func := "tapearchives/laws.FnTimesAreRead", spec := "fnTimesAreRead", named := ["tapearchives/pub/gotar.ErrHeader", "strconv.ErrSyntax", "strconv.ErrRange", "internal/strconv.uint64pow10", "math/bits.deBruijn32tab", "math/bits.deBruijn64tab"], apart := false, laid := [("math/bits.deBruijn32tab", laid_math_bits_deBruijn32tab), ("math/bits.deBruijn64tab", laid_math_bits_deBruijn64tab), ("internal/strconv.uint64pow10", laid_internal_strconv_uint64pow10), ("strconv.ErrRange", laid_strconv_ErrRange), ("strconv.ErrSyntax", laid_strconv_ErrSyntax), ("tapearchives/pub/gotar.ErrHeader", laid_tapearchives_pub_gotar_ErrHeader)] }
def FnTimesAreReadSaid : Prop := fnTimesAreReadRow.holds Tryd.pinned (OpenSpec.ofChange fnTimesAreReadSpec)

/-- ITS FALSE NEIGHBOUR: 'it returns false'. Refute it at one input. -/
def fnTimesAreReadWrong : ChangeSpec := { name := "fnTimesAreRead", fn := fun _ => fun
  | [d1, d2, d3] => { results := [.lit (.bool false)], args := [d1, d2, d3] }
  | _ => none }
def FnTimesAreReadWrongFalsely : Prop := fnTimesAreReadRow.holds Tryd.pinned (OpenSpec.ofChange fnTimesAreReadWrong)

/-- 'laws.FnMap01': WHATEVER THE INPUT: true; the input reads as it did. -/
def fnMap01Spec : ChangeSpec := { name := "fnMap01", fn := fun _ => fun
  | [d1, d2] => { results := [.lit (.bool true)], args := [d1, d2] }
  | _ => none }
def fnMap01Row : OpenClaim := { program := "ytlchagphjmfooaadoor", sum := "1c0c6e875baf32ccdac5e322826ad281863afe8e1747a38b17c8ee752d835afa", func := "tapearchives/laws.FnMap01", spec := "fnMap01", named := ["tapearchives/pub/gotar.ErrHeader", "strconv.ErrSyntax", "strconv.ErrRange", "internal/strconv.uint64pow10", "math/bits.deBruijn32tab", "math/bits.deBruijn64tab", "tapearchives/pub/gotar.errSparseTooLong"], apart := false, laid := [("math/bits.deBruijn32tab", laid_math_bits_deBruijn32tab), ("math/bits.deBruijn64tab", laid_math_bits_deBruijn64tab), ("internal/strconv.uint64pow10", laid_internal_strconv_uint64pow10), ("strconv.ErrRange", laid_strconv_ErrRange), ("strconv.ErrSyntax", laid_strconv_ErrSyntax), ("tapearchives/pub/gotar.ErrHeader", laid_tapearchives_pub_gotar_ErrHeader), ("tapearchives/pub/gotar.errSparseTooLong", laid_tapearchives_pub_gotar_errSparseTooLong)] }
def FnMap01Said : Prop := fnMap01Row.holds Tryd.pinned (OpenSpec.ofChange fnMap01Spec)

/-- ITS FALSE NEIGHBOUR: 'it returns false'. Refute it at one input. -/
def fnMap01Wrong : ChangeSpec := { name := "fnMap01", fn := fun _ => fun
  | [d1, d2] => { results := [.lit (.bool false)], args := [d1, d2] }
  | _ => none }
def FnMap01WrongFalsely : Prop := fnMap01Row.holds Tryd.pinned (OpenSpec.ofChange fnMap01Wrong)

/-- 'laws.FnPutRecord': WHATEVER THE INPUT: true; the input reads as it did. -/
def fnPutRecordSpec : ChangeSpec := { name := "fnPutRecord", fn := fun _ => fun
  | [d1, d2, d3] => { results := [.lit (.bool true)], args := [d1, d2, d3] }
  | _ => none }
def fnPutRecordRow : OpenClaim := { program := "ytlchagphjmfooaadoor", sum := "1c0c6e875baf32ccdac5e322826ad281863afe8e1747a38b17c8ee752d835afa", func := "tapearchives/laws.FnPutRecord", spec := "fnPutRecord", named := ["tapearchives/pub/gotar.ErrHeader", "internal/strconv.uint64pow10", "math/bits.deBruijn32tab", "math/bits.deBruijn64tab", "strconv.ErrSyntax", "strconv.ErrRange"], apart := false, laid := [("math/bits.deBruijn32tab", laid_math_bits_deBruijn32tab), ("math/bits.deBruijn64tab", laid_math_bits_deBruijn64tab), ("internal/strconv.uint64pow10", laid_internal_strconv_uint64pow10), ("strconv.ErrRange", laid_strconv_ErrRange), ("strconv.ErrSyntax", laid_strconv_ErrSyntax), ("tapearchives/pub/gotar.ErrHeader", laid_tapearchives_pub_gotar_ErrHeader)] }
def FnPutRecordSaid : Prop := fnPutRecordRow.holds Tryd.pinned (OpenSpec.ofChange fnPutRecordSpec)

/-- ITS FALSE NEIGHBOUR: 'it returns false'. Refute it at one input. -/
def fnPutRecordWrong : ChangeSpec := { name := "fnPutRecord", fn := fun _ => fun
  | [d1, d2, d3] => { results := [.lit (.bool false)], args := [d1, d2, d3] }
  | _ => none }
def FnPutRecordWrongFalsely : Prop := fnPutRecordRow.holds Tryd.pinned (OpenSpec.ofChange fnPutRecordWrong)

/-- 'laws.FnPutTime': WHATEVER THE INPUT: true; the input reads as it did. -/
def fnPutTimeSpec : ChangeSpec := { name := "fnPutTime", fn := fun _ => fun
  | [d1, d2] => { results := [.lit (.bool true)], args := [d1, d2] }
  | _ => none }
def fnPutTimeRow : OpenClaim := { program := "ytlchagphjmfooaadoor", sum := "1c0c6e875baf32ccdac5e322826ad281863afe8e1747a38b17c8ee752d835afa", func := "tapearchives/laws.FnPutTime", spec := "fnPutTime", named := ["internal/strconv.uint64pow10", "math/bits.deBruijn32tab", "math/bits.deBruijn64tab", "tapearchives/pub/gotar.ErrHeader", "strconv.ErrSyntax", "strconv.ErrRange"], apart := false, laid := [("math/bits.deBruijn32tab", laid_math_bits_deBruijn32tab), ("math/bits.deBruijn64tab", laid_math_bits_deBruijn64tab), ("internal/strconv.uint64pow10", laid_internal_strconv_uint64pow10), ("strconv.ErrRange", laid_strconv_ErrRange), ("strconv.ErrSyntax", laid_strconv_ErrSyntax), ("tapearchives/pub/gotar.ErrHeader", laid_tapearchives_pub_gotar_ErrHeader)] }
def FnPutTimeSaid : Prop := fnPutTimeRow.holds Tryd.pinned (OpenSpec.ofChange fnPutTimeSpec)

/-- ITS FALSE NEIGHBOUR: 'it returns false'. Refute it at one input. -/
def fnPutTimeWrong : ChangeSpec := { name := "fnPutTime", fn := fun _ => fun
  | [d1, d2] => { results := [.lit (.bool false)], args := [d1, d2] }
  | _ => none }
def FnPutTimeWrongFalsely : Prop := fnPutTimeRow.holds Tryd.pinned (OpenSpec.ofChange fnPutTimeWrong)

/-- 'laws.FnMap10': WHATEVER THE INPUT: true; the input reads as it did. -/
def fnMap10Spec : ChangeSpec := { name := "fnMap10", fn := fun _ => fun
  | [d1, d2] => { results := [.lit (.bool true)], args := [d1, d2] }
  | _ => none }
def fnMap10Row : OpenClaim := { program := "ytlchagphjmfooaadoor", sum := "1c0c6e875baf32ccdac5e322826ad281863afe8e1747a38b17c8ee752d835afa", func := "tapearchives/laws.FnMap10", spec := "fnMap10", inPlace := ["internal/bytealg.IndexByte"], unfollowed := true, recurses := true, named := ["tapearchives/pub/gotar.ErrHeader", "tapearchives/pub/gotar.errSparseTooLong", "io.EOF", "io.ErrUnexpectedEOF", "bytes.ErrTooLarge", "strconv.ErrSyntax", "strconv.ErrRange", "internal/strconv.uint64pow10", "math/bits.deBruijn32tab", "math/bits.deBruijn64tab"], apart := false, laid := [("math/bits.deBruijn32tab", laid_math_bits_deBruijn32tab), ("math/bits.deBruijn64tab", laid_math_bits_deBruijn64tab), ("internal/strconv.uint64pow10", laid_internal_strconv_uint64pow10), ("strconv.ErrRange", laid_strconv_ErrRange), ("strconv.ErrSyntax", laid_strconv_ErrSyntax), ("io.EOF", laid_io_EOF), ("io.ErrUnexpectedEOF", laid_io_ErrUnexpectedEOF), ("bytes.ErrTooLarge", laid_bytes_ErrTooLarge), ("tapearchives/pub/gotar.ErrHeader", laid_tapearchives_pub_gotar_ErrHeader), ("tapearchives/pub/gotar.errSparseTooLong", laid_tapearchives_pub_gotar_errSparseTooLong)] }
def FnMap10Said : Prop := fnMap10Row.holds Tryd.pinned (OpenSpec.ofChange fnMap10Spec)

/-- ITS FALSE NEIGHBOUR: 'it returns false'. Refute it at one input. -/
def fnMap10Wrong : ChangeSpec := { name := "fnMap10", fn := fun _ => fun
  | [d1, d2] => { results := [.lit (.bool false)], args := [d1, d2] }
  | _ => none }
def FnMap10WrongFalsely : Prop := fnMap10Row.holds Tryd.pinned (OpenSpec.ofChange fnMap10Wrong)

/-- 'laws.FnMap10IsTold': WHATEVER THE INPUT: true; the input reads as it did. -/
def fnMap10IsToldSpec : ChangeSpec := { name := "fnMap10IsTold", fn := fun _ => fun
  | [d1, d2, d3] => { results := [.lit (.bool true)], args := [d1, d2, d3] }
  | _ => none }
def fnMap10IsToldRow : OpenClaim := { program := "ytlchagphjmfooaadoor", sum := "1c0c6e875baf32ccdac5e322826ad281863afe8e1747a38b17c8ee752d835afa", func := "tapearchives/laws.FnMap10IsTold", spec := "fnMap10IsTold", inPlace := ["internal/bytealg.IndexByte"], unfollowed := true, recurses := true, named := ["tapearchives/pub/gotar.ErrHeader", "tapearchives/pub/gotar.errSparseTooLong", "io.EOF", "io.ErrUnexpectedEOF", "bytes.ErrTooLarge", "strconv.ErrSyntax", "strconv.ErrRange", "internal/strconv.uint64pow10", "math/bits.deBruijn32tab", "math/bits.deBruijn64tab"], apart := false, laid := [("math/bits.deBruijn32tab", laid_math_bits_deBruijn32tab), ("math/bits.deBruijn64tab", laid_math_bits_deBruijn64tab), ("internal/strconv.uint64pow10", laid_internal_strconv_uint64pow10), ("strconv.ErrRange", laid_strconv_ErrRange), ("strconv.ErrSyntax", laid_strconv_ErrSyntax), ("io.EOF", laid_io_EOF), ("io.ErrUnexpectedEOF", laid_io_ErrUnexpectedEOF), ("bytes.ErrTooLarge", laid_bytes_ErrTooLarge), ("tapearchives/pub/gotar.ErrHeader", laid_tapearchives_pub_gotar_ErrHeader), ("tapearchives/pub/gotar.errSparseTooLong", laid_tapearchives_pub_gotar_errSparseTooLong)] }
def FnMap10IsToldSaid : Prop := fnMap10IsToldRow.holds Tryd.pinned (OpenSpec.ofChange fnMap10IsToldSpec)

/-- ITS FALSE NEIGHBOUR: 'it returns false'. Refute it at one input. -/
def fnMap10IsToldWrong : ChangeSpec := { name := "fnMap10IsTold", fn := fun _ => fun
  | [d1, d2, d3] => { results := [.lit (.bool false)], args := [d1, d2, d3] }
  | _ => none }
def FnMap10IsToldWrongFalsely : Prop := fnMap10IsToldRow.holds Tryd.pinned (OpenSpec.ofChange fnMap10IsToldWrong)

/-- 'laws.FnRecords': WHATEVER THE INPUT: true; the input reads as it did. -/
def fnRecordsSpec : ChangeSpec := { name := "fnRecords", fn := fun _ => fun
  | [d] => { results := [.lit (.bool true)], args := [d] }
  | _ => none }
def fnRecordsRow : OpenClaim := { program := "ytlchagphjmfooaadoor", sum := "1c0c6e875baf32ccdac5e322826ad281863afe8e1747a38b17c8ee752d835afa", func := "tapearchives/laws.FnRecords", spec := "fnRecords", inPlace := ["internal/abi.NoEscape", "internal/bytealg.MakeNoZero"], unfollowed := true, recurses := true, named := ["tapearchives/pub/gotar.ErrHeader", "tapearchives/pub/gotar.ErrFieldTooLong", "io.EOF", "strconv.ErrSyntax", "strconv.ErrRange", "internal/strconv.uint64pow10", "math/bits.deBruijn32tab", "math/bits.deBruijn64tab"], apart := false, laid := [("math/bits.deBruijn32tab", laid_math_bits_deBruijn32tab), ("math/bits.deBruijn64tab", laid_math_bits_deBruijn64tab), ("internal/strconv.uint64pow10", laid_internal_strconv_uint64pow10), ("strconv.ErrRange", laid_strconv_ErrRange), ("strconv.ErrSyntax", laid_strconv_ErrSyntax), ("io.EOF", laid_io_EOF), ("tapearchives/pub/gotar.ErrHeader", laid_tapearchives_pub_gotar_ErrHeader), ("tapearchives/pub/gotar.ErrFieldTooLong", laid_tapearchives_pub_gotar_ErrFieldTooLong)] }
def FnRecordsSaid : Prop := fnRecordsRow.holds Tryd.pinned (OpenSpec.ofChange fnRecordsSpec)

/-- ITS FALSE NEIGHBOUR: 'it returns false'. Refute it at one input. -/
def fnRecordsWrong : ChangeSpec := { name := "fnRecords", fn := fun _ => fun
  | [d] => { results := [.lit (.bool false)], args := [d] }
  | _ => none }
def FnRecordsWrongFalsely : Prop := fnRecordsRow.holds Tryd.pinned (OpenSpec.ofChange fnRecordsWrong)

/-- 'laws.FnRecordsAreRead': WHATEVER THE INPUT: true; the input reads as it did. -/
def fnRecordsAreReadSpec : ChangeSpec := { name := "fnRecordsAreRead", fn := fun _ => fun
  | [d1, d2] => { results := [.lit (.bool true)], args := [d1, d2] }
  | _ => none }
def fnRecordsAreReadRow : OpenClaim := { program := "ytlchagphjmfooaadoor", sum := "1c0c6e875baf32ccdac5e322826ad281863afe8e1747a38b17c8ee752d835afa", func := "tapearchives/laws.FnRecordsAreRead", spec := "fnRecordsAreRead", inPlace := ["internal/abi.NoEscape", "internal/bytealg.MakeNoZero"], unfollowed := true, recurses := true, named := ["tapearchives/pub/gotar.ErrHeader", "tapearchives/pub/gotar.ErrFieldTooLong", "io.EOF", "strconv.ErrSyntax", "strconv.ErrRange", "internal/strconv.uint64pow10", "math/bits.deBruijn32tab", "math/bits.deBruijn64tab"], apart := false, laid := [("math/bits.deBruijn32tab", laid_math_bits_deBruijn32tab), ("math/bits.deBruijn64tab", laid_math_bits_deBruijn64tab), ("internal/strconv.uint64pow10", laid_internal_strconv_uint64pow10), ("strconv.ErrRange", laid_strconv_ErrRange), ("strconv.ErrSyntax", laid_strconv_ErrSyntax), ("io.EOF", laid_io_EOF), ("tapearchives/pub/gotar.ErrHeader", laid_tapearchives_pub_gotar_ErrHeader), ("tapearchives/pub/gotar.ErrFieldTooLong", laid_tapearchives_pub_gotar_ErrFieldTooLong)] }
def FnRecordsAreReadSaid : Prop := fnRecordsAreReadRow.holds Tryd.pinned (OpenSpec.ofChange fnRecordsAreReadSpec)

/-- ITS FALSE NEIGHBOUR: 'it returns false'. Refute it at one input. -/
def fnRecordsAreReadWrong : ChangeSpec := { name := "fnRecordsAreRead", fn := fun _ => fun
  | [d1, d2] => { results := [.lit (.bool false)], args := [d1, d2] }
  | _ => none }
def FnRecordsAreReadWrongFalsely : Prop := fnRecordsAreReadRow.holds Tryd.pinned (OpenSpec.ofChange fnRecordsAreReadWrong)

/- THE SECOND FORM. 'bulk': how many values and letters a reading holds, each counted each time it is reached (what is shared counts as often as it is met; a slice's spare places count too). A statement '..UptoSaid' is the law's where the arguments, and the package variables that the reading takes, are together of bulk at most 1048576: NARROWER than '..Said'. Prove '..Said' where nothing that the law and all that it calls make is longer than what came in: it says more and counts as full. Else prove '..UptoSaid'. A law counts once. -/
mutual
def uptoBulk {H : Type} : DataW H → Nat
  | .lit (.string bytes) => bytes.length + 1
  | .lit _ => 1
  | .nil => 1
  | .ptr d => uptoBulk d + 1
  | .slice elems spare => uptoBulkAll elems + uptoBulkAll spare + 1
  | .agg parts => uptoBulkAll parts + 1
  | .iface _ d => uptoBulk d + 1
  | .map entries => uptoBulkEntries entries + 1
  | .held _ => 1
def uptoBulkAll {H : Type} : List (DataW H) → Nat
  | [] => 0
  | d :: r => uptoBulk d + uptoBulkAll r
def uptoBulkEntries {H : Type} : List (Lit × DataW H) → Nat
  | [] => 0
  | x :: r => uptoBulkEntry x + uptoBulkEntries r
def uptoBulkEntry {H : Type} : Lit × DataW H → Nat
  | (.string bytes, d) => bytes.length + uptoBulk d + 1
  | (_, d) => uptoBulk d + 1
 end
def uptoSmall : (H : Type) → List (DataW H) → Bool := fun _ ds => decide (uptoBulkAll ds ≤ 1048576)
def OpenSpec.upto (s : _root_.Go.ChangeSpec) : _root_.Go.OpenSpec := { _root_.Go.OpenSpec.ofChange s with cond := some uptoSmall }

/-- 'laws.FnReadRecord', WHERE WHAT IT READS IS OF BULK AT MOST 1048576: true; the input reads as it did. -/
def fnReadRecordUptoRow : OpenClaim := { program := "ytlchagphjmfooaadoor", sum := "1c0c6e875baf32ccdac5e322826ad281863afe8e1747a38b17c8ee752d835afa", func := "tapearchives/laws.FnReadRecord", spec := "fnReadRecord", named := ["tapearchives/pub/gotar.ErrHeader", "strconv.ErrSyntax", "strconv.ErrRange", "internal/strconv.uint64pow10", "math/bits.deBruijn32tab", "math/bits.deBruijn64tab"], apart := false, laid := [("math/bits.deBruijn32tab", laid_math_bits_deBruijn32tab), ("math/bits.deBruijn64tab", laid_math_bits_deBruijn64tab), ("internal/strconv.uint64pow10", laid_internal_strconv_uint64pow10), ("strconv.ErrRange", laid_strconv_ErrRange), ("strconv.ErrSyntax", laid_strconv_ErrSyntax), ("tapearchives/pub/gotar.ErrHeader", laid_tapearchives_pub_gotar_ErrHeader)], narrowed := true }
def FnReadRecordUptoSaid : Prop := fnReadRecordUptoRow.holds Tryd.pinned (OpenSpec.upto fnReadRecordSpec)

/-- 'laws.FnRecordIsRead', WHERE WHAT IT READS IS OF BULK AT MOST 1048576: true; the input reads as it did. -/
def fnRecordIsReadUptoRow : OpenClaim := { program := "ytlchagphjmfooaadoor", sum := "1c0c6e875baf32ccdac5e322826ad281863afe8e1747a38b17c8ee752d835afa", func := "tapearchives/laws.FnRecordIsRead", spec := "fnRecordIsRead", named := ["tapearchives/pub/gotar.ErrHeader", "strconv.ErrSyntax", "strconv.ErrRange", "internal/strconv.uint64pow10", "math/bits.deBruijn32tab", "math/bits.deBruijn64tab"], apart := false, laid := [("math/bits.deBruijn32tab", laid_math_bits_deBruijn32tab), ("math/bits.deBruijn64tab", laid_math_bits_deBruijn64tab), ("internal/strconv.uint64pow10", laid_internal_strconv_uint64pow10), ("strconv.ErrRange", laid_strconv_ErrRange), ("strconv.ErrSyntax", laid_strconv_ErrSyntax), ("tapearchives/pub/gotar.ErrHeader", laid_tapearchives_pub_gotar_ErrHeader)], narrowed := true }
def FnRecordIsReadUptoSaid : Prop := fnRecordIsReadUptoRow.holds Tryd.pinned (OpenSpec.upto fnRecordIsReadSpec)

/-- 'laws.FnReadTime', WHERE WHAT IT READS IS OF BULK AT MOST 1048576: true; the input reads as it did. -/
def fnReadTimeUptoRow : OpenClaim := { program := "ytlchagphjmfooaadoor", sum := "1c0c6e875baf32ccdac5e322826ad281863afe8e1747a38b17c8ee752d835afa", func := "tapearchives/laws.FnReadTime", spec := "fnReadTime", named := ["tapearchives/pub/gotar.ErrHeader", "strconv.ErrSyntax", "strconv.ErrRange", "internal/strconv.uint64pow10", "math/bits.deBruijn32tab", "math/bits.deBruijn64tab"], apart := false, laid := [("math/bits.deBruijn32tab", laid_math_bits_deBruijn32tab), ("math/bits.deBruijn64tab", laid_math_bits_deBruijn64tab), ("internal/strconv.uint64pow10", laid_internal_strconv_uint64pow10), ("strconv.ErrRange", laid_strconv_ErrRange), ("strconv.ErrSyntax", laid_strconv_ErrSyntax), ("tapearchives/pub/gotar.ErrHeader", laid_tapearchives_pub_gotar_ErrHeader)], narrowed := true }
def FnReadTimeUptoSaid : Prop := fnReadTimeUptoRow.holds Tryd.pinned (OpenSpec.upto fnReadTimeSpec)

/-- 'laws.FnTimesAreRead', WHERE WHAT IT READS IS OF BULK AT MOST 1048576: true; the input reads as it did. -/
def fnTimesAreReadUptoRow : OpenClaim := { program := "ytlchagphjmfooaadoor", sum := "1c0c6e875baf32ccdac5e322826ad281863afe8e1747a38b17c8ee752d835afa", func := "tapearchives/laws.FnTimesAreRead", spec := "fnTimesAreRead", named := ["tapearchives/pub/gotar.ErrHeader", "strconv.ErrSyntax", "strconv.ErrRange", "internal/strconv.uint64pow10", "math/bits.deBruijn32tab", "math/bits.deBruijn64tab"], apart := false, laid := [("math/bits.deBruijn32tab", laid_math_bits_deBruijn32tab), ("math/bits.deBruijn64tab", laid_math_bits_deBruijn64tab), ("internal/strconv.uint64pow10", laid_internal_strconv_uint64pow10), ("strconv.ErrRange", laid_strconv_ErrRange), ("strconv.ErrSyntax", laid_strconv_ErrSyntax), ("tapearchives/pub/gotar.ErrHeader", laid_tapearchives_pub_gotar_ErrHeader)], narrowed := true }
def FnTimesAreReadUptoSaid : Prop := fnTimesAreReadUptoRow.holds Tryd.pinned (OpenSpec.upto fnTimesAreReadSpec)

/-- 'laws.FnMap01', WHERE WHAT IT READS IS OF BULK AT MOST 1048576: true; the input reads as it did. -/
def fnMap01UptoRow : OpenClaim := { program := "ytlchagphjmfooaadoor", sum := "1c0c6e875baf32ccdac5e322826ad281863afe8e1747a38b17c8ee752d835afa", func := "tapearchives/laws.FnMap01", spec := "fnMap01", named := ["tapearchives/pub/gotar.ErrHeader", "strconv.ErrSyntax", "strconv.ErrRange", "internal/strconv.uint64pow10", "math/bits.deBruijn32tab", "math/bits.deBruijn64tab", "tapearchives/pub/gotar.errSparseTooLong"], apart := false, laid := [("math/bits.deBruijn32tab", laid_math_bits_deBruijn32tab), ("math/bits.deBruijn64tab", laid_math_bits_deBruijn64tab), ("internal/strconv.uint64pow10", laid_internal_strconv_uint64pow10), ("strconv.ErrRange", laid_strconv_ErrRange), ("strconv.ErrSyntax", laid_strconv_ErrSyntax), ("tapearchives/pub/gotar.ErrHeader", laid_tapearchives_pub_gotar_ErrHeader), ("tapearchives/pub/gotar.errSparseTooLong", laid_tapearchives_pub_gotar_errSparseTooLong)], narrowed := true }
def FnMap01UptoSaid : Prop := fnMap01UptoRow.holds Tryd.pinned (OpenSpec.upto fnMap01Spec)

/-- 'laws.FnPutRecord', WHERE WHAT IT READS IS OF BULK AT MOST 1048576: true; the input reads as it did. -/
def fnPutRecordUptoRow : OpenClaim := { program := "ytlchagphjmfooaadoor", sum := "1c0c6e875baf32ccdac5e322826ad281863afe8e1747a38b17c8ee752d835afa", func := "tapearchives/laws.FnPutRecord", spec := "fnPutRecord", named := ["tapearchives/pub/gotar.ErrHeader", "internal/strconv.uint64pow10", "math/bits.deBruijn32tab", "math/bits.deBruijn64tab", "strconv.ErrSyntax", "strconv.ErrRange"], apart := false, laid := [("math/bits.deBruijn32tab", laid_math_bits_deBruijn32tab), ("math/bits.deBruijn64tab", laid_math_bits_deBruijn64tab), ("internal/strconv.uint64pow10", laid_internal_strconv_uint64pow10), ("strconv.ErrRange", laid_strconv_ErrRange), ("strconv.ErrSyntax", laid_strconv_ErrSyntax), ("tapearchives/pub/gotar.ErrHeader", laid_tapearchives_pub_gotar_ErrHeader)], narrowed := true }
def FnPutRecordUptoSaid : Prop := fnPutRecordUptoRow.holds Tryd.pinned (OpenSpec.upto fnPutRecordSpec)

/-- 'laws.FnPutTime', WHERE WHAT IT READS IS OF BULK AT MOST 1048576: true; the input reads as it did. -/
def fnPutTimeUptoRow : OpenClaim := { program := "ytlchagphjmfooaadoor", sum := "1c0c6e875baf32ccdac5e322826ad281863afe8e1747a38b17c8ee752d835afa", func := "tapearchives/laws.FnPutTime", spec := "fnPutTime", named := ["internal/strconv.uint64pow10", "math/bits.deBruijn32tab", "math/bits.deBruijn64tab", "tapearchives/pub/gotar.ErrHeader", "strconv.ErrSyntax", "strconv.ErrRange"], apart := false, laid := [("math/bits.deBruijn32tab", laid_math_bits_deBruijn32tab), ("math/bits.deBruijn64tab", laid_math_bits_deBruijn64tab), ("internal/strconv.uint64pow10", laid_internal_strconv_uint64pow10), ("strconv.ErrRange", laid_strconv_ErrRange), ("strconv.ErrSyntax", laid_strconv_ErrSyntax), ("tapearchives/pub/gotar.ErrHeader", laid_tapearchives_pub_gotar_ErrHeader)], narrowed := true }
def FnPutTimeUptoSaid : Prop := fnPutTimeUptoRow.holds Tryd.pinned (OpenSpec.upto fnPutTimeSpec)

/-- 'laws.FnMap10', WHERE WHAT IT READS IS OF BULK AT MOST 1048576: true; the input reads as it did. -/
def fnMap10UptoRow : OpenClaim := { program := "ytlchagphjmfooaadoor", sum := "1c0c6e875baf32ccdac5e322826ad281863afe8e1747a38b17c8ee752d835afa", func := "tapearchives/laws.FnMap10", spec := "fnMap10", inPlace := ["internal/bytealg.IndexByte"], unfollowed := true, recurses := true, named := ["tapearchives/pub/gotar.ErrHeader", "tapearchives/pub/gotar.errSparseTooLong", "io.EOF", "io.ErrUnexpectedEOF", "bytes.ErrTooLarge", "strconv.ErrSyntax", "strconv.ErrRange", "internal/strconv.uint64pow10", "math/bits.deBruijn32tab", "math/bits.deBruijn64tab"], apart := false, laid := [("math/bits.deBruijn32tab", laid_math_bits_deBruijn32tab), ("math/bits.deBruijn64tab", laid_math_bits_deBruijn64tab), ("internal/strconv.uint64pow10", laid_internal_strconv_uint64pow10), ("strconv.ErrRange", laid_strconv_ErrRange), ("strconv.ErrSyntax", laid_strconv_ErrSyntax), ("io.EOF", laid_io_EOF), ("io.ErrUnexpectedEOF", laid_io_ErrUnexpectedEOF), ("bytes.ErrTooLarge", laid_bytes_ErrTooLarge), ("tapearchives/pub/gotar.ErrHeader", laid_tapearchives_pub_gotar_ErrHeader), ("tapearchives/pub/gotar.errSparseTooLong", laid_tapearchives_pub_gotar_errSparseTooLong)], narrowed := true }
def FnMap10UptoSaid : Prop := fnMap10UptoRow.holds Tryd.pinned (OpenSpec.upto fnMap10Spec)

/-- 'laws.FnMap10IsTold', WHERE WHAT IT READS IS OF BULK AT MOST 1048576: true; the input reads as it did. -/
def fnMap10IsToldUptoRow : OpenClaim := { program := "ytlchagphjmfooaadoor", sum := "1c0c6e875baf32ccdac5e322826ad281863afe8e1747a38b17c8ee752d835afa", func := "tapearchives/laws.FnMap10IsTold", spec := "fnMap10IsTold", inPlace := ["internal/bytealg.IndexByte"], unfollowed := true, recurses := true, named := ["tapearchives/pub/gotar.ErrHeader", "tapearchives/pub/gotar.errSparseTooLong", "io.EOF", "io.ErrUnexpectedEOF", "bytes.ErrTooLarge", "strconv.ErrSyntax", "strconv.ErrRange", "internal/strconv.uint64pow10", "math/bits.deBruijn32tab", "math/bits.deBruijn64tab"], apart := false, laid := [("math/bits.deBruijn32tab", laid_math_bits_deBruijn32tab), ("math/bits.deBruijn64tab", laid_math_bits_deBruijn64tab), ("internal/strconv.uint64pow10", laid_internal_strconv_uint64pow10), ("strconv.ErrRange", laid_strconv_ErrRange), ("strconv.ErrSyntax", laid_strconv_ErrSyntax), ("io.EOF", laid_io_EOF), ("io.ErrUnexpectedEOF", laid_io_ErrUnexpectedEOF), ("bytes.ErrTooLarge", laid_bytes_ErrTooLarge), ("tapearchives/pub/gotar.ErrHeader", laid_tapearchives_pub_gotar_ErrHeader), ("tapearchives/pub/gotar.errSparseTooLong", laid_tapearchives_pub_gotar_errSparseTooLong)], narrowed := true }
def FnMap10IsToldUptoSaid : Prop := fnMap10IsToldUptoRow.holds Tryd.pinned (OpenSpec.upto fnMap10IsToldSpec)

/-- 'laws.FnRecords', WHERE WHAT IT READS IS OF BULK AT MOST 1048576: true; the input reads as it did. -/
def fnRecordsUptoRow : OpenClaim := { program := "ytlchagphjmfooaadoor", sum := "1c0c6e875baf32ccdac5e322826ad281863afe8e1747a38b17c8ee752d835afa", func := "tapearchives/laws.FnRecords", spec := "fnRecords", inPlace := ["internal/abi.NoEscape", "internal/bytealg.MakeNoZero"], unfollowed := true, recurses := true, named := ["tapearchives/pub/gotar.ErrHeader", "tapearchives/pub/gotar.ErrFieldTooLong", "io.EOF", "strconv.ErrSyntax", "strconv.ErrRange", "internal/strconv.uint64pow10", "math/bits.deBruijn32tab", "math/bits.deBruijn64tab"], apart := false, laid := [("math/bits.deBruijn32tab", laid_math_bits_deBruijn32tab), ("math/bits.deBruijn64tab", laid_math_bits_deBruijn64tab), ("internal/strconv.uint64pow10", laid_internal_strconv_uint64pow10), ("strconv.ErrRange", laid_strconv_ErrRange), ("strconv.ErrSyntax", laid_strconv_ErrSyntax), ("io.EOF", laid_io_EOF), ("tapearchives/pub/gotar.ErrHeader", laid_tapearchives_pub_gotar_ErrHeader), ("tapearchives/pub/gotar.ErrFieldTooLong", laid_tapearchives_pub_gotar_ErrFieldTooLong)], narrowed := true }
def FnRecordsUptoSaid : Prop := fnRecordsUptoRow.holds Tryd.pinned (OpenSpec.upto fnRecordsSpec)

/-- 'laws.FnRecordsAreRead', WHERE WHAT IT READS IS OF BULK AT MOST 1048576: true; the input reads as it did. -/
def fnRecordsAreReadUptoRow : OpenClaim := { program := "ytlchagphjmfooaadoor", sum := "1c0c6e875baf32ccdac5e322826ad281863afe8e1747a38b17c8ee752d835afa", func := "tapearchives/laws.FnRecordsAreRead", spec := "fnRecordsAreRead", inPlace := ["internal/abi.NoEscape", "internal/bytealg.MakeNoZero"], unfollowed := true, recurses := true, named := ["tapearchives/pub/gotar.ErrHeader", "tapearchives/pub/gotar.ErrFieldTooLong", "io.EOF", "strconv.ErrSyntax", "strconv.ErrRange", "internal/strconv.uint64pow10", "math/bits.deBruijn32tab", "math/bits.deBruijn64tab"], apart := false, laid := [("math/bits.deBruijn32tab", laid_math_bits_deBruijn32tab), ("math/bits.deBruijn64tab", laid_math_bits_deBruijn64tab), ("internal/strconv.uint64pow10", laid_internal_strconv_uint64pow10), ("strconv.ErrRange", laid_strconv_ErrRange), ("strconv.ErrSyntax", laid_strconv_ErrSyntax), ("io.EOF", laid_io_EOF), ("tapearchives/pub/gotar.ErrHeader", laid_tapearchives_pub_gotar_ErrHeader), ("tapearchives/pub/gotar.ErrFieldTooLong", laid_tapearchives_pub_gotar_ErrFieldTooLong)], narrowed := true }
def FnRecordsAreReadUptoSaid : Prop := fnRecordsAreReadUptoRow.holds Tryd.pinned (OpenSpec.upto fnRecordsAreReadSpec)

end Rows
end Go.Proofs.YtlchagphjmfooaaDoor
