/-
  NARROWER THAN 'FOR EVERY INPUT', by the rows' own cells (each row's printed sentence says how): FnPutText: laid · FnRegWrite: laid · FnSparseRead: laid.
  DERIVED. THE GIVEN ROWS OF THIS SEAT. 3 by the template 'for every input the law returns true; each argument reads behind the call as it read before'; 0 by the template 'total and deterministic' (their statements: YtiahifohkhdmdaaDoorTotals.lean).
  GIVEN WITH THE SEED: the statements are not yours to turn. If you find one false, say at which input.
  Laid BY PROGRAM, IN A SANDBOX (cutbox-rows.mjs): the forced cells as the released guide's own fill.sh prints them over the translation c1d3f0cbaa380781… (all of the seat's roots in one cut). By AI agents, Wed Nov 11 2026. No macro, syntax, notation, axiom, sorry.
-/
import Derived.Test.YtiahifohkhdmdaaDoorChecked
import GoSem.Claim
import GoSem.ClaimJoined
import GoSem.ClaimMapViews
import Derived.JoinedTies
import Derived.KernelRfl
namespace Go.Proofs.YtiahifohkhdmdaaDoor
/- THE CELL 'sum', in the pinned program and in every row, IS THE sha256 OF THE DUMP (.gsa) THAT YtiahifohkhdmdaaDoorProg.lean LOADS. Nothing in Lean hashes anything: it is a label: what it is worth is what the hold of that sum in a sandbox is worth. -/
noncomputable def Tryd.pinned : Pinned := { name := "ytiahifohkhdmdaadoor", sum := "c1d3f0cbaa38078172248d12f26e5633e76bd19839f9fa88c809c35c9cc7bd22", checked := Tryd.checked }
namespace Rows
def none {H : Type} : Left H := { results := [], args := [] }

/- WHAT THE LISTED PACKAGE-LEVEL VARIABLES READ AS WHEN THE CALL BEGINS. Each datum BY PROGRAM (the guide's laid-datum.mjs) off the statement by which the dump's own 'gosem.cut.vars' lays the variable. In a bare row this is a premise. The card (YtiahifohkhdmdaaDoorCards.lean) ties it to the program's text. -/
def laid_tapearchives_pub_gotar_ErrFieldTooLong {H : Type} : DataW H := .iface "*errors.errorString" (.ptr (.agg [.lit (.string [97, 114, 99, 104, 105, 118, 101, 47, 116, 97, 114, 58, 32, 104, 101, 97, 100, 101, 114, 32, 102, 105, 101, 108, 100, 32, 116, 111, 111, 32, 108, 111, 110, 103])]))
def laid_io_EOF {H : Type} : DataW H := .iface "*errors.errorString" (.ptr (.agg [.lit (.string [69, 79, 70])]))
def laid_io_ErrUnexpectedEOF {H : Type} : DataW H := .iface "*errors.errorString" (.ptr (.agg [.lit (.string [117, 110, 101, 120, 112, 101, 99, 116, 101, 100, 32, 69, 79, 70])]))
def laid_tapearchives_pub_gotar_ErrHeader {H : Type} : DataW H := .iface "*errors.errorString" (.ptr (.agg [.lit (.string [97, 114, 99, 104, 105, 118, 101, 47, 116, 97, 114, 58, 32, 105, 110, 118, 97, 108, 105, 100, 32, 116, 97, 114, 32, 104, 101, 97, 100, 101, 114])]))
def laid_tapearchives_pub_gotar_ErrWriteTooLong {H : Type} : DataW H := .iface "*errors.errorString" (.ptr (.agg [.lit (.string [97, 114, 99, 104, 105, 118, 101, 47, 116, 97, 114, 58, 32, 119, 114, 105, 116, 101, 32, 116, 111, 111, 32, 108, 111, 110, 103])]))
def laid_tapearchives_pub_gotar_ErrWriteAfterClose {H : Type} : DataW H := .iface "*errors.errorString" (.ptr (.agg [.lit (.string [97, 114, 99, 104, 105, 118, 101, 47, 116, 97, 114, 58, 32, 119, 114, 105, 116, 101, 32, 97, 102, 116, 101, 114, 32, 99, 108, 111, 115, 101])]))
def laid_tapearchives_pub_gotar_ErrInsecurePath {H : Type} : DataW H := .iface "*errors.errorString" (.ptr (.agg [.lit (.string [97, 114, 99, 104, 105, 118, 101, 47, 116, 97, 114, 58, 32, 105, 110, 115, 101, 99, 117, 114, 101, 32, 102, 105, 108, 101, 32, 112, 97, 116, 104])]))
def laid_tapearchives_pub_gotar_errMissData {H : Type} : DataW H := .iface "*errors.errorString" (.ptr (.agg [.lit (.string [97, 114, 99, 104, 105, 118, 101, 47, 116, 97, 114, 58, 32, 115, 112, 97, 114, 115, 101, 32, 102, 105, 108, 101, 32, 114, 101, 102, 101, 114, 101, 110, 99, 101, 115, 32, 110, 111, 110, 45, 101, 120, 105, 115, 116, 101, 110, 116, 32, 100, 97, 116, 97])]))
def laid_tapearchives_pub_gotar_errUnrefData {H : Type} : DataW H := .iface "*errors.errorString" (.ptr (.agg [.lit (.string [97, 114, 99, 104, 105, 118, 101, 47, 116, 97, 114, 58, 32, 115, 112, 97, 114, 115, 101, 32, 102, 105, 108, 101, 32, 99, 111, 110, 116, 97, 105, 110, 115, 32, 117, 110, 114, 101, 102, 101, 114, 101, 110, 99, 101, 100, 32, 100, 97, 116, 97])]))

/-- 'laws.FnPutText': WHATEVER THE INPUT: true; the input reads as it did. -/
def fnPutTextSpec : ChangeSpec := { name := "fnPutText", fn := fun _ => fun
  | [d1, d2] => { results := [.lit (.bool true)], args := [d1, d2] }
  | _ => none }
def fnPutTextRow : OpenClaim := { program := "ytiahifohkhdmdaadoor", sum := "c1d3f0cbaa38078172248d12f26e5633e76bd19839f9fa88c809c35c9cc7bd22", func := "tapearchives/laws.FnPutText", spec := "fnPutText", inPlace := ["internal/bytealg.IndexByte"], named := ["tapearchives/pub/gotar.ErrFieldTooLong"], apart := false, laid := [("tapearchives/pub/gotar.ErrFieldTooLong", laid_tapearchives_pub_gotar_ErrFieldTooLong)] }
def FnPutTextSaid : Prop := fnPutTextRow.holds Tryd.pinned (OpenSpec.ofChange fnPutTextSpec)

/-- ITS FALSE NEIGHBOUR: 'it returns false'. Refute it at one input. -/
def fnPutTextWrong : ChangeSpec := { name := "fnPutText", fn := fun _ => fun
  | [d1, d2] => { results := [.lit (.bool false)], args := [d1, d2] }
  | _ => none }
def FnPutTextWrongFalsely : Prop := fnPutTextRow.holds Tryd.pinned (OpenSpec.ofChange fnPutTextWrong)

/-- 'laws.FnRegWrite': WHATEVER THE INPUT: true; the input reads as it did. -/
def fnRegWriteSpec : ChangeSpec := { name := "fnRegWrite", fn := fun _ => fun
  | [d1, d2] => { results := [.lit (.bool true)], args := [d1, d2] }
  | _ => none }
def fnRegWriteRow : OpenClaim := { program := "ytiahifohkhdmdaadoor", sum := "c1d3f0cbaa38078172248d12f26e5633e76bd19839f9fa88c809c35c9cc7bd22", func := "tapearchives/laws.FnRegWrite", spec := "fnRegWrite", unfollowed := true, recurses := true, named := ["tapearchives/pub/gotar.ErrWriteTooLong", "io.EOF", "tapearchives/pub/gotar.ErrHeader", "tapearchives/pub/gotar.ErrFieldTooLong", "tapearchives/pub/gotar.ErrWriteAfterClose", "io.ErrUnexpectedEOF", "tapearchives/pub/gotar.ErrInsecurePath"], apart := false, laid := [("io.EOF", laid_io_EOF), ("io.ErrUnexpectedEOF", laid_io_ErrUnexpectedEOF), ("tapearchives/pub/gotar.ErrHeader", laid_tapearchives_pub_gotar_ErrHeader), ("tapearchives/pub/gotar.ErrWriteTooLong", laid_tapearchives_pub_gotar_ErrWriteTooLong), ("tapearchives/pub/gotar.ErrFieldTooLong", laid_tapearchives_pub_gotar_ErrFieldTooLong), ("tapearchives/pub/gotar.ErrWriteAfterClose", laid_tapearchives_pub_gotar_ErrWriteAfterClose), ("tapearchives/pub/gotar.ErrInsecurePath", laid_tapearchives_pub_gotar_ErrInsecurePath)] }
def FnRegWriteSaid : Prop := fnRegWriteRow.holds Tryd.pinned (OpenSpec.ofChange fnRegWriteSpec)

/-- ITS FALSE NEIGHBOUR: 'it returns false'. Refute it at one input. -/
def fnRegWriteWrong : ChangeSpec := { name := "fnRegWrite", fn := fun _ => fun
  | [d1, d2] => { results := [.lit (.bool false)], args := [d1, d2] }
  | _ => none }
def FnRegWriteWrongFalsely : Prop := fnRegWriteRow.holds Tryd.pinned (OpenSpec.ofChange fnRegWriteWrong)

/-- 'laws.FnSparseRead': WHATEVER THE INPUT: true; the input reads as it did. -/
def fnSparseReadSpec : ChangeSpec := { name := "fnSparseRead", fn := fun _ => fun
  | [d1, d2] => { results := [.lit (.bool true)], args := [d1, d2] }
  | _ => none }
def fnSparseReadRow : OpenClaim := { program := "ytiahifohkhdmdaadoor", sum := "c1d3f0cbaa38078172248d12f26e5633e76bd19839f9fa88c809c35c9cc7bd22", func := "tapearchives/laws.FnSparseRead", spec := "fnSparseRead", unfollowed := true, recurses := true, named := ["io.EOF", "tapearchives/pub/gotar.errMissData", "tapearchives/pub/gotar.errUnrefData", "tapearchives/pub/gotar.ErrHeader", "tapearchives/pub/gotar.ErrWriteTooLong", "tapearchives/pub/gotar.ErrFieldTooLong", "tapearchives/pub/gotar.ErrWriteAfterClose", "io.ErrUnexpectedEOF", "tapearchives/pub/gotar.ErrInsecurePath"], apart := false, laid := [("io.EOF", laid_io_EOF), ("io.ErrUnexpectedEOF", laid_io_ErrUnexpectedEOF), ("tapearchives/pub/gotar.ErrHeader", laid_tapearchives_pub_gotar_ErrHeader), ("tapearchives/pub/gotar.ErrWriteTooLong", laid_tapearchives_pub_gotar_ErrWriteTooLong), ("tapearchives/pub/gotar.ErrFieldTooLong", laid_tapearchives_pub_gotar_ErrFieldTooLong), ("tapearchives/pub/gotar.ErrWriteAfterClose", laid_tapearchives_pub_gotar_ErrWriteAfterClose), ("tapearchives/pub/gotar.ErrInsecurePath", laid_tapearchives_pub_gotar_ErrInsecurePath), ("tapearchives/pub/gotar.errMissData", laid_tapearchives_pub_gotar_errMissData), ("tapearchives/pub/gotar.errUnrefData", laid_tapearchives_pub_gotar_errUnrefData)] }
def FnSparseReadSaid : Prop := fnSparseReadRow.holds Tryd.pinned (OpenSpec.ofChange fnSparseReadSpec)

/-- ITS FALSE NEIGHBOUR: 'it returns false'. Refute it at one input. -/
def fnSparseReadWrong : ChangeSpec := { name := "fnSparseRead", fn := fun _ => fun
  | [d1, d2] => { results := [.lit (.bool false)], args := [d1, d2] }
  | _ => none }
def FnSparseReadWrongFalsely : Prop := fnSparseReadRow.holds Tryd.pinned (OpenSpec.ofChange fnSparseReadWrong)

/- THE SECOND FORM. 'bulk': how many values and letters a reading holds, each counted each time it is reached (what is shared counts as often as it is met; a slice's spare places count too). A statement '..UptoSaid' is the law's where the arguments, and the package variables that the reading takes, are together of bulk at most 1048576: NARROWER than '..Said'. Prove '..Said' where nothing that the law and all that it calls make is longer than what came in: it says more and counts as full. Else prove '..UptoSaid'. A law counts once. -/
mutual
def uptoBulk {H : Type} : DataW H → Nat
  | .lit (.string bytes) => bytes.length + 1
  | .lit _ => 1
  | .nil => 1
  | .ptr d => uptoBulk d + 1
  | .slice elems spare => uptoBulkAll elems + uptoBulkAll spare + 1
  | .agg parts => uptoBulkAll parts + 1
  | .iface _ d => uptoBulk d + 1
  | .map entries => uptoBulkEntries entries + 1
  | .held _ => 1
def uptoBulkAll {H : Type} : List (DataW H) → Nat
  | [] => 0
  | d :: r => uptoBulk d + uptoBulkAll r
def uptoBulkEntries {H : Type} : List (Lit × DataW H) → Nat
  | [] => 0
  | x :: r => uptoBulkEntry x + uptoBulkEntries r
def uptoBulkEntry {H : Type} : Lit × DataW H → Nat
  | (.string bytes, d) => bytes.length + uptoBulk d + 1
  | (_, d) => uptoBulk d + 1
 end
def uptoSmall : (H : Type) → List (DataW H) → Bool := fun _ ds => decide (uptoBulkAll ds ≤ 1048576)
def OpenSpec.upto (s : _root_.Go.ChangeSpec) : _root_.Go.OpenSpec := { _root_.Go.OpenSpec.ofChange s with cond := some uptoSmall }

/-- 'laws.FnPutText', WHERE WHAT IT READS IS OF BULK AT MOST 1048576: true; the input reads as it did. -/
def fnPutTextUptoRow : OpenClaim := { program := "ytiahifohkhdmdaadoor", sum := "c1d3f0cbaa38078172248d12f26e5633e76bd19839f9fa88c809c35c9cc7bd22", func := "tapearchives/laws.FnPutText", spec := "fnPutText", inPlace := ["internal/bytealg.IndexByte"], named := ["tapearchives/pub/gotar.ErrFieldTooLong"], apart := false, laid := [("tapearchives/pub/gotar.ErrFieldTooLong", laid_tapearchives_pub_gotar_ErrFieldTooLong)], narrowed := true }
def FnPutTextUptoSaid : Prop := fnPutTextUptoRow.holds Tryd.pinned (OpenSpec.upto fnPutTextSpec)

/-- 'laws.FnRegWrite', WHERE WHAT IT READS IS OF BULK AT MOST 1048576: true; the input reads as it did. -/
def fnRegWriteUptoRow : OpenClaim := { program := "ytiahifohkhdmdaadoor", sum := "c1d3f0cbaa38078172248d12f26e5633e76bd19839f9fa88c809c35c9cc7bd22", func := "tapearchives/laws.FnRegWrite", spec := "fnRegWrite", unfollowed := true, recurses := true, named := ["tapearchives/pub/gotar.ErrWriteTooLong", "io.EOF", "tapearchives/pub/gotar.ErrHeader", "tapearchives/pub/gotar.ErrFieldTooLong", "tapearchives/pub/gotar.ErrWriteAfterClose", "io.ErrUnexpectedEOF", "tapearchives/pub/gotar.ErrInsecurePath"], apart := false, laid := [("io.EOF", laid_io_EOF), ("io.ErrUnexpectedEOF", laid_io_ErrUnexpectedEOF), ("tapearchives/pub/gotar.ErrHeader", laid_tapearchives_pub_gotar_ErrHeader), ("tapearchives/pub/gotar.ErrWriteTooLong", laid_tapearchives_pub_gotar_ErrWriteTooLong), ("tapearchives/pub/gotar.ErrFieldTooLong", laid_tapearchives_pub_gotar_ErrFieldTooLong), ("tapearchives/pub/gotar.ErrWriteAfterClose", laid_tapearchives_pub_gotar_ErrWriteAfterClose), ("tapearchives/pub/gotar.ErrInsecurePath", laid_tapearchives_pub_gotar_ErrInsecurePath)], narrowed := true }
def FnRegWriteUptoSaid : Prop := fnRegWriteUptoRow.holds Tryd.pinned (OpenSpec.upto fnRegWriteSpec)

/-- 'laws.FnSparseRead', WHERE WHAT IT READS IS OF BULK AT MOST 1048576: true; the input reads as it did. -/
def fnSparseReadUptoRow : OpenClaim := { program := "ytiahifohkhdmdaadoor", sum := "c1d3f0cbaa38078172248d12f26e5633e76bd19839f9fa88c809c35c9cc7bd22", func := "tapearchives/laws.FnSparseRead", spec := "fnSparseRead", unfollowed := true, recurses := true, named := ["io.EOF", "tapearchives/pub/gotar.errMissData", "tapearchives/pub/gotar.errUnrefData", "tapearchives/pub/gotar.ErrHeader", "tapearchives/pub/gotar.ErrWriteTooLong", "tapearchives/pub/gotar.ErrFieldTooLong", "tapearchives/pub/gotar.ErrWriteAfterClose", "io.ErrUnexpectedEOF", "tapearchives/pub/gotar.ErrInsecurePath"], apart := false, laid := [("io.EOF", laid_io_EOF), ("io.ErrUnexpectedEOF", laid_io_ErrUnexpectedEOF), ("tapearchives/pub/gotar.ErrHeader", laid_tapearchives_pub_gotar_ErrHeader), ("tapearchives/pub/gotar.ErrWriteTooLong", laid_tapearchives_pub_gotar_ErrWriteTooLong), ("tapearchives/pub/gotar.ErrFieldTooLong", laid_tapearchives_pub_gotar_ErrFieldTooLong), ("tapearchives/pub/gotar.ErrWriteAfterClose", laid_tapearchives_pub_gotar_ErrWriteAfterClose), ("tapearchives/pub/gotar.ErrInsecurePath", laid_tapearchives_pub_gotar_ErrInsecurePath), ("tapearchives/pub/gotar.errMissData", laid_tapearchives_pub_gotar_errMissData), ("tapearchives/pub/gotar.errUnrefData", laid_tapearchives_pub_gotar_errUnrefData)], narrowed := true }
def FnSparseReadUptoSaid : Prop := fnSparseReadUptoRow.holds Tryd.pinned (OpenSpec.upto fnSparseReadSpec)

end Rows
end Go.Proofs.YtiahifohkhdmdaaDoor
