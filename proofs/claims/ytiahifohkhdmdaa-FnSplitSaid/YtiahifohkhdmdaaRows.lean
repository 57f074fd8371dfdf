/-
  No cell of these rows narrows 'for every input' (looked for: loops, veiled, ifaces, maps, wideKeys, modest, calm, conditions, laid).
  DERIVED. THE GIVEN ROWS OF THIS SEAT. 8 by the template 'for every input the law returns true; each argument reads behind the call as it read before'; 0 by the template 'total and deterministic' (their statements: YtiahifohkhdmdaaTotals.lean).
  GIVEN WITH THE SEED: the statements are not yours to turn. If you find one false, say at which input.
  Laid BY PROGRAM, IN A SANDBOX (cutbox-rows.mjs): the forced cells as the released guide's own fill.sh prints them over the translation d7506a83630d23aa… (all of the seat's roots in one cut). By AI agents, Wed Nov 11 2026. No macro, syntax, notation, axiom, sorry.
-/
import Derived.Test.YtiahifohkhdmdaaChecked
import GoSem.Claim
import GoSem.ClaimJoined
import GoSem.ClaimMapViews
import Derived.JoinedTies
import Derived.KernelRfl
namespace Go.Proofs.Ytiahifohkhdmdaa
/- THE CELL 'sum', in the pinned program and in every row, IS THE sha256 OF THE DUMP (.gsa) THAT YtiahifohkhdmdaaProg.lean LOADS. Nothing in Lean hashes anything: it is a label: what it is worth is what the hold of that sum in a sandbox is worth. -/
noncomputable def Try.pinned : Pinned := { name := "ytiahifohkhdmdaa", sum := "d7506a83630d23aa6cbd970746763ac8c96df3dfd91c7350ce2b94cfa59c6b95", checked := Try.checked }
namespace Rows
def none {H : Type} : Left H := { results := [], args := [] }

/-- 'laws.FnSums': WHATEVER THE INPUT: true; the input reads as it did. -/
def fnSumsSpec : ChangeSpec := { name := "fnSums", fn := fun _ => fun
  | [d] => { results := [.lit (.bool true)], args := [d] }
  | _ => none }
def fnSumsRow : OpenClaim := { program := "ytiahifohkhdmdaa", sum := "d7506a83630d23aa6cbd970746763ac8c96df3dfd91c7350ce2b94cfa59c6b95", func := "tapearchives/laws.FnSums", spec := "fnSums", apart := false }
def FnSumsSaid : Prop := fnSumsRow.holds Try.pinned (OpenSpec.ofChange fnSumsSpec)

/-- ITS FALSE NEIGHBOUR: 'it returns false'. Refute it at one input. -/
def fnSumsWrong : ChangeSpec := { name := "fnSums", fn := fun _ => fun
  | [d] => { results := [.lit (.bool false)], args := [d] }
  | _ => none }
def FnSumsWrongFalsely : Prop := fnSumsRow.holds Try.pinned (OpenSpec.ofChange fnSumsWrong)

/-- 'laws.FnSumsTellOneByte': WHATEVER THE INPUT: true; the input reads as it did. -/
def fnSumsTellOneByteSpec : ChangeSpec := { name := "fnSumsTellOneByte", fn := fun _ => fun
  | [d1, d2, d3] => { results := [.lit (.bool true)], args := [d1, d2, d3] }
  | _ => none }
def fnSumsTellOneByteRow : OpenClaim := { program := "ytiahifohkhdmdaa", sum := "d7506a83630d23aa6cbd970746763ac8c96df3dfd91c7350ce2b94cfa59c6b95", func := "tapearchives/laws.FnSumsTellOneByte", spec := "fnSumsTellOneByte", apart := false }
def FnSumsTellOneByteSaid : Prop := fnSumsTellOneByteRow.holds Try.pinned (OpenSpec.ofChange fnSumsTellOneByteSpec)

/-- ITS FALSE NEIGHBOUR: 'it returns false'. Refute it at one input. -/
def fnSumsTellOneByteWrong : ChangeSpec := { name := "fnSumsTellOneByte", fn := fun _ => fun
  | [d1, d2, d3] => { results := [.lit (.bool false)], args := [d1, d2, d3] }
  | _ => none }
def FnSumsTellOneByteWrongFalsely : Prop := fnSumsTellOneByteRow.holds Try.pinned (OpenSpec.ofChange fnSumsTellOneByteWrong)

/-- 'laws.FnText': WHATEVER THE INPUT: true; the input reads as it did. -/
def fnTextSpec : ChangeSpec := { name := "fnText", fn := fun _ => fun
  | [d] => { results := [.lit (.bool true)], args := [d] }
  | _ => none }
def fnTextRow : OpenClaim := { program := "ytiahifohkhdmdaa", sum := "d7506a83630d23aa6cbd970746763ac8c96df3dfd91c7350ce2b94cfa59c6b95", func := "tapearchives/laws.FnText", spec := "fnText", inPlace := ["internal/bytealg.IndexByte"], apart := false }
def FnTextSaid : Prop := fnTextRow.holds Try.pinned (OpenSpec.ofChange fnTextSpec)

/-- ITS FALSE NEIGHBOUR: 'it returns false'. Refute it at one input. -/
def fnTextWrong : ChangeSpec := { name := "fnText", fn := fun _ => fun
  | [d] => { results := [.lit (.bool false)], args := [d] }
  | _ => none }
def FnTextWrongFalsely : Prop := fnTextRow.holds Try.pinned (OpenSpec.ofChange fnTextWrong)

/-- 'laws.FnValidSparse': WHATEVER THE INPUT: true; the input reads as it did. -/
def fnValidSparseSpec : ChangeSpec := { name := "fnValidSparse", fn := fun _ => fun
  | [d1, d2] => { results := [.lit (.bool true)], args := [d1, d2] }
  | _ => none }
def fnValidSparseRow : OpenClaim := { program := "ytiahifohkhdmdaa", sum := "d7506a83630d23aa6cbd970746763ac8c96df3dfd91c7350ce2b94cfa59c6b95", func := "tapearchives/laws.FnValidSparse", spec := "fnValidSparse", apart := false }
def FnValidSparseSaid : Prop := fnValidSparseRow.holds Try.pinned (OpenSpec.ofChange fnValidSparseSpec)

/-- ITS FALSE NEIGHBOUR: 'it returns false'. Refute it at one input. -/
def fnValidSparseWrong : ChangeSpec := { name := "fnValidSparse", fn := fun _ => fun
  | [d1, d2] => { results := [.lit (.bool false)], args := [d1, d2] }
  | _ => none }
def FnValidSparseWrongFalsely : Prop := fnValidSparseRow.holds Try.pinned (OpenSpec.ofChange fnValidSparseWrong)

/-- 'laws.FnAlign': WHATEVER THE INPUT: true; the input reads as it did. -/
def fnAlignSpec : ChangeSpec := { name := "fnAlign", fn := fun _ => fun
  | [d1, d2] => { results := [.lit (.bool true)], args := [d1, d2] }
  | _ => none }
def fnAlignRow : OpenClaim := { program := "ytiahifohkhdmdaa", sum := "d7506a83630d23aa6cbd970746763ac8c96df3dfd91c7350ce2b94cfa59c6b95", func := "tapearchives/laws.FnAlign", spec := "fnAlign", apart := false }
def FnAlignSaid : Prop := fnAlignRow.holds Try.pinned (OpenSpec.ofChange fnAlignSpec)

/-- ITS FALSE NEIGHBOUR: 'it returns false'. Refute it at one input. -/
def fnAlignWrong : ChangeSpec := { name := "fnAlign", fn := fun _ => fun
  | [d1, d2] => { results := [.lit (.bool false)], args := [d1, d2] }
  | _ => none }
def FnAlignWrongFalsely : Prop := fnAlignRow.holds Try.pinned (OpenSpec.ofChange fnAlignWrong)

/-- 'laws.FnInvert': WHATEVER THE INPUT: true; the input reads as it did. -/
def fnInvertSpec : ChangeSpec := { name := "fnInvert", fn := fun _ => fun
  | [d] => { results := [.lit (.bool true)], args := [d] }
  | _ => none }
def fnInvertRow : OpenClaim := { program := "ytiahifohkhdmdaa", sum := "d7506a83630d23aa6cbd970746763ac8c96df3dfd91c7350ce2b94cfa59c6b95", func := "tapearchives/laws.FnInvert", spec := "fnInvert", apart := false }
def FnInvertSaid : Prop := fnInvertRow.holds Try.pinned (OpenSpec.ofChange fnInvertSpec)

/-- ITS FALSE NEIGHBOUR: 'it returns false'. Refute it at one input. -/
def fnInvertWrong : ChangeSpec := { name := "fnInvert", fn := fun _ => fun
  | [d] => { results := [.lit (.bool false)], args := [d] }
  | _ => none }
def FnInvertWrongFalsely : Prop := fnInvertRow.holds Try.pinned (OpenSpec.ofChange fnInvertWrong)

/-- 'laws.FnInvertTwice': WHATEVER THE INPUT: true; the input reads as it did. -/
def fnInvertTwiceSpec : ChangeSpec := { name := "fnInvertTwice", fn := fun _ => fun
  | [d] => { results := [.lit (.bool true)], args := [d] }
  | _ => none }
def fnInvertTwiceRow : OpenClaim := { program := "ytiahifohkhdmdaa", sum := "d7506a83630d23aa6cbd970746763ac8c96df3dfd91c7350ce2b94cfa59c6b95", func := "tapearchives/laws.FnInvertTwice", spec := "fnInvertTwice", apart := false }
def FnInvertTwiceSaid : Prop := fnInvertTwiceRow.holds Try.pinned (OpenSpec.ofChange fnInvertTwiceSpec)

/-- ITS FALSE NEIGHBOUR: 'it returns false'. Refute it at one input. -/
def fnInvertTwiceWrong : ChangeSpec := { name := "fnInvertTwice", fn := fun _ => fun
  | [d] => { results := [.lit (.bool false)], args := [d] }
  | _ => none }
def FnInvertTwiceWrongFalsely : Prop := fnInvertTwiceRow.holds Try.pinned (OpenSpec.ofChange fnInvertTwiceWrong)

/-- 'laws.FnSplit': WHATEVER THE INPUT: true; the input reads as it did. -/
def fnSplitSpec : ChangeSpec := { name := "fnSplit", fn := fun _ => fun
  | [d] => { results := [.lit (.bool true)], args := [d] }
  | _ => none }
def fnSplitRow : OpenClaim := { program := "ytiahifohkhdmdaa", sum := "d7506a83630d23aa6cbd970746763ac8c96df3dfd91c7350ce2b94cfa59c6b95", func := "tapearchives/laws.FnSplit", spec := "fnSplit", apart := false }
def FnSplitSaid : Prop := fnSplitRow.holds Try.pinned (OpenSpec.ofChange fnSplitSpec)

/-- ITS FALSE NEIGHBOUR: 'it returns false'. Refute it at one input. -/
def fnSplitWrong : ChangeSpec := { name := "fnSplit", fn := fun _ => fun
  | [d] => { results := [.lit (.bool false)], args := [d] }
  | _ => none }
def FnSplitWrongFalsely : Prop := fnSplitRow.holds Try.pinned (OpenSpec.ofChange fnSplitWrong)

/- THE SECOND FORM. 'bulk': how many values and letters a reading holds, each counted each time it is reached (what is shared counts as often as it is met; a slice's spare places count too). A statement '..UptoSaid' is the law's where the arguments, and the package variables that the reading takes, are together of bulk at most 1048576: NARROWER than '..Said'. Prove '..Said' where nothing that the law and all that it calls make is longer than what came in: it says more and counts as full. Else prove '..UptoSaid'. A law counts once. -/
mutual
def uptoBulk {H : Type} : DataW H → Nat
  | .lit (.string bytes) => bytes.length + 1
  | .lit _ => 1
  | .nil => 1
  | .ptr d => uptoBulk d + 1
  | .slice elems spare => uptoBulkAll elems + uptoBulkAll spare + 1
  | .agg parts => uptoBulkAll parts + 1
  | .iface _ d => uptoBulk d + 1
  | .map entries => uptoBulkEntries entries + 1
  | .held _ => 1
def uptoBulkAll {H : Type} : List (DataW H) → Nat
  | [] => 0
  | d :: r => uptoBulk d + uptoBulkAll r
def uptoBulkEntries {H : Type} : List (Lit × DataW H) → Nat
  | [] => 0
  | x :: r => uptoBulkEntry x + uptoBulkEntries r
def uptoBulkEntry {H : Type} : Lit × DataW H → Nat
  | (.string bytes, d) => bytes.length + uptoBulk d + 1
  | (_, d) => uptoBulk d + 1
 end
def uptoSmall : (H : Type) → List (DataW H) → Bool := fun _ ds => decide (uptoBulkAll ds ≤ 1048576)
def OpenSpec.upto (s : _root_.Go.ChangeSpec) : _root_.Go.OpenSpec := { _root_.Go.OpenSpec.ofChange s with cond := some uptoSmall }

/-- 'laws.FnSums', WHERE WHAT IT READS IS OF BULK AT MOST 1048576: true; the input reads as it did. -/
def fnSumsUptoRow : OpenClaim := { program := "ytiahifohkhdmdaa", sum := "d7506a83630d23aa6cbd970746763ac8c96df3dfd91c7350ce2b94cfa59c6b95", func := "tapearchives/laws.FnSums", spec := "fnSums", apart := false, narrowed := true }
def FnSumsUptoSaid : Prop := fnSumsUptoRow.holds Try.pinned (OpenSpec.upto fnSumsSpec)

/-- 'laws.FnSumsTellOneByte', WHERE WHAT IT READS IS OF BULK AT MOST 1048576: true; the input reads as it did. -/
def fnSumsTellOneByteUptoRow : OpenClaim := { program := "ytiahifohkhdmdaa", sum := "d7506a83630d23aa6cbd970746763ac8c96df3dfd91c7350ce2b94cfa59c6b95", func := "tapearchives/laws.FnSumsTellOneByte", spec := "fnSumsTellOneByte", apart := false, narrowed := true }
def FnSumsTellOneByteUptoSaid : Prop := fnSumsTellOneByteUptoRow.holds Try.pinned (OpenSpec.upto fnSumsTellOneByteSpec)

/-- 'laws.FnText', WHERE WHAT IT READS IS OF BULK AT MOST 1048576: true; the input reads as it did. -/
def fnTextUptoRow : OpenClaim := { program := "ytiahifohkhdmdaa", sum := "d7506a83630d23aa6cbd970746763ac8c96df3dfd91c7350ce2b94cfa59c6b95", func := "tapearchives/laws.FnText", spec := "fnText", inPlace := ["internal/bytealg.IndexByte"], apart := false, narrowed := true }
def FnTextUptoSaid : Prop := fnTextUptoRow.holds Try.pinned (OpenSpec.upto fnTextSpec)

/-- 'laws.FnValidSparse', WHERE WHAT IT READS IS OF BULK AT MOST 1048576: true; the input reads as it did. -/
def fnValidSparseUptoRow : OpenClaim := { program := "ytiahifohkhdmdaa", sum := "d7506a83630d23aa6cbd970746763ac8c96df3dfd91c7350ce2b94cfa59c6b95", func := "tapearchives/laws.FnValidSparse", spec := "fnValidSparse", apart := false, narrowed := true }
def FnValidSparseUptoSaid : Prop := fnValidSparseUptoRow.holds Try.pinned (OpenSpec.upto fnValidSparseSpec)

/-- 'laws.FnAlign', WHERE WHAT IT READS IS OF BULK AT MOST 1048576: true; the input reads as it did. -/
def fnAlignUptoRow : OpenClaim := { program := "ytiahifohkhdmdaa", sum := "d7506a83630d23aa6cbd970746763ac8c96df3dfd91c7350ce2b94cfa59c6b95", func := "tapearchives/laws.FnAlign", spec := "fnAlign", apart := false, narrowed := true }
def FnAlignUptoSaid : Prop := fnAlignUptoRow.holds Try.pinned (OpenSpec.upto fnAlignSpec)

/-- 'laws.FnInvert', WHERE WHAT IT READS IS OF BULK AT MOST 1048576: true; the input reads as it did. -/
def fnInvertUptoRow : OpenClaim := { program := "ytiahifohkhdmdaa", sum := "d7506a83630d23aa6cbd970746763ac8c96df3dfd91c7350ce2b94cfa59c6b95", func := "tapearchives/laws.FnInvert", spec := "fnInvert", apart := false, narrowed := true }
def FnInvertUptoSaid : Prop := fnInvertUptoRow.holds Try.pinned (OpenSpec.upto fnInvertSpec)

/-- 'laws.FnInvertTwice', WHERE WHAT IT READS IS OF BULK AT MOST 1048576: true; the input reads as it did. -/
def fnInvertTwiceUptoRow : OpenClaim := { program := "ytiahifohkhdmdaa", sum := "d7506a83630d23aa6cbd970746763ac8c96df3dfd91c7350ce2b94cfa59c6b95", func := "tapearchives/laws.FnInvertTwice", spec := "fnInvertTwice", apart := false, narrowed := true }
def FnInvertTwiceUptoSaid : Prop := fnInvertTwiceUptoRow.holds Try.pinned (OpenSpec.upto fnInvertTwiceSpec)

/-- 'laws.FnSplit', WHERE WHAT IT READS IS OF BULK AT MOST 1048576: true; the input reads as it did. -/
def fnSplitUptoRow : OpenClaim := { program := "ytiahifohkhdmdaa", sum := "d7506a83630d23aa6cbd970746763ac8c96df3dfd91c7350ce2b94cfa59c6b95", func := "tapearchives/laws.FnSplit", spec := "fnSplit", apart := false, narrowed := true }
def FnSplitUptoSaid : Prop := fnSplitUptoRow.holds Try.pinned (OpenSpec.upto fnSplitSpec)

end Rows
end Go.Proofs.Ytiahifohkhdmdaa
