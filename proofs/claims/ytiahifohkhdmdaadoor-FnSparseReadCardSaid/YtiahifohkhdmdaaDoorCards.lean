/-
  DERIVED. GIVEN WITH THE SEED: THE CARDS: each row of YtiahifohkhdmdaaDoorRows.lean that lists a variable, with what it lists TIED to the program's text (the seventh form; the later family's looks); each row that meets fmt, with fmt's text TOLD by the authors' own Lean function (tested against real Go, not proved from fmt's source: count such statements apart). THE CARD IS WHAT COUNTS. Prove the row's statement (the work); the ties are given (YtiahifohkhdmdaaDoorTie.lean); close each card by the builder's one call (the guide's Derived/Test/ToyasCard.lean, 'card_holds'). Laid BY PROGRAM, IN A SANDBOX (cutbox-door.mjs). By AI agents, Wed Nov 11 2026. No macro, syntax, notation, axiom, sorry.
-/
import Derived.Test.YtiahifohkhdmdaaDoorRows
import GoSem.ClaimSeven
namespace Go.Proofs.YtiahifohkhdmdaaDoor
namespace Rows

/-- THE TIED CARD OF 'laws.FnPutText'. -/
def fnPutTextCard : Claim7 := { stood := { row := fnPutTextRow, standIns := [], harness := (true, "3bfc437639aa02bba554d4560bfaba4502976a511afd754c00fc7cf59554d781"), looks := true }, kinds := [], alts := [], laidByText := true, laidKinds := [.sentinel], laidTests := true, laidLooks := .later }
def FnPutTextCardSaid : Prop := Claim7.holds Tryd.pinned (.plain (OpenSpec.ofChange fnPutTextSpec)) fnPutTextCard

/-- THE TIED CARD OF 'laws.FnRegWrite'. -/
def fnRegWriteCard : Claim7 := { stood := { row := fnRegWriteRow, standIns := [], harness := (true, "3bfc437639aa02bba554d4560bfaba4502976a511afd754c00fc7cf59554d781"), looks := true }, kinds := [], alts := [], laidByText := true, laidKinds := [.sentinel, .sentinel, .sentinel, .sentinel, .sentinel, .sentinel, .sentinel], laidTests := true, laidLooks := .later }
def FnRegWriteCardSaid : Prop := Claim7.holds Tryd.pinned (.plain (OpenSpec.ofChange fnRegWriteSpec)) fnRegWriteCard

/-- THE TIED CARD OF 'laws.FnSparseRead'. -/
def fnSparseReadCard : Claim7 := { stood := { row := fnSparseReadRow, standIns := [], harness := (true, "3bfc437639aa02bba554d4560bfaba4502976a511afd754c00fc7cf59554d781"), looks := true }, kinds := [], alts := [], laidByText := true, laidKinds := [.sentinel, .sentinel, .sentinel, .sentinel, .sentinel, .sentinel, .sentinel, .sentinel, .sentinel], laidTests := true, laidLooks := .later }
def FnSparseReadCardSaid : Prop := Claim7.holds Tryd.pinned (.plain (OpenSpec.ofChange fnSparseReadSpec)) fnSparseReadCard

/-- THE SECOND FORM's CARD OF 'laws.FnPutText'. -/
def fnPutTextUptoCard : Claim7 := { stood := { row := fnPutTextUptoRow, standIns := [], harness := (true, "3bfc437639aa02bba554d4560bfaba4502976a511afd754c00fc7cf59554d781"), looks := true }, kinds := [], alts := [], laidByText := true, laidKinds := [.sentinel], laidTests := true, laidLooks := .later }
def FnPutTextUptoCardSaid : Prop := Claim7.holds Tryd.pinned (.plain (OpenSpec.upto fnPutTextSpec)) fnPutTextUptoCard

/-- THE SECOND FORM's CARD OF 'laws.FnRegWrite'. -/
def fnRegWriteUptoCard : Claim7 := { stood := { row := fnRegWriteUptoRow, standIns := [], harness := (true, "3bfc437639aa02bba554d4560bfaba4502976a511afd754c00fc7cf59554d781"), looks := true }, kinds := [], alts := [], laidByText := true, laidKinds := [.sentinel, .sentinel, .sentinel, .sentinel, .sentinel, .sentinel, .sentinel], laidTests := true, laidLooks := .later }
def FnRegWriteUptoCardSaid : Prop := Claim7.holds Tryd.pinned (.plain (OpenSpec.upto fnRegWriteSpec)) fnRegWriteUptoCard

/-- THE SECOND FORM's CARD OF 'laws.FnSparseRead'. -/
def fnSparseReadUptoCard : Claim7 := { stood := { row := fnSparseReadUptoRow, standIns := [], harness := (true, "3bfc437639aa02bba554d4560bfaba4502976a511afd754c00fc7cf59554d781"), looks := true }, kinds := [], alts := [], laidByText := true, laidKinds := [.sentinel, .sentinel, .sentinel, .sentinel, .sentinel, .sentinel, .sentinel, .sentinel, .sentinel], laidTests := true, laidLooks := .later }
def FnSparseReadUptoCardSaid : Prop := Claim7.holds Tryd.pinned (.plain (OpenSpec.upto fnSparseReadSpec)) fnSparseReadUptoCard
end Rows
end Go.Proofs.YtiahifohkhdmdaaDoor
