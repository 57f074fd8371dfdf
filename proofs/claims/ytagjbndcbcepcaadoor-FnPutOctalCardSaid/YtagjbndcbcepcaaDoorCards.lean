/-
  DERIVED. GIVEN WITH THE SEED: THE CARDS: each row of YtagjbndcbcepcaaDoorRows.lean that lists a variable, with what it lists TIED to the program's text (the seventh form; the later family's looks); each row that meets fmt, with fmt's text TOLD by the authors' own Lean function (tested against real Go, not proved from fmt's source: count such statements apart). THE CARD IS WHAT COUNTS. Prove the row's statement (the work); the ties are given (YtagjbndcbcepcaaDoorTie.lean); close each card by the builder's one call (the guide's Derived/Test/ToyasCard.lean, 'card_holds'). Laid BY PROGRAM, IN A SANDBOX (cutbox-door.mjs). By AI agents, Wed Nov 11 2026. No macro, syntax, notation, axiom, sorry.
-/
import Derived.Test.YtagjbndcbcepcaaDoorRows
import GoSem.ClaimSeven
namespace Go.Proofs.YtagjbndcbcepcaaDoor
namespace Rows

/-- THE TIED CARD OF 'laws.FnOctal'. -/
def fnOctalCard : Claim7 := { stood := { row := fnOctalRow, standIns := [], harness := (true, "14d29ac0ec4011c7988cbd1731a1f872435943428a3f70f14723b0416968a2ff"), looks := true }, kinds := [], alts := [], laidByText := true, laidKinds := [.data, .data, .data, .data, .sentinel, .sentinel, .sentinel, .pinned], laidTests := true, laidLooks := .later }
def FnOctalCardSaid : Prop := Claim7.holds Tryd.pinned (.plain (OpenSpec.ofChange fnOctalSpec)) fnOctalCard

/-- THE TIED CARD OF 'laws.FnOctalsAreRead'. -/
def fnOctalsAreReadCard : Claim7 := { stood := { row := fnOctalsAreReadRow, standIns := [], harness := (true, "14d29ac0ec4011c7988cbd1731a1f872435943428a3f70f14723b0416968a2ff"), looks := true }, kinds := [], alts := [], laidByText := true, laidKinds := [.data, .data, .data, .data, .sentinel, .sentinel, .sentinel, .pinned], laidTests := true, laidLooks := .later }
def FnOctalsAreReadCardSaid : Prop := Claim7.holds Tryd.pinned (.plain (OpenSpec.ofChange fnOctalsAreReadSpec)) fnOctalsAreReadCard

/-- THE TIED CARD OF 'laws.FnNumber'. -/
def fnNumberCard : Claim7 := { stood := { row := fnNumberRow, standIns := [], harness := (true, "14d29ac0ec4011c7988cbd1731a1f872435943428a3f70f14723b0416968a2ff"), looks := true }, kinds := [], alts := [], laidByText := true, laidKinds := [.data, .data, .data, .data, .sentinel, .sentinel, .sentinel, .pinned], laidTests := true, laidLooks := .later }
def FnNumberCardSaid : Prop := Claim7.holds Tryd.pinned (.plain (OpenSpec.ofChange fnNumberSpec)) fnNumberCard

/-- THE TIED CARD OF 'laws.FnBytesAreRead'. -/
def fnBytesAreReadCard : Claim7 := { stood := { row := fnBytesAreReadRow, standIns := [], harness := (true, "14d29ac0ec4011c7988cbd1731a1f872435943428a3f70f14723b0416968a2ff"), looks := true }, kinds := [], alts := [], laidByText := true, laidKinds := [.data, .data, .data, .data, .sentinel, .sentinel, .sentinel, .pinned], laidTests := true, laidLooks := .later }
def FnBytesAreReadCardSaid : Prop := Claim7.holds Tryd.pinned (.plain (OpenSpec.ofChange fnBytesAreReadSpec)) fnBytesAreReadCard

/-- THE TIED CARD OF 'laws.FnPutOctal'. -/
def fnPutOctalCard : Claim7 := { stood := { row := fnPutOctalRow, standIns := [], harness := (true, "14d29ac0ec4011c7988cbd1731a1f872435943428a3f70f14723b0416968a2ff"), looks := true }, kinds := [], alts := [], laidByText := true, laidKinds := [.data, .data, .data, .data, .sentinel, .sentinel, .sentinel, .sentinel, .pinned], laidTests := true, laidLooks := .later }
def FnPutOctalCardSaid : Prop := Claim7.holds Tryd.pinned (.plain (OpenSpec.ofChange fnPutOctalSpec)) fnPutOctalCard

/-- THE TIED CARD OF 'laws.FnPutNumber'. -/
def fnPutNumberCard : Claim7 := { stood := { row := fnPutNumberRow, standIns := [], harness := (true, "14d29ac0ec4011c7988cbd1731a1f872435943428a3f70f14723b0416968a2ff"), looks := true }, kinds := [], alts := [], laidByText := true, laidKinds := [.data, .data, .data, .data, .sentinel, .sentinel, .sentinel, .sentinel, .pinned], laidTests := true, laidLooks := .later }
def FnPutNumberCardSaid : Prop := Claim7.holds Tryd.pinned (.plain (OpenSpec.ofChange fnPutNumberSpec)) fnPutNumberCard

/-- THE SECOND FORM's CARD OF 'laws.FnOctal'. -/
def fnOctalUptoCard : Claim7 := { stood := { row := fnOctalUptoRow, standIns := [], harness := (true, "14d29ac0ec4011c7988cbd1731a1f872435943428a3f70f14723b0416968a2ff"), looks := true }, kinds := [], alts := [], laidByText := true, laidKinds := [.data, .data, .data, .data, .sentinel, .sentinel, .sentinel, .pinned], laidTests := true, laidLooks := .later }
def FnOctalUptoCardSaid : Prop := Claim7.holds Tryd.pinned (.plain (OpenSpec.upto fnOctalSpec)) fnOctalUptoCard

/-- THE SECOND FORM's CARD OF 'laws.FnOctalsAreRead'. -/
def fnOctalsAreReadUptoCard : Claim7 := { stood := { row := fnOctalsAreReadUptoRow, standIns := [], harness := (true, "14d29ac0ec4011c7988cbd1731a1f872435943428a3f70f14723b0416968a2ff"), looks := true }, kinds := [], alts := [], laidByText := true, laidKinds := [.data, .data, .data, .data, .sentinel, .sentinel, .sentinel, .pinned], laidTests := true, laidLooks := .later }
def FnOctalsAreReadUptoCardSaid : Prop := Claim7.holds Tryd.pinned (.plain (OpenSpec.upto fnOctalsAreReadSpec)) fnOctalsAreReadUptoCard

/-- THE SECOND FORM's CARD OF 'laws.FnNumber'. -/
def fnNumberUptoCard : Claim7 := { stood := { row := fnNumberUptoRow, standIns := [], harness := (true, "14d29ac0ec4011c7988cbd1731a1f872435943428a3f70f14723b0416968a2ff"), looks := true }, kinds := [], alts := [], laidByText := true, laidKinds := [.data, .data, .data, .data, .sentinel, .sentinel, .sentinel, .pinned], laidTests := true, laidLooks := .later }
def FnNumberUptoCardSaid : Prop := Claim7.holds Tryd.pinned (.plain (OpenSpec.upto fnNumberSpec)) fnNumberUptoCard

/-- THE SECOND FORM's CARD OF 'laws.FnBytesAreRead'. -/
def fnBytesAreReadUptoCard : Claim7 := { stood := { row := fnBytesAreReadUptoRow, standIns := [], harness := (true, "14d29ac0ec4011c7988cbd1731a1f872435943428a3f70f14723b0416968a2ff"), looks := true }, kinds := [], alts := [], laidByText := true, laidKinds := [.data, .data, .data, .data, .sentinel, .sentinel, .sentinel, .pinned], laidTests := true, laidLooks := .later }
def FnBytesAreReadUptoCardSaid : Prop := Claim7.holds Tryd.pinned (.plain (OpenSpec.upto fnBytesAreReadSpec)) fnBytesAreReadUptoCard

/-- THE SECOND FORM's CARD OF 'laws.FnPutOctal'. -/
def fnPutOctalUptoCard : Claim7 := { stood := { row := fnPutOctalUptoRow, standIns := [], harness := (true, "14d29ac0ec4011c7988cbd1731a1f872435943428a3f70f14723b0416968a2ff"), looks := true }, kinds := [], alts := [], laidByText := true, laidKinds := [.data, .data, .data, .data, .sentinel, .sentinel, .sentinel, .sentinel, .pinned], laidTests := true, laidLooks := .later }
def FnPutOctalUptoCardSaid : Prop := Claim7.holds Tryd.pinned (.plain (OpenSpec.upto fnPutOctalSpec)) fnPutOctalUptoCard

/-- THE SECOND FORM's CARD OF 'laws.FnPutNumber'. -/
def fnPutNumberUptoCard : Claim7 := { stood := { row := fnPutNumberUptoRow, standIns := [], harness := (true, "14d29ac0ec4011c7988cbd1731a1f872435943428a3f70f14723b0416968a2ff"), looks := true }, kinds := [], alts := [], laidByText := true, laidKinds := [.data, .data, .data, .data, .sentinel, .sentinel, .sentinel, .sentinel, .pinned], laidTests := true, laidLooks := .later }
def FnPutNumberUptoCardSaid : Prop := Claim7.holds Tryd.pinned (.plain (OpenSpec.upto fnPutNumberSpec)) fnPutNumberUptoCard
end Rows
end Go.Proofs.YtagjbndcbcepcaaDoor
