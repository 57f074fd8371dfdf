/-
  DERIVED. GIVEN WITH THE SEED: THE CARDS: each row of YtepeehjajhehfaaGreatDoorRows.lean that lists a variable, with what it lists TIED to the program's text (the seventh form; the later family's looks); each row that meets fmt, with fmt's text TOLD by the authors' own Lean function (tested against real Go, not proved from fmt's source: count such statements apart). THE CARD IS WHAT COUNTS. Prove the row's statement (the work); the ties are given (YtepeehjajhehfaaGreatDoorTie.lean); close each card by the builder's one call (the guide's Derived/Test/ToyasCard.lean, 'card_holds'). Laid BY PROGRAM, IN A SANDBOX (cutbox-door.mjs). By AI agents, Wed Nov 11 2026. No macro, syntax, notation, axiom, sorry.
-/
import Derived.Test.YtepeehjajhehfaaGreatDoorRows
import GoSem.ClaimSeven
namespace Go.Proofs.YtepeehjajhehfaaGreatDoor
namespace Rows

/-- THE TIED CARD OF 'laws.FnBlockFormat'. -/
def fnBlockFormatCard : Claim7 := { stood := { row := fnBlockFormatRow, standIns := [], harness := (true, "bb0d4a80b562c3aac05b705823645d343bd5d783b554323b57a52f6fa70cf18e"), looks := true }, kinds := [], alts := [], laidByText := true, laidKinds := [.data, .data, .data, .data, .sentinel, .sentinel, .sentinel, .pinned], laidTests := true, laidLooks := .later }
def FnBlockFormatCardSaid : Prop := Claim7.holds Tryz.pinned (.plain (OpenSpec.ofChange fnBlockFormatSpec)) fnBlockFormatCard

/-- THE TIED CARD OF 'laws.FnAllowed'. -/
def fnAllowedCard : Claim7 := { stood := { row := fnAllowedRow, standIns := [], harness := (true, "bb0d4a80b562c3aac05b705823645d343bd5d783b554323b57a52f6fa70cf18e"), looks := true }, kinds := [], alts := [], laidByText := true, laidKinds := [.data, .data, .data, .mapped], laidTests := true, laidLooks := .later }
def FnAllowedCardSaid : Prop := Claim7.holds Tryz.pinned (.plain (OpenSpec.ofChange fnAllowedSpec)) fnAllowedCard

/-- THE SECOND FORM's CARD OF 'laws.FnBlockFormat'. -/
def fnBlockFormatUptoCard : Claim7 := { stood := { row := fnBlockFormatUptoRow, standIns := [], harness := (true, "bb0d4a80b562c3aac05b705823645d343bd5d783b554323b57a52f6fa70cf18e"), looks := true }, kinds := [], alts := [], laidByText := true, laidKinds := [.data, .data, .data, .data, .sentinel, .sentinel, .sentinel, .pinned], laidTests := true, laidLooks := .later }
def FnBlockFormatUptoCardSaid : Prop := Claim7.holds Tryz.pinned (.plain (OpenSpec.upto fnBlockFormatSpec)) fnBlockFormatUptoCard

/-- THE SECOND FORM's CARD OF 'laws.FnAllowed'. -/
def fnAllowedUptoCard : Claim7 := { stood := { row := fnAllowedUptoRow, standIns := [], harness := (true, "bb0d4a80b562c3aac05b705823645d343bd5d783b554323b57a52f6fa70cf18e"), looks := true }, kinds := [], alts := [], laidByText := true, laidKinds := [.data, .data, .data, .mapped], laidTests := true, laidLooks := .later }
def FnAllowedUptoCardSaid : Prop := Claim7.holds Tryz.pinned (.plain (OpenSpec.upto fnAllowedSpec)) fnAllowedUptoCard
end Rows
end Go.Proofs.YtepeehjajhehfaaGreatDoor
