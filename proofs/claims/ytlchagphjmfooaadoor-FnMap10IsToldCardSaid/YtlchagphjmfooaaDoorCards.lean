/-
  DERIVED. GIVEN WITH THE SEED: THE CARDS: each row of YtlchagphjmfooaaDoorRows.lean that lists a variable, with what it lists TIED to the program's text (the seventh form; the later family's looks); each row that meets fmt, with fmt's text TOLD by the authors' own Lean function (tested against real Go, not proved from fmt's source: count such statements apart). THE CARD IS WHAT COUNTS. Prove the row's statement (the work); the ties are given (YtlchagphjmfooaaDoorTie.lean); close each card by the builder's one call (the guide's Derived/Test/ToyasCard.lean, 'card_holds'). Laid BY PROGRAM, IN A SANDBOX (cutbox-door.mjs). By AI agents, Wed Nov 11 2026. No macro, syntax, notation, axiom, sorry.
-/
import Derived.Test.YtlchagphjmfooaaDoorRows
import GoSem.ClaimSeven
namespace Go.Proofs.YtlchagphjmfooaaDoor
namespace Rows

/-- THE TIED CARD OF 'laws.FnReadRecord'. -/
def fnReadRecordCard : Claim7 := { stood := { row := fnReadRecordRow, standIns := [], harness := (true, "a0df7433a033861d1c17d133500a1c8b9901765d0b6788a636ca4f4085c33244"), looks := true }, kinds := [], alts := [], laidByText := true, laidKinds := [.data, .data, .data, .sentinel, .sentinel, .sentinel], laidTests := true, laidLooks := .later }
def FnReadRecordCardSaid : Prop := Claim7.holds Tryd.pinned (.plain (OpenSpec.ofChange fnReadRecordSpec)) fnReadRecordCard

/-- THE TIED CARD OF 'laws.FnRecordIsRead'. -/
def fnRecordIsReadCard : Claim7 := { stood := { row := fnRecordIsReadRow, standIns := [], harness := (true, "a0df7433a033861d1c17d133500a1c8b9901765d0b6788a636ca4f4085c33244"), looks := true }, kinds := [], alts := [], laidByText := true, laidKinds := [.data, .data, .data, .sentinel, .sentinel, .sentinel], laidTests := true, laidLooks := .later }
def FnRecordIsReadCardSaid : Prop := Claim7.holds Tryd.pinned (.plain (OpenSpec.ofChange fnRecordIsReadSpec)) fnRecordIsReadCard

/-- THE TIED CARD OF 'laws.FnReadTime'. -/
def fnReadTimeCard : Claim7 := { stood := { row := fnReadTimeRow, standIns := [], harness := (true, "a0df7433a033861d1c17d133500a1c8b9901765d0b6788a636ca4f4085c33244"), looks := true }, kinds := [], alts := [], laidByText := true, laidKinds := [.data, .data, .data, .sentinel, .sentinel, .sentinel], laidTests := true, laidLooks := .later }
def FnReadTimeCardSaid : Prop := Claim7.holds Tryd.pinned (.plain (OpenSpec.ofChange fnReadTimeSpec)) fnReadTimeCard

/-- THE TIED CARD OF 'laws.FnTimesAreRead'. -/
def fnTimesAreReadCard : Claim7 := { stood := { row := fnTimesAreReadRow, standIns := [], harness := (true, "a0df7433a033861d1c17d133500a1c8b9901765d0b6788a636ca4f4085c33244"), looks := true }, kinds := [], alts := [], laidByText := true, laidKinds := [.data, .data, .data, .sentinel, .sentinel, .sentinel], laidTests := true, laidLooks := .later }
def FnTimesAreReadCardSaid : Prop := Claim7.holds Tryd.pinned (.plain (OpenSpec.ofChange fnTimesAreReadSpec)) fnTimesAreReadCard

/-- THE TIED CARD OF 'laws.FnMap01'. -/
def fnMap01Card : Claim7 := { stood := { row := fnMap01Row, standIns := [], harness := (true, "a0df7433a033861d1c17d133500a1c8b9901765d0b6788a636ca4f4085c33244"), looks := true }, kinds := [], alts := [], laidByText := true, laidKinds := [.data, .data, .data, .sentinel, .sentinel, .sentinel, .sentinel], laidTests := true, laidLooks := .later }
def FnMap01CardSaid : Prop := Claim7.holds Tryd.pinned (.plain (OpenSpec.ofChange fnMap01Spec)) fnMap01Card

/-- THE TIED CARD OF 'laws.FnPutRecord'. -/
def fnPutRecordCard : Claim7 := { stood := { row := fnPutRecordRow, standIns := [], harness := (true, "a0df7433a033861d1c17d133500a1c8b9901765d0b6788a636ca4f4085c33244"), looks := true }, kinds := [], alts := [], laidByText := true, laidKinds := [.data, .data, .data, .sentinel, .sentinel, .sentinel], laidTests := true, laidLooks := .later }
def FnPutRecordCardSaid : Prop := Claim7.holds Tryd.pinned (.plain (OpenSpec.ofChange fnPutRecordSpec)) fnPutRecordCard

/-- THE TIED CARD OF 'laws.FnPutTime'. -/
def fnPutTimeCard : Claim7 := { stood := { row := fnPutTimeRow, standIns := [], harness := (true, "a0df7433a033861d1c17d133500a1c8b9901765d0b6788a636ca4f4085c33244"), looks := true }, kinds := [], alts := [], laidByText := true, laidKinds := [.data, .data, .data, .sentinel, .sentinel, .sentinel], laidTests := true, laidLooks := .later }
def FnPutTimeCardSaid : Prop := Claim7.holds Tryd.pinned (.plain (OpenSpec.ofChange fnPutTimeSpec)) fnPutTimeCard

/-- THE TIED CARD OF 'laws.FnMap10'. -/
def fnMap10Card : Claim7 := { stood := { row := fnMap10Row, standIns := [], harness := (true, "a0df7433a033861d1c17d133500a1c8b9901765d0b6788a636ca4f4085c33244"), looks := true }, kinds := [], alts := [], laidByText := true, laidKinds := [.data, .data, .data, .sentinel, .sentinel, .sentinel, .sentinel, .sentinel, .sentinel, .sentinel], laidTests := true, laidLooks := .later }
def FnMap10CardSaid : Prop := Claim7.holds Tryd.pinned (.plain (OpenSpec.ofChange fnMap10Spec)) fnMap10Card

/-- THE TIED CARD OF 'laws.FnMap10IsTold'. -/
def fnMap10IsToldCard : Claim7 := { stood := { row := fnMap10IsToldRow, standIns := [], harness := (true, "a0df7433a033861d1c17d133500a1c8b9901765d0b6788a636ca4f4085c33244"), looks := true }, kinds := [], alts := [], laidByText := true, laidKinds := [.data, .data, .data, .sentinel, .sentinel, .sentinel, .sentinel, .sentinel, .sentinel, .sentinel], laidTests := true, laidLooks := .later }
def FnMap10IsToldCardSaid : Prop := Claim7.holds Tryd.pinned (.plain (OpenSpec.ofChange fnMap10IsToldSpec)) fnMap10IsToldCard

/-- THE TIED CARD OF 'laws.FnRecords'. -/
def fnRecordsCard : Claim7 := { stood := { row := fnRecordsRow, standIns := [], harness := (true, "a0df7433a033861d1c17d133500a1c8b9901765d0b6788a636ca4f4085c33244"), looks := true }, kinds := [], alts := [], laidByText := true, laidKinds := [.data, .data, .data, .sentinel, .sentinel, .sentinel, .sentinel, .sentinel], laidTests := true, laidLooks := .later }
def FnRecordsCardSaid : Prop := Claim7.holds Tryd.pinned (.plain (OpenSpec.ofChange fnRecordsSpec)) fnRecordsCard

/-- THE TIED CARD OF 'laws.FnRecordsAreRead'. -/
def fnRecordsAreReadCard : Claim7 := { stood := { row := fnRecordsAreReadRow, standIns := [], harness := (true, "a0df7433a033861d1c17d133500a1c8b9901765d0b6788a636ca4f4085c33244"), looks := true }, kinds := [], alts := [], laidByText := true, laidKinds := [.data, .data, .data, .sentinel, .sentinel, .sentinel, .sentinel, .sentinel], laidTests := true, laidLooks := .later }
def FnRecordsAreReadCardSaid : Prop := Claim7.holds Tryd.pinned (.plain (OpenSpec.ofChange fnRecordsAreReadSpec)) fnRecordsAreReadCard

/-- THE SECOND FORM's CARD OF 'laws.FnReadRecord'. -/
def fnReadRecordUptoCard : Claim7 := { stood := { row := fnReadRecordUptoRow, standIns := [], harness := (true, "a0df7433a033861d1c17d133500a1c8b9901765d0b6788a636ca4f4085c33244"), looks := true }, kinds := [], alts := [], laidByText := true, laidKinds := [.data, .data, .data, .sentinel, .sentinel, .sentinel], laidTests := true, laidLooks := .later }
def FnReadRecordUptoCardSaid : Prop := Claim7.holds Tryd.pinned (.plain (OpenSpec.upto fnReadRecordSpec)) fnReadRecordUptoCard

/-- THE SECOND FORM's CARD OF 'laws.FnRecordIsRead'. -/
def fnRecordIsReadUptoCard : Claim7 := { stood := { row := fnRecordIsReadUptoRow, standIns := [], harness := (true, "a0df7433a033861d1c17d133500a1c8b9901765d0b6788a636ca4f4085c33244"), looks := true }, kinds := [], alts := [], laidByText := true, laidKinds := [.data, .data, .data, .sentinel, .sentinel, .sentinel], laidTests := true, laidLooks := .later }
def FnRecordIsReadUptoCardSaid : Prop := Claim7.holds Tryd.pinned (.plain (OpenSpec.upto fnRecordIsReadSpec)) fnRecordIsReadUptoCard

/-- THE SECOND FORM's CARD OF 'laws.FnReadTime'. -/
def fnReadTimeUptoCard : Claim7 := { stood := { row := fnReadTimeUptoRow, standIns := [], harness := (true, "a0df7433a033861d1c17d133500a1c8b9901765d0b6788a636ca4f4085c33244"), looks := true }, kinds := [], alts := [], laidByText := true, laidKinds := [.data, .data, .data, .sentinel, .sentinel, .sentinel], laidTests := true, laidLooks := .later }
def FnReadTimeUptoCardSaid : Prop := Claim7.holds Tryd.pinned (.plain (OpenSpec.upto fnReadTimeSpec)) fnReadTimeUptoCard

/-- THE SECOND FORM's CARD OF 'laws.FnTimesAreRead'. -/
def fnTimesAreReadUptoCard : Claim7 := { stood := { row := fnTimesAreReadUptoRow, standIns := [], harness := (true, "a0df7433a033861d1c17d133500a1c8b9901765d0b6788a636ca4f4085c33244"), looks := true }, kinds := [], alts := [], laidByText := true, laidKinds := [.data, .data, .data, .sentinel, .sentinel, .sentinel], laidTests := true, laidLooks := .later }
def FnTimesAreReadUptoCardSaid : Prop := Claim7.holds Tryd.pinned (.plain (OpenSpec.upto fnTimesAreReadSpec)) fnTimesAreReadUptoCard

/-- THE SECOND FORM's CARD OF 'laws.FnMap01'. -/
def fnMap01UptoCard : Claim7 := { stood := { row := fnMap01UptoRow, standIns := [], harness := (true, "a0df7433a033861d1c17d133500a1c8b9901765d0b6788a636ca4f4085c33244"), looks := true }, kinds := [], alts := [], laidByText := true, laidKinds := [.data, .data, .data, .sentinel, .sentinel, .sentinel, .sentinel], laidTests := true, laidLooks := .later }
def FnMap01UptoCardSaid : Prop := Claim7.holds Tryd.pinned (.plain (OpenSpec.upto fnMap01Spec)) fnMap01UptoCard

/-- THE SECOND FORM's CARD OF 'laws.FnPutRecord'. -/
def fnPutRecordUptoCard : Claim7 := { stood := { row := fnPutRecordUptoRow, standIns := [], harness := (true, "a0df7433a033861d1c17d133500a1c8b9901765d0b6788a636ca4f4085c33244"), looks := true }, kinds := [], alts := [], laidByText := true, laidKinds := [.data, .data, .data, .sentinel, .sentinel, .sentinel], laidTests := true, laidLooks := .later }
def FnPutRecordUptoCardSaid : Prop := Claim7.holds Tryd.pinned (.plain (OpenSpec.upto fnPutRecordSpec)) fnPutRecordUptoCard

/-- THE SECOND FORM's CARD OF 'laws.FnPutTime'. -/
def fnPutTimeUptoCard : Claim7 := { stood := { row := fnPutTimeUptoRow, standIns := [], harness := (true, "a0df7433a033861d1c17d133500a1c8b9901765d0b6788a636ca4f4085c33244"), looks := true }, kinds := [], alts := [], laidByText := true, laidKinds := [.data, .data, .data, .sentinel, .sentinel, .sentinel], laidTests := true, laidLooks := .later }
def FnPutTimeUptoCardSaid : Prop := Claim7.holds Tryd.pinned (.plain (OpenSpec.upto fnPutTimeSpec)) fnPutTimeUptoCard

/-- THE SECOND FORM's CARD OF 'laws.FnMap10'. -/
def fnMap10UptoCard : Claim7 := { stood := { row := fnMap10UptoRow, standIns := [], harness := (true, "a0df7433a033861d1c17d133500a1c8b9901765d0b6788a636ca4f4085c33244"), looks := true }, kinds := [], alts := [], laidByText := true, laidKinds := [.data, .data, .data, .sentinel, .sentinel, .sentinel, .sentinel, .sentinel, .sentinel, .sentinel], laidTests := true, laidLooks := .later }
def FnMap10UptoCardSaid : Prop := Claim7.holds Tryd.pinned (.plain (OpenSpec.upto fnMap10Spec)) fnMap10UptoCard

/-- THE SECOND FORM's CARD OF 'laws.FnMap10IsTold'. -/
def fnMap10IsToldUptoCard : Claim7 := { stood := { row := fnMap10IsToldUptoRow, standIns := [], harness := (true, "a0df7433a033861d1c17d133500a1c8b9901765d0b6788a636ca4f4085c33244"), looks := true }, kinds := [], alts := [], laidByText := true, laidKinds := [.data, .data, .data, .sentinel, .sentinel, .sentinel, .sentinel, .sentinel, .sentinel, .sentinel], laidTests := true, laidLooks := .later }
def FnMap10IsToldUptoCardSaid : Prop := Claim7.holds Tryd.pinned (.plain (OpenSpec.upto fnMap10IsToldSpec)) fnMap10IsToldUptoCard

/-- THE SECOND FORM's CARD OF 'laws.FnRecords'. -/
def fnRecordsUptoCard : Claim7 := { stood := { row := fnRecordsUptoRow, standIns := [], harness := (true, "a0df7433a033861d1c17d133500a1c8b9901765d0b6788a636ca4f4085c33244"), looks := true }, kinds := [], alts := [], laidByText := true, laidKinds := [.data, .data, .data, .sentinel, .sentinel, .sentinel, .sentinel, .sentinel], laidTests := true, laidLooks := .later }
def FnRecordsUptoCardSaid : Prop := Claim7.holds Tryd.pinned (.plain (OpenSpec.upto fnRecordsSpec)) fnRecordsUptoCard

/-- THE SECOND FORM's CARD OF 'laws.FnRecordsAreRead'. -/
def fnRecordsAreReadUptoCard : Claim7 := { stood := { row := fnRecordsAreReadUptoRow, standIns := [], harness := (true, "a0df7433a033861d1c17d133500a1c8b9901765d0b6788a636ca4f4085c33244"), looks := true }, kinds := [], alts := [], laidByText := true, laidKinds := [.data, .data, .data, .sentinel, .sentinel, .sentinel, .sentinel, .sentinel], laidTests := true, laidLooks := .later }
def FnRecordsAreReadUptoCardSaid : Prop := Claim7.holds Tryd.pinned (.plain (OpenSpec.upto fnRecordsAreReadSpec)) fnRecordsAreReadUptoCard
end Rows
end Go.Proofs.YtlchagphjmfooaaDoor
