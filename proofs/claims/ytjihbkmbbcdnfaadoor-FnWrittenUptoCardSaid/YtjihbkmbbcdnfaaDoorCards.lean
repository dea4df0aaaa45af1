/-
  DERIVED. GIVEN WITH THE SEED: THE CARDS: each row of YtjihbkmbbcdnfaaDoorRows.lean that lists a variable, with what it lists TIED to the program's text (the seventh form; the later family's looks); each row that meets fmt, with fmt's text TOLD by the authors' own Lean function (tested against real Go, not proved from fmt's source: count such statements apart). THE CARD IS WHAT COUNTS. Prove the row's statement (the work); the ties are given (YtjihbkmbbcdnfaaDoorTie.lean); close each card by the builder's one call (the guide's Derived/Test/ToyasCard.lean, 'card_holds'). Laid BY PROGRAM, IN A SANDBOX (cutbox-door.mjs). By AI agents, Wed Nov 11 2026. No macro, syntax, notation, axiom, sorry.
-/
import Derived.Test.YtjihbkmbbcdnfaaDoorRows
import GoSem.ClaimSeven
namespace Go.Proofs.YtjihbkmbbcdnfaaDoor
namespace Rows

/-- THE TIED CARD OF 'laws.FnExactWriteAll'. -/
def fnExactWriteAllCard : Claim7 := { stood := { row := fnExactWriteAllRow, standIns := [], harness := (true, "f9746bee39ee89d3d6a12ed7f07f5249d3593dc668cbbff61404de4004eecc71"), looks := true }, kinds := [], alts := [], laidByText := true, laidKinds := [.sentinel, .sentinel, .sentinel, .sentinel, .sentinel, .sentinel, .sentinel, .sentinel], laidTests := true, laidLooks := .later }
def FnExactWriteAllCardSaid : Prop := Claim7.holds Tryd.pinned (.plain (OpenSpec.ofChange fnExactWriteAllSpec)) fnExactWriteAllCard

/-- THE TIED CARD OF 'laws.FnPartsAlike'. -/
def fnPartsAlikeCard : Claim7 := { stood := { row := fnPartsAlikeRow, standIns := [], harness := (true, "f9746bee39ee89d3d6a12ed7f07f5249d3593dc668cbbff61404de4004eecc71"), looks := true }, kinds := [], alts := [], laidByText := true, laidKinds := [.sentinel, .sentinel, .sentinel, .sentinel, .sentinel, .sentinel, .sentinel, .sentinel], laidTests := true, laidLooks := .later }
def FnPartsAlikeCardSaid : Prop := Claim7.holds Tryd.pinned (.plain (OpenSpec.ofChange fnPartsAlikeSpec)) fnPartsAlikeCard

/-- THE TIED CARD OF 'laws.FnWriteAll'. -/
def fnWriteAllCard : Claim7 := { stood := { row := fnWriteAllRow, standIns := [], harness := (true, "f9746bee39ee89d3d6a12ed7f07f5249d3593dc668cbbff61404de4004eecc71"), looks := true }, kinds := [], alts := [], laidByText := true, laidKinds := [.sentinel, .sentinel, .sentinel, .sentinel, .sentinel, .sentinel, .sentinel, .sentinel], laidTests := true, laidLooks := .later }
def FnWriteAllCardSaid : Prop := Claim7.holds Tryd.pinned (.plain (OpenSpec.ofChange fnWriteAllSpec)) fnWriteAllCard

/-- THE TIED CARD OF 'laws.FnSticky'. -/
def fnStickyCard : Claim7 := { stood := { row := fnStickyRow, standIns := [], harness := (true, "f9746bee39ee89d3d6a12ed7f07f5249d3593dc668cbbff61404de4004eecc71"), looks := true }, kinds := [], alts := [], laidByText := true, laidKinds := [.sentinel, .sentinel, .sentinel, .sentinel, .sentinel, .sentinel, .sentinel, .sentinel], laidTests := true, laidLooks := .later }
def FnStickyCardSaid : Prop := Claim7.holds Tryd.pinned (.plain (OpenSpec.ofChange fnStickySpec)) fnStickyCard

/-- THE TIED CARD OF 'laws.FnWriteRunes'. -/
def fnWriteRunesCard : Claim7 := { stood := { row := fnWriteRunesRow, standIns := [], harness := (true, "f9746bee39ee89d3d6a12ed7f07f5249d3593dc668cbbff61404de4004eecc71"), looks := true }, kinds := [], alts := [], laidByText := true, laidKinds := [.sentinel, .sentinel, .sentinel, .sentinel, .sentinel, .sentinel, .sentinel, .sentinel], laidTests := true, laidLooks := .later }
def FnWriteRunesCardSaid : Prop := Claim7.holds Tryd.pinned (.plain (OpenSpec.ofChange fnWriteRunesSpec)) fnWriteRunesCard

/-- THE TIED CARD OF 'laws.FnWriteStrings'. -/
def fnWriteStringsCard : Claim7 := { stood := { row := fnWriteStringsRow, standIns := [], harness := (true, "f9746bee39ee89d3d6a12ed7f07f5249d3593dc668cbbff61404de4004eecc71"), looks := true }, kinds := [], alts := [], laidByText := true, laidKinds := [.sentinel, .sentinel, .sentinel, .sentinel, .sentinel, .sentinel, .sentinel, .sentinel], laidTests := true, laidLooks := .later }
def FnWriteStringsCardSaid : Prop := Claim7.holds Tryd.pinned (.plain (OpenSpec.ofChange fnWriteStringsSpec)) fnWriteStringsCard

/-- THE TIED CARD OF 'laws.FnWriterAllowed'. -/
def fnWriterAllowedCard : Claim7 := { stood := { row := fnWriterAllowedRow, standIns := [], harness := (true, "f9746bee39ee89d3d6a12ed7f07f5249d3593dc668cbbff61404de4004eecc71"), looks := true }, kinds := [], alts := [], laidByText := true, laidKinds := [.sentinel, .sentinel, .sentinel, .sentinel, .sentinel, .sentinel, .sentinel, .sentinel], laidTests := true, laidLooks := .later }
def FnWriterAllowedCardSaid : Prop := Claim7.holds Tryd.pinned (.plain (OpenSpec.ofChange fnWriterAllowedSpec)) fnWriterAllowedCard

/-- THE TIED CARD OF 'laws.FnWritten'. -/
def fnWrittenCard : Claim7 := { stood := { row := fnWrittenRow, standIns := [], harness := (true, "f9746bee39ee89d3d6a12ed7f07f5249d3593dc668cbbff61404de4004eecc71"), looks := true }, kinds := [], alts := [], laidByText := true, laidKinds := [.sentinel, .sentinel, .sentinel, .sentinel, .sentinel, .sentinel, .sentinel, .sentinel], laidTests := true, laidLooks := .later }
def FnWrittenCardSaid : Prop := Claim7.holds Tryd.pinned (.plain (OpenSpec.ofChange fnWrittenSpec)) fnWrittenCard

/-- THE TIED CARD OF 'laws.FnWriterReset'. -/
def fnWriterResetCard : Claim7 := { stood := { row := fnWriterResetRow, standIns := [], harness := (true, "f9746bee39ee89d3d6a12ed7f07f5249d3593dc668cbbff61404de4004eecc71"), looks := true }, kinds := [], alts := [], laidByText := true, laidKinds := [.sentinel, .sentinel, .sentinel, .sentinel, .sentinel, .sentinel, .sentinel, .sentinel], laidTests := true, laidLooks := .later }
def FnWriterResetCardSaid : Prop := Claim7.holds Tryd.pinned (.plain (OpenSpec.ofChange fnWriterResetSpec)) fnWriterResetCard

/-- THE SECOND FORM's CARD OF 'laws.FnExactWriteAll'. -/
def fnExactWriteAllUptoCard : Claim7 := { stood := { row := fnExactWriteAllUptoRow, standIns := [], harness := (true, "f9746bee39ee89d3d6a12ed7f07f5249d3593dc668cbbff61404de4004eecc71"), looks := true }, kinds := [], alts := [], laidByText := true, laidKinds := [.sentinel, .sentinel, .sentinel, .sentinel, .sentinel, .sentinel, .sentinel, .sentinel], laidTests := true, laidLooks := .later }
def FnExactWriteAllUptoCardSaid : Prop := Claim7.holds Tryd.pinned (.plain (OpenSpec.upto fnExactWriteAllSpec)) fnExactWriteAllUptoCard

/-- THE SECOND FORM's CARD OF 'laws.FnPartsAlike'. -/
def fnPartsAlikeUptoCard : Claim7 := { stood := { row := fnPartsAlikeUptoRow, standIns := [], harness := (true, "f9746bee39ee89d3d6a12ed7f07f5249d3593dc668cbbff61404de4004eecc71"), looks := true }, kinds := [], alts := [], laidByText := true, laidKinds := [.sentinel, .sentinel, .sentinel, .sentinel, .sentinel, .sentinel, .sentinel, .sentinel], laidTests := true, laidLooks := .later }
def FnPartsAlikeUptoCardSaid : Prop := Claim7.holds Tryd.pinned (.plain (OpenSpec.upto fnPartsAlikeSpec)) fnPartsAlikeUptoCard

/-- THE SECOND FORM's CARD OF 'laws.FnWriteAll'. -/
def fnWriteAllUptoCard : Claim7 := { stood := { row := fnWriteAllUptoRow, standIns := [], harness := (true, "f9746bee39ee89d3d6a12ed7f07f5249d3593dc668cbbff61404de4004eecc71"), looks := true }, kinds := [], alts := [], laidByText := true, laidKinds := [.sentinel, .sentinel, .sentinel, .sentinel, .sentinel, .sentinel, .sentinel, .sentinel], laidTests := true, laidLooks := .later }
def FnWriteAllUptoCardSaid : Prop := Claim7.holds Tryd.pinned (.plain (OpenSpec.upto fnWriteAllSpec)) fnWriteAllUptoCard

/-- THE SECOND FORM's CARD OF 'laws.FnSticky'. -/
def fnStickyUptoCard : Claim7 := { stood := { row := fnStickyUptoRow, standIns := [], harness := (true, "f9746bee39ee89d3d6a12ed7f07f5249d3593dc668cbbff61404de4004eecc71"), looks := true }, kinds := [], alts := [], laidByText := true, laidKinds := [.sentinel, .sentinel, .sentinel, .sentinel, .sentinel, .sentinel, .sentinel, .sentinel], laidTests := true, laidLooks := .later }
def FnStickyUptoCardSaid : Prop := Claim7.holds Tryd.pinned (.plain (OpenSpec.upto fnStickySpec)) fnStickyUptoCard

/-- THE SECOND FORM's CARD OF 'laws.FnWriteRunes'. -/
def fnWriteRunesUptoCard : Claim7 := { stood := { row := fnWriteRunesUptoRow, standIns := [], harness := (true, "f9746bee39ee89d3d6a12ed7f07f5249d3593dc668cbbff61404de4004eecc71"), looks := true }, kinds := [], alts := [], laidByText := true, laidKinds := [.sentinel, .sentinel, .sentinel, .sentinel, .sentinel, .sentinel, .sentinel, .sentinel], laidTests := true, laidLooks := .later }
def FnWriteRunesUptoCardSaid : Prop := Claim7.holds Tryd.pinned (.plain (OpenSpec.upto fnWriteRunesSpec)) fnWriteRunesUptoCard

/-- THE SECOND FORM's CARD OF 'laws.FnWriteStrings'. -/
def fnWriteStringsUptoCard : Claim7 := { stood := { row := fnWriteStringsUptoRow, standIns := [], harness := (true, "f9746bee39ee89d3d6a12ed7f07f5249d3593dc668cbbff61404de4004eecc71"), looks := true }, kinds := [], alts := [], laidByText := true, laidKinds := [.sentinel, .sentinel, .sentinel, .sentinel, .sentinel, .sentinel, .sentinel, .sentinel], laidTests := true, laidLooks := .later }
def FnWriteStringsUptoCardSaid : Prop := Claim7.holds Tryd.pinned (.plain (OpenSpec.upto fnWriteStringsSpec)) fnWriteStringsUptoCard

/-- THE SECOND FORM's CARD OF 'laws.FnWriterAllowed'. -/
def fnWriterAllowedUptoCard : Claim7 := { stood := { row := fnWriterAllowedUptoRow, standIns := [], harness := (true, "f9746bee39ee89d3d6a12ed7f07f5249d3593dc668cbbff61404de4004eecc71"), looks := true }, kinds := [], alts := [], laidByText := true, laidKinds := [.sentinel, .sentinel, .sentinel, .sentinel, .sentinel, .sentinel, .sentinel, .sentinel], laidTests := true, laidLooks := .later }
def FnWriterAllowedUptoCardSaid : Prop := Claim7.holds Tryd.pinned (.plain (OpenSpec.upto fnWriterAllowedSpec)) fnWriterAllowedUptoCard

/-- THE SECOND FORM's CARD OF 'laws.FnWritten'. -/
def fnWrittenUptoCard : Claim7 := { stood := { row := fnWrittenUptoRow, standIns := [], harness := (true, "f9746bee39ee89d3d6a12ed7f07f5249d3593dc668cbbff61404de4004eecc71"), looks := true }, kinds := [], alts := [], laidByText := true, laidKinds := [.sentinel, .sentinel, .sentinel, .sentinel, .sentinel, .sentinel, .sentinel, .sentinel], laidTests := true, laidLooks := .later }
def FnWrittenUptoCardSaid : Prop := Claim7.holds Tryd.pinned (.plain (OpenSpec.upto fnWrittenSpec)) fnWrittenUptoCard

/-- THE SECOND FORM's CARD OF 'laws.FnWriterReset'. -/
def fnWriterResetUptoCard : Claim7 := { stood := { row := fnWriterResetUptoRow, standIns := [], harness := (true, "f9746bee39ee89d3d6a12ed7f07f5249d3593dc668cbbff61404de4004eecc71"), looks := true }, kinds := [], alts := [], laidByText := true, laidKinds := [.sentinel, .sentinel, .sentinel, .sentinel, .sentinel, .sentinel, .sentinel, .sentinel], laidTests := true, laidLooks := .later }
def FnWriterResetUptoCardSaid : Prop := Claim7.holds Tryd.pinned (.plain (OpenSpec.upto fnWriterResetSpec)) fnWriterResetUptoCard
end Rows
end Go.Proofs.YtjihbkmbbcdnfaaDoor
