/-
  DERIVED. GIVEN WITH THE SEED: THE CARDS: each row of YtegbfhfmbjdjiaaDoorRows.lean that lists a variable, with what it lists TIED to the program's text (the seventh form; the later family's looks); each row that meets fmt, with fmt's text TOLD by the authors' own Lean function (tested against real Go, not proved from fmt's source: count such statements apart). THE CARD IS WHAT COUNTS. Prove the row's statement (the work); the ties are given (YtegbfhfmbjdjiaaDoorTie.lean); close each card by the builder's one call (the guide's Derived/Test/ToyasCard.lean, 'card_holds'). Laid BY PROGRAM, IN A SANDBOX (cutbox-door.mjs). By AI agents, Wed Nov 11 2026. No macro, syntax, notation, axiom, sorry.
-/
import Derived.Test.YtegbfhfmbjdjiaaDoorRows
import GoSem.ClaimSeven
namespace Go.Proofs.YtegbfhfmbjdjiaaDoor
namespace Rows

/-- THE TIED CARD OF 'laws.FnWriterAllowed'. -/
def fnWriterAllowedCard : Claim7 := { stood := { row := fnWriterAllowedRow, standIns := [], harness := (true, "c13062765e52ba1836e5b20382760a37a3582b8f508db412dcc07baa2fcb5a79"), looks := true }, kinds := [], alts := [], laidByText := true, laidKinds := [.sentinel, .sentinel, .sentinel, .sentinel, .sentinel, .sentinel, .sentinel, .sentinel], laidTests := true, laidLooks := .later }
def FnWriterAllowedCardSaid : Prop := Claim7.holds Tryd.pinned (.plain (OpenSpec.ofChange fnWriterAllowedSpec)) fnWriterAllowedCard

/-- THE TIED CARD OF 'laws.FnWritten'. -/
def fnWrittenCard : Claim7 := { stood := { row := fnWrittenRow, standIns := [], harness := (true, "c13062765e52ba1836e5b20382760a37a3582b8f508db412dcc07baa2fcb5a79"), looks := true }, kinds := [], alts := [], laidByText := true, laidKinds := [.sentinel, .sentinel, .sentinel, .sentinel, .sentinel, .sentinel, .sentinel, .sentinel], laidTests := true, laidLooks := .later }
def FnWrittenCardSaid : Prop := Claim7.holds Tryd.pinned (.plain (OpenSpec.ofChange fnWrittenSpec)) fnWrittenCard

/-- THE SECOND FORM's CARD OF 'laws.FnWriterAllowed'. -/
def fnWriterAllowedUptoCard : Claim7 := { stood := { row := fnWriterAllowedUptoRow, standIns := [], harness := (true, "c13062765e52ba1836e5b20382760a37a3582b8f508db412dcc07baa2fcb5a79"), looks := true }, kinds := [], alts := [], laidByText := true, laidKinds := [.sentinel, .sentinel, .sentinel, .sentinel, .sentinel, .sentinel, .sentinel, .sentinel], laidTests := true, laidLooks := .later }
def FnWriterAllowedUptoCardSaid : Prop := Claim7.holds Tryd.pinned (.plain (OpenSpec.upto fnWriterAllowedSpec)) fnWriterAllowedUptoCard

/-- THE SECOND FORM's CARD OF 'laws.FnWritten'. -/
def fnWrittenUptoCard : Claim7 := { stood := { row := fnWrittenUptoRow, standIns := [], harness := (true, "c13062765e52ba1836e5b20382760a37a3582b8f508db412dcc07baa2fcb5a79"), looks := true }, kinds := [], alts := [], laidByText := true, laidKinds := [.sentinel, .sentinel, .sentinel, .sentinel, .sentinel, .sentinel, .sentinel, .sentinel], laidTests := true, laidLooks := .later }
def FnWrittenUptoCardSaid : Prop := Claim7.holds Tryd.pinned (.plain (OpenSpec.upto fnWrittenSpec)) fnWrittenUptoCard
end Rows
end Go.Proofs.YtegbfhfmbjdjiaaDoor
