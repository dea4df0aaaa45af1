/-
  DERIVED. GIVEN WITH THE SEED: THE CARDS: each row of YtfigpbcmnlkdjaaDoorRows.lean that lists a variable, with what it lists TIED to the program's text (the seventh form; the later family's looks); each row that meets fmt, with fmt's text TOLD by the authors' own Lean function (tested against real Go, not proved from fmt's source: count such statements apart). THE CARD IS WHAT COUNTS. Prove the row's statement (the work); the ties are given (YtfigpbcmnlkdjaaDoorTie.lean); close each card by the builder's one call (the guide's Derived/Test/ToyasCard.lean, 'card_holds'). Laid BY PROGRAM, IN A SANDBOX (cutbox-door.mjs). By AI agents, Wed Nov 11 2026. No macro, syntax, notation, axiom, sorry.
-/
import Derived.Test.YtfigpbcmnlkdjaaDoorRows
import GoSem.ClaimSeven
namespace Go.Proofs.YtfigpbcmnlkdjaaDoor
namespace Rows

/-- THE TIED CARD OF 'laws.FnReadSliceFull'. -/
def fnReadSliceFullCard : Claim7 := { stood := { row := fnReadSliceFullRow, standIns := [], harness := (true, "bcc111a1d435aede9c268d1e5ed1510a328b1a6cac36e5ca5914c5f317fb8675"), looks := true }, kinds := [], alts := [], laidByText := true, laidKinds := [.sentinel, .sentinel, .sentinel, .sentinel, .sentinel, .sentinel, .sentinel, .sentinel, .sentinel], laidTests := true, laidLooks := .later }
def FnReadSliceFullCardSaid : Prop := Claim7.holds Tryd.pinned (.plain (OpenSpec.ofChange fnReadSliceFullSpec)) fnReadSliceFullCard

/-- THE TIED CARD OF 'laws.FnRunesWritten'. -/
def fnRunesWrittenCard : Claim7 := { stood := { row := fnRunesWrittenRow, standIns := [], harness := (true, "bcc111a1d435aede9c268d1e5ed1510a328b1a6cac36e5ca5914c5f317fb8675"), looks := true }, kinds := [], alts := [], laidByText := true, laidKinds := [.data, .sentinel, .sentinel, .sentinel, .sentinel, .sentinel, .sentinel, .sentinel, .sentinel, .sentinel, .pinned], laidTests := true, laidLooks := .later }
def FnRunesWrittenCardSaid : Prop := Claim7.holds Tryd.pinned (.plain (OpenSpec.ofChange fnRunesWrittenSpec)) fnRunesWrittenCard

/-- THE TIED CARD OF 'laws.FnRoundTrip'. -/
def fnRoundTripCard : Claim7 := { stood := { row := fnRoundTripRow, standIns := [], harness := (true, "bcc111a1d435aede9c268d1e5ed1510a328b1a6cac36e5ca5914c5f317fb8675"), looks := true }, kinds := [], alts := [], laidByText := true, laidKinds := [.sentinel, .sentinel, .sentinel, .sentinel, .sentinel, .sentinel, .sentinel, .sentinel, .sentinel], laidTests := true, laidLooks := .later }
def FnRoundTripCardSaid : Prop := Claim7.holds Tryd.pinned (.plain (OpenSpec.ofChange fnRoundTripSpec)) fnRoundTripCard

/-- THE SECOND FORM's CARD OF 'laws.FnReadSliceFull'. -/
def fnReadSliceFullUptoCard : Claim7 := { stood := { row := fnReadSliceFullUptoRow, standIns := [], harness := (true, "bcc111a1d435aede9c268d1e5ed1510a328b1a6cac36e5ca5914c5f317fb8675"), looks := true }, kinds := [], alts := [], laidByText := true, laidKinds := [.sentinel, .sentinel, .sentinel, .sentinel, .sentinel, .sentinel, .sentinel, .sentinel, .sentinel], laidTests := true, laidLooks := .later }
def FnReadSliceFullUptoCardSaid : Prop := Claim7.holds Tryd.pinned (.plain (OpenSpec.upto fnReadSliceFullSpec)) fnReadSliceFullUptoCard

/-- THE SECOND FORM's CARD OF 'laws.FnRunesWritten'. -/
def fnRunesWrittenUptoCard : Claim7 := { stood := { row := fnRunesWrittenUptoRow, standIns := [], harness := (true, "bcc111a1d435aede9c268d1e5ed1510a328b1a6cac36e5ca5914c5f317fb8675"), looks := true }, kinds := [], alts := [], laidByText := true, laidKinds := [.data, .sentinel, .sentinel, .sentinel, .sentinel, .sentinel, .sentinel, .sentinel, .sentinel, .sentinel, .pinned], laidTests := true, laidLooks := .later }
def FnRunesWrittenUptoCardSaid : Prop := Claim7.holds Tryd.pinned (.plain (OpenSpec.upto fnRunesWrittenSpec)) fnRunesWrittenUptoCard

/-- THE SECOND FORM's CARD OF 'laws.FnRoundTrip'. -/
def fnRoundTripUptoCard : Claim7 := { stood := { row := fnRoundTripUptoRow, standIns := [], harness := (true, "bcc111a1d435aede9c268d1e5ed1510a328b1a6cac36e5ca5914c5f317fb8675"), looks := true }, kinds := [], alts := [], laidByText := true, laidKinds := [.sentinel, .sentinel, .sentinel, .sentinel, .sentinel, .sentinel, .sentinel, .sentinel, .sentinel], laidTests := true, laidLooks := .later }
def FnRoundTripUptoCardSaid : Prop := Claim7.holds Tryd.pinned (.plain (OpenSpec.upto fnRoundTripSpec)) fnRoundTripUptoCard
end Rows
end Go.Proofs.YtfigpbcmnlkdjaaDoor
