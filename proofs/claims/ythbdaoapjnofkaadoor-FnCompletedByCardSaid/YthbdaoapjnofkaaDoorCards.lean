/-
  DERIVED. GIVEN WITH THE SEED: THE CARDS: each row of YthbdaoapjnofkaaDoorRows.lean that lists a variable, with what it lists TIED to the program's text (the seventh form; the later family's looks); each row that meets fmt, with fmt's text TOLD by the authors' own Lean function (tested against real Go, not proved from fmt's source: count such statements apart). THE CARD IS WHAT COUNTS. Prove the row's statement (the work); the ties are given (YthbdaoapjnofkaaDoorTie.lean); close each card by the builder's one call (the guide's Derived/Test/ToyasCard.lean, 'card_holds'). Laid BY PROGRAM, IN A SANDBOX (cutbox-door.mjs). By AI agents, Wed Nov 11 2026. No macro, syntax, notation, axiom, sorry.
-/
import Derived.Test.YthbdaoapjnofkaaDoorRows
import GoSem.ClaimSeven
namespace Go.Proofs.YthbdaoapjnofkaaDoor
namespace Rows

/-- THE TIED CARD OF 'laws.FnAggregatedAll'. -/
def fnAggregatedAllCard : Claim7 := { stood := { row := fnAggregatedAllRow, standIns := [], harness := (true, "02c84bea3471465ef756ae99ecbd09c7eb3efd8251a41c136c29a31440352b2e"), looks := true }, kinds := [], alts := [], laidByText := true, laidKinds := [.wider], laidTests := true, laidLooks := .later }
def FnAggregatedAllCardSaid : Prop := Claim7.holds Tryd.pinned (.plain (OpenSpec.ofChange fnAggregatedAllSpec)) fnAggregatedAllCard

/-- THE TIED CARD OF 'laws.FnBufferWidth'. -/
def fnBufferWidthCard : Claim7 := { stood := { row := fnBufferWidthRow, standIns := [], harness := (true, "02c84bea3471465ef756ae99ecbd09c7eb3efd8251a41c136c29a31440352b2e"), looks := true }, kinds := [], alts := [], laidByText := true, laidKinds := [.sentinel], laidTests := true, laidLooks := .later }
def FnBufferWidthCardSaid : Prop := Claim7.holds Tryd.pinned (.plain (OpenSpec.ofChange fnBufferWidthSpec)) fnBufferWidthCard

/-- THE TIED CARD OF 'laws.FnSplitRows'. -/
def fnSplitRowsCard : Claim7 := { stood := { row := fnSplitRowsRow, standIns := [], harness := (true, "02c84bea3471465ef756ae99ecbd09c7eb3efd8251a41c136c29a31440352b2e"), looks := true }, kinds := [], alts := [], laidByText := true, laidKinds := [.sentinel, .wider], laidTests := true, laidLooks := .later }
def FnSplitRowsCardSaid : Prop := Claim7.holds Tryd.pinned (.plain (OpenSpec.ofChange fnSplitRowsSpec)) fnSplitRowsCard

/-- THE TIED CARD OF 'laws.FnDedented'. -/
def fnDedentedCard : Claim7 := { stood := { row := fnDedentedRow, standIns := [], harness := (true, "02c84bea3471465ef756ae99ecbd09c7eb3efd8251a41c136c29a31440352b2e"), looks := true }, kinds := [], alts := [], laidByText := true, laidKinds := [.sentinel], laidTests := true, laidLooks := .later }
def FnDedentedCardSaid : Prop := Claim7.holds Tryd.pinned (.plain (OpenSpec.ofChange fnDedentedSpec)) fnDedentedCard

/-- THE TIED CARD OF 'laws.FnCompletedBy'. -/
def fnCompletedByCard : Claim7 := { stood := { row := fnCompletedByRow, standIns := [], harness := (true, "02c84bea3471465ef756ae99ecbd09c7eb3efd8251a41c136c29a31440352b2e"), looks := true }, kinds := [], alts := [], laidByText := true, laidKinds := [.listed, .wider], laidTests := true, laidLooks := .later }
def FnCompletedByCardSaid : Prop := Claim7.holds Tryd.pinned (.plain (OpenSpec.ofChange fnCompletedBySpec)) fnCompletedByCard

/-- THE TIED CARD OF 'laws.FnCompletedCursor'. -/
def fnCompletedCursorCard : Claim7 := { stood := { row := fnCompletedCursorRow, standIns := [], harness := (true, "02c84bea3471465ef756ae99ecbd09c7eb3efd8251a41c136c29a31440352b2e"), looks := true }, kinds := [], alts := [], laidByText := true, laidKinds := [.listed, .wider], laidTests := true, laidLooks := .later }
def FnCompletedCursorCardSaid : Prop := Claim7.holds Tryd.pinned (.plain (OpenSpec.ofChange fnCompletedCursorSpec)) fnCompletedCursorCard

/-- THE TIED CARD OF 'laws.FnKeyControls'. -/
def fnKeyControlsCard : Claim7 := { stood := { row := fnKeyControlsRow, standIns := [], harness := (true, "02c84bea3471465ef756ae99ecbd09c7eb3efd8251a41c136c29a31440352b2e"), looks := true }, kinds := [], alts := [], laidByText := true, laidKinds := [.data, .data, .data, .data], laidTests := true, laidLooks := .later }
def FnKeyControlsCardSaid : Prop := Claim7.holds Tryd.pinned (.plain (OpenSpec.ofChange fnKeyControlsSpec)) fnKeyControlsCard

/-- THE TIED CARD OF 'laws.FnFiltered'. -/
def fnFilteredCard : Claim7 := { stood := { row := fnFilteredRow, standIns := [], harness := (true, "02c84bea3471465ef756ae99ecbd09c7eb3efd8251a41c136c29a31440352b2e"), looks := true }, kinds := [], alts := [], laidByText := true, laidKinds := [.data, .pinned, .pinned], laidTests := true, laidLooks := .later }
def FnFilteredCardSaid : Prop := Claim7.holds Tryd.pinned (.plain (OpenSpec.ofChange fnFilteredSpec)) fnFilteredCard

/-- THE SECOND FORM's CARD OF 'laws.FnAggregatedAll'. -/
def fnAggregatedAllUptoCard : Claim7 := { stood := { row := fnAggregatedAllUptoRow, standIns := [], harness := (true, "02c84bea3471465ef756ae99ecbd09c7eb3efd8251a41c136c29a31440352b2e"), looks := true }, kinds := [], alts := [], laidByText := true, laidKinds := [.wider], laidTests := true, laidLooks := .later }
def FnAggregatedAllUptoCardSaid : Prop := Claim7.holds Tryd.pinned (.plain (OpenSpec.upto fnAggregatedAllSpec)) fnAggregatedAllUptoCard

/-- THE SECOND FORM's CARD OF 'laws.FnBufferWidth'. -/
def fnBufferWidthUptoCard : Claim7 := { stood := { row := fnBufferWidthUptoRow, standIns := [], harness := (true, "02c84bea3471465ef756ae99ecbd09c7eb3efd8251a41c136c29a31440352b2e"), looks := true }, kinds := [], alts := [], laidByText := true, laidKinds := [.sentinel], laidTests := true, laidLooks := .later }
def FnBufferWidthUptoCardSaid : Prop := Claim7.holds Tryd.pinned (.plain (OpenSpec.upto fnBufferWidthSpec)) fnBufferWidthUptoCard

/-- THE SECOND FORM's CARD OF 'laws.FnSplitRows'. -/
def fnSplitRowsUptoCard : Claim7 := { stood := { row := fnSplitRowsUptoRow, standIns := [], harness := (true, "02c84bea3471465ef756ae99ecbd09c7eb3efd8251a41c136c29a31440352b2e"), looks := true }, kinds := [], alts := [], laidByText := true, laidKinds := [.sentinel, .wider], laidTests := true, laidLooks := .later }
def FnSplitRowsUptoCardSaid : Prop := Claim7.holds Tryd.pinned (.plain (OpenSpec.upto fnSplitRowsSpec)) fnSplitRowsUptoCard

/-- THE SECOND FORM's CARD OF 'laws.FnDedented'. -/
def fnDedentedUptoCard : Claim7 := { stood := { row := fnDedentedUptoRow, standIns := [], harness := (true, "02c84bea3471465ef756ae99ecbd09c7eb3efd8251a41c136c29a31440352b2e"), looks := true }, kinds := [], alts := [], laidByText := true, laidKinds := [.sentinel], laidTests := true, laidLooks := .later }
def FnDedentedUptoCardSaid : Prop := Claim7.holds Tryd.pinned (.plain (OpenSpec.upto fnDedentedSpec)) fnDedentedUptoCard

/-- THE SECOND FORM's CARD OF 'laws.FnCompletedBy'. -/
def fnCompletedByUptoCard : Claim7 := { stood := { row := fnCompletedByUptoRow, standIns := [], harness := (true, "02c84bea3471465ef756ae99ecbd09c7eb3efd8251a41c136c29a31440352b2e"), looks := true }, kinds := [], alts := [], laidByText := true, laidKinds := [.listed, .wider], laidTests := true, laidLooks := .later }
def FnCompletedByUptoCardSaid : Prop := Claim7.holds Tryd.pinned (.plain (OpenSpec.upto fnCompletedBySpec)) fnCompletedByUptoCard

/-- THE SECOND FORM's CARD OF 'laws.FnCompletedCursor'. -/
def fnCompletedCursorUptoCard : Claim7 := { stood := { row := fnCompletedCursorUptoRow, standIns := [], harness := (true, "02c84bea3471465ef756ae99ecbd09c7eb3efd8251a41c136c29a31440352b2e"), looks := true }, kinds := [], alts := [], laidByText := true, laidKinds := [.listed, .wider], laidTests := true, laidLooks := .later }
def FnCompletedCursorUptoCardSaid : Prop := Claim7.holds Tryd.pinned (.plain (OpenSpec.upto fnCompletedCursorSpec)) fnCompletedCursorUptoCard

/-- THE SECOND FORM's CARD OF 'laws.FnKeyControls'. -/
def fnKeyControlsUptoCard : Claim7 := { stood := { row := fnKeyControlsUptoRow, standIns := [], harness := (true, "02c84bea3471465ef756ae99ecbd09c7eb3efd8251a41c136c29a31440352b2e"), looks := true }, kinds := [], alts := [], laidByText := true, laidKinds := [.data, .data, .data, .data], laidTests := true, laidLooks := .later }
def FnKeyControlsUptoCardSaid : Prop := Claim7.holds Tryd.pinned (.plain (OpenSpec.upto fnKeyControlsSpec)) fnKeyControlsUptoCard

/-- THE SECOND FORM's CARD OF 'laws.FnFiltered'. -/
def fnFilteredUptoCard : Claim7 := { stood := { row := fnFilteredUptoRow, standIns := [], harness := (true, "02c84bea3471465ef756ae99ecbd09c7eb3efd8251a41c136c29a31440352b2e"), looks := true }, kinds := [], alts := [], laidByText := true, laidKinds := [.data, .pinned, .pinned], laidTests := true, laidLooks := .later }
def FnFilteredUptoCardSaid : Prop := Claim7.holds Tryd.pinned (.plain (OpenSpec.upto fnFilteredSpec)) fnFilteredUptoCard
end Rows
end Go.Proofs.YthbdaoapjnofkaaDoor
