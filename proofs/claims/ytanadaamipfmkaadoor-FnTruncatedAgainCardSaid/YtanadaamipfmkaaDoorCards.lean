/-
  DERIVED. GIVEN WITH THE SEED: THE CARDS: each row of YtanadaamipfmkaaDoorRows.lean that lists a variable, with what it lists TIED to the program's text (the seventh form; the later family's looks); each row that meets fmt, with fmt's text TOLD by the authors' own Lean function (tested against real Go, not proved from fmt's source: count such statements apart). THE CARD IS WHAT COUNTS. Prove the row's statement (the work); the ties are given (YtanadaamipfmkaaDoorTie.lean); close each card by the builder's one call (the guide's Derived/Test/ToyasCard.lean, 'card_holds'). Laid BY PROGRAM, IN A SANDBOX (cutbox-door.mjs). By AI agents, Wed Nov 11 2026. No macro, syntax, notation, axiom, sorry.
-/
import Derived.Test.YtanadaamipfmkaaDoorRows
import GoSem.ClaimSeven
namespace Go.Proofs.YtanadaamipfmkaaDoor
namespace Rows

/-- THE TIED CARD OF 'laws.FnPiped'. -/
def fnPipedCard : Claim7 := { stood := { row := fnPipedRow, standIns := [], harness := (true, "b58faa7c56dbd5cda1c29cd6fda7027b52f71d0bfe95eb5fdf6a0e75e41560a5"), looks := false }, kinds := [], alts := [], laidByText := true, laidKinds := [.sentinel, .sentinel], laidTests := true, laidLooks := .later }
def FnPipedCardSaid : Prop := Claim7.holds Tryd.pinned (.plain (OpenSpec.ofChange fnPipedSpec)) fnPipedCard

/-- THE TIED CARD OF 'laws.FnWroteParts'. -/
def fnWrotePartsCard : Claim7 := { stood := { row := fnWrotePartsRow, standIns := [], harness := (true, "b58faa7c56dbd5cda1c29cd6fda7027b52f71d0bfe95eb5fdf6a0e75e41560a5"), looks := false }, kinds := [], alts := [], laidByText := true, laidKinds := [.data, .data, .data], laidTests := true, laidLooks := .later }
def FnWrotePartsCardSaid : Prop := Claim7.holds Tryd.pinned (.plain (OpenSpec.ofChange fnWrotePartsSpec)) fnWrotePartsCard

/-- THE TIED CARD OF 'laws.FnWroteText'. -/
def fnWroteTextCard : Claim7 := { stood := { row := fnWroteTextRow, standIns := [], harness := (true, "b58faa7c56dbd5cda1c29cd6fda7027b52f71d0bfe95eb5fdf6a0e75e41560a5"), looks := false }, kinds := [], alts := [], laidByText := true, laidKinds := [.data, .data, .data], laidTests := true, laidLooks := .later }
def FnWroteTextCardSaid : Prop := Claim7.holds Tryd.pinned (.plain (OpenSpec.ofChange fnWroteTextSpec)) fnWroteTextCard

/-- THE TIED CARD OF 'laws.FnIndented'. -/
def fnIndentedCard : Claim7 := { stood := { row := fnIndentedRow, standIns := [], harness := (true, "b58faa7c56dbd5cda1c29cd6fda7027b52f71d0bfe95eb5fdf6a0e75e41560a5"), looks := false }, kinds := [], alts := [], laidByText := true, laidKinds := [.sentinel, .sentinel], laidTests := true, laidLooks := .later }
def FnIndentedCardSaid : Prop := Claim7.holds Tryd.pinned (.plain (OpenSpec.ofChange fnIndentedSpec)) fnIndentedCard

/-- THE TIED CARD OF 'laws.FnTruncatedAgain'. -/
def fnTruncatedAgainCard : Claim7 := { stood := { row := fnTruncatedAgainRow, standIns := [], harness := (true, "b58faa7c56dbd5cda1c29cd6fda7027b52f71d0bfe95eb5fdf6a0e75e41560a5"), looks := false }, kinds := [], alts := [], laidByText := true, laidKinds := [.sentinel, .sentinel], laidTests := true, laidLooks := .later }
def FnTruncatedAgainCardSaid : Prop := Claim7.holds Tryd.pinned (.plain (OpenSpec.ofChange fnTruncatedAgainSpec)) fnTruncatedAgainCard

/-- THE SECOND FORM's CARD OF 'laws.FnPiped'. -/
def fnPipedUptoCard : Claim7 := { stood := { row := fnPipedUptoRow, standIns := [], harness := (true, "b58faa7c56dbd5cda1c29cd6fda7027b52f71d0bfe95eb5fdf6a0e75e41560a5"), looks := false }, kinds := [], alts := [], laidByText := true, laidKinds := [.sentinel, .sentinel], laidTests := true, laidLooks := .later }
def FnPipedUptoCardSaid : Prop := Claim7.holds Tryd.pinned (.plain (OpenSpec.upto fnPipedSpec)) fnPipedUptoCard

/-- THE SECOND FORM's CARD OF 'laws.FnWroteParts'. -/
def fnWrotePartsUptoCard : Claim7 := { stood := { row := fnWrotePartsUptoRow, standIns := [], harness := (true, "b58faa7c56dbd5cda1c29cd6fda7027b52f71d0bfe95eb5fdf6a0e75e41560a5"), looks := false }, kinds := [], alts := [], laidByText := true, laidKinds := [.data, .data, .data], laidTests := true, laidLooks := .later }
def FnWrotePartsUptoCardSaid : Prop := Claim7.holds Tryd.pinned (.plain (OpenSpec.upto fnWrotePartsSpec)) fnWrotePartsUptoCard

/-- THE SECOND FORM's CARD OF 'laws.FnWroteText'. -/
def fnWroteTextUptoCard : Claim7 := { stood := { row := fnWroteTextUptoRow, standIns := [], harness := (true, "b58faa7c56dbd5cda1c29cd6fda7027b52f71d0bfe95eb5fdf6a0e75e41560a5"), looks := false }, kinds := [], alts := [], laidByText := true, laidKinds := [.data, .data, .data], laidTests := true, laidLooks := .later }
def FnWroteTextUptoCardSaid : Prop := Claim7.holds Tryd.pinned (.plain (OpenSpec.upto fnWroteTextSpec)) fnWroteTextUptoCard

/-- THE SECOND FORM's CARD OF 'laws.FnIndented'. -/
def fnIndentedUptoCard : Claim7 := { stood := { row := fnIndentedUptoRow, standIns := [], harness := (true, "b58faa7c56dbd5cda1c29cd6fda7027b52f71d0bfe95eb5fdf6a0e75e41560a5"), looks := false }, kinds := [], alts := [], laidByText := true, laidKinds := [.sentinel, .sentinel], laidTests := true, laidLooks := .later }
def FnIndentedUptoCardSaid : Prop := Claim7.holds Tryd.pinned (.plain (OpenSpec.upto fnIndentedSpec)) fnIndentedUptoCard

/-- THE SECOND FORM's CARD OF 'laws.FnTruncatedAgain'. -/
def fnTruncatedAgainUptoCard : Claim7 := { stood := { row := fnTruncatedAgainUptoRow, standIns := [], harness := (true, "b58faa7c56dbd5cda1c29cd6fda7027b52f71d0bfe95eb5fdf6a0e75e41560a5"), looks := false }, kinds := [], alts := [], laidByText := true, laidKinds := [.sentinel, .sentinel], laidTests := true, laidLooks := .later }
def FnTruncatedAgainUptoCardSaid : Prop := Claim7.holds Tryd.pinned (.plain (OpenSpec.upto fnTruncatedAgainSpec)) fnTruncatedAgainUptoCard
end Rows
end Go.Proofs.YtanadaamipfmkaaDoor
