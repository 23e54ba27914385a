/-
  DERIVED. GIVEN WITH THE SEED: THE CARDS: each row of YtdinikcfhpfojaaDoorRows.lean that lists a variable, with what it lists TIED to the program's text (the seventh form; the later family's looks); each row that meets fmt, with fmt's text TOLD by the authors' own Lean function (tested against real Go, not proved from fmt's source: count such statements apart). THE CARD IS WHAT COUNTS. Prove the row's statement (the work); the ties are given (YtdinikcfhpfojaaDoorTie.lean); close each card by the builder's one call (the guide's Derived/Test/ToyasCard.lean, 'card_holds'). Laid BY PROGRAM, IN A SANDBOX (cutbox-door.mjs). By AI agents, Wed Nov 11 2026. No macro, syntax, notation, axiom, sorry.
-/
import Derived.Test.YtdinikcfhpfojaaDoorRows
import GoSem.ClaimSeven
namespace Go.Proofs.YtdinikcfhpfojaaDoor
namespace Rows

/-- THE TIED CARD OF 'laws.FnMovesKeep'. -/
def fnMovesKeepCard : Claim7 := { stood := { row := fnMovesKeepRow, standIns := [], harness := (true, "919c4c8955ffe272b34cc56d9505af559cd251b8eb30fee0040198638336732c"), looks := true }, kinds := [], alts := [], laidByText := true, laidKinds := [.wider], laidTests := true, laidLooks := .later }
def FnMovesKeepCardSaid : Prop := Claim7.holds Tryd.pinned (.plain (OpenSpec.ofChange fnMovesKeepSpec)) fnMovesKeepCard

/-- THE TIED CARD OF 'laws.FnReplaceBack'. -/
def fnReplaceBackCard : Claim7 := { stood := { row := fnReplaceBackRow, standIns := [], harness := (true, "919c4c8955ffe272b34cc56d9505af559cd251b8eb30fee0040198638336732c"), looks := true }, kinds := [], alts := [], laidByText := true, laidKinds := [.wider], laidTests := true, laidLooks := .later }
def FnReplaceBackCardSaid : Prop := Claim7.holds Tryd.pinned (.plain (OpenSpec.ofChange fnReplaceBackSpec)) fnReplaceBackCard

/-- THE TIED CARD OF 'laws.FnWordsOver'. -/
def fnWordsOverCard : Claim7 := { stood := { row := fnWordsOverRow, standIns := [], harness := (true, "919c4c8955ffe272b34cc56d9505af559cd251b8eb30fee0040198638336732c"), looks := true }, kinds := [], alts := [], laidByText := true, laidKinds := [.wider], laidTests := true, laidLooks := .later }
def FnWordsOverCardSaid : Prop := Claim7.holds Tryd.pinned (.plain (OpenSpec.ofChange fnWordsOverSpec)) fnWordsOverCard

/-- THE TIED CARD OF 'laws.FnYankTwice'. -/
def fnYankTwiceCard : Claim7 := { stood := { row := fnYankTwiceRow, standIns := [], harness := (true, "919c4c8955ffe272b34cc56d9505af559cd251b8eb30fee0040198638336732c"), looks := true }, kinds := [], alts := [], laidByText := true, laidKinds := [.wider], laidTests := true, laidLooks := .later }
def FnYankTwiceCardSaid : Prop := Claim7.holds Tryd.pinned (.plain (OpenSpec.ofChange fnYankTwiceSpec)) fnYankTwiceCard

/-- THE TIED CARD OF 'laws.FnBackWord'. -/
def fnBackWordCard : Claim7 := { stood := { row := fnBackWordRow, standIns := [], harness := (true, "919c4c8955ffe272b34cc56d9505af559cd251b8eb30fee0040198638336732c"), looks := true }, kinds := [], alts := [], laidByText := true, laidKinds := [.wider], laidTests := true, laidLooks := .later }
def FnBackWordCardSaid : Prop := Claim7.holds Tryd.pinned (.plain (OpenSpec.ofChange fnBackWordSpec)) fnBackWordCard

/-- THE TIED CARD OF 'laws.FnMoveToThere'. -/
def fnMoveToThereCard : Claim7 := { stood := { row := fnMoveToThereRow, standIns := [], harness := (true, "919c4c8955ffe272b34cc56d9505af559cd251b8eb30fee0040198638336732c"), looks := true }, kinds := [], alts := [], laidByText := true, laidKinds := [.wider], laidTests := true, laidLooks := .later }
def FnMoveToThereCardSaid : Prop := Claim7.holds Tryd.pinned (.plain (OpenSpec.ofChange fnMoveToThereSpec)) fnMoveToThereCard

/-- THE TIED CARD OF 'laws.FnWordMoves'. -/
def fnWordMovesCard : Claim7 := { stood := { row := fnWordMovesRow, standIns := [], harness := (true, "919c4c8955ffe272b34cc56d9505af559cd251b8eb30fee0040198638336732c"), looks := true }, kinds := [], alts := [], laidByText := true, laidKinds := [.wider], laidTests := true, laidLooks := .later }
def FnWordMovesCardSaid : Prop := Claim7.holds Tryd.pinned (.plain (OpenSpec.ofChange fnWordMovesSpec)) fnWordMovesCard

/-- THE TIED CARD OF 'laws.FnRestored'. -/
def fnRestoredCard : Claim7 := { stood := { row := fnRestoredRow, standIns := [], harness := (true, "919c4c8955ffe272b34cc56d9505af559cd251b8eb30fee0040198638336732c"), looks := true }, kinds := [], alts := [], laidByText := true, laidKinds := [.wider], laidTests := true, laidLooks := .later }
def FnRestoredCardSaid : Prop := Claim7.holds Tryd.pinned (.plain (OpenSpec.ofChange fnRestoredSpec)) fnRestoredCard

/-- THE TIED CARD OF 'laws.FnShownMask'. -/
def fnShownMaskCard : Claim7 := { stood := { row := fnShownMaskRow, standIns := [], harness := (true, "919c4c8955ffe272b34cc56d9505af559cd251b8eb30fee0040198638336732c"), looks := true }, kinds := [], alts := [], laidByText := true, laidKinds := [.data, .data, .data, .sentinel, .wider], laidTests := true, laidLooks := .later }
def FnShownMaskCardSaid : Prop := Claim7.holds Tryd.pinned (.plain (OpenSpec.ofChange fnShownMaskSpec)) fnShownMaskCard

/-- THE TIED CARD OF 'laws.FnPastsBack'. -/
def fnPastsBackCard : Claim7 := { stood := { row := fnPastsBackRow, standIns := [], harness := (true, "919c4c8955ffe272b34cc56d9505af559cd251b8eb30fee0040198638336732c"), looks := true }, kinds := [], alts := [], laidByText := true, laidKinds := [.wider], laidTests := true, laidLooks := .later }
def FnPastsBackCardSaid : Prop := Claim7.holds Tryd.pinned (.plain (OpenSpec.ofChange fnPastsBackSpec)) fnPastsBackCard

/-- THE SECOND FORM's CARD OF 'laws.FnMovesKeep'. -/
def fnMovesKeepUptoCard : Claim7 := { stood := { row := fnMovesKeepUptoRow, standIns := [], harness := (true, "919c4c8955ffe272b34cc56d9505af559cd251b8eb30fee0040198638336732c"), looks := true }, kinds := [], alts := [], laidByText := true, laidKinds := [.wider], laidTests := true, laidLooks := .later }
def FnMovesKeepUptoCardSaid : Prop := Claim7.holds Tryd.pinned (.plain (OpenSpec.upto fnMovesKeepSpec)) fnMovesKeepUptoCard

/-- THE SECOND FORM's CARD OF 'laws.FnReplaceBack'. -/
def fnReplaceBackUptoCard : Claim7 := { stood := { row := fnReplaceBackUptoRow, standIns := [], harness := (true, "919c4c8955ffe272b34cc56d9505af559cd251b8eb30fee0040198638336732c"), looks := true }, kinds := [], alts := [], laidByText := true, laidKinds := [.wider], laidTests := true, laidLooks := .later }
def FnReplaceBackUptoCardSaid : Prop := Claim7.holds Tryd.pinned (.plain (OpenSpec.upto fnReplaceBackSpec)) fnReplaceBackUptoCard

/-- THE SECOND FORM's CARD OF 'laws.FnWordsOver'. -/
def fnWordsOverUptoCard : Claim7 := { stood := { row := fnWordsOverUptoRow, standIns := [], harness := (true, "919c4c8955ffe272b34cc56d9505af559cd251b8eb30fee0040198638336732c"), looks := true }, kinds := [], alts := [], laidByText := true, laidKinds := [.wider], laidTests := true, laidLooks := .later }
def FnWordsOverUptoCardSaid : Prop := Claim7.holds Tryd.pinned (.plain (OpenSpec.upto fnWordsOverSpec)) fnWordsOverUptoCard

/-- THE SECOND FORM's CARD OF 'laws.FnYankTwice'. -/
def fnYankTwiceUptoCard : Claim7 := { stood := { row := fnYankTwiceUptoRow, standIns := [], harness := (true, "919c4c8955ffe272b34cc56d9505af559cd251b8eb30fee0040198638336732c"), looks := true }, kinds := [], alts := [], laidByText := true, laidKinds := [.wider], laidTests := true, laidLooks := .later }
def FnYankTwiceUptoCardSaid : Prop := Claim7.holds Tryd.pinned (.plain (OpenSpec.upto fnYankTwiceSpec)) fnYankTwiceUptoCard

/-- THE SECOND FORM's CARD OF 'laws.FnBackWord'. -/
def fnBackWordUptoCard : Claim7 := { stood := { row := fnBackWordUptoRow, standIns := [], harness := (true, "919c4c8955ffe272b34cc56d9505af559cd251b8eb30fee0040198638336732c"), looks := true }, kinds := [], alts := [], laidByText := true, laidKinds := [.wider], laidTests := true, laidLooks := .later }
def FnBackWordUptoCardSaid : Prop := Claim7.holds Tryd.pinned (.plain (OpenSpec.upto fnBackWordSpec)) fnBackWordUptoCard

/-- THE SECOND FORM's CARD OF 'laws.FnMoveToThere'. -/
def fnMoveToThereUptoCard : Claim7 := { stood := { row := fnMoveToThereUptoRow, standIns := [], harness := (true, "919c4c8955ffe272b34cc56d9505af559cd251b8eb30fee0040198638336732c"), looks := true }, kinds := [], alts := [], laidByText := true, laidKinds := [.wider], laidTests := true, laidLooks := .later }
def FnMoveToThereUptoCardSaid : Prop := Claim7.holds Tryd.pinned (.plain (OpenSpec.upto fnMoveToThereSpec)) fnMoveToThereUptoCard

/-- THE SECOND FORM's CARD OF 'laws.FnWordMoves'. -/
def fnWordMovesUptoCard : Claim7 := { stood := { row := fnWordMovesUptoRow, standIns := [], harness := (true, "919c4c8955ffe272b34cc56d9505af559cd251b8eb30fee0040198638336732c"), looks := true }, kinds := [], alts := [], laidByText := true, laidKinds := [.wider], laidTests := true, laidLooks := .later }
def FnWordMovesUptoCardSaid : Prop := Claim7.holds Tryd.pinned (.plain (OpenSpec.upto fnWordMovesSpec)) fnWordMovesUptoCard

/-- THE SECOND FORM's CARD OF 'laws.FnRestored'. -/
def fnRestoredUptoCard : Claim7 := { stood := { row := fnRestoredUptoRow, standIns := [], harness := (true, "919c4c8955ffe272b34cc56d9505af559cd251b8eb30fee0040198638336732c"), looks := true }, kinds := [], alts := [], laidByText := true, laidKinds := [.wider], laidTests := true, laidLooks := .later }
def FnRestoredUptoCardSaid : Prop := Claim7.holds Tryd.pinned (.plain (OpenSpec.upto fnRestoredSpec)) fnRestoredUptoCard

/-- THE SECOND FORM's CARD OF 'laws.FnShownMask'. -/
def fnShownMaskUptoCard : Claim7 := { stood := { row := fnShownMaskUptoRow, standIns := [], harness := (true, "919c4c8955ffe272b34cc56d9505af559cd251b8eb30fee0040198638336732c"), looks := true }, kinds := [], alts := [], laidByText := true, laidKinds := [.data, .data, .data, .sentinel, .wider], laidTests := true, laidLooks := .later }
def FnShownMaskUptoCardSaid : Prop := Claim7.holds Tryd.pinned (.plain (OpenSpec.upto fnShownMaskSpec)) fnShownMaskUptoCard

/-- THE SECOND FORM's CARD OF 'laws.FnPastsBack'. -/
def fnPastsBackUptoCard : Claim7 := { stood := { row := fnPastsBackUptoRow, standIns := [], harness := (true, "919c4c8955ffe272b34cc56d9505af559cd251b8eb30fee0040198638336732c"), looks := true }, kinds := [], alts := [], laidByText := true, laidKinds := [.wider], laidTests := true, laidLooks := .later }
def FnPastsBackUptoCardSaid : Prop := Claim7.holds Tryd.pinned (.plain (OpenSpec.upto fnPastsBackSpec)) fnPastsBackUptoCard
end Rows
end Go.Proofs.YtdinikcfhpfojaaDoor
