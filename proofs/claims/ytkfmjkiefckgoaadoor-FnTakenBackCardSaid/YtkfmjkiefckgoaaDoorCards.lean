/-
  DERIVED. GIVEN WITH THE SEED: THE CARDS: each row of YtkfmjkiefckgoaaDoorRows.lean that lists a variable, with what it lists TIED to the program's text (the seventh form; the later family's looks); each row that meets fmt, with fmt's text TOLD by the authors' own Lean function (tested against real Go, not proved from fmt's source: count such statements apart). THE CARD IS WHAT COUNTS. Prove the row's statement (the work); the ties are given (YtkfmjkiefckgoaaDoorTie.lean); close each card by the builder's one call (the guide's Derived/Test/ToyasCard.lean, 'card_holds'). Laid BY PROGRAM, IN A SANDBOX (cutbox-door.mjs). By AI agents, Wed Nov 11 2026. No macro, syntax, notation, axiom, sorry.
-/
import Derived.Test.YtkfmjkiefckgoaaDoorRows
import GoSem.ClaimSeven
namespace Go.Proofs.YtkfmjkiefckgoaaDoor
namespace Rows

/-- THE TIED CARD OF 'laws.FnLinesOne'. -/
def fnLinesOneCard : Claim7 := { stood := { row := fnLinesOneRow, standIns := [], harness := (true, "ba1f7e3f94798c29078aec5239abcb571da7581e73a6dbbfd1f279eb894554fb"), looks := false }, kinds := [], alts := [], laidByText := true, laidKinds := [.data, .listed, .data, .pinned], laidTests := true, laidLooks := .later }
def FnLinesOneCardSaid : Prop := Claim7.holds Tryd.pinned (.plain (OpenSpec.ofChange fnLinesOneSpec)) fnLinesOneCard

/-- THE TIED CARD OF 'laws.FnTakenBack'. -/
def fnTakenBackCard : Claim7 := { stood := { row := fnTakenBackRow, standIns := [], harness := (true, "ba1f7e3f94798c29078aec5239abcb571da7581e73a6dbbfd1f279eb894554fb"), looks := false }, kinds := [], alts := [], laidByText := true, laidKinds := [.data, .listed, .data, .pinned], laidTests := true, laidLooks := .later }
def FnTakenBackCardSaid : Prop := Claim7.holds Tryd.pinned (.plain (OpenSpec.ofChange fnTakenBackSpec)) fnTakenBackCard

/-- THE TIED CARD OF 'laws.FnMovesEnds'. -/
def fnMovesEndsCard : Claim7 := { stood := { row := fnMovesEndsRow, standIns := [], harness := (true, "ba1f7e3f94798c29078aec5239abcb571da7581e73a6dbbfd1f279eb894554fb"), looks := false }, kinds := [], alts := [], laidByText := true, laidKinds := [.data, .listed, .data, .pinned], laidTests := true, laidLooks := .later }
def FnMovesEndsCardSaid : Prop := Claim7.holds Tryd.pinned (.plain (OpenSpec.ofChange fnMovesEndsSpec)) fnMovesEndsCard

/-- THE SECOND FORM's CARD OF 'laws.FnLinesOne'. -/
def fnLinesOneUptoCard : Claim7 := { stood := { row := fnLinesOneUptoRow, standIns := [], harness := (true, "ba1f7e3f94798c29078aec5239abcb571da7581e73a6dbbfd1f279eb894554fb"), looks := false }, kinds := [], alts := [], laidByText := true, laidKinds := [.data, .listed, .data, .pinned], laidTests := true, laidLooks := .later }
def FnLinesOneUptoCardSaid : Prop := Claim7.holds Tryd.pinned (.plain (OpenSpec.upto fnLinesOneSpec)) fnLinesOneUptoCard

/-- THE SECOND FORM's CARD OF 'laws.FnTakenBack'. -/
def fnTakenBackUptoCard : Claim7 := { stood := { row := fnTakenBackUptoRow, standIns := [], harness := (true, "ba1f7e3f94798c29078aec5239abcb571da7581e73a6dbbfd1f279eb894554fb"), looks := false }, kinds := [], alts := [], laidByText := true, laidKinds := [.data, .listed, .data, .pinned], laidTests := true, laidLooks := .later }
def FnTakenBackUptoCardSaid : Prop := Claim7.holds Tryd.pinned (.plain (OpenSpec.upto fnTakenBackSpec)) fnTakenBackUptoCard

/-- THE SECOND FORM's CARD OF 'laws.FnMovesEnds'. -/
def fnMovesEndsUptoCard : Claim7 := { stood := { row := fnMovesEndsUptoRow, standIns := [], harness := (true, "ba1f7e3f94798c29078aec5239abcb571da7581e73a6dbbfd1f279eb894554fb"), looks := false }, kinds := [], alts := [], laidByText := true, laidKinds := [.data, .listed, .data, .pinned], laidTests := true, laidLooks := .later }
def FnMovesEndsUptoCardSaid : Prop := Claim7.holds Tryd.pinned (.plain (OpenSpec.upto fnMovesEndsSpec)) fnMovesEndsUptoCard
end Rows
end Go.Proofs.YtkfmjkiefckgoaaDoor
