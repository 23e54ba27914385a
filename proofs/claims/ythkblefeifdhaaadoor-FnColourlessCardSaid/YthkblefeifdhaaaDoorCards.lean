/-
  DERIVED. GIVEN WITH THE SEED: THE CARDS: each row of YthkblefeifdhaaaDoorRows.lean that lists a variable, with what it lists TIED to the program's text (the seventh form; the later family's looks); each row that meets fmt, with fmt's text TOLD by the authors' own Lean function (tested against real Go, not proved from fmt's source: count such statements apart). THE CARD IS WHAT COUNTS. Prove the row's statement (the work); the ties are given (YthkblefeifdhaaaDoorTie.lean); close each card by the builder's one call (the guide's Derived/Test/ToyasCard.lean, 'card_holds'). Laid BY PROGRAM, IN A SANDBOX (cutbox-door.mjs). By AI agents, Wed Nov 11 2026. No macro, syntax, notation, axiom, sorry.
-/
import Derived.Test.YthkblefeifdhaaaDoorRows
import GoSem.ClaimSeven
namespace Go.Proofs.YthkblefeifdhaaaDoor
namespace Rows

/-- THE TIED CARD OF 'laws.FnColourless'. -/
def fnColourlessCard : Claim7 := { stood := { row := fnColourlessRow, standIns := [], harness := (true, "f4dd7045f36f1a1122ff1e37e1bdde05553e3346d1cefc48ab214b9b30cd3002"), looks := false }, kinds := [], alts := [], laidByText := true, laidKinds := [.wider], laidTests := true, laidLooks := .later }
def FnColourlessCardSaid : Prop := Claim7.holds Tryd.pinned (.plain (OpenSpec.ofChange fnColourlessSpec)) fnColourlessCard

/-- THE TIED CARD OF 'laws.FnSameRunes'. -/
def fnSameRunesCard : Claim7 := { stood := { row := fnSameRunesRow, standIns := [], harness := (true, "f4dd7045f36f1a1122ff1e37e1bdde05553e3346d1cefc48ab214b9b30cd3002"), looks := false }, kinds := [], alts := [], laidByText := true, laidKinds := [.wider], laidTests := true, laidLooks := .later }
def FnSameRunesCardSaid : Prop := Claim7.holds Tryd.pinned (.plain (OpenSpec.ofChange fnSameRunesSpec)) fnSameRunesCard

/-- THE SECOND FORM's CARD OF 'laws.FnColourless'. -/
def fnColourlessUptoCard : Claim7 := { stood := { row := fnColourlessUptoRow, standIns := [], harness := (true, "f4dd7045f36f1a1122ff1e37e1bdde05553e3346d1cefc48ab214b9b30cd3002"), looks := false }, kinds := [], alts := [], laidByText := true, laidKinds := [.wider], laidTests := true, laidLooks := .later }
def FnColourlessUptoCardSaid : Prop := Claim7.holds Tryd.pinned (.plain (OpenSpec.upto fnColourlessSpec)) fnColourlessUptoCard

/-- THE SECOND FORM's CARD OF 'laws.FnSameRunes'. -/
def fnSameRunesUptoCard : Claim7 := { stood := { row := fnSameRunesUptoRow, standIns := [], harness := (true, "f4dd7045f36f1a1122ff1e37e1bdde05553e3346d1cefc48ab214b9b30cd3002"), looks := false }, kinds := [], alts := [], laidByText := true, laidKinds := [.wider], laidTests := true, laidLooks := .later }
def FnSameRunesUptoCardSaid : Prop := Claim7.holds Tryd.pinned (.plain (OpenSpec.upto fnSameRunesSpec)) fnSameRunesUptoCard
end Rows
end Go.Proofs.YthkblefeifdhaaaDoor
