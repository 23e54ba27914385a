/-
  DERIVED. GIVEN WITH THE SEED: THE CARDS: each row of YtkfmjkiefckgoaaGreatDoorRows.lean that lists a variable, with what it lists TIED to the program's text (the seventh form; the later family's looks); each row that meets fmt, with fmt's text TOLD by the authors' own Lean function (tested against real Go, not proved from fmt's source: count such statements apart). THE CARD IS WHAT COUNTS. Prove the row's statement (the work); the ties are given (YtkfmjkiefckgoaaGreatDoorTie.lean); close each card by the builder's one call (the guide's Derived/Test/ToyasCard.lean, 'card_holds'). Laid BY PROGRAM, IN A SANDBOX (cutbox-door.mjs). By AI agents, Wed Nov 11 2026. No macro, syntax, notation, axiom, sorry.
-/
import Derived.Test.YtkfmjkiefckgoaaGreatDoorRows
import GoSem.ClaimSeven
namespace Go.Proofs.YtkfmjkiefckgoaaGreatDoor
namespace Rows

/-- THE TIED CARD OF 'laws.FnScripts'. -/
def fnScriptsCard : Claim7 := { stood := { row := fnScriptsRow, standIns := [], harness := (true, "41377209353c6e630f4ec2ccda87d8f4611ceb37894fcaa0592a1f50361aa21f"), looks := false }, kinds := [], alts := [], laidByText := true, laidKinds := [.data, .listed, .data, .pinned], laidTests := true, laidLooks := .later }
def FnScriptsCardSaid : Prop := Claim7.holds Tryz.pinned (.plain (OpenSpec.ofChange fnScriptsSpec)) fnScriptsCard

/-- THE TIED CARD OF 'laws.FnUpDown'. -/
def fnUpDownCard : Claim7 := { stood := { row := fnUpDownRow, standIns := [], harness := (true, "41377209353c6e630f4ec2ccda87d8f4611ceb37894fcaa0592a1f50361aa21f"), looks := false }, kinds := [], alts := [], laidByText := true, laidKinds := [.data, .listed, .data, .pinned], laidTests := true, laidLooks := .later }
def FnUpDownCardSaid : Prop := Claim7.holds Tryz.pinned (.plain (OpenSpec.ofChange fnUpDownSpec)) fnUpDownCard

/-- THE TIED CARD OF 'laws.FnWordOut'. -/
def fnWordOutCard : Claim7 := { stood := { row := fnWordOutRow, standIns := [], harness := (true, "41377209353c6e630f4ec2ccda87d8f4611ceb37894fcaa0592a1f50361aa21f"), looks := false }, kinds := [], alts := [], laidByText := true, laidKinds := [.data, .listed, .data, .pinned], laidTests := true, laidLooks := .later }
def FnWordOutCardSaid : Prop := Claim7.holds Tryz.pinned (.plain (OpenSpec.ofChange fnWordOutSpec)) fnWordOutCard

/-- THE SECOND FORM's CARD OF 'laws.FnScripts'. -/
def fnScriptsUptoCard : Claim7 := { stood := { row := fnScriptsUptoRow, standIns := [], harness := (true, "41377209353c6e630f4ec2ccda87d8f4611ceb37894fcaa0592a1f50361aa21f"), looks := false }, kinds := [], alts := [], laidByText := true, laidKinds := [.data, .listed, .data, .pinned], laidTests := true, laidLooks := .later }
def FnScriptsUptoCardSaid : Prop := Claim7.holds Tryz.pinned (.plain (OpenSpec.upto fnScriptsSpec)) fnScriptsUptoCard

/-- THE SECOND FORM's CARD OF 'laws.FnUpDown'. -/
def fnUpDownUptoCard : Claim7 := { stood := { row := fnUpDownUptoRow, standIns := [], harness := (true, "41377209353c6e630f4ec2ccda87d8f4611ceb37894fcaa0592a1f50361aa21f"), looks := false }, kinds := [], alts := [], laidByText := true, laidKinds := [.data, .listed, .data, .pinned], laidTests := true, laidLooks := .later }
def FnUpDownUptoCardSaid : Prop := Claim7.holds Tryz.pinned (.plain (OpenSpec.upto fnUpDownSpec)) fnUpDownUptoCard

/-- THE SECOND FORM's CARD OF 'laws.FnWordOut'. -/
def fnWordOutUptoCard : Claim7 := { stood := { row := fnWordOutUptoRow, standIns := [], harness := (true, "41377209353c6e630f4ec2ccda87d8f4611ceb37894fcaa0592a1f50361aa21f"), looks := false }, kinds := [], alts := [], laidByText := true, laidKinds := [.data, .listed, .data, .pinned], laidTests := true, laidLooks := .later }
def FnWordOutUptoCardSaid : Prop := Claim7.holds Tryz.pinned (.plain (OpenSpec.upto fnWordOutSpec)) fnWordOutUptoCard
end Rows
end Go.Proofs.YtkfmjkiefckgoaaGreatDoor
