/- What impl.AroundOf and impl.WordPlaces tell of a text of ASCII and a cursor in it; plain laws over the printed functions. -/
import Derived.Test.YtkfmjkiefckgoaaDoorXDoc
namespace Go.Proofs.YtkfmjkiefckgoaaDoor.X
open Go.RowKit Go.Proofs.YtkfmjkiefckgoaaDoor.R Go.Proofs.YtkfmjkiefckgoaaDoor.H Go.Proofs.YtkfmjkiefckgoaaDoorW.PrintWords Go.Proofs.YtkfmjkiefckgoaaDoorW.PrintLast
set_option linter.unusedVariables false
def sp (s : ByteArray) (flag : Bool) (i : Nat) : Bool := decide (bt s (i : Int) = 32) != flag
section
variable {s : ByteArray} {n : Nat} {A : List (List Int)} {h : List Int} {B : List (List Int)} {P Q : ByteArray} {L : List ByteArray}
end
end Go.Proofs.YtkfmjkiefckgoaaDoor.X
