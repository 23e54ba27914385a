-- TRIMMED: printed by print.sh; what this claim does not name is left out.
import Derived.Test.YtkfmjkiefckgoaaDoorWInv
import Derived.Test.YtkfmjkiefckgoaaDoorWFootNe
namespace Go.Proofs.YtkfmjkiefckgoaaDoorW.PrintWords
open Go.RowKit
end Go.Proofs.YtkfmjkiefckgoaaDoorW.PrintWords
namespace Go.Proofs.YtkfmjkiefckgoaaDoorW.PrintLast
section
variable {ops : Array Oper} {a : Act} {o og : Oper} {g : Nat} {t : Tmp} {u : Bool}
end
end Go.Proofs.YtkfmjkiefckgoaaDoorW.PrintLast
