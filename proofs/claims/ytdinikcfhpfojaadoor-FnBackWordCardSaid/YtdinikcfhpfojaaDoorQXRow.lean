/- A law's parameter that is a slice of any elements, opened to a row as the printed walks read it; no condition. -/
import Derived.Test.YtdinikcfhpfojaaDoorQWAll
import Derived.Deep.Slices
import Derived.ChangeArms
import Derived.DataReads
namespace Go.Proofs.YtdinikcfhpfojaaDoor.X
open Go.RowKit Go.Deep Go.Proofs.YtdinikcfhpfojaaDoorW.PrintWords
set_option linter.unusedVariables false
section
variable {H : Type} {enc : TypeId × Value → H} {P : Program} {w : World} {base : Nat} {sp : Nat → Bool} {held : Bool}
end
end Go.Proofs.YtdinikcfhpfojaaDoor.X
