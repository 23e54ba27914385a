/- Texts as code points: what the conversions between strings and slices of runes do, for the printed walks of this seat. -/
import Derived.Test.YthbdaoapjnofkaaDoorQWAll
import Derived.Laws.Cover4
import Derived.Laws.IdiomStrings
namespace Go.Proofs.YthbdaoapjnofkaaDoor.R
open Go.RowKit Go.Proofs.YthbdaoapjnofkaaDoorW.PrintWords
set_option linter.unusedVariables false
section
variable {P : Program} {ops : Array Oper} {rest : List Oper} {o : Oper} {a : Act} {Q : Exit → Act → World → Prop}
end
end Go.Proofs.YthbdaoapjnofkaaDoor.R
