/- The line after some steps on a line (laws.after9): the contract by which the laws take it; of steps that fail, and of those that put in, or take out by words, nothing is said. -/
import Derived.Test.YtdinikcfhpfojaaDoorQHOnce
namespace Go.Proofs.YtdinikcfhpfojaaDoor.H
open Go.RowKit Go.Proofs.YtdinikcfhpfojaaDoorW.PrintWords Go.Proofs.YtdinikcfhpfojaaDoorW.PrintLast Go.Proofs.YtdinikcfhpfojaaDoor.R
set_option linter.unusedVariables false
set_option linter.unusedSimpArgs false
attribute [local go_sem ↓] Go.wp_at_zero Go.wp_at_succ
end Go.Proofs.YtdinikcfhpfojaaDoor.H
