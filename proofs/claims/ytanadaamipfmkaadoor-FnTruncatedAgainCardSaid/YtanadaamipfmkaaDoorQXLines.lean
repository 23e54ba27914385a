/- Plain lemmas of texts in lines: the first and the last place of a sign, the lines of a text, and where they begin. -/
import Derived.Test.YtanadaamipfmkaaDoorQXPure
namespace Go.Proofs.YtanadaamipfmkaaDoor.X
open Go.RowKit Go.Proofs.YtanadaamipfmkaaDoorW.PrintWords Go.Proofs.YtanadaamipfmkaaDoor.R
set_option linter.unusedVariables false
theorem bt_list (s : ByteArray) (i : Nat) (h : i < s.size) : bt s (i : Int) = (ints s)[i]'(by rw [ints_length]; exact h) := bt_ints s i h
end Go.Proofs.YtanadaamipfmkaaDoor.X
