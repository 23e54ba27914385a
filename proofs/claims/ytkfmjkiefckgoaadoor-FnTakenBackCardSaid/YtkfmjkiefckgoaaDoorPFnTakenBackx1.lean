/- Printed by a program of this seat (xprint) out of the translation: Go functions as plain functions, and the walks that show them; no condition. -/
import Derived.Test.YtkfmjkiefckgoaaDoorPFnTakenBackx0
import Derived.Test.YtkfmjkiefckgoaaDoorHEdFnTakenBack
namespace Go.Proofs.YtkfmjkiefckgoaaDoor.PFnTakenBack
open Go.RowKit Go.Proofs.YtkfmjkiefckgoaaDoor.H Go.Proofs.YtkfmjkiefckgoaaDoor.R Go.Proofs.YtkfmjkiefckgoaaDoorW.PrintWords Go.Proofs.YtkfmjkiefckgoaaDoorW.PrintLast Go.Proofs.YtkfmjkiefckgoaaDoorW.PrintMore
attribute [local go_sem] max2_int min2_int max_two min_two max_three min_three max_four min_four   -- for this text's walks alone
set_option linter.unusedVariables false
set_option linter.unusedSimpArgs false
theorem eqA26 (d : Nat) (w : World) (x0 y0 : ByteArray) (x1 y1 : Int) :
    (Op.equalIn (d + 2) 26 (.agg #[.string x0, .int .i64 x1]) (.agg #[.string y0, .int .i64 y1])).run Tryd.prog w = .ok (x0.toList == y0.toList && (x1 == y1)) w := by
  refine eqA_of Tryd.underlying26 (by kernel_rfl) ?_
  refine eqf_cons (by rfl) (by go_simp; rfl) (by go_simp; rfl) (by go_simp) ?_
  exact eqf_last (by rfl) (by go_simp; rfl) (by go_simp; rfl) (by go_simp)
end Go.Proofs.YtkfmjkiefckgoaaDoor.PFnTakenBack
