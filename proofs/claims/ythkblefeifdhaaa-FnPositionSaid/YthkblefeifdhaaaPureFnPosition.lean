/- The column and the row of a place are what is left, and the quotient, by the columns: the pure statement behind the law FnPosition; no condition. -/
import Derived.Test.YthkblefeifdhaaaPFnPositionx1
import Derived.Test.YthkblefeifdhaaaXPure
namespace Go.Proofs.Ythkblefeifdhaaa.Pure
open Go.RowKit Go.Proofs.Ythkblefeifdhaaa.R Go.Proofs.Ythkblefeifdhaaa.X Go.Proofs.Ythkblefeifdhaaa.H Go.Proofs.Ythkblefeifdhaaa.PFnPosition Go.Proofs.YthkblefeifdhaaaW.PrintWords Go.Proofs.YthkblefeifdhaaaW.PrintLast

theorem FnPosition : laws_FnPosition.Pure := by
  intro p c w0 w1
  unfold laws_FnPosition.f
  by_cases h0 : p < 0
  · rw [if_pos h0]
  · by_cases h1 : p > 1000000
    · rw [if_neg h0, if_pos h1]
    · by_cases h2 : c < 1
      · rw [if_neg h0, if_neg h1, if_pos h2]
      · by_cases h3 : c > 10000
        · rw [if_neg h0, if_neg h1, if_neg h2, if_pos h3]
        · have e : impl_Position.f p c = some (p % c, p / c, true) := by unfold impl_Position.f; rw [if_pos ⟨by omega, by omega, by omega, by omega⟩]
          have e1 : Int.tmod p c = p % c := Int.tmod_eq_emod_of_nonneg (by omega)
          have e2 : Int.tdiv p c = p / c := Int.tdiv_eq_ediv_of_nonneg (by omega)
          have hd0 : 0 ≤ p / c := Int.ediv_nonneg (by omega) (by omega)
          have hd1 : p / c ≤ p := Int.ediv_le_self _ (by omega)
          rw [if_neg h0, if_neg h1, if_neg h2, if_neg h3, e]
          simp only [Option.bind_some, if_true]
          rw [if_neg (by omega), e1, e2, if_pos rfl, w64 (by omega) (by omega)]
          simp
end Go.Proofs.Ythkblefeifdhaaa.Pure
