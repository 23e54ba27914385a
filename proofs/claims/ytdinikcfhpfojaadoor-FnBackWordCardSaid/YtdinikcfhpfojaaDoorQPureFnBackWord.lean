/- The step that takes the word before the cursor: the pure statement behind the law FnBackWord; no condition. -/
import Derived.Test.YtdinikcfhpfojaaDoorQPFnBackWordx1
namespace Go.Proofs.YtdinikcfhpfojaaDoor.Pure
open Go.RowKit Go.Proofs.YtdinikcfhpfojaaDoor.PFnBackWord Go.Proofs.YtdinikcfhpfojaaDoor.HB Go.Proofs.YtdinikcfhpfojaaDoorW.PrintWords Go.Proofs.YtdinikcfhpfojaaDoorW.PrintLast
theorem FnBackWord : laws_FnBackWord.Pure := by
  intro t a ht _
  unfold laws_FnBackWord.f laws_zzFits11.f
  by_cases hz : (t.size : Int) > 2147483647
  · rw [if_pos hz]; rfl
  · rw [if_neg hz, Option.bind_some, if_pos rfl, show laws_one9.f t a 14 ⟨#[]⟩ 0 false false = some true from if_pos ⟨by omega, rfl, rfl, rfl, rfl, rfl⟩]; rfl
end Go.Proofs.YtdinikcfhpfojaaDoor.Pure
