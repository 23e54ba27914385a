/- One step over words: the pure statement behind the law FnWordMoves; no condition. -/
import Derived.Test.YtdinikcfhpfojaaDoorQPFnWordMovesx1
namespace Go.Proofs.YtdinikcfhpfojaaDoor.Pure
open Go.RowKit Go.Proofs.YtdinikcfhpfojaaDoor.PFnWordMoves Go.Proofs.YtdinikcfhpfojaaDoor.H Go.Proofs.YtdinikcfhpfojaaDoorW.PrintWords Go.Proofs.YtdinikcfhpfojaaDoorW.PrintLast
theorem FnWordMoves : laws_FnWordMoves.Pure := by
  intro t a c ht _ hc
  have h0 : 0 ≤ c := by
    have := hc
    simp [Lit.wf] at this
    have e0 : IntKind.u8.min = 0 := rfl
    omega
  unfold laws_FnWordMoves.f laws_zzFits11.f
  by_cases hz : (t.size : Int) > 2147483647
  · rw [if_pos hz]; rfl
  · rw [if_neg hz, Option.bind_some, if_pos rfl, Option.bind_some]
    obtain ⟨m, rfl⟩ := Int.eq_ofNat_of_zero_le h0
    have hm : Int.tmod (m : Int) 3 = ((m % 3 : Nat) : Int) := Int.ofNat_tmod m 3
    have hlt : m % 3 < 3 := Nat.mod_lt _ (by omega)
    rw [hm, if_pos (by omega), if_pos (by simp; omega)]
    generalize m % 3 = j at *
    have hj : j = 0 ∨ j = 1 ∨ j = 2 := by omega
    have hone : ∀ op : Int, (op = 10 ∨ op = 11 ∨ op = 12) → laws_one9.f t a op ⟨#[]⟩ 0 false false = some true := fun op hop => if_pos ⟨by omega, hop, rfl, rfl, rfl, rfl⟩
    rcases hj with rfl | rfl | rfl
    · rw [show rd [10, 11, 12] ((0 : Nat) : Int) = 10 from rfl, hone 10 (by omega)]; rfl
    · rw [show rd [10, 11, 12] ((1 : Nat) : Int) = 11 from rfl, hone 11 (by omega)]; rfl
    · rw [show rd [10, 11, 12] ((2 : Nat) : Int) = 12 from rfl, hone 12 (by omega)]; rfl
end Go.Proofs.YtdinikcfhpfojaaDoor.Pure
