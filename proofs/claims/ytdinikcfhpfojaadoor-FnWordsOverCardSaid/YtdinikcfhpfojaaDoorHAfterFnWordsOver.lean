/- The line after some steps on a line (laws.after9), for the law FnWordsOver: the contract by which the law takes it; of steps that fail, and of those that put in, or take out by words, nothing is said. -/
import Derived.Test.YtdinikcfhpfojaaDoorHAfter
import Derived.Test.YtdinikcfhpfojaaDoorPFnWordsOverx0
namespace Go.Proofs.YtdinikcfhpfojaaDoor.H
open Go.RowKit Go.Proofs.YtdinikcfhpfojaaDoorW.PrintWords Go.Proofs.YtdinikcfhpfojaaDoorW.PrintLast Go.Proofs.YtdinikcfhpfojaaDoor.R
set_option linter.unusedVariables false
set_option linter.unusedSimpArgs false

def key_of (x : PFnWordsOver.S29) : Key5 := ⟨x.f0, x.f1, x.f2, x.f3, x.f4⟩
theorem src_of {w : World} {A : Option Addr} {l : List PFnWordsOver.S29} (h : Kd.C PFnWordsOver.k29 w A l.length l) : Src5 w A (l.map key_of) := by
  rcases Nat.eq_zero_or_pos l.length with h0 | h0
  · have : l = [] := List.eq_nil_of_length_eq_zero h0
    subst this
    cases A with
    | none => exact .inl ⟨rfl, rfl⟩
    | some ad => exact .inr ⟨ad, rfl, fun j u hu => by simp [flat5] at hu⟩
  · obtain ⟨ad, e, _⟩ := PFnWordsOver.at_T29 h 0 (by omega) (by omega)
    subst e
    refine .inr ⟨ad, rfl, fun j u hu => ?_⟩
    have hj : j < (flat5 (l.map key_of)).length := (List.getElem?_eq_some_iff.1 hu).1
    rw [flat5_length, List.length_map] at hj
    obtain ⟨i, r, rfl, hr⟩ : ∃ i r, j = i * 5 + r ∧ r < 5 := ⟨j / 5, j % 5, by omega, Nat.mod_lt _ (by omega)⟩
    have hi : i < l.length := by omega
    obtain ⟨ad', e', h0', h1, h2, h3, h4⟩ := PFnWordsOver.at_T29 h (i : Int) (by omega) (by omega)
    injection e' with e'
    subst e'
    have hg : (l.map key_of)[i]? = some (key_of l[i]) := by rw [List.getElem?_map, List.getElem?_eq_getElem hi]; rfl
    have hrd : PFnWordsOver.rd_T29 l (i : Int) = l[i] := by unfold PFnWordsOver.rd_T29; rw [Int.toNat_natCast, List.getD_eq_getElem?_getD, List.getElem?_eq_getElem hi]; rfl
    rw [flat5_at _ _ _ _ hg hr] at hu
    rw [hrd] at h0' h1 h2 h3 h4
    rw [Int.toNat_natCast] at h0' h1 h2 h3 h4
    have hr' : r = 0 ∨ r = 1 ∨ r = 2 ∨ r = 3 ∨ r = 4 := by omega
    rcases hr' with rfl | rfl | rfl | rfl | rfl
    · simp only [cells5, key_of, List.getElem?_cons_zero, Option.some.injEq] at hu
      subst hu; exact h0'
    · simp only [cells5, key_of, List.getElem?_cons_succ, List.getElem?_cons_zero, Option.some.injEq] at hu
      subst hu; rw [add_field _ _ 1 (by omega)]; exact h1
    · simp only [cells5, key_of, List.getElem?_cons_succ, List.getElem?_cons_zero, Option.some.injEq] at hu
      subst hu; rw [add_field _ _ 2 (by omega)]; exact h2
    · simp only [cells5, key_of, List.getElem?_cons_succ, List.getElem?_cons_zero, Option.some.injEq] at hu
      subst hu; rw [add_field _ _ 3 (by omega)]; exact h3
    · simp only [cells5, key_of, List.getElem?_cons_succ, List.getElem?_cons_zero, Option.some.injEq] at hu
      subst hu; rw [add_field _ _ 4 (by omega)]; exact h4
def laws_after9.f (t : ByteArray) (a : Int) (l : List PFnWordsOver.S29) : Option (ByteArray × Int × Bool) := afterF t a (l.map key_of)
theorem laws_after9.calls (t : ByteArray) (a : Int) (A : Option Addr) (c : Nat) (l : List PFnWordsOver.S29) (r1 : ByteArray) (r2 : Int) (r3 : Bool) (w : World) (hr : Kd.C PFnWordsOver.k29 w A l.length l) (hc : l.length ≤ c) (h : laws_after9.f t a l = some (r1, r2, r3)) :
    Calls Tryd.prog 15 #[.agg #[.string t, .int .i64 a], .slice A l.length c] w fun e w' => e = .returned (.tuple #[.agg #[.string r1, .int .i64 r2], .bool r3]) ∧ Below w.heap.size w w' := by
  unfold laws_after9.f afterF at h
  by_cases hl : (l.map key_of).length ≤ 100000
  · rw [if_pos hl] at h
    split at h
    · rename_i s ts hk
      split at h
      · rename_i hs
        have h' := Option.some.inj h
        simp only [Prod.mk.injEq] at h'
        obtain ⟨rfl, rfl, rfl⟩ := h'
        have := after_calls t a A c (l.map key_of) s ts w hl (src_of hr) hk hs
        rwa [List.length_map] at this
      · cases h
    · cases h
  · rw [if_neg hl] at h
    cases h
end Go.Proofs.YtdinikcfhpfojaaDoor.H
