/- What rows all begin with, as a plain law: the number that the scan finds does not hang on the order of the rows, nor on one of them twice; no condition. -/
import Derived.Test.YthbdaoapjnofkaaDoorQHRec
namespace Go.Proofs.YthbdaoapjnofkaaDoor.H
set_option linter.unusedVariables false
/-- Two neighbours agree at place i. -/
def pairOk (xs : List (List Int)) (i j : Nat) : Prop := i < (xs.getD j []).length ∧ i < (xs.getD (j + 1) []).length ∧ (xs.getD j []).getD i 0 = (xs.getD (j + 1) []).getD i 0
/-- All rows have n signs, and the same ones. -/
def Com (xs : List (List Int)) (n : Nat) : Prop := ∀ l ∈ xs, ∀ m ∈ xs, n ≤ l.length ∧ ∀ i, i < n → l.getD i 0 = m.getD i 0
theorem Com.sub {xs ys : List (List Int)} {n : Nat} (h : Com xs n) (hs : ∀ l ∈ ys, l ∈ xs) : Com ys n := fun l hl k hk => h l (hs l hl) k (hs k hk)
instance pairOk_dec (xs : List (List Int)) (i j : Nat) : Decidable (pairOk xs i j) := by unfold pairOk; infer_instance
end Go.Proofs.YthbdaoapjnofkaaDoor.H
