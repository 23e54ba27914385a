/- What rows all begin with, as a plain law: the number that the scan finds does not hang on the order of the rows, nor on one of them twice; no condition. -/
import Derived.Test.YthbdaoapjnofkaaDoorQHRec
namespace Go.Proofs.YthbdaoapjnofkaaDoor.H
set_option linter.unusedVariables false
/-- Two neighbours agree at place i. -/
def pairOk (xs : List (List Int)) (i j : Nat) : Prop := i < (xs.getD j []).length ∧ i < (xs.getD (j + 1) []).length ∧ (xs.getD j []).getD i 0 = (xs.getD (j + 1) []).getD i 0
/-- n is how many signs all have in common. -/
def IsAgg (xs : List (List Int)) (n : Nat) : Prop := n ≤ (xs.getD 0 []).length ∧ (∀ i, i < n → ∀ j, j + 1 < xs.length → pairOk xs i j) ∧ (n < (xs.getD 0 []).length → ∃ j, j + 1 < xs.length ∧ ¬ pairOk xs n j)
/-- All rows have n signs, and the same ones. -/
def Com (xs : List (List Int)) (n : Nat) : Prop := ∀ l ∈ xs, ∀ m ∈ xs, n ≤ l.length ∧ ∀ i, i < n → l.getD i 0 = m.getD i 0
theorem Com.less {xs : List (List Int)} {n m : Nat} (h : Com xs n) (hm : m ≤ n) : Com xs m := fun l hl k hk => ⟨by have := (h l hl k hk).1; omega, fun i hi => (h l hl k hk).2 i (by omega)⟩
theorem Com.sub {xs ys : List (List Int)} {n : Nat} (h : Com xs n) (hs : ∀ l ∈ ys, l ∈ xs) : Com ys n := fun l hl k hk => h l (hs l hl) k (hs k hk)
theorem com_one {xs : List (List Int)} {n m : Nat} (h1 : Com xs n) (h2 : ¬ Com xs (n + 1)) (h3 : Com xs m) (h4 : ¬ Com xs (m + 1)) : n = m := by
  rcases Nat.lt_trichotomy n m with h | h | h
  · exact absurd (h3.less (show n + 1 ≤ m by omega)) h2
  · exact h
  · exact absurd (h1.less (show m + 1 ≤ n by omega)) h4
theorem at_mem {xs : List (List Int)} {j : Nat} (h : j < xs.length) : xs.getD j [] ∈ xs := by
  rw [List.getD_eq_getElem?_getD, List.getElem?_eq_getElem h]
  exact List.getElem_mem h
theorem mem_at {xs : List (List Int)} {l : List Int} (h : l ∈ xs) : ∃ j, j < xs.length ∧ xs.getD j [] = l := by
  obtain ⟨j, hj, rfl⟩ := List.getElem_of_mem h
  exact ⟨j, hj, by rw [List.getD_eq_getElem?_getD, List.getElem?_eq_getElem hj]; rfl⟩
theorem agg_com {xs : List (List Int)} {n : Nat} (h : IsAgg xs n) (h0 : 0 < xs.length) : Com xs n := by
  obtain ⟨g1, g2, _⟩ := h
  have key : ∀ j, j < xs.length → n ≤ (xs.getD j []).length ∧ ∀ i, i < n → (xs.getD j []).getD i 0 = (xs.getD 0 []).getD i 0 := by
    intro j
    induction j with
    | zero => exact fun _ => ⟨g1, fun _ _ => rfl⟩
    | succ j ih =>
      intro hj
      obtain ⟨i1, i2⟩ := ih (by omega)
      refine ⟨?_, fun i hi => by rw [← (g2 i hi j hj).2.2]; exact i2 i hi⟩
      rcases Nat.eq_zero_or_pos n with e | e
      · omega
      · have := (g2 (n - 1) (by omega) j hj).2.1
        omega
  intro l hl m hm
  obtain ⟨j, hj, rfl⟩ := mem_at hl
  obtain ⟨k, hk, rfl⟩ := mem_at hm
  exact ⟨(key j hj).1, fun i hi => by rw [(key j hj).2 i hi, (key k hk).2 i hi]⟩
theorem agg_most {xs : List (List Int)} {n : Nat} (h : IsAgg xs n) (h0 : 0 < xs.length) : ¬ Com xs (n + 1) := by
  obtain ⟨g1, _, g3⟩ := h
  intro hc
  have hl := (hc _ (at_mem h0) _ (at_mem h0)).1
  obtain ⟨j, hj, hn⟩ := g3 (by omega)
  apply hn
  have hA := hc _ (at_mem (show j < xs.length by omega)) _ (at_mem hj)
  have hB := hc _ (at_mem hj) _ (at_mem hj)
  exact ⟨by have := hA.1; omega, by have := hB.1; omega, hA.2 n (by omega)⟩
/-- Rows with the same members have the same beginning. -/
theorem agg_same {xs ys : List (List Int)} {n m : Nat} (hx : IsAgg xs n) (hy : IsAgg ys m) (h0 : 0 < xs.length) (h1 : 0 < ys.length) (hs : ∀ l, l ∈ xs ↔ l ∈ ys) : n = m :=
  com_one (agg_com hx h0) (agg_most hx h0) ((agg_com hy h1).sub (fun l hl => (hs l).1 hl)) (fun hc => agg_most hy h1 (hc.sub (fun l hl => (hs l).2 hl)))
instance pairOk_dec (xs : List (List Int)) (i j : Nat) : Decidable (pairOk xs i j) := by unfold pairOk; infer_instance
def agreeAt (xs : List (List Int)) (i : Nat) : Bool := (List.range (xs.length - 1)).all fun j => decide (pairOk xs i j)
def aggFrom (xs : List (List Int)) : Nat → Nat → Nat
  | 0, i => i
  | f + 1, i => if agreeAt xs i = true then aggFrom xs f (i + 1) else i
def aggN (xs : List (List Int)) : Nat := aggFrom xs (xs.getD 0 []).length 0
theorem agree_iff (xs : List (List Int)) (i : Nat) : agreeAt xs i = true ↔ ∀ j, j + 1 < xs.length → pairOk xs i j := by
  unfold agreeAt
  rw [List.all_eq_true]
  constructor
  · intro h j hj
    exact of_decide_eq_true (h j (List.mem_range.2 (by omega)))
  · intro h j hj
    exact decide_eq_true (h j (by have := List.mem_range.1 hj; omega))
theorem aggFrom_is (xs : List (List Int)) : ∀ f i, i + f = (xs.getD 0 []).length → (∀ i', i' < i → ∀ j, j + 1 < xs.length → pairOk xs i' j) → IsAgg xs (aggFrom xs f i)
  | 0, i, hi, h => ⟨by unfold aggFrom; omega, h, fun hh => absurd hh (by unfold aggFrom; omega)⟩
  | f + 1, i, hi, h => by
    unfold aggFrom
    by_cases ha : agreeAt xs i = true
    · rw [if_pos ha]
      refine aggFrom_is xs f (i + 1) (by omega) fun i' h' => ?_
      rcases Nat.lt_or_ge i' i with h1 | h1
      · exact h i' h1
      · obtain rfl : i' = i := by omega
        exact (agree_iff xs i').1 ha
    · rw [if_neg ha]
      refine ⟨by omega, h, fun _ => ?_⟩
      apply Classical.byContradiction
      intro hn
      apply ha
      rw [agree_iff]
      intro j hj
      apply Classical.byContradiction
      intro hp
      exact hn ⟨j, hj, hp⟩
theorem aggN_is (xs : List (List Int)) : IsAgg xs (aggN xs) := aggFrom_is xs _ 0 (by omega) (fun _ h => absurd h (by omega))
theorem aggN_of {xs : List (List Int)} {n : Nat} (h : IsAgg xs n) (h0 : 0 < xs.length) : n = aggN xs := agg_same h (aggN_is xs) h0 h0 (fun _ => Iff.rfl)
end Go.Proofs.YthbdaoapjnofkaaDoor.H
