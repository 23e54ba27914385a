/- Plain lemmas of texts in lines: the first and the last place of a sign, the lines of a text, and where they begin. -/
import Derived.Test.YtanadaamipfmkaaDoorQXPure
namespace Go.Proofs.YtanadaamipfmkaaDoor.X
open Go.RowKit Go.Proofs.YtanadaamipfmkaaDoorW.PrintWords Go.Proofs.YtanadaamipfmkaaDoor.R
set_option linter.unusedVariables false
/-- A text's lines. -/
def linesL : List Int → List (List Int)
  | [] => [[]]
  | x :: l => if x = 10 then [] :: linesL l else match linesL l with
    | h :: t => (x :: h) :: t
    | [] => [[x]]
def joinL (A : List (List Int)) : List Int := A.flatMap fun a => a ++ [10]
theorem joinL_cons (a : List Int) (A : List (List Int)) : joinL (a :: A) = a ++ 10 :: joinL A := by simp [joinL]
theorem joinL_append (A B : List (List Int)) : joinL (A ++ B) = joinL A ++ joinL B := by simp [joinL]
theorem linesL_ne : ∀ l, linesL l ≠ []
  | [] => by simp [linesL]
  | x :: l => by
    unfold linesL
    split
    · simp
    · split <;> simp
theorem linesL_one : ∀ l : List Int, 10 ∉ l → linesL l = [l]
  | [], _ => rfl
  | x :: l, h => by
    have h1 : ¬ x = 10 := fun e => h (by simp [e])
    unfold linesL
    rw [if_neg h1, linesL_one l (fun e => h (by simp [e]))]
theorem linesL_cut (b : List Int) : ∀ a : List Int, 10 ∉ a → linesL (a ++ 10 :: b) = a :: linesL b
  | [], _ => by simp [linesL]
  | x :: a, h => by
    have h1 : ¬ x = 10 := fun e => h (by simp [e])
    rw [List.cons_append]
    conv => lhs; unfold linesL
    rw [if_neg h1, linesL_cut b a (fun e => h (by simp [e]))]
theorem linesL_join : ∀ l : List Int, joinL (linesL l) = l ++ [10]
  | [] => by simp [linesL, joinL]
  | x :: l => by
    have ih := linesL_join l
    unfold linesL
    split
    · rename_i hx; rw [joinL_cons, ih, hx]; simp
    · split
      · rename_i a t he
        rw [he, joinL_cons] at ih
        rw [joinL_cons]
        simp [ih]
      · rename_i he
        exact absurd he (linesL_ne l)
theorem join_mono (L : List (List Int)) {i j : Nat} (h : i ≤ j) : (joinL (L.take i)).length ≤ (joinL (L.take j)).length := by
  have e : L.take j = L.take i ++ (L.take j).drop i := by
    have := (List.take_append_drop i (L.take j)).symm
    rwa [List.take_take, Nat.min_eq_left h] at this
  rw [e, joinL_append, List.length_append]; omega
/-- A list that is being filled from its beginning on. -/
def partL (T : List Int) (i n : Nat) : List Int := T.take i ++ List.replicate (n - i) 0
theorem partL_zero (T : List Int) (n : Nat) : partL T 0 n = List.replicate n 0 := by simp [partL]
theorem partL_all (T : List Int) (n : Nat) (h : T.length = n) : partL T n n = T := by simp [partL, ← h]
theorem partL_length (T : List Int) (i n : Nat) (h : i ≤ T.length) (h2 : i ≤ n) : (partL T i n).length = n := by simp [partL]; omega
theorem partL_set (T : List Int) (i n : Nat) (h : i < T.length) (h2 : i < n) : (partL T i n).set i T[i] = partL T (i + 1) n := by
  have hl : (T.take i).length = i := by rw [List.length_take]; omega
  unfold partL
  rw [List.set_append_right _ _ (by omega), hl, Nat.sub_self, List.take_succ_eq_append_getElem h, show n - i = (n - (i + 1)) + 1 from by omega, List.replicate_succ, List.append_assoc]
  rfl
theorem bt_list (s : ByteArray) (i : Nat) (h : i < s.size) : bt s (i : Int) = (ints s)[i]'(by rw [ints_length]; exact h) := bt_ints s i h
end Go.Proofs.YtanadaamipfmkaaDoor.X
