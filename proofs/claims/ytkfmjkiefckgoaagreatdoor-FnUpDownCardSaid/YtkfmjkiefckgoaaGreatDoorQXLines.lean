/- Plain lemmas of texts in lines: the first and the last place of a sign, the lines of a text, and where they begin. -/
import Derived.Test.YtkfmjkiefckgoaaGreatDoorQXPure
namespace Go.Proofs.YtkfmjkiefckgoaaGreatDoor.X
open Go.RowKit Go.Proofs.YtkfmjkiefckgoaaGreatDoorW.PrintWords Go.Proofs.YtkfmjkiefckgoaaGreatDoor.R
set_option linter.unusedVariables false
/-- The last place below n (the first one from i on, of d) where p holds; -1 if there is none. -/
def lastI (p : Nat → Bool) : Nat → Int
  | 0 => -1
  | n + 1 => if p n then (n : Int) else lastI p n
def firstI (p : Nat → Bool) : Nat → Nat → Int
  | 0, _ => -1
  | d + 1, i => if p i then (i : Int) else firstI p d (i + 1)
theorem lastI_le (p : Nat → Bool) : ∀ n, -1 ≤ lastI p n ∧ lastI p n < n
  | 0 => by simp [lastI]
  | n + 1 => by
    have := lastI_le p n
    unfold lastI; split <;> omega
theorem firstI_le (p : Nat → Bool) : ∀ d i, firstI p d i = -1 ∨ ((i : Int) ≤ firstI p d i ∧ firstI p d i < i + d)
  | 0, i => by simp [firstI]
  | d + 1, i => by
    have := firstI_le p d (i + 1)
    unfold firstI; split <;> omega
theorem firstI_spec (p : Nat → Bool) : ∀ d i, (firstI p d i = -1 ∧ ∀ j, i ≤ j → j < i + d → p j = false) ∨ ∃ j : Nat, firstI p d i = (j : Int) ∧ i ≤ j ∧ j < i + d ∧ p j = true ∧ ∀ j', i ≤ j' → j' < j → p j' = false
  | 0, i => .inl ⟨rfl, fun j h1 h2 => by omega⟩
  | d + 1, i => by
    unfold firstI
    cases h : p i with
    | true => exact .inr ⟨i, by simp, Nat.le_refl _, by omega, h, fun j' h1 h2 => by omega⟩
    | false =>
      rcases firstI_spec p d (i + 1) with ⟨h1, h2⟩ | ⟨j, h1, h2, h3, h4, h5⟩
      · refine .inl ⟨by simpa using h1, fun j a b => ?_⟩
        rcases Nat.eq_or_lt_of_le a with rfl | a
        · exact h
        · exact h2 j a (by omega)
      · refine .inr ⟨j, by simpa using h1, by omega, by omega, h4, fun j' a b => ?_⟩
        rcases Nat.eq_or_lt_of_le a with rfl | a
        · exact h
        · exact h5 j' a b
theorem lastI_is (p : Nat → Bool) (j : Nat) : ∀ n, j ≤ n → (∀ i, j ≤ i → i < n → p i = false) → (j = 0 ∨ p (j - 1) = true) → lastI p n = (j : Int) - 1
  | 0, h0, _, _ => by
    have : j = 0 := by omega
    subst this; rfl
  | n + 1, h0, h1, h2 => by
    unfold lastI
    by_cases hj : j = n + 1
    · subst hj
      rcases h2 with h2 | h2
      · omega
      · rw [show n + 1 - 1 = n from rfl] at h2
        rw [if_pos h2]; omega
    · rw [h1 n (by omega) (by omega)]
      simpa using lastI_is p j n (by omega) (fun i a b => h1 i a (by omega)) h2
/-- A text's lines. -/
def linesL : List Int → List (List Int)
  | [] => [[]]
  | x :: l => if x = 10 then [] :: linesL l else match linesL l with
    | h :: t => (x :: h) :: t
    | [] => [[x]]
def joinL (A : List (List Int)) : List Int := A.flatMap fun a => a ++ [10]
theorem joinL_cons (a : List Int) (A : List (List Int)) : joinL (a :: A) = a ++ 10 :: joinL A := by simp [joinL]
theorem joinL_append (A B : List (List Int)) : joinL (A ++ B) = joinL A ++ joinL B := by simp [joinL]
theorem linesL_ne : ∀ l, linesL l ≠ []
  | [] => by simp [linesL]
  | x :: l => by
    unfold linesL
    split
    · simp
    · split <;> simp
theorem linesL_one : ∀ l : List Int, 10 ∉ l → linesL l = [l]
  | [], _ => rfl
  | x :: l, h => by
    have h1 : ¬ x = 10 := fun e => h (by simp [e])
    unfold linesL
    rw [if_neg h1, linesL_one l (fun e => h (by simp [e]))]
theorem linesL_cut (b : List Int) : ∀ a : List Int, 10 ∉ a → linesL (a ++ 10 :: b) = a :: linesL b
  | [], _ => by simp [linesL]
  | x :: a, h => by
    have h1 : ¬ x = 10 := fun e => h (by simp [e])
    rw [List.cons_append]
    conv => lhs; unfold linesL
    rw [if_neg h1, linesL_cut b a (fun e => h (by simp [e]))]
theorem linesL_free : ∀ l : List Int, ∀ h ∈ linesL l, 10 ∉ h
  | [], h, hh => by simp [linesL] at hh; simp [hh]
  | x :: l, h, hh => by
    have ih := linesL_free l
    unfold linesL at hh
    split at hh
    · rcases List.mem_cons.1 hh with rfl | hh
      · simp
      · exact ih h hh
    · rename_i hx
      split at hh
      · rename_i a t he
        rcases List.mem_cons.1 hh with rfl | hh
        · intro hm
          rcases List.mem_cons.1 hm with e | hm
          · exact hx e.symm
          · exact ih a (by rw [he]; simp) hm
        · exact ih h (by rw [he]; simp [hh])
      · rename_i he
        exact absurd he (linesL_ne l)
theorem linesL_join : ∀ l : List Int, joinL (linesL l) = l ++ [10]
  | [] => by simp [linesL, joinL]
  | x :: l => by
    have ih := linesL_join l
    unfold linesL
    split
    · rename_i hx; rw [joinL_cons, ih, hx]; simp
    · split
      · rename_i a t he
        rw [he, joinL_cons] at ih
        rw [joinL_cons]
        simp [ih]
      · rename_i he
        exact absurd he (linesL_ne l)
theorem linesL_count : ∀ l : List Int, (linesL l).length = l.count 10 + 1
  | [] => by simp [linesL]
  | x :: l => by
    have ih := linesL_count l
    unfold linesL
    split
    · rename_i hx; rw [List.length_cons, ih, hx, List.count_cons_self]
    · rename_i hx
      split
      · rename_i a t he
        rw [he] at ih
        rw [List.count_cons_of_ne (by simpa using hx)]
        simpa using ih
      · rename_i he
        exact absurd he (linesL_ne l)
/-- A place of a text: the lines ahead of it, its line, those behind it; and the lines of both parts. -/
theorem linesL_parts : ∀ (l : List Int) (n : Nat), n ≤ l.length → ∃ A h B, linesL l = A ++ h :: B ∧ (joinL A).length ≤ n ∧ n - (joinL A).length ≤ h.length ∧ l.take n = joinL A ++ h.take (n - (joinL A).length) ∧ linesL (l.take n) = A ++ [h.take (n - (joinL A).length)] ∧ linesL (l.drop n) = h.drop (n - (joinL A).length) :: B
  | l, 0, _ => by
    cases he : linesL l with
    | nil => exact absurd he (linesL_ne l)
    | cons h B => exact ⟨[], h, B, rfl, by simp [joinL], by simp, by simp [joinL], by simp [joinL, linesL], by simp [joinL, he]⟩
  | [], n + 1, hn => by simp at hn
  | x :: l, n + 1, hn => by
    obtain ⟨A, h, B, h1, h2, h3, h4, h5, h6⟩ := linesL_parts l n (by simpa using hn)
    rw [List.take_succ_cons, List.drop_succ_cons]
    by_cases hx : x = 10
    · refine ⟨[] :: A, h, B, ?_, ?_, ?_, ?_, ?_, ?_⟩
      · rw [linesL, if_pos hx, h1]; rfl
      · rw [joinL_cons]; simp; omega
      · rw [joinL_cons]; simp; omega
      · rw [joinL_cons, h4, hx]
        simp
      · rw [linesL, if_pos hx, h5, joinL_cons]; simp
      · rw [h6, joinL_cons]; simp
    · cases A with
      | nil =>
        refine ⟨[], x :: h, B, ?_, by simp [joinL], ?_, ?_, ?_, ?_⟩
        · rw [linesL, if_neg hx, h1]; rfl
        · simp [joinL] at h3 ⊢; omega
        · simp [joinL] at h4 ⊢; exact h4
        · rw [linesL, if_neg hx, h5]; simp [joinL]
        · rw [h6]; simp [joinL]
      | cons a A =>
        refine ⟨(x :: a) :: A, h, B, ?_, ?_, ?_, ?_, ?_, ?_⟩
        · rw [linesL, if_neg hx, h1]; rfl
        · rw [joinL_cons] at h2 ⊢; simp at h2 ⊢; omega
        · rw [joinL_cons] at h3 ⊢; simp at h3 ⊢; omega
        · rw [joinL_cons] at h4 ⊢
          rw [h4]
          simp
        · rw [linesL, if_neg hx, h5]; rw [joinL_cons]; simp [joinL_cons]
        · rw [h6, joinL_cons]; simp [joinL_cons]
/-- Where the lines begin, and the end. -/
def startsL (L : List (List Int)) : List Int := (List.range (L.length + 1)).map fun i => ((joinL (L.take i)).length : Int)
theorem startsL_length (L : List (List Int)) : (startsL L).length = L.length + 1 := by simp [startsL]
theorem startsL_at (L : List (List Int)) (i : Nat) (h : i ≤ L.length) : (startsL L)[i]'(by rw [startsL_length]; omega) = ((joinL (L.take i)).length : Int) := by simp [startsL]
theorem join_mono (L : List (List Int)) {i j : Nat} (h : i ≤ j) : (joinL (L.take i)).length ≤ (joinL (L.take j)).length := by
  have e : L.take j = L.take i ++ (L.take j).drop i := by
    have := (List.take_append_drop i (L.take j)).symm
    rwa [List.take_take, Nat.min_eq_left h] at this
  rw [e, joinL_append, List.length_append]; omega
theorem join_succ (L : List (List Int)) (i : Nat) (h : i < L.length) : (joinL (L.take (i + 1))).length = (joinL (L.take i)).length + L[i].length + 1 := by
  rw [List.take_succ_eq_append_getElem h, joinL_append]
  simp [joinL]; omega
/-- A list that is being filled from its beginning on. -/
def partL (T : List Int) (i n : Nat) : List Int := T.take i ++ List.replicate (n - i) 0
theorem partL_zero (T : List Int) (n : Nat) : partL T 0 n = List.replicate n 0 := by simp [partL]
theorem partL_all (T : List Int) (n : Nat) (h : T.length = n) : partL T n n = T := by simp [partL, ← h]
theorem partL_length (T : List Int) (i n : Nat) (h : i ≤ T.length) (h2 : i ≤ n) : (partL T i n).length = n := by simp [partL]; omega
theorem partL_set (T : List Int) (i n : Nat) (h : i < T.length) (h2 : i < n) : (partL T i n).set i T[i] = partL T (i + 1) n := by
  have hl : (T.take i).length = i := by rw [List.length_take]; omega
  unfold partL
  rw [List.set_append_right _ _ (by omega), hl, Nat.sub_self, List.take_succ_eq_append_getElem h, show n - i = (n - (i + 1)) + 1 from by omega, List.replicate_succ, List.append_assoc]
  rfl
theorem bt_list (s : ByteArray) (i : Nat) (h : i < s.size) : bt s (i : Int) = (ints s)[i]'(by rw [ints_length]; exact h) := bt_ints s i h
theorem nl_at (s : ByteArray) (i : Nat) (h : i < s.size) : (s.extract i (i + 1)).toList = (⟨#[10]⟩ : ByteArray).toList ↔ bt s (i : Int) = 10 := by
  rw [bt_nat s i h, ByteArray.toList_eq, ByteArray.toList_eq, Lib.extract_data, show i + 1 - i = 1 from by omega, List.drop_eq_getElem_cons (by rw [dlen]; exact h)]
  generalize s.data.toList[i]'(by rw [dlen]; exact h) = b
  simp only [List.take_succ_cons, List.take_zero]
  show [b] = [(10 : UInt8)] ↔ _
  rw [List.cons.injEq, ← UInt8.toNat_inj]
  simp
  show b.toNat = 10 ↔ _
  omega
def nlp (s : ByteArray) (i : Nat) : Bool := decide (bt s (i : Int) = 10)
/-- The first line, and the lines behind it. -/
theorem lines_step (s : ByteArray) : (firstI (nlp s) s.size 0 = -1 ∧ linesL (ints s) = [ints s]) ∨
    ∃ j : Nat, firstI (nlp s) s.size 0 = (j : Int) ∧ j < s.size ∧ linesL (ints s) = ints (s.extract 0 j) :: linesL (ints (s.extract (j + 1) s.size)) := by
  have hl := ints_length s
  rcases firstI_spec (nlp s) s.size 0 with ⟨h1, h2⟩ | ⟨j, h1, _, h3, h4, h5⟩
  · refine .inl ⟨h1, linesL_one _ fun hm => ?_⟩
    obtain ⟨i, hi, he⟩ := List.getElem_of_mem hm
    have hb := h2 i (by omega) (by omega)
    unfold nlp at hb
    rw [bt_list s i (by omega), he] at hb
    simp at hb
  · refine .inr ⟨j, h1, by omega, ?_⟩
    have hj : j < (ints s).length := by omega
    have e10 : (ints s)[j] = 10 := by
      unfold nlp at h4
      rw [bt_list s j (by omega)] at h4
      simpa using h4
    rw [ints_extract, ints_extract, List.drop_zero, Nat.sub_zero, List.take_of_length_le (i := s.size - (j + 1)) (by rw [List.length_drop]; omega)]
    have e : ints s = (ints s).take j ++ 10 :: (ints s).drop (j + 1) := by
      have := List.drop_eq_getElem_cons hj
      rw [e10] at this
      rw [← this, List.take_append_drop]
    rw [← linesL_cut _ _ (fun hm => ?_), ← e]
    obtain ⟨i, hi, he⟩ := List.getElem_of_mem hm
    rw [List.length_take] at hi
    have hb := h5 i (by omega) (by omega)
    unfold nlp at hb
    rw [List.getElem_take] at he
    rw [bt_list s i (by omega), he] at hb
    simp at hb
end Go.Proofs.YtkfmjkiefckgoaaGreatDoor.X
