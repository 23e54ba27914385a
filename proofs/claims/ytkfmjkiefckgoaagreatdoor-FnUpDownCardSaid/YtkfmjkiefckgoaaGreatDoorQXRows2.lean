/- The place of a row that there is and a column (goprompt.Document.TranslateRowColToIndex) by a plain function; for texts of ASCII of at most 5000 bytes. -/
import Derived.Test.YtkfmjkiefckgoaaGreatDoorQPAroundOfx4
import Derived.Test.YtkfmjkiefckgoaaGreatDoorQXSpot
namespace Go.Proofs.YtkfmjkiefckgoaaGreatDoor.X
open Go.RowKit Go.Proofs.YtkfmjkiefckgoaaGreatDoor.R Go.Proofs.YtkfmjkiefckgoaaGreatDoor.H Go.Proofs.YtkfmjkiefckgoaaGreatDoorW.PrintWords Go.Proofs.YtkfmjkiefckgoaaGreatDoorW.PrintLast
set_option linter.unusedVariables false
set_option linter.unusedSimpArgs false
theorem idxL_at (LL : List (List Int)) (i : Nat) (hi : i < LL.length) : i < (idxL LL).length ∧ rd (idxL LL) (i : Int) = ((joinL (LL.take i)).length : Int) ∧ (idxL LL).length ≤ LL.length + 1 := by
  have hT := startsL_length LL
  have hlen : (idxL LL).length = LL.length ∧ LL.length > 1 ∨ (idxL LL).length = LL.length + 1 ∧ ¬ LL.length > 1 := by
    unfold idxL
    by_cases hc : LL.length > 1
    · rw [if_pos hc]; left; rw [List.length_take, hT]; omega
    · rw [if_neg hc]; right; rw [hT]; omega
  refine ⟨by omega, ?_, by omega⟩
  have e : (idxL LL)[i]? = (startsL LL)[i]? := by
    unfold idxL
    split
    · rw [List.getElem?_take_of_lt hi]
    · rfl
  unfold rd
  rw [Int.toNat_natCast, List.getD_eq_getElem?_getD, e, List.getElem?_eq_getElem (by rw [hT]; omega), startsL_at LL i (by omega)]
  rfl
theorem index_le (s : ByteArray) (r c : Nat) (hr : r < rowsB s) : indexB s r c ≤ s.size := by
  unfold rowsB at hr
  unfold indexB
  have h1 := join_succ (linesL (ints s)) r hr
  have h2 := join_mono (linesL (ints s)) (i := r + 1) (j := (linesL (ints s)).length) (by omega)
  rw [List.take_length, linesL_join, List.length_append, ints_length] at h2
  rw [List.getD_eq_getElem?_getD, List.getElem?_eq_getElem hr]
  simp only [List.length_cons, List.length_nil, Option.getD_some] at h2 ⊢
  omega
theorem trans_tells (s : ByteArray) (n : Int) (hs : s.size ≤ 5000) (r c : Nat) (hr : r < rowsB s) (hc : c ≤ 1000000) : Ev (fun k => PAroundOf.goprompt_Document_TranslateRowColToIndex.f k s n (r : Int) (c : Int)) ((indexB s r c : Int), s, n) := by
  obtain ⟨L, hL, hE⟩ := doc_lines s hs
  have hle := index_le s r c hr
  have hr' := hr
  unfold rowsB at hr'
  obtain ⟨i1, i2, i3⟩ := idxL_at (linesL (ints s)) r hr'
  have hlen : L.length = (linesL (ints s)).length := by rw [← hL, List.length_map]
  have hrow : (linesL (ints s)).getD r [] = ints (L[r]'(by omega)) := by
    rw [← hL, List.getD_eq_getElem?_getD, List.getElem?_map, List.getElem?_eq_getElem (by omega)]; rfl
  have hix : indexB s r c = (joinL ((linesL (ints s)).take r)).length + min c (L[r]'(by omega)).size := by
    unfold indexB; rw [hrow, ints_length]
  have hrd : rdOf ByteArray.empty L (r : Int) = L[r]'(by omega) := by
    unfold rdOf
    rw [Int.toNat_natCast, List.getD_eq_getElem?_getD, List.getElem?_eq_getElem (by omega)]; rfl
  have hcount := linesL_count (ints s)
  have hcl : (ints s).count 10 ≤ (ints s).length := List.count_le_length
  rw [ints_length] at hcl
  have j2 : ∀ x : Int, x = (indexB s r c : Int) → Ev (fun k => PAroundOf.goprompt_Document_TranslateRowColToIndex.j2 k x s n) ((indexB s r c : Int), s, n) := by
    intro x hx
    refine Ev.step (fun k => by rw [PAroundOf.goprompt_Document_TranslateRowColToIndex.j2]) (ev_ifn (by omega) (ev_ifn (by omega) (ev_some (by rw [hx]))))
  unfold PAroundOf.goprompt_Document_TranslateRowColToIndex.f
  refine ev_bind (indexes_tells s n hs) ?_
  simp only
  refine ev_ifn (by omega) (ev_ifn (by omega) ?_)
  refine Ev.step (fun k => by rw [PAroundOf.goprompt_Document_TranslateRowColToIndex.j0, i2]) (ev_ifp (by omega) (ev_ifp (by omega) ?_))
  refine ev_bind (hE n) ?_
  simp only [hrd]
  refine ev_ifp (by omega) ?_
  obtain ⟨y, hy⟩ : ∃ y, y = L[r]'(by omega) := ⟨_, rfl⟩
  rw [← hy] at hix ⊢
  obtain ⟨z, hz⟩ : ∃ z, z = y.size := ⟨_, rfl⟩
  rw [← hz] at hix
  have j1 : ∀ (y : ByteArray) (f : Bool), y.size = z → (f = false → c = 0 ∧ z = 0) → Ev (fun k => PAroundOf.goprompt_Document_TranslateRowColToIndex.j1 k (c : Int) ((joinL ((linesL (ints s)).take r)).length : Int) y f s n) ((indexB s r c : Int), s, n) := by
    intro y f hy hf
    cases f with
    | false =>
      obtain ⟨h1, h2⟩ := hf rfl
      exact Ev.step (fun k => by rw [PAroundOf.goprompt_Document_TranslateRowColToIndex.j1]) (ev_ifn Bool.false_ne_true (j2 _ (by omega)))
    | true =>
      refine Ev.step (fun k => by rw [PAroundOf.goprompt_Document_TranslateRowColToIndex.j1]) (ev_ifp rfl ?_)
      by_cases h : (c : Int) > (y.size : Int)
      · exact ev_ifp h (j2 _ (by rw [w64 (by omega) (by omega)]; omega))
      · exact ev_ifn h (j2 _ (by rw [w64 (by omega) (by omega)]; omega))
  by_cases hc0 : (c : Int) > 0
  · exact ev_ifp hc0 (j1 y true hz.symm (fun h => by cases h))
  · refine ev_ifn hc0 (j1 y _ hz.symm (fun h => ?_))
    have := of_decide_eq_false h
    omega
end Go.Proofs.YtkfmjkiefckgoaaGreatDoor.X
