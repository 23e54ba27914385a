/- Places of a cursor in a text by plain functions: its column, what its line has behind it, its row, and the place of a row and a column; no condition. -/
import Derived.Test.YtkfmjkiefckgoaaGreatDoorQXAround
namespace Go.Proofs.YtkfmjkiefckgoaaGreatDoor.X
open Go.RowKit Go.Proofs.YtkfmjkiefckgoaaGreatDoor.R Go.Proofs.YtkfmjkiefckgoaaGreatDoor.H Go.Proofs.YtkfmjkiefckgoaaGreatDoorW.PrintWords Go.Proofs.YtkfmjkiefckgoaaGreatDoorW.PrintLast
set_option linter.unusedVariables false
set_option linter.unusedSimpArgs false
def colB (s : ByteArray) (n : Nat) : Nat := ((linesL ((ints s).take n)).getLastD []).length
def tailB (s : ByteArray) (n : Nat) : Nat := ((linesL ((ints s).drop n)).headD []).length
def rowB (s : ByteArray) (n : Nat) : Nat := (linesL ((ints s).take n)).length - 1
def rowsB (s : ByteArray) : Nat := (linesL (ints s)).length
/-- The place of a row that there is and a column. -/
def indexB (s : ByteArray) (r c : Nat) : Nat := (joinL ((linesL (ints s)).take r)).length + min c ((linesL (ints s)).getD r []).length
section
variable {s : ByteArray} {n : Nat} {A : List (List Int)} {h : List Int} {B : List (List Int)} {P Q : ByteArray} {L : List ByteArray}
theorem Spot.colB_is (S : Spot s n A h B P Q L) : colB s n = n - (joinL A).length := by
  unfold colB
  rw [← S.fst, S.one]
  have := S.within
  simp [List.getLastD_concat]
  omega
theorem Spot.tailB_is (S : Spot s n A h B P Q L) : tailB s n = h.length - (n - (joinL A).length) := by
  unfold tailB
  rw [← S.snd, S.two]
  simp
theorem Spot.rowB_is (S : Spot s n A h B P Q L) : rowB s n = A.length := by
  unfold rowB
  rw [← S.fst, S.one]
  simp
theorem Spot.rowsB_is (S : Spot s n A h B P Q L) : rowsB s = A.length + 1 + B.length := by
  unfold rowsB
  rw [S.lines]
  simp; omega
theorem Spot.P_is (S : Spot s n A h B P Q L) : P = s.extract 0 n := ints_inj (by rw [S.fst, ints_extract]; simp)
theorem Spot.Q_is (S : Spot s n A h B P Q L) : Q = s.extract n s.size := ints_inj (by
  rw [S.snd, ints_extract, List.take_of_length_le]
  rw [List.length_drop, ints_length]
  exact Nat.le_refl _)
theorem Spot.col_le (S : Spot s n A h B P Q L) : colB s n ≤ n := by rw [S.colB_is]; omega
theorem Spot.tail_le (S : Spot s n A h B P Q L) : n + tailB s n ≤ s.size := by
  rw [S.tailB_is]
  have h4 := linesL_join (ints Q)
  rw [S.two, joinL_cons] at h4
  have := congrArg List.length h4
  simp at this
  have h5 := ints_length Q
  have h6 := S.sizes
  have h7 := S.inside
  omega
theorem Spot.col_tells (S : Spot s n A h B P Q L) : Ev (fun k => PAroundOf.goprompt_Document_CursorPositionCol.f k s (n : Int)) ((colB s n : Int), s, (n : Int)) := by
  have hle := S.le
  have hn := S.inside
  have hs := S.small
  unfold PAroundOf.goprompt_Document_CursorPositionCol.f
  refine ev_bind S.find_tells (ev_some ?_)
  simp only
  rw [w64 (by omega) (by omega), S.colB_is]
  simp only [Prod.mk.injEq, and_true]
  omega
theorem Spot.row_tells (S : Spot s n A h B P Q L) : Ev (fun k => PAroundOf.goprompt_Document_CursorPositionRow.f k s (n : Int)) ((rowB s n : Int), s, (n : Int)) := by
  unfold PAroundOf.goprompt_Document_CursorPositionRow.f
  rw [S.rowB_is]
  exact ev_bind S.find_tells (Ev.now _)
/-- What stands behind the cursor in its line. -/
theorem Spot.behind_tells (S : Spot s n A h B P Q L) : ∃ V : ByteArray, V = s.extract n (n + tailB s n) ∧ V.size = tailB s n ∧ Ev (fun k => PAroundOf.goprompt_Document_CurrentLineAfterCursor.f k s (n : Int)) (V, s, (n : Int)) ∧ Ev (fun k => PAroundOf.goprompt_Document_GetEndOfLinePosition.f k s (n : Int)) ((tailB s n : Int), s, (n : Int)) := by
  obtain ⟨U, V, hU, hV, eU, eV⟩ := S.line_tells
  have hz := S.sizes
  have hs := S.small
  have hn := S.inside
  have h4 := linesL_join (ints Q)
  rw [S.two, ← hV, joinL_cons] at h4
  have hl := congrArg List.length h4
  simp at hl
  have h5 := ints_length Q
  have h6 := ints_length V
  have ht : V.size = tailB s n := by rw [S.tailB_is, ← h6, hV, List.length_drop]
  have hVq : ints V = (ints Q).take V.size := by
    have := congrArg (List.take V.size) h4
    rw [List.take_append_of_le_length (by omega), List.take_append_of_le_length (by omega), List.take_of_length_le (by omega)] at this
    exact this
  refine ⟨V, ints_inj ?_, ht, eV, ?_⟩
  · rw [ints_extract, hVq, S.snd, ht]
    congr 1; omega
  · have hVasc : Asc V := by
      intro b hb
      have hm : (b.toNat : Int) ∈ ints V := List.mem_map.2 ⟨b, hb, rfl⟩
      rw [hVq] at hm
      have := (asc_ints S.ascQ _ (List.mem_of_mem_take hm)).2; omega
    unfold PAroundOf.goprompt_Document_GetEndOfLinePosition.f
    refine ev_bind eV ?_
    rw [runesOf_asc hVasc, ints_length, ht]
    exact ev_ifp (by omega) (Ev.now _)
theorem Spot.last_tells (S : Spot s n A h B P Q L) (hE : ∀ a, Ev (fun k => PAroundOf.goprompt_Document_Lines.f k s a) (L, s, a)) : Ev (fun k => PAroundOf.goprompt_Document_OnLastLine.f k s (n : Int)) ((rowB s n : Int) == (rowsB s : Int) - 1, s, (n : Int)) := by
  have hrs := S.rows
  have hlen := S.len
  unfold PAroundOf.goprompt_Document_OnLastLine.f
  refine ev_bind S.row_tells (ev_bind (a := ((L.length : Int), s, (n : Int))) ?_ (ev_some ?_))
  · unfold PAroundOf.goprompt_Document_LineCount.f
    exact ev_bind (hE _) (Ev.now _)
  · simp only
    rw [w64 (by omega) (by omega), S.rowsB_is, hlen]
end
end Go.Proofs.YtkfmjkiefckgoaaGreatDoor.X
