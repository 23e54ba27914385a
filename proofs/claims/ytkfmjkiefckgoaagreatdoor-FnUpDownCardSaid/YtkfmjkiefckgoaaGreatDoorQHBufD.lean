/- Methods of a document by the block that holds it, and the document that a buffer makes (goprompt.Buffer.Document); for texts of ASCII of at most 5000 bytes and a cursor in them. -/
import Derived.Test.YtkfmjkiefckgoaaGreatDoorQHBufI
import Derived.Test.YtkfmjkiefckgoaaGreatDoorQHDocument
import Derived.Test.YtkfmjkiefckgoaaGreatDoorQXSpot
namespace Go.Proofs.YtkfmjkiefckgoaaGreatDoor.H
open Go.RowKit Go.Proofs.YtkfmjkiefckgoaaGreatDoorW.PrintWords Go.Proofs.YtkfmjkiefckgoaaGreatDoorW.PrintLast Go.Proofs.YtkfmjkiefckgoaaGreatDoor.R Go.Proofs.YtkfmjkiefckgoaaGreatDoor.X Go.Proofs.YtkfmjkiefckgoaaGreatDoor.PAroundOf
set_option linter.unusedVariables false
set_option linter.unusedSimpArgs false
/-- The world without its memory. -/
def bare (w : World) : World := { w with heap := #[] }
theorem bare_below (w : World) : Below (bare w).heap.size (bare w) w := ⟨rfl, rfl, rfl, Nat.zero_le _, fun k hk => absurd hk (Nat.not_lt_zero k)⟩
theorem Doc.is {w : World} {d : Nat} {t : ByteArray} {p : Int} (h : Doc w d t p) : IsS67 (bare w) w d t p := ⟨h, Nat.zero_le _⟩
/-- A method that leaves its document as it was leaves all. -/
theorem doc_stays {w0 w w' : World} {d : Nat} {t : ByteArray} {p : Int} (h : Doc w d t p) (h0 : Below w0.heap.size w0 w) (hI : IsS67 w0 w' d t p) (hb : Below w0.heap.size w0 w') (hk : KeepBut w w' d none) : Below w.heap.size w w' := by
  refine ⟨hb.os.trans h0.os.symm, hb.tape.trans h0.tape.symm, hb.output.trans h0.output.symm, hk.1, fun k hlt => ?_⟩
  by_cases e : k = d
  · subst e
    exact (show w'.heap[k]? = _ from hI.1).trans (show w.heap[k]? = _ from h).symm
  · exact hk.2 k hlt e (by simp)
/-- What is asked of a text and a place. -/
def OkT (s : ByteArray) (n : Nat) : Prop := s.size ≤ 5000 ∧ Asc s ∧ n ≤ s.size
section
variable {w : World} {d n : Nat} {s : ByteArray}
theorem before_c (h : OkT s n) (hd : Doc w d s n) : Calls Tryz.prog 29 #[Pt d] w fun e w' => e = .returned (.string (s.extract 0 n)) ∧ Below w.heap.size w w' := by
  obtain ⟨A, hh, B, P, Q, L, S, hE⟩ := spot_ s n h.1 h.2.1 h.2.2
  rw [← S.P_is]
  refine (goprompt_Document_TextBeforeCursor.calls d s n _ s n (bare w) w hd.is (bare_below w) S.before_tells).mono ?_
  rintro e w' ⟨rfl, hI, hb, hk2⟩
  exact ⟨rfl, doc_stays hd (bare_below w) hI hb hk2⟩
theorem after_c (h : OkT s n) (hd : Doc w d s n) : Calls Tryz.prog 30 #[Pt d] w fun e w' => e = .returned (.string (s.extract n s.size)) ∧ Below w.heap.size w w' := by
  obtain ⟨A, hh, B, P, Q, L, S, hE⟩ := spot_ s n h.1 h.2.1 h.2.2
  rw [← S.Q_is]
  refine (goprompt_Document_TextAfterCursor.calls d s n _ s n (bare w) w hd.is (bare_below w) S.after_tells).mono ?_
  rintro e w' ⟨rfl, hI, hb, hk2⟩
  exact ⟨rfl, doc_stays hd (bare_below w) hI hb hk2⟩
theorem lineAfter_c (h : OkT s n) (hd : Doc w d s n) : Calls Tryz.prog 32 #[Pt d] w fun e w' => e = .returned (.string (s.extract n (n + tailB s n))) ∧ Below w.heap.size w w' := by
  obtain ⟨A, hh, B, P, Q, L, S, hE⟩ := spot_ s n h.1 h.2.1 h.2.2
  obtain ⟨V, rfl, hV, ⟨k, hk⟩, _⟩ := S.behind_tells
  refine (goprompt_Document_CurrentLineAfterCursor.calls k d s n _ s n (bare w) w hd.is (bare_below w) (hk k (Nat.le_refl _))).mono ?_
  rintro e w' ⟨rfl, hI, hb, hk2⟩
  exact ⟨rfl, doc_stays hd (bare_below w) hI hb hk2⟩
theorem toEnd_c (h : OkT s n) (hd : Doc w d s n) : Calls Tryz.prog 38 #[Pt d] w fun e w' => e = .returned (.int .i64 (tailB s n : Int)) ∧ Below w.heap.size w w' := by
  obtain ⟨A, hh, B, P, Q, L, S, hE⟩ := spot_ s n h.1 h.2.1 h.2.2
  obtain ⟨V, _, hV, _, ⟨k, hk⟩⟩ := S.behind_tells
  refine (goprompt_Document_GetEndOfLinePosition.calls k d s n _ s n (bare w) w hd.is (bare_below w) (hk k (Nat.le_refl _))).mono ?_
  rintro e w' ⟨rfl, hI, hb, hk2⟩
  exact ⟨rfl, doc_stays hd (bare_below w) hI hb hk2⟩
theorem col_c (h : OkT s n) (hd : Doc w d s n) : Calls Tryz.prog 35 #[Pt d] w fun e w' => e = .returned (.int .i64 (colB s n : Int)) ∧ Below w.heap.size w w' := by
  obtain ⟨A, hh, B, P, Q, L, S, hE⟩ := spot_ s n h.1 h.2.1 h.2.2
  obtain ⟨k, hk⟩ := S.col_tells
  refine (goprompt_Document_CursorPositionCol.calls k d s n _ s n (bare w) w hd.is (bare_below w) (hk k (Nat.le_refl _))).mono ?_
  rintro e w' ⟨rfl, hI, hb, hk2⟩
  exact ⟨rfl, doc_stays hd (bare_below w) hI hb hk2⟩
theorem row_c (h : OkT s n) (hd : Doc w d s n) : Calls Tryz.prog 34 #[Pt d] w fun e w' => e = .returned (.int .i64 (rowB s n : Int)) ∧ Below w.heap.size w w' := by
  obtain ⟨A, hh, B, P, Q, L, S, hE⟩ := spot_ s n h.1 h.2.1 h.2.2
  obtain ⟨k, hk⟩ := S.row_tells
  refine (goprompt_Document_CursorPositionRow.calls k d s n _ s n (bare w) w hd.is (bare_below w) (hk k (Nat.le_refl _))).mono ?_
  rintro e w' ⟨rfl, hI, hb, hk2⟩
  exact ⟨rfl, doc_stays hd (bare_below w) hI hb hk2⟩
theorem last_c (h : OkT s n) (hd : Doc w d s n) : Calls Tryz.prog 37 #[Pt d] w fun e w' => e = .returned (.bool ((rowB s n : Int) == (rowsB s : Int) - 1)) ∧ Below w.heap.size w w' := by
  obtain ⟨A, hh, B, P, Q, L, S, hE⟩ := spot_ s n h.1 h.2.1 h.2.2
  obtain ⟨k, hk⟩ := S.last_tells hE
  refine (goprompt_Document_OnLastLine.calls k d s n _ s n (bare w) w hd.is (bare_below w) (hk k (Nat.le_refl _))).mono ?_
  rintro e w' ⟨rfl, hI, hb, hk2⟩
  exact ⟨rfl, doc_stays hd (bare_below w) hI hb hk2⟩
theorem startSp_c (h : OkT s n) (hd : Doc w d s n) : Calls Tryz.prog 61 #[Pt d] w fun e w' => e = .returned (.int .i64 (startSp (s.extract 0 n))) ∧ Below w.heap.size w w' := by
  obtain ⟨A, hh, B, P, Q, L, S, hE⟩ := spot_ s n h.1 h.2.1 h.2.2
  rw [← S.P_is]
  obtain ⟨k, hk⟩ := S.words.2.1
  refine (goprompt_Document_FindStartOfPreviousWordWithSpace.calls k d s n _ s n (bare w) w hd.is (bare_below w) (hk k (Nat.le_refl _))).mono ?_
  rintro e w' ⟨rfl, hI, hb, hk2⟩
  exact ⟨rfl, doc_stays hd (bare_below w) hI hb hk2⟩
theorem piece_len (h : OkT s n) : (s.extract n (n + tailB s n)).size = tailB s n := by
  obtain ⟨A, hh, B, P, Q, L, S, hE⟩ := spot_ s n h.1 h.2.1 h.2.2
  obtain ⟨V, hV, hz, _⟩ := S.behind_tells
  rw [← hV, hz]
theorem places_le (h : OkT s n) : colB s n ≤ n ∧ n + tailB s n ≤ s.size ∧ rowB s n < rowsB s ∧ rowsB s ≤ 5001 := by
  obtain ⟨A, hh, B, P, Q, L, S, hE⟩ := spot_ s n h.1 h.2.1 h.2.2
  have := S.rows
  have := S.len
  exact ⟨S.col_le, S.tail_le, by rw [S.rowB_is, S.rowsB_is]; omega, by rw [S.rowsB_is]; omega⟩
theorem left_c (h : OkT s n) (hd : Doc w d s n) (c : Int) (h0 : 0 ≤ c) (h1 : c ≤ 1000000000) : Calls Tryz.prog 102 #[Pt d, .int .i64 c] w fun e w' => e = .returned (.int .i64 (-(min c (colB s n)))) ∧ Below w.heap.size w w' := by
  have hp := places_le h
  have HC := Lib.hid (fun w (hd : Doc w d s n) => col_c h hd)
  have HD := Lib.hid hd
  have hn := h.1
  have hn2 := h.2.2
  clear h hd
  generalize colB s n = k at *
  by_cases hlt : c < (k : Int)
  · go_enter Tryz.func102, Tryz.ntmps102
    go_wp2_with (go_at_call 35; refine (HC.out _ HD.out).mono ?_; rintro e w1 ⟨rfl, hb1⟩)
    go_ret
    exact ⟨congrArg (fun x => Ending.returned (.int .i64 x)) (show -c = -(min c (k : Int)) by omega), hb1⟩
  · go_enter Tryz.func102, Tryz.ntmps102
    go_wp2_with (first
      | (go_at_call 35; refine (HC.out _ HD.out).mono ?_; rintro e w1 ⟨rfl, hb1⟩; have HB1 := Lib.hid hb1; clear hb1)
      | (go_at_call 35; refine (HC.out _ (HD.out.stays HB1.out)).mono ?_; rintro e w2 ⟨rfl, hb2⟩))
    go_ret
    exact ⟨congrArg (fun x => Ending.returned (.int .i64 x)) (show -(k : Int) = -(min c (k : Int)) by omega), HB1.out.trans (hb2.mono HB1.out.size)⟩
theorem right_c (h : OkT s n) (hd : Doc w d s n) (c : Int) (h0 : 0 ≤ c) (h1 : c ≤ 1000000000) : Calls Tryz.prog 103 #[Pt d, .int .i64 c] w fun e w' => e = .returned (.int .i64 (min c (tailB s n))) ∧ Below w.heap.size w w' := by
  have hp := places_le h
  have hz := piece_len h
  have HC := Lib.hid (fun w (hd : Doc w d s n) => lineAfter_c h hd)
  have HD := Lib.hid hd
  have hn := h.1
  have hn2 := h.2.2
  clear h hd
  generalize s.extract n (n + tailB s n) = V at *
  generalize tailB s n = k at *
  obtain rfl := hz
  by_cases hlt : c < (V.size : Int)
  · go_enter Tryz.func103, Tryz.ntmps103
    go_wp2_with (go_at_call 32; refine (HC.out _ HD.out).mono ?_; rintro e w1 ⟨rfl, hb1⟩)
    go_ret
    exact ⟨congrArg (fun x => Ending.returned (.int .i64 x)) (show c = min c (V.size : Int) by omega), hb1⟩
  · go_enter Tryz.func103, Tryz.ntmps103
    go_wp2_with (first
      | (go_at_call 32; refine (HC.out _ HD.out).mono ?_; rintro e w1 ⟨rfl, hb1⟩; have HB1 := Lib.hid hb1; clear hb1)
      | (go_at_call 32; refine (HC.out _ (HD.out.stays HB1.out)).mono ?_; rintro e w2 ⟨rfl, hb2⟩))
    go_ret
    exact ⟨congrArg (fun x => Ending.returned (.int .i64 x)) (show (V.size : Int) = min c (V.size : Int) by omega), HB1.out.trans (hb2.mono HB1.out.size)⟩
theorem BS.slot3 {B m g : Nat} {p q : Int} (h : BS w B m g s p q) (o : Obj) : ((∃ v, w.cell? ⟨m, 3, none⟩ = some v) ∧ w.frozen? ⟨m, 3, none⟩ = false) ∧ ((∃ v, (w.alloc o).cell? ⟨m, 3, none⟩ = some v) ∧ (w.alloc o).frozen? ⟨m, 3, none⟩ = false) := by
  have h' := h.alloc o
  obtain ⟨cv, h1, _⟩ := h
  obtain ⟨cv', h1', _⟩ := h'
  exact ⟨⟨⟨cv, h1.cell 3 rfl⟩, h1.free 3⟩, ⟨⟨cv', h1'.cell 3 rfl⟩, h1'.free 3⟩⟩
theorem Doc.cell3 {B m g : Nat} {p q : Int} {o : Obj} {l : List Value} {t : TypeId} {d' : Nat} (_ : Rec (w.alloc o) d' l t) (h : BS w B m g s p q) : ((w.alloc o).setCell ⟨m, 3, none⟩ (Pt w.heap.size)).cell? ⟨m, 3, none⟩ = some (Pt w.heap.size) := by
  obtain ⟨cv, h1, _⟩ := h
  exact ((h1.alloc o).set 3 _).cell 3 rfl
set_option maxHeartbeats 4000000 in
theorem Document_calls {B m g : Nat} {p q : Int} (h : BS w B m g s p q) : Calls Tryz.prog 101 #[Pt m] w fun e w' => ∃ d, e = .returned (Pt d) ∧ Doc w' d s p ∧ B ≤ d ∧ BS w' B m g s p q ∧ Only B m g w w' := by
  have HT := Lib.hid (fun w (h : BS w B m g s p q) => Text_calls h)
  have HH := Lib.hid h
  obtain ⟨cv, h1, h2, h3, h4, h5⟩ := h
  have k2 := h1.cell 2 rfl
  have k3 := h1.cell 3 rfl
  have z3 := h1.free 3
  rcases h3 with rfl | ⟨d, t', p', rfl, hd, hBd⟩
  · go_enter Tryz.func101, Tryz.ntmps101
    go_wp2
    go_quiet (fail)
    go_wp2_with fail
    have j2 := (HH.out.drewN nq).reads.1
    have hO1 := (Only.refl B m g w).drewN nq
    have HO1 := Lib.hid (And.intro hO1 (HH.out.drewN nq))
    clear hO1
    go_region_held3 (fun w' => w'.cell? ⟨m, 2, none⟩ = some (.int .i64 p)) (first | go_keep | exact ya | exact yf) ((go_at_call 49; refine (HT.out _ (by first | exact HH.out.drewN _ | exact (HH.out.drewN _).drewN 1)).mono ?_; rintro e w2 ⟨rfl, hw2⟩; have hB2 : BS w2 B m g s p q := (by obtain ⟨n2, rfl⟩ := hw2; first | exact HH.out.drewN _ | exact ((HH.out.drewN _).drewN 1).drewN _); have hO2 : Only B m g w w2 := (by obtain ⟨n2, rfl⟩ := hw2; first | exact (Only.refl B m g w).drewN _ | exact (((Only.refl B m g w).drewN _).drewN 1).drewN _); clear hw2; have ya := hB2.reads.1; obtain ⟨⟨⟨yv, yb⟩, yc⟩, ⟨⟨yu, yd⟩, ye⟩⟩ := hB2.slot3 (.cells #[.string s, .int .i64 p] 67); have hd4 := Rec.new w2 [.string s, .int .i64 p] 67; have hB4 := (hB2.alloc (.cells #[.string s, .int .i64 p] 67)).doc hd4 hB2.lt.1; have hd5 : Doc ((w2.alloc (.cells #[.string s, .int .i64 p] 67)).setCell ⟨m, 3, none⟩ (Pt w2.heap.size)) w2.heap.size s p := hd4.other (by show w2.heap.size ≠ m; have := hB2.lt.2.1; omega) _; have hO4 := (hO2.alloc hB2.lt.1 (.cells #[.string s, .int .i64 p] 67)).set (.inl rfl) hB2.ge.1 3 (Pt w2.heap.size); have yf := hB4.reads.1; have yg := Doc.cell3 hd4 hB2; have HY := Lib.hid (And.intro hB4 (And.intro hO4 (And.intro hd5 hB2.lt.1))); clear hB2 hO2 hd4 hd5 hB4 hO4))
    go_wp2
    go_ret
    exact ⟨_, rfl, HY.out.2.2.1, HY.out.2.2.2, HY.out.1, HY.out.2.1⟩
  · have d0 := hd.cell 0 rfl
    have d1 := hd.cell 1 rfl
    by_cases ht : t' = s
    · obtain rfl : s = t' := ht.symm
      by_cases hp : p' = p
      · obtain rfl : p = p' := hp.symm
        go_enter Tryz.func101, Tryz.ntmps101
        go_wp2
        go_quiet ((go_at_call 49; exact Calls.quiet_of (HT.out _ (HH.out.drewN _))))
        go_wp2
        go_ret
        exact ⟨d, rfl, hd.drewN _, hBd, HH.out.drewN _, (Only.refl B m g w).drewN _⟩
      · have e1 : (p' != p) = true := by simpa using hp
        have e2 : (p' == p) = false := by simpa using hp
        go_enter Tryz.func101, Tryz.ntmps101
        go_wp2
        go_quiet ((go_at_call 49; exact Calls.quiet_of (HT.out _ (HH.out.drewN _))))
        go_wp2_with fail
        have j2 := (HH.out.drewN nq).reads.1
        have hO1 := (Only.refl B m g w).drewN nq
        have HO1 := Lib.hid (And.intro hO1 (HH.out.drewN nq))
        clear hO1
        go_region_held3 (fun w' => w'.cell? ⟨m, 2, none⟩ = some (.int .i64 p)) (first | go_keep | exact ya | exact yf) ((go_at_call 49; refine (HT.out _ (by first | exact HH.out.drewN _ | exact (HH.out.drewN _).drewN 1)).mono ?_; rintro e w2 ⟨rfl, hw2⟩; have hB2 : BS w2 B m g s p q := (by obtain ⟨n2, rfl⟩ := hw2; first | exact HH.out.drewN _ | exact ((HH.out.drewN _).drewN 1).drewN _); have hO2 : Only B m g w w2 := (by obtain ⟨n2, rfl⟩ := hw2; first | exact (Only.refl B m g w).drewN _ | exact (((Only.refl B m g w).drewN _).drewN 1).drewN _); clear hw2; have ya := hB2.reads.1; obtain ⟨⟨⟨yv, yb⟩, yc⟩, ⟨⟨yu, yd⟩, ye⟩⟩ := hB2.slot3 (.cells #[.string s, .int .i64 p] 67); have hd4 := Rec.new w2 [.string s, .int .i64 p] 67; have hB4 := (hB2.alloc (.cells #[.string s, .int .i64 p] 67)).doc hd4 hB2.lt.1; have hd5 : Doc ((w2.alloc (.cells #[.string s, .int .i64 p] 67)).setCell ⟨m, 3, none⟩ (Pt w2.heap.size)) w2.heap.size s p := hd4.other (by show w2.heap.size ≠ m; have := hB2.lt.2.1; omega) _; have hO4 := (hO2.alloc hB2.lt.1 (.cells #[.string s, .int .i64 p] 67)).set (.inl rfl) hB2.ge.1 3 (Pt w2.heap.size); have yf := hB4.reads.1; have yg := Doc.cell3 hd4 hB2; have HY := Lib.hid (And.intro hB4 (And.intro hO4 (And.intro hd5 hB2.lt.1))); clear hB2 hO2 hd4 hd5 hB4 hO4))
        go_wp2
        go_ret
        exact ⟨_, rfl, HY.out.2.2.1, HY.out.2.2.2, HY.out.1, HY.out.2.1⟩
    · have e0 : ¬ t'.toList = s.toList := fun e => ht (by
        rw [ByteArray.toList_eq, ByteArray.toList_eq] at e
        exact str_ext e)
      have e1 : (t'.toList == s.toList) = false := by simpa using e0
      have e2 : (t'.toList != s.toList) = true := by simpa using e0
      go_enter Tryz.func101, Tryz.ntmps101
      go_wp2
      go_quiet ((go_at_call 49; exact Calls.quiet_of (HT.out _ (HH.out.drewN _))))
      go_wp2_with fail
      have j2 := (HH.out.drewN nq).reads.1
      have hO1 := (Only.refl B m g w).drewN nq
      have HO1 := Lib.hid (And.intro hO1 (HH.out.drewN nq))
      clear hO1
      go_region_held3 (fun w' => w'.cell? ⟨m, 2, none⟩ = some (.int .i64 p)) (first | go_keep | exact ya | exact yf) ((go_at_call 49; refine (HT.out _ (by first | exact HH.out.drewN _ | exact (HH.out.drewN _).drewN 1)).mono ?_; rintro e w2 ⟨rfl, hw2⟩; have hB2 : BS w2 B m g s p q := (by obtain ⟨n2, rfl⟩ := hw2; first | exact HH.out.drewN _ | exact ((HH.out.drewN _).drewN 1).drewN _); have hO2 : Only B m g w w2 := (by obtain ⟨n2, rfl⟩ := hw2; first | exact (Only.refl B m g w).drewN _ | exact (((Only.refl B m g w).drewN _).drewN 1).drewN _); clear hw2; have ya := hB2.reads.1; obtain ⟨⟨⟨yv, yb⟩, yc⟩, ⟨⟨yu, yd⟩, ye⟩⟩ := hB2.slot3 (.cells #[.string s, .int .i64 p] 67); have hd4 := Rec.new w2 [.string s, .int .i64 p] 67; have hB4 := (hB2.alloc (.cells #[.string s, .int .i64 p] 67)).doc hd4 hB2.lt.1; have hd5 : Doc ((w2.alloc (.cells #[.string s, .int .i64 p] 67)).setCell ⟨m, 3, none⟩ (Pt w2.heap.size)) w2.heap.size s p := hd4.other (by show w2.heap.size ≠ m; have := hB2.lt.2.1; omega) _; have hO4 := (hO2.alloc hB2.lt.1 (.cells #[.string s, .int .i64 p] 67)).set (.inl rfl) hB2.ge.1 3 (Pt w2.heap.size); have yf := hB4.reads.1; have yg := Doc.cell3 hd4 hB2; have HY := Lib.hid (And.intro hB4 (And.intro hO4 (And.intro hd5 hB2.lt.1))); clear hB2 hO2 hd4 hd5 hB4 hO4))
      go_wp2
      go_ret
      exact ⟨_, rfl, HY.out.2.2.1, HY.out.2.2.2, HY.out.1, HY.out.2.1⟩
end
end Go.Proofs.YtkfmjkiefckgoaaGreatDoor.H
