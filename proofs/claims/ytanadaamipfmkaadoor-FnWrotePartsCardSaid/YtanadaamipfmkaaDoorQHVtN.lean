/- A writer of sequences (goprompt.VT100Writer): the methods that write a number in decimal digits (CursorUp, CursorDown, CursorForward, CursorBackward, CursorGoTo), and the steps of impl.wrote that call them; for numbers from -1000000 to 1000000, writers of at most 800000 bytes, where the table of powers of ten is as the program laid it. -/
import Derived.Test.YtanadaamipfmkaaDoorQHVtX
import Derived.Test.YtanadaamipfmkaaDoorQShelf
import Derived.WalkSmall
import Derived.Lib.ItoaLen
import Derived.Lib.AppendIntMem
namespace Go.Proofs.YtanadaamipfmkaaDoor.H
open Go.RowKit Go.Proofs.YtanadaamipfmkaaDoorW.PrintWords Go.Proofs.YtanadaamipfmkaaDoorW.PrintLast Go.Proofs.YtanadaamipfmkaaDoor.R Go.Proofs.YtanadaamipfmkaaDoor.X
set_option linter.unusedVariables false
set_option linter.unusedSimpArgs false
/-- The table of powers of ten is as it was laid. -/
def TabH (w : World) : Prop := Lib.TabIs Tryd.prog w "internal/strconv.uint64pow10" .u64 Lib.pow10Tab
theorem TabH.below {w w' : World} (h : TabH w) (hb : Below w.heap.size w w') : TabH w' := by
  unfold TabH Lib.TabIs at *
  cases hg : Tryd.prog.globalNamed "internal/strconv.uint64pow10" with
  | none => unfold World.var? at h; rw [hg] at h; cases h
  | some g =>
    refine var?_below hb hg ?_ h
    rcases Nat.lt_or_ge g w.heap.size with h1 | h1
    · exact h1
    · unfold World.var? at h
      simp only [hg, Option.bind_some, Array.getElem?_eq_none h1] at h
      cases h
/-- A number in decimal digits. -/
def numS (n : Int) : ByteArray := ⟨(Lib.itoa n).toArray⟩
theorem numS_size (n : Int) (h0 : -1000000 ≤ n) (h1 : n ≤ 1000000) : (numS n).size ≤ 21 := by
  have := Lib.itoa_length_le n (by omega) (by omega)
  show (Lib.itoa n).toArray.size ≤ 21
  simpa using this
theorem Itoa_calls (n : Int) (w : World) (h0 : -1000000 ≤ n) (h1 : n ≤ 1000000) (hT : TabH w) : Calls Tryd.prog 89 #[.int .i64 n] w fun e w' => e = .returned (.string (numS n)) ∧ Below w.heap.size w w' := by
  refine (Go.Proofs.Tryd.strconv_Itoa n (by omega) (by omega) w hT).mono ?_
  rintro e w' ⟨rfl, k, os, rfl⟩
  exact ⟨rfl, Lib.below_grow _ _ (Nat.le_refl _) _ _⟩
def CursorUpL (n : Int) : List Int := [27, 91] ++ ints (numS n) ++ [65]
set_option maxHeartbeats 4000000 in
theorem CursorUp_pos {N m c : Nat} {T : Option Addr} {w : World} {bs : List Int} (h : VS w N m T c bs) (n : Int) (h0 : 0 < n) (h1 : n ≤ 1000000) (hb : bs.length ≤ 800000) (hT : TabH w) : Calls Tryd.prog 62 #[Wp m, .int .i64 n] w fun e w' => e = .returned (.tuple #[]) ∧ ∃ T' c', VT N m T bs.length c w T' c' (bs ++ CursorUpL n) w' := by
  have HN := Lib.hid (show N < w.heap.size by have := h.ge; have := h.blk.lt; omega)
  have HI := Lib.hid (Itoa_calls n w (by omega) h1 hT)
  have hne : (n == 0) = false := beq_eq_false_iff_ne.2 (by omega)
  have hng : ¬ n < 0 := by omega
  have HV := Lib.hid (And.intro h hb)
  clear h hT hb
  go_enter Tryd.func62, Tryd.ntmps62
  go_wp2_with fail
  refine HI.out.mono ?_
  rintro e w1 ⟨rfl, hb1⟩
  have HS1 := Lib.hid (And.intro ((VT.refl HV.out.1).stays hb1 (by have := HN.out; omega)) (show bs.length ≤ 800000 + 0 from HV.out.2))
  clear hb1
  have a1 := Below.alloc (Below.refl w1.heap.size w1) (Nat.le_refl _) (.cells #[.int .u8 27, .int .u8 91] 5)
  have HC1 := Lib.hid (WriteRaw_calls (cd := 2) (nw := [27, 91]) (HS1.out.1.state.stays a1) (by have := HS1.out.2; simp only [List.length_append, List.length_cons, List.length_nil] at *; omega) (row_new w1 [.int .u8 27, .int .u8 91] 5))
  have HS1' := Lib.hid (And.intro (HS1.out.1.stays a1 (by have := HS1.out.1.below.size; have := HN.out; omega)) HS1.out.2)
  clear a1
  go_wp2_with fail
  refine HC1.out.mono ?_
  rintro e w2 ⟨rfl, T2, c2, hT2⟩
  have HS2 := Lib.hid (And.intro (HS1'.out.1.trans hT2) (show (bs ++ [27, 91]).length ≤ 800000 + 2 from by have := HS1'.out.2; simp only [List.length_append, List.length_cons, List.length_nil] at *; omega))
  clear hT2
  obtain ⟨cc2, W2, hcv2, hcell2, hb2, hz2⟩ := str_bytes w2 (numS n)
  have hl2 := ints_length (numS n)
  have hs2 := numS_size n (by omega) (by omega)
  have HC2 := WriteRaw_calls (HS2.out.1.state.stays hb2) (nw := ints (numS n)) (cd := cc2) (by have := HS2.out.2; omega) hcell2
  rw [hl2] at HC2
  have HC2 := Lib.hid HC2
  have HS2' := Lib.hid (And.intro (HS2.out.1.stays hb2 (by have := HS2.out.1.below.size; have := HN.out; omega)) (And.intro HS2.out.2 (And.intro hs2 hl2)))
  clear hcell2 hl2 hs2
  go_wp2_with fail
  refine HC2.out.mono ?_
  rintro e w3 ⟨rfl, T3, c3, hT3⟩
  have HS3 := Lib.hid (And.intro (HS2'.out.1.trans hT3) (show ((bs ++ [27, 91]) ++ ints (numS n)).length ≤ 800000 + 23 from by have := HS2'.out.2.1; have h2 := HS2'.out.2.2.1; rw [← HS2'.out.2.2.2] at h2; simp only [List.length_append, List.length_cons, List.length_nil] at *; omega))
  clear hT3 hcv2
  have a3 := Below.alloc (Below.refl w3.heap.size w3) (Nat.le_refl _) (.cells #[.int .u8 65] 5)
  have HC3 := Lib.hid (WriteRaw_calls (cd := 1) (nw := [65]) (HS3.out.1.state.stays a3) (by have := HS3.out.2; simp only [List.length_append, List.length_cons, List.length_nil] at *; omega) (row_new w3 [.int .u8 65] 5))
  have HS3' := Lib.hid (And.intro (HS3.out.1.stays a3 (by have := HS3.out.1.below.size; have := HN.out; omega)) HS3.out.2)
  clear a3
  go_wp2_with fail
  refine HC3.out.mono ?_
  rintro e w4 ⟨rfl, T4, c4, hT4⟩
  have HS4 := Lib.hid (And.intro (HS3'.out.1.trans hT4) (show (((bs ++ [27, 91]) ++ ints (numS n)) ++ [65]).length ≤ 800000 + 24 from by have := HS3'.out.2; simp only [List.length_append, List.length_cons, List.length_nil] at *; omega))
  clear hT4
  go_wp2_with fail
  go_end0
  exact ⟨rfl, T4, c4, by have := HS4.out.1; simpa [CursorUpL, List.append_assoc] using this⟩
def CursorDownL (n : Int) : List Int := [27, 91] ++ ints (numS n) ++ [66]
set_option maxHeartbeats 4000000 in
theorem CursorDown_pos {N m c : Nat} {T : Option Addr} {w : World} {bs : List Int} (h : VS w N m T c bs) (n : Int) (h0 : 0 < n) (h1 : n ≤ 1000000) (hb : bs.length ≤ 800000) (hT : TabH w) : Calls Tryd.prog 63 #[Wp m, .int .i64 n] w fun e w' => e = .returned (.tuple #[]) ∧ ∃ T' c', VT N m T bs.length c w T' c' (bs ++ CursorDownL n) w' := by
  have HN := Lib.hid (show N < w.heap.size by have := h.ge; have := h.blk.lt; omega)
  have HI := Lib.hid (Itoa_calls n w (by omega) h1 hT)
  have hne : (n == 0) = false := beq_eq_false_iff_ne.2 (by omega)
  have hng : ¬ n < 0 := by omega
  have HV := Lib.hid (And.intro h hb)
  clear h hT hb
  go_enter Tryd.func63, Tryd.ntmps63
  go_wp2_with fail
  refine HI.out.mono ?_
  rintro e w1 ⟨rfl, hb1⟩
  have HS1 := Lib.hid (And.intro ((VT.refl HV.out.1).stays hb1 (by have := HN.out; omega)) (show bs.length ≤ 800000 + 0 from HV.out.2))
  clear hb1
  have a1 := Below.alloc (Below.refl w1.heap.size w1) (Nat.le_refl _) (.cells #[.int .u8 27, .int .u8 91] 5)
  have HC1 := Lib.hid (WriteRaw_calls (cd := 2) (nw := [27, 91]) (HS1.out.1.state.stays a1) (by have := HS1.out.2; simp only [List.length_append, List.length_cons, List.length_nil] at *; omega) (row_new w1 [.int .u8 27, .int .u8 91] 5))
  have HS1' := Lib.hid (And.intro (HS1.out.1.stays a1 (by have := HS1.out.1.below.size; have := HN.out; omega)) HS1.out.2)
  clear a1
  go_wp2_with fail
  refine HC1.out.mono ?_
  rintro e w2 ⟨rfl, T2, c2, hT2⟩
  have HS2 := Lib.hid (And.intro (HS1'.out.1.trans hT2) (show (bs ++ [27, 91]).length ≤ 800000 + 2 from by have := HS1'.out.2; simp only [List.length_append, List.length_cons, List.length_nil] at *; omega))
  clear hT2
  obtain ⟨cc2, W2, hcv2, hcell2, hb2, hz2⟩ := str_bytes w2 (numS n)
  have hl2 := ints_length (numS n)
  have hs2 := numS_size n (by omega) (by omega)
  have HC2 := WriteRaw_calls (HS2.out.1.state.stays hb2) (nw := ints (numS n)) (cd := cc2) (by have := HS2.out.2; omega) hcell2
  rw [hl2] at HC2
  have HC2 := Lib.hid HC2
  have HS2' := Lib.hid (And.intro (HS2.out.1.stays hb2 (by have := HS2.out.1.below.size; have := HN.out; omega)) (And.intro HS2.out.2 (And.intro hs2 hl2)))
  clear hcell2 hl2 hs2
  go_wp2_with fail
  refine HC2.out.mono ?_
  rintro e w3 ⟨rfl, T3, c3, hT3⟩
  have HS3 := Lib.hid (And.intro (HS2'.out.1.trans hT3) (show ((bs ++ [27, 91]) ++ ints (numS n)).length ≤ 800000 + 23 from by have := HS2'.out.2.1; have h2 := HS2'.out.2.2.1; rw [← HS2'.out.2.2.2] at h2; simp only [List.length_append, List.length_cons, List.length_nil] at *; omega))
  clear hT3 hcv2
  have a3 := Below.alloc (Below.refl w3.heap.size w3) (Nat.le_refl _) (.cells #[.int .u8 66] 5)
  have HC3 := Lib.hid (WriteRaw_calls (cd := 1) (nw := [66]) (HS3.out.1.state.stays a3) (by have := HS3.out.2; simp only [List.length_append, List.length_cons, List.length_nil] at *; omega) (row_new w3 [.int .u8 66] 5))
  have HS3' := Lib.hid (And.intro (HS3.out.1.stays a3 (by have := HS3.out.1.below.size; have := HN.out; omega)) HS3.out.2)
  clear a3
  go_wp2_with fail
  refine HC3.out.mono ?_
  rintro e w4 ⟨rfl, T4, c4, hT4⟩
  have HS4 := Lib.hid (And.intro (HS3'.out.1.trans hT4) (show (((bs ++ [27, 91]) ++ ints (numS n)) ++ [66]).length ≤ 800000 + 24 from by have := HS3'.out.2; simp only [List.length_append, List.length_cons, List.length_nil] at *; omega))
  clear hT4
  go_wp2_with fail
  go_end0
  exact ⟨rfl, T4, c4, by have := HS4.out.1; simpa [CursorDownL, List.append_assoc] using this⟩
def CursorForwardL (n : Int) : List Int := [27, 91] ++ ints (numS n) ++ [67]
set_option maxHeartbeats 4000000 in
theorem CursorForward_pos {N m c : Nat} {T : Option Addr} {w : World} {bs : List Int} (h : VS w N m T c bs) (n : Int) (h0 : 0 < n) (h1 : n ≤ 1000000) (hb : bs.length ≤ 800000) (hT : TabH w) : Calls Tryd.prog 64 #[Wp m, .int .i64 n] w fun e w' => e = .returned (.tuple #[]) ∧ ∃ T' c', VT N m T bs.length c w T' c' (bs ++ CursorForwardL n) w' := by
  have HN := Lib.hid (show N < w.heap.size by have := h.ge; have := h.blk.lt; omega)
  have HI := Lib.hid (Itoa_calls n w (by omega) h1 hT)
  have hne : (n == 0) = false := beq_eq_false_iff_ne.2 (by omega)
  have hng : ¬ n < 0 := by omega
  have HV := Lib.hid (And.intro h hb)
  clear h hT hb
  go_enter Tryd.func64, Tryd.ntmps64
  go_wp2_with fail
  refine HI.out.mono ?_
  rintro e w1 ⟨rfl, hb1⟩
  have HS1 := Lib.hid (And.intro ((VT.refl HV.out.1).stays hb1 (by have := HN.out; omega)) (show bs.length ≤ 800000 + 0 from HV.out.2))
  clear hb1
  have a1 := Below.alloc (Below.refl w1.heap.size w1) (Nat.le_refl _) (.cells #[.int .u8 27, .int .u8 91] 5)
  have HC1 := Lib.hid (WriteRaw_calls (cd := 2) (nw := [27, 91]) (HS1.out.1.state.stays a1) (by have := HS1.out.2; simp only [List.length_append, List.length_cons, List.length_nil] at *; omega) (row_new w1 [.int .u8 27, .int .u8 91] 5))
  have HS1' := Lib.hid (And.intro (HS1.out.1.stays a1 (by have := HS1.out.1.below.size; have := HN.out; omega)) HS1.out.2)
  clear a1
  go_wp2_with fail
  refine HC1.out.mono ?_
  rintro e w2 ⟨rfl, T2, c2, hT2⟩
  have HS2 := Lib.hid (And.intro (HS1'.out.1.trans hT2) (show (bs ++ [27, 91]).length ≤ 800000 + 2 from by have := HS1'.out.2; simp only [List.length_append, List.length_cons, List.length_nil] at *; omega))
  clear hT2
  obtain ⟨cc2, W2, hcv2, hcell2, hb2, hz2⟩ := str_bytes w2 (numS n)
  have hl2 := ints_length (numS n)
  have hs2 := numS_size n (by omega) (by omega)
  have HC2 := WriteRaw_calls (HS2.out.1.state.stays hb2) (nw := ints (numS n)) (cd := cc2) (by have := HS2.out.2; omega) hcell2
  rw [hl2] at HC2
  have HC2 := Lib.hid HC2
  have HS2' := Lib.hid (And.intro (HS2.out.1.stays hb2 (by have := HS2.out.1.below.size; have := HN.out; omega)) (And.intro HS2.out.2 (And.intro hs2 hl2)))
  clear hcell2 hl2 hs2
  go_wp2_with fail
  refine HC2.out.mono ?_
  rintro e w3 ⟨rfl, T3, c3, hT3⟩
  have HS3 := Lib.hid (And.intro (HS2'.out.1.trans hT3) (show ((bs ++ [27, 91]) ++ ints (numS n)).length ≤ 800000 + 23 from by have := HS2'.out.2.1; have h2 := HS2'.out.2.2.1; rw [← HS2'.out.2.2.2] at h2; simp only [List.length_append, List.length_cons, List.length_nil] at *; omega))
  clear hT3 hcv2
  have a3 := Below.alloc (Below.refl w3.heap.size w3) (Nat.le_refl _) (.cells #[.int .u8 67] 5)
  have HC3 := Lib.hid (WriteRaw_calls (cd := 1) (nw := [67]) (HS3.out.1.state.stays a3) (by have := HS3.out.2; simp only [List.length_append, List.length_cons, List.length_nil] at *; omega) (row_new w3 [.int .u8 67] 5))
  have HS3' := Lib.hid (And.intro (HS3.out.1.stays a3 (by have := HS3.out.1.below.size; have := HN.out; omega)) HS3.out.2)
  clear a3
  go_wp2_with fail
  refine HC3.out.mono ?_
  rintro e w4 ⟨rfl, T4, c4, hT4⟩
  have HS4 := Lib.hid (And.intro (HS3'.out.1.trans hT4) (show (((bs ++ [27, 91]) ++ ints (numS n)) ++ [67]).length ≤ 800000 + 24 from by have := HS3'.out.2; simp only [List.length_append, List.length_cons, List.length_nil] at *; omega))
  clear hT4
  go_wp2_with fail
  go_end0
  exact ⟨rfl, T4, c4, by have := HS4.out.1; simpa [CursorForwardL, List.append_assoc] using this⟩
def CursorBackwardL (n : Int) : List Int := [27, 91] ++ ints (numS n) ++ [68]
set_option maxHeartbeats 4000000 in
theorem CursorBackward_pos {N m c : Nat} {T : Option Addr} {w : World} {bs : List Int} (h : VS w N m T c bs) (n : Int) (h0 : 0 < n) (h1 : n ≤ 1000000) (hb : bs.length ≤ 800000) (hT : TabH w) : Calls Tryd.prog 65 #[Wp m, .int .i64 n] w fun e w' => e = .returned (.tuple #[]) ∧ ∃ T' c', VT N m T bs.length c w T' c' (bs ++ CursorBackwardL n) w' := by
  have HN := Lib.hid (show N < w.heap.size by have := h.ge; have := h.blk.lt; omega)
  have HI := Lib.hid (Itoa_calls n w (by omega) h1 hT)
  have hne : (n == 0) = false := beq_eq_false_iff_ne.2 (by omega)
  have hng : ¬ n < 0 := by omega
  have HV := Lib.hid (And.intro h hb)
  clear h hT hb
  go_enter Tryd.func65, Tryd.ntmps65
  go_wp2_with fail
  refine HI.out.mono ?_
  rintro e w1 ⟨rfl, hb1⟩
  have HS1 := Lib.hid (And.intro ((VT.refl HV.out.1).stays hb1 (by have := HN.out; omega)) (show bs.length ≤ 800000 + 0 from HV.out.2))
  clear hb1
  have a1 := Below.alloc (Below.refl w1.heap.size w1) (Nat.le_refl _) (.cells #[.int .u8 27, .int .u8 91] 5)
  have HC1 := Lib.hid (WriteRaw_calls (cd := 2) (nw := [27, 91]) (HS1.out.1.state.stays a1) (by have := HS1.out.2; simp only [List.length_append, List.length_cons, List.length_nil] at *; omega) (row_new w1 [.int .u8 27, .int .u8 91] 5))
  have HS1' := Lib.hid (And.intro (HS1.out.1.stays a1 (by have := HS1.out.1.below.size; have := HN.out; omega)) HS1.out.2)
  clear a1
  go_wp2_with fail
  refine HC1.out.mono ?_
  rintro e w2 ⟨rfl, T2, c2, hT2⟩
  have HS2 := Lib.hid (And.intro (HS1'.out.1.trans hT2) (show (bs ++ [27, 91]).length ≤ 800000 + 2 from by have := HS1'.out.2; simp only [List.length_append, List.length_cons, List.length_nil] at *; omega))
  clear hT2
  obtain ⟨cc2, W2, hcv2, hcell2, hb2, hz2⟩ := str_bytes w2 (numS n)
  have hl2 := ints_length (numS n)
  have hs2 := numS_size n (by omega) (by omega)
  have HC2 := WriteRaw_calls (HS2.out.1.state.stays hb2) (nw := ints (numS n)) (cd := cc2) (by have := HS2.out.2; omega) hcell2
  rw [hl2] at HC2
  have HC2 := Lib.hid HC2
  have HS2' := Lib.hid (And.intro (HS2.out.1.stays hb2 (by have := HS2.out.1.below.size; have := HN.out; omega)) (And.intro HS2.out.2 (And.intro hs2 hl2)))
  clear hcell2 hl2 hs2
  go_wp2_with fail
  refine HC2.out.mono ?_
  rintro e w3 ⟨rfl, T3, c3, hT3⟩
  have HS3 := Lib.hid (And.intro (HS2'.out.1.trans hT3) (show ((bs ++ [27, 91]) ++ ints (numS n)).length ≤ 800000 + 23 from by have := HS2'.out.2.1; have h2 := HS2'.out.2.2.1; rw [← HS2'.out.2.2.2] at h2; simp only [List.length_append, List.length_cons, List.length_nil] at *; omega))
  clear hT3 hcv2
  have a3 := Below.alloc (Below.refl w3.heap.size w3) (Nat.le_refl _) (.cells #[.int .u8 68] 5)
  have HC3 := Lib.hid (WriteRaw_calls (cd := 1) (nw := [68]) (HS3.out.1.state.stays a3) (by have := HS3.out.2; simp only [List.length_append, List.length_cons, List.length_nil] at *; omega) (row_new w3 [.int .u8 68] 5))
  have HS3' := Lib.hid (And.intro (HS3.out.1.stays a3 (by have := HS3.out.1.below.size; have := HN.out; omega)) HS3.out.2)
  clear a3
  go_wp2_with fail
  refine HC3.out.mono ?_
  rintro e w4 ⟨rfl, T4, c4, hT4⟩
  have HS4 := Lib.hid (And.intro (HS3'.out.1.trans hT4) (show (((bs ++ [27, 91]) ++ ints (numS n)) ++ [68]).length ≤ 800000 + 24 from by have := HS3'.out.2; simp only [List.length_append, List.length_cons, List.length_nil] at *; omega))
  clear hT4
  go_wp2_with fail
  go_end0
  exact ⟨rfl, T4, c4, by have := HS4.out.1; simpa [CursorBackwardL, List.append_assoc] using this⟩
/-- What CursorUp writes. -/
def CursorUpO (n : Int) : List Int := if n = 0 then [] else if n < 0 then CursorDownL (-n) else CursorUpL n
set_option maxHeartbeats 4000000 in
theorem CursorUp_calls {N m c : Nat} {T : Option Addr} {w : World} {bs : List Int} (h : VS w N m T c bs) (n : Int) (h0 : -1000000 ≤ n) (h1 : n ≤ 1000000) (hb : bs.length ≤ 800000) (hT : TabH w) : Calls Tryd.prog 62 #[Wp m, .int .i64 n] w fun e w' => e = .returned (.tuple #[]) ∧ ∃ T' c', VT N m T bs.length c w T' c' (bs ++ CursorUpO n) w' := by
  by_cases hz : n = 0
  · subst hz
    have HR := Lib.hid (VT.refl h)
    clear h
    go_enter Tryd.func62, Tryd.ntmps62
    go_wp2_with fail
    first | go_end0 | refine bodyPost_ret (results_none rfl _ _ _) rfl ?_
    exact ⟨rfl, T, c, by have := HR.out; simpa [CursorUpO] using this⟩
  · by_cases hn : n < 0
    · have HC := Lib.hid (CursorDown_pos h (-n) (by omega) (by omega) hb hT)
      have hw : IntKind.i64.wrap (-n) = -n := IntWalk.i64_in _ (by omega)
      have hne : (n == 0) = false := beq_eq_false_iff_ne.2 hz
      have HO := Lib.hid (show CursorUpO n = CursorDownL (-n) by rw [CursorUpO, if_neg hz, if_pos hn])
      clear h hT hz
      go_enter Tryd.func62, Tryd.ntmps62
      go_wp2_with fail
      refine HC.out.mono ?_
      rintro e w2 ⟨rfl, T', c', hT⟩
      have HT := Lib.hid hT
      clear hT
      go_wp2_with fail
      first | go_end0 | refine bodyPost_ret (results_none rfl _ _ _) rfl ?_
      exact ⟨rfl, T', c', by rw [HO.out]; exact HT.out⟩
    · have := CursorUp_pos h n (by omega) (by omega) hb hT
      rw [show CursorUpO n = CursorUpL n by rw [CursorUpO, if_neg hz, if_neg hn]]
      exact this
/-- What CursorDown writes. -/
def CursorDownO (n : Int) : List Int := if n = 0 then [] else if n < 0 then CursorUpL (-n) else CursorDownL n
set_option maxHeartbeats 4000000 in
theorem CursorDown_calls {N m c : Nat} {T : Option Addr} {w : World} {bs : List Int} (h : VS w N m T c bs) (n : Int) (h0 : -1000000 ≤ n) (h1 : n ≤ 1000000) (hb : bs.length ≤ 800000) (hT : TabH w) : Calls Tryd.prog 63 #[Wp m, .int .i64 n] w fun e w' => e = .returned (.tuple #[]) ∧ ∃ T' c', VT N m T bs.length c w T' c' (bs ++ CursorDownO n) w' := by
  by_cases hz : n = 0
  · subst hz
    have HR := Lib.hid (VT.refl h)
    clear h
    go_enter Tryd.func63, Tryd.ntmps63
    go_wp2_with fail
    first | go_end0 | refine bodyPost_ret (results_none rfl _ _ _) rfl ?_
    exact ⟨rfl, T, c, by have := HR.out; simpa [CursorDownO] using this⟩
  · by_cases hn : n < 0
    · have HC := Lib.hid (CursorUp_pos h (-n) (by omega) (by omega) hb hT)
      have hw : IntKind.i64.wrap (-n) = -n := IntWalk.i64_in _ (by omega)
      have hne : (n == 0) = false := beq_eq_false_iff_ne.2 hz
      have HO := Lib.hid (show CursorDownO n = CursorUpL (-n) by rw [CursorDownO, if_neg hz, if_pos hn])
      clear h hT hz
      go_enter Tryd.func63, Tryd.ntmps63
      go_wp2_with fail
      refine HC.out.mono ?_
      rintro e w2 ⟨rfl, T', c', hT⟩
      have HT := Lib.hid hT
      clear hT
      go_wp2_with fail
      first | go_end0 | refine bodyPost_ret (results_none rfl _ _ _) rfl ?_
      exact ⟨rfl, T', c', by rw [HO.out]; exact HT.out⟩
    · have := CursorDown_pos h n (by omega) (by omega) hb hT
      rw [show CursorDownO n = CursorDownL n by rw [CursorDownO, if_neg hz, if_neg hn]]
      exact this
/-- What CursorForward writes. -/
def CursorForwardO (n : Int) : List Int := if n = 0 then [] else if n < 0 then CursorBackwardL (-n) else CursorForwardL n
set_option maxHeartbeats 4000000 in
theorem CursorForward_calls {N m c : Nat} {T : Option Addr} {w : World} {bs : List Int} (h : VS w N m T c bs) (n : Int) (h0 : -1000000 ≤ n) (h1 : n ≤ 1000000) (hb : bs.length ≤ 800000) (hT : TabH w) : Calls Tryd.prog 64 #[Wp m, .int .i64 n] w fun e w' => e = .returned (.tuple #[]) ∧ ∃ T' c', VT N m T bs.length c w T' c' (bs ++ CursorForwardO n) w' := by
  by_cases hz : n = 0
  · subst hz
    have HR := Lib.hid (VT.refl h)
    clear h
    go_enter Tryd.func64, Tryd.ntmps64
    go_wp2_with fail
    first | go_end0 | refine bodyPost_ret (results_none rfl _ _ _) rfl ?_
    exact ⟨rfl, T, c, by have := HR.out; simpa [CursorForwardO] using this⟩
  · by_cases hn : n < 0
    · have HC := Lib.hid (CursorBackward_pos h (-n) (by omega) (by omega) hb hT)
      have hw : IntKind.i64.wrap (-n) = -n := IntWalk.i64_in _ (by omega)
      have hne : (n == 0) = false := beq_eq_false_iff_ne.2 hz
      have HO := Lib.hid (show CursorForwardO n = CursorBackwardL (-n) by rw [CursorForwardO, if_neg hz, if_pos hn])
      clear h hT hz
      go_enter Tryd.func64, Tryd.ntmps64
      go_wp2_with fail
      refine HC.out.mono ?_
      rintro e w2 ⟨rfl, T', c', hT⟩
      have HT := Lib.hid hT
      clear hT
      go_wp2_with fail
      first | go_end0 | refine bodyPost_ret (results_none rfl _ _ _) rfl ?_
      exact ⟨rfl, T', c', by rw [HO.out]; exact HT.out⟩
    · have := CursorForward_pos h n (by omega) (by omega) hb hT
      rw [show CursorForwardO n = CursorForwardL n by rw [CursorForwardO, if_neg hz, if_neg hn]]
      exact this
/-- What CursorBackward writes. -/
def CursorBackwardO (n : Int) : List Int := if n = 0 then [] else if n < 0 then CursorForwardL (-n) else CursorBackwardL n
set_option maxHeartbeats 4000000 in
theorem CursorBackward_calls {N m c : Nat} {T : Option Addr} {w : World} {bs : List Int} (h : VS w N m T c bs) (n : Int) (h0 : -1000000 ≤ n) (h1 : n ≤ 1000000) (hb : bs.length ≤ 800000) (hT : TabH w) : Calls Tryd.prog 65 #[Wp m, .int .i64 n] w fun e w' => e = .returned (.tuple #[]) ∧ ∃ T' c', VT N m T bs.length c w T' c' (bs ++ CursorBackwardO n) w' := by
  by_cases hz : n = 0
  · subst hz
    have HR := Lib.hid (VT.refl h)
    clear h
    go_enter Tryd.func65, Tryd.ntmps65
    go_wp2_with fail
    first | go_end0 | refine bodyPost_ret (results_none rfl _ _ _) rfl ?_
    exact ⟨rfl, T, c, by have := HR.out; simpa [CursorBackwardO] using this⟩
  · by_cases hn : n < 0
    · have HC := Lib.hid (CursorForward_pos h (-n) (by omega) (by omega) hb hT)
      have hw : IntKind.i64.wrap (-n) = -n := IntWalk.i64_in _ (by omega)
      have hne : (n == 0) = false := beq_eq_false_iff_ne.2 hz
      have HO := Lib.hid (show CursorBackwardO n = CursorForwardL (-n) by rw [CursorBackwardO, if_neg hz, if_pos hn])
      clear h hT hz
      go_enter Tryd.func65, Tryd.ntmps65
      go_wp2_with fail
      refine HC.out.mono ?_
      rintro e w2 ⟨rfl, T', c', hT⟩
      have HT := Lib.hid hT
      clear hT
      go_wp2_with fail
      first | go_end0 | refine bodyPost_ret (results_none rfl _ _ _) rfl ?_
      exact ⟨rfl, T', c', by rw [HO.out]; exact HT.out⟩
    · have := CursorBackward_pos h n (by omega) (by omega) hb hT
      rw [show CursorBackwardO n = CursorBackwardL n by rw [CursorBackwardO, if_neg hz, if_neg hn]]
      exact this
/-- What CursorGoTo writes. -/
def CursorGoToO (r c : Int) : List Int := if r = 0 ∧ c = 0 then [27, 91, 72] else [27, 91] ++ ints (numS r) ++ [59] ++ ints (numS c) ++ [72]
set_option maxHeartbeats 4000000 in
theorem CursorGoTo_home {N m c : Nat} {T : Option Addr} {w : World} {bs : List Int} (h : VS w N m T c bs) (hb : bs.length ≤ 800000) : Calls Tryd.prog 66 #[Wp m, .int .i64 0, .int .i64 0] w fun e w' => e = .returned (.tuple #[]) ∧ ∃ T' c', VT N m T bs.length c w T' c' (bs ++ [27, 91, 72]) w' := by
  have HN := Lib.hid (show N < w.heap.size by have := h.ge; have := h.blk.lt; omega)
  have HS1 := Lib.hid (And.intro (VT.refl h) hb)
  clear h
  go_enter Tryd.func66, Tryd.ntmps66
  have a1 := Below.alloc (Below.refl w.heap.size w) (Nat.le_refl _) (.cells #[.int .u8 27, .int .u8 91, .int .u8 72] 5)
  have HC1 := Lib.hid (WriteRaw_calls (cd := 3) (nw := [27, 91, 72]) (HS1.out.1.state.stays a1) (by have := HS1.out.2; simp only [List.length_append, List.length_cons, List.length_nil] at *; omega) (row_new w [.int .u8 27, .int .u8 91, .int .u8 72] 5))
  have HS1' := Lib.hid (And.intro (HS1.out.1.stays a1 (by have := HS1.out.1.below.size; have := HN.out; omega)) HS1.out.2)
  clear a1
  go_wp2_with fail
  refine HC1.out.mono ?_
  rintro e w2 ⟨rfl, T2, c2, hT2⟩
  have HS2 := Lib.hid (And.intro (HS1'.out.1.trans hT2) (show (bs ++ [27, 91, 72]).length ≤ 800000 + 3 from by have := HS1'.out.2; simp only [List.length_append, List.length_cons, List.length_nil] at *; omega))
  clear hT2
  go_wp2_with fail
  first | go_end0 | refine bodyPost_ret (results_none rfl _ _ _) rfl ?_
  exact ⟨rfl, T2, c2, HS2.out.1⟩
set_option maxHeartbeats 8000000 in
theorem CursorGoTo_place {N m c : Nat} {T : Option Addr} {w : World} {bs : List Int} (h : VS w N m T c bs) (r q : Int) (h0 : 0 ≤ r) (h1 : r ≤ 1000000) (h2 : 0 ≤ q) (h3 : q ≤ 1000000) (hx : ¬ (r = 0 ∧ q = 0)) (hb : bs.length ≤ 800000) (hT : TabH w) : Calls Tryd.prog 66 #[Wp m, .int .i64 r, .int .i64 q] w fun e w' => e = .returned (.tuple #[]) ∧ ∃ T' c', VT N m T bs.length c w T' c' (bs ++ ([27, 91] ++ ints (numS r) ++ [59] ++ ints (numS q) ++ [72])) w' := by
  have HN := Lib.hid (show N < w.heap.size by have := h.ge; have := h.blk.lt; omega)
  have HI := Lib.hid (Itoa_calls r w (by omega) h1 hT)
  have HJ := Lib.hid (fun w1 (hb1 : Below w.heap.size w w1) => Itoa_calls q w1 (by omega) h3 (hT.below hb1))
  have HV := Lib.hid (And.intro h hb)
  clear h hT hb
  have hd : (r == 0 && q == 0) = false := by
    rcases Bool.eq_false_or_eq_true (r == 0 && q == 0) with e | e
    · simp at e; exact absurd e hx
    · exact e
  by_cases hr : r = 0
  · have hq : (q == 0) = false := beq_eq_false_iff_ne.2 (by omega)
    subst hr
    clear hx hd
    go_enter Tryd.func66, Tryd.ntmps66
    go_wp2_with fail
    refine HI.out.mono ?_
    rintro e w0 ⟨rfl, hb0⟩
    have HJ1 := Lib.hid (HJ.out w0 hb0)
    have HS0 := Lib.hid hb0
    clear hb0
    go_wp2_with fail
    refine HJ1.out.mono ?_
    rintro e w1 ⟨rfl, hb1⟩
    have HS1 := Lib.hid (And.intro ((VT.refl HV.out.1).stays (HS0.out.trans (hb1.mono HS0.out.size)) (by have := HN.out; omega)) (show bs.length ≤ 800000 + 0 from HV.out.2))
    clear hb1
    have a1 := Below.alloc (Below.refl w1.heap.size w1) (Nat.le_refl _) (.cells #[.int .u8 27, .int .u8 91] 5)
    have HC1 := Lib.hid (WriteRaw_calls (cd := 2) (nw := [27, 91]) (HS1.out.1.state.stays a1) (by have := HS1.out.2; simp only [List.length_append, List.length_cons, List.length_nil] at *; omega) (row_new w1 [.int .u8 27, .int .u8 91] 5))
    have HS1' := Lib.hid (And.intro (HS1.out.1.stays a1 (by have := HS1.out.1.below.size; have := HN.out; omega)) HS1.out.2)
    clear a1
    go_wp2_with fail
    refine HC1.out.mono ?_
    rintro e w2 ⟨rfl, T2, c2, hT2⟩
    have HS2 := Lib.hid (And.intro (HS1'.out.1.trans hT2) (show (bs ++ [27, 91]).length ≤ 800000 + 2 from by have := HS1'.out.2; simp only [List.length_append, List.length_cons, List.length_nil] at *; omega))
    clear hT2
    obtain ⟨cc2, W2, hcv2, hcell2, hb2, hz2⟩ := str_bytes w2 (numS 0)
    have hl2 := ints_length (numS 0)
    have hs2 := numS_size 0 (by omega) (by omega)
    have HC2 := WriteRaw_calls (HS2.out.1.state.stays hb2) (nw := ints (numS 0)) (cd := cc2) (by have := HS2.out.2; omega) hcell2
    rw [hl2] at HC2
    have HC2 := Lib.hid HC2
    have HS2' := Lib.hid (And.intro (HS2.out.1.stays hb2 (by have := HS2.out.1.below.size; have := HN.out; omega)) (And.intro HS2.out.2 (And.intro hs2 hl2)))
    clear hcell2 hl2 hs2
    go_wp2_with fail
    refine HC2.out.mono ?_
    rintro e w3 ⟨rfl, T3, c3, hT3⟩
    have HS3 := Lib.hid (And.intro (HS2'.out.1.trans hT3) (show ((bs ++ [27, 91]) ++ ints (numS 0)).length ≤ 800000 + 23 from by have := HS2'.out.2.1; have h2 := HS2'.out.2.2.1; rw [← HS2'.out.2.2.2] at h2; simp only [List.length_append, List.length_cons, List.length_nil] at *; omega))
    clear hT3 hcv2
    have a3 := Below.alloc (Below.refl w3.heap.size w3) (Nat.le_refl _) (.cells #[.int .u8 59] 5)
    have HC3 := Lib.hid (WriteRaw_calls (cd := 1) (nw := [59]) (HS3.out.1.state.stays a3) (by have := HS3.out.2; simp only [List.length_append, List.length_cons, List.length_nil] at *; omega) (row_new w3 [.int .u8 59] 5))
    have HS3' := Lib.hid (And.intro (HS3.out.1.stays a3 (by have := HS3.out.1.below.size; have := HN.out; omega)) HS3.out.2)
    clear a3
    go_wp2_with fail
    refine HC3.out.mono ?_
    rintro e w4 ⟨rfl, T4, c4, hT4⟩
    have HS4 := Lib.hid (And.intro (HS3'.out.1.trans hT4) (show (((bs ++ [27, 91]) ++ ints (numS 0)) ++ [59]).length ≤ 800000 + 24 from by have := HS3'.out.2; simp only [List.length_append, List.length_cons, List.length_nil] at *; omega))
    clear hT4
    obtain ⟨cc4, W4, hcv4, hcell4, hb4, hz4⟩ := str_bytes w4 (numS q)
    have hl4 := ints_length (numS q)
    have hs4 := numS_size q (by omega) (by omega)
    have HC4 := WriteRaw_calls (HS4.out.1.state.stays hb4) (nw := ints (numS q)) (cd := cc4) (by have := HS4.out.2; omega) hcell4
    rw [hl4] at HC4
    have HC4 := Lib.hid HC4
    have HS4' := Lib.hid (And.intro (HS4.out.1.stays hb4 (by have := HS4.out.1.below.size; have := HN.out; omega)) (And.intro HS4.out.2 (And.intro hs4 hl4)))
    clear hcell4 hl4 hs4
    go_wp2_with fail
    refine HC4.out.mono ?_
    rintro e w5 ⟨rfl, T5, c5, hT5⟩
    have HS5 := Lib.hid (And.intro (HS4'.out.1.trans hT5) (show ((((bs ++ [27, 91]) ++ ints (numS 0)) ++ [59]) ++ ints (numS q)).length ≤ 800000 + 45 from by have := HS4'.out.2.1; have h2 := HS4'.out.2.2.1; rw [← HS4'.out.2.2.2] at h2; simp only [List.length_append, List.length_cons, List.length_nil] at *; omega))
    clear hT5 hcv4
    have a5 := Below.alloc (Below.refl w5.heap.size w5) (Nat.le_refl _) (.cells #[.int .u8 72] 5)
    have HC5 := Lib.hid (WriteRaw_calls (cd := 1) (nw := [72]) (HS5.out.1.state.stays a5) (by have := HS5.out.2; simp only [List.length_append, List.length_cons, List.length_nil] at *; omega) (row_new w5 [.int .u8 72] 5))
    have HS5' := Lib.hid (And.intro (HS5.out.1.stays a5 (by have := HS5.out.1.below.size; have := HN.out; omega)) HS5.out.2)
    clear a5
    go_wp2_with fail
    refine HC5.out.mono ?_
    rintro e w6 ⟨rfl, T6, c6, hT6⟩
    have HS6 := Lib.hid (And.intro (HS5'.out.1.trans hT6) (show (((((bs ++ [27, 91]) ++ ints (numS 0)) ++ [59]) ++ ints (numS q)) ++ [72]).length ≤ 800000 + 46 from by have := HS5'.out.2; simp only [List.length_append, List.length_cons, List.length_nil] at *; omega))
    clear hT6
    go_wp2_with fail
    go_end0
    exact ⟨rfl, T6, c6, by have := HS6.out.1; simpa [List.append_assoc] using this⟩
  · have hr' : (r == 0) = false := beq_eq_false_iff_ne.2 hr
    clear hx hd hr
    go_enter Tryd.func66, Tryd.ntmps66
    go_wp2_with fail
    refine HI.out.mono ?_
    rintro e w0 ⟨rfl, hb0⟩
    have HJ1 := Lib.hid (HJ.out w0 hb0)
    have HS0 := Lib.hid hb0
    clear hb0
    go_wp2_with fail
    refine HJ1.out.mono ?_
    rintro e w1 ⟨rfl, hb1⟩
    have HS1 := Lib.hid (And.intro ((VT.refl HV.out.1).stays (HS0.out.trans (hb1.mono HS0.out.size)) (by have := HN.out; omega)) (show bs.length ≤ 800000 + 0 from HV.out.2))
    clear hb1
    have a1 := Below.alloc (Below.refl w1.heap.size w1) (Nat.le_refl _) (.cells #[.int .u8 27, .int .u8 91] 5)
    have HC1 := Lib.hid (WriteRaw_calls (cd := 2) (nw := [27, 91]) (HS1.out.1.state.stays a1) (by have := HS1.out.2; simp only [List.length_append, List.length_cons, List.length_nil] at *; omega) (row_new w1 [.int .u8 27, .int .u8 91] 5))
    have HS1' := Lib.hid (And.intro (HS1.out.1.stays a1 (by have := HS1.out.1.below.size; have := HN.out; omega)) HS1.out.2)
    clear a1
    go_wp2_with fail
    refine HC1.out.mono ?_
    rintro e w2 ⟨rfl, T2, c2, hT2⟩
    have HS2 := Lib.hid (And.intro (HS1'.out.1.trans hT2) (show (bs ++ [27, 91]).length ≤ 800000 + 2 from by have := HS1'.out.2; simp only [List.length_append, List.length_cons, List.length_nil] at *; omega))
    clear hT2
    obtain ⟨cc2, W2, hcv2, hcell2, hb2, hz2⟩ := str_bytes w2 (numS r)
    have hl2 := ints_length (numS r)
    have hs2 := numS_size r (by omega) (by omega)
    have HC2 := WriteRaw_calls (HS2.out.1.state.stays hb2) (nw := ints (numS r)) (cd := cc2) (by have := HS2.out.2; omega) hcell2
    rw [hl2] at HC2
    have HC2 := Lib.hid HC2
    have HS2' := Lib.hid (And.intro (HS2.out.1.stays hb2 (by have := HS2.out.1.below.size; have := HN.out; omega)) (And.intro HS2.out.2 (And.intro hs2 hl2)))
    clear hcell2 hl2 hs2
    go_wp2_with fail
    refine HC2.out.mono ?_
    rintro e w3 ⟨rfl, T3, c3, hT3⟩
    have HS3 := Lib.hid (And.intro (HS2'.out.1.trans hT3) (show ((bs ++ [27, 91]) ++ ints (numS r)).length ≤ 800000 + 23 from by have := HS2'.out.2.1; have h2 := HS2'.out.2.2.1; rw [← HS2'.out.2.2.2] at h2; simp only [List.length_append, List.length_cons, List.length_nil] at *; omega))
    clear hT3 hcv2
    have a3 := Below.alloc (Below.refl w3.heap.size w3) (Nat.le_refl _) (.cells #[.int .u8 59] 5)
    have HC3 := Lib.hid (WriteRaw_calls (cd := 1) (nw := [59]) (HS3.out.1.state.stays a3) (by have := HS3.out.2; simp only [List.length_append, List.length_cons, List.length_nil] at *; omega) (row_new w3 [.int .u8 59] 5))
    have HS3' := Lib.hid (And.intro (HS3.out.1.stays a3 (by have := HS3.out.1.below.size; have := HN.out; omega)) HS3.out.2)
    clear a3
    go_wp2_with fail
    refine HC3.out.mono ?_
    rintro e w4 ⟨rfl, T4, c4, hT4⟩
    have HS4 := Lib.hid (And.intro (HS3'.out.1.trans hT4) (show (((bs ++ [27, 91]) ++ ints (numS r)) ++ [59]).length ≤ 800000 + 24 from by have := HS3'.out.2; simp only [List.length_append, List.length_cons, List.length_nil] at *; omega))
    clear hT4
    obtain ⟨cc4, W4, hcv4, hcell4, hb4, hz4⟩ := str_bytes w4 (numS q)
    have hl4 := ints_length (numS q)
    have hs4 := numS_size q (by omega) (by omega)
    have HC4 := WriteRaw_calls (HS4.out.1.state.stays hb4) (nw := ints (numS q)) (cd := cc4) (by have := HS4.out.2; omega) hcell4
    rw [hl4] at HC4
    have HC4 := Lib.hid HC4
    have HS4' := Lib.hid (And.intro (HS4.out.1.stays hb4 (by have := HS4.out.1.below.size; have := HN.out; omega)) (And.intro HS4.out.2 (And.intro hs4 hl4)))
    clear hcell4 hl4 hs4
    go_wp2_with fail
    refine HC4.out.mono ?_
    rintro e w5 ⟨rfl, T5, c5, hT5⟩
    have HS5 := Lib.hid (And.intro (HS4'.out.1.trans hT5) (show ((((bs ++ [27, 91]) ++ ints (numS r)) ++ [59]) ++ ints (numS q)).length ≤ 800000 + 45 from by have := HS4'.out.2.1; have h2 := HS4'.out.2.2.1; rw [← HS4'.out.2.2.2] at h2; simp only [List.length_append, List.length_cons, List.length_nil] at *; omega))
    clear hT5 hcv4
    have a5 := Below.alloc (Below.refl w5.heap.size w5) (Nat.le_refl _) (.cells #[.int .u8 72] 5)
    have HC5 := Lib.hid (WriteRaw_calls (cd := 1) (nw := [72]) (HS5.out.1.state.stays a5) (by have := HS5.out.2; simp only [List.length_append, List.length_cons, List.length_nil] at *; omega) (row_new w5 [.int .u8 72] 5))
    have HS5' := Lib.hid (And.intro (HS5.out.1.stays a5 (by have := HS5.out.1.below.size; have := HN.out; omega)) HS5.out.2)
    clear a5
    go_wp2_with fail
    refine HC5.out.mono ?_
    rintro e w6 ⟨rfl, T6, c6, hT6⟩
    have HS6 := Lib.hid (And.intro (HS5'.out.1.trans hT6) (show (((((bs ++ [27, 91]) ++ ints (numS r)) ++ [59]) ++ ints (numS q)) ++ [72]).length ≤ 800000 + 46 from by have := HS5'.out.2; simp only [List.length_append, List.length_cons, List.length_nil] at *; omega))
    clear hT6
    go_wp2_with fail
    go_end0
    exact ⟨rfl, T6, c6, by have := HS6.out.1; simpa [List.append_assoc] using this⟩
theorem CursorGoTo_calls {N m c : Nat} {T : Option Addr} {w : World} {bs : List Int} (h : VS w N m T c bs) (r q : Int) (h0 : 0 ≤ r) (h1 : r ≤ 1000000) (h2 : 0 ≤ q) (h3 : q ≤ 1000000) (hb : bs.length ≤ 800000) (hT : TabH w) : Calls Tryd.prog 66 #[Wp m, .int .i64 r, .int .i64 q] w fun e w' => e = .returned (.tuple #[]) ∧ ∃ T' c', VT N m T bs.length c w T' c' (bs ++ CursorGoToO r q) w' := by
  unfold CursorGoToO
  by_cases hx : r = 0 ∧ q = 0
  · rw [if_pos hx]
    obtain ⟨rfl, rfl⟩ := hx
    exact CursorGoTo_home h hb
  · rw [if_neg hx]
    exact CursorGoTo_place h r q h0 h1 h2 h3 hx hb hT
set_option maxHeartbeats 4000000 in
theorem wrote_CursorUp {N m c : Nat} {T : Option Addr} {w : World} {bs : List Int} (h : VS w N m T c bs) (n1 n2 : Int) (s : ByteArray) (h0 : -1000000 ≤ n1) (h1 : n1 ≤ 1000000) (hb : bs.length ≤ 800000) (hT : TabH w) : Calls Tryd.prog 43 #[Wp m, .agg #[.int .i64 3, .int .i64 n1, .int .i64 n2, .string s]] w fun e w' => e = .returned (.bool true) ∧ ∃ T' c', VT N m T bs.length c w T' c' (bs ++ CursorUpO n1) w' := by
  have hN := h.ge
  have hlt := h.blk.lt
  have b1 := Below.alloc (Below.refl w.heap.size w) (Nat.le_refl _) (.cells #[.int .i64 3, .int .i64 n1, .int .i64 n2, .string s] 38)
  have nb := Rec.new w [.int .i64 3, .int .i64 n1, .int .i64 n2, .string s] 38
  have k0 := nb.cell 0 rfl
  have k1 := nb.cell 1 rfl
  have k2 := nb.cell 2 rfl
  have HC := Lib.hid (CursorUp_calls (h.stays b1) n1 h0 h1 hb (hT.below b1))
  have HR := Lib.hid ((VT.refl h).stays b1 (by omega))
  clear h nb b1 hT
  go_enter Tryd.func43, Tryd.ntmps43
  go_wp2_with fail
  refine HC.out.mono ?_
  rintro e w2 ⟨rfl, T', c', hT⟩
  have HT := Lib.hid (HR.out.trans hT)
  clear hT
  go_wp2_with fail
  go_ret
  exact ⟨rfl, T', c', HT.out⟩
set_option maxHeartbeats 4000000 in
theorem wrote_CursorDown {N m c : Nat} {T : Option Addr} {w : World} {bs : List Int} (h : VS w N m T c bs) (n1 n2 : Int) (s : ByteArray) (h0 : -1000000 ≤ n1) (h1 : n1 ≤ 1000000) (hb : bs.length ≤ 800000) (hT : TabH w) : Calls Tryd.prog 43 #[Wp m, .agg #[.int .i64 4, .int .i64 n1, .int .i64 n2, .string s]] w fun e w' => e = .returned (.bool true) ∧ ∃ T' c', VT N m T bs.length c w T' c' (bs ++ CursorDownO n1) w' := by
  have hN := h.ge
  have hlt := h.blk.lt
  have b1 := Below.alloc (Below.refl w.heap.size w) (Nat.le_refl _) (.cells #[.int .i64 4, .int .i64 n1, .int .i64 n2, .string s] 38)
  have nb := Rec.new w [.int .i64 4, .int .i64 n1, .int .i64 n2, .string s] 38
  have k0 := nb.cell 0 rfl
  have k1 := nb.cell 1 rfl
  have k2 := nb.cell 2 rfl
  have HC := Lib.hid (CursorDown_calls (h.stays b1) n1 h0 h1 hb (hT.below b1))
  have HR := Lib.hid ((VT.refl h).stays b1 (by omega))
  clear h nb b1 hT
  go_enter Tryd.func43, Tryd.ntmps43
  go_wp2_with fail
  refine HC.out.mono ?_
  rintro e w2 ⟨rfl, T', c', hT⟩
  have HT := Lib.hid (HR.out.trans hT)
  clear hT
  go_wp2_with fail
  go_ret
  exact ⟨rfl, T', c', HT.out⟩
set_option maxHeartbeats 4000000 in
theorem wrote_CursorForward {N m c : Nat} {T : Option Addr} {w : World} {bs : List Int} (h : VS w N m T c bs) (n1 n2 : Int) (s : ByteArray) (h0 : -1000000 ≤ n1) (h1 : n1 ≤ 1000000) (hb : bs.length ≤ 800000) (hT : TabH w) : Calls Tryd.prog 43 #[Wp m, .agg #[.int .i64 5, .int .i64 n1, .int .i64 n2, .string s]] w fun e w' => e = .returned (.bool true) ∧ ∃ T' c', VT N m T bs.length c w T' c' (bs ++ CursorForwardO n1) w' := by
  have hN := h.ge
  have hlt := h.blk.lt
  have b1 := Below.alloc (Below.refl w.heap.size w) (Nat.le_refl _) (.cells #[.int .i64 5, .int .i64 n1, .int .i64 n2, .string s] 38)
  have nb := Rec.new w [.int .i64 5, .int .i64 n1, .int .i64 n2, .string s] 38
  have k0 := nb.cell 0 rfl
  have k1 := nb.cell 1 rfl
  have k2 := nb.cell 2 rfl
  have HC := Lib.hid (CursorForward_calls (h.stays b1) n1 h0 h1 hb (hT.below b1))
  have HR := Lib.hid ((VT.refl h).stays b1 (by omega))
  clear h nb b1 hT
  go_enter Tryd.func43, Tryd.ntmps43
  go_wp2_with fail
  refine HC.out.mono ?_
  rintro e w2 ⟨rfl, T', c', hT⟩
  have HT := Lib.hid (HR.out.trans hT)
  clear hT
  go_wp2_with fail
  go_ret
  exact ⟨rfl, T', c', HT.out⟩
set_option maxHeartbeats 4000000 in
theorem wrote_CursorBackward {N m c : Nat} {T : Option Addr} {w : World} {bs : List Int} (h : VS w N m T c bs) (n1 n2 : Int) (s : ByteArray) (h0 : -1000000 ≤ n1) (h1 : n1 ≤ 1000000) (hb : bs.length ≤ 800000) (hT : TabH w) : Calls Tryd.prog 43 #[Wp m, .agg #[.int .i64 6, .int .i64 n1, .int .i64 n2, .string s]] w fun e w' => e = .returned (.bool true) ∧ ∃ T' c', VT N m T bs.length c w T' c' (bs ++ CursorBackwardO n1) w' := by
  have hN := h.ge
  have hlt := h.blk.lt
  have b1 := Below.alloc (Below.refl w.heap.size w) (Nat.le_refl _) (.cells #[.int .i64 6, .int .i64 n1, .int .i64 n2, .string s] 38)
  have nb := Rec.new w [.int .i64 6, .int .i64 n1, .int .i64 n2, .string s] 38
  have k0 := nb.cell 0 rfl
  have k1 := nb.cell 1 rfl
  have k2 := nb.cell 2 rfl
  have HC := Lib.hid (CursorBackward_calls (h.stays b1) n1 h0 h1 hb (hT.below b1))
  have HR := Lib.hid ((VT.refl h).stays b1 (by omega))
  clear h nb b1 hT
  go_enter Tryd.func43, Tryd.ntmps43
  go_wp2_with fail
  refine HC.out.mono ?_
  rintro e w2 ⟨rfl, T', c', hT⟩
  have HT := Lib.hid (HR.out.trans hT)
  clear hT
  go_wp2_with fail
  go_ret
  exact ⟨rfl, T', c', HT.out⟩
set_option maxHeartbeats 4000000 in
theorem wrote_CursorGoTo {N m c : Nat} {T : Option Addr} {w : World} {bs : List Int} (h : VS w N m T c bs) (n1 n2 : Int) (s : ByteArray) (h0 : 0 ≤ n1) (h1 : n1 ≤ 1000000) (h2 : 0 ≤ n2) (h3 : n2 ≤ 1000000) (hb : bs.length ≤ 800000) (hT : TabH w) : Calls Tryd.prog 43 #[Wp m, .agg #[.int .i64 7, .int .i64 n1, .int .i64 n2, .string s]] w fun e w' => e = .returned (.bool true) ∧ ∃ T' c', VT N m T bs.length c w T' c' (bs ++ CursorGoToO n1 n2) w' := by
  have hN := h.ge
  have hlt := h.blk.lt
  have b1 := Below.alloc (Below.refl w.heap.size w) (Nat.le_refl _) (.cells #[.int .i64 7, .int .i64 n1, .int .i64 n2, .string s] 38)
  have nb := Rec.new w [.int .i64 7, .int .i64 n1, .int .i64 n2, .string s] 38
  have k0 := nb.cell 0 rfl
  have k1 := nb.cell 1 rfl
  have k2 := nb.cell 2 rfl
  have HC := Lib.hid (CursorGoTo_calls (h.stays b1) n1 n2 h0 h1 h2 h3 hb (hT.below b1))
  have HR := Lib.hid ((VT.refl h).stays b1 (by omega))
  clear h nb b1 hT
  go_enter Tryd.func43, Tryd.ntmps43
  go_wp2_with fail
  refine HC.out.mono ?_
  rintro e w2 ⟨rfl, T', c', hT⟩
  have HT := Lib.hid (HR.out.trans hT)
  clear hT
  go_wp2_with fail
  go_ret
  exact ⟨rfl, T', c', HT.out⟩
end Go.Proofs.YtanadaamipfmkaaDoor.H
