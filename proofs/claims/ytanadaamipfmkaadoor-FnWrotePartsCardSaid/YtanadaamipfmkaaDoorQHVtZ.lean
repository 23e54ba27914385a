/- A writer of sequences (goprompt.VT100Writer): the methods that write a row that stands in the program, and the steps of impl.wrote that call them; for writers that hold at most 800000 bytes. -/
import Derived.Test.YtanadaamipfmkaaDoorQHVtX
namespace Go.Proofs.YtanadaamipfmkaaDoor.H
open Go.RowKit Go.Proofs.YtanadaamipfmkaaDoorW.PrintWords Go.Proofs.YtanadaamipfmkaaDoorW.PrintLast Go.Proofs.YtanadaamipfmkaaDoor.R Go.Proofs.YtanadaamipfmkaaDoor.X
set_option linter.unusedVariables false
set_option linter.unusedSimpArgs false
set_option maxHeartbeats 2000000 in
theorem EraseScreen_calls {N m c : Nat} {T : Option Addr} {w : World} {bs : List Int} (h : VS w N m T c bs) (hb : bs.length ≤ 800000) : Calls Tryd.prog 91 #[Wp m] w fun e w' => e = .returned (.tuple #[]) ∧ ∃ T' c', VT N m T bs.length c w T' c' (bs ++ [27, 91, 50, 74]) w' := by
  have hN := h.ge
  have hlt := h.blk.lt
  have a1 := Below.alloc (Below.refl w.heap.size w) (Nat.le_refl _) (.cells #[.int .u8 27, .int .u8 91, .int .u8 50, .int .u8 74] 5)
  have HC := Lib.hid (WriteRaw_calls (cd := 4) (nw := [27, 91, 50, 74]) (h.stays a1) (by show _ + 4 ≤ _; omega) (row_new w [.int .u8 27, .int .u8 91, .int .u8 50, .int .u8 74] 5))
  have HR := Lib.hid ((VT.refl h).stays a1 (by omega))
  clear h a1
  go_enter Tryd.func91, Tryd.ntmps91
  go_wp2_with fail
  refine HC.out.mono ?_
  rintro e w2 ⟨rfl, T', c', hT⟩
  have HT := Lib.hid (HR.out.trans hT)
  clear hT
  go_wp2_with fail
  go_end0
  exact ⟨rfl, T', c', HT.out⟩
set_option maxHeartbeats 2000000 in
theorem EraseUp_calls {N m c : Nat} {T : Option Addr} {w : World} {bs : List Int} (h : VS w N m T c bs) (hb : bs.length ≤ 800000) : Calls Tryd.prog 92 #[Wp m] w fun e w' => e = .returned (.tuple #[]) ∧ ∃ T' c', VT N m T bs.length c w T' c' (bs ++ [27, 91, 49, 74]) w' := by
  have hN := h.ge
  have hlt := h.blk.lt
  have a1 := Below.alloc (Below.refl w.heap.size w) (Nat.le_refl _) (.cells #[.int .u8 27, .int .u8 91, .int .u8 49, .int .u8 74] 5)
  have HC := Lib.hid (WriteRaw_calls (cd := 4) (nw := [27, 91, 49, 74]) (h.stays a1) (by show _ + 4 ≤ _; omega) (row_new w [.int .u8 27, .int .u8 91, .int .u8 49, .int .u8 74] 5))
  have HR := Lib.hid ((VT.refl h).stays a1 (by omega))
  clear h a1
  go_enter Tryd.func92, Tryd.ntmps92
  go_wp2_with fail
  refine HC.out.mono ?_
  rintro e w2 ⟨rfl, T', c', hT⟩
  have HT := Lib.hid (HR.out.trans hT)
  clear hT
  go_wp2_with fail
  go_end0
  exact ⟨rfl, T', c', HT.out⟩
set_option maxHeartbeats 2000000 in
theorem EraseDown_calls {N m c : Nat} {T : Option Addr} {w : World} {bs : List Int} (h : VS w N m T c bs) (hb : bs.length ≤ 800000) : Calls Tryd.prog 93 #[Wp m] w fun e w' => e = .returned (.tuple #[]) ∧ ∃ T' c', VT N m T bs.length c w T' c' (bs ++ [27, 91, 74]) w' := by
  have hN := h.ge
  have hlt := h.blk.lt
  have a1 := Below.alloc (Below.refl w.heap.size w) (Nat.le_refl _) (.cells #[.int .u8 27, .int .u8 91, .int .u8 74] 5)
  have HC := Lib.hid (WriteRaw_calls (cd := 3) (nw := [27, 91, 74]) (h.stays a1) (by show _ + 3 ≤ _; omega) (row_new w [.int .u8 27, .int .u8 91, .int .u8 74] 5))
  have HR := Lib.hid ((VT.refl h).stays a1 (by omega))
  clear h a1
  go_enter Tryd.func93, Tryd.ntmps93
  go_wp2_with fail
  refine HC.out.mono ?_
  rintro e w2 ⟨rfl, T', c', hT⟩
  have HT := Lib.hid (HR.out.trans hT)
  clear hT
  go_wp2_with fail
  go_end0
  exact ⟨rfl, T', c', HT.out⟩
set_option maxHeartbeats 2000000 in
theorem EraseStartOfLine_calls {N m c : Nat} {T : Option Addr} {w : World} {bs : List Int} (h : VS w N m T c bs) (hb : bs.length ≤ 800000) : Calls Tryd.prog 94 #[Wp m] w fun e w' => e = .returned (.tuple #[]) ∧ ∃ T' c', VT N m T bs.length c w T' c' (bs ++ [27, 91, 49, 75]) w' := by
  have hN := h.ge
  have hlt := h.blk.lt
  have a1 := Below.alloc (Below.refl w.heap.size w) (Nat.le_refl _) (.cells #[.int .u8 27, .int .u8 91, .int .u8 49, .int .u8 75] 5)
  have HC := Lib.hid (WriteRaw_calls (cd := 4) (nw := [27, 91, 49, 75]) (h.stays a1) (by show _ + 4 ≤ _; omega) (row_new w [.int .u8 27, .int .u8 91, .int .u8 49, .int .u8 75] 5))
  have HR := Lib.hid ((VT.refl h).stays a1 (by omega))
  clear h a1
  go_enter Tryd.func94, Tryd.ntmps94
  go_wp2_with fail
  refine HC.out.mono ?_
  rintro e w2 ⟨rfl, T', c', hT⟩
  have HT := Lib.hid (HR.out.trans hT)
  clear hT
  go_wp2_with fail
  go_end0
  exact ⟨rfl, T', c', HT.out⟩
set_option maxHeartbeats 2000000 in
theorem EraseEndOfLine_calls {N m c : Nat} {T : Option Addr} {w : World} {bs : List Int} (h : VS w N m T c bs) (hb : bs.length ≤ 800000) : Calls Tryd.prog 95 #[Wp m] w fun e w' => e = .returned (.tuple #[]) ∧ ∃ T' c', VT N m T bs.length c w T' c' (bs ++ [27, 91, 75]) w' := by
  have hN := h.ge
  have hlt := h.blk.lt
  have a1 := Below.alloc (Below.refl w.heap.size w) (Nat.le_refl _) (.cells #[.int .u8 27, .int .u8 91, .int .u8 75] 5)
  have HC := Lib.hid (WriteRaw_calls (cd := 3) (nw := [27, 91, 75]) (h.stays a1) (by show _ + 3 ≤ _; omega) (row_new w [.int .u8 27, .int .u8 91, .int .u8 75] 5))
  have HR := Lib.hid ((VT.refl h).stays a1 (by omega))
  clear h a1
  go_enter Tryd.func95, Tryd.ntmps95
  go_wp2_with fail
  refine HC.out.mono ?_
  rintro e w2 ⟨rfl, T', c', hT⟩
  have HT := Lib.hid (HR.out.trans hT)
  clear hT
  go_wp2_with fail
  go_end0
  exact ⟨rfl, T', c', HT.out⟩
set_option maxHeartbeats 2000000 in
theorem EraseLine_calls {N m c : Nat} {T : Option Addr} {w : World} {bs : List Int} (h : VS w N m T c bs) (hb : bs.length ≤ 800000) : Calls Tryd.prog 96 #[Wp m] w fun e w' => e = .returned (.tuple #[]) ∧ ∃ T' c', VT N m T bs.length c w T' c' (bs ++ [27, 91, 50, 75]) w' := by
  have hN := h.ge
  have hlt := h.blk.lt
  have a1 := Below.alloc (Below.refl w.heap.size w) (Nat.le_refl _) (.cells #[.int .u8 27, .int .u8 91, .int .u8 50, .int .u8 75] 5)
  have HC := Lib.hid (WriteRaw_calls (cd := 4) (nw := [27, 91, 50, 75]) (h.stays a1) (by show _ + 4 ≤ _; omega) (row_new w [.int .u8 27, .int .u8 91, .int .u8 50, .int .u8 75] 5))
  have HR := Lib.hid ((VT.refl h).stays a1 (by omega))
  clear h a1
  go_enter Tryd.func96, Tryd.ntmps96
  go_wp2_with fail
  refine HC.out.mono ?_
  rintro e w2 ⟨rfl, T', c', hT⟩
  have HT := Lib.hid (HR.out.trans hT)
  clear hT
  go_wp2_with fail
  go_end0
  exact ⟨rfl, T', c', HT.out⟩
set_option maxHeartbeats 2000000 in
theorem ShowCursor_calls {N m c : Nat} {T : Option Addr} {w : World} {bs : List Int} (h : VS w N m T c bs) (hb : bs.length ≤ 800000) : Calls Tryd.prog 97 #[Wp m] w fun e w' => e = .returned (.tuple #[]) ∧ ∃ T' c', VT N m T bs.length c w T' c' (bs ++ [27, 91, 63, 49, 50, 108, 27, 91, 63, 50, 53, 104]) w' := by
  have hN := h.ge
  have hlt := h.blk.lt
  have a1 := Below.alloc (Below.refl w.heap.size w) (Nat.le_refl _) (.cells #[.int .u8 27, .int .u8 91, .int .u8 63, .int .u8 49, .int .u8 50, .int .u8 108, .int .u8 27, .int .u8 91, .int .u8 63, .int .u8 50, .int .u8 53, .int .u8 104] 5)
  have HC := Lib.hid (WriteRaw_calls (cd := 12) (nw := [27, 91, 63, 49, 50, 108, 27, 91, 63, 50, 53, 104]) (h.stays a1) (by show _ + 12 ≤ _; omega) (row_new w [.int .u8 27, .int .u8 91, .int .u8 63, .int .u8 49, .int .u8 50, .int .u8 108, .int .u8 27, .int .u8 91, .int .u8 63, .int .u8 50, .int .u8 53, .int .u8 104] 5))
  have HR := Lib.hid ((VT.refl h).stays a1 (by omega))
  clear h a1
  go_enter Tryd.func97, Tryd.ntmps97
  go_wp2_with fail
  refine HC.out.mono ?_
  rintro e w2 ⟨rfl, T', c', hT⟩
  have HT := Lib.hid (HR.out.trans hT)
  clear hT
  go_wp2_with fail
  go_end0
  exact ⟨rfl, T', c', HT.out⟩
set_option maxHeartbeats 2000000 in
theorem HideCursor_calls {N m c : Nat} {T : Option Addr} {w : World} {bs : List Int} (h : VS w N m T c bs) (hb : bs.length ≤ 800000) : Calls Tryd.prog 98 #[Wp m] w fun e w' => e = .returned (.tuple #[]) ∧ ∃ T' c', VT N m T bs.length c w T' c' (bs ++ [27, 91, 63, 50, 53, 108]) w' := by
  have hN := h.ge
  have hlt := h.blk.lt
  have a1 := Below.alloc (Below.refl w.heap.size w) (Nat.le_refl _) (.cells #[.int .u8 27, .int .u8 91, .int .u8 63, .int .u8 50, .int .u8 53, .int .u8 108] 5)
  have HC := Lib.hid (WriteRaw_calls (cd := 6) (nw := [27, 91, 63, 50, 53, 108]) (h.stays a1) (by show _ + 6 ≤ _; omega) (row_new w [.int .u8 27, .int .u8 91, .int .u8 63, .int .u8 50, .int .u8 53, .int .u8 108] 5))
  have HR := Lib.hid ((VT.refl h).stays a1 (by omega))
  clear h a1
  go_enter Tryd.func98, Tryd.ntmps98
  go_wp2_with fail
  refine HC.out.mono ?_
  rintro e w2 ⟨rfl, T', c', hT⟩
  have HT := Lib.hid (HR.out.trans hT)
  clear hT
  go_wp2_with fail
  go_end0
  exact ⟨rfl, T', c', HT.out⟩
set_option maxHeartbeats 2000000 in
theorem AskForCPR_calls {N m c : Nat} {T : Option Addr} {w : World} {bs : List Int} (h : VS w N m T c bs) (hb : bs.length ≤ 800000) : Calls Tryd.prog 99 #[Wp m] w fun e w' => e = .returned (.tuple #[]) ∧ ∃ T' c', VT N m T bs.length c w T' c' (bs ++ [27, 91, 54, 110]) w' := by
  have hN := h.ge
  have hlt := h.blk.lt
  have a1 := Below.alloc (Below.refl w.heap.size w) (Nat.le_refl _) (.cells #[.int .u8 27, .int .u8 91, .int .u8 54, .int .u8 110] 5)
  have HC := Lib.hid (WriteRaw_calls (cd := 4) (nw := [27, 91, 54, 110]) (h.stays a1) (by show _ + 4 ≤ _; omega) (row_new w [.int .u8 27, .int .u8 91, .int .u8 54, .int .u8 110] 5))
  have HR := Lib.hid ((VT.refl h).stays a1 (by omega))
  clear h a1
  go_enter Tryd.func99, Tryd.ntmps99
  go_wp2_with fail
  refine HC.out.mono ?_
  rintro e w2 ⟨rfl, T', c', hT⟩
  have HT := Lib.hid (HR.out.trans hT)
  clear hT
  go_wp2_with fail
  go_end0
  exact ⟨rfl, T', c', HT.out⟩
set_option maxHeartbeats 2000000 in
theorem SaveCursor_calls {N m c : Nat} {T : Option Addr} {w : World} {bs : List Int} (h : VS w N m T c bs) (hb : bs.length ≤ 800000) : Calls Tryd.prog 100 #[Wp m] w fun e w' => e = .returned (.tuple #[]) ∧ ∃ T' c', VT N m T bs.length c w T' c' (bs ++ [27, 91, 115]) w' := by
  have hN := h.ge
  have hlt := h.blk.lt
  have a1 := Below.alloc (Below.refl w.heap.size w) (Nat.le_refl _) (.cells #[.int .u8 27, .int .u8 91, .int .u8 115] 5)
  have HC := Lib.hid (WriteRaw_calls (cd := 3) (nw := [27, 91, 115]) (h.stays a1) (by show _ + 3 ≤ _; omega) (row_new w [.int .u8 27, .int .u8 91, .int .u8 115] 5))
  have HR := Lib.hid ((VT.refl h).stays a1 (by omega))
  clear h a1
  go_enter Tryd.func100, Tryd.ntmps100
  go_wp2_with fail
  refine HC.out.mono ?_
  rintro e w2 ⟨rfl, T', c', hT⟩
  have HT := Lib.hid (HR.out.trans hT)
  clear hT
  go_wp2_with fail
  go_end0
  exact ⟨rfl, T', c', HT.out⟩
set_option maxHeartbeats 2000000 in
theorem UnSaveCursor_calls {N m c : Nat} {T : Option Addr} {w : World} {bs : List Int} (h : VS w N m T c bs) (hb : bs.length ≤ 800000) : Calls Tryd.prog 101 #[Wp m] w fun e w' => e = .returned (.tuple #[]) ∧ ∃ T' c', VT N m T bs.length c w T' c' (bs ++ [27, 91, 117]) w' := by
  have hN := h.ge
  have hlt := h.blk.lt
  have a1 := Below.alloc (Below.refl w.heap.size w) (Nat.le_refl _) (.cells #[.int .u8 27, .int .u8 91, .int .u8 117] 5)
  have HC := Lib.hid (WriteRaw_calls (cd := 3) (nw := [27, 91, 117]) (h.stays a1) (by show _ + 3 ≤ _; omega) (row_new w [.int .u8 27, .int .u8 91, .int .u8 117] 5))
  have HR := Lib.hid ((VT.refl h).stays a1 (by omega))
  clear h a1
  go_enter Tryd.func101, Tryd.ntmps101
  go_wp2_with fail
  refine HC.out.mono ?_
  rintro e w2 ⟨rfl, T', c', hT⟩
  have HT := Lib.hid (HR.out.trans hT)
  clear hT
  go_wp2_with fail
  go_end0
  exact ⟨rfl, T', c', HT.out⟩
set_option maxHeartbeats 2000000 in
theorem ScrollDown_calls {N m c : Nat} {T : Option Addr} {w : World} {bs : List Int} (h : VS w N m T c bs) (hb : bs.length ≤ 800000) : Calls Tryd.prog 102 #[Wp m] w fun e w' => e = .returned (.tuple #[]) ∧ ∃ T' c', VT N m T bs.length c w T' c' (bs ++ [27, 68]) w' := by
  have hN := h.ge
  have hlt := h.blk.lt
  have a1 := Below.alloc (Below.refl w.heap.size w) (Nat.le_refl _) (.cells #[.int .u8 27, .int .u8 68] 5)
  have HC := Lib.hid (WriteRaw_calls (cd := 2) (nw := [27, 68]) (h.stays a1) (by show _ + 2 ≤ _; omega) (row_new w [.int .u8 27, .int .u8 68] 5))
  have HR := Lib.hid ((VT.refl h).stays a1 (by omega))
  clear h a1
  go_enter Tryd.func102, Tryd.ntmps102
  go_wp2_with fail
  refine HC.out.mono ?_
  rintro e w2 ⟨rfl, T', c', hT⟩
  have HT := Lib.hid (HR.out.trans hT)
  clear hT
  go_wp2_with fail
  go_end0
  exact ⟨rfl, T', c', HT.out⟩
set_option maxHeartbeats 2000000 in
theorem ScrollUp_calls {N m c : Nat} {T : Option Addr} {w : World} {bs : List Int} (h : VS w N m T c bs) (hb : bs.length ≤ 800000) : Calls Tryd.prog 103 #[Wp m] w fun e w' => e = .returned (.tuple #[]) ∧ ∃ T' c', VT N m T bs.length c w T' c' (bs ++ [27, 77]) w' := by
  have hN := h.ge
  have hlt := h.blk.lt
  have a1 := Below.alloc (Below.refl w.heap.size w) (Nat.le_refl _) (.cells #[.int .u8 27, .int .u8 77] 5)
  have HC := Lib.hid (WriteRaw_calls (cd := 2) (nw := [27, 77]) (h.stays a1) (by show _ + 2 ≤ _; omega) (row_new w [.int .u8 27, .int .u8 77] 5))
  have HR := Lib.hid ((VT.refl h).stays a1 (by omega))
  clear h a1
  go_enter Tryd.func103, Tryd.ntmps103
  go_wp2_with fail
  refine HC.out.mono ?_
  rintro e w2 ⟨rfl, T', c', hT⟩
  have HT := Lib.hid (HR.out.trans hT)
  clear hT
  go_wp2_with fail
  go_end0
  exact ⟨rfl, T', c', HT.out⟩
set_option maxHeartbeats 2000000 in
theorem ClearTitle_calls {N m c : Nat} {T : Option Addr} {w : World} {bs : List Int} (h : VS w N m T c bs) (hb : bs.length ≤ 800000) : Calls Tryd.prog 68 #[Wp m] w fun e w' => e = .returned (.tuple #[]) ∧ ∃ T' c', VT N m T bs.length c w T' c' (bs ++ [27, 93, 50, 59, 7]) w' := by
  have hN := h.ge
  have hlt := h.blk.lt
  have a1 := Below.alloc (Below.refl w.heap.size w) (Nat.le_refl _) (.cells #[.int .u8 27, .int .u8 93, .int .u8 50, .int .u8 59, .int .u8 7] 5)
  have HC := Lib.hid (WriteRaw_calls (cd := 5) (nw := [27, 93, 50, 59, 7]) (h.stays a1) (by show _ + 5 ≤ _; omega) (row_new w [.int .u8 27, .int .u8 93, .int .u8 50, .int .u8 59, .int .u8 7] 5))
  have HR := Lib.hid ((VT.refl h).stays a1 (by omega))
  clear h a1
  go_enter Tryd.func68, Tryd.ntmps68
  go_wp2_with fail
  refine HC.out.mono ?_
  rintro e w2 ⟨rfl, T', c', hT⟩
  have HT := Lib.hid (HR.out.trans hT)
  clear hT
  go_wp2_with fail
  go_end0
  exact ⟨rfl, T', c', HT.out⟩
set_option maxHeartbeats 4000000 in
theorem erased_EraseScreen {N m c : Nat} {T : Option Addr} {w : World} {bs : List Int} (h : VS w N m T c bs) (hb : bs.length ≤ 800000) : Calls Tryd.prog 69 #[Wp m, .int .i64 8] w fun e w' => e = .returned (.bool true) ∧ ∃ T' c', VT N m T bs.length c w T' c' (bs ++ [27, 91, 50, 74]) w' := by
  have HC := Lib.hid (EraseScreen_calls h hb)
  clear h
  go_enter Tryd.func69, Tryd.ntmps69
  go_wp2_with fail
  refine HC.out.mono ?_
  rintro e w2 ⟨rfl, T', c', hT⟩
  have HT := Lib.hid hT
  clear hT
  go_wp2_with fail
  go_ret
  exact ⟨rfl, T', c', HT.out⟩
set_option maxHeartbeats 4000000 in
theorem wrote_EraseScreen {N m c : Nat} {T : Option Addr} {w : World} {bs : List Int} (h : VS w N m T c bs) (n1 n2 : Int) (s : ByteArray) (hb : bs.length ≤ 800000) : Calls Tryd.prog 43 #[Wp m, .agg #[.int .i64 8, .int .i64 n1, .int .i64 n2, .string s]] w fun e w' => e = .returned (.bool true) ∧ ∃ T' c', VT N m T bs.length c w T' c' (bs ++ [27, 91, 50, 74]) w' := by
  have hN := h.ge
  have hlt := h.blk.lt
  have b1 := Below.alloc (Below.refl w.heap.size w) (Nat.le_refl _) (.cells #[.int .i64 8, .int .i64 n1, .int .i64 n2, .string s] 38)
  have nb := Rec.new w [.int .i64 8, .int .i64 n1, .int .i64 n2, .string s] 38
  have k0 := nb.cell 0 rfl
  have HC := Lib.hid (erased_EraseScreen (h.stays b1) hb)
  have HR := Lib.hid ((VT.refl h).stays b1 (by omega))
  clear h nb b1
  go_enter Tryd.func43, Tryd.ntmps43
  go_wp2_with fail
  refine HC.out.mono ?_
  rintro e w2 ⟨rfl, T', c', hT⟩
  have HT := Lib.hid (HR.out.trans hT)
  clear hT
  go_wp2_with fail
  go_ret
  exact ⟨rfl, T', c', HT.out⟩
set_option maxHeartbeats 4000000 in
theorem erased_EraseUp {N m c : Nat} {T : Option Addr} {w : World} {bs : List Int} (h : VS w N m T c bs) (hb : bs.length ≤ 800000) : Calls Tryd.prog 69 #[Wp m, .int .i64 9] w fun e w' => e = .returned (.bool true) ∧ ∃ T' c', VT N m T bs.length c w T' c' (bs ++ [27, 91, 49, 74]) w' := by
  have HC := Lib.hid (EraseUp_calls h hb)
  clear h
  go_enter Tryd.func69, Tryd.ntmps69
  go_wp2_with fail
  refine HC.out.mono ?_
  rintro e w2 ⟨rfl, T', c', hT⟩
  have HT := Lib.hid hT
  clear hT
  go_wp2_with fail
  go_ret
  exact ⟨rfl, T', c', HT.out⟩
set_option maxHeartbeats 4000000 in
theorem wrote_EraseUp {N m c : Nat} {T : Option Addr} {w : World} {bs : List Int} (h : VS w N m T c bs) (n1 n2 : Int) (s : ByteArray) (hb : bs.length ≤ 800000) : Calls Tryd.prog 43 #[Wp m, .agg #[.int .i64 9, .int .i64 n1, .int .i64 n2, .string s]] w fun e w' => e = .returned (.bool true) ∧ ∃ T' c', VT N m T bs.length c w T' c' (bs ++ [27, 91, 49, 74]) w' := by
  have hN := h.ge
  have hlt := h.blk.lt
  have b1 := Below.alloc (Below.refl w.heap.size w) (Nat.le_refl _) (.cells #[.int .i64 9, .int .i64 n1, .int .i64 n2, .string s] 38)
  have nb := Rec.new w [.int .i64 9, .int .i64 n1, .int .i64 n2, .string s] 38
  have k0 := nb.cell 0 rfl
  have HC := Lib.hid (erased_EraseUp (h.stays b1) hb)
  have HR := Lib.hid ((VT.refl h).stays b1 (by omega))
  clear h nb b1
  go_enter Tryd.func43, Tryd.ntmps43
  go_wp2_with fail
  refine HC.out.mono ?_
  rintro e w2 ⟨rfl, T', c', hT⟩
  have HT := Lib.hid (HR.out.trans hT)
  clear hT
  go_wp2_with fail
  go_ret
  exact ⟨rfl, T', c', HT.out⟩
set_option maxHeartbeats 4000000 in
theorem erased_EraseDown {N m c : Nat} {T : Option Addr} {w : World} {bs : List Int} (h : VS w N m T c bs) (hb : bs.length ≤ 800000) : Calls Tryd.prog 69 #[Wp m, .int .i64 10] w fun e w' => e = .returned (.bool true) ∧ ∃ T' c', VT N m T bs.length c w T' c' (bs ++ [27, 91, 74]) w' := by
  have HC := Lib.hid (EraseDown_calls h hb)
  clear h
  go_enter Tryd.func69, Tryd.ntmps69
  go_wp2_with fail
  refine HC.out.mono ?_
  rintro e w2 ⟨rfl, T', c', hT⟩
  have HT := Lib.hid hT
  clear hT
  go_wp2_with fail
  go_ret
  exact ⟨rfl, T', c', HT.out⟩
set_option maxHeartbeats 4000000 in
theorem wrote_EraseDown {N m c : Nat} {T : Option Addr} {w : World} {bs : List Int} (h : VS w N m T c bs) (n1 n2 : Int) (s : ByteArray) (hb : bs.length ≤ 800000) : Calls Tryd.prog 43 #[Wp m, .agg #[.int .i64 10, .int .i64 n1, .int .i64 n2, .string s]] w fun e w' => e = .returned (.bool true) ∧ ∃ T' c', VT N m T bs.length c w T' c' (bs ++ [27, 91, 74]) w' := by
  have hN := h.ge
  have hlt := h.blk.lt
  have b1 := Below.alloc (Below.refl w.heap.size w) (Nat.le_refl _) (.cells #[.int .i64 10, .int .i64 n1, .int .i64 n2, .string s] 38)
  have nb := Rec.new w [.int .i64 10, .int .i64 n1, .int .i64 n2, .string s] 38
  have k0 := nb.cell 0 rfl
  have HC := Lib.hid (erased_EraseDown (h.stays b1) hb)
  have HR := Lib.hid ((VT.refl h).stays b1 (by omega))
  clear h nb b1
  go_enter Tryd.func43, Tryd.ntmps43
  go_wp2_with fail
  refine HC.out.mono ?_
  rintro e w2 ⟨rfl, T', c', hT⟩
  have HT := Lib.hid (HR.out.trans hT)
  clear hT
  go_wp2_with fail
  go_ret
  exact ⟨rfl, T', c', HT.out⟩
set_option maxHeartbeats 4000000 in
theorem erased_EraseStartOfLine {N m c : Nat} {T : Option Addr} {w : World} {bs : List Int} (h : VS w N m T c bs) (hb : bs.length ≤ 800000) : Calls Tryd.prog 69 #[Wp m, .int .i64 11] w fun e w' => e = .returned (.bool true) ∧ ∃ T' c', VT N m T bs.length c w T' c' (bs ++ [27, 91, 49, 75]) w' := by
  have HC := Lib.hid (EraseStartOfLine_calls h hb)
  clear h
  go_enter Tryd.func69, Tryd.ntmps69
  go_wp2_with fail
  refine HC.out.mono ?_
  rintro e w2 ⟨rfl, T', c', hT⟩
  have HT := Lib.hid hT
  clear hT
  go_wp2_with fail
  go_ret
  exact ⟨rfl, T', c', HT.out⟩
set_option maxHeartbeats 4000000 in
theorem wrote_EraseStartOfLine {N m c : Nat} {T : Option Addr} {w : World} {bs : List Int} (h : VS w N m T c bs) (n1 n2 : Int) (s : ByteArray) (hb : bs.length ≤ 800000) : Calls Tryd.prog 43 #[Wp m, .agg #[.int .i64 11, .int .i64 n1, .int .i64 n2, .string s]] w fun e w' => e = .returned (.bool true) ∧ ∃ T' c', VT N m T bs.length c w T' c' (bs ++ [27, 91, 49, 75]) w' := by
  have hN := h.ge
  have hlt := h.blk.lt
  have b1 := Below.alloc (Below.refl w.heap.size w) (Nat.le_refl _) (.cells #[.int .i64 11, .int .i64 n1, .int .i64 n2, .string s] 38)
  have nb := Rec.new w [.int .i64 11, .int .i64 n1, .int .i64 n2, .string s] 38
  have k0 := nb.cell 0 rfl
  have HC := Lib.hid (erased_EraseStartOfLine (h.stays b1) hb)
  have HR := Lib.hid ((VT.refl h).stays b1 (by omega))
  clear h nb b1
  go_enter Tryd.func43, Tryd.ntmps43
  go_wp2_with fail
  refine HC.out.mono ?_
  rintro e w2 ⟨rfl, T', c', hT⟩
  have HT := Lib.hid (HR.out.trans hT)
  clear hT
  go_wp2_with fail
  go_ret
  exact ⟨rfl, T', c', HT.out⟩
set_option maxHeartbeats 4000000 in
theorem erased_EraseEndOfLine {N m c : Nat} {T : Option Addr} {w : World} {bs : List Int} (h : VS w N m T c bs) (hb : bs.length ≤ 800000) : Calls Tryd.prog 69 #[Wp m, .int .i64 12] w fun e w' => e = .returned (.bool true) ∧ ∃ T' c', VT N m T bs.length c w T' c' (bs ++ [27, 91, 75]) w' := by
  have HC := Lib.hid (EraseEndOfLine_calls h hb)
  clear h
  go_enter Tryd.func69, Tryd.ntmps69
  go_wp2_with fail
  refine HC.out.mono ?_
  rintro e w2 ⟨rfl, T', c', hT⟩
  have HT := Lib.hid hT
  clear hT
  go_wp2_with fail
  go_ret
  exact ⟨rfl, T', c', HT.out⟩
set_option maxHeartbeats 4000000 in
theorem wrote_EraseEndOfLine {N m c : Nat} {T : Option Addr} {w : World} {bs : List Int} (h : VS w N m T c bs) (n1 n2 : Int) (s : ByteArray) (hb : bs.length ≤ 800000) : Calls Tryd.prog 43 #[Wp m, .agg #[.int .i64 12, .int .i64 n1, .int .i64 n2, .string s]] w fun e w' => e = .returned (.bool true) ∧ ∃ T' c', VT N m T bs.length c w T' c' (bs ++ [27, 91, 75]) w' := by
  have hN := h.ge
  have hlt := h.blk.lt
  have b1 := Below.alloc (Below.refl w.heap.size w) (Nat.le_refl _) (.cells #[.int .i64 12, .int .i64 n1, .int .i64 n2, .string s] 38)
  have nb := Rec.new w [.int .i64 12, .int .i64 n1, .int .i64 n2, .string s] 38
  have k0 := nb.cell 0 rfl
  have HC := Lib.hid (erased_EraseEndOfLine (h.stays b1) hb)
  have HR := Lib.hid ((VT.refl h).stays b1 (by omega))
  clear h nb b1
  go_enter Tryd.func43, Tryd.ntmps43
  go_wp2_with fail
  refine HC.out.mono ?_
  rintro e w2 ⟨rfl, T', c', hT⟩
  have HT := Lib.hid (HR.out.trans hT)
  clear hT
  go_wp2_with fail
  go_ret
  exact ⟨rfl, T', c', HT.out⟩
set_option maxHeartbeats 4000000 in
theorem erased_EraseLine {N m c : Nat} {T : Option Addr} {w : World} {bs : List Int} (h : VS w N m T c bs) (hb : bs.length ≤ 800000) : Calls Tryd.prog 69 #[Wp m, .int .i64 13] w fun e w' => e = .returned (.bool true) ∧ ∃ T' c', VT N m T bs.length c w T' c' (bs ++ [27, 91, 50, 75]) w' := by
  have HC := Lib.hid (EraseLine_calls h hb)
  clear h
  go_enter Tryd.func69, Tryd.ntmps69
  go_wp2_with fail
  refine HC.out.mono ?_
  rintro e w2 ⟨rfl, T', c', hT⟩
  have HT := Lib.hid hT
  clear hT
  go_wp2_with fail
  go_ret
  exact ⟨rfl, T', c', HT.out⟩
set_option maxHeartbeats 4000000 in
theorem wrote_EraseLine {N m c : Nat} {T : Option Addr} {w : World} {bs : List Int} (h : VS w N m T c bs) (n1 n2 : Int) (s : ByteArray) (hb : bs.length ≤ 800000) : Calls Tryd.prog 43 #[Wp m, .agg #[.int .i64 13, .int .i64 n1, .int .i64 n2, .string s]] w fun e w' => e = .returned (.bool true) ∧ ∃ T' c', VT N m T bs.length c w T' c' (bs ++ [27, 91, 50, 75]) w' := by
  have hN := h.ge
  have hlt := h.blk.lt
  have b1 := Below.alloc (Below.refl w.heap.size w) (Nat.le_refl _) (.cells #[.int .i64 13, .int .i64 n1, .int .i64 n2, .string s] 38)
  have nb := Rec.new w [.int .i64 13, .int .i64 n1, .int .i64 n2, .string s] 38
  have k0 := nb.cell 0 rfl
  have HC := Lib.hid (erased_EraseLine (h.stays b1) hb)
  have HR := Lib.hid ((VT.refl h).stays b1 (by omega))
  clear h nb b1
  go_enter Tryd.func43, Tryd.ntmps43
  go_wp2_with fail
  refine HC.out.mono ?_
  rintro e w2 ⟨rfl, T', c', hT⟩
  have HT := Lib.hid (HR.out.trans hT)
  clear hT
  go_wp2_with fail
  go_ret
  exact ⟨rfl, T', c', HT.out⟩
set_option maxHeartbeats 4000000 in
theorem erased_ShowCursor {N m c : Nat} {T : Option Addr} {w : World} {bs : List Int} (h : VS w N m T c bs) (hb : bs.length ≤ 800000) : Calls Tryd.prog 69 #[Wp m, .int .i64 14] w fun e w' => e = .returned (.bool true) ∧ ∃ T' c', VT N m T bs.length c w T' c' (bs ++ [27, 91, 63, 49, 50, 108, 27, 91, 63, 50, 53, 104]) w' := by
  have HC := Lib.hid (ShowCursor_calls h hb)
  clear h
  go_enter Tryd.func69, Tryd.ntmps69
  go_wp2_with fail
  refine HC.out.mono ?_
  rintro e w2 ⟨rfl, T', c', hT⟩
  have HT := Lib.hid hT
  clear hT
  go_wp2_with fail
  go_ret
  exact ⟨rfl, T', c', HT.out⟩
set_option maxHeartbeats 4000000 in
theorem wrote_ShowCursor {N m c : Nat} {T : Option Addr} {w : World} {bs : List Int} (h : VS w N m T c bs) (n1 n2 : Int) (s : ByteArray) (hb : bs.length ≤ 800000) : Calls Tryd.prog 43 #[Wp m, .agg #[.int .i64 14, .int .i64 n1, .int .i64 n2, .string s]] w fun e w' => e = .returned (.bool true) ∧ ∃ T' c', VT N m T bs.length c w T' c' (bs ++ [27, 91, 63, 49, 50, 108, 27, 91, 63, 50, 53, 104]) w' := by
  have hN := h.ge
  have hlt := h.blk.lt
  have b1 := Below.alloc (Below.refl w.heap.size w) (Nat.le_refl _) (.cells #[.int .i64 14, .int .i64 n1, .int .i64 n2, .string s] 38)
  have nb := Rec.new w [.int .i64 14, .int .i64 n1, .int .i64 n2, .string s] 38
  have k0 := nb.cell 0 rfl
  have HC := Lib.hid (erased_ShowCursor (h.stays b1) hb)
  have HR := Lib.hid ((VT.refl h).stays b1 (by omega))
  clear h nb b1
  go_enter Tryd.func43, Tryd.ntmps43
  go_wp2_with fail
  refine HC.out.mono ?_
  rintro e w2 ⟨rfl, T', c', hT⟩
  have HT := Lib.hid (HR.out.trans hT)
  clear hT
  go_wp2_with fail
  go_ret
  exact ⟨rfl, T', c', HT.out⟩
set_option maxHeartbeats 4000000 in
theorem erased_HideCursor {N m c : Nat} {T : Option Addr} {w : World} {bs : List Int} (h : VS w N m T c bs) (hb : bs.length ≤ 800000) : Calls Tryd.prog 69 #[Wp m, .int .i64 15] w fun e w' => e = .returned (.bool true) ∧ ∃ T' c', VT N m T bs.length c w T' c' (bs ++ [27, 91, 63, 50, 53, 108]) w' := by
  have HC := Lib.hid (HideCursor_calls h hb)
  clear h
  go_enter Tryd.func69, Tryd.ntmps69
  go_wp2_with fail
  refine HC.out.mono ?_
  rintro e w2 ⟨rfl, T', c', hT⟩
  have HT := Lib.hid hT
  clear hT
  go_wp2_with fail
  go_ret
  exact ⟨rfl, T', c', HT.out⟩
set_option maxHeartbeats 4000000 in
theorem wrote_HideCursor {N m c : Nat} {T : Option Addr} {w : World} {bs : List Int} (h : VS w N m T c bs) (n1 n2 : Int) (s : ByteArray) (hb : bs.length ≤ 800000) : Calls Tryd.prog 43 #[Wp m, .agg #[.int .i64 15, .int .i64 n1, .int .i64 n2, .string s]] w fun e w' => e = .returned (.bool true) ∧ ∃ T' c', VT N m T bs.length c w T' c' (bs ++ [27, 91, 63, 50, 53, 108]) w' := by
  have hN := h.ge
  have hlt := h.blk.lt
  have b1 := Below.alloc (Below.refl w.heap.size w) (Nat.le_refl _) (.cells #[.int .i64 15, .int .i64 n1, .int .i64 n2, .string s] 38)
  have nb := Rec.new w [.int .i64 15, .int .i64 n1, .int .i64 n2, .string s] 38
  have k0 := nb.cell 0 rfl
  have HC := Lib.hid (erased_HideCursor (h.stays b1) hb)
  have HR := Lib.hid ((VT.refl h).stays b1 (by omega))
  clear h nb b1
  go_enter Tryd.func43, Tryd.ntmps43
  go_wp2_with fail
  refine HC.out.mono ?_
  rintro e w2 ⟨rfl, T', c', hT⟩
  have HT := Lib.hid (HR.out.trans hT)
  clear hT
  go_wp2_with fail
  go_ret
  exact ⟨rfl, T', c', HT.out⟩
set_option maxHeartbeats 4000000 in
theorem erased_AskForCPR {N m c : Nat} {T : Option Addr} {w : World} {bs : List Int} (h : VS w N m T c bs) (hb : bs.length ≤ 800000) : Calls Tryd.prog 69 #[Wp m, .int .i64 16] w fun e w' => e = .returned (.bool true) ∧ ∃ T' c', VT N m T bs.length c w T' c' (bs ++ [27, 91, 54, 110]) w' := by
  have HC := Lib.hid (AskForCPR_calls h hb)
  clear h
  go_enter Tryd.func69, Tryd.ntmps69
  go_wp2_with fail
  refine HC.out.mono ?_
  rintro e w2 ⟨rfl, T', c', hT⟩
  have HT := Lib.hid hT
  clear hT
  go_wp2_with fail
  go_ret
  exact ⟨rfl, T', c', HT.out⟩
set_option maxHeartbeats 4000000 in
theorem wrote_AskForCPR {N m c : Nat} {T : Option Addr} {w : World} {bs : List Int} (h : VS w N m T c bs) (n1 n2 : Int) (s : ByteArray) (hb : bs.length ≤ 800000) : Calls Tryd.prog 43 #[Wp m, .agg #[.int .i64 16, .int .i64 n1, .int .i64 n2, .string s]] w fun e w' => e = .returned (.bool true) ∧ ∃ T' c', VT N m T bs.length c w T' c' (bs ++ [27, 91, 54, 110]) w' := by
  have hN := h.ge
  have hlt := h.blk.lt
  have b1 := Below.alloc (Below.refl w.heap.size w) (Nat.le_refl _) (.cells #[.int .i64 16, .int .i64 n1, .int .i64 n2, .string s] 38)
  have nb := Rec.new w [.int .i64 16, .int .i64 n1, .int .i64 n2, .string s] 38
  have k0 := nb.cell 0 rfl
  have HC := Lib.hid (erased_AskForCPR (h.stays b1) hb)
  have HR := Lib.hid ((VT.refl h).stays b1 (by omega))
  clear h nb b1
  go_enter Tryd.func43, Tryd.ntmps43
  go_wp2_with fail
  refine HC.out.mono ?_
  rintro e w2 ⟨rfl, T', c', hT⟩
  have HT := Lib.hid (HR.out.trans hT)
  clear hT
  go_wp2_with fail
  go_ret
  exact ⟨rfl, T', c', HT.out⟩
set_option maxHeartbeats 4000000 in
theorem erased_SaveCursor {N m c : Nat} {T : Option Addr} {w : World} {bs : List Int} (h : VS w N m T c bs) (hb : bs.length ≤ 800000) : Calls Tryd.prog 69 #[Wp m, .int .i64 17] w fun e w' => e = .returned (.bool true) ∧ ∃ T' c', VT N m T bs.length c w T' c' (bs ++ [27, 91, 115]) w' := by
  have HC := Lib.hid (SaveCursor_calls h hb)
  clear h
  go_enter Tryd.func69, Tryd.ntmps69
  go_wp2_with fail
  refine HC.out.mono ?_
  rintro e w2 ⟨rfl, T', c', hT⟩
  have HT := Lib.hid hT
  clear hT
  go_wp2_with fail
  go_ret
  exact ⟨rfl, T', c', HT.out⟩
set_option maxHeartbeats 4000000 in
theorem wrote_SaveCursor {N m c : Nat} {T : Option Addr} {w : World} {bs : List Int} (h : VS w N m T c bs) (n1 n2 : Int) (s : ByteArray) (hb : bs.length ≤ 800000) : Calls Tryd.prog 43 #[Wp m, .agg #[.int .i64 17, .int .i64 n1, .int .i64 n2, .string s]] w fun e w' => e = .returned (.bool true) ∧ ∃ T' c', VT N m T bs.length c w T' c' (bs ++ [27, 91, 115]) w' := by
  have hN := h.ge
  have hlt := h.blk.lt
  have b1 := Below.alloc (Below.refl w.heap.size w) (Nat.le_refl _) (.cells #[.int .i64 17, .int .i64 n1, .int .i64 n2, .string s] 38)
  have nb := Rec.new w [.int .i64 17, .int .i64 n1, .int .i64 n2, .string s] 38
  have k0 := nb.cell 0 rfl
  have HC := Lib.hid (erased_SaveCursor (h.stays b1) hb)
  have HR := Lib.hid ((VT.refl h).stays b1 (by omega))
  clear h nb b1
  go_enter Tryd.func43, Tryd.ntmps43
  go_wp2_with fail
  refine HC.out.mono ?_
  rintro e w2 ⟨rfl, T', c', hT⟩
  have HT := Lib.hid (HR.out.trans hT)
  clear hT
  go_wp2_with fail
  go_ret
  exact ⟨rfl, T', c', HT.out⟩
set_option maxHeartbeats 4000000 in
theorem erased_UnSaveCursor {N m c : Nat} {T : Option Addr} {w : World} {bs : List Int} (h : VS w N m T c bs) (hb : bs.length ≤ 800000) : Calls Tryd.prog 69 #[Wp m, .int .i64 18] w fun e w' => e = .returned (.bool true) ∧ ∃ T' c', VT N m T bs.length c w T' c' (bs ++ [27, 91, 117]) w' := by
  have HC := Lib.hid (UnSaveCursor_calls h hb)
  clear h
  go_enter Tryd.func69, Tryd.ntmps69
  go_wp2_with fail
  refine HC.out.mono ?_
  rintro e w2 ⟨rfl, T', c', hT⟩
  have HT := Lib.hid hT
  clear hT
  go_wp2_with fail
  go_ret
  exact ⟨rfl, T', c', HT.out⟩
set_option maxHeartbeats 4000000 in
theorem wrote_UnSaveCursor {N m c : Nat} {T : Option Addr} {w : World} {bs : List Int} (h : VS w N m T c bs) (n1 n2 : Int) (s : ByteArray) (hb : bs.length ≤ 800000) : Calls Tryd.prog 43 #[Wp m, .agg #[.int .i64 18, .int .i64 n1, .int .i64 n2, .string s]] w fun e w' => e = .returned (.bool true) ∧ ∃ T' c', VT N m T bs.length c w T' c' (bs ++ [27, 91, 117]) w' := by
  have hN := h.ge
  have hlt := h.blk.lt
  have b1 := Below.alloc (Below.refl w.heap.size w) (Nat.le_refl _) (.cells #[.int .i64 18, .int .i64 n1, .int .i64 n2, .string s] 38)
  have nb := Rec.new w [.int .i64 18, .int .i64 n1, .int .i64 n2, .string s] 38
  have k0 := nb.cell 0 rfl
  have HC := Lib.hid (erased_UnSaveCursor (h.stays b1) hb)
  have HR := Lib.hid ((VT.refl h).stays b1 (by omega))
  clear h nb b1
  go_enter Tryd.func43, Tryd.ntmps43
  go_wp2_with fail
  refine HC.out.mono ?_
  rintro e w2 ⟨rfl, T', c', hT⟩
  have HT := Lib.hid (HR.out.trans hT)
  clear hT
  go_wp2_with fail
  go_ret
  exact ⟨rfl, T', c', HT.out⟩
set_option maxHeartbeats 4000000 in
theorem erased_ScrollDown {N m c : Nat} {T : Option Addr} {w : World} {bs : List Int} (h : VS w N m T c bs) (hb : bs.length ≤ 800000) : Calls Tryd.prog 69 #[Wp m, .int .i64 19] w fun e w' => e = .returned (.bool true) ∧ ∃ T' c', VT N m T bs.length c w T' c' (bs ++ [27, 68]) w' := by
  have HC := Lib.hid (ScrollDown_calls h hb)
  clear h
  go_enter Tryd.func69, Tryd.ntmps69
  go_wp2_with fail
  refine HC.out.mono ?_
  rintro e w2 ⟨rfl, T', c', hT⟩
  have HT := Lib.hid hT
  clear hT
  go_wp2_with fail
  go_ret
  exact ⟨rfl, T', c', HT.out⟩
set_option maxHeartbeats 4000000 in
theorem wrote_ScrollDown {N m c : Nat} {T : Option Addr} {w : World} {bs : List Int} (h : VS w N m T c bs) (n1 n2 : Int) (s : ByteArray) (hb : bs.length ≤ 800000) : Calls Tryd.prog 43 #[Wp m, .agg #[.int .i64 19, .int .i64 n1, .int .i64 n2, .string s]] w fun e w' => e = .returned (.bool true) ∧ ∃ T' c', VT N m T bs.length c w T' c' (bs ++ [27, 68]) w' := by
  have hN := h.ge
  have hlt := h.blk.lt
  have b1 := Below.alloc (Below.refl w.heap.size w) (Nat.le_refl _) (.cells #[.int .i64 19, .int .i64 n1, .int .i64 n2, .string s] 38)
  have nb := Rec.new w [.int .i64 19, .int .i64 n1, .int .i64 n2, .string s] 38
  have k0 := nb.cell 0 rfl
  have HC := Lib.hid (erased_ScrollDown (h.stays b1) hb)
  have HR := Lib.hid ((VT.refl h).stays b1 (by omega))
  clear h nb b1
  go_enter Tryd.func43, Tryd.ntmps43
  go_wp2_with fail
  refine HC.out.mono ?_
  rintro e w2 ⟨rfl, T', c', hT⟩
  have HT := Lib.hid (HR.out.trans hT)
  clear hT
  go_wp2_with fail
  go_ret
  exact ⟨rfl, T', c', HT.out⟩
set_option maxHeartbeats 4000000 in
theorem erased_ScrollUp {N m c : Nat} {T : Option Addr} {w : World} {bs : List Int} (h : VS w N m T c bs) (hb : bs.length ≤ 800000) : Calls Tryd.prog 69 #[Wp m, .int .i64 20] w fun e w' => e = .returned (.bool true) ∧ ∃ T' c', VT N m T bs.length c w T' c' (bs ++ [27, 77]) w' := by
  have HC := Lib.hid (ScrollUp_calls h hb)
  clear h
  go_enter Tryd.func69, Tryd.ntmps69
  go_wp2_with fail
  refine HC.out.mono ?_
  rintro e w2 ⟨rfl, T', c', hT⟩
  have HT := Lib.hid hT
  clear hT
  go_wp2_with fail
  go_ret
  exact ⟨rfl, T', c', HT.out⟩
set_option maxHeartbeats 4000000 in
theorem wrote_ScrollUp {N m c : Nat} {T : Option Addr} {w : World} {bs : List Int} (h : VS w N m T c bs) (n1 n2 : Int) (s : ByteArray) (hb : bs.length ≤ 800000) : Calls Tryd.prog 43 #[Wp m, .agg #[.int .i64 20, .int .i64 n1, .int .i64 n2, .string s]] w fun e w' => e = .returned (.bool true) ∧ ∃ T' c', VT N m T bs.length c w T' c' (bs ++ [27, 77]) w' := by
  have hN := h.ge
  have hlt := h.blk.lt
  have b1 := Below.alloc (Below.refl w.heap.size w) (Nat.le_refl _) (.cells #[.int .i64 20, .int .i64 n1, .int .i64 n2, .string s] 38)
  have nb := Rec.new w [.int .i64 20, .int .i64 n1, .int .i64 n2, .string s] 38
  have k0 := nb.cell 0 rfl
  have HC := Lib.hid (erased_ScrollUp (h.stays b1) hb)
  have HR := Lib.hid ((VT.refl h).stays b1 (by omega))
  clear h nb b1
  go_enter Tryd.func43, Tryd.ntmps43
  go_wp2_with fail
  refine HC.out.mono ?_
  rintro e w2 ⟨rfl, T', c', hT⟩
  have HT := Lib.hid (HR.out.trans hT)
  clear hT
  go_wp2_with fail
  go_ret
  exact ⟨rfl, T', c', HT.out⟩
set_option maxHeartbeats 4000000 in
theorem wrote_ClearTitle {N m c : Nat} {T : Option Addr} {w : World} {bs : List Int} (h : VS w N m T c bs) (n1 n2 : Int) (s : ByteArray) (hb : bs.length ≤ 800000) : Calls Tryd.prog 43 #[Wp m, .agg #[.int .i64 22, .int .i64 n1, .int .i64 n2, .string s]] w fun e w' => e = .returned (.bool true) ∧ ∃ T' c', VT N m T bs.length c w T' c' (bs ++ [27, 93, 50, 59, 7]) w' := by
  have hN := h.ge
  have hlt := h.blk.lt
  have b1 := Below.alloc (Below.refl w.heap.size w) (Nat.le_refl _) (.cells #[.int .i64 22, .int .i64 n1, .int .i64 n2, .string s] 38)
  have nb := Rec.new w [.int .i64 22, .int .i64 n1, .int .i64 n2, .string s] 38
  have k0 := nb.cell 0 rfl
  have HC := Lib.hid (ClearTitle_calls (h.stays b1) hb)
  have HR := Lib.hid ((VT.refl h).stays b1 (by omega))
  clear h nb b1
  go_enter Tryd.func43, Tryd.ntmps43
  go_wp2_with fail
  refine HC.out.mono ?_
  rintro e w2 ⟨rfl, T', c', hT⟩
  have HT := Lib.hid (HR.out.trans hT)
  clear hT
  go_wp2_with fail
  go_ret
  exact ⟨rfl, T', c', HT.out⟩
end Go.Proofs.YtanadaamipfmkaaDoor.H
