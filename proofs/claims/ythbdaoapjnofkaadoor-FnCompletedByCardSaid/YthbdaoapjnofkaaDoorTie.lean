/-
  DERIVED. GIVEN WITH THE SEED: THE PROGRAM's TIES (one call each: nine closed facts by the kernel) AND EACH ROW's TIE, after the 31st guide's Derived/Test/Toyas{Tie, Card}.lean. No idea stands in it: it is a product of the set-up. Laid BY PROGRAM, IN A SANDBOX (cutbox-door.mjs). By AI agents, Wed Nov 11 2026. No macro, syntax, notation, axiom, sorry.
-/
import Derived.Test.YthbdaoapjnofkaaDoorRows
import Derived.LaidByTextLater
import Derived.SevenTiedAt
import Derived.LaidSub
import Derived.LaidOnce
namespace Go.Proofs.YthbdaoapjnofkaaDoor
open Go
set_option maxRecDepth 100000
theorem seatTie1 : Tryd.prog.laidByTextLater [("math/bits.deBruijn32tab", Rows.laid_math_bits_deBruijn32tab), ("math/bits.deBruijn64tab", Rows.laid_math_bits_deBruijn64tab), ("internal/strconv.uint64pow10", Rows.laid_internal_strconv_uint64pow10), ("unicode/utf8.acceptRanges", Rows.laid_unicode_utf8_acceptRanges), ("unicode.White_Space", Rows.laid_unicode_White_Space), ("bytes.ErrTooLarge", Rows.laid_bytes_ErrTooLarge), ("given.example/pub-typebar/pub/goprompt._Key_index", Rows.laid_given_example_pub_typebar_pub_goprompt_Key_index), ("given.example/pub-typebar/pub/readline.runes", Rows.laid_given_example_pub_typebar_pub_readline_runes)] [.data, .data, .data, .data, .listed, .sentinel, .data, .wider] true :=
  Program.laidByTextLater_by_one 82 8 89 (by kernel_rfl) (by kernel_rfl) (by kernel_rfl) (by kernel_rfl) (by kernel_rfl) (by kernel_rfl) (fun _ _ => by kernel_rfl)
theorem pin_laid_unicode_CaseRanges : Tryd.pinned.checked.prog.pinnedFits "unicode.CaseRanges" = true := by kernel_rfl
theorem pin_laid_unicode_utf8_first : Tryd.pinned.checked.prog.pinnedFits "unicode/utf8.first" = true := by kernel_rfl
theorem noOwnUnsafe : Tryd.pinned.checked.prog.headLifts.contains "ownunsafe" = false := by kernel_rfl
theorem tie : Tryd.prog.laidByTextLater [("given.example/pub-typebar/pub/readline.runes", Rows.laid_given_example_pub_typebar_pub_readline_runes)] [.wider] true :=
  Program.laidByTextLater.sub seatTie1 ["given.example/pub-typebar/pub/readline.runes"] (by kernel_rfl) (by kernel_rfl)
theorem fnAggregatedAll_row_tie : Rows.fnAggregatedAllRow.laidByTextAt .later Tryd.pinned [.wider] true :=
  OpenClaim.laidByTextAt_later rfl rfl tie noOwnUnsafe
theorem tie2 : Tryd.prog.laidByTextLater [("bytes.ErrTooLarge", Rows.laid_bytes_ErrTooLarge)] [.sentinel] true :=
  Program.laidByTextLater.sub seatTie1 ["bytes.ErrTooLarge"] (by kernel_rfl) (by kernel_rfl)
theorem fnBufferWidth_row_tie : Rows.fnBufferWidthRow.laidByTextAt .later Tryd.pinned [.sentinel] true :=
  OpenClaim.laidByTextAt_later rfl rfl tie2 noOwnUnsafe
theorem fnDedented_row_tie : Rows.fnDedentedRow.laidByTextAt .later Tryd.pinned [.sentinel] true :=
  OpenClaim.laidByTextAt_later rfl rfl tie2 noOwnUnsafe
theorem tie3 : Tryd.prog.laidByTextLater [("bytes.ErrTooLarge", Rows.laid_bytes_ErrTooLarge), ("given.example/pub-typebar/pub/readline.runes", Rows.laid_given_example_pub_typebar_pub_readline_runes)] [.sentinel, .wider] true :=
  Program.laidByTextLater.sub seatTie1 ["bytes.ErrTooLarge", "given.example/pub-typebar/pub/readline.runes"] (by kernel_rfl) (by kernel_rfl)
theorem fnSplitRows_row_tie : Rows.fnSplitRowsRow.laidByTextAt .later Tryd.pinned [.sentinel, .wider] true :=
  OpenClaim.laidByTextAt_later rfl rfl tie3 noOwnUnsafe
theorem tie4 : Tryd.prog.laidByTextLater [("unicode.White_Space", Rows.laid_unicode_White_Space), ("given.example/pub-typebar/pub/readline.runes", Rows.laid_given_example_pub_typebar_pub_readline_runes)] [.listed, .wider] true :=
  Program.laidByTextLater.sub seatTie1 ["unicode.White_Space", "given.example/pub-typebar/pub/readline.runes"] (by kernel_rfl) (by kernel_rfl)
theorem fnCompletedBy_row_tie : Rows.fnCompletedByRow.laidByTextAt .later Tryd.pinned [.listed, .wider] true :=
  OpenClaim.laidByTextAt_later rfl rfl tie4 noOwnUnsafe
theorem fnCompletedCursor_row_tie : Rows.fnCompletedCursorRow.laidByTextAt .later Tryd.pinned [.listed, .wider] true :=
  OpenClaim.laidByTextAt_later rfl rfl tie4 noOwnUnsafe
theorem tie5 : Tryd.prog.laidByTextLater [("math/bits.deBruijn32tab", Rows.laid_math_bits_deBruijn32tab), ("math/bits.deBruijn64tab", Rows.laid_math_bits_deBruijn64tab), ("internal/strconv.uint64pow10", Rows.laid_internal_strconv_uint64pow10), ("given.example/pub-typebar/pub/goprompt._Key_index", Rows.laid_given_example_pub_typebar_pub_goprompt_Key_index)] [.data, .data, .data, .data] true :=
  Program.laidByTextLater.sub seatTie1 ["math/bits.deBruijn32tab", "math/bits.deBruijn64tab", "internal/strconv.uint64pow10", "given.example/pub-typebar/pub/goprompt._Key_index"] (by kernel_rfl) (by kernel_rfl)
theorem fnKeyControls_row_tie : Rows.fnKeyControlsRow.laidByTextAt .later Tryd.pinned [.data, .data, .data, .data] true :=
  OpenClaim.laidByTextAt_later rfl rfl tie5 noOwnUnsafe
theorem fits6 : Tryd.pinned.checked.prog.listedFits [("unicode/utf8.acceptRanges", Rows.laid_unicode_utf8_acceptRanges), ("unicode.CaseRanges", Rows.laid_unicode_CaseRanges), ("unicode/utf8.first", Rows.laid_unicode_utf8_first)] = true := by
  unfold Program.listedFits
  rw [noOwnUnsafe]
  kernel_rfl
theorem tie6 : Tryd.prog.laidByTextLater [("unicode/utf8.acceptRanges", Rows.laid_unicode_utf8_acceptRanges)] [.data] true :=
  Program.laidByTextLater.sub seatTie1 ["unicode/utf8.acceptRanges"] (by kernel_rfl) (by kernel_rfl)
theorem fnFiltered_row_tie : Rows.fnFilteredRow.laidByTextAt .later Tryd.pinned [.data, .pinned, .pinned] true :=
  OpenClaim.laidByTextAt_pinned rfl rfl tie6 rfl rfl rfl rfl (fun y hy _e => by
    simp only [Rows.fnFilteredRow, List.zip_cons_cons, List.zip_nil_right, List.mem_cons, List.mem_nil_iff, or_false] at hy
    rcases hy with rfl | rfl | rfl
    · cases _e
    · exact ⟨pin_laid_unicode_CaseRanges, by kernel_rfl⟩
    · exact ⟨pin_laid_unicode_utf8_first, by kernel_rfl⟩) fits6
theorem fnAggregatedAllUpto_row_tie : Rows.fnAggregatedAllUptoRow.laidByTextAt .later Tryd.pinned [.wider] true :=
  OpenClaim.laidByTextAt_later rfl rfl tie noOwnUnsafe
theorem fnBufferWidthUpto_row_tie : Rows.fnBufferWidthUptoRow.laidByTextAt .later Tryd.pinned [.sentinel] true :=
  OpenClaim.laidByTextAt_later rfl rfl tie2 noOwnUnsafe
theorem fnSplitRowsUpto_row_tie : Rows.fnSplitRowsUptoRow.laidByTextAt .later Tryd.pinned [.sentinel, .wider] true :=
  OpenClaim.laidByTextAt_later rfl rfl tie3 noOwnUnsafe
theorem fnDedentedUpto_row_tie : Rows.fnDedentedUptoRow.laidByTextAt .later Tryd.pinned [.sentinel] true :=
  OpenClaim.laidByTextAt_later rfl rfl tie2 noOwnUnsafe
theorem fnCompletedByUpto_row_tie : Rows.fnCompletedByUptoRow.laidByTextAt .later Tryd.pinned [.listed, .wider] true :=
  OpenClaim.laidByTextAt_later rfl rfl tie4 noOwnUnsafe
theorem fnCompletedCursorUpto_row_tie : Rows.fnCompletedCursorUptoRow.laidByTextAt .later Tryd.pinned [.listed, .wider] true :=
  OpenClaim.laidByTextAt_later rfl rfl tie4 noOwnUnsafe
theorem fnKeyControlsUpto_row_tie : Rows.fnKeyControlsUptoRow.laidByTextAt .later Tryd.pinned [.data, .data, .data, .data] true :=
  OpenClaim.laidByTextAt_later rfl rfl tie5 noOwnUnsafe
theorem fnFilteredUpto_row_tie : Rows.fnFilteredUptoRow.laidByTextAt .later Tryd.pinned [.data, .pinned, .pinned] true :=
  OpenClaim.laidByTextAt_pinned rfl rfl tie6 rfl rfl rfl rfl (fun y hy _e => by
    simp only [Rows.fnFilteredUptoRow, List.zip_cons_cons, List.zip_nil_right, List.mem_cons, List.mem_nil_iff, or_false] at hy
    rcases hy with rfl | rfl | rfl
    · cases _e
    · exact ⟨pin_laid_unicode_CaseRanges, by kernel_rfl⟩
    · exact ⟨pin_laid_unicode_utf8_first, by kernel_rfl⟩) fits6
end Go.Proofs.YthbdaoapjnofkaaDoor
