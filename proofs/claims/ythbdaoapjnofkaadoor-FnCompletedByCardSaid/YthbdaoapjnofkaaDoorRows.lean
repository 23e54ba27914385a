/-
  NARROWER THAN 'FOR EVERY INPUT', by the rows' own cells (each row's printed sentence says how): FnAggregatedAll: laid · FnBufferWidth: laid · FnSplitRows: laid · FnDedented: laid · FnCompletedBy: laid · FnCompletedCursor: laid · FnKeyControls: laid · FnFiltered: laid.
  DERIVED. THE GIVEN ROWS OF THIS SEAT. 8 by the template 'for every input the law returns true; each argument reads behind the call as it read before'; 0 by the template 'total and deterministic' (their statements: YthbdaoapjnofkaaDoorTotals.lean).
  GIVEN WITH THE SEED: the statements are not yours to turn. If you find one false, say at which input.
  Laid BY PROGRAM, IN A SANDBOX (cutbox-rows.mjs): the forced cells as the released guide's own fill.sh prints them over the translation 49f8631b04bd3666… (all of the seat's roots in one cut). By AI agents, Wed Nov 11 2026. No macro, syntax, notation, axiom, sorry.
-/
import Derived.Test.YthbdaoapjnofkaaDoorChecked
import GoSem.PinnedTables
import GoSem.Claim
import GoSem.ClaimJoined
import GoSem.ClaimMapViews
import Derived.JoinedTies
import Derived.KernelRfl
namespace Go.Proofs.YthbdaoapjnofkaaDoor
/- THE CELL 'sum', in the pinned program and in every row, IS THE sha256 OF THE DUMP (.gsa) THAT YthbdaoapjnofkaaDoorProg.lean LOADS. Nothing in Lean hashes anything: it is a label: what it is worth is what the hold of that sum in a sandbox is worth. -/
noncomputable def Tryd.pinned : Pinned := { name := "ythbdaoapjnofkaadoor", sum := "49f8631b04bd3666670218b150d80c1eda942ff3a521347b45efa472f832b01f", checked := Tryd.checked }
namespace Rows
def none {H : Type} : Left H := { results := [], args := [] }

/- WHAT THE LISTED PACKAGE-LEVEL VARIABLES READ AS WHEN THE CALL BEGINS. Each datum BY PROGRAM (the guide's laid-datum.mjs) off the statement by which the dump's own 'gosem.cut.vars' lays the variable. In a bare row this is a premise. The card (YthbdaoapjnofkaaDoorCards.lean) ties it to the program's text. -/
def laid_given_example_pub_typebar_pub_readline_runes {H : Type} : DataW H := .agg []
def laid_bytes_ErrTooLarge {H : Type} : DataW H := .iface "*errors.errorString" (.ptr (.agg [.lit (.string [98, 121, 116, 101, 115, 46, 66, 117, 102, 102, 101, 114, 58, 32, 116, 111, 111, 32, 108, 97, 114, 103, 101])]))
def laid_unicode_White_Space {H : Type} : DataW H := .ptr (.agg [.slice [.agg [.lit (.int .u16 9), .lit (.int .u16 13), .lit (.int .u16 1)], .agg [.lit (.int .u16 32), .lit (.int .u16 133), .lit (.int .u16 101)], .agg [.lit (.int .u16 160), .lit (.int .u16 5760), .lit (.int .u16 5600)], .agg [.lit (.int .u16 8192), .lit (.int .u16 8202), .lit (.int .u16 1)], .agg [.lit (.int .u16 8232), .lit (.int .u16 8233), .lit (.int .u16 1)], .agg [.lit (.int .u16 8239), .lit (.int .u16 8287), .lit (.int .u16 48)], .agg [.lit (.int .u16 12288), .lit (.int .u16 12288), .lit (.int .u16 1)]] [], .nil, .lit (.int .i64 2)])
def laid_math_bits_deBruijn32tab {H : Type} : DataW H := .agg [.lit (.int .u8 0), .lit (.int .u8 1), .lit (.int .u8 28), .lit (.int .u8 2), .lit (.int .u8 29), .lit (.int .u8 14), .lit (.int .u8 24), .lit (.int .u8 3), .lit (.int .u8 30), .lit (.int .u8 22), .lit (.int .u8 20), .lit (.int .u8 15), .lit (.int .u8 25), .lit (.int .u8 17), .lit (.int .u8 4), .lit (.int .u8 8), .lit (.int .u8 31), .lit (.int .u8 27), .lit (.int .u8 13), .lit (.int .u8 23), .lit (.int .u8 21), .lit (.int .u8 19), .lit (.int .u8 16), .lit (.int .u8 7), .lit (.int .u8 26), .lit (.int .u8 12), .lit (.int .u8 18), .lit (.int .u8 6), .lit (.int .u8 11), .lit (.int .u8 5), .lit (.int .u8 10), .lit (.int .u8 9)]
def laid_math_bits_deBruijn64tab {H : Type} : DataW H := .agg [.lit (.int .u8 0), .lit (.int .u8 1), .lit (.int .u8 56), .lit (.int .u8 2), .lit (.int .u8 57), .lit (.int .u8 49), .lit (.int .u8 28), .lit (.int .u8 3), .lit (.int .u8 61), .lit (.int .u8 58), .lit (.int .u8 42), .lit (.int .u8 50), .lit (.int .u8 38), .lit (.int .u8 29), .lit (.int .u8 17), .lit (.int .u8 4), .lit (.int .u8 62), .lit (.int .u8 47), .lit (.int .u8 59), .lit (.int .u8 36), .lit (.int .u8 45), .lit (.int .u8 43), .lit (.int .u8 51), .lit (.int .u8 22), .lit (.int .u8 53), .lit (.int .u8 39), .lit (.int .u8 33), .lit (.int .u8 30), .lit (.int .u8 24), .lit (.int .u8 18), .lit (.int .u8 12), .lit (.int .u8 5), .lit (.int .u8 63), .lit (.int .u8 55), .lit (.int .u8 48), .lit (.int .u8 27), .lit (.int .u8 60), .lit (.int .u8 41), .lit (.int .u8 37), .lit (.int .u8 16), .lit (.int .u8 46), .lit (.int .u8 35), .lit (.int .u8 44), .lit (.int .u8 21), .lit (.int .u8 52), .lit (.int .u8 32), .lit (.int .u8 23), .lit (.int .u8 11), .lit (.int .u8 54), .lit (.int .u8 26), .lit (.int .u8 40), .lit (.int .u8 15), .lit (.int .u8 34), .lit (.int .u8 20), .lit (.int .u8 31), .lit (.int .u8 10), .lit (.int .u8 25), .lit (.int .u8 14), .lit (.int .u8 19), .lit (.int .u8 9), .lit (.int .u8 13), .lit (.int .u8 8), .lit (.int .u8 7), .lit (.int .u8 6)]
def laid_internal_strconv_uint64pow10 {H : Type} : DataW H := .agg [.lit (.int .u64 1), .lit (.int .u64 10), .lit (.int .u64 100), .lit (.int .u64 1000), .lit (.int .u64 10000), .lit (.int .u64 100000), .lit (.int .u64 1000000), .lit (.int .u64 10000000), .lit (.int .u64 100000000), .lit (.int .u64 1000000000), .lit (.int .u64 10000000000), .lit (.int .u64 100000000000), .lit (.int .u64 1000000000000), .lit (.int .u64 10000000000000), .lit (.int .u64 100000000000000), .lit (.int .u64 1000000000000000), .lit (.int .u64 10000000000000000), .lit (.int .u64 100000000000000000), .lit (.int .u64 1000000000000000000), .lit (.int .u64 10000000000000000000)]
def laid_given_example_pub_typebar_pub_goprompt_Key_index {H : Type} : DataW H := .agg [.lit (.int .u16 0), .lit (.int .u16 6), .lit (.int .u16 14), .lit (.int .u16 22), .lit (.int .u16 30), .lit (.int .u16 38), .lit (.int .u16 46), .lit (.int .u16 54), .lit (.int .u16 62), .lit (.int .u16 70), .lit (.int .u16 78), .lit (.int .u16 86), .lit (.int .u16 94), .lit (.int .u16 102), .lit (.int .u16 110), .lit (.int .u16 118), .lit (.int .u16 126), .lit (.int .u16 134), .lit (.int .u16 142), .lit (.int .u16 150), .lit (.int .u16 158), .lit (.int .u16 166), .lit (.int .u16 174), .lit (.int .u16 182), .lit (.int .u16 190), .lit (.int .u16 198), .lit (.int .u16 206), .lit (.int .u16 214), .lit (.int .u16 226), .lit (.int .u16 242), .lit (.int .u16 260), .lit (.int .u16 277), .lit (.int .u16 294), .lit (.int .u16 305), .lit (.int .u16 317), .lit (.int .u16 326), .lit (.int .u16 337), .lit (.int .u16 339), .lit (.int .u16 343), .lit (.int .u16 348), .lit (.int .u16 352), .lit (.int .u16 361), .lit (.int .u16 368), .lit (.int .u16 377), .lit (.int .u16 387), .lit (.int .u16 391), .lit (.int .u16 394), .lit (.int .u16 400), .lit (.int .u16 411), .lit (.int .u16 424), .lit (.int .u16 430), .lit (.int .u16 438), .lit (.int .u16 445), .lit (.int .u16 451), .lit (.int .u16 460), .lit (.int .u16 463), .lit (.int .u16 468), .lit (.int .u16 470), .lit (.int .u16 472), .lit (.int .u16 474), .lit (.int .u16 476), .lit (.int .u16 478), .lit (.int .u16 480), .lit (.int .u16 482), .lit (.int .u16 484), .lit (.int .u16 486), .lit (.int .u16 489), .lit (.int .u16 492), .lit (.int .u16 495), .lit (.int .u16 498), .lit (.int .u16 501), .lit (.int .u16 504), .lit (.int .u16 507), .lit (.int .u16 510), .lit (.int .u16 513), .lit (.int .u16 516), .lit (.int .u16 519), .lit (.int .u16 522), .lit (.int .u16 525), .lit (.int .u16 528), .lit (.int .u16 531), .lit (.int .u16 534), .lit (.int .u16 545), .lit (.int .u16 560), .lit (.int .u16 577), .lit (.int .u16 591), .lit (.int .u16 597), .lit (.int .u16 607)]
def laid_unicode_utf8_acceptRanges {H : Type} : DataW H := .agg [.agg [.lit (.int .u8 128), .lit (.int .u8 191)], .agg [.lit (.int .u8 160), .lit (.int .u8 191)], .agg [.lit (.int .u8 128), .lit (.int .u8 159)], .agg [.lit (.int .u8 144), .lit (.int .u8 191)], .agg [.lit (.int .u8 128), .lit (.int .u8 143)], .agg [.lit (.int .u8 0), .lit (.int .u8 0)], .agg [.lit (.int .u8 0), .lit (.int .u8 0)], .agg [.lit (.int .u8 0), .lit (.int .u8 0)], .agg [.lit (.int .u8 0), .lit (.int .u8 0)], .agg [.lit (.int .u8 0), .lit (.int .u8 0)], .agg [.lit (.int .u8 0), .lit (.int .u8 0)], .agg [.lit (.int .u8 0), .lit (.int .u8 0)], .agg [.lit (.int .u8 0), .lit (.int .u8 0)], .agg [.lit (.int .u8 0), .lit (.int .u8 0)], .agg [.lit (.int .u8 0), .lit (.int .u8 0)], .agg [.lit (.int .u8 0), .lit (.int .u8 0)]]
/-- One of Go's own tables, pinned by name: the form's constant. -/
def laid_unicode_CaseRanges : DataW Unit := Go.Pinned.caseRanges
/-- One of Go's own tables, pinned by name: the form's constant. -/
def laid_unicode_utf8_first : DataW Unit := Go.Pinned.utf8First

/-- 'laws.FnAggregatedAll': WHATEVER THE INPUT: true; the input reads as it did. -/
def fnAggregatedAllSpec : ChangeSpec := { name := "fnAggregatedAll", vars := ["given.example/pub-typebar/pub/readline.runes"], fn := fun _ => fun
  | [d, g1] => { results := [.lit (.bool true)], args := [d], vars := [g1] }
  | _ => none }
def fnAggregatedAllRow : OpenClaim := { program := "ythbdaoapjnofkaadoor", sum := "49f8631b04bd3666670218b150d80c1eda942ff3a521347b45efa472f832b01f", func := "given.example/pub-typebar/laws.FnAggregatedAll", spec := "fnAggregatedAll", named := ["given.example/pub-typebar/pub/readline.runes"], apart := false, laid := [("given.example/pub-typebar/pub/readline.runes", laid_given_example_pub_typebar_pub_readline_runes)] }
def FnAggregatedAllSaid : Prop := fnAggregatedAllRow.holds Tryd.pinned (OpenSpec.ofChange fnAggregatedAllSpec)

/-- ITS FALSE NEIGHBOUR: 'it returns false'. Refute it at one input. -/
def fnAggregatedAllWrong : ChangeSpec := { name := "fnAggregatedAll", vars := ["given.example/pub-typebar/pub/readline.runes"], fn := fun _ => fun
  | [d, g1] => { results := [.lit (.bool false)], args := [d], vars := [g1] }
  | _ => none }
def FnAggregatedAllWrongFalsely : Prop := fnAggregatedAllRow.holds Tryd.pinned (OpenSpec.ofChange fnAggregatedAllWrong)

/-- 'laws.FnBufferWidth': WHATEVER THE INPUT: true; the input reads as it did. -/
def fnBufferWidthSpec : ChangeSpec := { name := "fnBufferWidth", fn := fun _ => fun
  | [d] => { results := [.lit (.bool true)], args := [d] }
  | _ => none }
def fnBufferWidthRow : OpenClaim := { program := "ythbdaoapjnofkaadoor", sum := "49f8631b04bd3666670218b150d80c1eda942ff3a521347b45efa472f832b01f", func := "given.example/pub-typebar/laws.FnBufferWidth", spec := "fnBufferWidth", named := ["bytes.ErrTooLarge"], apart := false, laid := [("bytes.ErrTooLarge", laid_bytes_ErrTooLarge)] }
def FnBufferWidthSaid : Prop := fnBufferWidthRow.holds Tryd.pinned (OpenSpec.ofChange fnBufferWidthSpec)

/-- ITS FALSE NEIGHBOUR: 'it returns false'. Refute it at one input. -/
def fnBufferWidthWrong : ChangeSpec := { name := "fnBufferWidth", fn := fun _ => fun
  | [d] => { results := [.lit (.bool false)], args := [d] }
  | _ => none }
def FnBufferWidthWrongFalsely : Prop := fnBufferWidthRow.holds Tryd.pinned (OpenSpec.ofChange fnBufferWidthWrong)

/-- 'laws.FnSplitRows': WHATEVER THE INPUT: true; the input reads as it did. -/
def fnSplitRowsSpec : ChangeSpec := { name := "fnSplitRows", vars := ["given.example/pub-typebar/pub/readline.runes"], fn := fun _ => fun
  | [d1, d2, d3, g1] => { results := [.lit (.bool true)], args := [d1, d2, d3], vars := [g1] }
  | _ => none }
def fnSplitRowsRow : OpenClaim := { program := "ythbdaoapjnofkaadoor", sum := "49f8631b04bd3666670218b150d80c1eda942ff3a521347b45efa472f832b01f", func := "given.example/pub-typebar/laws.FnSplitRows", spec := "fnSplitRows", named := ["given.example/pub-typebar/pub/readline.runes", "bytes.ErrTooLarge"], apart := false, laid := [("bytes.ErrTooLarge", laid_bytes_ErrTooLarge), ("given.example/pub-typebar/pub/readline.runes", laid_given_example_pub_typebar_pub_readline_runes)] }
def FnSplitRowsSaid : Prop := fnSplitRowsRow.holds Tryd.pinned (OpenSpec.ofChange fnSplitRowsSpec)

/-- ITS FALSE NEIGHBOUR: 'it returns false'. Refute it at one input. -/
def fnSplitRowsWrong : ChangeSpec := { name := "fnSplitRows", vars := ["given.example/pub-typebar/pub/readline.runes"], fn := fun _ => fun
  | [d1, d2, d3, g1] => { results := [.lit (.bool false)], args := [d1, d2, d3], vars := [g1] }
  | _ => none }
def FnSplitRowsWrongFalsely : Prop := fnSplitRowsRow.holds Tryd.pinned (OpenSpec.ofChange fnSplitRowsWrong)

/-- 'laws.FnDedented': WHATEVER THE INPUT: true; the input reads as it did. -/
def fnDedentedSpec : ChangeSpec := { name := "fnDedented", fn := fun _ => fun
  | [d] => { results := [.lit (.bool true)], args := [d] }
  | _ => none }
def fnDedentedRow : OpenClaim := { program := "ythbdaoapjnofkaadoor", sum := "49f8631b04bd3666670218b150d80c1eda942ff3a521347b45efa472f832b01f", func := "given.example/pub-typebar/laws.FnDedented", spec := "fnDedented", named := ["bytes.ErrTooLarge"], apart := false, laid := [("bytes.ErrTooLarge", laid_bytes_ErrTooLarge)] }
def FnDedentedSaid : Prop := fnDedentedRow.holds Tryd.pinned (OpenSpec.ofChange fnDedentedSpec)

/-- ITS FALSE NEIGHBOUR: 'it returns false'. Refute it at one input. -/
def fnDedentedWrong : ChangeSpec := { name := "fnDedented", fn := fun _ => fun
  | [d] => { results := [.lit (.bool false)], args := [d] }
  | _ => none }
def FnDedentedWrongFalsely : Prop := fnDedentedRow.holds Tryd.pinned (OpenSpec.ofChange fnDedentedWrong)

/-- 'laws.FnCompletedBy': WHATEVER THE INPUT: true; the input reads as it did. -/
def fnCompletedBySpec : ChangeSpec := { name := "fnCompletedBy", vars := ["given.example/pub-typebar/pub/readline.runes"], fn := fun _ => fun
  | [d1, d2, d3, d4, g1] => { results := [.lit (.bool true)], args := [d1, d2, d3, d4], vars := [g1] }
  | _ => none }
def fnCompletedByRow : OpenClaim := { program := "ythbdaoapjnofkaadoor", sum := "49f8631b04bd3666670218b150d80c1eda942ff3a521347b45efa472f832b01f", func := "given.example/pub-typebar/laws.FnCompletedBy", spec := "fnCompletedBy", unfollowed := true, recurses := true, named := ["given.example/pub-typebar/pub/readline.runes", "unicode.White_Space"], apart := false, laid := [("unicode.White_Space", laid_unicode_White_Space), ("given.example/pub-typebar/pub/readline.runes", laid_given_example_pub_typebar_pub_readline_runes)] }
def FnCompletedBySaid : Prop := fnCompletedByRow.holds Tryd.pinned (OpenSpec.ofChange fnCompletedBySpec)

/-- ITS FALSE NEIGHBOUR: 'it returns false'. Refute it at one input. -/
def fnCompletedByWrong : ChangeSpec := { name := "fnCompletedBy", vars := ["given.example/pub-typebar/pub/readline.runes"], fn := fun _ => fun
  | [d1, d2, d3, d4, g1] => { results := [.lit (.bool false)], args := [d1, d2, d3, d4], vars := [g1] }
  | _ => none }
def FnCompletedByWrongFalsely : Prop := fnCompletedByRow.holds Tryd.pinned (OpenSpec.ofChange fnCompletedByWrong)

/-- 'laws.FnCompletedCursor': WHATEVER THE INPUT: true; the input reads as it did. -/
def fnCompletedCursorSpec : ChangeSpec := { name := "fnCompletedCursor", vars := ["given.example/pub-typebar/pub/readline.runes"], fn := fun _ => fun
  | [d1, d2, d3, d4, d5, g1] => { results := [.lit (.bool true)], args := [d1, d2, d3, d4, d5], vars := [g1] }
  | _ => none }
def fnCompletedCursorRow : OpenClaim := { program := "ythbdaoapjnofkaadoor", sum := "49f8631b04bd3666670218b150d80c1eda942ff3a521347b45efa472f832b01f", func := "given.example/pub-typebar/laws.FnCompletedCursor", spec := "fnCompletedCursor", unfollowed := true, recurses := true, named := ["given.example/pub-typebar/pub/readline.runes", "unicode.White_Space"], apart := false, laid := [("unicode.White_Space", laid_unicode_White_Space), ("given.example/pub-typebar/pub/readline.runes", laid_given_example_pub_typebar_pub_readline_runes)] }
def FnCompletedCursorSaid : Prop := fnCompletedCursorRow.holds Tryd.pinned (OpenSpec.ofChange fnCompletedCursorSpec)

/-- ITS FALSE NEIGHBOUR: 'it returns false'. Refute it at one input. -/
def fnCompletedCursorWrong : ChangeSpec := { name := "fnCompletedCursor", vars := ["given.example/pub-typebar/pub/readline.runes"], fn := fun _ => fun
  | [d1, d2, d3, d4, d5, g1] => { results := [.lit (.bool false)], args := [d1, d2, d3, d4, d5], vars := [g1] }
  | _ => none }
def FnCompletedCursorWrongFalsely : Prop := fnCompletedCursorRow.holds Tryd.pinned (OpenSpec.ofChange fnCompletedCursorWrong)

/-- 'laws.FnKeyControls': WHATEVER THE INPUT: true; the input reads as it did. -/
def fnKeyControlsSpec : ChangeSpec := { name := "fnKeyControls", vars := ["given.example/pub-typebar/pub/goprompt._Key_index"], fn := fun _ => fun
  | [d, g1] => { results := [.lit (.bool true)], args := [d], vars := [g1] }
  | _ => none }
def fnKeyControlsRow : OpenClaim := { program := "ythbdaoapjnofkaadoor", sum := "49f8631b04bd3666670218b150d80c1eda942ff3a521347b45efa472f832b01f", func := "given.example/pub-typebar/laws.FnKeyControls", spec := "fnKeyControls", named := ["given.example/pub-typebar/pub/goprompt._Key_index", "internal/strconv.uint64pow10", "math/bits.deBruijn32tab", "math/bits.deBruijn64tab"], apart := false, laid := [("math/bits.deBruijn32tab", laid_math_bits_deBruijn32tab), ("math/bits.deBruijn64tab", laid_math_bits_deBruijn64tab), ("internal/strconv.uint64pow10", laid_internal_strconv_uint64pow10), ("given.example/pub-typebar/pub/goprompt._Key_index", laid_given_example_pub_typebar_pub_goprompt_Key_index)] }
def FnKeyControlsSaid : Prop := fnKeyControlsRow.holds Tryd.pinned (OpenSpec.ofChange fnKeyControlsSpec)

/-- ITS FALSE NEIGHBOUR: 'it returns false'. Refute it at one input. -/
def fnKeyControlsWrong : ChangeSpec := { name := "fnKeyControls", vars := ["given.example/pub-typebar/pub/goprompt._Key_index"], fn := fun _ => fun
  | [d, g1] => { results := [.lit (.bool false)], args := [d], vars := [g1] }
  | _ => none }
def FnKeyControlsWrongFalsely : Prop := fnKeyControlsRow.holds Tryd.pinned (OpenSpec.ofChange fnKeyControlsWrong)

/-- 'laws.FnFiltered': WHATEVER THE INPUT: true; the input reads as it did. -/
def fnFilteredSpec : ChangeSpec := { name := "fnFiltered", fn := fun _ => fun
  | [d1, d2, d3, d4] => { results := [.lit (.bool true)], args := [d1, d2, d3, d4] }
  | _ => none }
def fnFilteredRow : OpenClaim := { program := "ythbdaoapjnofkaadoor", sum := "49f8631b04bd3666670218b150d80c1eda942ff3a521347b45efa472f832b01f", func := "given.example/pub-typebar/laws.FnFiltered", spec := "fnFiltered", inPlace := ["internal/abi.NoEscape", "internal/bytealg.MakeNoZero"], unfollowed := true, recurses := true, named := ["unicode/utf8.first", "unicode/utf8.acceptRanges", "unicode.CaseRanges"], apart := false, laid := [("unicode/utf8.acceptRanges", laid_unicode_utf8_acceptRanges), ("unicode.CaseRanges", laid_unicode_CaseRanges), ("unicode/utf8.first", laid_unicode_utf8_first)] }
def FnFilteredSaid : Prop := fnFilteredRow.holds Tryd.pinned (OpenSpec.ofChange fnFilteredSpec)

/-- ITS FALSE NEIGHBOUR: 'it returns false'. Refute it at one input. -/
def fnFilteredWrong : ChangeSpec := { name := "fnFiltered", fn := fun _ => fun
  | [d1, d2, d3, d4] => { results := [.lit (.bool false)], args := [d1, d2, d3, d4] }
  | _ => none }
def FnFilteredWrongFalsely : Prop := fnFilteredRow.holds Tryd.pinned (OpenSpec.ofChange fnFilteredWrong)

/- THE SECOND FORM. 'bulk': how many values and letters a reading holds, each counted each time it is reached (what is shared counts as often as it is met; a slice's spare places count too). A statement '..UptoSaid' is the law's where the arguments, and the package variables that the reading takes, are together of bulk at most 1048576: NARROWER than '..Said'. Prove '..Said' where nothing that the law and all that it calls make is longer than what came in: it says more and counts as full. Else prove '..UptoSaid'. A law counts once. -/
mutual
def uptoBulk {H : Type} : DataW H → Nat
  | .lit (.string bytes) => bytes.length + 1
  | .lit _ => 1
  | .nil => 1
  | .ptr d => uptoBulk d + 1
  | .slice elems spare => uptoBulkAll elems + uptoBulkAll spare + 1
  | .agg parts => uptoBulkAll parts + 1
  | .iface _ d => uptoBulk d + 1
  | .map entries => uptoBulkEntries entries + 1
  | .held _ => 1
def uptoBulkAll {H : Type} : List (DataW H) → Nat
  | [] => 0
  | d :: r => uptoBulk d + uptoBulkAll r
def uptoBulkEntries {H : Type} : List (Lit × DataW H) → Nat
  | [] => 0
  | x :: r => uptoBulkEntry x + uptoBulkEntries r
def uptoBulkEntry {H : Type} : Lit × DataW H → Nat
  | (.string bytes, d) => bytes.length + uptoBulk d + 1
  | (_, d) => uptoBulk d + 1
 end
def uptoSmall : (H : Type) → List (DataW H) → Bool := fun _ ds => decide (uptoBulkAll ds ≤ 1048576)
def OpenSpec.upto (s : _root_.Go.ChangeSpec) : _root_.Go.OpenSpec := { _root_.Go.OpenSpec.ofChange s with cond := some uptoSmall }

/-- 'laws.FnAggregatedAll', WHERE WHAT IT READS IS OF BULK AT MOST 1048576: true; the input reads as it did. -/
def fnAggregatedAllUptoRow : OpenClaim := { program := "ythbdaoapjnofkaadoor", sum := "49f8631b04bd3666670218b150d80c1eda942ff3a521347b45efa472f832b01f", func := "given.example/pub-typebar/laws.FnAggregatedAll", spec := "fnAggregatedAll", named := ["given.example/pub-typebar/pub/readline.runes"], apart := false, laid := [("given.example/pub-typebar/pub/readline.runes", laid_given_example_pub_typebar_pub_readline_runes)], narrowed := true }
def FnAggregatedAllUptoSaid : Prop := fnAggregatedAllUptoRow.holds Tryd.pinned (OpenSpec.upto fnAggregatedAllSpec)

/-- 'laws.FnBufferWidth', WHERE WHAT IT READS IS OF BULK AT MOST 1048576: true; the input reads as it did. -/
def fnBufferWidthUptoRow : OpenClaim := { program := "ythbdaoapjnofkaadoor", sum := "49f8631b04bd3666670218b150d80c1eda942ff3a521347b45efa472f832b01f", func := "given.example/pub-typebar/laws.FnBufferWidth", spec := "fnBufferWidth", named := ["bytes.ErrTooLarge"], apart := false, laid := [("bytes.ErrTooLarge", laid_bytes_ErrTooLarge)], narrowed := true }
def FnBufferWidthUptoSaid : Prop := fnBufferWidthUptoRow.holds Tryd.pinned (OpenSpec.upto fnBufferWidthSpec)

/-- 'laws.FnSplitRows', WHERE WHAT IT READS IS OF BULK AT MOST 1048576: true; the input reads as it did. -/
def fnSplitRowsUptoRow : OpenClaim := { program := "ythbdaoapjnofkaadoor", sum := "49f8631b04bd3666670218b150d80c1eda942ff3a521347b45efa472f832b01f", func := "given.example/pub-typebar/laws.FnSplitRows", spec := "fnSplitRows", named := ["given.example/pub-typebar/pub/readline.runes", "bytes.ErrTooLarge"], apart := false, laid := [("bytes.ErrTooLarge", laid_bytes_ErrTooLarge), ("given.example/pub-typebar/pub/readline.runes", laid_given_example_pub_typebar_pub_readline_runes)], narrowed := true }
def FnSplitRowsUptoSaid : Prop := fnSplitRowsUptoRow.holds Tryd.pinned (OpenSpec.upto fnSplitRowsSpec)

/-- 'laws.FnDedented', WHERE WHAT IT READS IS OF BULK AT MOST 1048576: true; the input reads as it did. -/
def fnDedentedUptoRow : OpenClaim := { program := "ythbdaoapjnofkaadoor", sum := "49f8631b04bd3666670218b150d80c1eda942ff3a521347b45efa472f832b01f", func := "given.example/pub-typebar/laws.FnDedented", spec := "fnDedented", named := ["bytes.ErrTooLarge"], apart := false, laid := [("bytes.ErrTooLarge", laid_bytes_ErrTooLarge)], narrowed := true }
def FnDedentedUptoSaid : Prop := fnDedentedUptoRow.holds Tryd.pinned (OpenSpec.upto fnDedentedSpec)

/-- 'laws.FnCompletedBy', WHERE WHAT IT READS IS OF BULK AT MOST 1048576: true; the input reads as it did. -/
def fnCompletedByUptoRow : OpenClaim := { program := "ythbdaoapjnofkaadoor", sum := "49f8631b04bd3666670218b150d80c1eda942ff3a521347b45efa472f832b01f", func := "given.example/pub-typebar/laws.FnCompletedBy", spec := "fnCompletedBy", unfollowed := true, recurses := true, named := ["given.example/pub-typebar/pub/readline.runes", "unicode.White_Space"], apart := false, laid := [("unicode.White_Space", laid_unicode_White_Space), ("given.example/pub-typebar/pub/readline.runes", laid_given_example_pub_typebar_pub_readline_runes)], narrowed := true }
def FnCompletedByUptoSaid : Prop := fnCompletedByUptoRow.holds Tryd.pinned (OpenSpec.upto fnCompletedBySpec)

/-- 'laws.FnCompletedCursor', WHERE WHAT IT READS IS OF BULK AT MOST 1048576: true; the input reads as it did. -/
def fnCompletedCursorUptoRow : OpenClaim := { program := "ythbdaoapjnofkaadoor", sum := "49f8631b04bd3666670218b150d80c1eda942ff3a521347b45efa472f832b01f", func := "given.example/pub-typebar/laws.FnCompletedCursor", spec := "fnCompletedCursor", unfollowed := true, recurses := true, named := ["given.example/pub-typebar/pub/readline.runes", "unicode.White_Space"], apart := false, laid := [("unicode.White_Space", laid_unicode_White_Space), ("given.example/pub-typebar/pub/readline.runes", laid_given_example_pub_typebar_pub_readline_runes)], narrowed := true }
def FnCompletedCursorUptoSaid : Prop := fnCompletedCursorUptoRow.holds Tryd.pinned (OpenSpec.upto fnCompletedCursorSpec)

/-- 'laws.FnKeyControls', WHERE WHAT IT READS IS OF BULK AT MOST 1048576: true; the input reads as it did. -/
def fnKeyControlsUptoRow : OpenClaim := { program := "ythbdaoapjnofkaadoor", sum := "49f8631b04bd3666670218b150d80c1eda942ff3a521347b45efa472f832b01f", func := "given.example/pub-typebar/laws.FnKeyControls", spec := "fnKeyControls", named := ["given.example/pub-typebar/pub/goprompt._Key_index", "internal/strconv.uint64pow10", "math/bits.deBruijn32tab", "math/bits.deBruijn64tab"], apart := false, laid := [("math/bits.deBruijn32tab", laid_math_bits_deBruijn32tab), ("math/bits.deBruijn64tab", laid_math_bits_deBruijn64tab), ("internal/strconv.uint64pow10", laid_internal_strconv_uint64pow10), ("given.example/pub-typebar/pub/goprompt._Key_index", laid_given_example_pub_typebar_pub_goprompt_Key_index)], narrowed := true }
def FnKeyControlsUptoSaid : Prop := fnKeyControlsUptoRow.holds Tryd.pinned (OpenSpec.upto fnKeyControlsSpec)

/-- 'laws.FnFiltered', WHERE WHAT IT READS IS OF BULK AT MOST 1048576: true; the input reads as it did. -/
def fnFilteredUptoRow : OpenClaim := { program := "ythbdaoapjnofkaadoor", sum := "49f8631b04bd3666670218b150d80c1eda942ff3a521347b45efa472f832b01f", func := "given.example/pub-typebar/laws.FnFiltered", spec := "fnFiltered", inPlace := ["internal/abi.NoEscape", "internal/bytealg.MakeNoZero"], unfollowed := true, recurses := true, named := ["unicode/utf8.first", "unicode/utf8.acceptRanges", "unicode.CaseRanges"], apart := false, laid := [("unicode/utf8.acceptRanges", laid_unicode_utf8_acceptRanges), ("unicode.CaseRanges", laid_unicode_CaseRanges), ("unicode/utf8.first", laid_unicode_utf8_first)], narrowed := true }
def FnFilteredUptoSaid : Prop := fnFilteredUptoRow.holds Tryd.pinned (OpenSpec.upto fnFilteredSpec)

end Rows
end Go.Proofs.YthbdaoapjnofkaaDoor
