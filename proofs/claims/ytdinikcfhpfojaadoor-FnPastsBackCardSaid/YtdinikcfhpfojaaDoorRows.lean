/-
  NARROWER THAN 'FOR EVERY INPUT', by the rows' own cells (each row's printed sentence says how): FnMovesKeep: laid · FnReplaceBack: laid · FnWordsOver: laid · FnYankTwice: laid · FnBackWord: laid · FnMoveToThere: laid · FnWordMoves: laid · FnRestored: laid · FnShownMask: laid · FnPastsBack: laid.
  DERIVED. THE GIVEN ROWS OF THIS SEAT. 10 by the template 'for every input the law returns true; each argument reads behind the call as it read before'; 0 by the template 'total and deterministic' (their statements: YtdinikcfhpfojaaDoorTotals.lean).
  GIVEN WITH THE SEED: the statements are not yours to turn. If you find one false, say at which input.
  Laid BY PROGRAM, IN A SANDBOX (cutbox-rows.mjs): the forced cells as the released guide's own fill.sh prints them over the translation 5223d55f507ceb9d… (all of the seat's roots in one cut). By AI agents, Wed Nov 11 2026. No macro, syntax, notation, axiom, sorry.
-/
import Derived.Test.YtdinikcfhpfojaaDoorChecked
import GoSem.Claim
import GoSem.ClaimJoined
import GoSem.ClaimMapViews
import Derived.JoinedTies
import Derived.KernelRfl
namespace Go.Proofs.YtdinikcfhpfojaaDoor
/- THE CELL 'sum', in the pinned program and in every row, IS THE sha256 OF THE DUMP (.gsa) THAT YtdinikcfhpfojaaDoorProg.lean LOADS. Nothing in Lean hashes anything: it is a label: what it is worth is what the hold of that sum in a sandbox is worth. -/
noncomputable def Tryd.pinned : Pinned := { name := "ytdinikcfhpfojaadoor", sum := "5223d55f507ceb9d6f915b961e4c77e628714f43ecfc716ecfe91acd58c74b36", checked := Tryd.checked }
namespace Rows
def none {H : Type} : Left H := { results := [], args := [] }

/- WHAT THE LISTED PACKAGE-LEVEL VARIABLES READ AS WHEN THE CALL BEGINS. Each datum BY PROGRAM (the guide's laid-datum.mjs) off the statement by which the dump's own 'gosem.cut.vars' lays the variable. In a bare row this is a premise. The card (YtdinikcfhpfojaaDoorCards.lean) ties it to the program's text. -/
def laid_given_example_pub_typebar_pub_readline_runes {H : Type} : DataW H := .agg []
def laid_math_bits_deBruijn32tab {H : Type} : DataW H := .agg [.lit (.int .u8 0), .lit (.int .u8 1), .lit (.int .u8 28), .lit (.int .u8 2), .lit (.int .u8 29), .lit (.int .u8 14), .lit (.int .u8 24), .lit (.int .u8 3), .lit (.int .u8 30), .lit (.int .u8 22), .lit (.int .u8 20), .lit (.int .u8 15), .lit (.int .u8 25), .lit (.int .u8 17), .lit (.int .u8 4), .lit (.int .u8 8), .lit (.int .u8 31), .lit (.int .u8 27), .lit (.int .u8 13), .lit (.int .u8 23), .lit (.int .u8 21), .lit (.int .u8 19), .lit (.int .u8 16), .lit (.int .u8 7), .lit (.int .u8 26), .lit (.int .u8 12), .lit (.int .u8 18), .lit (.int .u8 6), .lit (.int .u8 11), .lit (.int .u8 5), .lit (.int .u8 10), .lit (.int .u8 9)]
def laid_math_bits_deBruijn64tab {H : Type} : DataW H := .agg [.lit (.int .u8 0), .lit (.int .u8 1), .lit (.int .u8 56), .lit (.int .u8 2), .lit (.int .u8 57), .lit (.int .u8 49), .lit (.int .u8 28), .lit (.int .u8 3), .lit (.int .u8 61), .lit (.int .u8 58), .lit (.int .u8 42), .lit (.int .u8 50), .lit (.int .u8 38), .lit (.int .u8 29), .lit (.int .u8 17), .lit (.int .u8 4), .lit (.int .u8 62), .lit (.int .u8 47), .lit (.int .u8 59), .lit (.int .u8 36), .lit (.int .u8 45), .lit (.int .u8 43), .lit (.int .u8 51), .lit (.int .u8 22), .lit (.int .u8 53), .lit (.int .u8 39), .lit (.int .u8 33), .lit (.int .u8 30), .lit (.int .u8 24), .lit (.int .u8 18), .lit (.int .u8 12), .lit (.int .u8 5), .lit (.int .u8 63), .lit (.int .u8 55), .lit (.int .u8 48), .lit (.int .u8 27), .lit (.int .u8 60), .lit (.int .u8 41), .lit (.int .u8 37), .lit (.int .u8 16), .lit (.int .u8 46), .lit (.int .u8 35), .lit (.int .u8 44), .lit (.int .u8 21), .lit (.int .u8 52), .lit (.int .u8 32), .lit (.int .u8 23), .lit (.int .u8 11), .lit (.int .u8 54), .lit (.int .u8 26), .lit (.int .u8 40), .lit (.int .u8 15), .lit (.int .u8 34), .lit (.int .u8 20), .lit (.int .u8 31), .lit (.int .u8 10), .lit (.int .u8 25), .lit (.int .u8 14), .lit (.int .u8 19), .lit (.int .u8 9), .lit (.int .u8 13), .lit (.int .u8 8), .lit (.int .u8 7), .lit (.int .u8 6)]
def laid_internal_strconv_uint64pow10 {H : Type} : DataW H := .agg [.lit (.int .u64 1), .lit (.int .u64 10), .lit (.int .u64 100), .lit (.int .u64 1000), .lit (.int .u64 10000), .lit (.int .u64 100000), .lit (.int .u64 1000000), .lit (.int .u64 10000000), .lit (.int .u64 100000000), .lit (.int .u64 1000000000), .lit (.int .u64 10000000000), .lit (.int .u64 100000000000), .lit (.int .u64 1000000000000), .lit (.int .u64 10000000000000), .lit (.int .u64 100000000000000), .lit (.int .u64 1000000000000000), .lit (.int .u64 10000000000000000), .lit (.int .u64 100000000000000000), .lit (.int .u64 1000000000000000000), .lit (.int .u64 10000000000000000000)]
def laid_bytes_ErrTooLarge {H : Type} : DataW H := .iface "*errors.errorString" (.ptr (.agg [.lit (.string [98, 121, 116, 101, 115, 46, 66, 117, 102, 102, 101, 114, 58, 32, 116, 111, 111, 32, 108, 97, 114, 103, 101])]))

/-- 'laws.FnMovesKeep': WHATEVER THE INPUT: true; the input reads as it did. -/
def fnMovesKeepSpec : ChangeSpec := { name := "fnMovesKeep", vars := ["given.example/pub-typebar/pub/readline.runes"], fn := fun _ => fun
  | [d1, d2, d3, g1] => { results := [.lit (.bool true)], args := [d1, d2, d3], vars := [g1] }
  | _ => none }
def fnMovesKeepRow : OpenClaim := { program := "ytdinikcfhpfojaadoor", sum := "5223d55f507ceb9d6f915b961e4c77e628714f43ecfc716ecfe91acd58c74b36", func := "given.example/pub-typebar/laws.FnMovesKeep", spec := "fnMovesKeep", unfollowed := true, recurses := true, named := ["given.example/pub-typebar/pub/readline.runes"], apart := false, laid := [("given.example/pub-typebar/pub/readline.runes", laid_given_example_pub_typebar_pub_readline_runes)] }
def FnMovesKeepSaid : Prop := fnMovesKeepRow.holds Tryd.pinned (OpenSpec.ofChange fnMovesKeepSpec)

/-- ITS FALSE NEIGHBOUR: 'it returns false'. Refute it at one input. -/
def fnMovesKeepWrong : ChangeSpec := { name := "fnMovesKeep", vars := ["given.example/pub-typebar/pub/readline.runes"], fn := fun _ => fun
  | [d1, d2, d3, g1] => { results := [.lit (.bool false)], args := [d1, d2, d3], vars := [g1] }
  | _ => none }
def FnMovesKeepWrongFalsely : Prop := fnMovesKeepRow.holds Tryd.pinned (OpenSpec.ofChange fnMovesKeepWrong)

/-- 'laws.FnReplaceBack': WHATEVER THE INPUT: true; the input reads as it did. -/
def fnReplaceBackSpec : ChangeSpec := { name := "fnReplaceBack", vars := ["given.example/pub-typebar/pub/readline.runes"], fn := fun _ => fun
  | [d1, d2, g1] => { results := [.lit (.bool true)], args := [d1, d2], vars := [g1] }
  | _ => none }
def fnReplaceBackRow : OpenClaim := { program := "ytdinikcfhpfojaadoor", sum := "5223d55f507ceb9d6f915b961e4c77e628714f43ecfc716ecfe91acd58c74b36", func := "given.example/pub-typebar/laws.FnReplaceBack", spec := "fnReplaceBack", unfollowed := true, recurses := true, named := ["given.example/pub-typebar/pub/readline.runes"], apart := false, laid := [("given.example/pub-typebar/pub/readline.runes", laid_given_example_pub_typebar_pub_readline_runes)] }
def FnReplaceBackSaid : Prop := fnReplaceBackRow.holds Tryd.pinned (OpenSpec.ofChange fnReplaceBackSpec)

/-- ITS FALSE NEIGHBOUR: 'it returns false'. Refute it at one input. -/
def fnReplaceBackWrong : ChangeSpec := { name := "fnReplaceBack", vars := ["given.example/pub-typebar/pub/readline.runes"], fn := fun _ => fun
  | [d1, d2, g1] => { results := [.lit (.bool false)], args := [d1, d2], vars := [g1] }
  | _ => none }
def FnReplaceBackWrongFalsely : Prop := fnReplaceBackRow.holds Tryd.pinned (OpenSpec.ofChange fnReplaceBackWrong)

/-- 'laws.FnWordsOver': WHATEVER THE INPUT: true; the input reads as it did. -/
def fnWordsOverSpec : ChangeSpec := { name := "fnWordsOver", vars := ["given.example/pub-typebar/pub/readline.runes"], fn := fun _ => fun
  | [d, g1] => { results := [.lit (.bool true)], args := [d], vars := [g1] }
  | _ => none }
def fnWordsOverRow : OpenClaim := { program := "ytdinikcfhpfojaadoor", sum := "5223d55f507ceb9d6f915b961e4c77e628714f43ecfc716ecfe91acd58c74b36", func := "given.example/pub-typebar/laws.FnWordsOver", spec := "fnWordsOver", unfollowed := true, recurses := true, named := ["given.example/pub-typebar/pub/readline.runes"], apart := false, laid := [("given.example/pub-typebar/pub/readline.runes", laid_given_example_pub_typebar_pub_readline_runes)] }
def FnWordsOverSaid : Prop := fnWordsOverRow.holds Tryd.pinned (OpenSpec.ofChange fnWordsOverSpec)

/-- ITS FALSE NEIGHBOUR: 'it returns false'. Refute it at one input. -/
def fnWordsOverWrong : ChangeSpec := { name := "fnWordsOver", vars := ["given.example/pub-typebar/pub/readline.runes"], fn := fun _ => fun
  | [d, g1] => { results := [.lit (.bool false)], args := [d], vars := [g1] }
  | _ => none }
def FnWordsOverWrongFalsely : Prop := fnWordsOverRow.holds Tryd.pinned (OpenSpec.ofChange fnWordsOverWrong)

/-- 'laws.FnYankTwice': WHATEVER THE INPUT: true; the input reads as it did. -/
def fnYankTwiceSpec : ChangeSpec := { name := "fnYankTwice", vars := ["given.example/pub-typebar/pub/readline.runes"], fn := fun _ => fun
  | [d, g1] => { results := [.lit (.bool true)], args := [d], vars := [g1] }
  | _ => none }
def fnYankTwiceRow : OpenClaim := { program := "ytdinikcfhpfojaadoor", sum := "5223d55f507ceb9d6f915b961e4c77e628714f43ecfc716ecfe91acd58c74b36", func := "given.example/pub-typebar/laws.FnYankTwice", spec := "fnYankTwice", unfollowed := true, recurses := true, named := ["given.example/pub-typebar/pub/readline.runes"], apart := false, laid := [("given.example/pub-typebar/pub/readline.runes", laid_given_example_pub_typebar_pub_readline_runes)] }
def FnYankTwiceSaid : Prop := fnYankTwiceRow.holds Tryd.pinned (OpenSpec.ofChange fnYankTwiceSpec)

/-- ITS FALSE NEIGHBOUR: 'it returns false'. Refute it at one input. -/
def fnYankTwiceWrong : ChangeSpec := { name := "fnYankTwice", vars := ["given.example/pub-typebar/pub/readline.runes"], fn := fun _ => fun
  | [d, g1] => { results := [.lit (.bool false)], args := [d], vars := [g1] }
  | _ => none }
def FnYankTwiceWrongFalsely : Prop := fnYankTwiceRow.holds Tryd.pinned (OpenSpec.ofChange fnYankTwiceWrong)

/-- 'laws.FnBackWord': WHATEVER THE INPUT: true; the input reads as it did. -/
def fnBackWordSpec : ChangeSpec := { name := "fnBackWord", vars := ["given.example/pub-typebar/pub/readline.runes"], fn := fun _ => fun
  | [d, g1] => { results := [.lit (.bool true)], args := [d], vars := [g1] }
  | _ => none }
def fnBackWordRow : OpenClaim := { program := "ytdinikcfhpfojaadoor", sum := "5223d55f507ceb9d6f915b961e4c77e628714f43ecfc716ecfe91acd58c74b36", func := "given.example/pub-typebar/laws.FnBackWord", spec := "fnBackWord", unfollowed := true, recurses := true, named := ["given.example/pub-typebar/pub/readline.runes"], apart := false, laid := [("given.example/pub-typebar/pub/readline.runes", laid_given_example_pub_typebar_pub_readline_runes)] }
def FnBackWordSaid : Prop := fnBackWordRow.holds Tryd.pinned (OpenSpec.ofChange fnBackWordSpec)

/-- ITS FALSE NEIGHBOUR: 'it returns false'. Refute it at one input. -/
def fnBackWordWrong : ChangeSpec := { name := "fnBackWord", vars := ["given.example/pub-typebar/pub/readline.runes"], fn := fun _ => fun
  | [d, g1] => { results := [.lit (.bool false)], args := [d], vars := [g1] }
  | _ => none }
def FnBackWordWrongFalsely : Prop := fnBackWordRow.holds Tryd.pinned (OpenSpec.ofChange fnBackWordWrong)

/-- 'laws.FnMoveToThere': WHATEVER THE INPUT: true; the input reads as it did. -/
def fnMoveToThereSpec : ChangeSpec := { name := "fnMoveToThere", vars := ["given.example/pub-typebar/pub/readline.runes"], fn := fun _ => fun
  | [d1, d2, g1] => { results := [.lit (.bool true)], args := [d1, d2], vars := [g1] }
  | _ => none }
def fnMoveToThereRow : OpenClaim := { program := "ytdinikcfhpfojaadoor", sum := "5223d55f507ceb9d6f915b961e4c77e628714f43ecfc716ecfe91acd58c74b36", func := "given.example/pub-typebar/laws.FnMoveToThere", spec := "fnMoveToThere", unfollowed := true, recurses := true, named := ["given.example/pub-typebar/pub/readline.runes"], apart := false, laid := [("given.example/pub-typebar/pub/readline.runes", laid_given_example_pub_typebar_pub_readline_runes)] }
def FnMoveToThereSaid : Prop := fnMoveToThereRow.holds Tryd.pinned (OpenSpec.ofChange fnMoveToThereSpec)

/-- ITS FALSE NEIGHBOUR: 'it returns false'. Refute it at one input. -/
def fnMoveToThereWrong : ChangeSpec := { name := "fnMoveToThere", vars := ["given.example/pub-typebar/pub/readline.runes"], fn := fun _ => fun
  | [d1, d2, g1] => { results := [.lit (.bool false)], args := [d1, d2], vars := [g1] }
  | _ => none }
def FnMoveToThereWrongFalsely : Prop := fnMoveToThereRow.holds Tryd.pinned (OpenSpec.ofChange fnMoveToThereWrong)

/-- 'laws.FnWordMoves': WHATEVER THE INPUT: true; the input reads as it did. -/
def fnWordMovesSpec : ChangeSpec := { name := "fnWordMoves", vars := ["given.example/pub-typebar/pub/readline.runes"], fn := fun _ => fun
  | [d1, d2, g1] => { results := [.lit (.bool true)], args := [d1, d2], vars := [g1] }
  | _ => none }
def fnWordMovesRow : OpenClaim := { program := "ytdinikcfhpfojaadoor", sum := "5223d55f507ceb9d6f915b961e4c77e628714f43ecfc716ecfe91acd58c74b36", func := "given.example/pub-typebar/laws.FnWordMoves", spec := "fnWordMoves", unfollowed := true, recurses := true, named := ["given.example/pub-typebar/pub/readline.runes"], apart := false, laid := [("given.example/pub-typebar/pub/readline.runes", laid_given_example_pub_typebar_pub_readline_runes)] }
def FnWordMovesSaid : Prop := fnWordMovesRow.holds Tryd.pinned (OpenSpec.ofChange fnWordMovesSpec)

/-- ITS FALSE NEIGHBOUR: 'it returns false'. Refute it at one input. -/
def fnWordMovesWrong : ChangeSpec := { name := "fnWordMoves", vars := ["given.example/pub-typebar/pub/readline.runes"], fn := fun _ => fun
  | [d1, d2, g1] => { results := [.lit (.bool false)], args := [d1, d2], vars := [g1] }
  | _ => none }
def FnWordMovesWrongFalsely : Prop := fnWordMovesRow.holds Tryd.pinned (OpenSpec.ofChange fnWordMovesWrong)

/-- 'laws.FnRestored': WHATEVER THE INPUT: true; the input reads as it did. -/
def fnRestoredSpec : ChangeSpec := { name := "fnRestored", vars := ["given.example/pub-typebar/pub/readline.runes"], fn := fun _ => fun
  | [d1, d2, g1] => { results := [.lit (.bool true)], args := [d1, d2], vars := [g1] }
  | _ => none }
def fnRestoredRow : OpenClaim := { program := "ytdinikcfhpfojaadoor", sum := "5223d55f507ceb9d6f915b961e4c77e628714f43ecfc716ecfe91acd58c74b36", func := "given.example/pub-typebar/laws.FnRestored", spec := "fnRestored", unfollowed := true, recurses := true, named := ["given.example/pub-typebar/pub/readline.runes"], apart := false, laid := [("given.example/pub-typebar/pub/readline.runes", laid_given_example_pub_typebar_pub_readline_runes)] }
def FnRestoredSaid : Prop := fnRestoredRow.holds Tryd.pinned (OpenSpec.ofChange fnRestoredSpec)

/-- ITS FALSE NEIGHBOUR: 'it returns false'. Refute it at one input. -/
def fnRestoredWrong : ChangeSpec := { name := "fnRestored", vars := ["given.example/pub-typebar/pub/readline.runes"], fn := fun _ => fun
  | [d1, d2, g1] => { results := [.lit (.bool false)], args := [d1, d2], vars := [g1] }
  | _ => none }
def FnRestoredWrongFalsely : Prop := fnRestoredRow.holds Tryd.pinned (OpenSpec.ofChange fnRestoredWrong)

/-- 'laws.FnShownMask': WHATEVER THE INPUT: true; the input reads as it did. -/
def fnShownMaskSpec : ChangeSpec := { name := "fnShownMask", vars := ["given.example/pub-typebar/pub/readline.runes"], fn := fun _ => fun
  | [d1, d2, d3, d4, g1] => { results := [.lit (.bool true)], args := [d1, d2, d3, d4], vars := [g1] }
  | _ => none }
def fnShownMaskRow : OpenClaim := { program := "ytdinikcfhpfojaadoor", sum := "5223d55f507ceb9d6f915b961e4c77e628714f43ecfc716ecfe91acd58c74b36", func := "given.example/pub-typebar/laws.FnShownMask", spec := "fnShownMask", inPlace := ["internal/abi.NoEscape", "internal/bytealg.MakeNoZero"], unfollowed := true, recurses := true, named := ["given.example/pub-typebar/pub/readline.runes", "bytes.ErrTooLarge", "internal/strconv.uint64pow10", "math/bits.deBruijn32tab", "math/bits.deBruijn64tab"], apart := false, laid := [("math/bits.deBruijn32tab", laid_math_bits_deBruijn32tab), ("math/bits.deBruijn64tab", laid_math_bits_deBruijn64tab), ("internal/strconv.uint64pow10", laid_internal_strconv_uint64pow10), ("bytes.ErrTooLarge", laid_bytes_ErrTooLarge), ("given.example/pub-typebar/pub/readline.runes", laid_given_example_pub_typebar_pub_readline_runes)] }
def FnShownMaskSaid : Prop := fnShownMaskRow.holds Tryd.pinned (OpenSpec.ofChange fnShownMaskSpec)

/-- ITS FALSE NEIGHBOUR: 'it returns false'. Refute it at one input. -/
def fnShownMaskWrong : ChangeSpec := { name := "fnShownMask", vars := ["given.example/pub-typebar/pub/readline.runes"], fn := fun _ => fun
  | [d1, d2, d3, d4, g1] => { results := [.lit (.bool false)], args := [d1, d2, d3, d4], vars := [g1] }
  | _ => none }
def FnShownMaskWrongFalsely : Prop := fnShownMaskRow.holds Tryd.pinned (OpenSpec.ofChange fnShownMaskWrong)

/-- 'laws.FnPastsBack': WHATEVER THE INPUT: true; the input reads as it did. -/
def fnPastsBackSpec : ChangeSpec := { name := "fnPastsBack", vars := ["given.example/pub-typebar/pub/readline.runes"], fn := fun _ => fun
  | [d, g1] => { results := [.lit (.bool true)], args := [d], vars := [g1] }
  | _ => none }
def fnPastsBackRow : OpenClaim := { program := "ytdinikcfhpfojaadoor", sum := "5223d55f507ceb9d6f915b961e4c77e628714f43ecfc716ecfe91acd58c74b36", func := "given.example/pub-typebar/laws.FnPastsBack", spec := "fnPastsBack", unfollowed := true, recurses := true, named := ["given.example/pub-typebar/pub/readline.runes"], apart := false, laid := [("given.example/pub-typebar/pub/readline.runes", laid_given_example_pub_typebar_pub_readline_runes)] }
def FnPastsBackSaid : Prop := fnPastsBackRow.holds Tryd.pinned (OpenSpec.ofChange fnPastsBackSpec)

/-- ITS FALSE NEIGHBOUR: 'it returns false'. Refute it at one input. -/
def fnPastsBackWrong : ChangeSpec := { name := "fnPastsBack", vars := ["given.example/pub-typebar/pub/readline.runes"], fn := fun _ => fun
  | [d, g1] => { results := [.lit (.bool false)], args := [d], vars := [g1] }
  | _ => none }
def FnPastsBackWrongFalsely : Prop := fnPastsBackRow.holds Tryd.pinned (OpenSpec.ofChange fnPastsBackWrong)

/- THE SECOND FORM. 'bulk': how many values and letters a reading holds, each counted each time it is reached (what is shared counts as often as it is met; a slice's spare places count too). A statement '..UptoSaid' is the law's where the arguments, and the package variables that the reading takes, are together of bulk at most 1048576: NARROWER than '..Said'. Prove '..Said' where nothing that the law and all that it calls make is longer than what came in: it says more and counts as full. Else prove '..UptoSaid'. A law counts once. -/
mutual
def uptoBulk {H : Type} : DataW H → Nat
  | .lit (.string bytes) => bytes.length + 1
  | .lit _ => 1
  | .nil => 1
  | .ptr d => uptoBulk d + 1
  | .slice elems spare => uptoBulkAll elems + uptoBulkAll spare + 1
  | .agg parts => uptoBulkAll parts + 1
  | .iface _ d => uptoBulk d + 1
  | .map entries => uptoBulkEntries entries + 1
  | .held _ => 1
def uptoBulkAll {H : Type} : List (DataW H) → Nat
  | [] => 0
  | d :: r => uptoBulk d + uptoBulkAll r
def uptoBulkEntries {H : Type} : List (Lit × DataW H) → Nat
  | [] => 0
  | x :: r => uptoBulkEntry x + uptoBulkEntries r
def uptoBulkEntry {H : Type} : Lit × DataW H → Nat
  | (.string bytes, d) => bytes.length + uptoBulk d + 1
  | (_, d) => uptoBulk d + 1
 end
def uptoSmall : (H : Type) → List (DataW H) → Bool := fun _ ds => decide (uptoBulkAll ds ≤ 1048576)
def OpenSpec.upto (s : _root_.Go.ChangeSpec) : _root_.Go.OpenSpec := { _root_.Go.OpenSpec.ofChange s with cond := some uptoSmall }

/-- 'laws.FnMovesKeep', WHERE WHAT IT READS IS OF BULK AT MOST 1048576: true; the input reads as it did. -/
def fnMovesKeepUptoRow : OpenClaim := { program := "ytdinikcfhpfojaadoor", sum := "5223d55f507ceb9d6f915b961e4c77e628714f43ecfc716ecfe91acd58c74b36", func := "given.example/pub-typebar/laws.FnMovesKeep", spec := "fnMovesKeep", unfollowed := true, recurses := true, named := ["given.example/pub-typebar/pub/readline.runes"], apart := false, laid := [("given.example/pub-typebar/pub/readline.runes", laid_given_example_pub_typebar_pub_readline_runes)], narrowed := true }
def FnMovesKeepUptoSaid : Prop := fnMovesKeepUptoRow.holds Tryd.pinned (OpenSpec.upto fnMovesKeepSpec)

/-- 'laws.FnReplaceBack', WHERE WHAT IT READS IS OF BULK AT MOST 1048576: true; the input reads as it did. -/
def fnReplaceBackUptoRow : OpenClaim := { program := "ytdinikcfhpfojaadoor", sum := "5223d55f507ceb9d6f915b961e4c77e628714f43ecfc716ecfe91acd58c74b36", func := "given.example/pub-typebar/laws.FnReplaceBack", spec := "fnReplaceBack", unfollowed := true, recurses := true, named := ["given.example/pub-typebar/pub/readline.runes"], apart := false, laid := [("given.example/pub-typebar/pub/readline.runes", laid_given_example_pub_typebar_pub_readline_runes)], narrowed := true }
def FnReplaceBackUptoSaid : Prop := fnReplaceBackUptoRow.holds Tryd.pinned (OpenSpec.upto fnReplaceBackSpec)

/-- 'laws.FnWordsOver', WHERE WHAT IT READS IS OF BULK AT MOST 1048576: true; the input reads as it did. -/
def fnWordsOverUptoRow : OpenClaim := { program := "ytdinikcfhpfojaadoor", sum := "5223d55f507ceb9d6f915b961e4c77e628714f43ecfc716ecfe91acd58c74b36", func := "given.example/pub-typebar/laws.FnWordsOver", spec := "fnWordsOver", unfollowed := true, recurses := true, named := ["given.example/pub-typebar/pub/readline.runes"], apart := false, laid := [("given.example/pub-typebar/pub/readline.runes", laid_given_example_pub_typebar_pub_readline_runes)], narrowed := true }
def FnWordsOverUptoSaid : Prop := fnWordsOverUptoRow.holds Tryd.pinned (OpenSpec.upto fnWordsOverSpec)

/-- 'laws.FnYankTwice', WHERE WHAT IT READS IS OF BULK AT MOST 1048576: true; the input reads as it did. -/
def fnYankTwiceUptoRow : OpenClaim := { program := "ytdinikcfhpfojaadoor", sum := "5223d55f507ceb9d6f915b961e4c77e628714f43ecfc716ecfe91acd58c74b36", func := "given.example/pub-typebar/laws.FnYankTwice", spec := "fnYankTwice", unfollowed := true, recurses := true, named := ["given.example/pub-typebar/pub/readline.runes"], apart := false, laid := [("given.example/pub-typebar/pub/readline.runes", laid_given_example_pub_typebar_pub_readline_runes)], narrowed := true }
def FnYankTwiceUptoSaid : Prop := fnYankTwiceUptoRow.holds Tryd.pinned (OpenSpec.upto fnYankTwiceSpec)

/-- 'laws.FnBackWord', WHERE WHAT IT READS IS OF BULK AT MOST 1048576: true; the input reads as it did. -/
def fnBackWordUptoRow : OpenClaim := { program := "ytdinikcfhpfojaadoor", sum := "5223d55f507ceb9d6f915b961e4c77e628714f43ecfc716ecfe91acd58c74b36", func := "given.example/pub-typebar/laws.FnBackWord", spec := "fnBackWord", unfollowed := true, recurses := true, named := ["given.example/pub-typebar/pub/readline.runes"], apart := false, laid := [("given.example/pub-typebar/pub/readline.runes", laid_given_example_pub_typebar_pub_readline_runes)], narrowed := true }
def FnBackWordUptoSaid : Prop := fnBackWordUptoRow.holds Tryd.pinned (OpenSpec.upto fnBackWordSpec)

/-- 'laws.FnMoveToThere', WHERE WHAT IT READS IS OF BULK AT MOST 1048576: true; the input reads as it did. -/
def fnMoveToThereUptoRow : OpenClaim := { program := "ytdinikcfhpfojaadoor", sum := "5223d55f507ceb9d6f915b961e4c77e628714f43ecfc716ecfe91acd58c74b36", func := "given.example/pub-typebar/laws.FnMoveToThere", spec := "fnMoveToThere", unfollowed := true, recurses := true, named := ["given.example/pub-typebar/pub/readline.runes"], apart := false, laid := [("given.example/pub-typebar/pub/readline.runes", laid_given_example_pub_typebar_pub_readline_runes)], narrowed := true }
def FnMoveToThereUptoSaid : Prop := fnMoveToThereUptoRow.holds Tryd.pinned (OpenSpec.upto fnMoveToThereSpec)

/-- 'laws.FnWordMoves', WHERE WHAT IT READS IS OF BULK AT MOST 1048576: true; the input reads as it did. -/
def fnWordMovesUptoRow : OpenClaim := { program := "ytdinikcfhpfojaadoor", sum := "5223d55f507ceb9d6f915b961e4c77e628714f43ecfc716ecfe91acd58c74b36", func := "given.example/pub-typebar/laws.FnWordMoves", spec := "fnWordMoves", unfollowed := true, recurses := true, named := ["given.example/pub-typebar/pub/readline.runes"], apart := false, laid := [("given.example/pub-typebar/pub/readline.runes", laid_given_example_pub_typebar_pub_readline_runes)], narrowed := true }
def FnWordMovesUptoSaid : Prop := fnWordMovesUptoRow.holds Tryd.pinned (OpenSpec.upto fnWordMovesSpec)

/-- 'laws.FnRestored', WHERE WHAT IT READS IS OF BULK AT MOST 1048576: true; the input reads as it did. -/
def fnRestoredUptoRow : OpenClaim := { program := "ytdinikcfhpfojaadoor", sum := "5223d55f507ceb9d6f915b961e4c77e628714f43ecfc716ecfe91acd58c74b36", func := "given.example/pub-typebar/laws.FnRestored", spec := "fnRestored", unfollowed := true, recurses := true, named := ["given.example/pub-typebar/pub/readline.runes"], apart := false, laid := [("given.example/pub-typebar/pub/readline.runes", laid_given_example_pub_typebar_pub_readline_runes)], narrowed := true }
def FnRestoredUptoSaid : Prop := fnRestoredUptoRow.holds Tryd.pinned (OpenSpec.upto fnRestoredSpec)

/-- 'laws.FnShownMask', WHERE WHAT IT READS IS OF BULK AT MOST 1048576: true; the input reads as it did. -/
def fnShownMaskUptoRow : OpenClaim := { program := "ytdinikcfhpfojaadoor", sum := "5223d55f507ceb9d6f915b961e4c77e628714f43ecfc716ecfe91acd58c74b36", func := "given.example/pub-typebar/laws.FnShownMask", spec := "fnShownMask", inPlace := ["internal/abi.NoEscape", "internal/bytealg.MakeNoZero"], unfollowed := true, recurses := true, named := ["given.example/pub-typebar/pub/readline.runes", "bytes.ErrTooLarge", "internal/strconv.uint64pow10", "math/bits.deBruijn32tab", "math/bits.deBruijn64tab"], apart := false, laid := [("math/bits.deBruijn32tab", laid_math_bits_deBruijn32tab), ("math/bits.deBruijn64tab", laid_math_bits_deBruijn64tab), ("internal/strconv.uint64pow10", laid_internal_strconv_uint64pow10), ("bytes.ErrTooLarge", laid_bytes_ErrTooLarge), ("given.example/pub-typebar/pub/readline.runes", laid_given_example_pub_typebar_pub_readline_runes)], narrowed := true }
def FnShownMaskUptoSaid : Prop := fnShownMaskUptoRow.holds Tryd.pinned (OpenSpec.upto fnShownMaskSpec)

/-- 'laws.FnPastsBack', WHERE WHAT IT READS IS OF BULK AT MOST 1048576: true; the input reads as it did. -/
def fnPastsBackUptoRow : OpenClaim := { program := "ytdinikcfhpfojaadoor", sum := "5223d55f507ceb9d6f915b961e4c77e628714f43ecfc716ecfe91acd58c74b36", func := "given.example/pub-typebar/laws.FnPastsBack", spec := "fnPastsBack", unfollowed := true, recurses := true, named := ["given.example/pub-typebar/pub/readline.runes"], apart := false, laid := [("given.example/pub-typebar/pub/readline.runes", laid_given_example_pub_typebar_pub_readline_runes)], narrowed := true }
def FnPastsBackUptoSaid : Prop := fnPastsBackUptoRow.holds Tryd.pinned (OpenSpec.upto fnPastsBackSpec)

end Rows
end Go.Proofs.YtdinikcfhpfojaaDoor
