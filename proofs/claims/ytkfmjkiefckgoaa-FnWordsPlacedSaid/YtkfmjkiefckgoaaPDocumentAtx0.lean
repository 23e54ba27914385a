/- Printed by a program of this seat (xprint) out of the translation: Go functions as plain functions, and the walks that show them; no condition. -/
import Derived.Test.YtkfmjkiefckgoaaProg
import Derived.Below
import Derived.Deep.Draws
import Derived.Deep.AppendLies
import Derived.Maps.AppendAt
import Derived.OwnWalk
import Derived.Laws.BytesArg
import Derived.Laws.MakeOwn
import Derived.Laws.OwnMore
import Derived.Deep.OwnRows
import Derived.Tactics
import Derived.Lib.ConvBytes
import Derived.Laws.Slices
import Derived.WalkKit
import Derived.KernelRfl
import Derived.RowKit3
import Derived.Deep.LoopGhost
import Derived.Deep.QuietTactic
import Derived.BigQuiet
import Derived.WideLaws
import Derived.Deep.DeepCutAuto
import Derived.Deep.CutBlock
import Derived.Deep.RegionHeld3
import Derived.Laws.Rows
import Derived.Lib.AppendStr
import Derived.ArgAppend
import Derived.Laws.IdiomCopy
import Derived.OrdersHeld
import Derived.Laws.BitsLemmas
import Derived.RowKit
import Derived.Test.YtkfmjkiefckgoaaXRunes
import Derived.Test.YtkfmjkiefckgoaaWWords
import Derived.Test.YtkfmjkiefckgoaaWLast
import Derived.Test.YtkfmjkiefckgoaaWTab
import Derived.Test.YtkfmjkiefckgoaaWFour
import Derived.Test.YtkfmjkiefckgoaaWQPut
import Derived.Test.YtkfmjkiefckgoaaWApart
import Derived.Test.YtkfmjkiefckgoaaWArr
import Derived.Test.YtkfmjkiefckgoaaWZeros
import Derived.Test.YtkfmjkiefckgoaaWFoot
import Derived.Test.YtkfmjkiefckgoaaWKept
import Derived.Test.YtkfmjkiefckgoaaWShare
import Derived.Test.YtkfmjkiefckgoaaWN
import Derived.Test.YtkfmjkiefckgoaaWFootNe
import Derived.Test.YtkfmjkiefckgoaaWAt
import Derived.Test.YtkfmjkiefckgoaaWEqStruct
import Derived.Test.YtkfmjkiefckgoaaWRepsOne
import Derived.Test.YtkfmjkiefckgoaaWInv
import Derived.Test.YtkfmjkiefckgoaaWInvWords
import Derived.Test.YtkfmjkiefckgoaaWGuard
import Derived.Test.YtkfmjkiefckgoaaWNEv
import Derived.Test.YtkfmjkiefckgoaaWMore
namespace Go.Proofs.Ytkfmjkiefckgoaa.PDocumentAt
open Go.RowKit Go.Proofs.YtkfmjkiefckgoaaW.PrintWords Go.Proofs.YtkfmjkiefckgoaaW.PrintLast Go.Proofs.YtkfmjkiefckgoaaW.PrintMore
attribute [local go_sem] max2_int min2_int max_two min_two max_three min_three max_four min_four   -- for this text's walks alone
set_option linter.unusedVariables false
set_option linter.unusedSimpArgs false



def errW : Option Int → Value
  | none => .nilIface
  | some c => .iface 0 (.int .i64 c)
theorem errW_none : errW none = .nilIface := rfl
theorem errW_some (c : Int) : errW (some c) = .iface 0 (.int .i64 c) := rfl

-- the values' own types

end Go.Proofs.Ytkfmjkiefckgoaa.PDocumentAt
