/- Printed by a program of this seat (xprint) out of the translation: Go functions as plain functions, and the walks that show them; no condition. -/
import Derived.Test.YthkblefeifdhaaaDoorProg
import Derived.Below
import Derived.Deep.Draws
import Derived.Deep.AppendLies
import Derived.Maps.AppendAt
import Derived.OwnWalk
import Derived.Laws.BytesArg
import Derived.Laws.MakeOwn
import Derived.Laws.OwnMore
import Derived.Deep.OwnRows
import Derived.Tactics
import Derived.Lib.ConvBytes
import Derived.Laws.Slices
import Derived.WalkKit
import Derived.KernelRfl
import Derived.RowKit3
import Derived.Deep.LoopGhost
import Derived.Deep.QuietTactic
import Derived.BigQuiet
import Derived.WideLaws
import Derived.Deep.DeepCutAuto
import Derived.Deep.CutBlock
import Derived.Deep.RegionHeld3
import Derived.Laws.Rows
import Derived.Lib.AppendStr
import Derived.ArgAppend
import Derived.Laws.IdiomCopy
import Derived.OrdersHeld
import Derived.Laws.BitsLemmas
import Derived.RowKit
import Derived.Test.YthkblefeifdhaaaDoorHWhole
import Derived.Test.YthkblefeifdhaaaDoorXRunes
import Derived.Test.YthkblefeifdhaaaDoorWWords
import Derived.Test.YthkblefeifdhaaaDoorWLast
import Derived.Test.YthkblefeifdhaaaDoorWTab
import Derived.Test.YthkblefeifdhaaaDoorWFour
import Derived.Test.YthkblefeifdhaaaDoorWQPut
import Derived.Test.YthkblefeifdhaaaDoorWApart
import Derived.Test.YthkblefeifdhaaaDoorWArr
import Derived.Test.YthkblefeifdhaaaDoorWZeros
import Derived.Test.YthkblefeifdhaaaDoorWFoot
import Derived.Test.YthkblefeifdhaaaDoorWKept
import Derived.Test.YthkblefeifdhaaaDoorWShare
import Derived.Test.YthkblefeifdhaaaDoorWN
import Derived.Test.YthkblefeifdhaaaDoorWFootNe
import Derived.Test.YthkblefeifdhaaaDoorWAt
import Derived.Test.YthkblefeifdhaaaDoorWEqStruct
import Derived.Test.YthkblefeifdhaaaDoorWRepsOne
import Derived.Test.YthkblefeifdhaaaDoorWInv
import Derived.Test.YthkblefeifdhaaaDoorWInvWords
import Derived.Test.YthkblefeifdhaaaDoorWGuard
import Derived.Test.YthkblefeifdhaaaDoorWNEv
import Derived.Test.YthkblefeifdhaaaDoorWMore
namespace Go.Proofs.YthkblefeifdhaaaDoor.PFnSameRunes
open Go.RowKit Go.Proofs.YthkblefeifdhaaaDoor.H Go.Proofs.YthkblefeifdhaaaDoor.R Go.Proofs.YthkblefeifdhaaaDoorW.PrintWords Go.Proofs.YthkblefeifdhaaaDoorW.PrintLast Go.Proofs.YthkblefeifdhaaaDoorW.PrintMore
attribute [local go_sem] max2_int min2_int max_two min_two max_three min_three max_four min_four   -- for this text's walks alone
set_option linter.unusedVariables false
set_option linter.unusedSimpArgs false



def errW : Option Int → Value
  | none => .nilIface
  | some c => .iface 0 (.int .i64 c)
theorem errW_none : errW none = .nilIface := rfl
theorem errW_some (c : Int) : errW (some c) = .iface 0 (.int .i64 c) := rfl

theorem info9 : (Tryd.prog.info? 9).map (fun i => (i.zero, i.size, i.bytes)) = some (some (.string ⟨#[]⟩), 1, 16) := by kernel_rfl
theorem info21 : (Tryd.prog.info? 21).map (fun i => (i.zero, i.size, i.bytes)) = some (some (.int .i32 0), 1, 4) := by kernel_rfl
-- the values' own types

end Go.Proofs.YthkblefeifdhaaaDoor.PFnSameRunes
