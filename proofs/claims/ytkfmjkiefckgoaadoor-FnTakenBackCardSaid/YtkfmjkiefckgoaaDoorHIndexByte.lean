/- The first place of a byte in a text (strings.IndexByte): what it tells; no condition. -/
import Derived.Test.YtkfmjkiefckgoaaDoorHBase
import Derived.Laws.StandIn
namespace Go.Proofs.YtkfmjkiefckgoaaDoor.H
open Go.RowKit Go.Proofs.YtkfmjkiefckgoaaDoorW.PrintWords Go.Proofs.YtkfmjkiefckgoaaDoorW.PrintLast
set_option linter.unusedVariables false
set_option linter.unusedSimpArgs false
def strings_IndexByte.f (a0 : ByteArray) (a1 : Int) : Option Int := some (firstIdx a0 a1.toNat.toUInt8)
theorem indexByte_run (s : ByteArray) (c : Int) (w : World) : (callFunc 95 #[.string s, .int .u8 c]).run Tryd.prog w = .ok (.value (.int .i64 (firstIdx s c.toNat.toUInt8))) w := by
  rw [run_callFunc_indexByte Tryd.func95 (by kernel_rfl) (by kernel_rfl) (by kernel_rfl) (by kernel_rfl), run_indexByte_string]
  rfl
set_option maxHeartbeats 1000000 in
theorem lite_IndexByte_calls (s : ByteArray) (c : Int) (w : World) : Calls Tryd.prog 89 #[.string s, .int .u8 c] w fun e w' => e = .returned (.int .i64 (firstIdx s c.toNat.toUInt8)) ∧ w' = w := by
  have h := fun w => indexByte_run s c w
  go_enter Tryd.func89, Tryd.ntmps89
  go_wp2
  go_ret
  exact ⟨rfl, rfl⟩
set_option maxHeartbeats 1000000 in
theorem strings_IndexByte.calls (a0 : ByteArray) (a1 : Int) (r : Int) (w : World) (h : strings_IndexByte.f a0 a1 = some r) :
    Calls Tryd.prog 66 #[.string a0, .int .u8 a1] w fun e w' => e = .returned (.int .i64 r) ∧ Below w.heap.size w w' := by
  obtain rfl := Option.some.inj h
  go_enter Tryd.func66, Tryd.ntmps66
  go_wp2_with (go_at_call 89; refine (lite_IndexByte_calls _ _ _).mono ?_; rintro e w' ⟨rfl, rfl⟩)
  go_ret
  exact ⟨rfl, Below.refl _ _⟩
end Go.Proofs.YtkfmjkiefckgoaaDoor.H
