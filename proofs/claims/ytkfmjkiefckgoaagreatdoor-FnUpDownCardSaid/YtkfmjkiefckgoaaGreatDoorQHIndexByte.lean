/- The first place of a byte in a text (strings.IndexByte): what it tells; no condition. -/
import Derived.Test.YtkfmjkiefckgoaaGreatDoorQHBase
import Derived.Laws.StandIn
namespace Go.Proofs.YtkfmjkiefckgoaaGreatDoor.H
open Go.RowKit Go.Proofs.YtkfmjkiefckgoaaGreatDoorW.PrintWords Go.Proofs.YtkfmjkiefckgoaaGreatDoorW.PrintLast
set_option linter.unusedVariables false
set_option linter.unusedSimpArgs false
def strings_IndexByte.f (a0 : ByteArray) (a1 : Int) : Option Int := some (firstIdx a0 a1.toNat.toUInt8)
theorem indexByte_run (s : ByteArray) (c : Int) (w : World) : (callFunc 126 #[.string s, .int .u8 c]).run Tryz.prog w = .ok (.value (.int .i64 (firstIdx s c.toNat.toUInt8))) w := by
  rw [run_callFunc_indexByte Tryz.func126 (by kernel_rfl) (by kernel_rfl) (by kernel_rfl) (by kernel_rfl), run_indexByte_string]
  rfl
set_option maxHeartbeats 1000000 in
theorem lite_IndexByte_calls (s : ByteArray) (c : Int) (w : World) : Calls Tryz.prog 119 #[.string s, .int .u8 c] w fun e w' => e = .returned (.int .i64 (firstIdx s c.toNat.toUInt8)) ∧ w' = w := by
  have h := fun w => indexByte_run s c w
  go_enter Tryz.func119, Tryz.ntmps119
  go_wp2
  go_ret
  exact ⟨rfl, rfl⟩
set_option maxHeartbeats 1000000 in
theorem strings_IndexByte.calls (a0 : ByteArray) (a1 : Int) (r : Int) (w : World) (h : strings_IndexByte.f a0 a1 = some r) :
    Calls Tryz.prog 93 #[.string a0, .int .u8 a1] w fun e w' => e = .returned (.int .i64 r) ∧ Below w.heap.size w w' := by
  obtain rfl := Option.some.inj h
  go_enter Tryz.func93, Tryz.ntmps93
  go_wp2_with (go_at_call 119; refine (lite_IndexByte_calls _ _ _).mono ?_; rintro e w' ⟨rfl, rfl⟩)
  go_ret
  exact ⟨rfl, Below.refl _ _⟩
end Go.Proofs.YtkfmjkiefckgoaaGreatDoor.H
