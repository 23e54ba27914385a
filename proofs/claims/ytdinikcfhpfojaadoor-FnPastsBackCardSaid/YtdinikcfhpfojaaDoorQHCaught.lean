/- A function that is run by impl.caught and does not panic: caught answers true, and nothing else is turned. The contract takes the closure's own contract; no other condition. -/
import Derived.Test.YtdinikcfhpfojaaDoorQHBase
namespace Go.Proofs.YtdinikcfhpfojaaDoor.H
open Go.RowKit
set_option linter.unusedVariables false
set_option linter.unusedSimpArgs false
theorem caught_idle (p : Addr) (w : World) :
    CallsD Tryd.prog 62 #[.pointer (some p)] .returning w fun e u' w' => e = .returned (.tuple #[]) ∧ u' = .returning ∧ w' = w := by
  refine callsD_of_wpS Tryd.func62 rfl fun c₀ cs hu => ?_
  apply wpS_seq
  apply wpS_region
  simp [wpOpsS, go_sem, recoverD, hu, Tryd.ntmps62, Exit.thenS]
  refine wpS_cond (t := false) (by simp [Act.eval, Array.replicate]) ?_
  simp only [Bool.false_eq_true, if_false]
  refine wpS_of_wp (wp_skip ?_)
  cases c₀
  simp_all [bodyPostS, results, Tryd.results62]
set_option maxHeartbeats 1000000 in
theorem caught_calls (g : Nat) (caps : Array Value) (w : World) (R : World → Prop)
    (hcf : ∀ args w, (callFunc g args).run Tryd.prog w = .ok (.enter g args) w)
    (hg : Calls Tryd.prog g caps (w.alloc (.cells #[.bool false] 4)) fun e w' => e = .returned (.tuple #[]) ∧ One w' w.heap.size (.bool false) 4 ∧ R w') :
    Calls Tryd.prog 39 #[.func (.func g) #[] caps] w fun e w' => e = .returned (.bool true) ∧ ∃ w1, R w1 ∧ One w1 w.heap.size (.bool false) 4 ∧ w' = w1.setCell ⟨w.heap.size, 0, none⟩ (.bool true) := by
  have hmf : ∀ (fn : Fn) (first cap : Array Value) (w : World), (Instr.makeFunc fn first cap).run Tryd.prog w = .ok (.func fn first cap) w := fun _ _ _ _ => rfl
  have HG := Lib.hid hg
  clear hg
  go_enter_defers Tryd.func39, Tryd.ntmps39
  go_wp2_with (refine HG.out.mono ?_; rintro e w1 ⟨rfl, hc1, hR1⟩; have hc := hc1.cell; have hz := hc1.free)
  have hc2 : (w1.setCell ⟨w.heap.size, 0, none⟩ (.bool true)).heap[w.heap.size]? = some (.cells #[.bool true] 4 (0, 0)) := one_setCell hc1
  have hc3 := cell_of_one hc2
  have HX : R w1 ∧ True := ⟨hR1, trivial⟩
  refine leaves_cons (f := 62) (args := #[.pointer (some ⟨w.heap.size, 0, none⟩)]) (by simp) (by simp [go_sem]) ?_
  refine (caught_idle ⟨w.heap.size, 0, none⟩ _).mono ?_
  rintro e u' w'' ⟨rfl, rfl, rfl⟩
  simp [Leaves, settle, results, Tryd.results39, go_sem, hc3]
  exact ⟨w1, hR1, hc1, rfl⟩
end Go.Proofs.YtdinikcfhpfojaaDoor.H
