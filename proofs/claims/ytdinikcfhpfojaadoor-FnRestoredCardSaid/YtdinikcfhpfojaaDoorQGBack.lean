/- A line that is backed up and restored (RuneBuffer.Backup, Restore): what each makes of the buffer; no condition. -/
import Derived.Test.YtdinikcfhpfojaaDoorQGKeyed1
namespace Go.Proofs.YtdinikcfhpfojaaDoor.G
open Go.RowKit Go.Proofs.YtdinikcfhpfojaaDoor.H Go.Proofs.YtdinikcfhpfojaaDoorW.PrintWords Go.Proofs.YtdinikcfhpfojaaDoorW.PrintLast Go.Proofs.YtdinikcfhpfojaaDoor.R
set_option linter.unusedVariables false
set_option linter.unusedSimpArgs false
attribute [local go_sem ↓] Go.wp_at_zero Go.wp_at_succ
/-- The rest of the buffer, with a backup. -/
def Rest.bck (r : Rest) (v : Value) : Rest := { r with p8 := v }
set_option maxHeartbeats 2000000 in
theorem Backup_calls (m : Nat) (A : Option Addr) (n c : Nat) (kv : Value) (i : Nat) (r : Rest) (w : World) (hm : Rec w m (rbc (.slice A n c) i r kv) 89) (B : Nat) (hB : B ≤ m) :
    Calls Tryd.prog 38 #[Pt m] w fun e w' => e = .returned (.tuple #[]) ∧ Rec w' m (rbc (.slice A n c) i (r.bck (Pt w.heap.size)) kv) 89 ∧ Rec w' w.heap.size [.slice A n c, .int .i64 i] 99 ∧ Fr B (At m) w w' := by
  have k0 := hm.cell 0 rfl
  have k1 := hm.cell 1 rfl
  have hml := hm.lt
  have k8 := hm.cell 8 rfl
  have z8 := hm.free 8
  go_enter Tryd.func38, Tryd.ntmps38
  go_wp2
  go_region
  go_end0
  exact ⟨rfl, ((hm.set 8 (Pt w.heap.size)).alloc _).drew, (Rec.at_ _ [.slice A n c, .int .i64 i] 99 (by simp)).drew, ((fr_idx0 hB 8 (Pt w.heap.size)).alloc (by simp; omega) _).drew⟩
set_option maxHeartbeats 2000000 in
theorem restore_closure (q m b : Nat) (bv kv : Value) (A : Option Addr) (n c : Nat) (i j : Nat) (r : Rest) (w : World) (ho : One w q (Pt m) 68) (hm : Rec w m (rbc bv i (r.bck (Pt b)) kv) 89) (hb : Rec w b [.slice A n c, .int .i64 j] 99) (hqm : q ≠ m) (hbm : b ≠ m) (B : Nat) (hB : B ≤ m) :
    Calls Tryd.prog 76 #[Pt q] w fun e w' => e = .returned (.tuple #[]) ∧ Rec w' m (rbc (.slice A n c) j (r.bck (Pt b)) kv) 89 ∧ Fr B (At m) w w' := by
  have c0 := ho.cell
  have k8 : w.cell? ⟨m, 8, none⟩ = some (Pt b) := hm.cell 8 rfl
  have b0 := hb.cell 0 rfl
  have z0 := hm.free 0
  have k0 := hm.cell 0 rfl
  have hm1 := hm.set 0 (.slice A n c)
  have k1 := hm1.cell 1 rfl
  have b1 := (hb.other (a := ⟨m, 0, none⟩) (by show b ≠ m; exact hbm) (.slice A n c)).cell 1 rfl
  have z1 := hm1.free 1
  have k8' : (w.setCell ⟨m, 0, none⟩ (.slice A n c)).cell? ⟨m, 8, none⟩ = some (Pt b) := hm1.cell 8 rfl
  have c1 := (ho.other (a := ⟨m, 0, none⟩) (by show q ≠ m; exact hqm) (.slice A n c)).cell
  have HX := Lib.hid (And.intro (((hm1.set 1 (.int .i64 j)).drew).drew) (((fr_at (fr_idx0 hB 0 (.slice A n c)) hB 1 (.int .i64 j)).drew).drew : Fr B (At m) w _))
  clear hm hm1 hb ho
  go_enter Tryd.func76, Tryd.ntmps76
  go_wp2
  go_region
  go_wp2
  go_region
  go_end0
  exact ⟨rfl, HX.out⟩
theorem enter76 (args : Array Value) (w : World) : (callFunc 76 args).run Tryd.prog w = .ok (.enter 76 args) w := enters (P := Tryd.prog) Tryd.func76 (by kernel_rfl) rfl args w
set_option maxHeartbeats 2000000 in
theorem Restore_calls (m b : Nat) (bv kv : Value) (A : Option Addr) (n c : Nat) (i j : Nat) (r : Rest) (w : World) (hm : Rec w m (rbc bv i (r.bck (Pt b)) kv) 89) (hb : Rec w b [.slice A n c, .int .i64 j] 99) (hbm : b ≠ m) (B : Nat) (hB : B ≤ m) :
    Calls Tryd.prog 42 #[Pt m] w fun e w' => e = .returned (.tuple #[]) ∧ Rec w' m (rbc (.slice A n c) j (r.bck (Pt b)) kv) 89 ∧ Fr B (At m) w w' := by
  have ho := One.new w (Pt m) 68
  have hml := hm.lt
  have HC := Lib.hid (Refresh_calls 76 #[Pt w.heap.size] (Pt m) _ _ enter76 (restore_closure w.heap.size m b bv kv A n c i j r _ ho (hm.alloc _) (hb.alloc _) (by omega) hbm B hB))
  have c0 := ho.cell
  have hmf := made_f
  clear ho hm hb
  go_enter Tryd.func42, Tryd.ntmps42
  go_wp2_with (go_at_call 60; refine HC.out.mono ?_; rintro e w1 ⟨rfl, hR, hF⟩)
  go_end0
  exact ⟨rfl, hR, Fr.narrow ((Below.refl _ _).alloc (Nat.le_refl _) _) hF (by omega) (fun _ _ h => h)⟩
end Go.Proofs.YtdinikcfhpfojaaDoor.G
