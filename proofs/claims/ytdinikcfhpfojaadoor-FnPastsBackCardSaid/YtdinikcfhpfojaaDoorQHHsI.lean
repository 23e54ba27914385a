/- Steps over a history (impl.Pasts): the contract; New of ASCII texts of at most 100000 bytes, that are not empty and not the last one, at most 1000; Prev, Next where there is a text. -/
import Derived.Test.YtdinikcfhpfojaaDoorQHHsH
namespace Go.Proofs.YtdinikcfhpfojaaDoor.H
open Go.RowKit Go.Proofs.YtdinikcfhpfojaaDoorW.PrintWords Go.Proofs.YtdinikcfhpfojaaDoorW.PrintLast Go.Proofs.YtdinikcfhpfojaaDoor.R Go.Proofs.YtdinikcfhpfojaaDoor.X Go.Proofs.YtdinikcfhpfojaaDoor.PFnPastsBack
set_option linter.unusedVariables false
set_option linter.unusedSimpArgs false
attribute [local go_sem ↓] Go.wp_at_zero Go.wp_at_succ
set_option maxRecDepth 100000 in
theorem Init_calls (lb : Nat) (w : World) (h : Rec w lb [.pointer none, .pointer none, .pointer none, .nilIface, .int .i64 0] 157) : Calls Tryd.prog 165 #[PtS lb] w fun e w' => e = .returned (PtS lb) ∧ Rec w' lb (lsC lb lb 0) 157 ∧ (∀ B, B ≤ lb → Below B w w') ∧ w'.heap.size = w.heap.size := by
  have l0 := h.cell 0 rfl
  have l1 := h.cell 1 rfl
  have l4 := h.cell 4 rfl
  have g0 := h.free 0
  have g1 := h.free 1
  have g4 := h.free 4
  have HL := Lib.hid h
  clear h
  go_enter Tryd.func165, Tryd.ntmps165
  go_wp2
  go_ret
  exact ⟨rfl, ((HL.out.set 0 (PtS lb)).set 1 (PtS lb)).set 4 (.int .i64 0), fun B hB => (((Below.refl B w).setCell hB _).setCell hB _).setCell hB _, by simp⟩
theorem List_new (w : World) : Calls Tryd.prog 127 #[] w fun e w' => e = .returned (PtS w.heap.size) ∧ Rec w' w.heap.size (lsC w.heap.size w.heap.size 0) 157 ∧ Below w.heap.size w w' ∧ w'.heap.size = w.heap.size + 1 := by
  have H := Lib.hid (Init_calls w.heap.size _ (Rec.new w [.pointer none, .pointer none, .pointer none, .nilIface, .int .i64 0] 157))
  go_enter Tryd.func127, Tryd.ntmps127
  go_wp2_with fail
  refine H.out.mono ?_
  rintro e w1 ⟨rfl, h1, h2, h3⟩
  have HR := Lib.hid (And.intro h1 (And.intro h2 h3))
  clear h1 h2 h3
  go_wp2_with fail
  go_ret
  exact ⟨rfl, HR.out.1, ((Below.refl _ _).alloc (Nat.le_refl _) _).trans (HR.out.2.1 _ (Nat.le_refl _)), by rw [HR.out.2.2]; simp⟩
theorem New_op (B cb : Nat) (lim : Int) (fold : Bool) (w : World) (hc : Rec w cb [.int .i64 lim, .bool fold, .bool false, .int .i32 0] 71) (hB : B ≤ cb) (hBw : B ≤ w.heap.size) :
    Calls Tryd.prog 80 #[PtS cb] w fun e w' => ∃ ob lb, e = .returned (PtS ob) ∧ Sta B w' ob lb cb lim fold ⟨[], 0⟩ ∧ Below w.heap.size w w' := by
  have HC := Lib.hid hc
  clear hc
  go_enter Tryd.func80, Tryd.ntmps80
  go_wp2_with fail
  refine (List_new w).mono ?_
  rintro e w1 ⟨rfl, h1, h2, h3⟩
  have HR := Lib.hid (And.intro h1 (And.intro h2 h3))
  clear h1 h2 h3
  go_wp2_with fail
  go_ret
  have hz := HR.out.2.2
  have hb1 : Below w1.heap.size w1 (w1.alloc (.cells #[PtS cb, PtS w.heap.size, .int .i64 0, .pointer none, .bool true] 127)) := (Below.refl _ _).alloc (Nat.le_refl _) _
  refine ⟨w1.heap.size, w.heap.size, rfl, ⟨0, fun _ => 0, fun _ => 0, fun _ => [], fun _ => 0, .pointer none, 0, ⟨Rec.new w1 [PtS cb, PtS w.heap.size, .int .i64 0, .pointer none, .bool true] 127, (HC.out.stays HR.out.2.1).stays hb1, HR.out.1.stays hb1, fun i hi => by omega, fun i hi => by omega, fun i j hi => by omega, fun i j hi => by omega, by omega, hBw, hB⟩, ⟨fun _ => ⟨rfl, rfl, rfl⟩, fun h => absurd rfl h, by simp, by simp⟩⟩, HR.out.2.1.trans (hb1.mono (by omega))⟩
theorem NewHistory_calls (B cb : Nat) (lim : Int) (fold : Bool) (w : World) (hc : Rec w cb [.int .i64 lim, .bool fold, .bool false, .int .i32 0] 71) (hB : B ≤ cb) (hBw : B ≤ w.heap.size) :
    Calls Tryd.prog 48 #[PtS cb] w fun e w' => ∃ ob lb, e = .returned (.agg #[PtS ob]) ∧ Sta B w' ob lb cb lim fold ⟨[], 0⟩ ∧ Below w.heap.size w w' := by
  have hb : Below w.heap.size w (w.alloc (.cells #[.pointer none] 82)) := (Below.refl _ _).alloc (Nat.le_refl _) _
  have H := Lib.hid (New_op B cb lim fold _ (hc.stays hb) hB (by simp; omega))
  have HN := Lib.hid (One.new w (.pointer none) 82)
  have HB := Lib.hid hb
  clear hc hb
  go_enter Tryd.func48, Tryd.ntmps48
  go_wp2_with fail
  refine H.out.mono ?_
  rintro e w1 ⟨ob, lb, rfl, h1, h2⟩
  have HR := Lib.hid (And.intro h1 h2)
  clear h1 h2
  have on := HN.out.stays HR.out.2
  have c0 := on.cell
  have f0 := on.free
  have HO := Lib.hid on
  clear on
  go_wp2_with fail
  have on2 := One.set HO.out (PtS ob)
  have q0 := on2.cell
  refine bodyPost_ret (v := .agg #[PtS ob]) (by simp [results, Tryd.results48, go_sem, q0]) rfl ?_
  exact ⟨ob, lb, rfl, HR.out.1.set (One.rec HO.out) (by decide) 0 _, (HB.out.trans (HR.out.2.mono (by simp))).setCell (Nat.le_refl _) _⟩
theorem enter49 : ∀ args w, (callFunc 49 args).run Tryd.prog w = .ok (.enter 49 args) w := fun args w => enters_ Tryd.func49 (by kernel_rfl) rfl args w
set_option maxRecDepth 100000 in
set_option maxHeartbeats 16000000 in
theorem Pasts_calls (A : Option Addr) (c : Nat) (l : List S50) (lim : Int) (fold : Bool) (rs : List S56) (w : World) (hr : Kd.C k50 w A l.length l) (hc : l.length ≤ c) (hl : l.length ≤ 100000) (hrun : runP lim ⟨[], 0⟩ l = some rs) :
    Calls Tryd.prog 27 #[.slice A l.length c, .int .i64 lim, .bool fold] w fun e w' => ∃ v, e = .returned (.tuple #[v, .bool true]) ∧ Kd.R k56 56 w' w.heap.size (fun _ => True) v rs ∧ Below w.heap.size w w' := by
  obtain ⟨wA, hwA⟩ : ∃ wA, wA = ((w.alloc (.cells #[.slice A l.length c] 48)).alloc (.cells #[.slice none 0 0] 52)).alloc (.cells #[.int .i64 lim, .bool fold, .bool false, .int .i32 0] 71) := ⟨_, rfl⟩
  have hbA : Below w.heap.size w wA := hwA ▸ (((Below.refl _ _).alloc (Nat.le_refl _) _).alloc (by simp) _).alloc (by simp; omega) _
  have hzA : wA.heap.size = w.heap.size + 3 := by rw [hwA]; simp
  have o0 : One wA w.heap.size (.slice A l.length c) 48 := hwA ▸ ((One.new w (.slice A l.length c) 48).alloc _).alloc _
  have o1 : One wA (w.heap.size + 1) (.slice none 0 0) 52 := hwA ▸ (One.at_ (b := w.heap.size + 1) (w.alloc (.cells #[.slice A l.length c] 48)) (.slice none 0 0) 52 (by simp)).alloc _
  have o2 : Rec wA (w.heap.size + 2) [.int .i64 lim, .bool fold, .bool false, .int .i32 0] 71 := hwA ▸ Rec.at_ (b := w.heap.size + 2) ((w.alloc (.cells #[.slice A l.length c] 48)).alloc (.cells #[.slice none 0 0] 52)) _ 71 (by simp)
  have HA := Lib.hid (And.intro hbA (And.intro o0 o1))
  have HN := Lib.hid (NewHistory_calls w.heap.size (w.heap.size + 2) lim fold wA o2 (by omega) (by omega))
  have HR := Lib.hid (And.intro hr hrun)
  clear hbA o0 o1 o2 hr hrun
  go_enter Tryd.func27, Tryd.ntmps27
  go_wp2_with fail
  try rw [← hwA]
  rw [show w.heap.size + 1 + 1 = w.heap.size + 2 from rfl]
  have HzA := Lib.hid hzA
  clear hwA hzA
  refine HN.out.mono ?_
  rintro e w1 ⟨ob, lb, rfl, h1, h2⟩
  have H1 := Lib.hid (And.intro h1 h2)
  clear h1 h2
  go_wp2_with fail
  have hz1 := H1.out.2.size
  have bc : Below w1.heap.size w1 (((w1.alloc (.cells #[PtS ob] 82)).alloc (.cells #[.bool true] 4)).alloc (.cells #[.bool false] 4)) := (((Below.refl _ _).alloc (Nat.le_refl _) _).alloc (by simp) _).alloc (by simp; omega) _
  have hzc : ((w1.alloc (.cells #[PtS ob] 82)).alloc (.cells #[.bool true] 4)).heap.size = w1.heap.size + 2 := by simp
  have oh : One (((w1.alloc (.cells #[PtS ob] 82)).alloc (.cells #[.bool true] 4)).alloc (.cells #[.bool false] 4)) w1.heap.size (PtS ob) 82 := ((One.new w1 (PtS ob) 82).alloc _).alloc _
  have of_ : One (((w1.alloc (.cells #[PtS ob] 82)).alloc (.cells #[.bool true] 4)).alloc (.cells #[.bool false] 4)) (w1.heap.size + 1) (.bool true) 4 := (One.at_ (b := w1.heap.size + 1) (w1.alloc (.cells #[PtS ob] 82)) (.bool true) 4 (by simp)).alloc _
  have oz : One (((w1.alloc (.cells #[PtS ob] 82)).alloc (.cells #[.bool true] 4)).alloc (.cells #[.bool false] 4)) (w1.heap.size + 2) (.bool false) 4 := One.at_ (b := w1.heap.size + 2) ((w1.alloc (.cells #[PtS ob] 82)).alloc (.cells #[.bool true] 4)) (.bool false) 4 hzc.symm
  have hzA := HzA.out
  have bw : Below w.heap.size w (((w1.alloc (.cells #[PtS ob] 82)).alloc (.cells #[.bool true] 4)).alloc (.cells #[.bool false] 4)) := (HA.out.1.trans (H1.out.2.mono (by omega))).trans (bc.mono (by omega))
  have HCL := Lib.hid (closure49_calls w.heap.size w _ ob lb (w.heap.size + 2) lim fold w.heap.size w1.heap.size (w1.heap.size + 1) (w.heap.size + 1) A c l rs HR.out.1 hc hl (Nat.le_refl _)
    ⟨H1.out.1.stays bc, (HA.out.2.1.stays H1.out.2).stays bc, oh, of_, (HA.out.2.2.stays H1.out.2).stays bc, Kd.R_nil k56 56 _ _ _, bw⟩ bw.size ⟨by omega, by omega, by omega, by omega⟩ HR.out.2)
  have HZ := Lib.hid oz
  clear bc oh of_ oz bw
  refine (caught_calls 49 _ _ (fun w' => ∃ v, One w' (w1.heap.size + 1) (.bool true) 4 ∧ One w' (w.heap.size + 1) v 52 ∧ Kd.R k56 56 w' w.heap.size (fun _ => True) v rs ∧ Below w.heap.size w w') enter49 ?_).mono ?_
  · refine HCL.out.mono ?_
    rintro e w5 ⟨rfl, v, h1, h2, h3, h4, h5⟩
    rw [hzc]
    exact ⟨rfl, h5 _ _ HZ.out (by omega), v, h1, h2, h3, h4⟩
  rintro e w6 ⟨rfl, w5, ⟨v, h1, h2, h3, h4⟩, h6, rfl⟩
  rw [hzc] at h6 ⊢
  obtain ⟨T5, c5, rfl⟩ := Kd.R_slice h3
  have p1 := h1.other (a := ⟨w1.heap.size + 2, 0, none⟩) (by show w1.heap.size + 1 ≠ w1.heap.size + 2; omega) (.bool true)
  have p2 := h2.other (a := ⟨w1.heap.size + 2, 0, none⟩) (by show w.heap.size + 1 ≠ w1.heap.size + 2; omega) (.bool true)
  have p3 := Kd.R_set h3 (g := w1.heap.size + 2) h6 (E56 (by decide)) 0 (.bool true)
  have p4 : Below w.heap.size w (w5.setCell ⟨w1.heap.size + 2, 0, none⟩ (.bool true)) := h4.setCell (by show w.heap.size ≤ w1.heap.size + 2; omega) _
  obtain ⟨wC, hwC⟩ : ∃ wC, wC = w5.setCell ⟨w1.heap.size + 2, 0, none⟩ (.bool true) := ⟨_, rfl⟩
  rw [← hwC] at p1 p2 p3 p4 ⊢
  clear hwC h1 h2 h3 h4 h6
  have d1 := p1.cell
  have d2 := p2.cell
  have d3 := p2.free
  have HP := Lib.hid (And.intro p2 (And.intro p3 p4))
  clear p1 p2 p3 p4
  go_wp2_with fail
  have HS2 := One.set HP.out.1 (.slice T5 rs.length c5)
  have q0 := HS2.cell
  refine bodyPost_ret (v := .tuple #[.slice T5 rs.length c5, .bool true]) (by simp [results, Tryd.results27, go_sem, q0]) rfl ?_
  exact ⟨_, rfl, Kd.R_set HP.out.2.1 (g := w.heap.size + 1) HP.out.1 (E56 (by decide)) 0 _, HP.out.2.2.setCell (by show w.heap.size ≤ w.heap.size + 1; omega) _⟩
/-- For runs of steps of which each may be done. -/
def impl_Pasts.f (l : List S50) (lim : Int) (fold : Bool) : Option (List S56 × Bool) := if l.length ≤ 100000 then (runP lim ⟨[], 0⟩ l).bind fun rs => some (rs, true) else none
theorem impl_Pasts.calls (A : Option Addr) (c : Nat) (l : List S50) (lim : Int) (fold : Bool) (r1 : List S56) (r2 : Bool) (w : World) (hr : Kd.C k50 w A l.length l) (hc : l.length ≤ c) (h : impl_Pasts.f l lim fold = some (r1, r2)) :
    Calls Tryd.prog 27 #[.slice A l.length c, .int .i64 lim, .bool fold] w fun e w' => ∃ v, e = .returned (.tuple #[v, .bool r2]) ∧ Kd.R k56 56 w' w.heap.size (fun _ => True) v r1 ∧ Below w.heap.size w w' := by
  unfold impl_Pasts.f at h
  by_cases hl : l.length ≤ 100000
  · rw [if_pos hl] at h
    obtain ⟨rs, hrs, h⟩ := Option.bind_eq_some_iff.mp h
    have h := Option.some.inj h
    simp only [Prod.mk.injEq] at h
    obtain ⟨rfl, rfl⟩ := h
    exact Pasts_calls A c l lim fold rs w hr hc hl hrs
  · rw [if_neg hl] at h; cases h
end Go.Proofs.YtdinikcfhpfojaaDoor.H
