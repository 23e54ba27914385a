/- Printed by a program of this seat (xprint) out of the translation: Go functions as plain functions, and the walks that show them; no condition. -/
import Derived.Test.YtdinikcfhpfojaaDoorQPDox0
import Derived.Test.YtdinikcfhpfojaaDoorQHWhole
import Derived.Test.YtdinikcfhpfojaaDoorQPDox1
import Derived.Test.YtdinikcfhpfojaaDoorQPDox2
namespace Go.Proofs.YtdinikcfhpfojaaDoor.PDo
open Go.RowKit Go.Proofs.YtdinikcfhpfojaaDoor.H Go.Proofs.YtdinikcfhpfojaaDoor.R Go.Proofs.YtdinikcfhpfojaaDoorW.PrintWords Go.Proofs.YtdinikcfhpfojaaDoorW.PrintLast Go.Proofs.YtdinikcfhpfojaaDoorW.PrintMore
attribute [local go_sem] max2_int min2_int max_two min_two max_three min_three max_four min_four   -- for this text's walks alone
set_option linter.unusedVariables false
set_option linter.unusedSimpArgs false
/-! ### spec_Editor_moveTo: function 96 -/
mutual
def spec_Editor_moveTo.j0 : Nat → Int → Bool → Int → Int → List Int → Int → List Int → Bool → Bool → Option (Bool × Int × Bool × Bool)
  | 0, _, _, _, _, _, _, _, _, _ => none
  | k + 1, x1, x2, x9, x10, x1000, x1001, x1002, x1003, x1004 => spec_Editor_moveTo.l0 k x1 x2 x9 x10 x1000 x1001 x1002 x1003 x1004
def spec_Editor_moveTo.l0 : Nat → Int → Bool → Int → Int → List Int → Int → List Int → Bool → Bool → Option (Bool × Int × Bool × Bool)
  | 0, _, _, _, _, _, _, _, _, _ => none
  | k + 1, x1, x2, x9, x10, x1000, x1001, x1002, x1003, x1004 => if x10 ≥ 0 then (spec_Editor_moveTo.j2 k x1 x2 x9 x10 (decide (x10 < (x1000.length : Int))) x1000 x1001 x1002 x1003 x1004) else (spec_Editor_moveTo.j2 k x1 x2 x9 x10 false x1000 x1001 x1002 x1003 x1004)
def spec_Editor_moveTo.j2 : Nat → Int → Bool → Int → Int → Bool → List Int → Int → List Int → Bool → Bool → Option (Bool × Int × Bool × Bool)
  | 0, _, _, _, _, _, _, _, _, _, _ => none
  | k + 1, x1, x2, x9, x10, x32, x1000, x1001, x1002, x1003, x1004 => if x32 = true then (if 0 ≤ x10 then (if x10 < (x1000.length : Int) then (if (rd x1000 x10) = x1 then (if x2 = true then (some (true, wrap64 (x10 - x9), x1003, x1004)) else (some (true, x10, x1003, x1004))) else (spec_Editor_moveTo.l0 k x1 x2 x9 (wrap64 (x10 + x9)) x1000 x1001 x1002 x1003 x1004)) else (none)) else (none)) else (some (false, x1001, x1003, x1004))
end
def spec_Editor_moveTo.f (k : Nat) (s0_0 : List Int) (s0_1 : Int) (s0_2 : List Int) (s0_3 : Bool) (s0_4 : Bool) (a1 : Int) (a2 : Bool) (a3 : Bool) : Option (Bool × Int × Bool × Bool) := if a3 = true then (spec_Editor_moveTo.j0 k a1 a2 (-1) (wrap64 (s0_1 - 1)) s0_0 s0_1 s0_2 s0_3 s0_4) else (spec_Editor_moveTo.j0 k a1 a2 1 (wrap64 (s0_1 + 1)) s0_0 s0_1 s0_2 s0_3 s0_4)
theorem spec_Editor_moveTo.mono_l : ∀ k, (∀ y0 y1 y2 y3 y4 y5 y6 y7 y8, LeO (spec_Editor_moveTo.j0 k y0 y1 y2 y3 y4 y5 y6 y7 y8) (spec_Editor_moveTo.j0 (k + 1) y0 y1 y2 y3 y4 y5 y6 y7 y8)) ∧ (∀ y0 y1 y2 y3 y4 y5 y6 y7 y8, LeO (spec_Editor_moveTo.l0 k y0 y1 y2 y3 y4 y5 y6 y7 y8) (spec_Editor_moveTo.l0 (k + 1) y0 y1 y2 y3 y4 y5 y6 y7 y8)) ∧ (∀ y0 y1 y2 y3 y4 y5 y6 y7 y8 y9, LeO (spec_Editor_moveTo.j2 k y0 y1 y2 y3 y4 y5 y6 y7 y8 y9) (spec_Editor_moveTo.j2 (k + 1) y0 y1 y2 y3 y4 y5 y6 y7 y8 y9))
  | 0 => ⟨fun _ _ _ _ _ _ _ _ _ r h => by simp [spec_Editor_moveTo.j0] at h, fun _ _ _ _ _ _ _ _ _ r h => by simp [spec_Editor_moveTo.l0] at h, fun _ _ _ _ _ _ _ _ _ _ r h => by simp [spec_Editor_moveTo.j2] at h⟩
  | k + 1 => by
    obtain ⟨ih0, ih1, ih2⟩ := spec_Editor_moveTo.mono_l k
    refine ⟨?_, ?_, ?_⟩
    · intro y0 y1 y2 y3 y4 y5 y6 y7 y8
      unfold spec_Editor_moveTo.j0
      repeat' first
      | (with_reducible exact ih0 _ _ _ _ _ _ _ _ _)
      | (with_reducible exact ih1 _ _ _ _ _ _ _ _ _)
      | (with_reducible exact ih2 _ _ _ _ _ _ _ _ _ _)
      | (with_reducible exact LeO.refl _)
      | (with_reducible exact LeO.none _)
      | (with_reducible refine LeO.ite ?_ ?_)
      | (with_reducible refine LeO.bind ?_ (fun _ => ?_))
      | exact ih0 _ _ _ _ _ _ _ _ _
      | exact ih1 _ _ _ _ _ _ _ _ _
      | exact ih2 _ _ _ _ _ _ _ _ _ _
      | exact LeO.none _
      | refine LeO.ite ?_ ?_
      | refine LeO.bind ?_ (fun _ => ?_)
    · intro y0 y1 y2 y3 y4 y5 y6 y7 y8
      unfold spec_Editor_moveTo.l0
      repeat' first
      | (with_reducible exact ih0 _ _ _ _ _ _ _ _ _)
      | (with_reducible exact ih1 _ _ _ _ _ _ _ _ _)
      | (with_reducible exact ih2 _ _ _ _ _ _ _ _ _ _)
      | (with_reducible exact LeO.refl _)
      | (with_reducible exact LeO.none _)
      | (with_reducible refine LeO.ite ?_ ?_)
      | (with_reducible refine LeO.bind ?_ (fun _ => ?_))
      | exact ih0 _ _ _ _ _ _ _ _ _
      | exact ih1 _ _ _ _ _ _ _ _ _
      | exact ih2 _ _ _ _ _ _ _ _ _ _
      | exact LeO.none _
      | refine LeO.ite ?_ ?_
      | refine LeO.bind ?_ (fun _ => ?_)
    · intro y0 y1 y2 y3 y4 y5 y6 y7 y8 y9
      unfold spec_Editor_moveTo.j2
      repeat' first
      | (with_reducible exact ih0 _ _ _ _ _ _ _ _ _)
      | (with_reducible exact ih1 _ _ _ _ _ _ _ _ _)
      | (with_reducible exact ih2 _ _ _ _ _ _ _ _ _ _)
      | (with_reducible exact LeO.refl _)
      | (with_reducible exact LeO.none _)
      | (with_reducible refine LeO.ite ?_ ?_)
      | (with_reducible refine LeO.bind ?_ (fun _ => ?_))
      | exact ih0 _ _ _ _ _ _ _ _ _
      | exact ih1 _ _ _ _ _ _ _ _ _
      | exact ih2 _ _ _ _ _ _ _ _ _ _
      | exact LeO.none _
      | refine LeO.ite ?_ ?_
      | refine LeO.bind ?_ (fun _ => ?_)
theorem spec_Editor_moveTo.mono : ∀ a0 a1 a2 a3 a4 a5 a6 a7 k, LeO (spec_Editor_moveTo.f k a0 a1 a2 a3 a4 a5 a6 a7) (spec_Editor_moveTo.f (k + 1) a0 a1 a2 a3 a4 a5 a6 a7) := by
  intro a0 a1 a2 a3 a4 a5 a6 a7 k
  obtain ⟨ih0, ih1, ih2⟩ := spec_Editor_moveTo.mono_l k
  unfold spec_Editor_moveTo.f
  repeat' first
      | (with_reducible exact ih0 _ _ _ _ _ _ _ _ _)
      | (with_reducible exact ih1 _ _ _ _ _ _ _ _ _)
      | (with_reducible exact ih2 _ _ _ _ _ _ _ _ _ _)
      | (with_reducible exact LeO.refl _)
      | (with_reducible exact LeO.none _)
      | (with_reducible refine LeO.ite ?_ ?_)
      | (with_reducible refine LeO.bind ?_ (fun _ => ?_))
      | exact ih0 _ _ _ _ _ _ _ _ _
      | exact ih1 _ _ _ _ _ _ _ _ _
      | exact ih2 _ _ _ _ _ _ _ _ _ _
      | exact LeO.none _
      | refine LeO.ite ?_ ?_
      | refine LeO.bind ?_ (fun _ => ?_)
set_option maxHeartbeats 8000000 in
set_option maxRecDepth 100000 in
theorem spec_Editor_moveTo.calls (k : Nat) (g : Nat) (s0_0 : List Int) (s0_1 : Int) (s0_2 : List Int) (s0_3 : Bool) (s0_4 : Bool) (a1 : Int) (a2 : Bool) (a3 : Bool) (r1 : Bool) (r2 : Int) (r3 : Bool) (r4 : Bool) (w0 w : World) (hI : IsS91 w0 w g s0_0 s0_1 s0_2 s0_3 s0_4) (hB : Below w0.heap.size w0 w) (h : spec_Editor_moveTo.f k s0_0 s0_1 s0_2 s0_3 s0_4 a1 a2 a3 = some (r1, r2, r3, r4)) :
    Calls Tryd.prog 96 #[.pointer (some ⟨g, 0, none⟩), .int .i32 a1, .bool a2, .bool a3] w fun e w' => e = .returned (.bool r1) ∧ IsS91 w0 w' g s0_0 r2 s0_2 r3 r4 ∧ Below w0.heap.size w0 w' ∧ KeepBut w w' g none := by
  have HI0 := Aside0.mk hI
  have HK := Aside0.mk (KeepBut.refl w g none)
  have HL := Aside0.mk hB.size
  clear hI
  have HW0 := Aside0.mk hB.size
  have HB := Aside0.mk hB
  clear hB
  have H : (if a3 = true then (spec_Editor_moveTo.j0 k a1 a2 (-1) (wrap64 (s0_1 - 1)) s0_0 s0_1 s0_2 s0_3 s0_4) else (spec_Editor_moveTo.j0 k a1 a2 1 (wrap64 (s0_1 + 1)) s0_0 s0_1 s0_2 s0_3 s0_4)) = some (r1, r2, r3, r4) := h
  clear h
  have HC5 := Aside0.mk H
  clear H
  obtain ⟨ASz6_0, cSz6_0, ASz6_2, cSz6_2, HGz6, hgz6, HSz6_0, HSz6_2⟩ := HI0.out
  have hcz6_0 := cellS91_0 HGz6
  have hcz6_1 := cellS91_1 HGz6
  have hcz6_2 := cellS91_2 HGz6
  have hcz6_3 := cellS91_3 HGz6
  have hcz6_4 := cellS91_4 HGz6
  have hfz6_1 := blk_frozen HGz6 1
  have hfz6_3 := blk_frozen HGz6 3
  have hfz6_4 := blk_frozen HGz6 4
  clear HGz6 hgz6
  go_enter Tryd.func96, Tryd.ntmps96
  go_upto_if 16 with (fail)
  repeat (go_quiet (fail); go_upto_if 16 with (fail))
  go_cut [9, 10] (fun v9 v10 wc => ∃ (kq : Nat) (x9_4 : Int) (x10_4 : Int), v9 = .int .i64 x9_4 ∧ v10 = .int .i64 x10_4 ∧ Aside0 (spec_Editor_moveTo.j0 kq a1 a2 x9_4 x10_4 s0_0 s0_1 s0_2 s0_3 s0_4 = some (r1, r2, r3, r4)) ∧ Aside0 (kq ≤ k) ∧ Aside0 (IsS91 w0 wc g s0_0 s0_1 s0_2 s0_3 s0_4) ∧ Aside0 (KeepBut w wc g none) ∧ Aside0 (Below w0.heap.size w0 wc))
  case first =>
    have H := HC5.out
    clear HC5
    by_cases c7 : a3 = true
    · subst c7
      have H1 : (spec_Editor_moveTo.j0 k a1 a2 (-1) (wrap64 (s0_1 - 1)) s0_0 s0_1 s0_2 s0_3 s0_4) = some (r1, r2, r3, r4) := by rw [if_pos rfl] at H; exact H
      clear H
      have H := H1
      clear H1
      have H' := Aside0.mk H
      clear H
      obtain ⟨ASz8_0, cSz8_0, ASz8_2, cSz8_2, HGz8, hgz8, HSz8_0, HSz8_2⟩ := HI0.out
      have hcz8_0 := cellS91_0 HGz8
      have hcz8_1 := cellS91_1 HGz8
      have hcz8_2 := cellS91_2 HGz8
      have hcz8_3 := cellS91_3 HGz8
      have hcz8_4 := cellS91_4 HGz8
      have hfz8_1 := blk_frozen HGz8 1
      have hfz8_3 := blk_frozen HGz8 3
      have hfz8_4 := blk_frozen HGz8 4
      clear HGz8 hgz8
      go_wp2
      repeat (go_quiet (fail); try go_wp2)
      go_meet
      case rel => exact ⟨_, ((-1)), (wrap64 (s0_1 - 1)), (by first | rfl | (simp; done) | (simp [*]; done)), (by first | rfl | (simp; done) | (simp [*]; done)), H', ⟨by first | omega | exact Nat.le_refl _⟩, ⟨by repeat (first | (with_reducible first | exact HI0.out | apply IsS91.alloc | apply IsS91.drewN | apply IsS91.drew | apply IsS91.set_1 | apply IsS91.set_3 | apply IsS91.set_4) | exact HI0.out)⟩, ⟨by repeat (first | (with_reducible first | exact HK.out | apply KeepBut.set_ | apply keep_drewN | apply keep_drew | apply keep_alloc) | exact HK.out)⟩, ⟨by repeat (first | (with_reducible first | exact HB.out | apply below_alloc | apply pw_below_drewN | apply below_drew1 | refine below_set ?_ (IsS91.ge HI0.out)) | exact HB.out)⟩⟩
    · replace c7 := Bool.eq_false_iff.mpr c7
      subst c7
      have H1 : (spec_Editor_moveTo.j0 k a1 a2 1 (wrap64 (s0_1 + 1)) s0_0 s0_1 s0_2 s0_3 s0_4) = some (r1, r2, r3, r4) := by rw [if_neg (show ¬ (false = true) by decide)] at H; exact H
      clear H
      have H := H1
      clear H1
      have H' := Aside0.mk H
      clear H
      go_wp2
      repeat (go_quiet (fail); try go_wp2)
      go_meet
      case rel => exact ⟨_, (1), (wrap64 (s0_1 + 1)), (by first | rfl | (simp; done) | (simp [*]; done)), (by first | rfl | (simp; done) | (simp [*]; done)), H', ⟨by first | omega | exact Nat.le_refl _⟩, ⟨by repeat (first | (with_reducible first | exact HI0.out | apply IsS91.alloc | apply IsS91.drewN | apply IsS91.drew | apply IsS91.set_1 | apply IsS91.set_3 | apply IsS91.set_4) | exact HI0.out)⟩, ⟨by repeat (first | (with_reducible first | exact HK.out | apply KeepBut.set_ | apply keep_drewN | apply keep_drew | apply keep_alloc) | exact HK.out)⟩, ⟨by repeat (first | (with_reducible first | exact HB.out | apply below_alloc | apply pw_below_drewN | apply below_drew1 | refine below_set ?_ (IsS91.ge HI0.out)) | exact HB.out)⟩⟩
  case rest =>
    clear HC5
    try clear p2
    try clear p6
    try clear c7
    try clear hcz6_0
    try clear hcz6_1
    try clear hcz6_2
    try clear hcz6_3
    try clear hcz6_4
    try clear hcz8_0
    try clear hcz8_1
    try clear hcz8_2
    try clear hcz8_3
    try clear hcz8_4
    try clear hfz6_1
    try clear hfz6_3
    try clear hfz6_4
    try clear hfz8_1
    try clear hfz8_3
    try clear hfz8_4
    obtain ⟨kq, x9_4, x10_4, rfl, rfl, HA, HJ4, HI0, HK, HB⟩ := hcut
    cases kq with
    | zero => exact absurd HA.out (by simp [spec_Editor_moveTo.j0])
    | succ kj4 =>
      have H := HA.out
      clear HA
      simp only [spec_Editor_moveTo.j0] at H
      have H' := Aside0.mk H
      clear H
      go_wp2
      repeat (go_quiet (fail); try go_wp2)
      go_loopg [10] kj4 (fun kq v10 w' => ∃ (x10_2 : Int) (x1001_2 : Int), v10 = .int .i64 x10_2 ∧ Aside0 (spec_Editor_moveTo.l0 kq a1 a2 x9_4 x10_2 s0_0 x1001_2 s0_2 s0_3 s0_4 = some (r1, r2, r3, r4)) ∧ Aside0 (kq ≤ kj4) ∧ Aside0 (IsS91 w0 w' g s0_0 x1001_2 s0_2 s0_3 s0_4) ∧ Aside0 (KeepBut w w' g none) ∧ Aside0 (Below w0.heap.size w0 w'))
      case atStart => exact ⟨(x10_4), (s0_1), (by first | rfl | (simp; done) | (simp [*]; done)), H', ⟨Nat.le_refl _⟩, ⟨by repeat (first | (with_reducible first | exact HI0.out | apply IsS91.alloc | apply IsS91.drewN | apply IsS91.drew | apply IsS91.set_1 | apply IsS91.set_3 | apply IsS91.set_4) | exact HI0.out)⟩, ⟨by repeat (first | (with_reducible first | exact HK.out | apply KeepBut.set_ | apply keep_drewN | apply keep_drew | apply keep_alloc) | exact HK.out)⟩, ⟨by repeat (first | (with_reducible first | exact HB.out | apply below_alloc | apply pw_below_drewN | apply below_drew1 | refine below_set ?_ (IsS91.ge HI0.out)) | exact HB.out)⟩⟩
      case round =>
        clear H'
        try clear p2
        try clear p6
        try clear c7
        try clear hcz6_0
        try clear hcz6_1
        try clear hcz6_2
        try clear hcz6_3
        try clear hcz6_4
        try clear hcz8_0
        try clear hcz8_1
        try clear hcz8_2
        try clear hcz8_3
        try clear hcz8_4
        try clear hfz6_1
        try clear hfz6_3
        try clear hfz6_4
        try clear hfz8_1
        try clear hfz8_3
        try clear hfz8_4
        try clear p2
        try clear p6
        obtain ⟨x10_2, x1001_2, rfl, HA, HK2, HI0, HK, HB⟩ := hrel
        cases gk with
        | zero => exact absurd HA.out (by simp [spec_Editor_moveTo.l0])
        | succ k2 =>
          have H := HA.out
          clear HA
          simp only [spec_Editor_moveTo.l0] at H
          have HC9 := Aside0.mk H
          clear H
          go_upto_region 4 with (fail)
          repeat (go_quiet (fail); go_upto_region 4 with (fail))
          go_cut [32] (fun v32 wc => ∃ (kq : Nat) (x32_8 : Bool), v32 = .bool x32_8 ∧ Aside0 (spec_Editor_moveTo.j2 kq a1 a2 x9_4 x10_2 x32_8 s0_0 x1001_2 s0_2 s0_3 s0_4 = some (r1, r2, r3, r4)) ∧ Aside0 (kq ≤ k2) ∧ Aside0 (IsS91 w0 wc g s0_0 x1001_2 s0_2 s0_3 s0_4) ∧ Aside0 (KeepBut w wc g none) ∧ Aside0 (Below w0.heap.size w0 wc))
          case first =>
            have H := HC9.out
            clear HC9
            by_cases c10 : x10_2 ≥ 0
            · rw [if_pos c10] at H
              have c10b0 : decide (0 ≤ x10_2) = true := decide_eq_true c10
              clear c10
              (first | rw [c10b0] | (simp only [i64_w, i32_w]; rw [c10b0]) | skip)
              have H' := Aside0.mk H
              clear H
              obtain ⟨ASz11_0, cSz11_0, ASz11_2, cSz11_2, HGz11, hgz11, HSz11_0, HSz11_2⟩ := HI0.out
              have hcz11_0 := cellS91_0 HGz11
              have hcz11_1 := cellS91_1 HGz11
              have hcz11_2 := cellS91_2 HGz11
              have hcz11_3 := cellS91_3 HGz11
              have hcz11_4 := cellS91_4 HGz11
              have hfz11_1 := blk_frozen HGz11 1
              have hfz11_3 := blk_frozen HGz11 3
              have hfz11_4 := blk_frozen HGz11 4
              clear HGz11 hgz11
              go_wp2
              repeat (go_quiet (fail); try go_wp2)
              go_meet
              case rel => exact ⟨_, (decide (x10_2 < (s0_0.length : Int))), (by first | rfl | (simp; done) | (simp [*]; done)), H', ⟨by have := HJ4.out; have := HK2.out; first | omega | exact Nat.le_refl _⟩, ⟨by repeat (first | (with_reducible first | exact HI0.out | apply IsS91.alloc | apply IsS91.drewN | apply IsS91.drew | apply IsS91.set_1 | apply IsS91.set_3 | apply IsS91.set_4) | exact HI0.out)⟩, ⟨by repeat (first | (with_reducible first | exact HK.out | apply KeepBut.set_ | apply keep_drewN | apply keep_drew | apply keep_alloc) | exact HK.out)⟩, ⟨by repeat (first | (with_reducible first | exact HB.out | apply below_alloc | apply pw_below_drewN | apply below_drew1 | refine below_set ?_ (IsS91.ge HI0.out)) | exact HB.out)⟩⟩
            · rw [if_neg c10] at H
              have c10b0 : decide (0 ≤ x10_2) = false := decide_eq_false c10
              clear c10
              (first | rw [c10b0] | (simp only [i64_w, i32_w]; rw [c10b0]) | skip)
              have H' := Aside0.mk H
              clear H
              go_wp2
              repeat (go_quiet (fail); try go_wp2)
              go_meet
              case rel => exact ⟨_, (false), (by first | rfl | (simp; done) | (simp [*]; done)), H', ⟨by have := HJ4.out; have := HK2.out; first | omega | exact Nat.le_refl _⟩, ⟨by repeat (first | (with_reducible first | exact HI0.out | apply IsS91.alloc | apply IsS91.drewN | apply IsS91.drew | apply IsS91.set_1 | apply IsS91.set_3 | apply IsS91.set_4) | exact HI0.out)⟩, ⟨by repeat (first | (with_reducible first | exact HK.out | apply KeepBut.set_ | apply keep_drewN | apply keep_drew | apply keep_alloc) | exact HK.out)⟩, ⟨by repeat (first | (with_reducible first | exact HB.out | apply below_alloc | apply pw_below_drewN | apply below_drew1 | refine below_set ?_ (IsS91.ge HI0.out)) | exact HB.out)⟩⟩
          case rest =>
            clear HC9
            try clear c1
            try clear p2
            try clear p6
            try clear c7
            try clear c9
            try clear c10
            try clear c10b0
            try clear hcz11_0
            try clear hcz11_1
            try clear hcz11_2
            try clear hcz11_3
            try clear hcz11_4
            try clear hcz6_0
            try clear hcz6_1
            try clear hcz6_2
            try clear hcz6_3
            try clear hcz6_4
            try clear hcz8_0
            try clear hcz8_1
            try clear hcz8_2
            try clear hcz8_3
            try clear hcz8_4
            try clear hfz11_1
            try clear hfz11_3
            try clear hfz11_4
            try clear hfz6_1
            try clear hfz6_3
            try clear hfz6_4
            try clear hfz8_1
            try clear hfz8_3
            try clear hfz8_4
            try clear p2
            try clear p6
            obtain ⟨kq, x32_8, rfl, HA, HJ8, HI0, HK, HB⟩ := hcut
            cases kq with
            | zero => exact absurd HA.out (by simp [spec_Editor_moveTo.j2])
            | succ kj8 =>
              have H := HA.out
              clear HA
              simp only [spec_Editor_moveTo.j2] at H
              by_cases c12 : x32_8 = true
              · subst c12
                have H1 : (if 0 ≤ x10_2 then (if x10_2 < (s0_0.length : Int) then (if (rd s0_0 x10_2) = a1 then (if a2 = true then (some (true, wrap64 (x10_2 - x9_4), s0_3, s0_4)) else (some (true, x10_2, s0_3, s0_4))) else (spec_Editor_moveTo.l0 kj8 a1 a2 x9_4 (wrap64 (x10_2 + x9_4)) s0_0 x1001_2 s0_2 s0_3 s0_4)) else (none)) else (none)) = some (r1, r2, r3, r4) := by rw [if_pos rfl] at H; exact H
                clear H
                have H := H1
                clear H1
                by_cases c13 : 0 ≤ x10_2
                · rw [if_pos c13] at H
                  have c13b0 : decide (0 ≤ x10_2) = true := decide_eq_true c13
                  clear c13
                  by_cases c14 : x10_2 < (s0_0.length : Int)
                  · rw [if_pos c14] at H
                    have c14b0 : decide (x10_2 < (s0_0.length : Int)) = true := decide_eq_true c14
                    clear c14
                    by_cases c15 : (rd s0_0 x10_2) = a1
                    · rw [if_pos c15] at H
                      have c15b0 : ((rd s0_0 x10_2) == a1) = true := beq_iff_eq.mpr c15
                      have c15b1 : ((rd s0_0 x10_2) != a1) = false := bne_eq_false_iff_eq.mpr c15
                      clear c15
                      by_cases c16 : a2 = true
                      · subst c16
                        have H1 : (some (true, wrap64 (x10_2 - x9_4), s0_3, s0_4)) = some (r1, r2, r3, r4) := by rw [if_pos rfl] at H; exact H
                        clear H
                        have H := H1
                        clear H1
                        simp only [Option.some.injEq, Prod.mk.injEq] at H
                        obtain ⟨rfl, rfl, rfl, rfl⟩ := H
                        obtain ⟨ASz17_0, cSz17_0, ASz17_2, cSz17_2, HGz17, hgz17, HSz17_0, HSz17_2⟩ := HI0.out
                        have hcz17_0 := cellS91_0 HGz17
                        have hcz17_1 := cellS91_1 HGz17
                        have hcz17_2 := cellS91_2 HGz17
                        have hcz17_3 := cellS91_3 HGz17
                        have hcz17_4 := cellS91_4 HGz17
                        have hfz17_1 := blk_frozen HGz17 1
                        have hfz17_3 := blk_frozen HGz17 3
                        have hfz17_4 := blk_frozen HGz17 4
                        clear HGz17 hgz17
                        have p145 : 0 ≤ (x10_2 : Int) := of_decide_eq_true (by first | (with_reducible assumption) | assumption)
                        have q145 : x10_2 < (s0_0.length : Int) := of_decide_eq_true (by first | (with_reducible assumption) | assumption)
                        obtain ⟨ad145, e145, hx145_0⟩ := Kd.at_int HSz17_0 x10_2 p145 q145
                        cases e145
                        replace hx145_0 := pw_cell_below HB.out hx145_0
                        replace p145 := eq_true p145
                        replace q145 := eq_true q145
                        go_wp2
                        repeat (go_quiet (fail); try go_wp2)
                        go_ret
                        exact ⟨by first | rfl | (simp [errW_none, errW_some] <;> rfl) | (simp [*, errW_none, errW_some] <;> rfl), by repeat (first | (with_reducible first | exact HI0.out | apply IsS91.alloc | apply IsS91.drewN | apply IsS91.drew | apply IsS91.set_1 | apply IsS91.set_3 | apply IsS91.set_4) | exact HI0.out), by repeat (first | (with_reducible first | exact HB.out | apply below_alloc | apply pw_below_drewN | apply below_drew1 | refine below_set ?_ (IsS91.ge HI0.out)) | exact HB.out), by repeat (first | (with_reducible first | exact HK.out | apply KeepBut.set_ | apply keep_drewN | apply keep_drew | apply keep_alloc) | exact HK.out)⟩
                      · replace c16 := Bool.eq_false_iff.mpr c16
                        subst c16
                        have H1 : (some (true, x10_2, s0_3, s0_4)) = some (r1, r2, r3, r4) := by rw [if_neg (show ¬ (false = true) by decide)] at H; exact H
                        clear H
                        have H := H1
                        clear H1
                        simp only [Option.some.injEq, Prod.mk.injEq] at H
                        obtain ⟨rfl, rfl, rfl, rfl⟩ := H
                        obtain ⟨ASz18_0, cSz18_0, ASz18_2, cSz18_2, HGz18, hgz18, HSz18_0, HSz18_2⟩ := HI0.out
                        have hcz18_0 := cellS91_0 HGz18
                        have hcz18_1 := cellS91_1 HGz18
                        have hcz18_2 := cellS91_2 HGz18
                        have hcz18_3 := cellS91_3 HGz18
                        have hcz18_4 := cellS91_4 HGz18
                        have hfz18_1 := blk_frozen HGz18 1
                        have hfz18_3 := blk_frozen HGz18 3
                        have hfz18_4 := blk_frozen HGz18 4
                        clear HGz18 hgz18
                        have p145 : 0 ≤ (x10_2 : Int) := of_decide_eq_true (by first | (with_reducible assumption) | assumption)
                        have q145 : x10_2 < (s0_0.length : Int) := of_decide_eq_true (by first | (with_reducible assumption) | assumption)
                        obtain ⟨ad145, e145, hx145_0⟩ := Kd.at_int HSz18_0 x10_2 p145 q145
                        cases e145
                        replace hx145_0 := pw_cell_below HB.out hx145_0
                        replace p145 := eq_true p145
                        replace q145 := eq_true q145
                        go_wp2
                        repeat (go_quiet (fail); try go_wp2)
                        go_ret
                        exact ⟨by first | rfl | (simp [errW_none, errW_some] <;> rfl) | (simp [*, errW_none, errW_some] <;> rfl), by repeat (first | (with_reducible first | exact HI0.out | apply IsS91.alloc | apply IsS91.drewN | apply IsS91.drew | apply IsS91.set_1 | apply IsS91.set_3 | apply IsS91.set_4) | exact HI0.out), by repeat (first | (with_reducible first | exact HB.out | apply below_alloc | apply pw_below_drewN | apply below_drew1 | refine below_set ?_ (IsS91.ge HI0.out)) | exact HB.out), by repeat (first | (with_reducible first | exact HK.out | apply KeepBut.set_ | apply keep_drewN | apply keep_drew | apply keep_alloc) | exact HK.out)⟩
                    · rw [if_neg c15] at H
                      have c15b0 : ((rd s0_0 x10_2) == a1) = false := beq_eq_false_iff_ne.mpr c15
                      have c15b1 : ((rd s0_0 x10_2) != a1) = true := bne_iff_ne.mpr c15
                      have H' := Aside0.mk H
                      clear H
                      obtain ⟨ASz19_0, cSz19_0, ASz19_2, cSz19_2, HGz19, hgz19, HSz19_0, HSz19_2⟩ := HI0.out
                      have hcz19_0 := cellS91_0 HGz19
                      have hcz19_1 := cellS91_1 HGz19
                      have hcz19_2 := cellS91_2 HGz19
                      have hcz19_3 := cellS91_3 HGz19
                      have hcz19_4 := cellS91_4 HGz19
                      have hfz19_1 := blk_frozen HGz19 1
                      have hfz19_3 := blk_frozen HGz19 3
                      have hfz19_4 := blk_frozen HGz19 4
                      clear HGz19 hgz19
                      have p145 : 0 ≤ (x10_2 : Int) := of_decide_eq_true (by first | (with_reducible assumption) | assumption)
                      have q145 : x10_2 < (s0_0.length : Int) := of_decide_eq_true (by first | (with_reducible assumption) | assumption)
                      obtain ⟨ad145, e145, hx145_0⟩ := Kd.at_int HSz19_0 x10_2 p145 q145
                      cases e145
                      replace hx145_0 := pw_cell_below HB.out hx145_0
                      replace p145 := eq_true p145
                      replace q145 := eq_true q145
                      go_wp2
                      repeat (go_quiet (fail); try go_wp2)
                      go_roundg kj8
                      case measure => have := HJ4.out; have := HK2.out; have := HJ8.out; omega
                      case rel => exact ⟨(wrap64 (x10_2 + x9_4)), (x1001_2), (by first | rfl | (simp; done) | (simp [*]; done)), H', ⟨by have := HJ4.out; have := HK2.out; have := HJ8.out; omega⟩, ⟨by repeat (first | (with_reducible first | exact HI0.out | apply IsS91.alloc | apply IsS91.drewN | apply IsS91.drew | apply IsS91.set_1 | apply IsS91.set_3 | apply IsS91.set_4) | exact HI0.out)⟩, ⟨by repeat (first | (with_reducible first | exact HK.out | apply KeepBut.set_ | apply keep_drewN | apply keep_drew | apply keep_alloc) | exact HK.out)⟩, ⟨by repeat (first | (with_reducible first | exact HB.out | apply below_alloc | apply pw_below_drewN | apply below_drew1 | refine below_set ?_ (IsS91.ge HI0.out)) | exact HB.out)⟩⟩
                  · rw [if_neg c14] at H
                    exact absurd H (by simp)
                · rw [if_neg c13] at H
                  exact absurd H (by simp)
              · replace c12 := Bool.eq_false_iff.mpr c12
                subst c12
                have H1 : (some (false, x1001_2, s0_3, s0_4)) = some (r1, r2, r3, r4) := by rw [if_neg (show ¬ (false = true) by decide)] at H; exact H
                clear H
                have H := H1
                clear H1
                simp only [Option.some.injEq, Prod.mk.injEq] at H
                obtain ⟨rfl, rfl, rfl, rfl⟩ := H
                go_wp2
                repeat (go_quiet (fail); try go_wp2)
                go_ret
                exact ⟨by first | rfl | (simp [errW_none, errW_some] <;> rfl) | (simp [*, errW_none, errW_some] <;> rfl), by repeat (first | (with_reducible first | exact HI0.out | apply IsS91.alloc | apply IsS91.drewN | apply IsS91.drew | apply IsS91.set_1 | apply IsS91.set_3 | apply IsS91.set_4) | exact HI0.out), by repeat (first | (with_reducible first | exact HB.out | apply below_alloc | apply pw_below_drewN | apply below_drew1 | refine below_set ?_ (IsS91.ge HI0.out)) | exact HB.out), by repeat (first | (with_reducible first | exact HK.out | apply KeepBut.set_ | apply keep_drewN | apply keep_drew | apply keep_alloc) | exact HK.out)⟩
/-! ### spec_Editor_more: function 58 -/
def spec_Editor_more.f (k : Nat) (s0_0 : List Int) (s0_1 : Int) (s0_2 : List Int) (s0_3 : Bool) (s0_4 : Bool) (a1_0 : Int) (a1_1 : ByteArray) (a1_2 : Int) (a1_3 : Bool) (a1_4 : Bool) : Option (Int × Int × Bool × Bool) := if a1_0 = 12 then ((spec_Editor_endWord.f k s0_0 s0_1 s0_2 s0_3 s0_4).bind fun bt147 => (some ((-1), bt147.1, bt147.2.1, bt147.2.2))) else (if a1_0 = 13 then (none) else (if a1_0 = 14 then ((spec_Editor_before.f k s0_0 s0_1 s0_2 s0_3 s0_4 s0_1).bind fun bt150 => (if bt150.1 < 0 then (some ((-1), bt150.2.1, bt150.2.2.1, true)) else (none))) else (if a1_0 = 15 then (none) else (if a1_0 = 16 then (if s0_1 > 0 then (none) else (some ((-1), s0_1, s0_3, s0_4))) else (if a1_0 = 17 then (none) else (if a1_0 = 18 then ((spec_Editor_transpose.f k s0_0 s0_1 s0_2 s0_3 s0_4).bind fun bt154 => (some ((-1), bt154.1, bt154.2.1, bt154.2.2))) else (if a1_0 = 19 then ((spec_Editor_moveTo.f k s0_0 s0_1 s0_2 s0_3 s0_4 (wrap32 (a1_2)) a1_3 a1_4).bind fun bt157 => ((spec_told.f bt157.1).bind fun t161 => (some (t161, bt157.2.1, bt157.2.2.1, bt157.2.2.2)))) else (if a1_0 = 20 then (if (runesOf a1_1).length ≤ 70368744177664 then (if a1_2 < 0 then (some ((-1), s0_1, s0_3, true)) else (if a1_2 > ((runesOf a1_1).length : Int) then (some ((-1), s0_1, s0_3, true)) else (none))) else (none)) else (if a1_0 = 21 then (none) else (some ((-1), s0_1, s0_3, s0_4)))))))))))
theorem spec_Editor_more.mono : ∀ a0 a1 a2 a3 a4 a5 a6 a7 a8 a9 k, LeO (spec_Editor_more.f k a0 a1 a2 a3 a4 a5 a6 a7 a8 a9) (spec_Editor_more.f (k + 1) a0 a1 a2 a3 a4 a5 a6 a7 a8 a9) := by
  intro a0 a1 a2 a3 a4 a5 a6 a7 a8 a9 k
  unfold spec_Editor_more.f
  repeat' first
      | (with_reducible exact spec_Editor_before.mono _ _ _ _ _ _ _)
      | (with_reducible exact spec_Editor_endWord.mono _ _ _ _ _ _)
      | (with_reducible exact spec_Editor_moveTo.mono _ _ _ _ _ _ _ _ _)
      | (with_reducible exact spec_Editor_transpose.mono _ _ _ _ _ _)
      | (with_reducible exact LeO.refl _)
      | (with_reducible exact LeO.none _)
      | (with_reducible refine LeO.ite ?_ ?_)
      | (with_reducible refine LeO.bind ?_ (fun _ => ?_))
      | exact spec_Editor_before.mono _ _ _ _ _ _ _
      | exact spec_Editor_endWord.mono _ _ _ _ _ _
      | exact spec_Editor_moveTo.mono _ _ _ _ _ _ _ _ _
      | exact spec_Editor_transpose.mono _ _ _ _ _ _
      | exact LeO.none _
      | refine LeO.ite ?_ ?_
      | refine LeO.bind ?_ (fun _ => ?_)
set_option maxHeartbeats 8000000 in
set_option maxRecDepth 100000 in
theorem spec_Editor_more.calls (k : Nat) (g : Nat) (s0_0 : List Int) (s0_1 : Int) (s0_2 : List Int) (s0_3 : Bool) (s0_4 : Bool) (a1_0 : Int) (a1_1 : ByteArray) (a1_2 : Int) (a1_3 : Bool) (a1_4 : Bool) (r1 : Int) (r2 : Int) (r3 : Bool) (r4 : Bool) (w0 w : World) (hI : IsS91 w0 w g s0_0 s0_1 s0_2 s0_3 s0_4) (hB : Below w0.heap.size w0 w) (h : spec_Editor_more.f k s0_0 s0_1 s0_2 s0_3 s0_4 a1_0 a1_1 a1_2 a1_3 a1_4 = some (r1, r2, r3, r4)) :
    Calls Tryd.prog 58 #[.pointer (some ⟨g, 0, none⟩), .agg #[.int .i64 a1_0, .string a1_1, .int .i64 a1_2, .bool a1_3, .bool a1_4]] w fun e w' => e = .returned (.int .i64 r1) ∧ IsS91 w0 w' g s0_0 r2 s0_2 r3 r4 ∧ Below w0.heap.size w0 w' ∧ KeepBut w w' g none := by
  have hu29 := Tryd.underlying29
  have HI0 := Aside0.mk hI
  have HK := Aside0.mk (KeepBut.refl w g none)
  have HL := Aside0.mk hB.size
  clear hI
  have HW0 := Aside0.mk hB.size
  have HB := Aside0.mk hB
  clear hB
  have H : (if a1_0 = 12 then ((spec_Editor_endWord.f k s0_0 s0_1 s0_2 s0_3 s0_4).bind fun bt147 => (some ((-1), bt147.1, bt147.2.1, bt147.2.2))) else (if a1_0 = 13 then (none) else (if a1_0 = 14 then ((spec_Editor_before.f k s0_0 s0_1 s0_2 s0_3 s0_4 s0_1).bind fun bt150 => (if bt150.1 < 0 then (some ((-1), bt150.2.1, bt150.2.2.1, true)) else (none))) else (if a1_0 = 15 then (none) else (if a1_0 = 16 then (if s0_1 > 0 then (none) else (some ((-1), s0_1, s0_3, s0_4))) else (if a1_0 = 17 then (none) else (if a1_0 = 18 then ((spec_Editor_transpose.f k s0_0 s0_1 s0_2 s0_3 s0_4).bind fun bt154 => (some ((-1), bt154.1, bt154.2.1, bt154.2.2))) else (if a1_0 = 19 then ((spec_Editor_moveTo.f k s0_0 s0_1 s0_2 s0_3 s0_4 (wrap32 (a1_2)) a1_3 a1_4).bind fun bt157 => ((spec_told.f bt157.1).bind fun t161 => (some (t161, bt157.2.1, bt157.2.2.1, bt157.2.2.2)))) else (if a1_0 = 20 then (if (runesOf a1_1).length ≤ 70368744177664 then (if a1_2 < 0 then (some ((-1), s0_1, s0_3, true)) else (if a1_2 > ((runesOf a1_1).length : Int) then (some ((-1), s0_1, s0_3, true)) else (none))) else (none)) else (if a1_0 = 21 then (none) else (some ((-1), s0_1, s0_3, s0_4)))))))))))) = some (r1, r2, r3, r4) := h
  clear h
  by_cases c3 : a1_0 = 12
  · rw [if_pos c3] at H
    have c3b0 : (a1_0 == 12) = true := beq_iff_eq.mpr c3
    have c3b1 : (a1_0 != 12) = false := bne_eq_false_iff_eq.mpr c3
    clear c3
    replace H := Option.bind_eq_some_iff.mp H
    obtain ⟨⟨t147, t148, t149⟩, A40, H⟩ := H
    replace H : (some ((-1), t147, t148, t149)) = some (r1, r2, r3, r4) := H
    have A4 := Aside0.mk A40
    clear A40
    simp only [Option.some.injEq, Prod.mk.injEq] at H
    obtain ⟨rfl, rfl, rfl, rfl⟩ := H
    go_enter Tryd.func58, Tryd.ntmps58
    go_wp2_with (first | ((with_reducible refine gate_dst (N := 3) rfl ?_); (try (refine gate_guard (by rfl) ?_; dsimp only)); refine box_event ?hg (N := 3) ?hd (cs := #[.int .i64 a1_0, .string a1_1, .int .i64 a1_2, .bool a1_3, .bool a1_4]) (t := 29) ?hr ?_; (case hd => rfl); (case hg => rfl); (case hr => first | (go_simp; done) | (go_simp; rfl)); intro gb146 hg w5 hbox hb; have n0_ := Aside0.mk (IsS91.below (by repeat (first | (with_reducible first | exact HI0.out | apply IsS91.alloc | apply IsS91.drewN | apply IsS91.drew | apply IsS91.set_1 | apply IsS91.set_3 | apply IsS91.set_4) | exact HI0.out)) hb); have n1_ := Aside0.mk (KeepBut.trans (by repeat (first | (with_reducible first | exact HK.out | apply KeepBut.set_ | apply keep_drewN | apply keep_drew | apply keep_alloc) | exact HK.out)) (KeepBut.of_below hb g none) (.inl rfl)); have n2_ := Aside0.mk (below_step (by repeat (first | (with_reducible first | exact HB.out | apply below_alloc | apply pw_below_drewN | apply below_drew1 | refine below_set ?_ (IsS91.ge HI0.out)) | exact HB.out)) hb); have n3_ := Aside0.mk (hbox); have n4_ := Aside0.mk ((by rw [hg]; exact (keep_size (w := w) (g := g) (row := none) (by repeat (first | (with_reducible first | exact HK.out | apply KeepBut.set_ | apply keep_drewN | apply keep_drew | apply keep_alloc) | exact HK.out))) : w.heap.size ≤ gb146)); have n5_ := Aside0.mk ((Nat.le_trans HW0.out (by rw [hg]; exact (keep_size (w := w) (g := g) (row := none) (by repeat (first | (with_reducible first | exact HK.out | apply KeepBut.set_ | apply keep_drewN | apply keep_drew | apply keep_alloc) | exact HK.out))) : w.heap.size ≤ gb146) : w0.heap.size ≤ gb146)); have n6_ := Aside0.mk ((by rw [hg]; exact Nat.ne_of_lt (IsS91.lt (show IsS91 w0 _ g s0_0 s0_1 s0_2 s0_3 s0_4 from by repeat (first | (with_reducible first | exact HI0.out | apply IsS91.alloc | apply IsS91.drewN | apply IsS91.drew | apply IsS91.set_1 | apply IsS91.set_3 | apply IsS91.set_4) | exact HI0.out))) : g ≠ gb146)); have n7_ := Aside0.mk ((by rw [hg]; exact Nat.ne_of_gt (IsS91.lt (show IsS91 w0 _ g s0_0 s0_1 s0_2 s0_3 s0_4 from by repeat (first | (with_reducible first | exact HI0.out | apply IsS91.alloc | apply IsS91.drewN | apply IsS91.drew | apply IsS91.set_1 | apply IsS91.set_3 | apply IsS91.set_4) | exact HI0.out))) : gb146 ≠ g)); clear HI0; clear HK; clear HB; have HI0 := n0_; have HK := n1_; have HB := n2_; have BK146 := n3_; have GW146 := n4_; have GE146 := n5_; have NB0_146 := n6_; have NB146_0 := n7_; clear n0_ n1_ n2_ n3_ n4_ n5_ n6_ n7_; clear hb hbox hg; obtain ⟨ASz6_0, cSz6_0, ASz6_2, cSz6_2, HGz6, hgz6, HSz6_0, HSz6_2⟩ := HI0.out; have hcz6_0 := cellS91_0 HGz6; have hcz6_1 := cellS91_1 HGz6; have hcz6_2 := cellS91_2 HGz6; have hcz6_3 := cellS91_3 HGz6; have hcz6_4 := cellS91_4 HGz6; have hfz6_1 := blk_frozen HGz6 1; have hfz6_3 := blk_frozen HGz6 3; have hfz6_4 := blk_frozen HGz6 4; clear HGz6 hgz6; have hnb7 := NB146_0.out; have hnc7 := NB0_146.out; have hcz8_0 : w5.cell? ⟨gb146, 0, none⟩ = some (.int .i64 a1_0) := (blk_cell BK146.out 0).trans rfl; have hcz8_1 : w5.cell? ⟨gb146, 1, none⟩ = some (.string a1_1) := (blk_cell BK146.out 1).trans rfl; have hcz8_2 : w5.cell? ⟨gb146, 2, none⟩ = some (.int .i64 a1_2) := (blk_cell BK146.out 2).trans rfl; have hcz8_3 : w5.cell? ⟨gb146, 3, none⟩ = some (.bool a1_3) := (blk_cell BK146.out 3).trans rfl; have hcz8_4 : w5.cell? ⟨gb146, 4, none⟩ = some (.bool a1_4) := (blk_cell BK146.out 4).trans rfl; have hfz8_0 := blk_frozen BK146.out 0; have hfz8_1 := blk_frozen BK146.out 1; have hfz8_2 := blk_frozen BK146.out 2; have hfz8_3 := blk_frozen BK146.out 3; have hfz8_4 := blk_frozen BK146.out 4) | ((with_reducible refine gate_callee (f := 93) rfl ?_); refine goesL_ (some 18) rfl rfl Tryd.func93 (by kernel_rfl) rfl #[.pointer (some ⟨g, 0, none⟩)] rfl (by (try simp only [List.map_toArray, List.map_cons, List.map_nil]); first | done | rfl | (simp only [List.length_drop, List.length_take]; rfl) | (simp only [Int.toNat_natCast, ByteArray.extract_zero_size]; rfl)) ?_; (with_reducible refine (spec_Editor_endWord.calls k g s0_0 s0_1 s0_2 s0_3 s0_4 t147 t148 t149 w0 _ ?side1 ?side2 A4.out).mono ?_); (case side1 => repeat (first | (with_reducible first | exact HI0.out | apply IsS91.alloc | apply IsS91.drewN | apply IsS91.drew | apply IsS91.set_1 | apply IsS91.set_3 | apply IsS91.set_4 | refine IsS91.far ?_ NB0_146.out _) | exact HI0.out)); (case side2 => repeat (first | (with_reducible first | exact HB.out | apply below_alloc | apply pw_below_drewN | apply below_drew1 | refine below_set ?_ (IsS91.ge HI0.out) | refine below_set ?_ GE146.out) | exact HB.out)); rintro e w9 ⟨rfl, hi, hb, hk⟩; refine ⟨_, rfl, ?_⟩; have n0_ := Aside0.mk (KeepBut.blk hk (g' := gb146) (o := .cells #[.int .i64 a1_0, .string a1_1, .int .i64 a1_2, .bool a1_3, .bool a1_4] 29 (0, 0)) (by (with_reducible repeat (first | refine blk_drewN ?_ _ | refine blk_drew ?_ | refine blk_alloc ?_ _)); exact BK146.out) NB146_0.out (by simp)); have n1_ := Aside0.mk (KeepBut.trans (by repeat (first | (with_reducible first | exact HK.out | apply KeepBut.set_ | apply keep_drewN | apply keep_drew | apply keep_alloc | refine keep_far ?_ GW146.out _) | exact HK.out)) hk (.inl rfl)); have n2_ := Aside0.mk (hb); have n3_ := Aside0.mk (hi); clear BK146; clear HK; clear HB; clear HI0; have BK146 := n0_; have HK := n1_; have HB := n2_; have HI0 := n3_; clear n0_ n1_ n2_ n3_; (try clear hb); (try clear hb2); (try clear hk); (try clear hi)))
    go_ret
    exact ⟨by first | rfl | (simp [errW_none, errW_some] <;> rfl) | (simp [*, errW_none, errW_some] <;> rfl), by repeat (first | (with_reducible first | exact HI0.out | apply IsS91.alloc | apply IsS91.drewN | apply IsS91.drew | apply IsS91.set_1 | apply IsS91.set_3 | apply IsS91.set_4 | refine IsS91.far ?_ NB0_146.out _) | exact HI0.out), by repeat (first | (with_reducible first | exact HB.out | apply below_alloc | apply pw_below_drewN | apply below_drew1 | refine below_set ?_ (IsS91.ge HI0.out) | refine below_set ?_ GE146.out) | exact HB.out), by repeat (first | (with_reducible first | exact HK.out | apply KeepBut.set_ | apply keep_drewN | apply keep_drew | apply keep_alloc | refine keep_far ?_ GW146.out _) | exact HK.out)⟩
  · rw [if_neg c3] at H
    have c3b0 : (a1_0 == 12) = false := beq_eq_false_iff_ne.mpr c3
    have c3b1 : (a1_0 != 12) = true := bne_iff_ne.mpr c3
    by_cases c10 : a1_0 = 13
    · rw [if_pos c10] at H
      exact absurd H (by simp)
    · rw [if_neg c10] at H
      have c10b0 : (a1_0 == 13) = false := beq_eq_false_iff_ne.mpr c10
      have c10b1 : (a1_0 != 13) = true := bne_iff_ne.mpr c10
      by_cases c11 : a1_0 = 14
      · rw [if_pos c11] at H
        have c11b0 : (a1_0 == 14) = true := beq_iff_eq.mpr c11
        have c11b1 : (a1_0 != 14) = false := bne_eq_false_iff_eq.mpr c11
        clear c11
        replace H := Option.bind_eq_some_iff.mp H
        obtain ⟨⟨t150, t151, t152, t153⟩, A120, H⟩ := H
        replace H : (if t150 < 0 then (some ((-1), t151, t152, true)) else (none)) = some (r1, r2, r3, r4) := H
        have A12 := Aside0.mk A120
        clear A120
        by_cases c13 : t150 < 0
        · rw [if_pos c13] at H
          have c13b0 : decide (t150 < 0) = true := decide_eq_true c13
          clear c13
          simp only [Option.some.injEq, Prod.mk.injEq] at H
          obtain ⟨rfl, rfl, rfl, rfl⟩ := H
          go_enter Tryd.func58, Tryd.ntmps58
          go_wp2_with (first | ((with_reducible refine gate_dst (N := 3) rfl ?_); (try (refine gate_guard (by rfl) ?_; dsimp only)); refine box_event ?hg (N := 3) ?hd (cs := #[.int .i64 a1_0, .string a1_1, .int .i64 a1_2, .bool a1_3, .bool a1_4]) (t := 29) ?hr ?_; (case hd => rfl); (case hg => rfl); (case hr => first | (go_simp; done) | (go_simp; rfl)); intro gb146 hg w14 hbox hb; have n0_ := Aside0.mk (IsS91.below (by repeat (first | (with_reducible first | exact HI0.out | apply IsS91.alloc | apply IsS91.drewN | apply IsS91.drew | apply IsS91.set_1 | apply IsS91.set_3 | apply IsS91.set_4) | exact HI0.out)) hb); have n1_ := Aside0.mk (KeepBut.trans (by repeat (first | (with_reducible first | exact HK.out | apply KeepBut.set_ | apply keep_drewN | apply keep_drew | apply keep_alloc) | exact HK.out)) (KeepBut.of_below hb g none) (.inl rfl)); have n2_ := Aside0.mk (below_step (by repeat (first | (with_reducible first | exact HB.out | apply below_alloc | apply pw_below_drewN | apply below_drew1 | refine below_set ?_ (IsS91.ge HI0.out)) | exact HB.out)) hb); have n3_ := Aside0.mk (hbox); have n4_ := Aside0.mk ((by rw [hg]; exact (keep_size (w := w) (g := g) (row := none) (by repeat (first | (with_reducible first | exact HK.out | apply KeepBut.set_ | apply keep_drewN | apply keep_drew | apply keep_alloc) | exact HK.out))) : w.heap.size ≤ gb146)); have n5_ := Aside0.mk ((Nat.le_trans HW0.out (by rw [hg]; exact (keep_size (w := w) (g := g) (row := none) (by repeat (first | (with_reducible first | exact HK.out | apply KeepBut.set_ | apply keep_drewN | apply keep_drew | apply keep_alloc) | exact HK.out))) : w.heap.size ≤ gb146) : w0.heap.size ≤ gb146)); have n6_ := Aside0.mk ((by rw [hg]; exact Nat.ne_of_lt (IsS91.lt (show IsS91 w0 _ g s0_0 s0_1 s0_2 s0_3 s0_4 from by repeat (first | (with_reducible first | exact HI0.out | apply IsS91.alloc | apply IsS91.drewN | apply IsS91.drew | apply IsS91.set_1 | apply IsS91.set_3 | apply IsS91.set_4) | exact HI0.out))) : g ≠ gb146)); have n7_ := Aside0.mk ((by rw [hg]; exact Nat.ne_of_gt (IsS91.lt (show IsS91 w0 _ g s0_0 s0_1 s0_2 s0_3 s0_4 from by repeat (first | (with_reducible first | exact HI0.out | apply IsS91.alloc | apply IsS91.drewN | apply IsS91.drew | apply IsS91.set_1 | apply IsS91.set_3 | apply IsS91.set_4) | exact HI0.out))) : gb146 ≠ g)); clear HI0; clear HK; clear HB; have HI0 := n0_; have HK := n1_; have HB := n2_; have BK146 := n3_; have GW146 := n4_; have GE146 := n5_; have NB0_146 := n6_; have NB146_0 := n7_; clear n0_ n1_ n2_ n3_ n4_ n5_ n6_ n7_; clear hb hbox hg; obtain ⟨ASz15_0, cSz15_0, ASz15_2, cSz15_2, HGz15, hgz15, HSz15_0, HSz15_2⟩ := HI0.out; have hcz15_0 := cellS91_0 HGz15; have hcz15_1 := cellS91_1 HGz15; have hcz15_2 := cellS91_2 HGz15; have hcz15_3 := cellS91_3 HGz15; have hcz15_4 := cellS91_4 HGz15; have hfz15_1 := blk_frozen HGz15 1; have hfz15_3 := blk_frozen HGz15 3; have hfz15_4 := blk_frozen HGz15 4; clear HGz15 hgz15; have hnb16 := NB146_0.out; have hnc16 := NB0_146.out; have hcz17_0 : w14.cell? ⟨gb146, 0, none⟩ = some (.int .i64 a1_0) := (blk_cell BK146.out 0).trans rfl; have hcz17_1 : w14.cell? ⟨gb146, 1, none⟩ = some (.string a1_1) := (blk_cell BK146.out 1).trans rfl; have hcz17_2 : w14.cell? ⟨gb146, 2, none⟩ = some (.int .i64 a1_2) := (blk_cell BK146.out 2).trans rfl; have hcz17_3 : w14.cell? ⟨gb146, 3, none⟩ = some (.bool a1_3) := (blk_cell BK146.out 3).trans rfl; have hcz17_4 : w14.cell? ⟨gb146, 4, none⟩ = some (.bool a1_4) := (blk_cell BK146.out 4).trans rfl; have hfz17_0 := blk_frozen BK146.out 0; have hfz17_1 := blk_frozen BK146.out 1; have hfz17_2 := blk_frozen BK146.out 2; have hfz17_3 := blk_frozen BK146.out 3; have hfz17_4 := blk_frozen BK146.out 4) | ((with_reducible refine gate_callee (f := 55) rfl ?_); refine goesL_ (some 30) rfl rfl Tryd.func55 (by kernel_rfl) rfl #[.pointer (some ⟨g, 0, none⟩), .int .i64 s0_1] rfl (by (try simp only [List.map_toArray, List.map_cons, List.map_nil]); first | done | rfl | (simp only [List.length_drop, List.length_take]; rfl) | (simp only [Int.toNat_natCast, ByteArray.extract_zero_size]; rfl)) ?_; (with_reducible refine (spec_Editor_before.calls k g s0_0 s0_1 s0_2 s0_3 s0_4 s0_1 t150 t151 t152 t153 w0 _ ?side1 ?side2 A12.out).mono ?_); (case side1 => repeat (first | (with_reducible first | exact HI0.out | apply IsS91.alloc | apply IsS91.drewN | apply IsS91.drew | apply IsS91.set_1 | apply IsS91.set_3 | apply IsS91.set_4 | refine IsS91.far ?_ NB0_146.out _) | exact HI0.out)); (case side2 => repeat (first | (with_reducible first | exact HB.out | apply below_alloc | apply pw_below_drewN | apply below_drew1 | refine below_set ?_ (IsS91.ge HI0.out) | refine below_set ?_ GE146.out) | exact HB.out)); rintro e w18 ⟨rfl, hi, hb, hk⟩; refine ⟨_, rfl, ?_⟩; have n0_ := Aside0.mk (KeepBut.blk hk (g' := gb146) (o := .cells #[.int .i64 a1_0, .string a1_1, .int .i64 a1_2, .bool a1_3, .bool a1_4] 29 (0, 0)) (by (with_reducible repeat (first | refine blk_drewN ?_ _ | refine blk_drew ?_ | refine blk_alloc ?_ _)); exact BK146.out) NB146_0.out (by simp)); have n1_ := Aside0.mk (KeepBut.trans (by repeat (first | (with_reducible first | exact HK.out | apply KeepBut.set_ | apply keep_drewN | apply keep_drew | apply keep_alloc | refine keep_far ?_ GW146.out _) | exact HK.out)) hk (.inl rfl)); have n2_ := Aside0.mk (hb); have n3_ := Aside0.mk (hi); clear BK146; clear HK; clear HB; clear HI0; have BK146 := n0_; have HK := n1_; have HB := n2_; have HI0 := n3_; clear n0_ n1_ n2_ n3_; (try clear hb); (try clear hb2); (try clear hk); (try clear hi); obtain ⟨ASz19_0, cSz19_0, ASz19_2, cSz19_2, HGz19, hgz19, HSz19_0, HSz19_2⟩ := HI0.out; have hcz19_0 := cellS91_0 HGz19; have hcz19_1 := cellS91_1 HGz19; have hcz19_2 := cellS91_2 HGz19; have hcz19_3 := cellS91_3 HGz19; have hcz19_4 := cellS91_4 HGz19; have hfz19_1 := blk_frozen HGz19 1; have hfz19_3 := blk_frozen HGz19 3; have hfz19_4 := blk_frozen HGz19 4; clear HGz19 hgz19))
          go_ret
          exact ⟨by first | rfl | (simp [errW_none, errW_some] <;> rfl) | (simp [*, errW_none, errW_some] <;> rfl), by repeat (first | (with_reducible first | exact HI0.out | apply IsS91.alloc | apply IsS91.drewN | apply IsS91.drew | apply IsS91.set_1 | apply IsS91.set_3 | apply IsS91.set_4 | refine IsS91.far ?_ NB0_146.out _) | exact HI0.out), by repeat (first | (with_reducible first | exact HB.out | apply below_alloc | apply pw_below_drewN | apply below_drew1 | refine below_set ?_ (IsS91.ge HI0.out) | refine below_set ?_ GE146.out) | exact HB.out), by repeat (first | (with_reducible first | exact HK.out | apply KeepBut.set_ | apply keep_drewN | apply keep_drew | apply keep_alloc | refine keep_far ?_ GW146.out _) | exact HK.out)⟩
        · rw [if_neg c13] at H
          exact absurd H (by simp)
      · rw [if_neg c11] at H
        have c11b0 : (a1_0 == 14) = false := beq_eq_false_iff_ne.mpr c11
        have c11b1 : (a1_0 != 14) = true := bne_iff_ne.mpr c11
        by_cases c20 : a1_0 = 15
        · rw [if_pos c20] at H
          exact absurd H (by simp)
        · rw [if_neg c20] at H
          have c20b0 : (a1_0 == 15) = false := beq_eq_false_iff_ne.mpr c20
          have c20b1 : (a1_0 != 15) = true := bne_iff_ne.mpr c20
          by_cases c21 : a1_0 = 16
          · rw [if_pos c21] at H
            have c21b0 : (a1_0 == 16) = true := beq_iff_eq.mpr c21
            have c21b1 : (a1_0 != 16) = false := bne_eq_false_iff_eq.mpr c21
            clear c21
            by_cases c22 : s0_1 > 0
            · rw [if_pos c22] at H
              exact absurd H (by simp)
            · rw [if_neg c22] at H
              have c22b0 : decide (0 < s0_1) = false := decide_eq_false c22
              clear c22
              simp only [Option.some.injEq, Prod.mk.injEq] at H
              obtain ⟨rfl, rfl, rfl, rfl⟩ := H
              go_enter Tryd.func58, Tryd.ntmps58
              go_wp2_with (first | ((with_reducible refine gate_dst (N := 3) rfl ?_); (try (refine gate_guard (by rfl) ?_; dsimp only)); refine box_event ?hg (N := 3) ?hd (cs := #[.int .i64 a1_0, .string a1_1, .int .i64 a1_2, .bool a1_3, .bool a1_4]) (t := 29) ?hr ?_; (case hd => rfl); (case hg => rfl); (case hr => first | (go_simp; done) | (go_simp; rfl)); intro gb146 hg w23 hbox hb; have n0_ := Aside0.mk (IsS91.below (by repeat (first | (with_reducible first | exact HI0.out | apply IsS91.alloc | apply IsS91.drewN | apply IsS91.drew | apply IsS91.set_1 | apply IsS91.set_3 | apply IsS91.set_4) | exact HI0.out)) hb); have n1_ := Aside0.mk (KeepBut.trans (by repeat (first | (with_reducible first | exact HK.out | apply KeepBut.set_ | apply keep_drewN | apply keep_drew | apply keep_alloc) | exact HK.out)) (KeepBut.of_below hb g none) (.inl rfl)); have n2_ := Aside0.mk (below_step (by repeat (first | (with_reducible first | exact HB.out | apply below_alloc | apply pw_below_drewN | apply below_drew1 | refine below_set ?_ (IsS91.ge HI0.out)) | exact HB.out)) hb); have n3_ := Aside0.mk (hbox); have n4_ := Aside0.mk ((by rw [hg]; exact (keep_size (w := w) (g := g) (row := none) (by repeat (first | (with_reducible first | exact HK.out | apply KeepBut.set_ | apply keep_drewN | apply keep_drew | apply keep_alloc) | exact HK.out))) : w.heap.size ≤ gb146)); have n5_ := Aside0.mk ((Nat.le_trans HW0.out (by rw [hg]; exact (keep_size (w := w) (g := g) (row := none) (by repeat (first | (with_reducible first | exact HK.out | apply KeepBut.set_ | apply keep_drewN | apply keep_drew | apply keep_alloc) | exact HK.out))) : w.heap.size ≤ gb146) : w0.heap.size ≤ gb146)); have n6_ := Aside0.mk ((by rw [hg]; exact Nat.ne_of_lt (IsS91.lt (show IsS91 w0 _ g s0_0 s0_1 s0_2 s0_3 s0_4 from by repeat (first | (with_reducible first | exact HI0.out | apply IsS91.alloc | apply IsS91.drewN | apply IsS91.drew | apply IsS91.set_1 | apply IsS91.set_3 | apply IsS91.set_4) | exact HI0.out))) : g ≠ gb146)); have n7_ := Aside0.mk ((by rw [hg]; exact Nat.ne_of_gt (IsS91.lt (show IsS91 w0 _ g s0_0 s0_1 s0_2 s0_3 s0_4 from by repeat (first | (with_reducible first | exact HI0.out | apply IsS91.alloc | apply IsS91.drewN | apply IsS91.drew | apply IsS91.set_1 | apply IsS91.set_3 | apply IsS91.set_4) | exact HI0.out))) : gb146 ≠ g)); clear HI0; clear HK; clear HB; have HI0 := n0_; have HK := n1_; have HB := n2_; have BK146 := n3_; have GW146 := n4_; have GE146 := n5_; have NB0_146 := n6_; have NB146_0 := n7_; clear n0_ n1_ n2_ n3_ n4_ n5_ n6_ n7_; clear hb hbox hg; obtain ⟨ASz24_0, cSz24_0, ASz24_2, cSz24_2, HGz24, hgz24, HSz24_0, HSz24_2⟩ := HI0.out; have hcz24_0 := cellS91_0 HGz24; have hcz24_1 := cellS91_1 HGz24; have hcz24_2 := cellS91_2 HGz24; have hcz24_3 := cellS91_3 HGz24; have hcz24_4 := cellS91_4 HGz24; have hfz24_1 := blk_frozen HGz24 1; have hfz24_3 := blk_frozen HGz24 3; have hfz24_4 := blk_frozen HGz24 4; clear HGz24 hgz24; have hnb25 := NB146_0.out; have hnc25 := NB0_146.out; have hcz26_0 : w23.cell? ⟨gb146, 0, none⟩ = some (.int .i64 a1_0) := (blk_cell BK146.out 0).trans rfl; have hcz26_1 : w23.cell? ⟨gb146, 1, none⟩ = some (.string a1_1) := (blk_cell BK146.out 1).trans rfl; have hcz26_2 : w23.cell? ⟨gb146, 2, none⟩ = some (.int .i64 a1_2) := (blk_cell BK146.out 2).trans rfl; have hcz26_3 : w23.cell? ⟨gb146, 3, none⟩ = some (.bool a1_3) := (blk_cell BK146.out 3).trans rfl; have hcz26_4 : w23.cell? ⟨gb146, 4, none⟩ = some (.bool a1_4) := (blk_cell BK146.out 4).trans rfl; have hfz26_0 := blk_frozen BK146.out 0; have hfz26_1 := blk_frozen BK146.out 1; have hfz26_2 := blk_frozen BK146.out 2; have hfz26_3 := blk_frozen BK146.out 3; have hfz26_4 := blk_frozen BK146.out 4))
              go_ret
              exact ⟨by first | rfl | (simp [errW_none, errW_some] <;> rfl) | (simp [*, errW_none, errW_some] <;> rfl), by repeat (first | (with_reducible first | exact HI0.out | apply IsS91.alloc | apply IsS91.drewN | apply IsS91.drew | apply IsS91.set_1 | apply IsS91.set_3 | apply IsS91.set_4 | refine IsS91.far ?_ NB0_146.out _) | exact HI0.out), by repeat (first | (with_reducible first | exact HB.out | apply below_alloc | apply pw_below_drewN | apply below_drew1 | refine below_set ?_ (IsS91.ge HI0.out) | refine below_set ?_ GE146.out) | exact HB.out), by repeat (first | (with_reducible first | exact HK.out | apply KeepBut.set_ | apply keep_drewN | apply keep_drew | apply keep_alloc | refine keep_far ?_ GW146.out _) | exact HK.out)⟩
          · rw [if_neg c21] at H
            have c21b0 : (a1_0 == 16) = false := beq_eq_false_iff_ne.mpr c21
            have c21b1 : (a1_0 != 16) = true := bne_iff_ne.mpr c21
            by_cases c27 : a1_0 = 17
            · rw [if_pos c27] at H
              exact absurd H (by simp)
            · rw [if_neg c27] at H
              have c27b0 : (a1_0 == 17) = false := beq_eq_false_iff_ne.mpr c27
              have c27b1 : (a1_0 != 17) = true := bne_iff_ne.mpr c27
              by_cases c28 : a1_0 = 18
              · rw [if_pos c28] at H
                have c28b0 : (a1_0 == 18) = true := beq_iff_eq.mpr c28
                have c28b1 : (a1_0 != 18) = false := bne_eq_false_iff_eq.mpr c28
                clear c28
                replace H := Option.bind_eq_some_iff.mp H
                obtain ⟨⟨t154, t155, t156⟩, A290, H⟩ := H
                replace H : (some ((-1), t154, t155, t156)) = some (r1, r2, r3, r4) := H
                have A29 := Aside0.mk A290
                clear A290
                simp only [Option.some.injEq, Prod.mk.injEq] at H
                obtain ⟨rfl, rfl, rfl, rfl⟩ := H
                go_enter Tryd.func58, Tryd.ntmps58
                go_wp2_with (first | ((with_reducible refine gate_dst (N := 3) rfl ?_); (try (refine gate_guard (by rfl) ?_; dsimp only)); refine box_event ?hg (N := 3) ?hd (cs := #[.int .i64 a1_0, .string a1_1, .int .i64 a1_2, .bool a1_3, .bool a1_4]) (t := 29) ?hr ?_; (case hd => rfl); (case hg => rfl); (case hr => first | (go_simp; done) | (go_simp; rfl)); intro gb146 hg w30 hbox hb; have n0_ := Aside0.mk (IsS91.below (by repeat (first | (with_reducible first | exact HI0.out | apply IsS91.alloc | apply IsS91.drewN | apply IsS91.drew | apply IsS91.set_1 | apply IsS91.set_3 | apply IsS91.set_4) | exact HI0.out)) hb); have n1_ := Aside0.mk (KeepBut.trans (by repeat (first | (with_reducible first | exact HK.out | apply KeepBut.set_ | apply keep_drewN | apply keep_drew | apply keep_alloc) | exact HK.out)) (KeepBut.of_below hb g none) (.inl rfl)); have n2_ := Aside0.mk (below_step (by repeat (first | (with_reducible first | exact HB.out | apply below_alloc | apply pw_below_drewN | apply below_drew1 | refine below_set ?_ (IsS91.ge HI0.out)) | exact HB.out)) hb); have n3_ := Aside0.mk (hbox); have n4_ := Aside0.mk ((by rw [hg]; exact (keep_size (w := w) (g := g) (row := none) (by repeat (first | (with_reducible first | exact HK.out | apply KeepBut.set_ | apply keep_drewN | apply keep_drew | apply keep_alloc) | exact HK.out))) : w.heap.size ≤ gb146)); have n5_ := Aside0.mk ((Nat.le_trans HW0.out (by rw [hg]; exact (keep_size (w := w) (g := g) (row := none) (by repeat (first | (with_reducible first | exact HK.out | apply KeepBut.set_ | apply keep_drewN | apply keep_drew | apply keep_alloc) | exact HK.out))) : w.heap.size ≤ gb146) : w0.heap.size ≤ gb146)); have n6_ := Aside0.mk ((by rw [hg]; exact Nat.ne_of_lt (IsS91.lt (show IsS91 w0 _ g s0_0 s0_1 s0_2 s0_3 s0_4 from by repeat (first | (with_reducible first | exact HI0.out | apply IsS91.alloc | apply IsS91.drewN | apply IsS91.drew | apply IsS91.set_1 | apply IsS91.set_3 | apply IsS91.set_4) | exact HI0.out))) : g ≠ gb146)); have n7_ := Aside0.mk ((by rw [hg]; exact Nat.ne_of_gt (IsS91.lt (show IsS91 w0 _ g s0_0 s0_1 s0_2 s0_3 s0_4 from by repeat (first | (with_reducible first | exact HI0.out | apply IsS91.alloc | apply IsS91.drewN | apply IsS91.drew | apply IsS91.set_1 | apply IsS91.set_3 | apply IsS91.set_4) | exact HI0.out))) : gb146 ≠ g)); clear HI0; clear HK; clear HB; have HI0 := n0_; have HK := n1_; have HB := n2_; have BK146 := n3_; have GW146 := n4_; have GE146 := n5_; have NB0_146 := n6_; have NB146_0 := n7_; clear n0_ n1_ n2_ n3_ n4_ n5_ n6_ n7_; clear hb hbox hg; obtain ⟨ASz31_0, cSz31_0, ASz31_2, cSz31_2, HGz31, hgz31, HSz31_0, HSz31_2⟩ := HI0.out; have hcz31_0 := cellS91_0 HGz31; have hcz31_1 := cellS91_1 HGz31; have hcz31_2 := cellS91_2 HGz31; have hcz31_3 := cellS91_3 HGz31; have hcz31_4 := cellS91_4 HGz31; have hfz31_1 := blk_frozen HGz31 1; have hfz31_3 := blk_frozen HGz31 3; have hfz31_4 := blk_frozen HGz31 4; clear HGz31 hgz31; have hnb32 := NB146_0.out; have hnc32 := NB0_146.out; have hcz33_0 : w30.cell? ⟨gb146, 0, none⟩ = some (.int .i64 a1_0) := (blk_cell BK146.out 0).trans rfl; have hcz33_1 : w30.cell? ⟨gb146, 1, none⟩ = some (.string a1_1) := (blk_cell BK146.out 1).trans rfl; have hcz33_2 : w30.cell? ⟨gb146, 2, none⟩ = some (.int .i64 a1_2) := (blk_cell BK146.out 2).trans rfl; have hcz33_3 : w30.cell? ⟨gb146, 3, none⟩ = some (.bool a1_3) := (blk_cell BK146.out 3).trans rfl; have hcz33_4 : w30.cell? ⟨gb146, 4, none⟩ = some (.bool a1_4) := (blk_cell BK146.out 4).trans rfl; have hfz33_0 := blk_frozen BK146.out 0; have hfz33_1 := blk_frozen BK146.out 1; have hfz33_2 := blk_frozen BK146.out 2; have hfz33_3 := blk_frozen BK146.out 3; have hfz33_4 := blk_frozen BK146.out 4) | ((with_reducible refine gate_callee (f := 95) rfl ?_); refine goesL_ (some 76) rfl rfl Tryd.func95 (by kernel_rfl) rfl #[.pointer (some ⟨g, 0, none⟩)] rfl (by (try simp only [List.map_toArray, List.map_cons, List.map_nil]); first | done | rfl | (simp only [List.length_drop, List.length_take]; rfl) | (simp only [Int.toNat_natCast, ByteArray.extract_zero_size]; rfl)) ?_; (with_reducible refine (spec_Editor_transpose.calls k g s0_0 s0_1 s0_2 s0_3 s0_4 t154 t155 t156 w0 _ ?side1 ?side2 A29.out).mono ?_); (case side1 => repeat (first | (with_reducible first | exact HI0.out | apply IsS91.alloc | apply IsS91.drewN | apply IsS91.drew | apply IsS91.set_1 | apply IsS91.set_3 | apply IsS91.set_4 | refine IsS91.far ?_ NB0_146.out _) | exact HI0.out)); (case side2 => repeat (first | (with_reducible first | exact HB.out | apply below_alloc | apply pw_below_drewN | apply below_drew1 | refine below_set ?_ (IsS91.ge HI0.out) | refine below_set ?_ GE146.out) | exact HB.out)); rintro e w34 ⟨rfl, hi, hb, hk⟩; refine ⟨_, rfl, ?_⟩; have n0_ := Aside0.mk (KeepBut.blk hk (g' := gb146) (o := .cells #[.int .i64 a1_0, .string a1_1, .int .i64 a1_2, .bool a1_3, .bool a1_4] 29 (0, 0)) (by (with_reducible repeat (first | refine blk_drewN ?_ _ | refine blk_drew ?_ | refine blk_alloc ?_ _)); exact BK146.out) NB146_0.out (by simp)); have n1_ := Aside0.mk (KeepBut.trans (by repeat (first | (with_reducible first | exact HK.out | apply KeepBut.set_ | apply keep_drewN | apply keep_drew | apply keep_alloc | refine keep_far ?_ GW146.out _) | exact HK.out)) hk (.inl rfl)); have n2_ := Aside0.mk (hb); have n3_ := Aside0.mk (hi); clear BK146; clear HK; clear HB; clear HI0; have BK146 := n0_; have HK := n1_; have HB := n2_; have HI0 := n3_; clear n0_ n1_ n2_ n3_; (try clear hb); (try clear hb2); (try clear hk); (try clear hi)))
                go_ret
                exact ⟨by first | rfl | (simp [errW_none, errW_some] <;> rfl) | (simp [*, errW_none, errW_some] <;> rfl), by repeat (first | (with_reducible first | exact HI0.out | apply IsS91.alloc | apply IsS91.drewN | apply IsS91.drew | apply IsS91.set_1 | apply IsS91.set_3 | apply IsS91.set_4 | refine IsS91.far ?_ NB0_146.out _) | exact HI0.out), by repeat (first | (with_reducible first | exact HB.out | apply below_alloc | apply pw_below_drewN | apply below_drew1 | refine below_set ?_ (IsS91.ge HI0.out) | refine below_set ?_ GE146.out) | exact HB.out), by repeat (first | (with_reducible first | exact HK.out | apply KeepBut.set_ | apply keep_drewN | apply keep_drew | apply keep_alloc | refine keep_far ?_ GW146.out _) | exact HK.out)⟩
              · rw [if_neg c28] at H
                have c28b0 : (a1_0 == 18) = false := beq_eq_false_iff_ne.mpr c28
                have c28b1 : (a1_0 != 18) = true := bne_iff_ne.mpr c28
                by_cases c35 : a1_0 = 19
                · rw [if_pos c35] at H
                  have c35b0 : (a1_0 == 19) = true := beq_iff_eq.mpr c35
                  have c35b1 : (a1_0 != 19) = false := bne_eq_false_iff_eq.mpr c35
                  clear c35
                  replace H := Option.bind_eq_some_iff.mp H
                  obtain ⟨⟨t157, t158, t159, t160⟩, A360, H⟩ := H
                  replace H : ((spec_told.f t157).bind fun t161 => (some (t161, t158, t159, t160))) = some (r1, r2, r3, r4) := H
                  have A36 := Aside0.mk A360
                  clear A360
                  replace H := Option.bind_eq_some_iff.mp H
                  obtain ⟨t161, A370, H⟩ := H
                  replace H : (some (t161, t158, t159, t160)) = some (r1, r2, r3, r4) := H
                  have A37 := Aside0.mk A370
                  clear A370
                  simp only [Option.some.injEq, Prod.mk.injEq] at H
                  obtain ⟨rfl, rfl, rfl, rfl⟩ := H
                  go_enter Tryd.func58, Tryd.ntmps58
                  go_wp2_with (first | ((with_reducible refine gate_dst (N := 3) rfl ?_); (try (refine gate_guard (by rfl) ?_; dsimp only)); refine box_event ?hg (N := 3) ?hd (cs := #[.int .i64 a1_0, .string a1_1, .int .i64 a1_2, .bool a1_3, .bool a1_4]) (t := 29) ?hr ?_; (case hd => rfl); (case hg => rfl); (case hr => first | (go_simp; done) | (go_simp; rfl)); intro gb146 hg w38 hbox hb; have n0_ := Aside0.mk (IsS91.below (by repeat (first | (with_reducible first | exact HI0.out | apply IsS91.alloc | apply IsS91.drewN | apply IsS91.drew | apply IsS91.set_1 | apply IsS91.set_3 | apply IsS91.set_4) | exact HI0.out)) hb); have n1_ := Aside0.mk (KeepBut.trans (by repeat (first | (with_reducible first | exact HK.out | apply KeepBut.set_ | apply keep_drewN | apply keep_drew | apply keep_alloc) | exact HK.out)) (KeepBut.of_below hb g none) (.inl rfl)); have n2_ := Aside0.mk (below_step (by repeat (first | (with_reducible first | exact HB.out | apply below_alloc | apply pw_below_drewN | apply below_drew1 | refine below_set ?_ (IsS91.ge HI0.out)) | exact HB.out)) hb); have n3_ := Aside0.mk (hbox); have n4_ := Aside0.mk ((by rw [hg]; exact (keep_size (w := w) (g := g) (row := none) (by repeat (first | (with_reducible first | exact HK.out | apply KeepBut.set_ | apply keep_drewN | apply keep_drew | apply keep_alloc) | exact HK.out))) : w.heap.size ≤ gb146)); have n5_ := Aside0.mk ((Nat.le_trans HW0.out (by rw [hg]; exact (keep_size (w := w) (g := g) (row := none) (by repeat (first | (with_reducible first | exact HK.out | apply KeepBut.set_ | apply keep_drewN | apply keep_drew | apply keep_alloc) | exact HK.out))) : w.heap.size ≤ gb146) : w0.heap.size ≤ gb146)); have n6_ := Aside0.mk ((by rw [hg]; exact Nat.ne_of_lt (IsS91.lt (show IsS91 w0 _ g s0_0 s0_1 s0_2 s0_3 s0_4 from by repeat (first | (with_reducible first | exact HI0.out | apply IsS91.alloc | apply IsS91.drewN | apply IsS91.drew | apply IsS91.set_1 | apply IsS91.set_3 | apply IsS91.set_4) | exact HI0.out))) : g ≠ gb146)); have n7_ := Aside0.mk ((by rw [hg]; exact Nat.ne_of_gt (IsS91.lt (show IsS91 w0 _ g s0_0 s0_1 s0_2 s0_3 s0_4 from by repeat (first | (with_reducible first | exact HI0.out | apply IsS91.alloc | apply IsS91.drewN | apply IsS91.drew | apply IsS91.set_1 | apply IsS91.set_3 | apply IsS91.set_4) | exact HI0.out))) : gb146 ≠ g)); clear HI0; clear HK; clear HB; have HI0 := n0_; have HK := n1_; have HB := n2_; have BK146 := n3_; have GW146 := n4_; have GE146 := n5_; have NB0_146 := n6_; have NB146_0 := n7_; clear n0_ n1_ n2_ n3_ n4_ n5_ n6_ n7_; clear hb hbox hg; obtain ⟨ASz39_0, cSz39_0, ASz39_2, cSz39_2, HGz39, hgz39, HSz39_0, HSz39_2⟩ := HI0.out; have hcz39_0 := cellS91_0 HGz39; have hcz39_1 := cellS91_1 HGz39; have hcz39_2 := cellS91_2 HGz39; have hcz39_3 := cellS91_3 HGz39; have hcz39_4 := cellS91_4 HGz39; have hfz39_1 := blk_frozen HGz39 1; have hfz39_3 := blk_frozen HGz39 3; have hfz39_4 := blk_frozen HGz39 4; clear HGz39 hgz39; have hnb40 := NB146_0.out; have hnc40 := NB0_146.out; have hcz41_0 : w38.cell? ⟨gb146, 0, none⟩ = some (.int .i64 a1_0) := (blk_cell BK146.out 0).trans rfl; have hcz41_1 : w38.cell? ⟨gb146, 1, none⟩ = some (.string a1_1) := (blk_cell BK146.out 1).trans rfl; have hcz41_2 : w38.cell? ⟨gb146, 2, none⟩ = some (.int .i64 a1_2) := (blk_cell BK146.out 2).trans rfl; have hcz41_3 : w38.cell? ⟨gb146, 3, none⟩ = some (.bool a1_3) := (blk_cell BK146.out 3).trans rfl; have hcz41_4 : w38.cell? ⟨gb146, 4, none⟩ = some (.bool a1_4) := (blk_cell BK146.out 4).trans rfl; have hfz41_0 := blk_frozen BK146.out 0; have hfz41_1 := blk_frozen BK146.out 1; have hfz41_2 := blk_frozen BK146.out 2; have hfz41_3 := blk_frozen BK146.out 3; have hfz41_4 := blk_frozen BK146.out 4) | ((with_reducible refine gate_callee (f := 96) rfl ?_); refine goesL_ (some 87) rfl rfl Tryd.func96 (by kernel_rfl) rfl #[.pointer (some ⟨g, 0, none⟩), .int .i32 (wrap32 (a1_2)), .bool a1_3, .bool a1_4] rfl (by (try simp only [List.map_toArray, List.map_cons, List.map_nil]); first | done | rfl | (simp only [List.length_drop, List.length_take]; rfl) | (simp only [Int.toNat_natCast, ByteArray.extract_zero_size]; rfl)) ?_; (with_reducible refine (spec_Editor_moveTo.calls k g s0_0 s0_1 s0_2 s0_3 s0_4 (wrap32 (a1_2)) a1_3 a1_4 t157 t158 t159 t160 w0 _ ?side1 ?side2 A36.out).mono ?_); (case side1 => repeat (first | (with_reducible first | exact HI0.out | apply IsS91.alloc | apply IsS91.drewN | apply IsS91.drew | apply IsS91.set_1 | apply IsS91.set_3 | apply IsS91.set_4 | refine IsS91.far ?_ NB0_146.out _) | exact HI0.out)); (case side2 => repeat (first | (with_reducible first | exact HB.out | apply below_alloc | apply pw_below_drewN | apply below_drew1 | refine below_set ?_ (IsS91.ge HI0.out) | refine below_set ?_ GE146.out) | exact HB.out)); rintro e w42 ⟨rfl, hi, hb, hk⟩; refine ⟨_, rfl, ?_⟩; have n0_ := Aside0.mk (KeepBut.blk hk (g' := gb146) (o := .cells #[.int .i64 a1_0, .string a1_1, .int .i64 a1_2, .bool a1_3, .bool a1_4] 29 (0, 0)) (by (with_reducible repeat (first | refine blk_drewN ?_ _ | refine blk_drew ?_ | refine blk_alloc ?_ _)); exact BK146.out) NB146_0.out (by simp)); have n1_ := Aside0.mk (KeepBut.trans (by repeat (first | (with_reducible first | exact HK.out | apply KeepBut.set_ | apply keep_drewN | apply keep_drew | apply keep_alloc | refine keep_far ?_ GW146.out _) | exact HK.out)) hk (.inl rfl)); have n2_ := Aside0.mk (hb); have n3_ := Aside0.mk (hi); clear BK146; clear HK; clear HB; clear HI0; have BK146 := n0_; have HK := n1_; have HB := n2_; have HI0 := n3_; clear n0_ n1_ n2_ n3_; (try clear hb); (try clear hb2); (try clear hk); (try clear hi)) | ((with_reducible refine gate_callee (f := 56) rfl ?_); refine goesL_ (some 88) rfl rfl Tryd.func56 (by kernel_rfl) rfl #[.bool t157] rfl (by (try simp only [List.map_toArray, List.map_cons, List.map_nil]); first | done | rfl | (simp only [List.length_drop, List.length_take]; rfl) | (simp only [Int.toNat_natCast, ByteArray.extract_zero_size]; rfl)) ?_; (with_reducible refine (spec_told.calls t157 t161 _ A37.out).mono ?_); rintro e w' ⟨rfl, ⟨nd, rfl⟩⟩; refine ⟨_, rfl, ?_⟩))
                  go_ret
                  exact ⟨by first | rfl | (simp [errW_none, errW_some] <;> rfl) | (simp [*, errW_none, errW_some] <;> rfl), by repeat (first | (with_reducible first | exact HI0.out | apply IsS91.alloc | apply IsS91.drewN | apply IsS91.drew | apply IsS91.set_1 | apply IsS91.set_3 | apply IsS91.set_4 | refine IsS91.far ?_ NB0_146.out _) | exact HI0.out), by repeat (first | (with_reducible first | exact HB.out | apply below_alloc | apply pw_below_drewN | apply below_drew1 | refine below_set ?_ (IsS91.ge HI0.out) | refine below_set ?_ GE146.out) | exact HB.out), by repeat (first | (with_reducible first | exact HK.out | apply KeepBut.set_ | apply keep_drewN | apply keep_drew | apply keep_alloc | refine keep_far ?_ GW146.out _) | exact HK.out)⟩
                · rw [if_neg c35] at H
                  have c35b0 : (a1_0 == 19) = false := beq_eq_false_iff_ne.mpr c35
                  have c35b1 : (a1_0 != 19) = true := bne_iff_ne.mpr c35
                  by_cases c43 : a1_0 = 20
                  · rw [if_pos c43] at H
                    have c43b0 : (a1_0 == 20) = true := beq_iff_eq.mpr c43
                    have c43b1 : (a1_0 != 20) = false := bne_eq_false_iff_eq.mpr c43
                    clear c43
                    by_cases c44 : (runesOf a1_1).length ≤ 70368744177664
                    · rw [if_pos c44] at H
                      have c44b0 := eq_true c44
                      have c44b1 : decide ((runesOf a1_1).length ≤ 70368744177664) = true := decide_eq_true c44
                      clear c44
                      obtain ⟨y162, hy162⟩ : ∃ y_ : List Int, y_ = (runesOf a1_1) := ⟨_, rfl⟩
                      replace H : (if a1_2 < 0 then (some ((-1), s0_1, s0_3, true)) else (if a1_2 > (y162.length : Int) then (some ((-1), s0_1, s0_3, true)) else (none))) = some (r1, r2, r3, r4) := by first | (rw [hy162]; with_reducible exact H) | (have H2_ := (Option.bind_some _ _).symm.trans H; rw [hy162]; with_reducible exact H2_) | (have H2_ := (Option.bind_some _ _).symm.trans H; with_reducible exact H2_) | with_reducible exact H | (rw [hy162]; exact H) | exact H
                      have Ny162 := Aside0.mk hy162
                      clear hy162
                      by_cases c45 : a1_2 < 0
                      · rw [if_pos c45] at H
                        have c45b0 : decide (a1_2 < 0) = true := decide_eq_true c45
                        clear c45
                        simp only [Option.some.injEq, Prod.mk.injEq] at H
                        obtain ⟨rfl, rfl, rfl, rfl⟩ := H
                        go_enter Tryd.func58, Tryd.ntmps58
                        go_wp2_with (first | ((with_reducible refine gate_dst (N := 3) rfl ?_); (try (refine gate_guard (by rfl) ?_; dsimp only)); refine box_event ?hg (N := 3) ?hd (cs := #[.int .i64 a1_0, .string a1_1, .int .i64 a1_2, .bool a1_3, .bool a1_4]) (t := 29) ?hr ?_; (case hd => rfl); (case hg => rfl); (case hr => first | (go_simp; done) | (go_simp; rfl)); intro gb146 hg w46 hbox hb; have n0_ := Aside0.mk (IsS91.below (by repeat (first | (with_reducible first | exact HI0.out | apply IsS91.alloc | apply IsS91.drewN | apply IsS91.drew | apply IsS91.set_1 | apply IsS91.set_3 | apply IsS91.set_4) | exact HI0.out)) hb); have n1_ := Aside0.mk (KeepBut.trans (by repeat (first | (with_reducible first | exact HK.out | apply KeepBut.set_ | apply keep_drewN | apply keep_drew | apply keep_alloc) | exact HK.out)) (KeepBut.of_below hb g none) (.inl rfl)); have n2_ := Aside0.mk (below_step (by repeat (first | (with_reducible first | exact HB.out | apply below_alloc | apply pw_below_drewN | apply below_drew1 | refine below_set ?_ (IsS91.ge HI0.out)) | exact HB.out)) hb); have n3_ := Aside0.mk (hbox); have n4_ := Aside0.mk ((by rw [hg]; exact (keep_size (w := w) (g := g) (row := none) (by repeat (first | (with_reducible first | exact HK.out | apply KeepBut.set_ | apply keep_drewN | apply keep_drew | apply keep_alloc) | exact HK.out))) : w.heap.size ≤ gb146)); have n5_ := Aside0.mk ((Nat.le_trans HW0.out (by rw [hg]; exact (keep_size (w := w) (g := g) (row := none) (by repeat (first | (with_reducible first | exact HK.out | apply KeepBut.set_ | apply keep_drewN | apply keep_drew | apply keep_alloc) | exact HK.out))) : w.heap.size ≤ gb146) : w0.heap.size ≤ gb146)); have n6_ := Aside0.mk ((by rw [hg]; exact Nat.ne_of_lt (IsS91.lt (show IsS91 w0 _ g s0_0 s0_1 s0_2 s0_3 s0_4 from by repeat (first | (with_reducible first | exact HI0.out | apply IsS91.alloc | apply IsS91.drewN | apply IsS91.drew | apply IsS91.set_1 | apply IsS91.set_3 | apply IsS91.set_4) | exact HI0.out))) : g ≠ gb146)); have n7_ := Aside0.mk ((by rw [hg]; exact Nat.ne_of_gt (IsS91.lt (show IsS91 w0 _ g s0_0 s0_1 s0_2 s0_3 s0_4 from by repeat (first | (with_reducible first | exact HI0.out | apply IsS91.alloc | apply IsS91.drewN | apply IsS91.drew | apply IsS91.set_1 | apply IsS91.set_3 | apply IsS91.set_4) | exact HI0.out))) : gb146 ≠ g)); clear HI0; clear HK; clear HB; have HI0 := n0_; have HK := n1_; have HB := n2_; have BK146 := n3_; have GW146 := n4_; have GE146 := n5_; have NB0_146 := n6_; have NB146_0 := n7_; clear n0_ n1_ n2_ n3_ n4_ n5_ n6_ n7_; clear hb hbox hg; obtain ⟨ASz47_0, cSz47_0, ASz47_2, cSz47_2, HGz47, hgz47, HSz47_0, HSz47_2⟩ := HI0.out; have hcz47_0 := cellS91_0 HGz47; have hcz47_1 := cellS91_1 HGz47; have hcz47_2 := cellS91_2 HGz47; have hcz47_3 := cellS91_3 HGz47; have hcz47_4 := cellS91_4 HGz47; have hfz47_1 := blk_frozen HGz47 1; have hfz47_3 := blk_frozen HGz47 3; have hfz47_4 := blk_frozen HGz47 4; clear HGz47 hgz47; have hnb48 := NB146_0.out; have hnc48 := NB0_146.out; have hcz49_0 : w46.cell? ⟨gb146, 0, none⟩ = some (.int .i64 a1_0) := (blk_cell BK146.out 0).trans rfl; have hcz49_1 : w46.cell? ⟨gb146, 1, none⟩ = some (.string a1_1) := (blk_cell BK146.out 1).trans rfl; have hcz49_2 : w46.cell? ⟨gb146, 2, none⟩ = some (.int .i64 a1_2) := (blk_cell BK146.out 2).trans rfl; have hcz49_3 : w46.cell? ⟨gb146, 3, none⟩ = some (.bool a1_3) := (blk_cell BK146.out 3).trans rfl; have hcz49_4 : w46.cell? ⟨gb146, 4, none⟩ = some (.bool a1_4) := (blk_cell BK146.out 4).trans rfl; have hfz49_0 := blk_frozen BK146.out 0; have hfz49_1 := blk_frozen BK146.out 1; have hfz49_2 := blk_frozen BK146.out 2; have hfz49_3 := blk_frozen BK146.out 3; have hfz49_4 := blk_frozen BK146.out 4) | ((with_reducible refine gate_dst (N := 93) rfl ?_); (try (refine gate_guard (by rfl) ?_; dsimp only)); refine R_runes _ 21 rfl (N := 93) rfl 9 66 _ rfl a1_1 rfl Tryd.underlying9 Tryd.underlying66 Tryd.underlying21 (ok := fun _ => True) (okp := fun _ => True) (fun _ hk => hk) trivial (of_decide_eq_true (by first | (with_reducible assumption) | assumption)) (Below.refl _ _) (Nat.le_refl _) ?_; intro v163 w50 ho51 hb hg_ hnew_; clear hg_ hnew_; (first | rw [← Ny162.out] at ho51 | (simp only [Int.reduceToNat] at ho51; rw [← Ny162.out] at ho51)); have n0_ := Aside0.mk (Kd.R_lower ho51 (keep_size (w := w) (g := g) (row := none) (by repeat (first | (with_reducible first | exact HK.out | apply KeepBut.set_ | apply keep_drewN | apply keep_drew | apply keep_alloc | refine keep_far ?_ GW146.out _) | exact HK.out)))); have n1_ := Aside0.mk (IsS91.below (by repeat (first | (with_reducible first | exact HI0.out | apply IsS91.alloc | apply IsS91.drewN | apply IsS91.drew | apply IsS91.set_1 | apply IsS91.set_3 | apply IsS91.set_4 | refine IsS91.far ?_ NB0_146.out _) | exact HI0.out)) hb); have n2_ := Aside0.mk (blk_below (g := gb146) (o := .cells #[.int .i64 a1_0, .string a1_1, .int .i64 a1_2, .bool a1_3, .bool a1_4] 29 (0, 0)) (by (with_reducible repeat (first | refine blk_drewN ?_ _ | refine blk_drew ?_ | refine blk_alloc ?_ _)); exact BK146.out) hb); have n3_ := Aside0.mk (KeepBut.trans (by repeat (first | (with_reducible first | exact HK.out | apply KeepBut.set_ | apply keep_drewN | apply keep_drew | apply keep_alloc | refine keep_far ?_ GW146.out _) | exact HK.out)) (KeepBut.of_below hb g none) (.inl rfl)); have n4_ := Aside0.mk (below_step (by repeat (first | (with_reducible first | exact HB.out | apply below_alloc | apply pw_below_drewN | apply below_drew1 | refine below_set ?_ (IsS91.ge HI0.out) | refine below_set ?_ GE146.out) | exact HB.out)) hb); clear HI0; clear BK146; clear HK; clear HB; have HO164 := n0_; have HI0 := n1_; have BK146 := n2_; have HK := n3_; have HB := n4_; clear n0_ n1_ n2_ n3_ n4_; clear hb ho51; have hcz52_0 : w50.cell? ⟨gb146, 0, none⟩ = some (.int .i64 a1_0) := (blk_cell BK146.out 0).trans rfl; have hcz52_1 : w50.cell? ⟨gb146, 1, none⟩ = some (.string a1_1) := (blk_cell BK146.out 1).trans rfl; have hcz52_2 : w50.cell? ⟨gb146, 2, none⟩ = some (.int .i64 a1_2) := (blk_cell BK146.out 2).trans rfl; have hcz52_3 : w50.cell? ⟨gb146, 3, none⟩ = some (.bool a1_3) := (blk_cell BK146.out 3).trans rfl; have hcz52_4 : w50.cell? ⟨gb146, 4, none⟩ = some (.bool a1_4) := (blk_cell BK146.out 4).trans rfl; have hfz52_0 := blk_frozen BK146.out 0; have hfz52_1 := blk_frozen BK146.out 1; have hfz52_2 := blk_frozen BK146.out 2; have hfz52_3 := blk_frozen BK146.out 3; have hfz52_4 := blk_frozen BK146.out 4; obtain ⟨ASz53_0, cSz53_0, ASz53_2, cSz53_2, HGz53, hgz53, HSz53_0, HSz53_2⟩ := HI0.out; have hcz53_0 := cellS91_0 HGz53; have hcz53_1 := cellS91_1 HGz53; have hcz53_2 := cellS91_2 HGz53; have hcz53_3 := cellS91_3 HGz53; have hcz53_4 := cellS91_4 HGz53; have hfz53_1 := blk_frozen HGz53 1; have hfz53_3 := blk_frozen HGz53 3; have hfz53_4 := blk_frozen HGz53 4; clear HGz53 hgz53))
                        go_ret
                        exact ⟨by first | rfl | (simp [errW_none, errW_some] <;> rfl) | (simp [*, errW_none, errW_some] <;> rfl), by repeat (first | (with_reducible first | exact HI0.out | apply IsS91.alloc | apply IsS91.drewN | apply IsS91.drew | apply IsS91.set_1 | apply IsS91.set_3 | apply IsS91.set_4 | refine IsS91.far ?_ NB0_146.out _) | exact HI0.out), by repeat (first | (with_reducible first | exact HB.out | apply below_alloc | apply pw_below_drewN | apply below_drew1 | refine below_set ?_ (IsS91.ge HI0.out) | refine below_set ?_ GE146.out) | exact HB.out), by repeat (first | (with_reducible first | exact HK.out | apply KeepBut.set_ | apply keep_drewN | apply keep_drew | apply keep_alloc | refine keep_far ?_ GW146.out _) | exact HK.out)⟩
                      · rw [if_neg c45] at H
                        have c45b0 : decide (a1_2 < 0) = false := decide_eq_false c45
                        clear c45
                        by_cases c54 : a1_2 > (y162.length : Int)
                        · rw [if_pos c54] at H
                          have c54b0 : decide ((y162.length : Int) < a1_2) = true := decide_eq_true c54
                          clear c54
                          simp only [Option.some.injEq, Prod.mk.injEq] at H
                          obtain ⟨rfl, rfl, rfl, rfl⟩ := H
                          go_enter Tryd.func58, Tryd.ntmps58
                          go_wp2_with (first | ((with_reducible refine gate_dst (N := 3) rfl ?_); (try (refine gate_guard (by rfl) ?_; dsimp only)); refine box_event ?hg (N := 3) ?hd (cs := #[.int .i64 a1_0, .string a1_1, .int .i64 a1_2, .bool a1_3, .bool a1_4]) (t := 29) ?hr ?_; (case hd => rfl); (case hg => rfl); (case hr => first | (go_simp; done) | (go_simp; rfl)); intro gb146 hg w55 hbox hb; have n0_ := Aside0.mk (IsS91.below (by repeat (first | (with_reducible first | exact HI0.out | apply IsS91.alloc | apply IsS91.drewN | apply IsS91.drew | apply IsS91.set_1 | apply IsS91.set_3 | apply IsS91.set_4) | exact HI0.out)) hb); have n1_ := Aside0.mk (KeepBut.trans (by repeat (first | (with_reducible first | exact HK.out | apply KeepBut.set_ | apply keep_drewN | apply keep_drew | apply keep_alloc) | exact HK.out)) (KeepBut.of_below hb g none) (.inl rfl)); have n2_ := Aside0.mk (below_step (by repeat (first | (with_reducible first | exact HB.out | apply below_alloc | apply pw_below_drewN | apply below_drew1 | refine below_set ?_ (IsS91.ge HI0.out)) | exact HB.out)) hb); have n3_ := Aside0.mk (hbox); have n4_ := Aside0.mk ((by rw [hg]; exact (keep_size (w := w) (g := g) (row := none) (by repeat (first | (with_reducible first | exact HK.out | apply KeepBut.set_ | apply keep_drewN | apply keep_drew | apply keep_alloc) | exact HK.out))) : w.heap.size ≤ gb146)); have n5_ := Aside0.mk ((Nat.le_trans HW0.out (by rw [hg]; exact (keep_size (w := w) (g := g) (row := none) (by repeat (first | (with_reducible first | exact HK.out | apply KeepBut.set_ | apply keep_drewN | apply keep_drew | apply keep_alloc) | exact HK.out))) : w.heap.size ≤ gb146) : w0.heap.size ≤ gb146)); have n6_ := Aside0.mk ((by rw [hg]; exact Nat.ne_of_lt (IsS91.lt (show IsS91 w0 _ g s0_0 s0_1 s0_2 s0_3 s0_4 from by repeat (first | (with_reducible first | exact HI0.out | apply IsS91.alloc | apply IsS91.drewN | apply IsS91.drew | apply IsS91.set_1 | apply IsS91.set_3 | apply IsS91.set_4) | exact HI0.out))) : g ≠ gb146)); have n7_ := Aside0.mk ((by rw [hg]; exact Nat.ne_of_gt (IsS91.lt (show IsS91 w0 _ g s0_0 s0_1 s0_2 s0_3 s0_4 from by repeat (first | (with_reducible first | exact HI0.out | apply IsS91.alloc | apply IsS91.drewN | apply IsS91.drew | apply IsS91.set_1 | apply IsS91.set_3 | apply IsS91.set_4) | exact HI0.out))) : gb146 ≠ g)); clear HI0; clear HK; clear HB; have HI0 := n0_; have HK := n1_; have HB := n2_; have BK146 := n3_; have GW146 := n4_; have GE146 := n5_; have NB0_146 := n6_; have NB146_0 := n7_; clear n0_ n1_ n2_ n3_ n4_ n5_ n6_ n7_; clear hb hbox hg; obtain ⟨ASz56_0, cSz56_0, ASz56_2, cSz56_2, HGz56, hgz56, HSz56_0, HSz56_2⟩ := HI0.out; have hcz56_0 := cellS91_0 HGz56; have hcz56_1 := cellS91_1 HGz56; have hcz56_2 := cellS91_2 HGz56; have hcz56_3 := cellS91_3 HGz56; have hcz56_4 := cellS91_4 HGz56; have hfz56_1 := blk_frozen HGz56 1; have hfz56_3 := blk_frozen HGz56 3; have hfz56_4 := blk_frozen HGz56 4; clear HGz56 hgz56; have hnb57 := NB146_0.out; have hnc57 := NB0_146.out; have hcz58_0 : w55.cell? ⟨gb146, 0, none⟩ = some (.int .i64 a1_0) := (blk_cell BK146.out 0).trans rfl; have hcz58_1 : w55.cell? ⟨gb146, 1, none⟩ = some (.string a1_1) := (blk_cell BK146.out 1).trans rfl; have hcz58_2 : w55.cell? ⟨gb146, 2, none⟩ = some (.int .i64 a1_2) := (blk_cell BK146.out 2).trans rfl; have hcz58_3 : w55.cell? ⟨gb146, 3, none⟩ = some (.bool a1_3) := (blk_cell BK146.out 3).trans rfl; have hcz58_4 : w55.cell? ⟨gb146, 4, none⟩ = some (.bool a1_4) := (blk_cell BK146.out 4).trans rfl; have hfz58_0 := blk_frozen BK146.out 0; have hfz58_1 := blk_frozen BK146.out 1; have hfz58_2 := blk_frozen BK146.out 2; have hfz58_3 := blk_frozen BK146.out 3; have hfz58_4 := blk_frozen BK146.out 4) | ((with_reducible refine gate_dst (N := 93) rfl ?_); (try (refine gate_guard (by rfl) ?_; dsimp only)); refine R_runes _ 21 rfl (N := 93) rfl 9 66 _ rfl a1_1 rfl Tryd.underlying9 Tryd.underlying66 Tryd.underlying21 (ok := fun _ => True) (okp := fun _ => True) (fun _ hk => hk) trivial (of_decide_eq_true (by first | (with_reducible assumption) | assumption)) (Below.refl _ _) (Nat.le_refl _) ?_; intro v163 w59 ho60 hb hg_ hnew_; clear hg_ hnew_; (first | rw [← Ny162.out] at ho60 | (simp only [Int.reduceToNat] at ho60; rw [← Ny162.out] at ho60)); have n0_ := Aside0.mk (Kd.R_lower ho60 (keep_size (w := w) (g := g) (row := none) (by repeat (first | (with_reducible first | exact HK.out | apply KeepBut.set_ | apply keep_drewN | apply keep_drew | apply keep_alloc | refine keep_far ?_ GW146.out _) | exact HK.out)))); have n1_ := Aside0.mk (IsS91.below (by repeat (first | (with_reducible first | exact HI0.out | apply IsS91.alloc | apply IsS91.drewN | apply IsS91.drew | apply IsS91.set_1 | apply IsS91.set_3 | apply IsS91.set_4 | refine IsS91.far ?_ NB0_146.out _) | exact HI0.out)) hb); have n2_ := Aside0.mk (blk_below (g := gb146) (o := .cells #[.int .i64 a1_0, .string a1_1, .int .i64 a1_2, .bool a1_3, .bool a1_4] 29 (0, 0)) (by (with_reducible repeat (first | refine blk_drewN ?_ _ | refine blk_drew ?_ | refine blk_alloc ?_ _)); exact BK146.out) hb); have n3_ := Aside0.mk (KeepBut.trans (by repeat (first | (with_reducible first | exact HK.out | apply KeepBut.set_ | apply keep_drewN | apply keep_drew | apply keep_alloc | refine keep_far ?_ GW146.out _) | exact HK.out)) (KeepBut.of_below hb g none) (.inl rfl)); have n4_ := Aside0.mk (below_step (by repeat (first | (with_reducible first | exact HB.out | apply below_alloc | apply pw_below_drewN | apply below_drew1 | refine below_set ?_ (IsS91.ge HI0.out) | refine below_set ?_ GE146.out) | exact HB.out)) hb); clear HI0; clear BK146; clear HK; clear HB; have HO164 := n0_; have HI0 := n1_; have BK146 := n2_; have HK := n3_; have HB := n4_; clear n0_ n1_ n2_ n3_ n4_; clear hb ho60; have hcz61_0 : w59.cell? ⟨gb146, 0, none⟩ = some (.int .i64 a1_0) := (blk_cell BK146.out 0).trans rfl; have hcz61_1 : w59.cell? ⟨gb146, 1, none⟩ = some (.string a1_1) := (blk_cell BK146.out 1).trans rfl; have hcz61_2 : w59.cell? ⟨gb146, 2, none⟩ = some (.int .i64 a1_2) := (blk_cell BK146.out 2).trans rfl; have hcz61_3 : w59.cell? ⟨gb146, 3, none⟩ = some (.bool a1_3) := (blk_cell BK146.out 3).trans rfl; have hcz61_4 : w59.cell? ⟨gb146, 4, none⟩ = some (.bool a1_4) := (blk_cell BK146.out 4).trans rfl; have hfz61_0 := blk_frozen BK146.out 0; have hfz61_1 := blk_frozen BK146.out 1; have hfz61_2 := blk_frozen BK146.out 2; have hfz61_3 := blk_frozen BK146.out 3; have hfz61_4 := blk_frozen BK146.out 4; obtain ⟨Ao62, co62, eo62⟩ := Kd.R_slice HO164.out; subst eo62; obtain ⟨ASz63_0, cSz63_0, ASz63_2, cSz63_2, HGz63, hgz63, HSz63_0, HSz63_2⟩ := HI0.out; have hcz63_0 := cellS91_0 HGz63; have hcz63_1 := cellS91_1 HGz63; have hcz63_2 := cellS91_2 HGz63; have hcz63_3 := cellS91_3 HGz63; have hcz63_4 := cellS91_4 HGz63; have hfz63_1 := blk_frozen HGz63 1; have hfz63_3 := blk_frozen HGz63 3; have hfz63_4 := blk_frozen HGz63 4; clear HGz63 hgz63))
                          go_ret
                          exact ⟨by first | rfl | (simp [errW_none, errW_some] <;> rfl) | (simp [*, errW_none, errW_some] <;> rfl), by repeat (first | (with_reducible first | exact HI0.out | apply IsS91.alloc | apply IsS91.drewN | apply IsS91.drew | apply IsS91.set_1 | apply IsS91.set_3 | apply IsS91.set_4 | refine IsS91.far ?_ NB0_146.out _) | exact HI0.out), by repeat (first | (with_reducible first | exact HB.out | apply below_alloc | apply pw_below_drewN | apply below_drew1 | refine below_set ?_ (IsS91.ge HI0.out) | refine below_set ?_ GE146.out) | exact HB.out), by repeat (first | (with_reducible first | exact HK.out | apply KeepBut.set_ | apply keep_drewN | apply keep_drew | apply keep_alloc | refine keep_far ?_ GW146.out _) | exact HK.out)⟩
                        · rw [if_neg c54] at H
                          exact absurd H (by simp)
                    · rw [if_neg c44] at H
                      exact absurd H (by simp)
                  · rw [if_neg c43] at H
                    have c43b0 : (a1_0 == 20) = false := beq_eq_false_iff_ne.mpr c43
                    have c43b1 : (a1_0 != 20) = true := bne_iff_ne.mpr c43
                    by_cases c64 : a1_0 = 21
                    · rw [if_pos c64] at H
                      exact absurd H (by simp)
                    · rw [if_neg c64] at H
                      have c64b0 : (a1_0 == 21) = false := beq_eq_false_iff_ne.mpr c64
                      have c64b1 : (a1_0 != 21) = true := bne_iff_ne.mpr c64
                      simp only [Option.some.injEq, Prod.mk.injEq] at H
                      obtain ⟨rfl, rfl, rfl, rfl⟩ := H
                      go_enter Tryd.func58, Tryd.ntmps58
                      go_wp2_with (first | ((with_reducible refine gate_dst (N := 3) rfl ?_); (try (refine gate_guard (by rfl) ?_; dsimp only)); refine box_event ?hg (N := 3) ?hd (cs := #[.int .i64 a1_0, .string a1_1, .int .i64 a1_2, .bool a1_3, .bool a1_4]) (t := 29) ?hr ?_; (case hd => rfl); (case hg => rfl); (case hr => first | (go_simp; done) | (go_simp; rfl)); intro gb146 hg w65 hbox hb; have n0_ := Aside0.mk (IsS91.below (by repeat (first | (with_reducible first | exact HI0.out | apply IsS91.alloc | apply IsS91.drewN | apply IsS91.drew | apply IsS91.set_1 | apply IsS91.set_3 | apply IsS91.set_4) | exact HI0.out)) hb); have n1_ := Aside0.mk (KeepBut.trans (by repeat (first | (with_reducible first | exact HK.out | apply KeepBut.set_ | apply keep_drewN | apply keep_drew | apply keep_alloc) | exact HK.out)) (KeepBut.of_below hb g none) (.inl rfl)); have n2_ := Aside0.mk (below_step (by repeat (first | (with_reducible first | exact HB.out | apply below_alloc | apply pw_below_drewN | apply below_drew1 | refine below_set ?_ (IsS91.ge HI0.out)) | exact HB.out)) hb); have n3_ := Aside0.mk (hbox); have n4_ := Aside0.mk ((by rw [hg]; exact (keep_size (w := w) (g := g) (row := none) (by repeat (first | (with_reducible first | exact HK.out | apply KeepBut.set_ | apply keep_drewN | apply keep_drew | apply keep_alloc) | exact HK.out))) : w.heap.size ≤ gb146)); have n5_ := Aside0.mk ((Nat.le_trans HW0.out (by rw [hg]; exact (keep_size (w := w) (g := g) (row := none) (by repeat (first | (with_reducible first | exact HK.out | apply KeepBut.set_ | apply keep_drewN | apply keep_drew | apply keep_alloc) | exact HK.out))) : w.heap.size ≤ gb146) : w0.heap.size ≤ gb146)); have n6_ := Aside0.mk ((by rw [hg]; exact Nat.ne_of_lt (IsS91.lt (show IsS91 w0 _ g s0_0 s0_1 s0_2 s0_3 s0_4 from by repeat (first | (with_reducible first | exact HI0.out | apply IsS91.alloc | apply IsS91.drewN | apply IsS91.drew | apply IsS91.set_1 | apply IsS91.set_3 | apply IsS91.set_4) | exact HI0.out))) : g ≠ gb146)); have n7_ := Aside0.mk ((by rw [hg]; exact Nat.ne_of_gt (IsS91.lt (show IsS91 w0 _ g s0_0 s0_1 s0_2 s0_3 s0_4 from by repeat (first | (with_reducible first | exact HI0.out | apply IsS91.alloc | apply IsS91.drewN | apply IsS91.drew | apply IsS91.set_1 | apply IsS91.set_3 | apply IsS91.set_4) | exact HI0.out))) : gb146 ≠ g)); clear HI0; clear HK; clear HB; have HI0 := n0_; have HK := n1_; have HB := n2_; have BK146 := n3_; have GW146 := n4_; have GE146 := n5_; have NB0_146 := n6_; have NB146_0 := n7_; clear n0_ n1_ n2_ n3_ n4_ n5_ n6_ n7_; clear hb hbox hg; obtain ⟨ASz66_0, cSz66_0, ASz66_2, cSz66_2, HGz66, hgz66, HSz66_0, HSz66_2⟩ := HI0.out; have hcz66_0 := cellS91_0 HGz66; have hcz66_1 := cellS91_1 HGz66; have hcz66_2 := cellS91_2 HGz66; have hcz66_3 := cellS91_3 HGz66; have hcz66_4 := cellS91_4 HGz66; have hfz66_1 := blk_frozen HGz66 1; have hfz66_3 := blk_frozen HGz66 3; have hfz66_4 := blk_frozen HGz66 4; clear HGz66 hgz66; have hnb67 := NB146_0.out; have hnc67 := NB0_146.out; have hcz68_0 : w65.cell? ⟨gb146, 0, none⟩ = some (.int .i64 a1_0) := (blk_cell BK146.out 0).trans rfl; have hcz68_1 : w65.cell? ⟨gb146, 1, none⟩ = some (.string a1_1) := (blk_cell BK146.out 1).trans rfl; have hcz68_2 : w65.cell? ⟨gb146, 2, none⟩ = some (.int .i64 a1_2) := (blk_cell BK146.out 2).trans rfl; have hcz68_3 : w65.cell? ⟨gb146, 3, none⟩ = some (.bool a1_3) := (blk_cell BK146.out 3).trans rfl; have hcz68_4 : w65.cell? ⟨gb146, 4, none⟩ = some (.bool a1_4) := (blk_cell BK146.out 4).trans rfl; have hfz68_0 := blk_frozen BK146.out 0; have hfz68_1 := blk_frozen BK146.out 1; have hfz68_2 := blk_frozen BK146.out 2; have hfz68_3 := blk_frozen BK146.out 3; have hfz68_4 := blk_frozen BK146.out 4))
                      go_ret
                      exact ⟨by first | rfl | (simp [errW_none, errW_some] <;> rfl) | (simp [*, errW_none, errW_some] <;> rfl), by repeat (first | (with_reducible first | exact HI0.out | apply IsS91.alloc | apply IsS91.drewN | apply IsS91.drew | apply IsS91.set_1 | apply IsS91.set_3 | apply IsS91.set_4 | refine IsS91.far ?_ NB0_146.out _) | exact HI0.out), by repeat (first | (with_reducible first | exact HB.out | apply below_alloc | apply pw_below_drewN | apply below_drew1 | refine below_set ?_ (IsS91.ge HI0.out) | refine below_set ?_ GE146.out) | exact HB.out), by repeat (first | (with_reducible first | exact HK.out | apply KeepBut.set_ | apply keep_drewN | apply keep_drew | apply keep_alloc | refine keep_far ?_ GW146.out _) | exact HK.out)⟩
end Go.Proofs.YtdinikcfhpfojaaDoor.PDo
