/- Printed by a program of this seat (xprint) out of the translation: Go functions as plain functions, and the walks that show them; no condition. -/
import Derived.Test.YtdinikcfhpfojaaDoorQPDox0
import Derived.Test.YtdinikcfhpfojaaDoorQHWhole
import Derived.Test.YtdinikcfhpfojaaDoorQPDox1
namespace Go.Proofs.YtdinikcfhpfojaaDoor.PDo
open Go.RowKit Go.Proofs.YtdinikcfhpfojaaDoor.H Go.Proofs.YtdinikcfhpfojaaDoor.R Go.Proofs.YtdinikcfhpfojaaDoorW.PrintWords Go.Proofs.YtdinikcfhpfojaaDoorW.PrintLast Go.Proofs.YtdinikcfhpfojaaDoorW.PrintMore
attribute [local go_sem] max2_int min2_int max_two min_two max_three min_three max_four min_four   -- for this text's walks alone
set_option linter.unusedVariables false
set_option linter.unusedSimpArgs false
/-! ### spec_Editor_endWord: function 93 -/
mutual
def spec_Editor_endWord.j0 : Nat → Int → Bool → List Int → Int → List Int → Bool → Bool → Option (Int × Bool × Bool)
  | 0, _, _, _, _, _, _, _ => none
  | k + 1, x2, x35, x1000, x1001, x1002, x1003, x1004 => if x35 = true then (some (x1001, x1003, true)) else ((spec_Editor_ends.f x1000 x1001 x1002 x1003 x1004 x1001).bind fun bt128 => (if bt128.1 = true then (spec_Editor_endWord.j1 k x2 (wrap64 (x1001 + 1)) x1000 bt128.2.1 x1002 bt128.2.2.1 bt128.2.2.2) else (spec_Editor_endWord.j1 k x2 x1001 x1000 bt128.2.1 x1002 bt128.2.2.1 bt128.2.2.2)))
def spec_Editor_endWord.j1 : Nat → Int → Int → List Int → Int → List Int → Bool → Bool → Option (Int × Bool × Bool)
  | 0, _, _, _, _, _, _, _ => none
  | k + 1, x2, x3, x1000, x1001, x1002, x1003, x1004 => spec_Editor_endWord.l0 k x2 x3 x1000 x1001 x1002 x1003 x1004
def spec_Editor_endWord.l0 : Nat → Int → Int → List Int → Int → List Int → Bool → Bool → Option (Int × Bool × Bool)
  | 0, _, _, _, _, _, _, _ => none
  | k + 1, x2, x4, x1000, x1001, x1002, x1003, x1004 => if x4 < x2 then ((spec_Editor_ends.f x1000 x1001 x1002 x1003 x1004 x4).bind fun bt132 => (if bt132.1 = true then (some (x4, bt132.2.2.1, bt132.2.2.2)) else (spec_Editor_endWord.l0 k x2 (wrap64 (x4 + 1)) x1000 bt132.2.1 x1002 bt132.2.2.1 bt132.2.2.2))) else (some (x2, x1003, x1004))
end
def spec_Editor_endWord.f (k : Nat) (s0_0 : List Int) (s0_1 : Int) (s0_2 : List Int) (s0_3 : Bool) (s0_4 : Bool) : Option (Int × Bool × Bool) := if s0_1 = (s0_0.length : Int) then (some (s0_1, s0_3, s0_4)) else (if s0_1 = (wrap64 ((s0_0.length : Int) - 1)) then (if 0 ≤ s0_1 then (if s0_1 < (s0_0.length : Int) then ((spec_IsWordSign.f (rd s0_0 s0_1)).bind fun t127 => (spec_Editor_endWord.j0 k (s0_0.length : Int) t127 s0_0 s0_1 s0_2 s0_3 s0_4)) else (none)) else (none)) else (spec_Editor_endWord.j0 k (s0_0.length : Int) false s0_0 s0_1 s0_2 s0_3 s0_4))
theorem spec_Editor_endWord.mono_l : ∀ k, (∀ y0 y1 y2 y3 y4 y5 y6, LeO (spec_Editor_endWord.j0 k y0 y1 y2 y3 y4 y5 y6) (spec_Editor_endWord.j0 (k + 1) y0 y1 y2 y3 y4 y5 y6)) ∧ (∀ y0 y1 y2 y3 y4 y5 y6, LeO (spec_Editor_endWord.j1 k y0 y1 y2 y3 y4 y5 y6) (spec_Editor_endWord.j1 (k + 1) y0 y1 y2 y3 y4 y5 y6)) ∧ (∀ y0 y1 y2 y3 y4 y5 y6, LeO (spec_Editor_endWord.l0 k y0 y1 y2 y3 y4 y5 y6) (spec_Editor_endWord.l0 (k + 1) y0 y1 y2 y3 y4 y5 y6))
  | 0 => ⟨fun _ _ _ _ _ _ _ r h => by simp [spec_Editor_endWord.j0] at h, fun _ _ _ _ _ _ _ r h => by simp [spec_Editor_endWord.j1] at h, fun _ _ _ _ _ _ _ r h => by simp [spec_Editor_endWord.l0] at h⟩
  | k + 1 => by
    obtain ⟨ih0, ih1, ih2⟩ := spec_Editor_endWord.mono_l k
    refine ⟨?_, ?_, ?_⟩
    · intro y0 y1 y2 y3 y4 y5 y6
      unfold spec_Editor_endWord.j0
      repeat' first
      | (with_reducible exact ih0 _ _ _ _ _ _ _)
      | (with_reducible exact ih1 _ _ _ _ _ _ _)
      | (with_reducible exact ih2 _ _ _ _ _ _ _)
      | (with_reducible exact LeO.refl _)
      | (with_reducible exact LeO.none _)
      | (with_reducible refine LeO.ite ?_ ?_)
      | (with_reducible refine LeO.bind ?_ (fun _ => ?_))
      | exact ih0 _ _ _ _ _ _ _
      | exact ih1 _ _ _ _ _ _ _
      | exact ih2 _ _ _ _ _ _ _
      | exact LeO.none _
      | refine LeO.ite ?_ ?_
      | refine LeO.bind ?_ (fun _ => ?_)
    · intro y0 y1 y2 y3 y4 y5 y6
      unfold spec_Editor_endWord.j1
      repeat' first
      | (with_reducible exact ih0 _ _ _ _ _ _ _)
      | (with_reducible exact ih1 _ _ _ _ _ _ _)
      | (with_reducible exact ih2 _ _ _ _ _ _ _)
      | (with_reducible exact LeO.refl _)
      | (with_reducible exact LeO.none _)
      | (with_reducible refine LeO.ite ?_ ?_)
      | (with_reducible refine LeO.bind ?_ (fun _ => ?_))
      | exact ih0 _ _ _ _ _ _ _
      | exact ih1 _ _ _ _ _ _ _
      | exact ih2 _ _ _ _ _ _ _
      | exact LeO.none _
      | refine LeO.ite ?_ ?_
      | refine LeO.bind ?_ (fun _ => ?_)
    · intro y0 y1 y2 y3 y4 y5 y6
      unfold spec_Editor_endWord.l0
      repeat' first
      | (with_reducible exact ih0 _ _ _ _ _ _ _)
      | (with_reducible exact ih1 _ _ _ _ _ _ _)
      | (with_reducible exact ih2 _ _ _ _ _ _ _)
      | (with_reducible exact LeO.refl _)
      | (with_reducible exact LeO.none _)
      | (with_reducible refine LeO.ite ?_ ?_)
      | (with_reducible refine LeO.bind ?_ (fun _ => ?_))
      | exact ih0 _ _ _ _ _ _ _
      | exact ih1 _ _ _ _ _ _ _
      | exact ih2 _ _ _ _ _ _ _
      | exact LeO.none _
      | refine LeO.ite ?_ ?_
      | refine LeO.bind ?_ (fun _ => ?_)
theorem spec_Editor_endWord.mono : ∀ a0 a1 a2 a3 a4 k, LeO (spec_Editor_endWord.f k a0 a1 a2 a3 a4) (spec_Editor_endWord.f (k + 1) a0 a1 a2 a3 a4) := by
  intro a0 a1 a2 a3 a4 k
  obtain ⟨ih0, ih1, ih2⟩ := spec_Editor_endWord.mono_l k
  unfold spec_Editor_endWord.f
  repeat' first
      | (with_reducible exact ih0 _ _ _ _ _ _ _)
      | (with_reducible exact ih1 _ _ _ _ _ _ _)
      | (with_reducible exact ih2 _ _ _ _ _ _ _)
      | (with_reducible exact LeO.refl _)
      | (with_reducible exact LeO.none _)
      | (with_reducible refine LeO.ite ?_ ?_)
      | (with_reducible refine LeO.bind ?_ (fun _ => ?_))
      | exact ih0 _ _ _ _ _ _ _
      | exact ih1 _ _ _ _ _ _ _
      | exact ih2 _ _ _ _ _ _ _
      | exact LeO.none _
      | refine LeO.ite ?_ ?_
      | refine LeO.bind ?_ (fun _ => ?_)
set_option maxHeartbeats 8000000 in
set_option maxRecDepth 100000 in
theorem spec_Editor_endWord.calls (k : Nat) (g : Nat) (s0_0 : List Int) (s0_1 : Int) (s0_2 : List Int) (s0_3 : Bool) (s0_4 : Bool) (r1 : Int) (r2 : Bool) (r3 : Bool) (w0 w : World) (hI : IsS91 w0 w g s0_0 s0_1 s0_2 s0_3 s0_4) (hB : Below w0.heap.size w0 w) (h : spec_Editor_endWord.f k s0_0 s0_1 s0_2 s0_3 s0_4 = some (r1, r2, r3)) :
    Calls Tryd.prog 93 #[.pointer (some ⟨g, 0, none⟩)] w fun e w' => e = .returned (.tuple #[]) ∧ IsS91 w0 w' g s0_0 r1 s0_2 r2 r3 ∧ Below w0.heap.size w0 w' ∧ KeepBut w w' g none := by
  have HI0 := Aside0.mk hI
  have HK := Aside0.mk (KeepBut.refl w g none)
  have HL := Aside0.mk hB.size
  clear hI
  have HW0 := Aside0.mk hB.size
  have HB := Aside0.mk hB
  clear hB
  have H : (if s0_1 = (s0_0.length : Int) then (some (s0_1, s0_3, s0_4)) else (if s0_1 = (wrap64 ((s0_0.length : Int) - 1)) then (if 0 ≤ s0_1 then (if s0_1 < (s0_0.length : Int) then ((spec_IsWordSign.f (rd s0_0 s0_1)).bind fun t127 => (spec_Editor_endWord.j0 k (s0_0.length : Int) t127 s0_0 s0_1 s0_2 s0_3 s0_4)) else (none)) else (none)) else (spec_Editor_endWord.j0 k (s0_0.length : Int) false s0_0 s0_1 s0_2 s0_3 s0_4))) = some (r1, r2, r3) := h
  clear h
  by_cases c2 : s0_1 = (s0_0.length : Int)
  · rw [if_pos c2] at H
    have c2b0 : (s0_1 == (s0_0.length : Int)) = true := beq_iff_eq.mpr c2
    have c2b1 : (s0_1 != (s0_0.length : Int)) = false := bne_eq_false_iff_eq.mpr c2
    clear c2
    simp only [Option.some.injEq, Prod.mk.injEq] at H
    obtain ⟨rfl, rfl, rfl⟩ := H
    obtain ⟨ASz3_0, cSz3_0, ASz3_2, cSz3_2, HGz3, hgz3, HSz3_0, HSz3_2⟩ := HI0.out
    have hcz3_0 := cellS91_0 HGz3
    have hcz3_1 := cellS91_1 HGz3
    have hcz3_2 := cellS91_2 HGz3
    have hcz3_3 := cellS91_3 HGz3
    have hcz3_4 := cellS91_4 HGz3
    have hfz3_1 := blk_frozen HGz3 1
    have hfz3_3 := blk_frozen HGz3 3
    have hfz3_4 := blk_frozen HGz3 4
    clear HGz3 hgz3
    go_enter Tryd.func93, Tryd.ntmps93
    go_wp2
    repeat (go_quiet (fail); try go_wp2)
    first | go_end0 | ((try simp only [Exit.inBlock, Exit.then]); refine bodyPost_ret (results_none rfl _ _ _) rfl ?_)
    exact ⟨by first | rfl | (simp [errW_none, errW_some] <;> rfl) | (simp [*, errW_none, errW_some] <;> rfl), by repeat (first | (with_reducible first | exact HI0.out | apply IsS91.alloc | apply IsS91.drewN | apply IsS91.drew | apply IsS91.set_1 | apply IsS91.set_3 | apply IsS91.set_4) | exact HI0.out), by repeat (first | (with_reducible first | exact HB.out | apply below_alloc | apply pw_below_drewN | apply below_drew1 | refine below_set ?_ (IsS91.ge HI0.out)) | exact HB.out), by repeat (first | (with_reducible first | exact HK.out | apply KeepBut.set_ | apply keep_drewN | apply keep_drew | apply keep_alloc) | exact HK.out)⟩
  · rw [if_neg c2] at H
    have c2b0 : (s0_1 == (s0_0.length : Int)) = false := beq_eq_false_iff_ne.mpr c2
    have c2b1 : (s0_1 != (s0_0.length : Int)) = true := bne_iff_ne.mpr c2
    have HC4 := Aside0.mk H
    clear H
    obtain ⟨ASz5_0, cSz5_0, ASz5_2, cSz5_2, HGz5, hgz5, HSz5_0, HSz5_2⟩ := HI0.out
    have hcz5_0 := cellS91_0 HGz5
    have hcz5_1 := cellS91_1 HGz5
    have hcz5_2 := cellS91_2 HGz5
    have hcz5_3 := cellS91_3 HGz5
    have hcz5_4 := cellS91_4 HGz5
    have hfz5_1 := blk_frozen HGz5 1
    have hfz5_3 := blk_frozen HGz5 3
    have hfz5_4 := blk_frozen HGz5 4
    clear HGz5 hgz5
    go_enter Tryd.func93, Tryd.ntmps93
    go_upto_region 2 with (fail)
    repeat (go_quiet (fail); go_upto_region 2 with (fail))
    go_cut [35] (fun v35 wc => ∃ (kq : Nat) (x35_3 : Bool), v35 = .bool x35_3 ∧ Aside0 (spec_Editor_endWord.j0 kq (s0_0.length : Int) x35_3 s0_0 s0_1 s0_2 s0_3 s0_4 = some (r1, r2, r3)) ∧ Aside0 (kq ≤ k) ∧ Aside0 (IsS91 w0 wc g s0_0 s0_1 s0_2 s0_3 s0_4) ∧ Aside0 (KeepBut w wc g none) ∧ Aside0 (Below w0.heap.size w0 wc))
    case first =>
      have H := HC4.out
      clear HC4
      by_cases c6 : s0_1 = (wrap64 ((s0_0.length : Int) - 1))
      · rw [if_pos c6] at H
        have c6b0 : (s0_1 == (wrap64 ((s0_0.length : Int) - 1))) = true := beq_iff_eq.mpr c6
        try have c6b9 : (s0_1 == (IntKind.i64.wrap ((s0_0.length : Int) - 1))) = true := by simp only [i64_w]; exact c6b0
        have c6b1 : (s0_1 != (wrap64 ((s0_0.length : Int) - 1))) = false := bne_eq_false_iff_eq.mpr c6
        clear c6
        (first | rw [c6b0] | (simp only [i64_w, i32_w]; rw [c6b0]) | skip)
        by_cases c7 : 0 ≤ s0_1
        · rw [if_pos c7] at H
          have c7b0 : decide (0 ≤ s0_1) = true := decide_eq_true c7
          clear c7
          by_cases c8 : s0_1 < (s0_0.length : Int)
          · rw [if_pos c8] at H
            have c8b0 : decide (s0_1 < (s0_0.length : Int)) = true := decide_eq_true c8
            clear c8
            replace H := Option.bind_eq_some_iff.mp H
            obtain ⟨t127, A90, H⟩ := H
            replace H : (spec_Editor_endWord.j0 k (s0_0.length : Int) t127 s0_0 s0_1 s0_2 s0_3 s0_4) = some (r1, r2, r3) := H
            have A9 := Aside0.mk A90
            clear A90
            have H' := Aside0.mk H
            clear H
            clear hcz5_0 hcz5_1 hcz5_2 hcz5_3 hcz5_4
            obtain ⟨ASz10_0, cSz10_0, ASz10_2, cSz10_2, HGz10, hgz10, HSz10_0, HSz10_2⟩ := HI0.out
            have hcz10_0 := cellS91_0 HGz10
            have hcz10_1 := cellS91_1 HGz10
            have hcz10_2 := cellS91_2 HGz10
            have hcz10_3 := cellS91_3 HGz10
            have hcz10_4 := cellS91_4 HGz10
            have hfz10_1 := blk_frozen HGz10 1
            have hfz10_3 := blk_frozen HGz10 3
            have hfz10_4 := blk_frozen HGz10 4
            clear HGz10 hgz10
            have p126 : 0 ≤ (s0_1 : Int) := of_decide_eq_true (by first | (with_reducible assumption) | assumption)
            have q126 : s0_1 < (s0_0.length : Int) := of_decide_eq_true (by first | (with_reducible assumption) | assumption)
            obtain ⟨ad126, e126, hx126_0⟩ := Kd.at_int HSz10_0 s0_1 p126 q126
            cases e126
            replace hx126_0 := pw_cell_below HB.out hx126_0
            replace p126 := eq_true p126
            replace q126 := eq_true q126
            go_wp2_with (first | (go_at_call 17; (with_reducible refine (spec_IsWordSign.calls (rd s0_0 s0_1) t127 _ A9.out).mono ?_); rintro e w' ⟨rfl, ⟨nd, rfl⟩⟩; (try first | exact ⟨rfl, _, World.drewN_drewN _ _ _⟩ | exact ⟨rfl, _, Eq.trans (World.drewN_drewN _ _ _) (congrArg (World.drewN _) (Nat.add_assoc _ _ _))⟩)))
            repeat (go_quiet (first | (go_at_call 17; (with_reducible refine (spec_IsWordSign.calls (rd s0_0 s0_1) t127 _ A9.out).mono ?_); rintro e w' ⟨rfl, ⟨nd, rfl⟩⟩; (try first | exact ⟨rfl, _, World.drewN_drewN _ _ _⟩ | exact ⟨rfl, _, Eq.trans (World.drewN_drewN _ _ _) (congrArg (World.drewN _) (Nat.add_assoc _ _ _))⟩))); try go_wp2_with (first | (go_at_call 17; (with_reducible refine (spec_IsWordSign.calls (rd s0_0 s0_1) t127 _ A9.out).mono ?_); rintro e w' ⟨rfl, ⟨nd, rfl⟩⟩; (try first | exact ⟨rfl, _, World.drewN_drewN _ _ _⟩ | exact ⟨rfl, _, Eq.trans (World.drewN_drewN _ _ _) (congrArg (World.drewN _) (Nat.add_assoc _ _ _))⟩))))
            go_meet
            case rel => exact ⟨_, (t127), (by first | rfl | (simp; done) | (simp [*]; done)), H', ⟨by first | omega | exact Nat.le_refl _⟩, ⟨by repeat (first | (with_reducible first | exact HI0.out | apply IsS91.alloc | apply IsS91.drewN | apply IsS91.drew | apply IsS91.set_1 | apply IsS91.set_3 | apply IsS91.set_4) | exact HI0.out)⟩, ⟨by repeat (first | (with_reducible first | exact HK.out | apply KeepBut.set_ | apply keep_drewN | apply keep_drew | apply keep_alloc) | exact HK.out)⟩, ⟨by repeat (first | (with_reducible first | exact HB.out | apply below_alloc | apply pw_below_drewN | apply below_drew1 | refine below_set ?_ (IsS91.ge HI0.out)) | exact HB.out)⟩⟩
          · rw [if_neg c8] at H
            exact absurd H (by simp)
        · rw [if_neg c7] at H
          exact absurd H (by simp)
      · rw [if_neg c6] at H
        have c6b0 : (s0_1 == (wrap64 ((s0_0.length : Int) - 1))) = false := beq_eq_false_iff_ne.mpr c6
        try have c6b9 : (s0_1 == (IntKind.i64.wrap ((s0_0.length : Int) - 1))) = false := by simp only [i64_w]; exact c6b0
        have c6b1 : (s0_1 != (wrap64 ((s0_0.length : Int) - 1))) = true := bne_iff_ne.mpr c6
        (first | rw [c6b0] | (simp only [i64_w, i32_w]; rw [c6b0]) | skip)
        have H' := Aside0.mk H
        clear H
        obtain ⟨ASz11_0, cSz11_0, ASz11_2, cSz11_2, HGz11, hgz11, HSz11_0, HSz11_2⟩ := HI0.out
        have hcz11_0 := cellS91_0 HGz11
        have hcz11_1 := cellS91_1 HGz11
        have hcz11_2 := cellS91_2 HGz11
        have hcz11_3 := cellS91_3 HGz11
        have hcz11_4 := cellS91_4 HGz11
        have hfz11_1 := blk_frozen HGz11 1
        have hfz11_3 := blk_frozen HGz11 3
        have hfz11_4 := blk_frozen HGz11 4
        clear HGz11 hgz11
        go_wp2
        repeat (go_quiet (fail); try go_wp2)
        go_meet
        case rel => exact ⟨_, (false), (by first | rfl | (simp; done) | (simp [*]; done)), H', ⟨by first | omega | exact Nat.le_refl _⟩, ⟨by repeat (first | (with_reducible first | exact HI0.out | apply IsS91.alloc | apply IsS91.drewN | apply IsS91.drew | apply IsS91.set_1 | apply IsS91.set_3 | apply IsS91.set_4) | exact HI0.out)⟩, ⟨by repeat (first | (with_reducible first | exact HK.out | apply KeepBut.set_ | apply keep_drewN | apply keep_drew | apply keep_alloc) | exact HK.out)⟩, ⟨by repeat (first | (with_reducible first | exact HB.out | apply below_alloc | apply pw_below_drewN | apply below_drew1 | refine below_set ?_ (IsS91.ge HI0.out)) | exact HB.out)⟩⟩
    case rest =>
      clear HC4
      try clear p1
      try clear q1
      try clear hx1
      try clear c2
      try clear c2b0
      try clear c2b1
      try clear p2
      try clear c6
      try clear c6b0
      try clear c6b1
      try clear p6
      try clear c7
      try clear c7b0
      try clear c8
      try clear c8b0
      try clear c9
      try clear hcz10_0
      try clear hcz10_1
      try clear hcz10_2
      try clear hcz10_3
      try clear hcz10_4
      try clear hcz11_0
      try clear hcz11_1
      try clear hcz11_2
      try clear hcz11_3
      try clear hcz11_4
      try clear hcz3_0
      try clear hcz3_1
      try clear hcz3_2
      try clear hcz3_3
      try clear hcz3_4
      try clear hcz5_0
      try clear hcz5_1
      try clear hcz5_2
      try clear hcz5_3
      try clear hcz5_4
      try clear hfz10_1
      try clear hfz10_3
      try clear hfz10_4
      try clear hfz11_1
      try clear hfz11_3
      try clear hfz11_4
      try clear hfz3_1
      try clear hfz3_3
      try clear hfz3_4
      try clear hfz5_1
      try clear hfz5_3
      try clear hfz5_4
      try clear hx126_0
      try clear p126
      try clear q126
      obtain ⟨kq, x35_3, rfl, HA, HJ3, HI0, HK, HB⟩ := hcut
      cases kq with
      | zero => exact absurd HA.out (by simp [spec_Editor_endWord.j0])
      | succ kj3 =>
        have H := HA.out
        clear HA
        simp only [spec_Editor_endWord.j0] at H
        by_cases c12 : x35_3 = true
        · subst c12
          have H1 : (some (s0_1, s0_3, true)) = some (r1, r2, r3) := by rw [if_pos rfl] at H; exact H
          clear H
          have H := H1
          clear H1
          simp only [Option.some.injEq, Prod.mk.injEq] at H
          obtain ⟨rfl, rfl, rfl⟩ := H
          obtain ⟨ASz13_0, cSz13_0, ASz13_2, cSz13_2, HGz13, hgz13, HSz13_0, HSz13_2⟩ := HI0.out
          have hcz13_0 := cellS91_0 HGz13
          have hcz13_1 := cellS91_1 HGz13
          have hcz13_2 := cellS91_2 HGz13
          have hcz13_3 := cellS91_3 HGz13
          have hcz13_4 := cellS91_4 HGz13
          have hfz13_1 := blk_frozen HGz13 1
          have hfz13_3 := blk_frozen HGz13 3
          have hfz13_4 := blk_frozen HGz13 4
          clear HGz13 hgz13
          go_wp2
          repeat (go_quiet (fail); try go_wp2)
          first | go_end0 | ((try simp only [Exit.inBlock, Exit.then]); refine bodyPost_ret (results_none rfl _ _ _) rfl ?_)
          exact ⟨by first | rfl | (simp [errW_none, errW_some] <;> rfl) | (simp [*, errW_none, errW_some] <;> rfl), by repeat (first | (with_reducible first | exact HI0.out | apply IsS91.alloc | apply IsS91.drewN | apply IsS91.drew | apply IsS91.set_1 | apply IsS91.set_3 | apply IsS91.set_4) | exact HI0.out), by repeat (first | (with_reducible first | exact HB.out | apply below_alloc | apply pw_below_drewN | apply below_drew1 | refine below_set ?_ (IsS91.ge HI0.out)) | exact HB.out), by repeat (first | (with_reducible first | exact HK.out | apply KeepBut.set_ | apply keep_drewN | apply keep_drew | apply keep_alloc) | exact HK.out)⟩
        · replace c12 := Bool.eq_false_iff.mpr c12
          subst c12
          have H1 : ((spec_Editor_ends.f s0_0 s0_1 s0_2 s0_3 s0_4 s0_1).bind fun bt128 => (if bt128.1 = true then (spec_Editor_endWord.j1 kj3 (s0_0.length : Int) (wrap64 (s0_1 + 1)) s0_0 bt128.2.1 s0_2 bt128.2.2.1 bt128.2.2.2) else (spec_Editor_endWord.j1 kj3 (s0_0.length : Int) s0_1 s0_0 bt128.2.1 s0_2 bt128.2.2.1 bt128.2.2.2))) = some (r1, r2, r3) := by rw [if_neg (show ¬ (false = true) by decide)] at H; exact H
          clear H
          have H := H1
          clear H1
          replace H := Option.bind_eq_some_iff.mp H
          obtain ⟨⟨t128, t129, t130, t131⟩, A140, H⟩ := H
          replace H : (if t128 = true then (spec_Editor_endWord.j1 kj3 (s0_0.length : Int) (wrap64 (s0_1 + 1)) s0_0 t129 s0_2 t130 t131) else (spec_Editor_endWord.j1 kj3 (s0_0.length : Int) s0_1 s0_0 t129 s0_2 t130 t131)) = some (r1, r2, r3) := H
          have A14 := Aside0.mk A140
          clear A140
          have HC15 := Aside0.mk H
          clear H
          obtain ⟨ASz16_0, cSz16_0, ASz16_2, cSz16_2, HGz16, hgz16, HSz16_0, HSz16_2⟩ := HI0.out
          have hcz16_0 := cellS91_0 HGz16
          have hcz16_1 := cellS91_1 HGz16
          have hcz16_2 := cellS91_2 HGz16
          have hcz16_3 := cellS91_3 HGz16
          have hcz16_4 := cellS91_4 HGz16
          have hfz16_1 := blk_frozen HGz16 1
          have hfz16_3 := blk_frozen HGz16 3
          have hfz16_4 := blk_frozen HGz16 4
          clear HGz16 hgz16
          go_upto_if 45 with (first | (go_at_call 139; (with_reducible refine (spec_Editor_ends.calls g s0_0 s0_1 s0_2 s0_3 s0_4 s0_1 t128 t129 t130 t131 w0 _ ?side1 ?side2 A14.out).mono ?_); (case side1 => repeat (first | (with_reducible first | exact HI0.out | apply IsS91.alloc | apply IsS91.drewN | apply IsS91.drew | apply IsS91.set_1 | apply IsS91.set_3 | apply IsS91.set_4) | exact HI0.out)); (case side2 => repeat (first | (with_reducible first | exact HB.out | apply below_alloc | apply pw_below_drewN | apply below_drew1 | refine below_set ?_ (IsS91.ge HI0.out)) | exact HB.out)); rintro e w17 ⟨rfl, hi, hb, hk⟩; have n0_ := Aside0.mk (KeepBut.trans (by repeat (first | (with_reducible first | exact HK.out | apply KeepBut.set_ | apply keep_drewN | apply keep_drew | apply keep_alloc) | exact HK.out)) hk (.inl rfl)); have n1_ := Aside0.mk (hb); have n2_ := Aside0.mk (hi); clear HK; clear HB; clear HI0; have HK := n0_; have HB := n1_; have HI0 := n2_; clear n0_ n1_ n2_; (try clear hb); (try clear hb2); (try clear hk); (try clear hi)))
          repeat (go_quiet (first | (go_at_call 139; (with_reducible refine (spec_Editor_ends.calls g s0_0 s0_1 s0_2 s0_3 s0_4 s0_1 t128 t129 t130 t131 w0 _ ?side1 ?side2 A14.out).mono ?_); (case side1 => repeat (first | (with_reducible first | exact HI0.out | apply IsS91.alloc | apply IsS91.drewN | apply IsS91.drew | apply IsS91.set_1 | apply IsS91.set_3 | apply IsS91.set_4) | exact HI0.out)); (case side2 => repeat (first | (with_reducible first | exact HB.out | apply below_alloc | apply pw_below_drewN | apply below_drew1 | refine below_set ?_ (IsS91.ge HI0.out)) | exact HB.out)); rintro e w17 ⟨rfl, hi, hb, hk⟩; have n0_ := Aside0.mk (KeepBut.trans (by repeat (first | (with_reducible first | exact HK.out | apply KeepBut.set_ | apply keep_drewN | apply keep_drew | apply keep_alloc) | exact HK.out)) hk (.inl rfl)); have n1_ := Aside0.mk (hb); have n2_ := Aside0.mk (hi); clear HK; clear HB; clear HI0; have HK := n0_; have HB := n1_; have HI0 := n2_; clear n0_ n1_ n2_; (try clear hb); (try clear hb2); (try clear hk); (try clear hi))); go_upto_if 45 with (first | (go_at_call 139; (with_reducible refine (spec_Editor_ends.calls g s0_0 s0_1 s0_2 s0_3 s0_4 s0_1 t128 t129 t130 t131 w0 _ ?side1 ?side2 A14.out).mono ?_); (case side1 => repeat (first | (with_reducible first | exact HI0.out | apply IsS91.alloc | apply IsS91.drewN | apply IsS91.drew | apply IsS91.set_1 | apply IsS91.set_3 | apply IsS91.set_4) | exact HI0.out)); (case side2 => repeat (first | (with_reducible first | exact HB.out | apply below_alloc | apply pw_below_drewN | apply below_drew1 | refine below_set ?_ (IsS91.ge HI0.out)) | exact HB.out)); rintro e w17 ⟨rfl, hi, hb, hk⟩; have n0_ := Aside0.mk (KeepBut.trans (by repeat (first | (with_reducible first | exact HK.out | apply KeepBut.set_ | apply keep_drewN | apply keep_drew | apply keep_alloc) | exact HK.out)) hk (.inl rfl)); have n1_ := Aside0.mk (hb); have n2_ := Aside0.mk (hi); clear HK; clear HB; clear HI0; have HK := n0_; have HB := n1_; have HI0 := n2_; clear n0_ n1_ n2_; (try clear hb); (try clear hb2); (try clear hk); (try clear hi))))
          (try simp only [Act.put, List.setIfInBounds_toArray, List.set_cons_zero, List.set_cons_succ])
          go_cut [3] (fun v3 wc => ∃ (kq : Nat) (x3_14 : Int), v3 = .int .i64 x3_14 ∧ Aside0 (spec_Editor_endWord.j1 kq (s0_0.length : Int) x3_14 s0_0 t129 s0_2 t130 t131 = some (r1, r2, r3)) ∧ Aside0 (kq ≤ kj3) ∧ Aside0 (IsS91 w0 wc g s0_0 t129 s0_2 t130 t131) ∧ Aside0 (KeepBut w wc g none) ∧ Aside0 (Below w0.heap.size w0 wc))
          case first =>
            have H := HC15.out
            clear HC15
            by_cases c18 : t128 = true
            · subst c18
              have H1 : (spec_Editor_endWord.j1 kj3 (s0_0.length : Int) (wrap64 (s0_1 + 1)) s0_0 t129 s0_2 t130 t131) = some (r1, r2, r3) := by rw [if_pos rfl] at H; exact H
              clear H
              have H := H1
              clear H1
              have H' := Aside0.mk H
              clear H
              go_wp2
              repeat (go_quiet (fail); try go_wp2)
              go_meet
              case rel => exact ⟨_, (wrap64 (s0_1 + 1)), (by first | rfl | (simp; done) | (simp [*]; done)), H', ⟨by have := HJ3.out; first | omega | exact Nat.le_refl _⟩, ⟨by repeat (first | (with_reducible first | exact HI0.out | apply IsS91.alloc | apply IsS91.drewN | apply IsS91.drew | apply IsS91.set_1 | apply IsS91.set_3 | apply IsS91.set_4) | exact HI0.out)⟩, ⟨by repeat (first | (with_reducible first | exact HK.out | apply KeepBut.set_ | apply keep_drewN | apply keep_drew | apply keep_alloc) | exact HK.out)⟩, ⟨by repeat (first | (with_reducible first | exact HB.out | apply below_alloc | apply pw_below_drewN | apply below_drew1 | refine below_set ?_ (IsS91.ge HI0.out)) | exact HB.out)⟩⟩
            · replace c18 := Bool.eq_false_iff.mpr c18
              subst c18
              have H1 : (spec_Editor_endWord.j1 kj3 (s0_0.length : Int) s0_1 s0_0 t129 s0_2 t130 t131) = some (r1, r2, r3) := by rw [if_neg (show ¬ (false = true) by decide)] at H; exact H
              clear H
              have H := H1
              clear H1
              have H' := Aside0.mk H
              clear H
              go_wp2
              repeat (go_quiet (fail); try go_wp2)
              go_meet
              case rel => exact ⟨_, (s0_1), (by first | rfl | (simp; done) | (simp [*]; done)), H', ⟨by have := HJ3.out; first | omega | exact Nat.le_refl _⟩, ⟨by repeat (first | (with_reducible first | exact HI0.out | apply IsS91.alloc | apply IsS91.drewN | apply IsS91.drew | apply IsS91.set_1 | apply IsS91.set_3 | apply IsS91.set_4) | exact HI0.out)⟩, ⟨by repeat (first | (with_reducible first | exact HK.out | apply KeepBut.set_ | apply keep_drewN | apply keep_drew | apply keep_alloc) | exact HK.out)⟩, ⟨by repeat (first | (with_reducible first | exact HB.out | apply below_alloc | apply pw_below_drewN | apply below_drew1 | refine below_set ?_ (IsS91.ge HI0.out)) | exact HB.out)⟩⟩
          case rest =>
            clear HC15
            try clear c1
            try clear p1
            try clear q1
            try clear hx1
            try clear c2
            try clear c2b0
            try clear c2b1
            try clear p2
            try clear c6
            try clear c6b0
            try clear c6b1
            try clear p6
            try clear c7
            try clear c7b0
            try clear c8
            try clear c8b0
            try clear c9
            try clear c12
            try clear p12
            try clear q12
            try clear hx12
            try clear c18
            try clear hcz10_0
            try clear hcz10_1
            try clear hcz10_2
            try clear hcz10_3
            try clear hcz10_4
            try clear hcz11_0
            try clear hcz11_1
            try clear hcz11_2
            try clear hcz11_3
            try clear hcz11_4
            try clear hcz13_0
            try clear hcz13_1
            try clear hcz13_2
            try clear hcz13_3
            try clear hcz13_4
            try clear hcz16_0
            try clear hcz16_1
            try clear hcz16_2
            try clear hcz16_3
            try clear hcz16_4
            try clear hcz3_0
            try clear hcz3_1
            try clear hcz3_2
            try clear hcz3_3
            try clear hcz3_4
            try clear hcz5_0
            try clear hcz5_1
            try clear hcz5_2
            try clear hcz5_3
            try clear hcz5_4
            try clear hfz10_1
            try clear hfz10_3
            try clear hfz10_4
            try clear hfz11_1
            try clear hfz11_3
            try clear hfz11_4
            try clear hfz13_1
            try clear hfz13_3
            try clear hfz13_4
            try clear hfz16_1
            try clear hfz16_3
            try clear hfz16_4
            try clear hfz3_1
            try clear hfz3_3
            try clear hfz3_4
            try clear hfz5_1
            try clear hfz5_3
            try clear hfz5_4
            try clear hx126_0
            try clear p1
            try clear p126
            try clear p2
            try clear p6
            try clear q1
            try clear q126
            obtain ⟨kq, x3_14, rfl, HA, HJ14, HI0, HK, HB⟩ := hcut
            cases kq with
            | zero => exact absurd HA.out (by simp [spec_Editor_endWord.j1])
            | succ kj14 =>
              have H := HA.out
              clear HA
              simp only [spec_Editor_endWord.j1] at H
              have H' := Aside0.mk H
              clear H
              go_wp2
              repeat (go_quiet (fail); try go_wp2)
              go_loopg [4] kj14 (fun kq v4 w' => ∃ (x4_3 : Int) (x1001_3 : Int) (x1003_3 : Bool) (x1004_3 : Bool), v4 = .int .i64 x4_3 ∧ Aside0 (spec_Editor_endWord.l0 kq (s0_0.length : Int) x4_3 s0_0 x1001_3 s0_2 x1003_3 x1004_3 = some (r1, r2, r3)) ∧ Aside0 (kq ≤ kj14) ∧ Aside0 (IsS91 w0 w' g s0_0 x1001_3 s0_2 x1003_3 x1004_3) ∧ Aside0 (KeepBut w w' g none) ∧ Aside0 (Below w0.heap.size w0 w'))
              case atStart => exact ⟨(x3_14), (t129), (t130), (t131), (by first | rfl | (simp; done) | (simp [*]; done)), H', ⟨Nat.le_refl _⟩, ⟨by repeat (first | (with_reducible first | exact HI0.out | apply IsS91.alloc | apply IsS91.drewN | apply IsS91.drew | apply IsS91.set_1 | apply IsS91.set_3 | apply IsS91.set_4) | exact HI0.out)⟩, ⟨by repeat (first | (with_reducible first | exact HK.out | apply KeepBut.set_ | apply keep_drewN | apply keep_drew | apply keep_alloc) | exact HK.out)⟩, ⟨by repeat (first | (with_reducible first | exact HB.out | apply below_alloc | apply pw_below_drewN | apply below_drew1 | refine below_set ?_ (IsS91.ge HI0.out)) | exact HB.out)⟩⟩
              case round =>
                clear H'
                try clear c1
                try clear p1
                try clear q1
                try clear hx1
                try clear c2
                try clear c2b0
                try clear c2b1
                try clear p2
                try clear c6
                try clear c6b0
                try clear c6b1
                try clear p6
                try clear c7
                try clear c7b0
                try clear c8
                try clear c8b0
                try clear c9
                try clear c12
                try clear p12
                try clear q12
                try clear hx12
                try clear c18
                try clear hcz10_0
                try clear hcz10_1
                try clear hcz10_2
                try clear hcz10_3
                try clear hcz10_4
                try clear hcz11_0
                try clear hcz11_1
                try clear hcz11_2
                try clear hcz11_3
                try clear hcz11_4
                try clear hcz13_0
                try clear hcz13_1
                try clear hcz13_2
                try clear hcz13_3
                try clear hcz13_4
                try clear hcz16_0
                try clear hcz16_1
                try clear hcz16_2
                try clear hcz16_3
                try clear hcz16_4
                try clear hcz3_0
                try clear hcz3_1
                try clear hcz3_2
                try clear hcz3_3
                try clear hcz3_4
                try clear hcz5_0
                try clear hcz5_1
                try clear hcz5_2
                try clear hcz5_3
                try clear hcz5_4
                try clear hfz10_1
                try clear hfz10_3
                try clear hfz10_4
                try clear hfz11_1
                try clear hfz11_3
                try clear hfz11_4
                try clear hfz13_1
                try clear hfz13_3
                try clear hfz13_4
                try clear hfz16_1
                try clear hfz16_3
                try clear hfz16_4
                try clear hfz3_1
                try clear hfz3_3
                try clear hfz3_4
                try clear hfz5_1
                try clear hfz5_3
                try clear hfz5_4
                try clear hx126_0
                try clear p1
                try clear p12
                try clear p126
                try clear p2
                try clear p6
                try clear q1
                try clear q12
                try clear q126
                obtain ⟨x4_3, x1001_3, x1003_3, x1004_3, rfl, HA, HK3, HI0, HK, HB⟩ := hrel
                cases gk with
                | zero => exact absurd HA.out (by simp [spec_Editor_endWord.l0])
                | succ k3 =>
                  have H := HA.out
                  clear HA
                  simp only [spec_Editor_endWord.l0] at H
                  by_cases c19 : x4_3 < (s0_0.length : Int)
                  · rw [if_pos c19] at H
                    have c19b0 : decide (x4_3 < (s0_0.length : Int)) = true := decide_eq_true c19
                    clear c19
                    replace H := Option.bind_eq_some_iff.mp H
                    obtain ⟨⟨t132, t133, t134, t135⟩, A200, H⟩ := H
                    replace H : (if t132 = true then (some (x4_3, t134, t135)) else (spec_Editor_endWord.l0 k3 (s0_0.length : Int) (wrap64 (x4_3 + 1)) s0_0 t133 s0_2 t134 t135)) = some (r1, r2, r3) := H
                    have A20 := Aside0.mk A200
                    clear A200
                    by_cases c21 : t132 = true
                    · subst c21
                      have H1 : (some (x4_3, t134, t135)) = some (r1, r2, r3) := by rw [if_pos rfl] at H; exact H
                      clear H
                      have H := H1
                      clear H1
                      simp only [Option.some.injEq, Prod.mk.injEq] at H
                      obtain ⟨rfl, rfl, rfl⟩ := H
                      go_wp2_with (first | (go_at_call 139; (with_reducible refine (spec_Editor_ends.calls g s0_0 x1001_3 s0_2 x1003_3 x1004_3 x4_3 true t133 t134 t135 w0 _ ?side1 ?side2 A20.out).mono ?_); (case side1 => repeat (first | (with_reducible first | exact HI0.out | apply IsS91.alloc | apply IsS91.drewN | apply IsS91.drew | apply IsS91.set_1 | apply IsS91.set_3 | apply IsS91.set_4) | exact HI0.out)); (case side2 => repeat (first | (with_reducible first | exact HB.out | apply below_alloc | apply pw_below_drewN | apply below_drew1 | refine below_set ?_ (IsS91.ge HI0.out)) | exact HB.out)); rintro e w22 ⟨rfl, hi, hb, hk⟩; have n0_ := Aside0.mk (KeepBut.trans (by repeat (first | (with_reducible first | exact HK.out | apply KeepBut.set_ | apply keep_drewN | apply keep_drew | apply keep_alloc) | exact HK.out)) hk (.inl rfl)); have n1_ := Aside0.mk (hb); have n2_ := Aside0.mk (hi); clear HK; clear HB; clear HI0; have HK := n0_; have HB := n1_; have HI0 := n2_; clear n0_ n1_ n2_; (try clear hb); (try clear hb2); (try clear hk); (try clear hi); obtain ⟨ASz23_0, cSz23_0, ASz23_2, cSz23_2, HGz23, hgz23, HSz23_0, HSz23_2⟩ := HI0.out; have hcz23_0 := cellS91_0 HGz23; have hcz23_1 := cellS91_1 HGz23; have hcz23_2 := cellS91_2 HGz23; have hcz23_3 := cellS91_3 HGz23; have hcz23_4 := cellS91_4 HGz23; have hfz23_1 := blk_frozen HGz23 1; have hfz23_3 := blk_frozen HGz23 3; have hfz23_4 := blk_frozen HGz23 4; clear HGz23 hgz23))
                      repeat (go_quiet (first | (go_at_call 139; (with_reducible refine (spec_Editor_ends.calls g s0_0 x1001_3 s0_2 x1003_3 x1004_3 x4_3 true t133 t134 t135 w0 _ ?side1 ?side2 A20.out).mono ?_); (case side1 => repeat (first | (with_reducible first | exact HI0.out | apply IsS91.alloc | apply IsS91.drewN | apply IsS91.drew | apply IsS91.set_1 | apply IsS91.set_3 | apply IsS91.set_4) | exact HI0.out)); (case side2 => repeat (first | (with_reducible first | exact HB.out | apply below_alloc | apply pw_below_drewN | apply below_drew1 | refine below_set ?_ (IsS91.ge HI0.out)) | exact HB.out)); rintro e w22 ⟨rfl, hi, hb, hk⟩; have n0_ := Aside0.mk (KeepBut.trans (by repeat (first | (with_reducible first | exact HK.out | apply KeepBut.set_ | apply keep_drewN | apply keep_drew | apply keep_alloc) | exact HK.out)) hk (.inl rfl)); have n1_ := Aside0.mk (hb); have n2_ := Aside0.mk (hi); clear HK; clear HB; clear HI0; have HK := n0_; have HB := n1_; have HI0 := n2_; clear n0_ n1_ n2_; (try clear hb); (try clear hb2); (try clear hk); (try clear hi); obtain ⟨ASz23_0, cSz23_0, ASz23_2, cSz23_2, HGz23, hgz23, HSz23_0, HSz23_2⟩ := HI0.out; have hcz23_0 := cellS91_0 HGz23; have hcz23_1 := cellS91_1 HGz23; have hcz23_2 := cellS91_2 HGz23; have hcz23_3 := cellS91_3 HGz23; have hcz23_4 := cellS91_4 HGz23; have hfz23_1 := blk_frozen HGz23 1; have hfz23_3 := blk_frozen HGz23 3; have hfz23_4 := blk_frozen HGz23 4; clear HGz23 hgz23)); try go_wp2_with (first | (go_at_call 139; (with_reducible refine (spec_Editor_ends.calls g s0_0 x1001_3 s0_2 x1003_3 x1004_3 x4_3 true t133 t134 t135 w0 _ ?side1 ?side2 A20.out).mono ?_); (case side1 => repeat (first | (with_reducible first | exact HI0.out | apply IsS91.alloc | apply IsS91.drewN | apply IsS91.drew | apply IsS91.set_1 | apply IsS91.set_3 | apply IsS91.set_4) | exact HI0.out)); (case side2 => repeat (first | (with_reducible first | exact HB.out | apply below_alloc | apply pw_below_drewN | apply below_drew1 | refine below_set ?_ (IsS91.ge HI0.out)) | exact HB.out)); rintro e w22 ⟨rfl, hi, hb, hk⟩; have n0_ := Aside0.mk (KeepBut.trans (by repeat (first | (with_reducible first | exact HK.out | apply KeepBut.set_ | apply keep_drewN | apply keep_drew | apply keep_alloc) | exact HK.out)) hk (.inl rfl)); have n1_ := Aside0.mk (hb); have n2_ := Aside0.mk (hi); clear HK; clear HB; clear HI0; have HK := n0_; have HB := n1_; have HI0 := n2_; clear n0_ n1_ n2_; (try clear hb); (try clear hb2); (try clear hk); (try clear hi); obtain ⟨ASz23_0, cSz23_0, ASz23_2, cSz23_2, HGz23, hgz23, HSz23_0, HSz23_2⟩ := HI0.out; have hcz23_0 := cellS91_0 HGz23; have hcz23_1 := cellS91_1 HGz23; have hcz23_2 := cellS91_2 HGz23; have hcz23_3 := cellS91_3 HGz23; have hcz23_4 := cellS91_4 HGz23; have hfz23_1 := blk_frozen HGz23 1; have hfz23_3 := blk_frozen HGz23 3; have hfz23_4 := blk_frozen HGz23 4; clear HGz23 hgz23)))
                      first | go_end0 | ((try simp only [Exit.inBlock, Exit.then]); refine bodyPost_ret (results_none rfl _ _ _) rfl ?_)
                      exact ⟨by first | rfl | (simp [errW_none, errW_some] <;> rfl) | (simp [*, errW_none, errW_some] <;> rfl), by repeat (first | (with_reducible first | exact HI0.out | apply IsS91.alloc | apply IsS91.drewN | apply IsS91.drew | apply IsS91.set_1 | apply IsS91.set_3 | apply IsS91.set_4) | exact HI0.out), by repeat (first | (with_reducible first | exact HB.out | apply below_alloc | apply pw_below_drewN | apply below_drew1 | refine below_set ?_ (IsS91.ge HI0.out)) | exact HB.out), by repeat (first | (with_reducible first | exact HK.out | apply KeepBut.set_ | apply keep_drewN | apply keep_drew | apply keep_alloc) | exact HK.out)⟩
                    · replace c21 := Bool.eq_false_iff.mpr c21
                      subst c21
                      have H1 : (spec_Editor_endWord.l0 k3 (s0_0.length : Int) (wrap64 (x4_3 + 1)) s0_0 t133 s0_2 t134 t135) = some (r1, r2, r3) := by rw [if_neg (show ¬ (false = true) by decide)] at H; exact H
                      clear H
                      have H := H1
                      clear H1
                      have H' := Aside0.mk H
                      clear H
                      go_wp2_with (first | (go_at_call 139; (with_reducible refine (spec_Editor_ends.calls g s0_0 x1001_3 s0_2 x1003_3 x1004_3 x4_3 false t133 t134 t135 w0 _ ?side1 ?side2 A20.out).mono ?_); (case side1 => repeat (first | (with_reducible first | exact HI0.out | apply IsS91.alloc | apply IsS91.drewN | apply IsS91.drew | apply IsS91.set_1 | apply IsS91.set_3 | apply IsS91.set_4) | exact HI0.out)); (case side2 => repeat (first | (with_reducible first | exact HB.out | apply below_alloc | apply pw_below_drewN | apply below_drew1 | refine below_set ?_ (IsS91.ge HI0.out)) | exact HB.out)); rintro e w24 ⟨rfl, hi, hb, hk⟩; have n0_ := Aside0.mk (KeepBut.trans (by repeat (first | (with_reducible first | exact HK.out | apply KeepBut.set_ | apply keep_drewN | apply keep_drew | apply keep_alloc) | exact HK.out)) hk (.inl rfl)); have n1_ := Aside0.mk (hb); have n2_ := Aside0.mk (hi); clear HK; clear HB; clear HI0; have HK := n0_; have HB := n1_; have HI0 := n2_; clear n0_ n1_ n2_; (try clear hb); (try clear hb2); (try clear hk); (try clear hi)))
                      repeat (go_quiet (first | (go_at_call 139; (with_reducible refine (spec_Editor_ends.calls g s0_0 x1001_3 s0_2 x1003_3 x1004_3 x4_3 false t133 t134 t135 w0 _ ?side1 ?side2 A20.out).mono ?_); (case side1 => repeat (first | (with_reducible first | exact HI0.out | apply IsS91.alloc | apply IsS91.drewN | apply IsS91.drew | apply IsS91.set_1 | apply IsS91.set_3 | apply IsS91.set_4) | exact HI0.out)); (case side2 => repeat (first | (with_reducible first | exact HB.out | apply below_alloc | apply pw_below_drewN | apply below_drew1 | refine below_set ?_ (IsS91.ge HI0.out)) | exact HB.out)); rintro e w24 ⟨rfl, hi, hb, hk⟩; have n0_ := Aside0.mk (KeepBut.trans (by repeat (first | (with_reducible first | exact HK.out | apply KeepBut.set_ | apply keep_drewN | apply keep_drew | apply keep_alloc) | exact HK.out)) hk (.inl rfl)); have n1_ := Aside0.mk (hb); have n2_ := Aside0.mk (hi); clear HK; clear HB; clear HI0; have HK := n0_; have HB := n1_; have HI0 := n2_; clear n0_ n1_ n2_; (try clear hb); (try clear hb2); (try clear hk); (try clear hi))); try go_wp2_with (first | (go_at_call 139; (with_reducible refine (spec_Editor_ends.calls g s0_0 x1001_3 s0_2 x1003_3 x1004_3 x4_3 false t133 t134 t135 w0 _ ?side1 ?side2 A20.out).mono ?_); (case side1 => repeat (first | (with_reducible first | exact HI0.out | apply IsS91.alloc | apply IsS91.drewN | apply IsS91.drew | apply IsS91.set_1 | apply IsS91.set_3 | apply IsS91.set_4) | exact HI0.out)); (case side2 => repeat (first | (with_reducible first | exact HB.out | apply below_alloc | apply pw_below_drewN | apply below_drew1 | refine below_set ?_ (IsS91.ge HI0.out)) | exact HB.out)); rintro e w24 ⟨rfl, hi, hb, hk⟩; have n0_ := Aside0.mk (KeepBut.trans (by repeat (first | (with_reducible first | exact HK.out | apply KeepBut.set_ | apply keep_drewN | apply keep_drew | apply keep_alloc) | exact HK.out)) hk (.inl rfl)); have n1_ := Aside0.mk (hb); have n2_ := Aside0.mk (hi); clear HK; clear HB; clear HI0; have HK := n0_; have HB := n1_; have HI0 := n2_; clear n0_ n1_ n2_; (try clear hb); (try clear hb2); (try clear hk); (try clear hi))))
                      go_roundg k3
                      case measure => have := HJ3.out; have := HJ14.out; have := HK3.out; omega
                      case rel => exact ⟨(wrap64 (x4_3 + 1)), (t133), (t134), (t135), (by first | rfl | (simp; done) | (simp [*]; done)), H', ⟨by have := HJ3.out; have := HJ14.out; have := HK3.out; omega⟩, ⟨by repeat (first | (with_reducible first | exact HI0.out | apply IsS91.alloc | apply IsS91.drewN | apply IsS91.drew | apply IsS91.set_1 | apply IsS91.set_3 | apply IsS91.set_4) | exact HI0.out)⟩, ⟨by repeat (first | (with_reducible first | exact HK.out | apply KeepBut.set_ | apply keep_drewN | apply keep_drew | apply keep_alloc) | exact HK.out)⟩, ⟨by repeat (first | (with_reducible first | exact HB.out | apply below_alloc | apply pw_below_drewN | apply below_drew1 | refine below_set ?_ (IsS91.ge HI0.out)) | exact HB.out)⟩⟩
                  · rw [if_neg c19] at H
                    have c19b0 : decide (x4_3 < (s0_0.length : Int)) = false := decide_eq_false c19
                    clear c19
                    simp only [Option.some.injEq, Prod.mk.injEq] at H
                    obtain ⟨rfl, rfl, rfl⟩ := H
                    obtain ⟨ASz25_0, cSz25_0, ASz25_2, cSz25_2, HGz25, hgz25, HSz25_0, HSz25_2⟩ := HI0.out
                    have hcz25_0 := cellS91_0 HGz25
                    have hcz25_1 := cellS91_1 HGz25
                    have hcz25_2 := cellS91_2 HGz25
                    have hcz25_3 := cellS91_3 HGz25
                    have hcz25_4 := cellS91_4 HGz25
                    have hfz25_1 := blk_frozen HGz25 1
                    have hfz25_3 := blk_frozen HGz25 3
                    have hfz25_4 := blk_frozen HGz25 4
                    clear HGz25 hgz25
                    go_wp2
                    repeat (go_quiet (fail); try go_wp2)
                    first | go_end0 | ((try simp only [Exit.inBlock, Exit.then]); refine bodyPost_ret (results_none rfl _ _ _) rfl ?_)
                    exact ⟨by first | rfl | (simp [errW_none, errW_some] <;> rfl) | (simp [*, errW_none, errW_some] <;> rfl), by repeat (first | (with_reducible first | exact HI0.out | apply IsS91.alloc | apply IsS91.drewN | apply IsS91.drew | apply IsS91.set_1 | apply IsS91.set_3 | apply IsS91.set_4) | exact HI0.out), by repeat (first | (with_reducible first | exact HB.out | apply below_alloc | apply pw_below_drewN | apply below_drew1 | refine below_set ?_ (IsS91.ge HI0.out)) | exact HB.out), by repeat (first | (with_reducible first | exact HK.out | apply KeepBut.set_ | apply keep_drewN | apply keep_drew | apply keep_alloc) | exact HK.out)⟩
/-! ### spec_Editor_transpose: function 95 -/
def spec_Editor_transpose.j0 : Nat → Int → Bool → List Int → Int → List Int → Bool → Bool → Option (Int × Bool × Bool)
  | 0, _, _, _, _, _, _, _ => none
  | k + 1, x2, x9, x1000, x1001, x1002, x1003, x1004 => if x9 = true then (some (x1001, x1003, true)) else (if x2 = 1 then (some (wrap64 (x1001 + 1), x1003, x1004)) else (none))
def spec_Editor_transpose.f (k : Nat) (s0_0 : List Int) (s0_1 : Int) (s0_2 : List Int) (s0_3 : Bool) (s0_4 : Bool) : Option (Int × Bool × Bool) := if (s0_0.length : Int) = 0 then (spec_Editor_transpose.j0 k (s0_0.length : Int) true s0_0 s0_1 s0_2 s0_3 s0_4) else (if (s0_0.length : Int) = 1 then (spec_Editor_transpose.j0 k (s0_0.length : Int) (s0_1 == 1) s0_0 s0_1 s0_2 s0_3 s0_4) else (spec_Editor_transpose.j0 k (s0_0.length : Int) false s0_0 s0_1 s0_2 s0_3 s0_4))
theorem spec_Editor_transpose.mono_l : ∀ k, (∀ y0 y1 y2 y3 y4 y5 y6, LeO (spec_Editor_transpose.j0 k y0 y1 y2 y3 y4 y5 y6) (spec_Editor_transpose.j0 (k + 1) y0 y1 y2 y3 y4 y5 y6))
  | 0 => fun _ _ _ _ _ _ _ r h => by simp [spec_Editor_transpose.j0] at h
  | k + 1 => by
    have ih0 := spec_Editor_transpose.mono_l k
    · intro y0 y1 y2 y3 y4 y5 y6
      unfold spec_Editor_transpose.j0
      repeat' first
      | (with_reducible exact ih0 _ _ _ _ _ _ _)
      | (with_reducible exact LeO.refl _)
      | (with_reducible exact LeO.none _)
      | (with_reducible refine LeO.ite ?_ ?_)
      | (with_reducible refine LeO.bind ?_ (fun _ => ?_))
      | exact ih0 _ _ _ _ _ _ _
      | exact LeO.none _
      | refine LeO.ite ?_ ?_
      | refine LeO.bind ?_ (fun _ => ?_)
theorem spec_Editor_transpose.mono : ∀ a0 a1 a2 a3 a4 k, LeO (spec_Editor_transpose.f k a0 a1 a2 a3 a4) (spec_Editor_transpose.f (k + 1) a0 a1 a2 a3 a4) := by
  intro a0 a1 a2 a3 a4 k
  have ih0 := spec_Editor_transpose.mono_l k
  unfold spec_Editor_transpose.f
  repeat' first
      | (with_reducible exact ih0 _ _ _ _ _ _ _)
      | (with_reducible exact LeO.refl _)
      | (with_reducible exact LeO.none _)
      | (with_reducible refine LeO.ite ?_ ?_)
      | (with_reducible refine LeO.bind ?_ (fun _ => ?_))
      | exact ih0 _ _ _ _ _ _ _
      | exact LeO.none _
      | refine LeO.ite ?_ ?_
      | refine LeO.bind ?_ (fun _ => ?_)
set_option maxHeartbeats 8000000 in
set_option maxRecDepth 100000 in
theorem spec_Editor_transpose.calls (k : Nat) (g : Nat) (s0_0 : List Int) (s0_1 : Int) (s0_2 : List Int) (s0_3 : Bool) (s0_4 : Bool) (r1 : Int) (r2 : Bool) (r3 : Bool) (w0 w : World) (hI : IsS91 w0 w g s0_0 s0_1 s0_2 s0_3 s0_4) (hB : Below w0.heap.size w0 w) (h : spec_Editor_transpose.f k s0_0 s0_1 s0_2 s0_3 s0_4 = some (r1, r2, r3)) :
    Calls Tryd.prog 95 #[.pointer (some ⟨g, 0, none⟩)] w fun e w' => e = .returned (.tuple #[]) ∧ IsS91 w0 w' g s0_0 r1 s0_2 r2 r3 ∧ Below w0.heap.size w0 w' ∧ KeepBut w w' g none := by
  have HI0 := Aside0.mk hI
  have HK := Aside0.mk (KeepBut.refl w g none)
  have HL := Aside0.mk hB.size
  clear hI
  have HW0 := Aside0.mk hB.size
  have HB := Aside0.mk hB
  clear hB
  have H : (if (s0_0.length : Int) = 0 then (spec_Editor_transpose.j0 k (s0_0.length : Int) true s0_0 s0_1 s0_2 s0_3 s0_4) else (if (s0_0.length : Int) = 1 then (spec_Editor_transpose.j0 k (s0_0.length : Int) (s0_1 == 1) s0_0 s0_1 s0_2 s0_3 s0_4) else (spec_Editor_transpose.j0 k (s0_0.length : Int) false s0_0 s0_1 s0_2 s0_3 s0_4))) = some (r1, r2, r3) := h
  clear h
  have HC2 := Aside0.mk H
  clear H
  obtain ⟨ASz3_0, cSz3_0, ASz3_2, cSz3_2, HGz3, hgz3, HSz3_0, HSz3_2⟩ := HI0.out
  have hcz3_0 := cellS91_0 HGz3
  have hcz3_1 := cellS91_1 HGz3
  have hcz3_2 := cellS91_2 HGz3
  have hcz3_3 := cellS91_3 HGz3
  have hcz3_4 := cellS91_4 HGz3
  have hfz3_1 := blk_frozen HGz3 1
  have hfz3_3 := blk_frozen HGz3 3
  have hfz3_4 := blk_frozen HGz3 4
  clear HGz3 hgz3
  go_enter Tryd.func95, Tryd.ntmps95
  go_upto_region 1 with (fail)
  go_cut [9] (fun v9 wc => ∃ (kq : Nat) (x9_1 : Bool), v9 = .bool x9_1 ∧ Aside0 (spec_Editor_transpose.j0 kq (s0_0.length : Int) x9_1 s0_0 s0_1 s0_2 s0_3 s0_4 = some (r1, r2, r3)) ∧ Aside0 (kq ≤ k) ∧ Aside0 (IsS91 w0 wc g s0_0 s0_1 s0_2 s0_3 s0_4) ∧ Aside0 (KeepBut w wc g none) ∧ Aside0 (Below w0.heap.size w0 wc))
  case first =>
    have H := HC2.out
    clear HC2
    by_cases c4 : (s0_0.length : Int) = 0
    · rw [if_pos c4] at H
      have c4b0 : ((s0_0.length : Int) == 0) = true := beq_iff_eq.mpr c4
      have c4b1 : ((s0_0.length : Int) != 0) = false := bne_eq_false_iff_eq.mpr c4
      clear c4
      (first | rw [c4b0] | (simp only [i64_w, i32_w]; rw [c4b0]) | skip)
      have H' := Aside0.mk H
      clear H
      go_wp2
      go_meet
      case rel => exact ⟨_, (true), (by first | rfl | (simp; done) | (simp [*]; done)), H', ⟨by first | omega | exact Nat.le_refl _⟩, ⟨by repeat (first | (with_reducible first | exact HI0.out | apply IsS91.alloc | apply IsS91.drewN | apply IsS91.drew | apply IsS91.set_1 | apply IsS91.set_3 | apply IsS91.set_4) | exact HI0.out)⟩, ⟨by repeat (first | (with_reducible first | exact HK.out | apply KeepBut.set_ | apply keep_drewN | apply keep_drew | apply keep_alloc) | exact HK.out)⟩, ⟨by repeat (first | (with_reducible first | exact HB.out | apply below_alloc | apply pw_below_drewN | apply below_drew1 | refine below_set ?_ (IsS91.ge HI0.out)) | exact HB.out)⟩⟩
    · rw [if_neg c4] at H
      have c4b0 : ((s0_0.length : Int) == 0) = false := beq_eq_false_iff_ne.mpr c4
      have c4b1 : ((s0_0.length : Int) != 0) = true := bne_iff_ne.mpr c4
      have c4b2 : ¬ (s0_0 = []) := fun h_ => c4 (by rw [h_]; rfl)
      (first | rw [c4b0] | (simp only [i64_w, i32_w]; rw [c4b0]) | skip)
      by_cases c5 : (s0_0.length : Int) = 1
      · rw [if_pos c5] at H
        have c5b0 : ((s0_0.length : Int) == 1) = true := beq_iff_eq.mpr c5
        have c5b1 : ((s0_0.length : Int) != 1) = false := bne_eq_false_iff_eq.mpr c5
        clear c5
        have H' := Aside0.mk H
        clear H
        obtain ⟨ASz6_0, cSz6_0, ASz6_2, cSz6_2, HGz6, hgz6, HSz6_0, HSz6_2⟩ := HI0.out
        have hcz6_0 := cellS91_0 HGz6
        have hcz6_1 := cellS91_1 HGz6
        have hcz6_2 := cellS91_2 HGz6
        have hcz6_3 := cellS91_3 HGz6
        have hcz6_4 := cellS91_4 HGz6
        have hfz6_1 := blk_frozen HGz6 1
        have hfz6_3 := blk_frozen HGz6 3
        have hfz6_4 := blk_frozen HGz6 4
        clear HGz6 hgz6
        go_wp2
        go_meet
        case rel => exact ⟨_, ((s0_1 == 1)), (by first | rfl | (simp; done) | (simp [*]; done)), H', ⟨by first | omega | exact Nat.le_refl _⟩, ⟨by repeat (first | (with_reducible first | exact HI0.out | apply IsS91.alloc | apply IsS91.drewN | apply IsS91.drew | apply IsS91.set_1 | apply IsS91.set_3 | apply IsS91.set_4) | exact HI0.out)⟩, ⟨by repeat (first | (with_reducible first | exact HK.out | apply KeepBut.set_ | apply keep_drewN | apply keep_drew | apply keep_alloc) | exact HK.out)⟩, ⟨by repeat (first | (with_reducible first | exact HB.out | apply below_alloc | apply pw_below_drewN | apply below_drew1 | refine below_set ?_ (IsS91.ge HI0.out)) | exact HB.out)⟩⟩
      · rw [if_neg c5] at H
        have c5b0 : ((s0_0.length : Int) == 1) = false := beq_eq_false_iff_ne.mpr c5
        have c5b1 : ((s0_0.length : Int) != 1) = true := bne_iff_ne.mpr c5
        have H' := Aside0.mk H
        clear H
        go_wp2
        go_meet
        case rel => exact ⟨_, (false), (by first | rfl | (simp; done) | (simp [*]; done)), H', ⟨by first | omega | exact Nat.le_refl _⟩, ⟨by repeat (first | (with_reducible first | exact HI0.out | apply IsS91.alloc | apply IsS91.drewN | apply IsS91.drew | apply IsS91.set_1 | apply IsS91.set_3 | apply IsS91.set_4) | exact HI0.out)⟩, ⟨by repeat (first | (with_reducible first | exact HK.out | apply KeepBut.set_ | apply keep_drewN | apply keep_drew | apply keep_alloc) | exact HK.out)⟩, ⟨by repeat (first | (with_reducible first | exact HB.out | apply below_alloc | apply pw_below_drewN | apply below_drew1 | refine below_set ?_ (IsS91.ge HI0.out)) | exact HB.out)⟩⟩
  case rest =>
    clear HC2
    try clear p2
    try clear c4
    try clear c4b0
    try clear c4b1
    try clear c4b2
    try clear c5
    try clear c5b0
    try clear c5b1
    try clear hcz3_0
    try clear hcz3_1
    try clear hcz3_2
    try clear hcz3_3
    try clear hcz3_4
    try clear hcz6_0
    try clear hcz6_1
    try clear hcz6_2
    try clear hcz6_3
    try clear hcz6_4
    try clear hfz3_1
    try clear hfz3_3
    try clear hfz3_4
    try clear hfz6_1
    try clear hfz6_3
    try clear hfz6_4
    obtain ⟨kq, x9_1, rfl, HA, HJ1, HI0, HK, HB⟩ := hcut
    cases kq with
    | zero => exact absurd HA.out (by simp [spec_Editor_transpose.j0])
    | succ kj1 =>
      have H := HA.out
      clear HA
      simp only [spec_Editor_transpose.j0] at H
      by_cases c7 : x9_1 = true
      · subst c7
        have H1 : (some (s0_1, s0_3, true)) = some (r1, r2, r3) := by rw [if_pos rfl] at H; exact H
        clear H
        have H := H1
        clear H1
        simp only [Option.some.injEq, Prod.mk.injEq] at H
        obtain ⟨rfl, rfl, rfl⟩ := H
        obtain ⟨ASz8_0, cSz8_0, ASz8_2, cSz8_2, HGz8, hgz8, HSz8_0, HSz8_2⟩ := HI0.out
        have hcz8_0 := cellS91_0 HGz8
        have hcz8_1 := cellS91_1 HGz8
        have hcz8_2 := cellS91_2 HGz8
        have hcz8_3 := cellS91_3 HGz8
        have hcz8_4 := cellS91_4 HGz8
        have hfz8_1 := blk_frozen HGz8 1
        have hfz8_3 := blk_frozen HGz8 3
        have hfz8_4 := blk_frozen HGz8 4
        clear HGz8 hgz8
        go_wp2
        first | go_end0 | ((try simp only [Exit.inBlock, Exit.then]); refine bodyPost_ret (results_none rfl _ _ _) rfl ?_)
        exact ⟨by first | rfl | (simp [errW_none, errW_some] <;> rfl) | (simp [*, errW_none, errW_some] <;> rfl), by repeat (first | (with_reducible first | exact HI0.out | apply IsS91.alloc | apply IsS91.drewN | apply IsS91.drew | apply IsS91.set_1 | apply IsS91.set_3 | apply IsS91.set_4) | exact HI0.out), by repeat (first | (with_reducible first | exact HB.out | apply below_alloc | apply pw_below_drewN | apply below_drew1 | refine below_set ?_ (IsS91.ge HI0.out)) | exact HB.out), by repeat (first | (with_reducible first | exact HK.out | apply KeepBut.set_ | apply keep_drewN | apply keep_drew | apply keep_alloc) | exact HK.out)⟩
      · replace c7 := Bool.eq_false_iff.mpr c7
        subst c7
        have H1 : (if (s0_0.length : Int) = 1 then (some (wrap64 (s0_1 + 1), s0_3, s0_4)) else (none)) = some (r1, r2, r3) := by rw [if_neg (show ¬ (false = true) by decide)] at H; exact H
        clear H
        have H := H1
        clear H1
        by_cases c9 : (s0_0.length : Int) = 1
        · rw [if_pos c9] at H
          have c9b0 : ((s0_0.length : Int) == 1) = true := beq_iff_eq.mpr c9
          have c9b1 : ((s0_0.length : Int) != 1) = false := bne_eq_false_iff_eq.mpr c9
          clear c9
          simp only [Option.some.injEq, Prod.mk.injEq] at H
          obtain ⟨rfl, rfl, rfl⟩ := H
          obtain ⟨ASz10_0, cSz10_0, ASz10_2, cSz10_2, HGz10, hgz10, HSz10_0, HSz10_2⟩ := HI0.out
          have hcz10_0 := cellS91_0 HGz10
          have hcz10_1 := cellS91_1 HGz10
          have hcz10_2 := cellS91_2 HGz10
          have hcz10_3 := cellS91_3 HGz10
          have hcz10_4 := cellS91_4 HGz10
          have hfz10_1 := blk_frozen HGz10 1
          have hfz10_3 := blk_frozen HGz10 3
          have hfz10_4 := blk_frozen HGz10 4
          clear HGz10 hgz10
          go_wp2
          first | go_end0 | ((try simp only [Exit.inBlock, Exit.then]); refine bodyPost_ret (results_none rfl _ _ _) rfl ?_)
          exact ⟨by first | rfl | (simp [errW_none, errW_some] <;> rfl) | (simp [*, errW_none, errW_some] <;> rfl), by repeat (first | (with_reducible first | exact HI0.out | apply IsS91.alloc | apply IsS91.drewN | apply IsS91.drew | apply IsS91.set_1 | apply IsS91.set_3 | apply IsS91.set_4) | exact HI0.out), by repeat (first | (with_reducible first | exact HB.out | apply below_alloc | apply pw_below_drewN | apply below_drew1 | refine below_set ?_ (IsS91.ge HI0.out)) | exact HB.out), by repeat (first | (with_reducible first | exact HK.out | apply KeepBut.set_ | apply keep_drewN | apply keep_drew | apply keep_alloc) | exact HK.out)⟩
        · rw [if_neg c9] at H
          exact absurd H (by simp)
end Go.Proofs.YtdinikcfhpfojaaDoor.PDo
