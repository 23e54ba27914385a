/- Printed by a program of this seat (xprint) out of the translation: Go functions as plain functions, and the walks that show them; no condition. -/
import Derived.Test.YthbdaoapjnofkaaDoorPFnBufferWidthx0
import Derived.Test.YthbdaoapjnofkaaDoorHBufferWidth
import Derived.Test.YthbdaoapjnofkaaDoorPFnBufferWidthx1
namespace Go.Proofs.YthbdaoapjnofkaaDoor.PFnBufferWidth
open Go.RowKit Go.Proofs.YthbdaoapjnofkaaDoor.H Go.Proofs.YthbdaoapjnofkaaDoor.R Go.Proofs.YthbdaoapjnofkaaDoorW.PrintWords Go.Proofs.YthbdaoapjnofkaaDoorW.PrintLast Go.Proofs.YthbdaoapjnofkaaDoorW.PrintMore
attribute [local go_sem] max2_int min2_int max_two min_two max_three min_three max_four min_four   -- for this text's walks alone
set_option linter.unusedVariables false
set_option linter.unusedSimpArgs false

/-! ### spec_Stripped: function 42 -/
mutual
def spec_Stripped.l0 : Nat → ByteArray → List Int → Int → Option (ByteArray × Bool)
  | 0, _, _, _ => none
  | k + 1, x0, x4, x5 => if x5 < (x0.size : Int) then (if 0 ≤ x5 then (if (bt x0 x5) = 27 then (if (wrap64 (x5 + 1)) = (x0.size : Int) then (spec_Stripped.j1 k x0 x4 (wrap64 (x5 + 1)) true) else (if 0 ≤ (wrap64 (x5 + 1)) then (if (wrap64 (x5 + 1)) < (x0.size : Int) then (spec_Stripped.j1 k x0 x4 (wrap64 (x5 + 1)) ((bt x0 (wrap64 (x5 + 1))) != 91)) else (none)) else (none))) else (if x4.length < 140737488355328 then (spec_Stripped.l0 k x0 (x4 ++ [bt x0 x5]) (wrap64 (x5 + 1))) else (none))) else (none)) else ((spec_Plain.f k (strOfNums x4)).bind fun t102 => (some (strOfNums x4, t102)))
def spec_Stripped.j1 : Nat → ByteArray → List Int → Int → Bool → Option (ByteArray × Bool)
  | 0, _, _, _, _ => none
  | k + 1, x0, x4, x6, x34 => if x34 = true then (some ((⟨#[]⟩ : ByteArray), false)) else (spec_Stripped.l1 k x0 x4 (wrap64 (x6 + 1)))
def spec_Stripped.l1 : Nat → ByteArray → List Int → Int → Option (ByteArray × Bool)
  | 0, _, _, _ => none
  | k + 1, x0, x4, x6 => if x6 < (x0.size : Int) then (if 0 ≤ x6 then (if (bt x0 x6) ≥ 48 then (if (bt x0 x6) ≤ 57 then (spec_Stripped.l1 k x0 x4 (wrap64 (x6 + 1))) else (if (bt x0 x6) = 59 then (spec_Stripped.l1 k x0 x4 (wrap64 (x6 + 1))) else (if x6 = (x0.size : Int) then (some ((⟨#[]⟩ : ByteArray), false)) else (if (bt x0 x6) = 109 then (spec_Stripped.l0 k x0 x4 (wrap64 (x6 + 1))) else (some ((⟨#[]⟩ : ByteArray), false)))))) else (if (bt x0 x6) = 59 then (spec_Stripped.l1 k x0 x4 (wrap64 (x6 + 1))) else (if x6 = (x0.size : Int) then (some ((⟨#[]⟩ : ByteArray), false)) else (if (bt x0 x6) = 109 then (spec_Stripped.l0 k x0 x4 (wrap64 (x6 + 1))) else (some ((⟨#[]⟩ : ByteArray), false)))))) else (none)) else (if x6 = (x0.size : Int) then (some ((⟨#[]⟩ : ByteArray), false)) else (if 0 ≤ x6 then (none) else (none)))
end
def spec_Stripped.f (k : Nat) (a0 : ByteArray) : Option (ByteArray × Bool) := spec_Stripped.l0 k a0 ([] : List Int) 0
theorem spec_Stripped.mono_l : ∀ k, (∀ y0 y1 y2, LeO (spec_Stripped.l0 k y0 y1 y2) (spec_Stripped.l0 (k + 1) y0 y1 y2)) ∧ (∀ y0 y1 y2 y3, LeO (spec_Stripped.j1 k y0 y1 y2 y3) (spec_Stripped.j1 (k + 1) y0 y1 y2 y3)) ∧ (∀ y0 y1 y2, LeO (spec_Stripped.l1 k y0 y1 y2) (spec_Stripped.l1 (k + 1) y0 y1 y2))
  | 0 => ⟨fun _ _ _ r h => by simp [spec_Stripped.l0] at h, fun _ _ _ _ r h => by simp [spec_Stripped.j1] at h, fun _ _ _ r h => by simp [spec_Stripped.l1] at h⟩
  | k + 1 => by
    obtain ⟨ih0, ih1, ih2⟩ := spec_Stripped.mono_l k
    refine ⟨?_, ?_, ?_⟩
    · intro y0 y1 y2
      unfold spec_Stripped.l0
      repeat' first
      | (with_reducible exact ih0 _ _ _)
      | (with_reducible exact ih1 _ _ _ _)
      | (with_reducible exact ih2 _ _ _)
      | (with_reducible exact spec_Plain.mono _ _)
      | (with_reducible exact LeO.refl _)
      | (with_reducible exact LeO.none _)
      | (with_reducible refine LeO.ite ?_ ?_)
      | (with_reducible refine LeO.bind ?_ (fun _ => ?_))
      | exact ih0 _ _ _
      | exact ih1 _ _ _ _
      | exact ih2 _ _ _
      | exact spec_Plain.mono _ _
      | exact LeO.none _
      | refine LeO.ite ?_ ?_
      | refine LeO.bind ?_ (fun _ => ?_)
    · intro y0 y1 y2 y3
      unfold spec_Stripped.j1
      repeat' first
      | (with_reducible exact ih0 _ _ _)
      | (with_reducible exact ih1 _ _ _ _)
      | (with_reducible exact ih2 _ _ _)
      | (with_reducible exact spec_Plain.mono _ _)
      | (with_reducible exact LeO.refl _)
      | (with_reducible exact LeO.none _)
      | (with_reducible refine LeO.ite ?_ ?_)
      | (with_reducible refine LeO.bind ?_ (fun _ => ?_))
      | exact ih0 _ _ _
      | exact ih1 _ _ _ _
      | exact ih2 _ _ _
      | exact spec_Plain.mono _ _
      | exact LeO.none _
      | refine LeO.ite ?_ ?_
      | refine LeO.bind ?_ (fun _ => ?_)
    · intro y0 y1 y2
      unfold spec_Stripped.l1
      repeat' first
      | (with_reducible exact ih0 _ _ _)
      | (with_reducible exact ih1 _ _ _ _)
      | (with_reducible exact ih2 _ _ _)
      | (with_reducible exact spec_Plain.mono _ _)
      | (with_reducible exact LeO.refl _)
      | (with_reducible exact LeO.none _)
      | (with_reducible refine LeO.ite ?_ ?_)
      | (with_reducible refine LeO.bind ?_ (fun _ => ?_))
      | exact ih0 _ _ _
      | exact ih1 _ _ _ _
      | exact ih2 _ _ _
      | exact spec_Plain.mono _ _
      | exact LeO.none _
      | refine LeO.ite ?_ ?_
      | refine LeO.bind ?_ (fun _ => ?_)
theorem spec_Stripped.mono : ∀ a0 k, LeO (spec_Stripped.f k a0) (spec_Stripped.f (k + 1) a0) := by
  intro a0 k
  obtain ⟨ih0, ih1, ih2⟩ := spec_Stripped.mono_l k
  unfold spec_Stripped.f
  repeat' first
      | (with_reducible exact ih0 _ _ _)
      | (with_reducible exact ih1 _ _ _ _)
      | (with_reducible exact ih2 _ _ _)
      | (with_reducible exact spec_Plain.mono _ _)
      | (with_reducible exact LeO.refl _)
      | (with_reducible exact LeO.none _)
      | (with_reducible refine LeO.ite ?_ ?_)
      | (with_reducible refine LeO.bind ?_ (fun _ => ?_))
      | exact ih0 _ _ _
      | exact ih1 _ _ _ _
      | exact ih2 _ _ _
      | exact spec_Plain.mono _ _
      | exact LeO.none _
      | refine LeO.ite ?_ ?_
      | refine LeO.bind ?_ (fun _ => ?_)
set_option maxHeartbeats 8000000 in
set_option maxRecDepth 100000 in
theorem spec_Stripped.calls (k : Nat) (a0 : ByteArray) (r1 : ByteArray) (r2 : Bool) (w : World) (h : spec_Stripped.f k a0 = some (r1, r2)) :
    Calls Tryd.prog 42 #[.string a0] w fun e w' => e = .returned (.tuple #[.string r1, .bool r2]) ∧ Below w.heap.size w w' := by
  have HB := Aside0.mk (Below.refl w.heap.size w)
  have H : (spec_Stripped.l0 k a0 ([] : List Int) 0) = some (r1, r2) := h
  clear h
  have H' := Aside0.mk H
  clear H
  go_enter Tryd.func42, Tryd.ntmps42
  go_wp2
  repeat (go_quiet (fail); try go_wp2)
  go_loopg [4, 5] k (fun kq v4 v5 w' => ∃ (x4_1 : List Int) (x5_1 : Int), v5 = .int .i64 x5_1 ∧ Aside0 (spec_Stripped.l0 kq a0 x4_1 x5_1 = some (r1, r2)) ∧ Aside0 (kq ≤ k) ∧ Aside0 (Kd.R (Kd.int .u8) 5 w' w.heap.size (fun _ => True) v4 x4_1) ∧ Aside0 (Below w.heap.size w w'))
  case atStart => exact ⟨(([] : List Int)), (0), (by first | rfl | (simp; done) | (simp [*]; done)), H', ⟨Nat.le_refl _⟩, ⟨by first | exact Kd.R_nil _ _ _ _ _ | exact Kd.N_nil _ _ _ _ _ | exact Kd.V_nil _ _ _ _ _ | exact Kd.Q_nil _ _ _ _ _ | exact Kd.S_nil _ _ _ _ _⟩, ⟨by repeat (first | (with_reducible first | exact HB.out | apply below_alloc | apply pw_below_drewN | apply below_drew1) | exact HB.out)⟩⟩
  case round =>
    clear H'
    obtain ⟨x4_1, x5_1, rfl, HA, HK1, HO_4, HB⟩ := hrel
    cases gk with
    | zero => exact absurd HA.out (by simp [spec_Stripped.l0])
    | succ k1 =>
      have H := HA.out
      clear HA
      simp only [spec_Stripped.l0] at H
      by_cases c2 : x5_1 < (a0.size : Int)
      · rw [if_pos c2] at H
        have c2b0 : decide (x5_1 < (a0.size : Int)) = true := decide_eq_true c2
        clear c2
        by_cases c3 : 0 ≤ x5_1
        · rw [if_pos c3] at H
          have c3b0 : decide (0 ≤ x5_1) = true := decide_eq_true c3
          clear c3
          by_cases c5 : (bt a0 x5_1) = 27
          · rw [if_pos c5] at H
            have c5b0 : ((bt a0 x5_1) == 27) = true := beq_iff_eq.mpr c5
            have c5b1 : ((bt a0 x5_1) != 27) = false := bne_eq_false_iff_eq.mpr c5
            clear c5
            have HC6 := Aside0.mk H
            clear H
            have p4 : 0 ≤ (x5_1 : Int) := of_decide_eq_true (by first | (with_reducible assumption) | assumption)
            have q4 : x5_1 < (a0.size : Int) := of_decide_eq_true (by first | (with_reducible assumption) | assumption)
            have hx4 := bt_at a0 x5_1
            replace p4 := eq_true p4
            replace q4 := eq_true q4
            go_upto_region 8 with (fail)
            repeat (go_quiet (fail); go_upto_region 8 with (fail))
            go_cut [34] (fun v34 wc => ∃ (kq : Nat) (x34_5 : Bool), v34 = .bool x34_5 ∧ Aside0 (spec_Stripped.j1 kq a0 x4_1 (wrap64 (x5_1 + 1)) x34_5 = some (r1, r2)) ∧ Aside0 (kq ≤ k1) ∧ Aside0 (Kd.R (Kd.int .u8) 5 wc w.heap.size (fun _ => True) u4 x4_1) ∧ Aside0 (Below w.heap.size w wc))
            case first =>
              have H := HC6.out
              clear HC6
              by_cases c7 : (wrap64 (x5_1 + 1)) = (a0.size : Int)
              · rw [if_pos c7] at H
                have c7b0 : ((wrap64 (x5_1 + 1)) == (a0.size : Int)) = true := beq_iff_eq.mpr c7
                have c7b1 : ((wrap64 (x5_1 + 1)) != (a0.size : Int)) = false := bne_eq_false_iff_eq.mpr c7
                clear c7
                (first | rw [c7b0] | (simp only [i64_w, i32_w]; rw [c7b0]) | skip)
                have H' := Aside0.mk H
                clear H
                go_wp2
                repeat (go_quiet (fail); try go_wp2)
                go_meet
                case rel => exact ⟨_, (true), (by first | rfl | (simp; done) | (simp [*]; done)), H', ⟨by have := HK1.out; first | omega | exact Nat.le_refl _⟩, ⟨by (with_reducible repeat (first | apply Kd.R_alloc | apply Kd.R_drewN | apply Kd.R_drew)); exact HO_4.out⟩, ⟨by repeat (first | (with_reducible first | exact HB.out | apply below_alloc | apply pw_below_drewN | apply below_drew1) | exact HB.out)⟩⟩
              · rw [if_neg c7] at H
                have c7b0 : ((wrap64 (x5_1 + 1)) == (a0.size : Int)) = false := beq_eq_false_iff_ne.mpr c7
                have c7b1 : ((wrap64 (x5_1 + 1)) != (a0.size : Int)) = true := bne_iff_ne.mpr c7
                (first | rw [c7b0] | (simp only [i64_w, i32_w]; rw [c7b0]) | skip)
                obtain ⟨ji8, hji8⟩ : ∃ j_ : Int, (wrap64 (x5_1 + 1)) = j_ := ⟨_, rfl⟩
                replace H : (if 0 ≤ (ji8) then (if (ji8) < (a0.size : Int) then (spec_Stripped.j1 k1 a0 x4_1 ji8 ((bt a0 (ji8)) != 91)) else (none)) else (none)) = some (r1, r2) := by first | (rw [hji8] at H; exact H) | (simp only [hji8] at H ⊢; exact H)
                (try rw [hji8] at c7b0)
                (try rw [hji8] at c7b1)
                have hji8w : (IntKind.i64.wrap (x5_1 + 1)) = ji8 := (i64_w _).trans hji8
                by_cases c9 : 0 ≤ (ji8)
                · rw [if_pos c9] at H
                  have c9b0 : decide (0 ≤ (ji8)) = true := decide_eq_true c9
                  clear c9
                  by_cases c10 : (ji8) < (a0.size : Int)
                  · rw [if_pos c10] at H
                    have c10b0 : decide ((ji8) < (a0.size : Int)) = true := decide_eq_true c10
                    clear c10
                    have H' := Aside0.mk H
                    clear H
                    have p11 : 0 ≤ ((ji8) : Int) := of_decide_eq_true (by first | (with_reducible assumption) | assumption)
                    have q11 : (ji8) < (a0.size : Int) := of_decide_eq_true (by first | (with_reducible assumption) | assumption)
                    have hx11 := bt_at a0 (ji8)
                    replace p11 := eq_true p11
                    replace q11 := eq_true q11
                    go_wp2
                    repeat (go_quiet (fail); try go_wp2)
                    go_meet
                    case rel => exact ⟨_, (((bt a0 (ji8)) != 91)), (by first | rfl | (simp; done) | (simp only [← hji8] <;> (first | rfl | simp)) | (simp [*]; done)), (by first | exact H' | (rw [hji8]; exact H')), ⟨by have := HK1.out; first | omega | exact Nat.le_refl _⟩, ⟨by (with_reducible repeat (first | apply Kd.R_alloc | apply Kd.R_drewN | apply Kd.R_drew)); exact HO_4.out⟩, ⟨by repeat (first | (with_reducible first | exact HB.out | apply below_alloc | apply pw_below_drewN | apply below_drew1) | exact HB.out)⟩⟩
                  · rw [if_neg c10] at H
                    exact absurd H (by simp)
                · rw [if_neg c9] at H
                  exact absurd H (by simp)
            case rest =>
              clear HC6
              try clear c1
              try clear p1
              try clear q1
              try clear hx1
              try clear c2
              try clear c2b0
              try clear p2
              try clear c3
              try clear c3b0
              try clear c4
              try clear p4
              try clear q4
              try clear hx4
              try clear c5
              try clear c5b0
              try clear c5b1
              try clear p6
              try clear c7
              try clear c7b0
              try clear c7b1
              try clear c9
              try clear c9b0
              try clear c10
              try clear c10b0
              try clear p11
              try clear q11
              try clear hx11
              try clear p11
              try clear p4
              try clear q11
              try clear q4
              obtain ⟨kq, x34_5, rfl, HA, HJ5, HO_4, HB⟩ := hcut
              cases kq with
              | zero => exact absurd HA.out (by simp [spec_Stripped.j1])
              | succ kj5 =>
                have H := HA.out
                clear HA
                simp only [spec_Stripped.j1] at H
                by_cases c12 : x34_5 = true
                · subst c12
                  have H1 : (some ((⟨#[]⟩ : ByteArray), false)) = some (r1, r2) := by rw [if_pos rfl] at H; exact H
                  clear H
                  have H := H1
                  clear H1
                  simp only [Option.some.injEq, Prod.mk.injEq] at H
                  obtain ⟨rfl, rfl⟩ := H
                  go_wp2
                  repeat (go_quiet (fail); try go_wp2)
                  go_ret2
                  exact ⟨by first | rfl | (simp [errW_none, errW_some] <;> rfl) | (simp [*, errW_none, errW_some] <;> rfl), by repeat (first | (with_reducible first | exact HB.out | apply below_alloc | apply pw_below_drewN | apply below_drew1) | exact HB.out)⟩
                · replace c12 := Bool.eq_false_iff.mpr c12
                  subst c12
                  have H1 : (spec_Stripped.l1 kj5 a0 x4_1 (wrap64 ((wrap64 (x5_1 + 1)) + 1))) = some (r1, r2) := by rw [if_neg (show ¬ (false = true) by decide)] at H; exact H
                  clear H
                  have H := H1
                  clear H1
                  have H' := Aside0.mk H
                  clear H
                  go_wp2
                  repeat (go_quiet (fail); try go_wp2)
                  go_loopg [6] kj5 (fun kq v6 w' => ∃ (x6_3 : Int), v6 = .int .i64 x6_3 ∧ Aside0 (spec_Stripped.l1 kq a0 x4_1 x6_3 = some (r1, r2)) ∧ Aside0 (kq ≤ kj5) ∧ Aside0 (Kd.R (Kd.int .u8) 5 w' w.heap.size (fun _ => True) u4 x4_1) ∧ Aside0 (Below w.heap.size w w'))
                  case atStart => exact ⟨(wrap64 ((wrap64 (x5_1 + 1)) + 1)), (by first | rfl | (simp; done) | (simp [*]; done)), H', ⟨Nat.le_refl _⟩, ⟨by (with_reducible repeat (first | apply Kd.R_alloc | apply Kd.R_drewN | apply Kd.R_drew)); exact HO_4.out⟩, ⟨by repeat (first | (with_reducible first | exact HB.out | apply below_alloc | apply pw_below_drewN | apply below_drew1) | exact HB.out)⟩⟩
                  case round =>
                    clear H'
                    try clear c1
                    try clear p1
                    try clear q1
                    try clear hx1
                    try clear c2
                    try clear c2b0
                    try clear p2
                    try clear c3
                    try clear c3b0
                    try clear c4
                    try clear p4
                    try clear q4
                    try clear hx4
                    try clear c5
                    try clear c5b0
                    try clear c5b1
                    try clear p6
                    try clear c7
                    try clear c7b0
                    try clear c7b1
                    try clear c9
                    try clear c9b0
                    try clear c10
                    try clear c10b0
                    try clear p11
                    try clear q11
                    try clear hx11
                    try clear c12
                    try clear p1
                    try clear p11
                    try clear p2
                    try clear p4
                    try clear p6
                    try clear q1
                    try clear q11
                    try clear q4
                    obtain ⟨x6_3, rfl, HA, HK3, HO_4, HB⟩ := hrel
                    cases gk with
                    | zero => exact absurd HA.out (by simp [spec_Stripped.l1])
                    | succ k3 =>
                      have H := HA.out
                      clear HA
                      simp only [spec_Stripped.l1] at H
                      by_cases c13 : x6_3 < (a0.size : Int)
                      · rw [if_pos c13] at H
                        have c13b0 : decide (x6_3 < (a0.size : Int)) = true := decide_eq_true c13
                        clear c13
                        by_cases c14 : 0 ≤ x6_3
                        · rw [if_pos c14] at H
                          have c14b0 : decide (0 ≤ x6_3) = true := decide_eq_true c14
                          clear c14
                          by_cases c16 : (bt a0 x6_3) ≥ 48
                          · rw [if_pos c16] at H
                            have c16b0 : decide (48 ≤ (bt a0 x6_3)) = true := decide_eq_true c16
                            clear c16
                            by_cases c18 : (bt a0 x6_3) ≤ 57
                            · rw [if_pos c18] at H
                              have c18b0 : decide ((bt a0 x6_3) ≤ 57) = true := decide_eq_true c18
                              clear c18
                              have H' := Aside0.mk H
                              clear H
                              have p15 : 0 ≤ (x6_3 : Int) := of_decide_eq_true (by first | (with_reducible assumption) | assumption)
                              have q15 : x6_3 < (a0.size : Int) := of_decide_eq_true (by first | (with_reducible assumption) | assumption)
                              have hx15 := bt_at a0 x6_3
                              replace p15 := eq_true p15
                              replace q15 := eq_true q15
                              have p17 : 0 ≤ (x6_3 : Int) := of_decide_eq_true (by first | (with_reducible assumption) | assumption)
                              have q17 : x6_3 < (a0.size : Int) := of_decide_eq_true (by first | (with_reducible assumption) | assumption)
                              have hx17 := bt_at a0 x6_3
                              replace p17 := eq_true p17
                              replace q17 := eq_true q17
                              go_wp2
                              repeat (go_quiet (fail); try go_wp2)
                              go_roundg k3
                              case measure => have := HK1.out; have := HJ5.out; have := HK3.out; omega
                              case rel => exact ⟨(wrap64 (x6_3 + 1)), (by first | rfl | (simp; done) | (simp [*]; done)), H', ⟨by have := HK1.out; have := HJ5.out; have := HK3.out; omega⟩, ⟨by (with_reducible repeat (first | apply Kd.R_alloc | apply Kd.R_drewN | apply Kd.R_drew)); exact HO_4.out⟩, ⟨by repeat (first | (with_reducible first | exact HB.out | apply below_alloc | apply pw_below_drewN | apply below_drew1) | exact HB.out)⟩⟩
                            · rw [if_neg c18] at H
                              have c18b0 : decide ((bt a0 x6_3) ≤ 57) = false := decide_eq_false c18
                              clear c18
                              by_cases c20 : (bt a0 x6_3) = 59
                              · rw [if_pos c20] at H
                                have c20b0 : ((bt a0 x6_3) == 59) = true := beq_iff_eq.mpr c20
                                have c20b1 : ((bt a0 x6_3) != 59) = false := bne_eq_false_iff_eq.mpr c20
                                clear c20
                                have H' := Aside0.mk H
                                clear H
                                have p15 : 0 ≤ (x6_3 : Int) := of_decide_eq_true (by first | (with_reducible assumption) | assumption)
                                have q15 : x6_3 < (a0.size : Int) := of_decide_eq_true (by first | (with_reducible assumption) | assumption)
                                have hx15 := bt_at a0 x6_3
                                replace p15 := eq_true p15
                                replace q15 := eq_true q15
                                have p17 : 0 ≤ (x6_3 : Int) := of_decide_eq_true (by first | (with_reducible assumption) | assumption)
                                have q17 : x6_3 < (a0.size : Int) := of_decide_eq_true (by first | (with_reducible assumption) | assumption)
                                have hx17 := bt_at a0 x6_3
                                replace p17 := eq_true p17
                                replace q17 := eq_true q17
                                have p19 : 0 ≤ (x6_3 : Int) := of_decide_eq_true (by first | (with_reducible assumption) | assumption)
                                have q19 : x6_3 < (a0.size : Int) := of_decide_eq_true (by first | (with_reducible assumption) | assumption)
                                have hx19 := bt_at a0 x6_3
                                replace p19 := eq_true p19
                                replace q19 := eq_true q19
                                go_wp2
                                repeat (go_quiet (fail); try go_wp2)
                                go_roundg k3
                                case measure => have := HK1.out; have := HJ5.out; have := HK3.out; omega
                                case rel => exact ⟨(wrap64 (x6_3 + 1)), (by first | rfl | (simp; done) | (simp [*]; done)), H', ⟨by have := HK1.out; have := HJ5.out; have := HK3.out; omega⟩, ⟨by (with_reducible repeat (first | apply Kd.R_alloc | apply Kd.R_drewN | apply Kd.R_drew)); exact HO_4.out⟩, ⟨by repeat (first | (with_reducible first | exact HB.out | apply below_alloc | apply pw_below_drewN | apply below_drew1) | exact HB.out)⟩⟩
                              · rw [if_neg c20] at H
                                have c20b0 : ((bt a0 x6_3) == 59) = false := beq_eq_false_iff_ne.mpr c20
                                have c20b1 : ((bt a0 x6_3) != 59) = true := bne_iff_ne.mpr c20
                                by_cases c21 : x6_3 = (a0.size : Int)
                                · rw [if_pos c21] at H
                                  have c21b0 : (x6_3 == (a0.size : Int)) = true := beq_iff_eq.mpr c21
                                  have c21b1 : (x6_3 != (a0.size : Int)) = false := bne_eq_false_iff_eq.mpr c21
                                  clear c21
                                  simp only [Option.some.injEq, Prod.mk.injEq] at H
                                  obtain ⟨rfl, rfl⟩ := H
                                  have p15 : 0 ≤ (x6_3 : Int) := of_decide_eq_true (by first | (with_reducible assumption) | assumption)
                                  have q15 : x6_3 < (a0.size : Int) := of_decide_eq_true (by first | (with_reducible assumption) | assumption)
                                  have hx15 := bt_at a0 x6_3
                                  replace p15 := eq_true p15
                                  replace q15 := eq_true q15
                                  have p17 : 0 ≤ (x6_3 : Int) := of_decide_eq_true (by first | (with_reducible assumption) | assumption)
                                  have q17 : x6_3 < (a0.size : Int) := of_decide_eq_true (by first | (with_reducible assumption) | assumption)
                                  have hx17 := bt_at a0 x6_3
                                  replace p17 := eq_true p17
                                  replace q17 := eq_true q17
                                  have p19 : 0 ≤ (x6_3 : Int) := of_decide_eq_true (by first | (with_reducible assumption) | assumption)
                                  have q19 : x6_3 < (a0.size : Int) := of_decide_eq_true (by first | (with_reducible assumption) | assumption)
                                  have hx19 := bt_at a0 x6_3
                                  replace p19 := eq_true p19
                                  replace q19 := eq_true q19
                                  go_wp2
                                  repeat (go_quiet (fail); try go_wp2)
                                  go_ret2
                                  exact ⟨by first | rfl | (simp [errW_none, errW_some] <;> rfl) | (simp [*, errW_none, errW_some] <;> rfl), by repeat (first | (with_reducible first | exact HB.out | apply below_alloc | apply pw_below_drewN | apply below_drew1) | exact HB.out)⟩
                                · rw [if_neg c21] at H
                                  have c21b0 : (x6_3 == (a0.size : Int)) = false := beq_eq_false_iff_ne.mpr c21
                                  have c21b1 : (x6_3 != (a0.size : Int)) = true := bne_iff_ne.mpr c21
                                  by_cases c23 : (bt a0 x6_3) = 109
                                  · rw [if_pos c23] at H
                                    have c23b0 : ((bt a0 x6_3) == 109) = true := beq_iff_eq.mpr c23
                                    have c23b1 : ((bt a0 x6_3) != 109) = false := bne_eq_false_iff_eq.mpr c23
                                    clear c23
                                    have H' := Aside0.mk H
                                    clear H
                                    have p15 : 0 ≤ (x6_3 : Int) := of_decide_eq_true (by first | (with_reducible assumption) | assumption)
                                    have q15 : x6_3 < (a0.size : Int) := of_decide_eq_true (by first | (with_reducible assumption) | assumption)
                                    have hx15 := bt_at a0 x6_3
                                    replace p15 := eq_true p15
                                    replace q15 := eq_true q15
                                    have p17 : 0 ≤ (x6_3 : Int) := of_decide_eq_true (by first | (with_reducible assumption) | assumption)
                                    have q17 : x6_3 < (a0.size : Int) := of_decide_eq_true (by first | (with_reducible assumption) | assumption)
                                    have hx17 := bt_at a0 x6_3
                                    replace p17 := eq_true p17
                                    replace q17 := eq_true q17
                                    have p19 : 0 ≤ (x6_3 : Int) := of_decide_eq_true (by first | (with_reducible assumption) | assumption)
                                    have q19 : x6_3 < (a0.size : Int) := of_decide_eq_true (by first | (with_reducible assumption) | assumption)
                                    have hx19 := bt_at a0 x6_3
                                    replace p19 := eq_true p19
                                    replace q19 := eq_true q19
                                    have p22 : 0 ≤ (x6_3 : Int) := of_decide_eq_true (by first | (with_reducible assumption) | assumption)
                                    have q22 : x6_3 < (a0.size : Int) := of_decide_eq_true (by first | (with_reducible assumption) | assumption)
                                    have hx22 := bt_at a0 x6_3
                                    replace p22 := eq_true p22
                                    replace q22 := eq_true q22
                                    go_wp2
                                    repeat (go_quiet (fail); try go_wp2)
                                    go_roundg k3
                                    case measure => have := HK1.out; have := HJ5.out; have := HK3.out; omega
                                    case rel => exact ⟨(x4_1), (wrap64 (x6_3 + 1)), (by first | rfl | (simp; done) | (simp [*]; done)), H', ⟨by have := HK1.out; have := HJ5.out; have := HK3.out; omega⟩, ⟨by (with_reducible repeat (first | apply Kd.R_alloc | apply Kd.R_drewN | apply Kd.R_drew)); exact HO_4.out⟩, ⟨by repeat (first | (with_reducible first | exact HB.out | apply below_alloc | apply pw_below_drewN | apply below_drew1) | exact HB.out)⟩⟩
                                  · rw [if_neg c23] at H
                                    have c23b0 : ((bt a0 x6_3) == 109) = false := beq_eq_false_iff_ne.mpr c23
                                    have c23b1 : ((bt a0 x6_3) != 109) = true := bne_iff_ne.mpr c23
                                    simp only [Option.some.injEq, Prod.mk.injEq] at H
                                    obtain ⟨rfl, rfl⟩ := H
                                    have p15 : 0 ≤ (x6_3 : Int) := of_decide_eq_true (by first | (with_reducible assumption) | assumption)
                                    have q15 : x6_3 < (a0.size : Int) := of_decide_eq_true (by first | (with_reducible assumption) | assumption)
                                    have hx15 := bt_at a0 x6_3
                                    replace p15 := eq_true p15
                                    replace q15 := eq_true q15
                                    have p17 : 0 ≤ (x6_3 : Int) := of_decide_eq_true (by first | (with_reducible assumption) | assumption)
                                    have q17 : x6_3 < (a0.size : Int) := of_decide_eq_true (by first | (with_reducible assumption) | assumption)
                                    have hx17 := bt_at a0 x6_3
                                    replace p17 := eq_true p17
                                    replace q17 := eq_true q17
                                    have p19 : 0 ≤ (x6_3 : Int) := of_decide_eq_true (by first | (with_reducible assumption) | assumption)
                                    have q19 : x6_3 < (a0.size : Int) := of_decide_eq_true (by first | (with_reducible assumption) | assumption)
                                    have hx19 := bt_at a0 x6_3
                                    replace p19 := eq_true p19
                                    replace q19 := eq_true q19
                                    have p22 : 0 ≤ (x6_3 : Int) := of_decide_eq_true (by first | (with_reducible assumption) | assumption)
                                    have q22 : x6_3 < (a0.size : Int) := of_decide_eq_true (by first | (with_reducible assumption) | assumption)
                                    have hx22 := bt_at a0 x6_3
                                    replace p22 := eq_true p22
                                    replace q22 := eq_true q22
                                    go_wp2
                                    repeat (go_quiet (fail); try go_wp2)
                                    go_ret2
                                    exact ⟨by first | rfl | (simp [errW_none, errW_some] <;> rfl) | (simp [*, errW_none, errW_some] <;> rfl), by repeat (first | (with_reducible first | exact HB.out | apply below_alloc | apply pw_below_drewN | apply below_drew1) | exact HB.out)⟩
                          · rw [if_neg c16] at H
                            have c16b0 : decide (48 ≤ (bt a0 x6_3)) = false := decide_eq_false c16
                            clear c16
                            by_cases c25 : (bt a0 x6_3) = 59
                            · rw [if_pos c25] at H
                              have c25b0 : ((bt a0 x6_3) == 59) = true := beq_iff_eq.mpr c25
                              have c25b1 : ((bt a0 x6_3) != 59) = false := bne_eq_false_iff_eq.mpr c25
                              clear c25
                              have H' := Aside0.mk H
                              clear H
                              have p15 : 0 ≤ (x6_3 : Int) := of_decide_eq_true (by first | (with_reducible assumption) | assumption)
                              have q15 : x6_3 < (a0.size : Int) := of_decide_eq_true (by first | (with_reducible assumption) | assumption)
                              have hx15 := bt_at a0 x6_3
                              replace p15 := eq_true p15
                              replace q15 := eq_true q15
                              have p24 : 0 ≤ (x6_3 : Int) := of_decide_eq_true (by first | (with_reducible assumption) | assumption)
                              have q24 : x6_3 < (a0.size : Int) := of_decide_eq_true (by first | (with_reducible assumption) | assumption)
                              have hx24 := bt_at a0 x6_3
                              replace p24 := eq_true p24
                              replace q24 := eq_true q24
                              go_wp2
                              repeat (go_quiet (fail); try go_wp2)
                              go_roundg k3
                              case measure => have := HK1.out; have := HJ5.out; have := HK3.out; omega
                              case rel => exact ⟨(wrap64 (x6_3 + 1)), (by first | rfl | (simp; done) | (simp [*]; done)), H', ⟨by have := HK1.out; have := HJ5.out; have := HK3.out; omega⟩, ⟨by (with_reducible repeat (first | apply Kd.R_alloc | apply Kd.R_drewN | apply Kd.R_drew)); exact HO_4.out⟩, ⟨by repeat (first | (with_reducible first | exact HB.out | apply below_alloc | apply pw_below_drewN | apply below_drew1) | exact HB.out)⟩⟩
                            · rw [if_neg c25] at H
                              have c25b0 : ((bt a0 x6_3) == 59) = false := beq_eq_false_iff_ne.mpr c25
                              have c25b1 : ((bt a0 x6_3) != 59) = true := bne_iff_ne.mpr c25
                              by_cases c26 : x6_3 = (a0.size : Int)
                              · rw [if_pos c26] at H
                                have c26b0 : (x6_3 == (a0.size : Int)) = true := beq_iff_eq.mpr c26
                                have c26b1 : (x6_3 != (a0.size : Int)) = false := bne_eq_false_iff_eq.mpr c26
                                clear c26
                                simp only [Option.some.injEq, Prod.mk.injEq] at H
                                obtain ⟨rfl, rfl⟩ := H
                                have p15 : 0 ≤ (x6_3 : Int) := of_decide_eq_true (by first | (with_reducible assumption) | assumption)
                                have q15 : x6_3 < (a0.size : Int) := of_decide_eq_true (by first | (with_reducible assumption) | assumption)
                                have hx15 := bt_at a0 x6_3
                                replace p15 := eq_true p15
                                replace q15 := eq_true q15
                                have p24 : 0 ≤ (x6_3 : Int) := of_decide_eq_true (by first | (with_reducible assumption) | assumption)
                                have q24 : x6_3 < (a0.size : Int) := of_decide_eq_true (by first | (with_reducible assumption) | assumption)
                                have hx24 := bt_at a0 x6_3
                                replace p24 := eq_true p24
                                replace q24 := eq_true q24
                                go_wp2
                                repeat (go_quiet (fail); try go_wp2)
                                go_ret2
                                exact ⟨by first | rfl | (simp [errW_none, errW_some] <;> rfl) | (simp [*, errW_none, errW_some] <;> rfl), by repeat (first | (with_reducible first | exact HB.out | apply below_alloc | apply pw_below_drewN | apply below_drew1) | exact HB.out)⟩
                              · rw [if_neg c26] at H
                                have c26b0 : (x6_3 == (a0.size : Int)) = false := beq_eq_false_iff_ne.mpr c26
                                have c26b1 : (x6_3 != (a0.size : Int)) = true := bne_iff_ne.mpr c26
                                by_cases c28 : (bt a0 x6_3) = 109
                                · rw [if_pos c28] at H
                                  have c28b0 : ((bt a0 x6_3) == 109) = true := beq_iff_eq.mpr c28
                                  have c28b1 : ((bt a0 x6_3) != 109) = false := bne_eq_false_iff_eq.mpr c28
                                  clear c28
                                  have H' := Aside0.mk H
                                  clear H
                                  have p15 : 0 ≤ (x6_3 : Int) := of_decide_eq_true (by first | (with_reducible assumption) | assumption)
                                  have q15 : x6_3 < (a0.size : Int) := of_decide_eq_true (by first | (with_reducible assumption) | assumption)
                                  have hx15 := bt_at a0 x6_3
                                  replace p15 := eq_true p15
                                  replace q15 := eq_true q15
                                  have p24 : 0 ≤ (x6_3 : Int) := of_decide_eq_true (by first | (with_reducible assumption) | assumption)
                                  have q24 : x6_3 < (a0.size : Int) := of_decide_eq_true (by first | (with_reducible assumption) | assumption)
                                  have hx24 := bt_at a0 x6_3
                                  replace p24 := eq_true p24
                                  replace q24 := eq_true q24
                                  have p27 : 0 ≤ (x6_3 : Int) := of_decide_eq_true (by first | (with_reducible assumption) | assumption)
                                  have q27 : x6_3 < (a0.size : Int) := of_decide_eq_true (by first | (with_reducible assumption) | assumption)
                                  have hx27 := bt_at a0 x6_3
                                  replace p27 := eq_true p27
                                  replace q27 := eq_true q27
                                  go_wp2
                                  repeat (go_quiet (fail); try go_wp2)
                                  go_roundg k3
                                  case measure => have := HK1.out; have := HJ5.out; have := HK3.out; omega
                                  case rel => exact ⟨(x4_1), (wrap64 (x6_3 + 1)), (by first | rfl | (simp; done) | (simp [*]; done)), H', ⟨by have := HK1.out; have := HJ5.out; have := HK3.out; omega⟩, ⟨by (with_reducible repeat (first | apply Kd.R_alloc | apply Kd.R_drewN | apply Kd.R_drew)); exact HO_4.out⟩, ⟨by repeat (first | (with_reducible first | exact HB.out | apply below_alloc | apply pw_below_drewN | apply below_drew1) | exact HB.out)⟩⟩
                                · rw [if_neg c28] at H
                                  have c28b0 : ((bt a0 x6_3) == 109) = false := beq_eq_false_iff_ne.mpr c28
                                  have c28b1 : ((bt a0 x6_3) != 109) = true := bne_iff_ne.mpr c28
                                  simp only [Option.some.injEq, Prod.mk.injEq] at H
                                  obtain ⟨rfl, rfl⟩ := H
                                  have p15 : 0 ≤ (x6_3 : Int) := of_decide_eq_true (by first | (with_reducible assumption) | assumption)
                                  have q15 : x6_3 < (a0.size : Int) := of_decide_eq_true (by first | (with_reducible assumption) | assumption)
                                  have hx15 := bt_at a0 x6_3
                                  replace p15 := eq_true p15
                                  replace q15 := eq_true q15
                                  have p24 : 0 ≤ (x6_3 : Int) := of_decide_eq_true (by first | (with_reducible assumption) | assumption)
                                  have q24 : x6_3 < (a0.size : Int) := of_decide_eq_true (by first | (with_reducible assumption) | assumption)
                                  have hx24 := bt_at a0 x6_3
                                  replace p24 := eq_true p24
                                  replace q24 := eq_true q24
                                  have p27 : 0 ≤ (x6_3 : Int) := of_decide_eq_true (by first | (with_reducible assumption) | assumption)
                                  have q27 : x6_3 < (a0.size : Int) := of_decide_eq_true (by first | (with_reducible assumption) | assumption)
                                  have hx27 := bt_at a0 x6_3
                                  replace p27 := eq_true p27
                                  replace q27 := eq_true q27
                                  go_wp2
                                  repeat (go_quiet (fail); try go_wp2)
                                  go_ret2
                                  exact ⟨by first | rfl | (simp [errW_none, errW_some] <;> rfl) | (simp [*, errW_none, errW_some] <;> rfl), by repeat (first | (with_reducible first | exact HB.out | apply below_alloc | apply pw_below_drewN | apply below_drew1) | exact HB.out)⟩
                        · rw [if_neg c14] at H
                          exact absurd H (by simp)
                      · rw [if_neg c13] at H
                        have c13b0 : decide (x6_3 < (a0.size : Int)) = false := decide_eq_false c13
                        clear c13
                        by_cases c29 : x6_3 = (a0.size : Int)
                        · rw [if_pos c29] at H
                          have c29b0 : (x6_3 == (a0.size : Int)) = true := beq_iff_eq.mpr c29
                          have c29b1 : (x6_3 != (a0.size : Int)) = false := bne_eq_false_iff_eq.mpr c29
                          clear c29
                          simp only [Option.some.injEq, Prod.mk.injEq] at H
                          obtain ⟨rfl, rfl⟩ := H
                          go_wp2
                          repeat (go_quiet (fail); try go_wp2)
                          go_ret2
                          exact ⟨by first | rfl | (simp [errW_none, errW_some] <;> rfl) | (simp [*, errW_none, errW_some] <;> rfl), by repeat (first | (with_reducible first | exact HB.out | apply below_alloc | apply pw_below_drewN | apply below_drew1) | exact HB.out)⟩
                        · rw [if_neg c29] at H
                          have c29b0 : (x6_3 == (a0.size : Int)) = false := beq_eq_false_iff_ne.mpr c29
                          have c29b1 : (x6_3 != (a0.size : Int)) = true := bne_iff_ne.mpr c29
                          by_cases c30 : 0 ≤ x6_3
                          · rw [if_pos c30] at H
                            exact absurd H (by simp)
                          · rw [if_neg c30] at H
                            exact absurd H (by simp)
          · rw [if_neg c5] at H
            have c5b0 : ((bt a0 x5_1) == 27) = false := beq_eq_false_iff_ne.mpr c5
            have c5b1 : ((bt a0 x5_1) != 27) = true := bne_iff_ne.mpr c5
            by_cases c32 : x4_1.length < 140737488355328
            · rw [if_pos c32] at H
              have LMc32 := Aside0.mk c32
              clear c32
              obtain ⟨y103, hy103⟩ : ∃ y_ : List Int, y_ = (x4_1 ++ [bt a0 x5_1]) := ⟨_, rfl⟩
              replace H : (spec_Stripped.l0 k1 a0 y103 (wrap64 (x5_1 + 1))) = some (r1, r2) := by first | (rw [hy103]; with_reducible exact H) | (have H2_ := (Option.bind_some _ _).symm.trans H; rw [hy103]; with_reducible exact H2_) | (have H2_ := (Option.bind_some _ _).symm.trans H; with_reducible exact H2_) | with_reducible exact H | (rw [hy103]; exact H) | exact H
              have Ny103 := Aside0.mk hy103
              clear hy103
              have H' := Aside0.mk H
              clear H
              have p4 : 0 ≤ (x5_1 : Int) := of_decide_eq_true (by first | (with_reducible assumption) | assumption)
              have q4 : x5_1 < (a0.size : Int) := of_decide_eq_true (by first | (with_reducible assumption) | assumption)
              have hx4 := bt_at a0 x5_1
              replace p4 := eq_true p4
              replace q4 := eq_true q4
              have p31 : 0 ≤ (x5_1 : Int) := of_decide_eq_true (by first | (with_reducible assumption) | assumption)
              have q31 : x5_1 < (a0.size : Int) := of_decide_eq_true (by first | (with_reducible assumption) | assumption)
              have hx31 := bt_at a0 x5_1
              replace p31 := eq_true p31
              replace q31 := eq_true q31
              go_wp2_with (first | ((with_reducible refine gate_builtin (b := .append) (xs := #[.tmp 17, .tmp 21]) rfl ?_); at_builtin; refine Kd.R_append (Kd.int .u8) (w0 := w) w.heap.size rfl (.tmp 17) (.tmp 21) 48 5 (.int .u8 0) 1 rfl Tryd.underlying48 info5 rfl (by decide) (by omega) u4 x4_1 (bt a0 x5_1) [.int .u8 (bt a0 x5_1)] (fun _ => True) (fun _ => False) rfl rfl ?aP (fun _ hk => hk.elim) ?aF ?aO ?aB ?aS ?aL ?_; (case aP => exact rfl); (case aB => exact (by repeat (first | (with_reducible first | exact HB.out | apply below_alloc | apply pw_below_drewN | apply below_drew1) | exact HB.out))); (case aF => exact (fun _ _ => trivial)); (case aO => exact (by (with_reducible repeat (first | apply Kd.R_alloc | apply Kd.R_drewN | apply Kd.R_drew)); exact HO_4.out)); (case aS => exact (below_size (by repeat (first | (with_reducible first | exact HB.out | apply below_alloc | apply pw_below_drewN | apply below_drew1) | exact HB.out)))); (case aL => have := LMc32.out; omega); intro v104 w33 ho hb hg hat; rw [← Ny103.out] at ho; have n0_ := Aside0.mk (hb); have n1_ := Aside0.mk (ho); clear HB; clear HO_4; have HB := n0_; have HO105 := n1_; clear n0_ n1_; clear ho hb hg hat))
              repeat (go_quiet (first | ((with_reducible refine gate_builtin (b := .append) (xs := #[.tmp 17, .tmp 21]) rfl ?_); at_builtin; refine Kd.R_append (Kd.int .u8) (w0 := w) w.heap.size rfl (.tmp 17) (.tmp 21) 48 5 (.int .u8 0) 1 rfl Tryd.underlying48 info5 rfl (by decide) (by omega) u4 x4_1 (bt a0 x5_1) [.int .u8 (bt a0 x5_1)] (fun _ => True) (fun _ => False) rfl rfl ?aP (fun _ hk => hk.elim) ?aF ?aO ?aB ?aS ?aL ?_; (case aP => exact rfl); (case aB => exact (by repeat (first | (with_reducible first | exact HB.out | apply below_alloc | apply pw_below_drewN | apply below_drew1) | exact HB.out))); (case aF => exact (fun _ _ => trivial)); (case aO => exact (by (with_reducible repeat (first | apply Kd.R_alloc | apply Kd.R_drewN | apply Kd.R_drew)); exact HO_4.out)); (case aS => exact (below_size (by repeat (first | (with_reducible first | exact HB.out | apply below_alloc | apply pw_below_drewN | apply below_drew1) | exact HB.out)))); (case aL => have := LMc32.out; omega); intro v104 w33 ho hb hg hat; rw [← Ny103.out] at ho; have n0_ := Aside0.mk (hb); have n1_ := Aside0.mk (ho); clear HB; clear HO_4; have HB := n0_; have HO105 := n1_; clear n0_ n1_; clear ho hb hg hat)); try go_wp2_with (first | ((with_reducible refine gate_builtin (b := .append) (xs := #[.tmp 17, .tmp 21]) rfl ?_); at_builtin; refine Kd.R_append (Kd.int .u8) (w0 := w) w.heap.size rfl (.tmp 17) (.tmp 21) 48 5 (.int .u8 0) 1 rfl Tryd.underlying48 info5 rfl (by decide) (by omega) u4 x4_1 (bt a0 x5_1) [.int .u8 (bt a0 x5_1)] (fun _ => True) (fun _ => False) rfl rfl ?aP (fun _ hk => hk.elim) ?aF ?aO ?aB ?aS ?aL ?_; (case aP => exact rfl); (case aB => exact (by repeat (first | (with_reducible first | exact HB.out | apply below_alloc | apply pw_below_drewN | apply below_drew1) | exact HB.out))); (case aF => exact (fun _ _ => trivial)); (case aO => exact (by (with_reducible repeat (first | apply Kd.R_alloc | apply Kd.R_drewN | apply Kd.R_drew)); exact HO_4.out)); (case aS => exact (below_size (by repeat (first | (with_reducible first | exact HB.out | apply below_alloc | apply pw_below_drewN | apply below_drew1) | exact HB.out)))); (case aL => have := LMc32.out; omega); intro v104 w33 ho hb hg hat; rw [← Ny103.out] at ho; have n0_ := Aside0.mk (hb); have n1_ := Aside0.mk (ho); clear HB; clear HO_4; have HB := n0_; have HO105 := n1_; clear n0_ n1_; clear ho hb hg hat)))
              go_roundg k1
              case measure => have := HK1.out; omega
              case rel => exact ⟨(y103), (wrap64 (x5_1 + 1)), (by first | rfl | (simp; done) | (simp [*]; done)), H', ⟨by have := HK1.out; omega⟩, ⟨by (with_reducible repeat (first | apply Kd.R_alloc | apply Kd.R_drewN | apply Kd.R_drew)); exact HO105.out⟩, ⟨by repeat (first | (with_reducible first | exact HB.out | apply below_alloc | apply pw_below_drewN | apply below_drew1) | exact HB.out)⟩⟩
            · rw [if_neg c32] at H
              exact absurd H (by simp)
        · rw [if_neg c3] at H
          exact absurd H (by simp)
      · rw [if_neg c2] at H
        have c2b0 : decide (x5_1 < (a0.size : Int)) = false := decide_eq_false c2
        clear c2
        replace H := Option.bind_eq_some_iff.mp H
        obtain ⟨t102, A340, H⟩ := H
        replace H : (some (strOfNums x4_1, t102)) = some (r1, r2) := H
        have A34 := Aside0.mk A340
        clear A340
        simp only [Option.some.injEq, Prod.mk.injEq] at H
        obtain ⟨rfl, rfl⟩ := H
        have hcv35 := own_string (P := Tryd.prog) Tryd.underlying48 Tryd.underlying5 Tryd.underlying9 (Kd.own_of_R HO_4.out)
        have hcv35n := fun n_ => own_string (P := Tryd.prog) Tryd.underlying48 Tryd.underlying5 Tryd.underlying9 (Kd.own_of_R (Kd.R_drewN HO_4.out n_))
        have hcv36 := own_string (P := Tryd.prog) Tryd.underlying48 Tryd.underlying5 Tryd.underlying9 (Kd.own_of_R HO_4.out)
        have hcv36n := fun n_ => own_string (P := Tryd.prog) Tryd.underlying48 Tryd.underlying5 Tryd.underlying9 (Kd.own_of_R (Kd.R_drewN HO_4.out n_))
        go_wp2_with (first | (go_at_call 46; (with_reducible refine (spec_Plain.calls k1 (strOfNums x4_1) t102 _ A34.out).mono ?_); rintro e w' ⟨rfl, ⟨nd, rfl⟩⟩; (try first | exact ⟨rfl, _, World.drewN_drewN _ _ _⟩ | exact ⟨rfl, _, Eq.trans (World.drewN_drewN _ _ _) (congrArg (World.drewN _) (Nat.add_assoc _ _ _))⟩)))
        repeat (go_quiet (first | (go_at_call 46; (with_reducible refine (spec_Plain.calls k1 (strOfNums x4_1) t102 _ A34.out).mono ?_); rintro e w' ⟨rfl, ⟨nd, rfl⟩⟩; (try first | exact ⟨rfl, _, World.drewN_drewN _ _ _⟩ | exact ⟨rfl, _, Eq.trans (World.drewN_drewN _ _ _) (congrArg (World.drewN _) (Nat.add_assoc _ _ _))⟩))); try go_wp2_with (first | (go_at_call 46; (with_reducible refine (spec_Plain.calls k1 (strOfNums x4_1) t102 _ A34.out).mono ?_); rintro e w' ⟨rfl, ⟨nd, rfl⟩⟩; (try first | exact ⟨rfl, _, World.drewN_drewN _ _ _⟩ | exact ⟨rfl, _, Eq.trans (World.drewN_drewN _ _ _) (congrArg (World.drewN _) (Nat.add_assoc _ _ _))⟩))))
        go_ret2
        exact ⟨by first | rfl | (simp [errW_none, errW_some] <;> rfl) | (simp [*, errW_none, errW_some] <;> rfl), by repeat (first | (with_reducible first | exact HB.out | apply below_alloc | apply pw_below_drewN | apply below_drew1) | exact HB.out)⟩

/-! ### laws_joined16: function 15 -/
def laws_joined16.l0 : Nat → List ByteArray → ByteArray → Int → Option (ByteArray × ByteArray × Bool)
  | 0, _, _, _ => none
  | k + 1, x0, x2, x5 => if x5 < (x0.length : Int) then (if (x0.length : Int) > 20 then (some ((⟨#[]⟩ : ByteArray), (⟨#[]⟩ : ByteArray), false)) else (if 0 ≤ x5 then (if ((rdOf ByteArray.empty x0 x5).size : Int) > 200 then (some ((⟨#[]⟩ : ByteArray), (⟨#[]⟩ : ByteArray), false)) else (if x2.size + (rdOf ByteArray.empty x0 x5).size ≤ 9223372036854775807 then (laws_joined16.l0 k x0 (x2 ++ (rdOf ByteArray.empty x0 x5)) (wrap64 (x5 + 1))) else (none))) else (none))) else ((spec_Stripped.f k x2).bind fun bt108 => (some (x2, bt108.1, bt108.2)))
def laws_joined16.f (k : Nat) (l0 : List ByteArray) : Option (ByteArray × ByteArray × Bool) := laws_joined16.l0 k l0 (⟨#[]⟩ : ByteArray) 0
theorem laws_joined16.mono_l : ∀ k, (∀ y0 y1 y2, LeO (laws_joined16.l0 k y0 y1 y2) (laws_joined16.l0 (k + 1) y0 y1 y2))
  | 0 => fun _ _ _ r h => by simp [laws_joined16.l0] at h
  | k + 1 => by
    have ih0 := laws_joined16.mono_l k
    · intro y0 y1 y2
      unfold laws_joined16.l0
      repeat' first
      | (with_reducible exact ih0 _ _ _)
      | (with_reducible exact spec_Stripped.mono _ _)
      | (with_reducible exact LeO.refl _)
      | (with_reducible exact LeO.none _)
      | (with_reducible refine LeO.ite ?_ ?_)
      | (with_reducible refine LeO.bind ?_ (fun _ => ?_))
      | exact ih0 _ _ _
      | exact spec_Stripped.mono _ _
      | exact LeO.none _
      | refine LeO.ite ?_ ?_
      | refine LeO.bind ?_ (fun _ => ?_)
theorem laws_joined16.mono : ∀ a0 k, LeO (laws_joined16.f k a0) (laws_joined16.f (k + 1) a0) := by
  intro a0 k
  have ih0 := laws_joined16.mono_l k
  unfold laws_joined16.f
  repeat' first
      | (with_reducible exact ih0 _ _ _)
      | (with_reducible exact spec_Stripped.mono _ _)
      | (with_reducible exact LeO.refl _)
      | (with_reducible exact LeO.none _)
      | (with_reducible refine LeO.ite ?_ ?_)
      | (with_reducible refine LeO.bind ?_ (fun _ => ?_))
      | exact ih0 _ _ _
      | exact spec_Stripped.mono _ _
      | exact LeO.none _
      | refine LeO.ite ?_ ?_
      | refine LeO.bind ?_ (fun _ => ?_)
set_option maxHeartbeats 8000000 in
set_option maxRecDepth 100000 in
theorem laws_joined16.calls (k : Nat) (A0 : Option Addr) (c0 : Nat) (l0 : List ByteArray) (r1 : ByteArray) (r2 : ByteArray) (r3 : Bool) (w : World) (hr0 : Kd.C Kd.string w A0 l0.length l0) (hc0 : l0.length ≤ c0) (h : laws_joined16.f k l0 = some (r1, r2, r3)) :
    Calls Tryd.prog 15 #[.slice A0 l0.length c0] w fun e w' => e = .returned (.tuple #[.string r1, .string r2, .bool r3]) ∧ Below w.heap.size w w' := by
  have HR0 := Aside0.mk hr0
  have HC0 := Aside0.mk hc0
  clear hr0 hc0
  have HB := Aside0.mk (Below.refl w.heap.size w)
  have H : (laws_joined16.l0 k l0 (⟨#[]⟩ : ByteArray) 0) = some (r1, r2, r3) := h
  clear h
  have H' := Aside0.mk H
  clear H
  go_enter Tryd.func15, Tryd.ntmps15
  go_wp2
  go_loopg [2, 5] k (fun kq v2 v5 w' => ∃ (x2_1 : ByteArray) (x5_1 : Int), v2 = .string x2_1 ∧ v5 = .int .i64 x5_1 ∧ Aside0 (laws_joined16.l0 kq l0 x2_1 x5_1 = some (r1, r2, r3)) ∧ Aside0 (kq ≤ k) ∧ Aside0 (Below w.heap.size w w'))
  case atStart => exact ⟨((⟨#[]⟩ : ByteArray)), (0), (by first | rfl | (simp; done) | (simp [*]; done)), (by first | rfl | (simp; done) | (simp [*]; done)), H', ⟨Nat.le_refl _⟩, ⟨by repeat (first | (with_reducible first | exact HB.out | apply below_alloc | apply pw_below_drewN | apply below_drew1) | exact HB.out)⟩⟩
  case round =>
    clear H'
    try clear c1
    obtain ⟨x2_1, x5_1, rfl, rfl, HA, HK1, HB⟩ := hrel
    cases gk with
    | zero => exact absurd HA.out (by simp [laws_joined16.l0])
    | succ k1 =>
      have H := HA.out
      clear HA
      simp only [laws_joined16.l0] at H
      by_cases c2 : x5_1 < (l0.length : Int)
      · rw [if_pos c2] at H
        have c2b0 : decide (x5_1 < (l0.length : Int)) = true := decide_eq_true c2
        clear c2
        by_cases c3 : (l0.length : Int) > 20
        · rw [if_pos c3] at H
          have c3b0 : decide (20 < (l0.length : Int)) = true := decide_eq_true c3
          have c3b1 : decide (20 < l0.length) = true := decide_eq_true (by omega)
          clear c3
          simp only [Option.some.injEq, Prod.mk.injEq] at H
          obtain ⟨rfl, rfl, rfl⟩ := H
          go_wp2
          go_ret3
          exact ⟨by first | rfl | (simp [errW_none, errW_some] <;> rfl) | (simp [*, errW_none, errW_some] <;> rfl), by repeat (first | (with_reducible first | exact HB.out | apply below_alloc | apply pw_below_drewN | apply below_drew1) | exact HB.out)⟩
        · rw [if_neg c3] at H
          have c3b0 : decide (20 < (l0.length : Int)) = false := decide_eq_false c3
          have c3b1 : decide (20 < l0.length) = false := decide_eq_false (by omega)
          clear c3
          by_cases c4 : 0 ≤ x5_1
          · rw [if_pos c4] at H
            have c4b0 : decide (0 ≤ x5_1) = true := decide_eq_true c4
            clear c4
            by_cases c5 : ((rdOf ByteArray.empty l0 x5_1).size : Int) > 200
            · rw [if_pos c5] at H
              have c5b0 : decide (200 < ((rdOf ByteArray.empty l0 x5_1).size : Int)) = true := decide_eq_true c5
              have c5b1 : decide (200 < (rdOf ByteArray.empty l0 x5_1).size) = true := decide_eq_true (by omega)
              clear c5
              simp only [Option.some.injEq, Prod.mk.injEq] at H
              obtain ⟨rfl, rfl, rfl⟩ := H
              have p106 : 0 ≤ (x5_1 : Int) := of_decide_eq_true (by first | (with_reducible assumption) | assumption)
              have q106 : x5_1 < (l0.length : Int) := of_decide_eq_true (by first | (with_reducible assumption) | assumption)
              obtain ⟨ad106, e106, hx106_0⟩ := Kd.at_string HR0.out x5_1 p106 q106
              cases e106
              replace hx106_0 := (HB.out.cell (World.block_lt_of_cell? w _ hx106_0)).trans hx106_0
              replace p106 := eq_true p106
              replace q106 := eq_true q106
              go_wp2
              go_ret3
              exact ⟨by first | rfl | (simp [errW_none, errW_some] <;> rfl) | (simp [*, errW_none, errW_some] <;> rfl), by repeat (first | (with_reducible first | exact HB.out | apply below_alloc | apply pw_below_drewN | apply below_drew1) | exact HB.out)⟩
            · rw [if_neg c5] at H
              have c5b0 : decide (200 < ((rdOf ByteArray.empty l0 x5_1).size : Int)) = false := decide_eq_false c5
              have c5b1 : decide (200 < (rdOf ByteArray.empty l0 x5_1).size) = false := decide_eq_false (by omega)
              clear c5
              by_cases c6 : x2_1.size + (rdOf ByteArray.empty l0 x5_1).size ≤ 9223372036854775807
              · rw [if_pos c6] at H
                have c6b0 := eq_true c6
                have c6b1 : decide (x2_1.size + (rdOf ByteArray.empty l0 x5_1).size ≤ 9223372036854775807) = true := decide_eq_true c6
                try have c6b2 : (9223372036854775807 < x2_1.size + (rdOf ByteArray.empty l0 x5_1).size) = False := eq_false (Nat.not_lt.2 c6)
                have H' := Aside0.mk H
                clear H
                have p106 : 0 ≤ (x5_1 : Int) := of_decide_eq_true (by first | (with_reducible assumption) | assumption)
                have q106 : x5_1 < (l0.length : Int) := of_decide_eq_true (by first | (with_reducible assumption) | assumption)
                obtain ⟨ad106, e106, hx106_0⟩ := Kd.at_string HR0.out x5_1 p106 q106
                cases e106
                replace hx106_0 := (HB.out.cell (World.block_lt_of_cell? w _ hx106_0)).trans hx106_0
                replace p106 := eq_true p106
                replace q106 := eq_true q106
                have p107 : 0 ≤ (x5_1 : Int) := of_decide_eq_true (by first | (with_reducible assumption) | assumption)
                have q107 : x5_1 < (l0.length : Int) := of_decide_eq_true (by first | (with_reducible assumption) | assumption)
                obtain ⟨ad107, e107, hx107_0⟩ := Kd.at_string HR0.out x5_1 p107 q107
                obtain rfl : ad106 = ad107 := (by injection e107)
                replace hx107_0 := (HB.out.cell (World.block_lt_of_cell? w _ hx107_0)).trans hx107_0
                replace p107 := eq_true p107
                replace q107 := eq_true q107
                go_wp2
                go_roundg k1
                case measure => have := HK1.out; omega
                case rel => exact ⟨(x2_1 ++ (rdOf ByteArray.empty l0 x5_1)), (wrap64 (x5_1 + 1)), (by first | rfl | (simp; done) | (simp [*]; done)), (by first | rfl | (simp; done) | (simp [*]; done)), H', ⟨by have := HK1.out; omega⟩, ⟨by repeat (first | (with_reducible first | exact HB.out | apply below_alloc | apply pw_below_drewN | apply below_drew1) | exact HB.out)⟩⟩
              · rw [if_neg c6] at H
                exact absurd H (by simp)
          · rw [if_neg c4] at H
            exact absurd H (by simp)
      · rw [if_neg c2] at H
        have c2b0 : decide (x5_1 < (l0.length : Int)) = false := decide_eq_false c2
        clear c2
        replace H := Option.bind_eq_some_iff.mp H
        obtain ⟨⟨t108, t109⟩, A70, H⟩ := H
        replace H : (some (x2_1, t108, t109)) = some (r1, r2, r3) := H
        have A7 := Aside0.mk A70
        clear A70
        simp only [Option.some.injEq, Prod.mk.injEq] at H
        obtain ⟨rfl, rfl, rfl⟩ := H
        go_wp2_with (first | ((with_reducible refine gate_callee (f := 42) rfl ?_); refine goesL_ (some 31) rfl rfl Tryd.func42 (by kernel_rfl) rfl #[.string x2_1] rfl (by (try simp only [List.map_toArray, List.map_cons, List.map_nil]); first | done | rfl | (simp only [List.length_drop, List.length_take]; rfl) | (simp only [Int.toNat_natCast, ByteArray.extract_zero_size]; rfl)) ?_; (with_reducible refine (spec_Stripped.calls k1 x2_1 t108 t109 _ A7.out).mono ?_); rintro e w8 ⟨rfl, hb⟩; refine ⟨_, rfl, ?_⟩; have n0_ := Aside0.mk (below_step (by repeat (first | (with_reducible first | exact HB.out | apply below_alloc | apply pw_below_drewN | apply below_drew1) | exact HB.out)) hb); clear HB; have HB := n0_; clear n0_; (try clear hb); (try clear hb2); (try clear hk); (try clear hi)))
        go_ret3
        exact ⟨by first | rfl | (simp [errW_none, errW_some] <;> rfl) | (simp [*, errW_none, errW_some] <;> rfl), by repeat (first | (with_reducible first | exact HB.out | apply below_alloc | apply pw_below_drewN | apply below_drew1) | exact HB.out)⟩

/-! ### spec_Width: function 17 -/
def spec_Width.l0 : Nat → ByteArray → Int → Int → Option (Int)
  | 0, _, _, _ => none
  | k + 1, x0, x3, x4 => if x4 < (x0.size : Int) then (if 0 ≤ x4 then (if (bt x0 x4) = 10 then (spec_Width.l0 k x0 x3 (wrap64 (x4 + 1))) else (spec_Width.l0 k x0 (wrap64 (x3 + 1)) (wrap64 (x4 + 1)))) else (none)) else (some x3)
def spec_Width.f (k : Nat) (a0 : ByteArray) : Option (Int) := spec_Width.l0 k a0 0 0
theorem spec_Width.mono_l : ∀ k, (∀ y0 y1 y2, LeO (spec_Width.l0 k y0 y1 y2) (spec_Width.l0 (k + 1) y0 y1 y2))
  | 0 => fun _ _ _ r h => by simp [spec_Width.l0] at h
  | k + 1 => by
    have ih0 := spec_Width.mono_l k
    · intro y0 y1 y2
      unfold spec_Width.l0
      repeat' first
      | (with_reducible exact ih0 _ _ _)
      | (with_reducible exact LeO.refl _)
      | (with_reducible exact LeO.none _)
      | (with_reducible refine LeO.ite ?_ ?_)
      | (with_reducible refine LeO.bind ?_ (fun _ => ?_))
      | exact ih0 _ _ _
      | exact LeO.none _
      | refine LeO.ite ?_ ?_
      | refine LeO.bind ?_ (fun _ => ?_)
theorem spec_Width.mono : ∀ a0 k, LeO (spec_Width.f k a0) (spec_Width.f (k + 1) a0) := by
  intro a0 k
  have ih0 := spec_Width.mono_l k
  unfold spec_Width.f
  repeat' first
      | (with_reducible exact ih0 _ _ _)
      | (with_reducible exact LeO.refl _)
      | (with_reducible exact LeO.none _)
      | (with_reducible refine LeO.ite ?_ ?_)
      | (with_reducible refine LeO.bind ?_ (fun _ => ?_))
      | exact ih0 _ _ _
      | exact LeO.none _
      | refine LeO.ite ?_ ?_
      | refine LeO.bind ?_ (fun _ => ?_)
set_option maxHeartbeats 8000000 in
set_option maxRecDepth 100000 in
theorem spec_Width.calls (k : Nat) (a0 : ByteArray) (r : Int) (w : World) (h : spec_Width.f k a0 = some r) :
    Calls Tryd.prog 17 #[.string a0] w fun e w' => e = .returned (.int .i64 r) ∧ Drawn0 w w' := by
  have H : (spec_Width.l0 k a0 0 0) = some r := h
  clear h
  have H' := Aside0.mk H
  clear H
  go_enter Tryd.func17, Tryd.ntmps17
  go_wp2
  go_loopg [3, 4] k (fun kq v3 v4 w' => ∃ (x3_1 : Int) (x4_1 : Int), v3 = .int .i64 x3_1 ∧ v4 = .int .i64 x4_1 ∧ Aside0 (spec_Width.l0 kq a0 x3_1 x4_1 = some r) ∧ Aside0 (kq ≤ k) ∧ Drawn0 w w')
  case atStart => exact ⟨(0), (0), (by first | rfl | (simp; done) | (simp [*]; done)), (by first | rfl | (simp; done) | (simp [*]; done)), H', ⟨Nat.le_refl _⟩, by repeat (first | exact Drawn0.refl _ | apply Drawn0.step)⟩
  case round =>
    clear H'
    try clear c1
    obtain ⟨x3_1, x4_1, rfl, rfl, HA, HK1, ⟨m1, rfl⟩⟩ := hrel
    cases gk with
    | zero => exact absurd HA.out (by simp [spec_Width.l0])
    | succ k1 =>
      have H := HA.out
      clear HA
      simp only [spec_Width.l0] at H
      by_cases c2 : x4_1 < (a0.size : Int)
      · rw [if_pos c2] at H
        have c2b0 : decide (x4_1 < (a0.size : Int)) = true := decide_eq_true c2
        clear c2
        by_cases c3 : 0 ≤ x4_1
        · rw [if_pos c3] at H
          have c3b0 : decide (0 ≤ x4_1) = true := decide_eq_true c3
          clear c3
          by_cases c5 : (bt a0 x4_1) = 10
          · rw [if_pos c5] at H
            have c5b0 : ((bt a0 x4_1) == 10) = true := beq_iff_eq.mpr c5
            have c5b1 : ((bt a0 x4_1) != 10) = false := bne_eq_false_iff_eq.mpr c5
            clear c5
            have H' := Aside0.mk H
            clear H
            have p4 : 0 ≤ (x4_1 : Int) := of_decide_eq_true (by first | (with_reducible assumption) | assumption)
            have q4 : x4_1 < (a0.size : Int) := of_decide_eq_true (by first | (with_reducible assumption) | assumption)
            have hx4 := bt_at a0 x4_1
            replace p4 := eq_true p4
            replace q4 := eq_true q4
            go_wp2
            go_roundg k1
            case measure => have := HK1.out; omega
            case rel => exact ⟨(x3_1), (wrap64 (x4_1 + 1)), (by first | rfl | (simp; done) | (simp [*]; done)), (by first | rfl | (simp; done) | (simp [*]; done)), H', ⟨by have := HK1.out; omega⟩, by repeat (first | exact Drawn0.refl _ | apply Drawn0.step)⟩
          · rw [if_neg c5] at H
            have c5b0 : ((bt a0 x4_1) == 10) = false := beq_eq_false_iff_ne.mpr c5
            have c5b1 : ((bt a0 x4_1) != 10) = true := bne_iff_ne.mpr c5
            have H' := Aside0.mk H
            clear H
            have p4 : 0 ≤ (x4_1 : Int) := of_decide_eq_true (by first | (with_reducible assumption) | assumption)
            have q4 : x4_1 < (a0.size : Int) := of_decide_eq_true (by first | (with_reducible assumption) | assumption)
            have hx4 := bt_at a0 x4_1
            replace p4 := eq_true p4
            replace q4 := eq_true q4
            go_wp2
            go_roundg k1
            case measure => have := HK1.out; omega
            case rel => exact ⟨(wrap64 (x3_1 + 1)), (wrap64 (x4_1 + 1)), (by first | rfl | (simp; done) | (simp [*]; done)), (by first | rfl | (simp; done) | (simp [*]; done)), H', ⟨by have := HK1.out; omega⟩, by repeat (first | exact Drawn0.refl _ | apply Drawn0.step)⟩
        · rw [if_neg c3] at H
          exact absurd H (by simp)
      · rw [if_neg c2] at H
        have c2b0 : decide (x4_1 < (a0.size : Int)) = false := decide_eq_false c2
        clear c2
        obtain rfl := Option.some.inj H
        go_wp2
        go_ret
        exact ⟨by first | rfl | (simp; done) | (simp [*]; done), by repeat (first | exact Drawn0.refl _ | apply Drawn0.step)⟩

end Go.Proofs.YthbdaoapjnofkaaDoor.PFnBufferWidth
