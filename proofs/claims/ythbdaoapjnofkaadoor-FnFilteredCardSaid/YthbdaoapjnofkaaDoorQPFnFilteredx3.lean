/- Printed by a program of this seat (xprint) out of the translation: Go functions as plain functions, and the walks that show them; no condition. -/
import Derived.Test.YthbdaoapjnofkaaDoorQPFnFilteredx0
import Derived.Test.YthbdaoapjnofkaaDoorQHFilX
import Derived.Test.YthbdaoapjnofkaaDoorQHLow
namespace Go.Proofs.YthbdaoapjnofkaaDoor.PFnFiltered
open Go.RowKit Go.Proofs.YthbdaoapjnofkaaDoor.H Go.Proofs.YthbdaoapjnofkaaDoor.R Go.Proofs.YthbdaoapjnofkaaDoorW.PrintWords Go.Proofs.YthbdaoapjnofkaaDoorW.PrintLast Go.Proofs.YthbdaoapjnofkaaDoorW.PrintMore
attribute [local go_sem] max2_int min2_int max_two min_two max_three min_three max_four min_four   -- for this text's walks alone
set_option linter.unusedVariables false
set_option linter.unusedSimpArgs false
/-! ### spec_Passes: function 35 -/
mutual
def spec_Passes.j0 : Nat → Int → ByteArray → ByteArray → Option (Bool)
  | 0, _, _, _ => none
  | k + 1, x0, x1, x2 => if x0 = 1 then (if (x1.size : Int) ≥ (x2.size : Int) then (if 0 ≤ (x2.size : Int) then (if (x2.size : Int) ≤ (x1.size : Int) then (some ((x1.extract 0 ((x2.size : Int) : Int).toNat).toList == x2.toList)) else (none)) else (none)) else (some false)) else (if x0 = 2 then (if (x1.size : Int) ≥ (x2.size : Int) then (if 0 ≤ (wrap64 ((x1.size : Int) - (x2.size : Int))) then (if (wrap64 ((x1.size : Int) - (x2.size : Int))) ≤ (x1.size : Int) then (some ((x1.extract ((wrap64 ((x1.size : Int) - (x2.size : Int))) : Int).toNat x1.size).toList == x2.toList)) else (none)) else (none)) else (some false)) else (if x0 = 3 then (spec_Passes.l0 k x1 x2 0) else (spec_Passes.l1 k x1 x2 0 0)))
def spec_Passes.l0 : Nat → ByteArray → ByteArray → Int → Option (Bool)
  | 0, _, _, _ => none
  | k + 1, x1, x2, x9 => if (wrap64 (x9 + (x2.size : Int))) ≤ (x1.size : Int) then (if 0 ≤ x9 then (if x9 ≤ (wrap64 (x9 + (x2.size : Int))) then (if (x1.extract (x9 : Int).toNat ((wrap64 (x9 + (x2.size : Int))) : Int).toNat).toList = x2.toList then (some true) else (spec_Passes.l0 k x1 x2 (wrap64 (x9 + 1)))) else (none)) else (none)) else (some false)
def spec_Passes.l1 : Nat → ByteArray → ByteArray → Int → Int → Option (Bool)
  | 0, _, _, _, _ => none
  | k + 1, x1, x2, x10, x11 => if x11 < (x1.size : Int) then (spec_Passes.j3 k x1 x2 x10 x11 (decide (x10 < (x2.size : Int)))) else (spec_Passes.j3 k x1 x2 x10 x11 false)
def spec_Passes.j3 : Nat → ByteArray → ByteArray → Int → Int → Bool → Option (Bool)
  | 0, _, _, _, _, _ => none
  | k + 1, x1, x2, x10, x11, x80 => if x80 = true then (if 0 ≤ x11 then (if x11 < (x1.size : Int) then (if 0 ≤ x10 then (if x10 < (x2.size : Int) then (if (bt x1 x11) = (bt x2 x10) then (spec_Passes.l1 k x1 x2 (wrap64 (x10 + 1)) (wrap64 (x11 + 1))) else (spec_Passes.l1 k x1 x2 x10 (wrap64 (x11 + 1)))) else (none)) else (none)) else (none)) else (none)) else (some (x10 == (x2.size : Int)))
end
def spec_Passes.f (k : Nat) (a0 : Int) (a1 : ByteArray) (a2 : ByteArray) (a3 : Bool) : Option (Bool) := if a3 = true then ((spec_low.f a1).bind fun t110 => ((spec_low.f a2).bind fun t111 => (spec_Passes.j0 k a0 t110 t111))) else (spec_Passes.j0 k a0 a1 a2)
theorem spec_Passes.mono_l : ∀ k, (∀ y0 y1 y2, LeO (spec_Passes.j0 k y0 y1 y2) (spec_Passes.j0 (k + 1) y0 y1 y2)) ∧ (∀ y0 y1 y2, LeO (spec_Passes.l0 k y0 y1 y2) (spec_Passes.l0 (k + 1) y0 y1 y2)) ∧ (∀ y0 y1 y2 y3, LeO (spec_Passes.l1 k y0 y1 y2 y3) (spec_Passes.l1 (k + 1) y0 y1 y2 y3)) ∧ (∀ y0 y1 y2 y3 y4, LeO (spec_Passes.j3 k y0 y1 y2 y3 y4) (spec_Passes.j3 (k + 1) y0 y1 y2 y3 y4))
  | 0 => ⟨fun _ _ _ r h => by simp [spec_Passes.j0] at h, fun _ _ _ r h => by simp [spec_Passes.l0] at h, fun _ _ _ _ r h => by simp [spec_Passes.l1] at h, fun _ _ _ _ _ r h => by simp [spec_Passes.j3] at h⟩
  | k + 1 => by
    obtain ⟨ih0, ih1, ih2, ih3⟩ := spec_Passes.mono_l k
    refine ⟨?_, ?_, ?_, ?_⟩
    · intro y0 y1 y2
      unfold spec_Passes.j0
      repeat' first
      | (with_reducible exact ih0 _ _ _)
      | (with_reducible exact ih1 _ _ _)
      | (with_reducible exact ih2 _ _ _ _)
      | (with_reducible exact ih3 _ _ _ _ _)
      | (with_reducible exact LeO.refl _)
      | (with_reducible exact LeO.none _)
      | (with_reducible refine LeO.ite ?_ ?_)
      | (with_reducible refine LeO.bind ?_ (fun _ => ?_))
      | exact ih0 _ _ _
      | exact ih1 _ _ _
      | exact ih2 _ _ _ _
      | exact ih3 _ _ _ _ _
      | exact LeO.none _
      | refine LeO.ite ?_ ?_
      | refine LeO.bind ?_ (fun _ => ?_)
    · intro y0 y1 y2
      unfold spec_Passes.l0
      repeat' first
      | (with_reducible exact ih0 _ _ _)
      | (with_reducible exact ih1 _ _ _)
      | (with_reducible exact ih2 _ _ _ _)
      | (with_reducible exact ih3 _ _ _ _ _)
      | (with_reducible exact LeO.refl _)
      | (with_reducible exact LeO.none _)
      | (with_reducible refine LeO.ite ?_ ?_)
      | (with_reducible refine LeO.bind ?_ (fun _ => ?_))
      | exact ih0 _ _ _
      | exact ih1 _ _ _
      | exact ih2 _ _ _ _
      | exact ih3 _ _ _ _ _
      | exact LeO.none _
      | refine LeO.ite ?_ ?_
      | refine LeO.bind ?_ (fun _ => ?_)
    · intro y0 y1 y2 y3
      unfold spec_Passes.l1
      repeat' first
      | (with_reducible exact ih0 _ _ _)
      | (with_reducible exact ih1 _ _ _)
      | (with_reducible exact ih2 _ _ _ _)
      | (with_reducible exact ih3 _ _ _ _ _)
      | (with_reducible exact LeO.refl _)
      | (with_reducible exact LeO.none _)
      | (with_reducible refine LeO.ite ?_ ?_)
      | (with_reducible refine LeO.bind ?_ (fun _ => ?_))
      | exact ih0 _ _ _
      | exact ih1 _ _ _
      | exact ih2 _ _ _ _
      | exact ih3 _ _ _ _ _
      | exact LeO.none _
      | refine LeO.ite ?_ ?_
      | refine LeO.bind ?_ (fun _ => ?_)
    · intro y0 y1 y2 y3 y4
      unfold spec_Passes.j3
      repeat' first
      | (with_reducible exact ih0 _ _ _)
      | (with_reducible exact ih1 _ _ _)
      | (with_reducible exact ih2 _ _ _ _)
      | (with_reducible exact ih3 _ _ _ _ _)
      | (with_reducible exact LeO.refl _)
      | (with_reducible exact LeO.none _)
      | (with_reducible refine LeO.ite ?_ ?_)
      | (with_reducible refine LeO.bind ?_ (fun _ => ?_))
      | exact ih0 _ _ _
      | exact ih1 _ _ _
      | exact ih2 _ _ _ _
      | exact ih3 _ _ _ _ _
      | exact LeO.none _
      | refine LeO.ite ?_ ?_
      | refine LeO.bind ?_ (fun _ => ?_)
theorem spec_Passes.mono : ∀ a0 a1 a2 a3 k, LeO (spec_Passes.f k a0 a1 a2 a3) (spec_Passes.f (k + 1) a0 a1 a2 a3) := by
  intro a0 a1 a2 a3 k
  obtain ⟨ih0, ih1, ih2, ih3⟩ := spec_Passes.mono_l k
  unfold spec_Passes.f
  repeat' first
      | (with_reducible exact ih0 _ _ _)
      | (with_reducible exact ih1 _ _ _)
      | (with_reducible exact ih2 _ _ _ _)
      | (with_reducible exact ih3 _ _ _ _ _)
      | (with_reducible exact LeO.refl _)
      | (with_reducible exact LeO.none _)
      | (with_reducible refine LeO.ite ?_ ?_)
      | (with_reducible refine LeO.bind ?_ (fun _ => ?_))
      | exact ih0 _ _ _
      | exact ih1 _ _ _
      | exact ih2 _ _ _ _
      | exact ih3 _ _ _ _ _
      | exact LeO.none _
      | refine LeO.ite ?_ ?_
      | refine LeO.bind ?_ (fun _ => ?_)
set_option maxHeartbeats 8000000 in
set_option maxRecDepth 100000 in
theorem spec_Passes.calls (k : Nat) (a0 : Int) (a1 : ByteArray) (a2 : ByteArray) (a3 : Bool) (r : Bool) (w : World) (h : spec_Passes.f k a0 a1 a2 a3 = some r) :
    Calls Tryd.prog 35 #[.int .i64 a0, .string a1, .string a2, .bool a3] w fun e w' => e = .returned (.bool r) ∧ Below w.heap.size w w' := by
  have HB := Aside0.mk (Below.refl w.heap.size w)
  have H : (if a3 = true then ((spec_low.f a1).bind fun t110 => ((spec_low.f a2).bind fun t111 => (spec_Passes.j0 k a0 t110 t111))) else (spec_Passes.j0 k a0 a1 a2)) = some r := h
  clear h
  have HC5 := Aside0.mk H
  clear H
  go_enter Tryd.func35, Tryd.ntmps35
  go_upto_if 12 with (fail)
  repeat (go_quiet (fail); go_upto_if 12 with (fail))
  go_cut [1, 2] (fun v1 v2 wc => ∃ (kq : Nat) (x1_4 : ByteArray) (x2_4 : ByteArray), v1 = .string x1_4 ∧ v2 = .string x2_4 ∧ Aside0 (spec_Passes.j0 kq a0 x1_4 x2_4 = some r) ∧ Aside0 (kq ≤ k) ∧ Aside0 (Below w.heap.size w wc))
  case first =>
    have H := HC5.out
    clear HC5
    by_cases c6 : a3 = true
    · subst c6
      have H1 : ((spec_low.f a1).bind fun t110 => ((spec_low.f a2).bind fun t111 => (spec_Passes.j0 k a0 t110 t111))) = some r := by rw [if_pos rfl] at H; exact H
      clear H
      have H := H1
      clear H1
      replace H := Option.bind_eq_some_iff.mp H
      obtain ⟨t110, A70, H⟩ := H
      replace H : ((spec_low.f a2).bind fun t111 => (spec_Passes.j0 k a0 t110 t111)) = some r := H
      have A7 := Aside0.mk A70
      clear A70
      replace H := Option.bind_eq_some_iff.mp H
      obtain ⟨t111, A80, H⟩ := H
      replace H : (spec_Passes.j0 k a0 t110 t111) = some r := H
      have A8 := Aside0.mk A80
      clear A80
      have H' := Aside0.mk H
      clear H
      go_wp2_with (first | (go_at_call 64; (with_reducible refine (spec_low.calls a1 t110 _ A7.out).mono ?_); rintro e w9 ⟨rfl, hb⟩; have n0_ := Aside0.mk (below_step (by repeat (first | (with_reducible first | exact HB.out | apply below_alloc | apply pw_below_drewN | apply below_drew1) | exact HB.out)) hb); clear HB; have HB := n0_; clear n0_; (try clear hb); (try clear hb2); (try clear hk); (try clear hi)) | (go_at_call 64; (with_reducible refine (spec_low.calls a2 t111 _ A8.out).mono ?_); rintro e w10 ⟨rfl, hb⟩; have n0_ := Aside0.mk (below_step (by repeat (first | (with_reducible first | exact HB.out | apply below_alloc | apply pw_below_drewN | apply below_drew1) | exact HB.out)) hb); clear HB; have HB := n0_; clear n0_; (try clear hb); (try clear hb2); (try clear hk); (try clear hi)))
      repeat (go_quiet (first | (go_at_call 64; (with_reducible refine (spec_low.calls a1 t110 _ A7.out).mono ?_); rintro e w9 ⟨rfl, hb⟩; have n0_ := Aside0.mk (below_step (by repeat (first | (with_reducible first | exact HB.out | apply below_alloc | apply pw_below_drewN | apply below_drew1) | exact HB.out)) hb); clear HB; have HB := n0_; clear n0_; (try clear hb); (try clear hb2); (try clear hk); (try clear hi)) | (go_at_call 64; (with_reducible refine (spec_low.calls a2 t111 _ A8.out).mono ?_); rintro e w10 ⟨rfl, hb⟩; have n0_ := Aside0.mk (below_step (by repeat (first | (with_reducible first | exact HB.out | apply below_alloc | apply pw_below_drewN | apply below_drew1) | exact HB.out)) hb); clear HB; have HB := n0_; clear n0_; (try clear hb); (try clear hb2); (try clear hk); (try clear hi))); try go_wp2_with (first | (go_at_call 64; (with_reducible refine (spec_low.calls a1 t110 _ A7.out).mono ?_); rintro e w9 ⟨rfl, hb⟩; have n0_ := Aside0.mk (below_step (by repeat (first | (with_reducible first | exact HB.out | apply below_alloc | apply pw_below_drewN | apply below_drew1) | exact HB.out)) hb); clear HB; have HB := n0_; clear n0_; (try clear hb); (try clear hb2); (try clear hk); (try clear hi)) | (go_at_call 64; (with_reducible refine (spec_low.calls a2 t111 _ A8.out).mono ?_); rintro e w10 ⟨rfl, hb⟩; have n0_ := Aside0.mk (below_step (by repeat (first | (with_reducible first | exact HB.out | apply below_alloc | apply pw_below_drewN | apply below_drew1) | exact HB.out)) hb); clear HB; have HB := n0_; clear n0_; (try clear hb); (try clear hb2); (try clear hk); (try clear hi))))
      go_meet
      case rel => exact ⟨_, (t110), (t111), (by first | rfl | (simp; done) | (simp [*]; done)), (by first | rfl | (simp; done) | (simp [*]; done)), H', ⟨by first | omega | exact Nat.le_refl _⟩, ⟨by repeat (first | (with_reducible first | exact HB.out | apply below_alloc | apply pw_below_drewN | apply below_drew1) | exact HB.out)⟩⟩
    · replace c6 := Bool.eq_false_iff.mpr c6
      subst c6
      have H1 : (spec_Passes.j0 k a0 a1 a2) = some r := by rw [if_neg (show ¬ (false = true) by decide)] at H; exact H
      clear H
      have H := H1
      clear H1
      have H' := Aside0.mk H
      clear H
      go_wp2
      repeat (go_quiet (fail); try go_wp2)
      go_meet
      case rel => exact ⟨_, (a1), (a2), (by first | rfl | (simp; done) | (simp [*]; done)), (by first | rfl | (simp; done) | (simp [*]; done)), H', ⟨by first | omega | exact Nat.le_refl _⟩, ⟨by repeat (first | (with_reducible first | exact HB.out | apply below_alloc | apply pw_below_drewN | apply below_drew1) | exact HB.out)⟩⟩
  case rest =>
    clear HC5
    try clear p2
    try clear c3
    try clear c6
    obtain ⟨kq, x1_4, x2_4, rfl, rfl, HA, HJ4, HB⟩ := hcut
    cases kq with
    | zero => exact absurd HA.out (by simp [spec_Passes.j0])
    | succ kj4 =>
      have H := HA.out
      clear HA
      simp only [spec_Passes.j0] at H
      by_cases c11 : a0 = 1
      · rw [if_pos c11] at H
        have c11b0 : (a0 == 1) = true := beq_iff_eq.mpr c11
        have c11b1 : (a0 != 1) = false := bne_eq_false_iff_eq.mpr c11
        clear c11
        by_cases c12 : (x1_4.size : Int) ≥ (x2_4.size : Int)
        · rw [if_pos c12] at H
          have c12b0 : decide ((x2_4.size : Int) ≤ (x1_4.size : Int)) = true := decide_eq_true c12
          have c12b1 : decide (x2_4.size ≤ x1_4.size) = true := decide_eq_true (Int.ofNat_le.mp c12)
          clear c12
          by_cases c13 : 0 ≤ (x2_4.size : Int)
          · rw [if_pos c13] at H
            have c13b0 := eq_true c13
            have c13b1 : decide (0 ≤ (x2_4.size : Int)) = true := decide_eq_true c13
            clear c13
            by_cases c14 : (x2_4.size : Int) ≤ (x1_4.size : Int)
            · rw [if_pos c14] at H
              have c14b0 := eq_true c14
              have c14b1 : decide ((x2_4.size : Int) ≤ (x1_4.size : Int)) = true := decide_eq_true c14
              clear c14
              obtain rfl := Option.some.inj H
              go_wp2
              repeat (go_quiet (fail); try go_wp2)
              go_ret
              exact ⟨by first | rfl | (simp [errW_none, errW_some] <;> rfl) | (simp [*, errW_none, errW_some] <;> rfl), by repeat (first | (with_reducible first | exact HB.out | apply below_alloc | apply pw_below_drewN | apply below_drew1) | exact HB.out)⟩
            · rw [if_neg c14] at H
              exact absurd H (by simp)
          · rw [if_neg c13] at H
            exact absurd H (by simp)
        · rw [if_neg c12] at H
          have c12b0 : decide ((x2_4.size : Int) ≤ (x1_4.size : Int)) = false := decide_eq_false c12
          have c12b1 : decide (x2_4.size ≤ x1_4.size) = false := decide_eq_false (fun h => c12 (Int.ofNat_le.mpr h))
          clear c12
          obtain rfl := Option.some.inj H
          go_wp2
          repeat (go_quiet (fail); try go_wp2)
          go_ret
          exact ⟨by first | rfl | (simp [errW_none, errW_some] <;> rfl) | (simp [*, errW_none, errW_some] <;> rfl), by repeat (first | (with_reducible first | exact HB.out | apply below_alloc | apply pw_below_drewN | apply below_drew1) | exact HB.out)⟩
      · rw [if_neg c11] at H
        have c11b0 : (a0 == 1) = false := beq_eq_false_iff_ne.mpr c11
        have c11b1 : (a0 != 1) = true := bne_iff_ne.mpr c11
        by_cases c15 : a0 = 2
        · rw [if_pos c15] at H
          have c15b0 : (a0 == 2) = true := beq_iff_eq.mpr c15
          have c15b1 : (a0 != 2) = false := bne_eq_false_iff_eq.mpr c15
          clear c15
          by_cases c16 : (x1_4.size : Int) ≥ (x2_4.size : Int)
          · rw [if_pos c16] at H
            have c16b0 : decide ((x2_4.size : Int) ≤ (x1_4.size : Int)) = true := decide_eq_true c16
            have c16b1 : decide (x2_4.size ≤ x1_4.size) = true := decide_eq_true (Int.ofNat_le.mp c16)
            clear c16
            obtain ⟨ji17, hji17⟩ : ∃ j_ : Int, (wrap64 ((x1_4.size : Int) - (x2_4.size : Int))) = j_ := ⟨_, rfl⟩
            replace H : (if 0 ≤ (ji17) then (if (ji17) ≤ (x1_4.size : Int) then (some ((x1_4.extract ((ji17) : Int).toNat x1_4.size).toList == x2_4.toList)) else (none)) else (none)) = some r := by first | (rw [hji17] at H; exact H) | (simp only [hji17] at H ⊢; exact H)
            have hji17w : (IntKind.i64.wrap ((x1_4.size : Int) - (x2_4.size : Int))) = ji17 := (i64_w _).trans hji17
            by_cases c18 : 0 ≤ (ji17)
            · rw [if_pos c18] at H
              have c18b0 := eq_true c18
              have c18b1 : decide (0 ≤ (ji17)) = true := decide_eq_true c18
              clear c18
              by_cases c19 : (ji17) ≤ (x1_4.size : Int)
              · rw [if_pos c19] at H
                have c19b0 := eq_true c19
                have c19b1 : decide ((ji17) ≤ (x1_4.size : Int)) = true := decide_eq_true c19
                clear c19
                obtain rfl := Option.some.inj H
                go_wp2
                repeat (go_quiet (fail); try go_wp2)
                go_ret
                exact ⟨by first | rfl | (simp [errW_none, errW_some] <;> rfl) | (simp only [← hji17]; first | rfl | (simp [errW_none, errW_some] <;> rfl)) | (simp [*, errW_none, errW_some] <;> rfl), by repeat (first | (with_reducible first | exact HB.out | apply below_alloc | apply pw_below_drewN | apply below_drew1) | exact HB.out)⟩
              · rw [if_neg c19] at H
                exact absurd H (by simp)
            · rw [if_neg c18] at H
              exact absurd H (by simp)
          · rw [if_neg c16] at H
            have c16b0 : decide ((x2_4.size : Int) ≤ (x1_4.size : Int)) = false := decide_eq_false c16
            have c16b1 : decide (x2_4.size ≤ x1_4.size) = false := decide_eq_false (fun h => c16 (Int.ofNat_le.mpr h))
            clear c16
            obtain rfl := Option.some.inj H
            go_wp2
            repeat (go_quiet (fail); try go_wp2)
            go_ret
            exact ⟨by first | rfl | (simp [errW_none, errW_some] <;> rfl) | (simp [*, errW_none, errW_some] <;> rfl), by repeat (first | (with_reducible first | exact HB.out | apply below_alloc | apply pw_below_drewN | apply below_drew1) | exact HB.out)⟩
        · rw [if_neg c15] at H
          have c15b0 : (a0 == 2) = false := beq_eq_false_iff_ne.mpr c15
          have c15b1 : (a0 != 2) = true := bne_iff_ne.mpr c15
          by_cases c20 : a0 = 3
          · rw [if_pos c20] at H
            have c20b0 : (a0 == 3) = true := beq_iff_eq.mpr c20
            have c20b1 : (a0 != 3) = false := bne_eq_false_iff_eq.mpr c20
            clear c20
            have H' := Aside0.mk H
            clear H
            go_wp2
            repeat (go_quiet (fail); try go_wp2)
            go_loopg [9] kj4 (fun kq v9 w' => ∃ (x9_2 : Int), v9 = .int .i64 x9_2 ∧ Aside0 (spec_Passes.l0 kq x1_4 x2_4 x9_2 = some r) ∧ Aside0 (kq ≤ kj4) ∧ Aside0 (Below w.heap.size w w'))
            case atStart => exact ⟨(0), (by first | rfl | (simp; done) | (simp [*]; done)), H', ⟨Nat.le_refl _⟩, ⟨by repeat (first | (with_reducible first | exact HB.out | apply below_alloc | apply pw_below_drewN | apply below_drew1) | exact HB.out)⟩⟩
            case round =>
              clear H'
              try clear c1
              try clear c2
              try clear p2
              try clear c3
              try clear c6
              try clear p6
              try clear c11
              try clear c11b0
              try clear c11b1
              try clear c12
              try clear c12b0
              try clear c12b1
              try clear c13
              try clear c13b0
              try clear c13b1
              try clear c14
              try clear c14b0
              try clear c14b1
              try clear c15
              try clear c15b0
              try clear c15b1
              try clear c16
              try clear c16b0
              try clear c16b1
              try clear c18
              try clear c18b0
              try clear c18b1
              try clear c19
              try clear c19b0
              try clear c19b1
              try clear c20
              try clear c20b0
              try clear c20b1
              try clear p2
              obtain ⟨x9_2, rfl, HA, HK2, HB⟩ := hrel
              cases gk with
              | zero => exact absurd HA.out (by simp [spec_Passes.l0])
              | succ k2 =>
                have H := HA.out
                clear HA
                simp only [spec_Passes.l0] at H
                by_cases c21 : (wrap64 (x9_2 + (x2_4.size : Int))) ≤ (x1_4.size : Int)
                · rw [if_pos c21] at H
                  have c21b0 : decide ((wrap64 (x9_2 + (x2_4.size : Int))) ≤ (x1_4.size : Int)) = true := decide_eq_true c21
                  clear c21
                  by_cases c22 : 0 ≤ x9_2
                  · rw [if_pos c22] at H
                    have c22b0 := eq_true c22
                    have c22b1 : decide (0 ≤ x9_2) = true := decide_eq_true c22
                    clear c22
                    by_cases c23 : x9_2 ≤ (wrap64 (x9_2 + (x2_4.size : Int)))
                    · rw [if_pos c23] at H
                      have c23b0 := eq_true c23
                      have c23b1 : decide (x9_2 ≤ (wrap64 (x9_2 + (x2_4.size : Int)))) = true := decide_eq_true c23
                      have c24b0 := eq_true (of_decide_eq_true (by first | (with_reducible assumption) | assumption) : (wrap64 (x9_2 + (x2_4.size : Int))) ≤ (x1_4.size : Int))
                      by_cases c25 : (x1_4.extract (x9_2 : Int).toNat ((wrap64 (x9_2 + (x2_4.size : Int))) : Int).toNat).toList = x2_4.toList
                      · rw [if_pos c25] at H
                        have c25b0 : ((x1_4.extract (x9_2 : Int).toNat ((wrap64 (x9_2 + (x2_4.size : Int))) : Int).toNat).toList == x2_4.toList) = true := beq_iff_eq.mpr c25
                        have c25b1 : ((x1_4.extract (x9_2 : Int).toNat ((wrap64 (x9_2 + (x2_4.size : Int))) : Int).toNat).toList != x2_4.toList) = false := bne_eq_false_iff_eq.mpr c25
                        clear c25
                        obtain rfl := Option.some.inj H
                        go_wp2
                        repeat (go_quiet (fail); try go_wp2)
                        go_ret
                        exact ⟨by first | rfl | (simp [errW_none, errW_some] <;> rfl) | (simp [*, errW_none, errW_some] <;> rfl), by repeat (first | (with_reducible first | exact HB.out | apply below_alloc | apply pw_below_drewN | apply below_drew1) | exact HB.out)⟩
                      · rw [if_neg c25] at H
                        have c25b0 : ((x1_4.extract (x9_2 : Int).toNat ((wrap64 (x9_2 + (x2_4.size : Int))) : Int).toNat).toList == x2_4.toList) = false := beq_eq_false_iff_ne.mpr c25
                        have c25b1 : ((x1_4.extract (x9_2 : Int).toNat ((wrap64 (x9_2 + (x2_4.size : Int))) : Int).toNat).toList != x2_4.toList) = true := bne_iff_ne.mpr c25
                        have H' := Aside0.mk H
                        clear H
                        go_wp2
                        repeat (go_quiet (fail); try go_wp2)
                        go_roundg k2
                        case measure => have := HJ4.out; have := HK2.out; omega
                        case rel => exact ⟨(wrap64 (x9_2 + 1)), (by first | rfl | (simp; done) | (simp [*]; done)), H', ⟨by have := HJ4.out; have := HK2.out; omega⟩, ⟨by repeat (first | (with_reducible first | exact HB.out | apply below_alloc | apply pw_below_drewN | apply below_drew1) | exact HB.out)⟩⟩
                    · rw [if_neg c23] at H
                      exact absurd H (by simp)
                  · rw [if_neg c22] at H
                    exact absurd H (by simp)
                · rw [if_neg c21] at H
                  have c21b0 : decide ((wrap64 (x9_2 + (x2_4.size : Int))) ≤ (x1_4.size : Int)) = false := decide_eq_false c21
                  clear c21
                  obtain rfl := Option.some.inj H
                  go_wp2
                  repeat (go_quiet (fail); try go_wp2)
                  go_ret
                  exact ⟨by first | rfl | (simp [errW_none, errW_some] <;> rfl) | (simp [*, errW_none, errW_some] <;> rfl), by repeat (first | (with_reducible first | exact HB.out | apply below_alloc | apply pw_below_drewN | apply below_drew1) | exact HB.out)⟩
          · rw [if_neg c20] at H
            have c20b0 : (a0 == 3) = false := beq_eq_false_iff_ne.mpr c20
            have c20b1 : (a0 != 3) = true := bne_iff_ne.mpr c20
            have H' := Aside0.mk H
            clear H
            go_wp2
            repeat (go_quiet (fail); try go_wp2)
            go_loopg [10, 11] kj4 (fun kq v10 v11 w' => ∃ (x10_2 : Int) (x11_2 : Int), v10 = .int .i64 x10_2 ∧ v11 = .int .i64 x11_2 ∧ Aside0 (spec_Passes.l1 kq x1_4 x2_4 x10_2 x11_2 = some r) ∧ Aside0 (kq ≤ kj4) ∧ Aside0 (Below w.heap.size w w'))
            case atStart => exact ⟨(0), (0), (by first | rfl | (simp; done) | (simp [*]; done)), (by first | rfl | (simp; done) | (simp [*]; done)), H', ⟨Nat.le_refl _⟩, ⟨by repeat (first | (with_reducible first | exact HB.out | apply below_alloc | apply pw_below_drewN | apply below_drew1) | exact HB.out)⟩⟩
            case round =>
              clear H'
              try clear c1
              try clear c2
              try clear p2
              try clear c3
              try clear c6
              try clear p6
              try clear c11
              try clear c11b0
              try clear c11b1
              try clear c12
              try clear c12b0
              try clear c12b1
              try clear c13
              try clear c13b0
              try clear c13b1
              try clear c14
              try clear c14b0
              try clear c14b1
              try clear c15
              try clear c15b0
              try clear c15b1
              try clear c16
              try clear c16b0
              try clear c16b1
              try clear c18
              try clear c18b0
              try clear c18b1
              try clear c19
              try clear c19b0
              try clear c19b1
              try clear c20
              try clear c20b0
              try clear c20b1
              try clear c21
              try clear c21b0
              try clear c22
              try clear c22b0
              try clear c22b1
              try clear c23
              try clear c23b0
              try clear c23b1
              try clear c24
              try clear c24b0
              try clear c25
              try clear c25b0
              try clear c25b1
              try clear p2
              try clear p6
              obtain ⟨x10_2, x11_2, rfl, rfl, HA, HK2, HB⟩ := hrel
              cases gk with
              | zero => exact absurd HA.out (by simp [spec_Passes.l1])
              | succ k2 =>
                have H := HA.out
                clear HA
                simp only [spec_Passes.l1] at H
                have HC26 := Aside0.mk H
                clear H
                go_upto_region 17 with (fail)
                repeat (go_quiet (fail); go_upto_region 17 with (fail))
                go_cut [80] (fun v80 wc => ∃ (kq : Nat) (x80_25 : Bool), v80 = .bool x80_25 ∧ Aside0 (spec_Passes.j3 kq x1_4 x2_4 x10_2 x11_2 x80_25 = some r) ∧ Aside0 (kq ≤ k2) ∧ Aside0 (Below w.heap.size w wc))
                case first =>
                  have H := HC26.out
                  clear HC26
                  by_cases c27 : x11_2 < (x1_4.size : Int)
                  · rw [if_pos c27] at H
                    have c27b0 : decide (x11_2 < (x1_4.size : Int)) = true := decide_eq_true c27
                    clear c27
                    (first | rw [c27b0] | (simp only [i64_w, i32_w]; rw [c27b0]) | skip)
                    have H' := Aside0.mk H
                    clear H
                    go_wp2
                    repeat (go_quiet (fail); try go_wp2)
                    go_meet
                    case rel => exact ⟨_, (decide (x10_2 < (x2_4.size : Int))), (by first | rfl | (simp; done) | (simp [*]; done)), H', ⟨by have := HJ4.out; have := HK2.out; first | omega | exact Nat.le_refl _⟩, ⟨by repeat (first | (with_reducible first | exact HB.out | apply below_alloc | apply pw_below_drewN | apply below_drew1) | exact HB.out)⟩⟩
                  · rw [if_neg c27] at H
                    have c27b0 : decide (x11_2 < (x1_4.size : Int)) = false := decide_eq_false c27
                    clear c27
                    (first | rw [c27b0] | (simp only [i64_w, i32_w]; rw [c27b0]) | skip)
                    have H' := Aside0.mk H
                    clear H
                    go_wp2
                    repeat (go_quiet (fail); try go_wp2)
                    go_meet
                    case rel => exact ⟨_, (false), (by first | rfl | (simp; done) | (simp [*]; done)), H', ⟨by have := HJ4.out; have := HK2.out; first | omega | exact Nat.le_refl _⟩, ⟨by repeat (first | (with_reducible first | exact HB.out | apply below_alloc | apply pw_below_drewN | apply below_drew1) | exact HB.out)⟩⟩
                case rest =>
                  clear HC26
                  try clear c1
                  try clear c2
                  try clear p2
                  try clear c3
                  try clear c6
                  try clear p6
                  try clear c11
                  try clear c11b0
                  try clear c11b1
                  try clear c12
                  try clear c12b0
                  try clear c12b1
                  try clear c13
                  try clear c13b0
                  try clear c13b1
                  try clear c14
                  try clear c14b0
                  try clear c14b1
                  try clear c15
                  try clear c15b0
                  try clear c15b1
                  try clear c16
                  try clear c16b0
                  try clear c16b1
                  try clear c18
                  try clear c18b0
                  try clear c18b1
                  try clear c19
                  try clear c19b0
                  try clear c19b1
                  try clear c20
                  try clear c20b0
                  try clear c20b1
                  try clear c21
                  try clear c21b0
                  try clear c22
                  try clear c22b0
                  try clear c22b1
                  try clear c23
                  try clear c23b0
                  try clear c23b1
                  try clear c24
                  try clear c24b0
                  try clear c25
                  try clear c25b0
                  try clear c25b1
                  try clear c27
                  try clear c27b0
                  try clear p2
                  try clear p6
                  obtain ⟨kq, x80_25, rfl, HA, HJ25, HB⟩ := hcut
                  cases kq with
                  | zero => exact absurd HA.out (by simp [spec_Passes.j3])
                  | succ kj25 =>
                    have H := HA.out
                    clear HA
                    simp only [spec_Passes.j3] at H
                    by_cases c28 : x80_25 = true
                    · subst c28
                      have H1 : (if 0 ≤ x11_2 then (if x11_2 < (x1_4.size : Int) then (if 0 ≤ x10_2 then (if x10_2 < (x2_4.size : Int) then (if (bt x1_4 x11_2) = (bt x2_4 x10_2) then (spec_Passes.l1 kj25 x1_4 x2_4 (wrap64 (x10_2 + 1)) (wrap64 (x11_2 + 1))) else (spec_Passes.l1 kj25 x1_4 x2_4 x10_2 (wrap64 (x11_2 + 1)))) else (none)) else (none)) else (none)) else (none)) = some r := by rw [if_pos rfl] at H; exact H
                      clear H
                      have H := H1
                      clear H1
                      by_cases c29 : 0 ≤ x11_2
                      · rw [if_pos c29] at H
                        have c29b0 : decide (0 ≤ x11_2) = true := decide_eq_true c29
                        clear c29
                        by_cases c30 : x11_2 < (x1_4.size : Int)
                        · rw [if_pos c30] at H
                          have c30b0 : decide (x11_2 < (x1_4.size : Int)) = true := decide_eq_true c30
                          clear c30
                          by_cases c32 : 0 ≤ x10_2
                          · rw [if_pos c32] at H
                            have c32b0 : decide (0 ≤ x10_2) = true := decide_eq_true c32
                            clear c32
                            by_cases c33 : x10_2 < (x2_4.size : Int)
                            · rw [if_pos c33] at H
                              have c33b0 : decide (x10_2 < (x2_4.size : Int)) = true := decide_eq_true c33
                              clear c33
                              by_cases c35 : (bt x1_4 x11_2) = (bt x2_4 x10_2)
                              · rw [if_pos c35] at H
                                have c35b0 : ((bt x1_4 x11_2) == (bt x2_4 x10_2)) = true := beq_iff_eq.mpr c35
                                have c35b1 : ((bt x1_4 x11_2) != (bt x2_4 x10_2)) = false := bne_eq_false_iff_eq.mpr c35
                                clear c35
                                have H' := Aside0.mk H
                                clear H
                                have p31 : 0 ≤ (x11_2 : Int) := of_decide_eq_true (by first | (with_reducible assumption) | assumption)
                                have q31 : x11_2 < (x1_4.size : Int) := of_decide_eq_true (by first | (with_reducible assumption) | assumption)
                                have hx31 := bt_at x1_4 x11_2
                                replace p31 := eq_true p31
                                replace q31 := eq_true q31
                                have p34 : 0 ≤ (x10_2 : Int) := of_decide_eq_true (by first | (with_reducible assumption) | assumption)
                                have q34 : x10_2 < (x2_4.size : Int) := of_decide_eq_true (by first | (with_reducible assumption) | assumption)
                                have hx34 := bt_at x2_4 x10_2
                                replace p34 := eq_true p34
                                replace q34 := eq_true q34
                                go_wp2
                                repeat (go_quiet (fail); try go_wp2)
                                go_roundg kj25
                                case measure => have := HJ4.out; have := HK2.out; have := HJ25.out; omega
                                case rel => exact ⟨(wrap64 (x10_2 + 1)), (wrap64 (x11_2 + 1)), (by first | rfl | (simp; done) | (simp [*]; done)), (by first | rfl | (simp; done) | (simp [*]; done)), H', ⟨by have := HJ4.out; have := HK2.out; have := HJ25.out; omega⟩, ⟨by repeat (first | (with_reducible first | exact HB.out | apply below_alloc | apply pw_below_drewN | apply below_drew1) | exact HB.out)⟩⟩
                              · rw [if_neg c35] at H
                                have c35b0 : ((bt x1_4 x11_2) == (bt x2_4 x10_2)) = false := beq_eq_false_iff_ne.mpr c35
                                have c35b1 : ((bt x1_4 x11_2) != (bt x2_4 x10_2)) = true := bne_iff_ne.mpr c35
                                have H' := Aside0.mk H
                                clear H
                                have p31 : 0 ≤ (x11_2 : Int) := of_decide_eq_true (by first | (with_reducible assumption) | assumption)
                                have q31 : x11_2 < (x1_4.size : Int) := of_decide_eq_true (by first | (with_reducible assumption) | assumption)
                                have hx31 := bt_at x1_4 x11_2
                                replace p31 := eq_true p31
                                replace q31 := eq_true q31
                                have p34 : 0 ≤ (x10_2 : Int) := of_decide_eq_true (by first | (with_reducible assumption) | assumption)
                                have q34 : x10_2 < (x2_4.size : Int) := of_decide_eq_true (by first | (with_reducible assumption) | assumption)
                                have hx34 := bt_at x2_4 x10_2
                                replace p34 := eq_true p34
                                replace q34 := eq_true q34
                                go_wp2
                                repeat (go_quiet (fail); try go_wp2)
                                go_roundg kj25
                                case measure => have := HJ4.out; have := HK2.out; have := HJ25.out; omega
                                case rel => exact ⟨(x10_2), (wrap64 (x11_2 + 1)), (by first | rfl | (simp; done) | (simp [*]; done)), (by first | rfl | (simp; done) | (simp [*]; done)), H', ⟨by have := HJ4.out; have := HK2.out; have := HJ25.out; omega⟩, ⟨by repeat (first | (with_reducible first | exact HB.out | apply below_alloc | apply pw_below_drewN | apply below_drew1) | exact HB.out)⟩⟩
                            · rw [if_neg c33] at H
                              exact absurd H (by simp)
                          · rw [if_neg c32] at H
                            exact absurd H (by simp)
                        · rw [if_neg c30] at H
                          exact absurd H (by simp)
                      · rw [if_neg c29] at H
                        exact absurd H (by simp)
                    · replace c28 := Bool.eq_false_iff.mpr c28
                      subst c28
                      have H1 : (some (x10_2 == (x2_4.size : Int))) = some r := by rw [if_neg (show ¬ (false = true) by decide)] at H; exact H
                      clear H
                      have H := H1
                      clear H1
                      obtain rfl := Option.some.inj H
                      go_wp2
                      repeat (go_quiet (fail); try go_wp2)
                      go_ret
                      exact ⟨by first | rfl | (simp [errW_none, errW_some] <;> rfl) | (simp [*, errW_none, errW_some] <;> rfl), by repeat (first | (with_reducible first | exact HB.out | apply below_alloc | apply pw_below_drewN | apply below_drew1) | exact HB.out)⟩
end Go.Proofs.YthbdaoapjnofkaaDoor.PFnFiltered
