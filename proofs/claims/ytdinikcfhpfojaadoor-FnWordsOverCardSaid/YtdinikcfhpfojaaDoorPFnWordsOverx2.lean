/- Printed by a program of this seat (xprint) out of the translation: Go functions as plain functions, and the walks that show them; no condition. -/
import Derived.Test.YtdinikcfhpfojaaDoorPFnWordsOverx0
import Derived.Test.YtdinikcfhpfojaaDoorHAfterFnWordsOver
import Derived.Test.YtdinikcfhpfojaaDoorPFnWordsOverx1
namespace Go.Proofs.YtdinikcfhpfojaaDoor.PFnWordsOver
open Go.RowKit Go.Proofs.YtdinikcfhpfojaaDoor.H Go.Proofs.YtdinikcfhpfojaaDoor.R Go.Proofs.YtdinikcfhpfojaaDoorW.PrintWords Go.Proofs.YtdinikcfhpfojaaDoorW.PrintLast Go.Proofs.YtdinikcfhpfojaaDoorW.PrintMore
attribute [local go_sem] max2_int min2_int max_two min_two max_three min_three max_four min_four   -- for this text's walks alone
set_option linter.unusedVariables false
set_option linter.unusedSimpArgs false

/-! ### laws_FnWordsOver: function 5 -/
mutual
def laws_FnWordsOver.j0 : Nat → ByteArray → Bool → Option (Bool)
  | 0, _, _ => none
  | k + 1, x0, x27 => if x27 = true then (some true) else (laws_FnWordsOver.l0 k x0 ([] : List Int) 1)
def laws_FnWordsOver.l0 : Nat → ByteArray → List Int → Int → Option (Bool)
  | 0, _, _, _ => none
  | k + 1, x0, x4, x5 => if x5 < (x0.size : Int) then (if 0 ≤ x5 then ((spec_IsWordSign.f (wrap32 (bt x0 x5))).bind fun t102 => (if t102 = true then (if 0 ≤ (wrap64 (x5 - 1)) then (if (wrap64 (x5 - 1)) < (x0.size : Int) then ((spec_IsWordSign.f (wrap32 (bt x0 (wrap64 (x5 - 1))))).bind fun t103 => (if t103 = true then (laws_FnWordsOver.l0 k x0 x4 (wrap64 (x5 + 1))) else (if x4.length < 17592186044416 then (laws_FnWordsOver.l0 k x0 (x4 ++ [x5]) (wrap64 (x5 + 1))) else (none)))) else (none)) else (none)) else (laws_FnWordsOver.l0 k x0 x4 (wrap64 (x5 + 1))))) else (none)) else (if (x4.length : Int) > 25 then (some true) else (laws_FnWordsOver.l1 k x0 ([] : List (S29)) x4 (x4.length : Int) 0))
def laws_FnWordsOver.l1 : Nat → ByteArray → List (S29) → List Int → Int → Int → Option (Bool)
  | 0, _, _, _, _, _ => none
  | k + 1, x0, x3, x4, x56, x57 => if x57 < x56 then (if x3.length < 3518437208883 then ((some (x3 ++ [(⟨11, (⟨#[]⟩ : ByteArray), 0, false, false⟩ : S29)] : List (S29))).bind fun y107 => ((laws_after9.f x0 0 y107).bind fun bt110 => (if bt110.2.2 = true then (if 0 ≤ x57 then (if x57 < (x4.length : Int) then (if bt110.2.1 = (rd x4 x57) then (if bt110.1.toList = x0.toList then (laws_FnWordsOver.l1 k x0 y107 x4 x56 (wrap64 (x57 + 1))) else (some false)) else (some false)) else (none)) else (none)) else (some false)))) else (none)) else (if x3.length < 3518437208883 then ((laws_after9.f x0 0 (x3 ++ [(⟨11, (⟨#[]⟩ : ByteArray), 0, false, false⟩ : S29)])).bind fun bt118 => (laws_FnWordsOver.l2 k x0 x4 bt118.2.2 ([] : List (S29)) (wrap64 ((x4.length : Int) - 1)) bt118.1 bt118.2.1)) else (none))
def laws_FnWordsOver.l2 : Nat → ByteArray → List Int → Bool → List (S29) → Int → ByteArray → Int → Option (Bool)
  | 0, _, _, _, _, _, _, _ => none
  | k + 1, x0, x4, x10, x11, x12, x122000, x122001 => if x12 ≥ 0 then (if x11.length < 3518437208883 then ((some (x11 ++ [(⟨10, (⟨#[]⟩ : ByteArray), 0, false, false⟩ : S29)] : List (S29))).bind fun y122 => ((laws_after9.f x0 (x0.size : Int) y122).bind fun bt125 => (if bt125.2.2 = true then (if 0 ≤ x12 then (if x12 < (x4.length : Int) then (if bt125.2.1 = (rd x4 x12) then (laws_FnWordsOver.l2 k x0 x4 x10 y122 (wrap64 (x12 - 1)) x122000 x122001) else (some false)) else (none)) else (none)) else (some false)))) else (none)) else (if x11.length < 3518437208883 then ((laws_after9.f x0 (x0.size : Int) (x11 ++ [(⟨10, (⟨#[]⟩ : ByteArray), 0, false, false⟩ : S29)])).bind fun bt133 => (if x10 = true then (if bt133.2.2 = true then (if x122001 = (x0.size : Int) then (some (bt133.2.1 == 0)) else (some false)) else (some false)) else (some false))) else (none))
end
def laws_FnWordsOver.f (k : Nat) (a0 : ByteArray) : Option (Bool) := if (a0.size : Int) > 2147483647 then (some true) else ((laws_ascii9.f k a0).bind fun t101 => (if t101 = true then (laws_FnWordsOver.j0 k a0 (decide ((a0.size : Int) > 60))) else (laws_FnWordsOver.j0 k a0 true)))
theorem laws_FnWordsOver.mono_l : ∀ k, (∀ y0 y1, LeO (laws_FnWordsOver.j0 k y0 y1) (laws_FnWordsOver.j0 (k + 1) y0 y1)) ∧ (∀ y0 y1 y2, LeO (laws_FnWordsOver.l0 k y0 y1 y2) (laws_FnWordsOver.l0 (k + 1) y0 y1 y2)) ∧ (∀ y0 y1 y2 y3 y4, LeO (laws_FnWordsOver.l1 k y0 y1 y2 y3 y4) (laws_FnWordsOver.l1 (k + 1) y0 y1 y2 y3 y4)) ∧ (∀ y0 y1 y2 y3 y4 y5 y6, LeO (laws_FnWordsOver.l2 k y0 y1 y2 y3 y4 y5 y6) (laws_FnWordsOver.l2 (k + 1) y0 y1 y2 y3 y4 y5 y6))
  | 0 => ⟨fun _ _ r h => by simp [laws_FnWordsOver.j0] at h, fun _ _ _ r h => by simp [laws_FnWordsOver.l0] at h, fun _ _ _ _ _ r h => by simp [laws_FnWordsOver.l1] at h, fun _ _ _ _ _ _ _ r h => by simp [laws_FnWordsOver.l2] at h⟩
  | k + 1 => by
    obtain ⟨ih0, ih1, ih2, ih3⟩ := laws_FnWordsOver.mono_l k
    refine ⟨?_, ?_, ?_, ?_⟩
    · intro y0 y1
      unfold laws_FnWordsOver.j0
      repeat' first
      | (with_reducible exact ih0 _ _)
      | (with_reducible exact ih1 _ _ _)
      | (with_reducible exact ih2 _ _ _ _ _)
      | (with_reducible exact ih3 _ _ _ _ _ _ _)
      | (with_reducible exact laws_ascii9.mono _ _)
      | (with_reducible exact LeO.refl _)
      | (with_reducible exact LeO.none _)
      | (with_reducible refine LeO.ite ?_ ?_)
      | (with_reducible refine LeO.bind ?_ (fun _ => ?_))
      | exact ih0 _ _
      | exact ih1 _ _ _
      | exact ih2 _ _ _ _ _
      | exact ih3 _ _ _ _ _ _ _
      | exact laws_ascii9.mono _ _
      | exact LeO.none _
      | refine LeO.ite ?_ ?_
      | refine LeO.bind ?_ (fun _ => ?_)
    · intro y0 y1 y2
      unfold laws_FnWordsOver.l0
      repeat' first
      | (with_reducible exact ih0 _ _)
      | (with_reducible exact ih1 _ _ _)
      | (with_reducible exact ih2 _ _ _ _ _)
      | (with_reducible exact ih3 _ _ _ _ _ _ _)
      | (with_reducible exact laws_ascii9.mono _ _)
      | (with_reducible exact LeO.refl _)
      | (with_reducible exact LeO.none _)
      | (with_reducible refine LeO.ite ?_ ?_)
      | (with_reducible refine LeO.bind ?_ (fun _ => ?_))
      | exact ih0 _ _
      | exact ih1 _ _ _
      | exact ih2 _ _ _ _ _
      | exact ih3 _ _ _ _ _ _ _
      | exact laws_ascii9.mono _ _
      | exact LeO.none _
      | refine LeO.ite ?_ ?_
      | refine LeO.bind ?_ (fun _ => ?_)
    · intro y0 y1 y2 y3 y4
      unfold laws_FnWordsOver.l1
      repeat' first
      | (with_reducible exact ih0 _ _)
      | (with_reducible exact ih1 _ _ _)
      | (with_reducible exact ih2 _ _ _ _ _)
      | (with_reducible exact ih3 _ _ _ _ _ _ _)
      | (with_reducible exact laws_ascii9.mono _ _)
      | (with_reducible exact LeO.refl _)
      | (with_reducible exact LeO.none _)
      | (with_reducible refine LeO.ite ?_ ?_)
      | (with_reducible refine LeO.bind ?_ (fun _ => ?_))
      | exact ih0 _ _
      | exact ih1 _ _ _
      | exact ih2 _ _ _ _ _
      | exact ih3 _ _ _ _ _ _ _
      | exact laws_ascii9.mono _ _
      | exact LeO.none _
      | refine LeO.ite ?_ ?_
      | refine LeO.bind ?_ (fun _ => ?_)
    · intro y0 y1 y2 y3 y4 y5 y6
      unfold laws_FnWordsOver.l2
      repeat' first
      | (with_reducible exact ih0 _ _)
      | (with_reducible exact ih1 _ _ _)
      | (with_reducible exact ih2 _ _ _ _ _)
      | (with_reducible exact ih3 _ _ _ _ _ _ _)
      | (with_reducible exact laws_ascii9.mono _ _)
      | (with_reducible exact LeO.refl _)
      | (with_reducible exact LeO.none _)
      | (with_reducible refine LeO.ite ?_ ?_)
      | (with_reducible refine LeO.bind ?_ (fun _ => ?_))
      | exact ih0 _ _
      | exact ih1 _ _ _
      | exact ih2 _ _ _ _ _
      | exact ih3 _ _ _ _ _ _ _
      | exact laws_ascii9.mono _ _
      | exact LeO.none _
      | refine LeO.ite ?_ ?_
      | refine LeO.bind ?_ (fun _ => ?_)
theorem laws_FnWordsOver.mono : ∀ a0 k, LeO (laws_FnWordsOver.f k a0) (laws_FnWordsOver.f (k + 1) a0) := by
  intro a0 k
  obtain ⟨ih0, ih1, ih2, ih3⟩ := laws_FnWordsOver.mono_l k
  unfold laws_FnWordsOver.f
  repeat' first
      | (with_reducible exact ih0 _ _)
      | (with_reducible exact ih1 _ _ _)
      | (with_reducible exact ih2 _ _ _ _ _)
      | (with_reducible exact ih3 _ _ _ _ _ _ _)
      | (with_reducible exact laws_ascii9.mono _ _)
      | (with_reducible exact LeO.refl _)
      | (with_reducible exact LeO.none _)
      | (with_reducible refine LeO.ite ?_ ?_)
      | (with_reducible refine LeO.bind ?_ (fun _ => ?_))
      | exact ih0 _ _
      | exact ih1 _ _ _
      | exact ih2 _ _ _ _ _
      | exact ih3 _ _ _ _ _ _ _
      | exact laws_ascii9.mono _ _
      | exact LeO.none _
      | refine LeO.ite ?_ ?_
      | refine LeO.bind ?_ (fun _ => ?_)
set_option maxHeartbeats 8000000 in
set_option maxRecDepth 100000 in
theorem laws_FnWordsOver.calls (k : Nat) (a0 : ByteArray) (r : Bool) (hr_ : r = true) (w : World) (h : laws_FnWordsOver.f k a0 = some r) :
    Calls Tryd.prog 5 #[.string a0] w fun e w' => e = .returned (.bool r) ∧ Below w.heap.size w w' := by
  have hu29 := Tryd.underlying29
  have hu23 := Tryd.underlying23
  have HB := Aside0.mk (Below.refl w.heap.size w)
  have H : (if (a0.size : Int) > 2147483647 then (some true) else ((laws_ascii9.f k a0).bind fun t101 => (if t101 = true then (laws_FnWordsOver.j0 k a0 (decide ((a0.size : Int) > 60))) else (laws_FnWordsOver.j0 k a0 true)))) = some r := h
  clear h
  by_cases c2 : (a0.size : Int) > 2147483647
  · rw [if_pos c2] at H
    have c2b0 : decide (2147483647 < (a0.size : Int)) = true := decide_eq_true c2
    have c2b1 : decide (2147483647 < a0.size) = true := decide_eq_true (by omega)
    clear c2
    obtain rfl := Option.some.inj H
    go_enter Tryd.func5, Tryd.ntmps5
    go_wp2
    repeat (go_quiet (fail); try go_wp2)
    go_ret
    exact ⟨by first | rfl | (simp [errW_none, errW_some] <;> rfl) | (simp [*, errW_none, errW_some] <;> rfl), by repeat (first | (with_reducible first | exact HB.out | apply below_alloc | apply pw_below_drewN | apply below_drew1) | exact HB.out)⟩
  · rw [if_neg c2] at H
    have c2b0 : decide (2147483647 < (a0.size : Int)) = false := decide_eq_false c2
    have c2b1 : decide (2147483647 < a0.size) = false := decide_eq_false (by omega)
    clear c2
    have HC3 := Aside0.mk H
    clear H
    go_enter Tryd.func5, Tryd.ntmps5
    go_upto_region 3 with (fail)
    repeat (go_quiet (fail); go_upto_region 3 with (fail))
    go_cut [27] (fun v27 wc => ∃ (kq : Nat) (x27_2 : Bool), v27 = .bool x27_2 ∧ Aside0 (laws_FnWordsOver.j0 kq a0 x27_2 = some r) ∧ Aside0 (kq ≤ k) ∧ Aside0 (Below w.heap.size w wc))
    case first =>
      have H := HC3.out
      clear HC3
      replace H := Option.bind_eq_some_iff.mp H
      obtain ⟨t101, A40, H⟩ := H
      replace H : (if t101 = true then (laws_FnWordsOver.j0 k a0 (decide ((a0.size : Int) > 60))) else (laws_FnWordsOver.j0 k a0 true)) = some r := H
      have A4 := Aside0.mk A40
      clear A40
      by_cases c5 : t101 = true
      · subst c5
        have H1 : (laws_FnWordsOver.j0 k a0 (decide ((a0.size : Int) > 60))) = some r := by rw [if_pos rfl] at H; exact H
        clear H
        have H := H1
        clear H1
        have H' := Aside0.mk H
        clear H
        go_wp2_with (first | (go_at_call 16; (with_reducible refine (laws_ascii9.calls k a0 true _ A4.out).mono ?_); rintro e w' ⟨rfl, ⟨nd, rfl⟩⟩; (try first | exact ⟨rfl, _, World.drewN_drewN _ _ _⟩ | exact ⟨rfl, _, Eq.trans (World.drewN_drewN _ _ _) (congrArg (World.drewN _) (Nat.add_assoc _ _ _))⟩)))
        repeat (go_quiet (first | (go_at_call 16; (with_reducible refine (laws_ascii9.calls k a0 true _ A4.out).mono ?_); rintro e w' ⟨rfl, ⟨nd, rfl⟩⟩; (try first | exact ⟨rfl, _, World.drewN_drewN _ _ _⟩ | exact ⟨rfl, _, Eq.trans (World.drewN_drewN _ _ _) (congrArg (World.drewN _) (Nat.add_assoc _ _ _))⟩))); try go_wp2_with (first | (go_at_call 16; (with_reducible refine (laws_ascii9.calls k a0 true _ A4.out).mono ?_); rintro e w' ⟨rfl, ⟨nd, rfl⟩⟩; (try first | exact ⟨rfl, _, World.drewN_drewN _ _ _⟩ | exact ⟨rfl, _, Eq.trans (World.drewN_drewN _ _ _) (congrArg (World.drewN _) (Nat.add_assoc _ _ _))⟩))))
        go_meet
        case rel => exact ⟨_, (decide ((a0.size : Int) > 60)), (by first | rfl | (simp; done) | (simp [*]; done)), H', ⟨by first | omega | exact Nat.le_refl _⟩, ⟨by repeat (first | (with_reducible first | exact HB.out | apply below_alloc | apply pw_below_drewN | apply below_drew1) | exact HB.out)⟩⟩
      · replace c5 := Bool.eq_false_iff.mpr c5
        subst c5
        have H1 : (laws_FnWordsOver.j0 k a0 true) = some r := by rw [if_neg (show ¬ (false = true) by decide)] at H; exact H
        clear H
        have H := H1
        clear H1
        have H' := Aside0.mk H
        clear H
        go_wp2_with (first | (go_at_call 16; (with_reducible refine (laws_ascii9.calls k a0 false _ A4.out).mono ?_); rintro e w' ⟨rfl, ⟨nd, rfl⟩⟩; (try first | exact ⟨rfl, _, World.drewN_drewN _ _ _⟩ | exact ⟨rfl, _, Eq.trans (World.drewN_drewN _ _ _) (congrArg (World.drewN _) (Nat.add_assoc _ _ _))⟩)))
        repeat (go_quiet (first | (go_at_call 16; (with_reducible refine (laws_ascii9.calls k a0 false _ A4.out).mono ?_); rintro e w' ⟨rfl, ⟨nd, rfl⟩⟩; (try first | exact ⟨rfl, _, World.drewN_drewN _ _ _⟩ | exact ⟨rfl, _, Eq.trans (World.drewN_drewN _ _ _) (congrArg (World.drewN _) (Nat.add_assoc _ _ _))⟩))); try go_wp2_with (first | (go_at_call 16; (with_reducible refine (laws_ascii9.calls k a0 false _ A4.out).mono ?_); rintro e w' ⟨rfl, ⟨nd, rfl⟩⟩; (try first | exact ⟨rfl, _, World.drewN_drewN _ _ _⟩ | exact ⟨rfl, _, Eq.trans (World.drewN_drewN _ _ _) (congrArg (World.drewN _) (Nat.add_assoc _ _ _))⟩))))
        go_meet
        case rel => exact ⟨_, (true), (by first | rfl | (simp; done) | (simp [*]; done)), H', ⟨by first | omega | exact Nat.le_refl _⟩, ⟨by repeat (first | (with_reducible first | exact HB.out | apply below_alloc | apply pw_below_drewN | apply below_drew1) | exact HB.out)⟩⟩
    case rest =>
      clear HC3
      try clear c2
      try clear c2b0
      try clear c2b1
      try clear p2
      try clear c5
      obtain ⟨kq, x27_2, rfl, HA, HJ2, HB⟩ := hcut
      cases kq with
      | zero => exact absurd HA.out (by simp [laws_FnWordsOver.j0])
      | succ kj2 =>
        have H := HA.out
        clear HA
        simp only [laws_FnWordsOver.j0] at H
        by_cases c6 : x27_2 = true
        · subst c6
          have H1 : (some true) = some r := by rw [if_pos rfl] at H; exact H
          clear H
          have H := H1
          clear H1
          obtain rfl := Option.some.inj H
          go_wp2
          repeat (go_quiet (fail); try go_wp2)
          go_ret
          exact ⟨by first | rfl | (simp [errW_none, errW_some] <;> rfl) | (simp [*, errW_none, errW_some] <;> rfl), by repeat (first | (with_reducible first | exact HB.out | apply below_alloc | apply pw_below_drewN | apply below_drew1) | exact HB.out)⟩
        · replace c6 := Bool.eq_false_iff.mpr c6
          subst c6
          have H1 : (laws_FnWordsOver.l0 kj2 a0 ([] : List Int) 1) = some r := by rw [if_neg (show ¬ (false = true) by decide)] at H; exact H
          clear H
          have H := H1
          clear H1
          have H' := Aside0.mk H
          clear H
          go_wp2
          repeat (go_quiet (fail); try go_wp2)
          go_loopg [4, 5] kj2 (fun kq v4 v5 w' => ∃ (x4_2 : List Int) (x5_2 : Int), v5 = .int .i64 x5_2 ∧ Aside0 (laws_FnWordsOver.l0 kq a0 x4_2 x5_2 = some r) ∧ Aside0 (kq ≤ kj2) ∧ Aside0 (Kd.R (Kd.int .i64) 3 w' w.heap.size (fun _ => True) v4 x4_2) ∧ Aside0 (Below w.heap.size w w'))
          case atStart => exact ⟨(([] : List Int)), (1), (by first | rfl | (simp; done) | (simp [*]; done)), H', ⟨Nat.le_refl _⟩, ⟨by first | exact Kd.R_nil _ _ _ _ _ | exact Kd.N_nil _ _ _ _ _ | exact Kd.V_nil _ _ _ _ _ | exact Kd.Q_nil _ _ _ _ _ | exact Kd.S_nil _ _ _ _ _⟩, ⟨by repeat (first | (with_reducible first | exact HB.out | apply below_alloc | apply pw_below_drewN | apply below_drew1) | exact HB.out)⟩⟩
          case round =>
            clear H'
            try clear c2
            try clear c2b0
            try clear c2b1
            try clear p2
            try clear c5
            try clear c6
            try clear p2
            obtain ⟨x4_2, x5_2, rfl, HA, HK2, HO_4, HB⟩ := hrel
            cases gk with
            | zero => exact absurd HA.out (by simp [laws_FnWordsOver.l0])
            | succ k2 =>
              have H := HA.out
              clear HA
              simp only [laws_FnWordsOver.l0] at H
              by_cases c7 : x5_2 < (a0.size : Int)
              · rw [if_pos c7] at H
                have c7b0 : decide (x5_2 < (a0.size : Int)) = true := decide_eq_true c7
                clear c7
                by_cases c8 : 0 ≤ x5_2
                · rw [if_pos c8] at H
                  have c8b0 : decide (0 ≤ x5_2) = true := decide_eq_true c8
                  clear c8
                  replace H := Option.bind_eq_some_iff.mp H
                  obtain ⟨t102, A100, H⟩ := H
                  replace H : (if t102 = true then (if 0 ≤ (wrap64 (x5_2 - 1)) then (if (wrap64 (x5_2 - 1)) < (a0.size : Int) then ((spec_IsWordSign.f (wrap32 (bt a0 (wrap64 (x5_2 - 1))))).bind fun t103 => (if t103 = true then (laws_FnWordsOver.l0 k2 a0 x4_2 (wrap64 (x5_2 + 1))) else (if x4_2.length < 17592186044416 then (laws_FnWordsOver.l0 k2 a0 (x4_2 ++ [x5_2]) (wrap64 (x5_2 + 1))) else (none)))) else (none)) else (none)) else (laws_FnWordsOver.l0 k2 a0 x4_2 (wrap64 (x5_2 + 1)))) = some r := H
                  have A10 := Aside0.mk A100
                  clear A100
                  by_cases c11 : t102 = true
                  · subst c11
                    have H1 : (if 0 ≤ (wrap64 (x5_2 - 1)) then (if (wrap64 (x5_2 - 1)) < (a0.size : Int) then ((spec_IsWordSign.f (wrap32 (bt a0 (wrap64 (x5_2 - 1))))).bind fun t103 => (if t103 = true then (laws_FnWordsOver.l0 k2 a0 x4_2 (wrap64 (x5_2 + 1))) else (if x4_2.length < 17592186044416 then (laws_FnWordsOver.l0 k2 a0 (x4_2 ++ [x5_2]) (wrap64 (x5_2 + 1))) else (none)))) else (none)) else (none)) = some r := by rw [if_pos rfl] at H; exact H
                    clear H
                    have H := H1
                    clear H1
                    obtain ⟨ji12, hji12⟩ : ∃ j_ : Int, (wrap64 (x5_2 - 1)) = j_ := ⟨_, rfl⟩
                    replace H : (if 0 ≤ (ji12) then (if (ji12) < (a0.size : Int) then ((spec_IsWordSign.f (wrap32 (bt a0 (ji12)))).bind fun t103 => (if t103 = true then (laws_FnWordsOver.l0 k2 a0 x4_2 (wrap64 (x5_2 + 1))) else (if x4_2.length < 17592186044416 then (laws_FnWordsOver.l0 k2 a0 (x4_2 ++ [x5_2]) (wrap64 (x5_2 + 1))) else (none)))) else (none)) else (none)) = some r := by first | (rw [hji12] at H; exact H) | (simp only [hji12] at H ⊢; exact H)
                    (try rw [hji12] at A10)
                    have hji12w : (IntKind.i64.wrap (x5_2 - 1)) = ji12 := (i64_w _).trans hji12
                    by_cases c13 : 0 ≤ (ji12)
                    · rw [if_pos c13] at H
                      have c13b0 : decide (0 ≤ (ji12)) = true := decide_eq_true c13
                      clear c13
                      by_cases c14 : (ji12) < (a0.size : Int)
                      · rw [if_pos c14] at H
                        have c14b0 : decide ((ji12) < (a0.size : Int)) = true := decide_eq_true c14
                        clear c14
                        replace H := Option.bind_eq_some_iff.mp H
                        obtain ⟨t103, A160, H⟩ := H
                        replace H : (if t103 = true then (laws_FnWordsOver.l0 k2 a0 x4_2 (wrap64 (x5_2 + 1))) else (if x4_2.length < 17592186044416 then (laws_FnWordsOver.l0 k2 a0 (x4_2 ++ [x5_2]) (wrap64 (x5_2 + 1))) else (none))) = some r := H
                        have A16 := Aside0.mk A160
                        clear A160
                        by_cases c17 : t103 = true
                        · subst c17
                          have H1 : (laws_FnWordsOver.l0 k2 a0 x4_2 (wrap64 (x5_2 + 1))) = some r := by rw [if_pos rfl] at H; exact H
                          clear H
                          have H := H1
                          clear H1
                          have H' := Aside0.mk H
                          clear H
                          have p9 : 0 ≤ (x5_2 : Int) := of_decide_eq_true (by first | (with_reducible assumption) | assumption)
                          have q9 : x5_2 < (a0.size : Int) := of_decide_eq_true (by first | (with_reducible assumption) | assumption)
                          have hx9 := bt_at a0 x5_2
                          replace p9 := eq_true p9
                          replace q9 := eq_true q9
                          go_wp2_with (first | (go_at_call 17; (with_reducible refine (spec_IsWordSign.calls (wrap32 (bt a0 x5_2)) true _ A10.out).mono ?_); rintro e w' ⟨rfl, ⟨nd, rfl⟩⟩; (try first | exact ⟨rfl, _, World.drewN_drewN _ _ _⟩ | exact ⟨rfl, _, Eq.trans (World.drewN_drewN _ _ _) (congrArg (World.drewN _) (Nat.add_assoc _ _ _))⟩); have p15 : 0 ≤ ((ji12) : Int) := of_decide_eq_true (by first | (with_reducible assumption) | assumption); have q15 : (ji12) < (a0.size : Int) := of_decide_eq_true (by first | (with_reducible assumption) | assumption); have hx15 := bt_at a0 (ji12); replace p15 := eq_true p15; replace q15 := eq_true q15) | (go_at_call 17; (with_reducible refine (spec_IsWordSign.calls (wrap32 (bt a0 (ji12))) true _ A16.out).mono ?_); rintro e w' ⟨rfl, ⟨nd, rfl⟩⟩; (try first | exact ⟨rfl, _, World.drewN_drewN _ _ _⟩ | exact ⟨rfl, _, Eq.trans (World.drewN_drewN _ _ _) (congrArg (World.drewN _) (Nat.add_assoc _ _ _))⟩)))
                          repeat (go_quiet (first | (go_at_call 17; (with_reducible refine (spec_IsWordSign.calls (wrap32 (bt a0 x5_2)) true _ A10.out).mono ?_); rintro e w' ⟨rfl, ⟨nd, rfl⟩⟩; (try first | exact ⟨rfl, _, World.drewN_drewN _ _ _⟩ | exact ⟨rfl, _, Eq.trans (World.drewN_drewN _ _ _) (congrArg (World.drewN _) (Nat.add_assoc _ _ _))⟩); have p15 : 0 ≤ ((ji12) : Int) := of_decide_eq_true (by first | (with_reducible assumption) | assumption); have q15 : (ji12) < (a0.size : Int) := of_decide_eq_true (by first | (with_reducible assumption) | assumption); have hx15 := bt_at a0 (ji12); replace p15 := eq_true p15; replace q15 := eq_true q15) | (go_at_call 17; (with_reducible refine (spec_IsWordSign.calls (wrap32 (bt a0 (ji12))) true _ A16.out).mono ?_); rintro e w' ⟨rfl, ⟨nd, rfl⟩⟩; (try first | exact ⟨rfl, _, World.drewN_drewN _ _ _⟩ | exact ⟨rfl, _, Eq.trans (World.drewN_drewN _ _ _) (congrArg (World.drewN _) (Nat.add_assoc _ _ _))⟩))); try go_wp2_with (first | (go_at_call 17; (with_reducible refine (spec_IsWordSign.calls (wrap32 (bt a0 x5_2)) true _ A10.out).mono ?_); rintro e w' ⟨rfl, ⟨nd, rfl⟩⟩; (try first | exact ⟨rfl, _, World.drewN_drewN _ _ _⟩ | exact ⟨rfl, _, Eq.trans (World.drewN_drewN _ _ _) (congrArg (World.drewN _) (Nat.add_assoc _ _ _))⟩); have p15 : 0 ≤ ((ji12) : Int) := of_decide_eq_true (by first | (with_reducible assumption) | assumption); have q15 : (ji12) < (a0.size : Int) := of_decide_eq_true (by first | (with_reducible assumption) | assumption); have hx15 := bt_at a0 (ji12); replace p15 := eq_true p15; replace q15 := eq_true q15) | (go_at_call 17; (with_reducible refine (spec_IsWordSign.calls (wrap32 (bt a0 (ji12))) true _ A16.out).mono ?_); rintro e w' ⟨rfl, ⟨nd, rfl⟩⟩; (try first | exact ⟨rfl, _, World.drewN_drewN _ _ _⟩ | exact ⟨rfl, _, Eq.trans (World.drewN_drewN _ _ _) (congrArg (World.drewN _) (Nat.add_assoc _ _ _))⟩))))
                          go_roundg k2
                          case measure => have := HJ2.out; have := HK2.out; omega
                          case rel => exact ⟨(x4_2), (wrap64 (x5_2 + 1)), (by first | rfl | (simp; done) | (simp [*]; done)), H', ⟨by have := HJ2.out; have := HK2.out; omega⟩, ⟨by (with_reducible repeat (first | apply Kd.R_alloc | apply Kd.R_drewN | apply Kd.R_drew)); exact HO_4.out⟩, ⟨by repeat (first | (with_reducible first | exact HB.out | apply below_alloc | apply pw_below_drewN | apply below_drew1) | exact HB.out)⟩⟩
                        · replace c17 := Bool.eq_false_iff.mpr c17
                          subst c17
                          have H1 : (if x4_2.length < 17592186044416 then (laws_FnWordsOver.l0 k2 a0 (x4_2 ++ [x5_2]) (wrap64 (x5_2 + 1))) else (none)) = some r := by rw [if_neg (show ¬ (false = true) by decide)] at H; exact H
                          clear H
                          have H := H1
                          clear H1
                          by_cases c18 : x4_2.length < 17592186044416
                          · rw [if_pos c18] at H
                            have LMc18 := Aside0.mk c18
                            clear c18
                            obtain ⟨y104, hy104⟩ : ∃ y_ : List Int, y_ = (x4_2 ++ [x5_2]) := ⟨_, rfl⟩
                            replace H : (laws_FnWordsOver.l0 k2 a0 y104 (wrap64 (x5_2 + 1))) = some r := by first | (rw [hy104]; with_reducible exact H) | (have H2_ := (Option.bind_some _ _).symm.trans H; rw [hy104]; with_reducible exact H2_) | (have H2_ := (Option.bind_some _ _).symm.trans H; with_reducible exact H2_) | with_reducible exact H | (rw [hy104]; exact H) | exact H
                            have Ny104 := Aside0.mk hy104
                            clear hy104
                            have H' := Aside0.mk H
                            clear H
                            have p9 : 0 ≤ (x5_2 : Int) := of_decide_eq_true (by first | (with_reducible assumption) | assumption)
                            have q9 : x5_2 < (a0.size : Int) := of_decide_eq_true (by first | (with_reducible assumption) | assumption)
                            have hx9 := bt_at a0 x5_2
                            replace p9 := eq_true p9
                            replace q9 := eq_true q9
                            go_wp2_with (first | (go_at_call 17; (with_reducible refine (spec_IsWordSign.calls (wrap32 (bt a0 x5_2)) true _ A10.out).mono ?_); rintro e w' ⟨rfl, ⟨nd, rfl⟩⟩; (try first | exact ⟨rfl, _, World.drewN_drewN _ _ _⟩ | exact ⟨rfl, _, Eq.trans (World.drewN_drewN _ _ _) (congrArg (World.drewN _) (Nat.add_assoc _ _ _))⟩); have p15 : 0 ≤ ((ji12) : Int) := of_decide_eq_true (by first | (with_reducible assumption) | assumption); have q15 : (ji12) < (a0.size : Int) := of_decide_eq_true (by first | (with_reducible assumption) | assumption); have hx15 := bt_at a0 (ji12); replace p15 := eq_true p15; replace q15 := eq_true q15) | (go_at_call 17; (with_reducible refine (spec_IsWordSign.calls (wrap32 (bt a0 (ji12))) false _ A16.out).mono ?_); rintro e w' ⟨rfl, ⟨nd, rfl⟩⟩; (try first | exact ⟨rfl, _, World.drewN_drewN _ _ _⟩ | exact ⟨rfl, _, Eq.trans (World.drewN_drewN _ _ _) (congrArg (World.drewN _) (Nat.add_assoc _ _ _))⟩)) | ((with_reducible refine gate_builtin (b := .append) (xs := #[.tmp 48, .tmp 50]) rfl ?_); (try (refine gate_guard (by rfl) ?_; dsimp only)); at_builtin; refine Kd.R_append (Kd.int .i64) (w0 := w) w.heap.size rfl (.tmp 48) (.tmp 50) 27 3 (.int .i64 0) 8 rfl Tryd.underlying27 info3 rfl (by decide) (by omega) u4 x4_2 x5_2 [.int .i64 x5_2] (fun _ => True) (fun _ => False) rfl rfl ?aP (fun _ hk => hk.elim) ?aF ?aO ?aB ?aS ?aL ?_; (case aP => exact rfl); (case aB => exact (by repeat (first | (with_reducible first | exact HB.out | apply below_alloc | apply pw_below_drewN | apply below_drew1) | exact HB.out))); (case aF => exact (fun _ _ => trivial)); (case aO => exact (by (with_reducible repeat (first | apply Kd.R_alloc | apply Kd.R_drewN | apply Kd.R_drew)); exact HO_4.out)); (case aS => exact (below_size (by repeat (first | (with_reducible first | exact HB.out | apply below_alloc | apply pw_below_drewN | apply below_drew1) | exact HB.out)))); (case aL => have := LMc18.out; omega); intro v105 w19 ho hb hg hat; rw [← Ny104.out] at ho; have n0_ := Aside0.mk (hb); have n1_ := Aside0.mk (ho); clear HB; clear HO_4; have HB := n0_; have HO106 := n1_; clear n0_ n1_; clear ho hb hg hat))
                            repeat (go_quiet (first | (go_at_call 17; (with_reducible refine (spec_IsWordSign.calls (wrap32 (bt a0 x5_2)) true _ A10.out).mono ?_); rintro e w' ⟨rfl, ⟨nd, rfl⟩⟩; (try first | exact ⟨rfl, _, World.drewN_drewN _ _ _⟩ | exact ⟨rfl, _, Eq.trans (World.drewN_drewN _ _ _) (congrArg (World.drewN _) (Nat.add_assoc _ _ _))⟩); have p15 : 0 ≤ ((ji12) : Int) := of_decide_eq_true (by first | (with_reducible assumption) | assumption); have q15 : (ji12) < (a0.size : Int) := of_decide_eq_true (by first | (with_reducible assumption) | assumption); have hx15 := bt_at a0 (ji12); replace p15 := eq_true p15; replace q15 := eq_true q15) | (go_at_call 17; (with_reducible refine (spec_IsWordSign.calls (wrap32 (bt a0 (ji12))) false _ A16.out).mono ?_); rintro e w' ⟨rfl, ⟨nd, rfl⟩⟩; (try first | exact ⟨rfl, _, World.drewN_drewN _ _ _⟩ | exact ⟨rfl, _, Eq.trans (World.drewN_drewN _ _ _) (congrArg (World.drewN _) (Nat.add_assoc _ _ _))⟩)) | ((with_reducible refine gate_builtin (b := .append) (xs := #[.tmp 48, .tmp 50]) rfl ?_); (try (refine gate_guard (by rfl) ?_; dsimp only)); at_builtin; refine Kd.R_append (Kd.int .i64) (w0 := w) w.heap.size rfl (.tmp 48) (.tmp 50) 27 3 (.int .i64 0) 8 rfl Tryd.underlying27 info3 rfl (by decide) (by omega) u4 x4_2 x5_2 [.int .i64 x5_2] (fun _ => True) (fun _ => False) rfl rfl ?aP (fun _ hk => hk.elim) ?aF ?aO ?aB ?aS ?aL ?_; (case aP => exact rfl); (case aB => exact (by repeat (first | (with_reducible first | exact HB.out | apply below_alloc | apply pw_below_drewN | apply below_drew1) | exact HB.out))); (case aF => exact (fun _ _ => trivial)); (case aO => exact (by (with_reducible repeat (first | apply Kd.R_alloc | apply Kd.R_drewN | apply Kd.R_drew)); exact HO_4.out)); (case aS => exact (below_size (by repeat (first | (with_reducible first | exact HB.out | apply below_alloc | apply pw_below_drewN | apply below_drew1) | exact HB.out)))); (case aL => have := LMc18.out; omega); intro v105 w19 ho hb hg hat; rw [← Ny104.out] at ho; have n0_ := Aside0.mk (hb); have n1_ := Aside0.mk (ho); clear HB; clear HO_4; have HB := n0_; have HO106 := n1_; clear n0_ n1_; clear ho hb hg hat)); try go_wp2_with (first | (go_at_call 17; (with_reducible refine (spec_IsWordSign.calls (wrap32 (bt a0 x5_2)) true _ A10.out).mono ?_); rintro e w' ⟨rfl, ⟨nd, rfl⟩⟩; (try first | exact ⟨rfl, _, World.drewN_drewN _ _ _⟩ | exact ⟨rfl, _, Eq.trans (World.drewN_drewN _ _ _) (congrArg (World.drewN _) (Nat.add_assoc _ _ _))⟩); have p15 : 0 ≤ ((ji12) : Int) := of_decide_eq_true (by first | (with_reducible assumption) | assumption); have q15 : (ji12) < (a0.size : Int) := of_decide_eq_true (by first | (with_reducible assumption) | assumption); have hx15 := bt_at a0 (ji12); replace p15 := eq_true p15; replace q15 := eq_true q15) | (go_at_call 17; (with_reducible refine (spec_IsWordSign.calls (wrap32 (bt a0 (ji12))) false _ A16.out).mono ?_); rintro e w' ⟨rfl, ⟨nd, rfl⟩⟩; (try first | exact ⟨rfl, _, World.drewN_drewN _ _ _⟩ | exact ⟨rfl, _, Eq.trans (World.drewN_drewN _ _ _) (congrArg (World.drewN _) (Nat.add_assoc _ _ _))⟩)) | ((with_reducible refine gate_builtin (b := .append) (xs := #[.tmp 48, .tmp 50]) rfl ?_); (try (refine gate_guard (by rfl) ?_; dsimp only)); at_builtin; refine Kd.R_append (Kd.int .i64) (w0 := w) w.heap.size rfl (.tmp 48) (.tmp 50) 27 3 (.int .i64 0) 8 rfl Tryd.underlying27 info3 rfl (by decide) (by omega) u4 x4_2 x5_2 [.int .i64 x5_2] (fun _ => True) (fun _ => False) rfl rfl ?aP (fun _ hk => hk.elim) ?aF ?aO ?aB ?aS ?aL ?_; (case aP => exact rfl); (case aB => exact (by repeat (first | (with_reducible first | exact HB.out | apply below_alloc | apply pw_below_drewN | apply below_drew1) | exact HB.out))); (case aF => exact (fun _ _ => trivial)); (case aO => exact (by (with_reducible repeat (first | apply Kd.R_alloc | apply Kd.R_drewN | apply Kd.R_drew)); exact HO_4.out)); (case aS => exact (below_size (by repeat (first | (with_reducible first | exact HB.out | apply below_alloc | apply pw_below_drewN | apply below_drew1) | exact HB.out)))); (case aL => have := LMc18.out; omega); intro v105 w19 ho hb hg hat; rw [← Ny104.out] at ho; have n0_ := Aside0.mk (hb); have n1_ := Aside0.mk (ho); clear HB; clear HO_4; have HB := n0_; have HO106 := n1_; clear n0_ n1_; clear ho hb hg hat)))
                            go_roundg k2
                            case measure => have := HJ2.out; have := HK2.out; omega
                            case rel => exact ⟨(y104), (wrap64 (x5_2 + 1)), (by first | rfl | (simp; done) | (simp [*]; done)), H', ⟨by have := HJ2.out; have := HK2.out; omega⟩, ⟨by (with_reducible repeat (first | apply Kd.R_alloc | apply Kd.R_drewN | apply Kd.R_drew)); exact HO106.out⟩, ⟨by repeat (first | (with_reducible first | exact HB.out | apply below_alloc | apply pw_below_drewN | apply below_drew1) | exact HB.out)⟩⟩
                          · rw [if_neg c18] at H
                            exact absurd H (by simp)
                      · rw [if_neg c14] at H
                        exact absurd H (by simp)
                    · rw [if_neg c13] at H
                      exact absurd H (by simp)
                  · replace c11 := Bool.eq_false_iff.mpr c11
                    subst c11
                    have H1 : (laws_FnWordsOver.l0 k2 a0 x4_2 (wrap64 (x5_2 + 1))) = some r := by rw [if_neg (show ¬ (false = true) by decide)] at H; exact H
                    clear H
                    have H := H1
                    clear H1
                    have H' := Aside0.mk H
                    clear H
                    have p9 : 0 ≤ (x5_2 : Int) := of_decide_eq_true (by first | (with_reducible assumption) | assumption)
                    have q9 : x5_2 < (a0.size : Int) := of_decide_eq_true (by first | (with_reducible assumption) | assumption)
                    have hx9 := bt_at a0 x5_2
                    replace p9 := eq_true p9
                    replace q9 := eq_true q9
                    go_wp2_with (first | (go_at_call 17; (with_reducible refine (spec_IsWordSign.calls (wrap32 (bt a0 x5_2)) false _ A10.out).mono ?_); rintro e w' ⟨rfl, ⟨nd, rfl⟩⟩; (try first | exact ⟨rfl, _, World.drewN_drewN _ _ _⟩ | exact ⟨rfl, _, Eq.trans (World.drewN_drewN _ _ _) (congrArg (World.drewN _) (Nat.add_assoc _ _ _))⟩)))
                    repeat (go_quiet (first | (go_at_call 17; (with_reducible refine (spec_IsWordSign.calls (wrap32 (bt a0 x5_2)) false _ A10.out).mono ?_); rintro e w' ⟨rfl, ⟨nd, rfl⟩⟩; (try first | exact ⟨rfl, _, World.drewN_drewN _ _ _⟩ | exact ⟨rfl, _, Eq.trans (World.drewN_drewN _ _ _) (congrArg (World.drewN _) (Nat.add_assoc _ _ _))⟩))); try go_wp2_with (first | (go_at_call 17; (with_reducible refine (spec_IsWordSign.calls (wrap32 (bt a0 x5_2)) false _ A10.out).mono ?_); rintro e w' ⟨rfl, ⟨nd, rfl⟩⟩; (try first | exact ⟨rfl, _, World.drewN_drewN _ _ _⟩ | exact ⟨rfl, _, Eq.trans (World.drewN_drewN _ _ _) (congrArg (World.drewN _) (Nat.add_assoc _ _ _))⟩))))
                    go_roundg k2
                    case measure => have := HJ2.out; have := HK2.out; omega
                    case rel => exact ⟨(x4_2), (wrap64 (x5_2 + 1)), (by first | rfl | (simp; done) | (simp [*]; done)), H', ⟨by have := HJ2.out; have := HK2.out; omega⟩, ⟨by (with_reducible repeat (first | apply Kd.R_alloc | apply Kd.R_drewN | apply Kd.R_drew)); exact HO_4.out⟩, ⟨by repeat (first | (with_reducible first | exact HB.out | apply below_alloc | apply pw_below_drewN | apply below_drew1) | exact HB.out)⟩⟩
                · rw [if_neg c8] at H
                  exact absurd H (by simp)
              · rw [if_neg c7] at H
                have c7b0 : decide (x5_2 < (a0.size : Int)) = false := decide_eq_false c7
                clear c7
                by_cases c20 : (x4_2.length : Int) > 25
                · rw [if_pos c20] at H
                  have c20b0 : decide (25 < (x4_2.length : Int)) = true := decide_eq_true c20
                  have c20b1 : decide (25 < x4_2.length) = true := decide_eq_true (by omega)
                  clear c20
                  obtain rfl := Option.some.inj H
                  obtain ⟨Ao21, co21, eo21⟩ := Kd.R_slice HO_4.out
                  subst eo21
                  go_wp2
                  repeat (go_quiet (fail); try go_wp2)
                  go_ret
                  exact ⟨by first | rfl | (simp [errW_none, errW_some] <;> rfl) | (simp [*, errW_none, errW_some] <;> rfl), by repeat (first | (with_reducible first | exact HB.out | apply below_alloc | apply pw_below_drewN | apply below_drew1) | exact HB.out)⟩
                · rw [if_neg c20] at H
                  have c20b0 : decide (25 < (x4_2.length : Int)) = false := decide_eq_false c20
                  have c20b1 : decide (25 < x4_2.length) = false := decide_eq_false (by omega)
                  clear c20
                  have H' := Aside0.mk H
                  clear H
                  obtain ⟨Ao22, co22, eo22⟩ := Kd.R_slice HO_4.out
                  subst eo22
                  go_wp2
                  repeat (go_quiet (fail); try go_wp2)
                  go_loopg [3, 57] k2 (fun kq v3 v57 w' => ∃ (x3_3 : List (S29)) (x57_3 : Int), v57 = .int .i64 x57_3 ∧ Aside0 (laws_FnWordsOver.l1 kq a0 x3_3 x4_2 (x4_2.length : Int) x57_3 = some r) ∧ Aside0 (kq ≤ k2) ∧ Aside0 (Kd.R k29 29 w' w.heap.size (fun _ => True) v3 x3_3) ∧ Aside0 (Kd.R (Kd.int .i64) 3 w' w.heap.size (fun _ => True) (.slice Ao22 x4_2.length co22) x4_2) ∧ Aside0 (Below w.heap.size w w'))
                  case atStart => exact ⟨(([] : List (S29))), (0), (by first | rfl | (simp; done) | (simp [*]; done)), H', ⟨Nat.le_refl _⟩, ⟨by first | exact Kd.R_nil _ _ _ _ _ | exact Kd.N_nil _ _ _ _ _ | exact Kd.V_nil _ _ _ _ _ | exact Kd.Q_nil _ _ _ _ _ | exact Kd.S_nil _ _ _ _ _⟩, ⟨by (with_reducible repeat (first | apply Kd.R_alloc | apply Kd.R_drewN | apply Kd.R_drew)); exact HO_4.out⟩, ⟨by repeat (first | (with_reducible first | exact HB.out | apply below_alloc | apply pw_below_drewN | apply below_drew1) | exact HB.out)⟩⟩
                  case round =>
                    clear H'
                    try clear c1
                    try clear p1
                    try clear q1
                    try clear hx1
                    try clear c2
                    try clear c2b0
                    try clear c2b1
                    try clear p2
                    try clear p3
                    try clear c5
                    try clear c6
                    try clear p6
                    try clear c7
                    try clear c7b0
                    try clear c8
                    try clear c8b0
                    try clear p9
                    try clear q9
                    try clear hx9
                    try clear c11
                    try clear c13
                    try clear c13b0
                    try clear c14
                    try clear c14b0
                    try clear p15
                    try clear q15
                    try clear hx15
                    try clear c17
                    try clear c18
                    try clear c20
                    try clear c20b0
                    try clear c20b1
                    try clear p15
                    try clear p2
                    try clear p9
                    try clear q15
                    try clear q9
                    obtain ⟨x3_3, x57_3, rfl, HA, HK3, HO_3, HO_4, HB⟩ := hrel
                    cases gk with
                    | zero => exact absurd HA.out (by simp [laws_FnWordsOver.l1])
                    | succ k3 =>
                      have H := HA.out
                      clear HA
                      simp only [laws_FnWordsOver.l1] at H
                      by_cases c23 : x57_3 < (x4_2.length : Int)
                      · rw [if_pos c23] at H
                        have c23b0 : decide (x57_3 < (x4_2.length : Int)) = true := decide_eq_true c23
                        clear c23
                        by_cases c24 : x3_3.length < 3518437208883
                        · rw [if_pos c24] at H
                          have LMc24 := Aside0.mk c24
                          clear c24
                          obtain ⟨y107, hy107⟩ : ∃ y_ : List (S29), y_ = (x3_3 ++ [(⟨11, (⟨#[]⟩ : ByteArray), 0, false, false⟩ : S29)]) := ⟨_, rfl⟩
                          replace H : ((laws_after9.f a0 0 y107).bind fun bt110 => (if bt110.2.2 = true then (if 0 ≤ x57_3 then (if x57_3 < (x4_2.length : Int) then (if bt110.2.1 = (rd x4_2 x57_3) then (if bt110.1.toList = a0.toList then (laws_FnWordsOver.l1 k3 a0 y107 x4_2 (x4_2.length : Int) (wrap64 (x57_3 + 1))) else (some false)) else (some false)) else (none)) else (none)) else (some false))) = some r := by first | (rw [hy107]; with_reducible exact H) | (have H2_ := (Option.bind_some _ _).symm.trans H; rw [hy107]; with_reducible exact H2_) | (have H2_ := (Option.bind_some _ _).symm.trans H; with_reducible exact H2_) | with_reducible exact H | (rw [hy107]; exact H) | exact H
                          have Ny107 := Aside0.mk hy107
                          clear hy107
                          replace H := Option.bind_eq_some_iff.mp H
                          obtain ⟨⟨t110, t111, t112⟩, A250, H⟩ := H
                          replace H : (if t112 = true then (if 0 ≤ x57_3 then (if x57_3 < (x4_2.length : Int) then (if t111 = (rd x4_2 x57_3) then (if t110.toList = a0.toList then (laws_FnWordsOver.l1 k3 a0 y107 x4_2 (x4_2.length : Int) (wrap64 (x57_3 + 1))) else (some false)) else (some false)) else (none)) else (none)) else (some false)) = some r := H
                          have A25 := Aside0.mk A250
                          clear A250
                          by_cases c26 : t112 = true
                          · subst c26
                            have H1 : (if 0 ≤ x57_3 then (if x57_3 < (x4_2.length : Int) then (if t111 = (rd x4_2 x57_3) then (if t110.toList = a0.toList then (laws_FnWordsOver.l1 k3 a0 y107 x4_2 (x4_2.length : Int) (wrap64 (x57_3 + 1))) else (some false)) else (some false)) else (none)) else (none)) = some r := by rw [if_pos rfl] at H; exact H
                            clear H
                            have H := H1
                            clear H1
                            by_cases c27 : 0 ≤ x57_3
                            · rw [if_pos c27] at H
                              have c27b0 : decide (0 ≤ x57_3) = true := decide_eq_true c27
                              clear c27
                              by_cases c28 : x57_3 < (x4_2.length : Int)
                              · rw [if_pos c28] at H
                                have c28b0 : decide (x57_3 < (x4_2.length : Int)) = true := decide_eq_true c28
                                clear c28
                                by_cases c29 : t111 = (rd x4_2 x57_3)
                                · rw [if_pos c29] at H
                                  have c29b0 : (t111 == (rd x4_2 x57_3)) = true := beq_iff_eq.mpr c29
                                  have c29b1 : (t111 != (rd x4_2 x57_3)) = false := bne_eq_false_iff_eq.mpr c29
                                  clear c29
                                  by_cases c30 : t110.toList = a0.toList
                                  · rw [if_pos c30] at H
                                    have c30b0 : (t110.toList == a0.toList) = true := beq_iff_eq.mpr c30
                                    have c30b1 : (t110.toList != a0.toList) = false := bne_eq_false_iff_eq.mpr c30
                                    clear c30
                                    have H' := Aside0.mk H
                                    clear H
                                    go_wp2_with (first | ((with_reducible refine gate_builtin (b := .append) (xs := #[.tmp 60, .tmp 62]) rfl ?_); (try (refine gate_guard (by rfl) ?_; dsimp only)); at_builtin; refine Kd.R_append k29 (w0 := w) w.heap.size rfl (.tmp 60) (.tmp 62) 26 29 (.agg #[(.int .i64 0), (.string ⟨#[]⟩), (.int .i64 0), (.bool false), (.bool false)]) 40 rfl Tryd.underlying26 info29 rfl (by decide) (by omega) u3 x3_3 (⟨11, (⟨#[]⟩ : ByteArray), 0, false, false⟩ : S29) [.int .i64 11, .string (⟨#[]⟩ : ByteArray), .int .i64 0, .bool false, .bool false] (fun _ => True) (fun _ => False) rfl rfl ?aP (fun _ hk => hk.elim) ?aF ?aO ?aB ?aS ?aL ?_; (case aP => exact k29_mkM _ _ _ (⟨11, (⟨#[]⟩ : ByteArray), 0, false, false⟩ : S29)); (case aB => exact (by repeat (first | (with_reducible first | exact HB.out | apply below_alloc | apply pw_below_drewN | apply below_drew1) | exact HB.out))); (case aF => exact (fun _ _ => trivial)); (case aO => exact (by (with_reducible repeat (first | apply Kd.R_alloc | apply Kd.R_drewN | apply Kd.R_drew)); exact HO_3.out)); (case aS => exact (below_size (by repeat (first | (with_reducible first | exact HB.out | apply below_alloc | apply pw_below_drewN | apply below_drew1) | exact HB.out)))); (case aL => have := LMc24.out; omega); intro v108 w31 ho hb hg hat; rw [← Ny107.out] at ho; have n0_ := Aside0.mk (Kd.R_over' (by (with_reducible repeat (first | apply Kd.R_alloc | apply Kd.R_drewN | apply Kd.R_drew)); exact HO_4.out) (Kd.R_typed (by (with_reducible repeat (first | apply Kd.R_alloc | apply Kd.R_drewN | apply Kd.R_drew)); exact HO_3.out)) (by decide) hg); have n1_ := Aside0.mk (hb); have n2_ := Aside0.mk (ho); clear HO_4; clear HB; clear HO_3; have HO_4 := n0_; have HB := n1_; have HO109 := n2_; clear n0_ n1_ n2_; clear ho hb hg hat; obtain ⟨Ao32, co32, eo32⟩ := Kd.R_slice HO109.out; subst eo32) | (go_at_call 15; (with_reducible refine (laws_after9.calls a0 0 _ _ y107 t110 t111 true _ ?side1 ?side2 A25.out).mono ?_); (case side1 => repeat (first | exact (Kd.R_reads' HO109.out).2.2 | (with_reducible refine Kd.C_alloc ?_ _) | (with_reducible refine Kd.C_drewN ?_ _) | (with_reducible refine Kd.C_drew ?_))); (case side2 => exact (Kd.R_reads' HO109.out).2.1); rintro e w33 ⟨rfl, hb⟩; have n0_ := Aside0.mk (Kd.R_below (by (with_reducible repeat (first | apply Kd.R_alloc | apply Kd.R_drewN | apply Kd.R_drew)); exact HO_4.out) hb); have n1_ := Aside0.mk (Kd.R_below (by (with_reducible repeat (first | apply Kd.R_alloc | apply Kd.R_drewN | apply Kd.R_drew)); exact HO109.out) hb); have n2_ := Aside0.mk (below_step (by repeat (first | (with_reducible first | exact HB.out | apply below_alloc | apply pw_below_drewN | apply below_drew1) | exact HB.out)) hb); clear HO_4; clear HO109; clear HB; have HO_4 := n0_; have HO109 := n1_; have HB := n2_; clear n0_ n1_ n2_; (try clear hb); (try clear hb2); (try clear hk); (try clear hi)) | ((with_reducible refine gate_dst (N := 7) rfl ?_); (try (refine gate_guard (by rfl) ?_; dsimp only)); refine box_event ?hg (N := 7) ?hd (cs := #[.string (⟨#[]⟩ : ByteArray), .int .i64 0]) (t := 23) ?hr ?_; (case hd => rfl); (case hg => rfl); (case hr => first | (go_simp; done) | (go_simp; rfl)); intro gb113 hg w34 hbox hb; have n0_ := Aside0.mk (Kd.R_below (by (with_reducible repeat (first | apply Kd.R_alloc | apply Kd.R_drewN | apply Kd.R_drew)); exact HO_4.out) hb); have n1_ := Aside0.mk (Kd.R_below (by (with_reducible repeat (first | apply Kd.R_alloc | apply Kd.R_drewN | apply Kd.R_drew)); exact HO109.out) hb); have n2_ := Aside0.mk (below_step (by repeat (first | (with_reducible first | exact HB.out | apply below_alloc | apply pw_below_drewN | apply below_drew1) | exact HB.out)) hb); have n3_ := Aside0.mk (hbox); have n4_ := Aside0.mk ((by rw [hg]; exact (below_size (by repeat (first | (with_reducible first | exact HB.out | apply below_alloc | apply pw_below_drewN | apply below_drew1) | exact HB.out))) : w.heap.size ≤ gb113)); have n5_ := Aside0.mk ((by rw [hg]; exact (below_size (by repeat (first | (with_reducible first | exact HB.out | apply below_alloc | apply pw_below_drewN | apply below_drew1) | exact HB.out))) : w.heap.size ≤ gb113)); clear HO_4; clear HO109; clear HB; have HO_4 := n0_; have HO109 := n1_; have HB := n2_; have BK113 := n3_; have GW113 := n4_; have GE113 := n5_; clear n0_ n1_ n2_ n3_ n4_ n5_; clear hb hbox hg; have hcz35_0 : w34.cell? ⟨gb113, 0, none⟩ = some (.string (⟨#[]⟩ : ByteArray)) := (blk_cell BK113.out 0).trans rfl; have hcz35_1 : w34.cell? ⟨gb113, 1, none⟩ = some (.int .i64 0) := (blk_cell BK113.out 1).trans rfl; have hfz35_0 := blk_frozen BK113.out 0; have hfz35_1 := blk_frozen BK113.out 1; have p114 : 0 ≤ (x57_3 : Int) := of_decide_eq_true (by first | (with_reducible assumption) | assumption); have q114 : x57_3 < (x4_2.length : Int) := of_decide_eq_true (by first | (with_reducible assumption) | assumption); obtain ⟨ad114, e114, hx114_0⟩ := Kd.at_int (Kd.R_reads' HO_4.out).2.2 x57_3 p114 q114; cases e114; have hn114_0 : ad114.block ≠ gb113 := Kd.own_blk (Kd.R_ne HO_4.out BK113.out (by decide)); have hn114_1 : ad114.block ≠ gb113 := Kd.own_blk (Kd.R_ne HO_4.out BK113.out (by decide)); replace hx114_0 := (cell_far (p := ⟨gb113, 0, none⟩) (by first | (rw [Go.Proofs.YtdinikcfhpfojaaDoorW.PrintWords.add_block]; exact hn114_0) | (show (Addr.add _ _).block ≠ _; rw [Go.Proofs.YtdinikcfhpfojaaDoorW.PrintWords.add_block]; exact hn114_0) | exact hn114_0) (.string t110)).trans hx114_0; replace hx114_0 := (cell_far (p := ⟨gb113, 1, none⟩) (by first | (rw [Go.Proofs.YtdinikcfhpfojaaDoorW.PrintWords.add_block]; exact hn114_1) | (show (Addr.add _ _).block ≠ _; rw [Go.Proofs.YtdinikcfhpfojaaDoorW.PrintWords.add_block]; exact hn114_1) | exact hn114_1) (.int .i64 t111)).trans hx114_0; (try have hy114_0 := fun (n_ : Nat) => (show ((((w34.drewN n_).setCell ⟨gb113, 0, none⟩ (.string t110)).setCell ⟨gb113, 1, none⟩ (.int .i64 t111))).cell? _ = some _ from hx114_0)); clear hn114_0; clear hn114_1; replace p114 := eq_true p114; replace q114 := eq_true q114))
                                    repeat (go_quiet (first | ((with_reducible refine gate_builtin (b := .append) (xs := #[.tmp 60, .tmp 62]) rfl ?_); (try (refine gate_guard (by rfl) ?_; dsimp only)); at_builtin; refine Kd.R_append k29 (w0 := w) w.heap.size rfl (.tmp 60) (.tmp 62) 26 29 (.agg #[(.int .i64 0), (.string ⟨#[]⟩), (.int .i64 0), (.bool false), (.bool false)]) 40 rfl Tryd.underlying26 info29 rfl (by decide) (by omega) u3 x3_3 (⟨11, (⟨#[]⟩ : ByteArray), 0, false, false⟩ : S29) [.int .i64 11, .string (⟨#[]⟩ : ByteArray), .int .i64 0, .bool false, .bool false] (fun _ => True) (fun _ => False) rfl rfl ?aP (fun _ hk => hk.elim) ?aF ?aO ?aB ?aS ?aL ?_; (case aP => exact k29_mkM _ _ _ (⟨11, (⟨#[]⟩ : ByteArray), 0, false, false⟩ : S29)); (case aB => exact (by repeat (first | (with_reducible first | exact HB.out | apply below_alloc | apply pw_below_drewN | apply below_drew1) | exact HB.out))); (case aF => exact (fun _ _ => trivial)); (case aO => exact (by (with_reducible repeat (first | apply Kd.R_alloc | apply Kd.R_drewN | apply Kd.R_drew)); exact HO_3.out)); (case aS => exact (below_size (by repeat (first | (with_reducible first | exact HB.out | apply below_alloc | apply pw_below_drewN | apply below_drew1) | exact HB.out)))); (case aL => have := LMc24.out; omega); intro v108 w31 ho hb hg hat; rw [← Ny107.out] at ho; have n0_ := Aside0.mk (Kd.R_over' (by (with_reducible repeat (first | apply Kd.R_alloc | apply Kd.R_drewN | apply Kd.R_drew)); exact HO_4.out) (Kd.R_typed (by (with_reducible repeat (first | apply Kd.R_alloc | apply Kd.R_drewN | apply Kd.R_drew)); exact HO_3.out)) (by decide) hg); have n1_ := Aside0.mk (hb); have n2_ := Aside0.mk (ho); clear HO_4; clear HB; clear HO_3; have HO_4 := n0_; have HB := n1_; have HO109 := n2_; clear n0_ n1_ n2_; clear ho hb hg hat; obtain ⟨Ao32, co32, eo32⟩ := Kd.R_slice HO109.out; subst eo32) | (go_at_call 15; (with_reducible refine (laws_after9.calls a0 0 _ _ y107 t110 t111 true _ ?side1 ?side2 A25.out).mono ?_); (case side1 => repeat (first | exact (Kd.R_reads' HO109.out).2.2 | (with_reducible refine Kd.C_alloc ?_ _) | (with_reducible refine Kd.C_drewN ?_ _) | (with_reducible refine Kd.C_drew ?_))); (case side2 => exact (Kd.R_reads' HO109.out).2.1); rintro e w33 ⟨rfl, hb⟩; have n0_ := Aside0.mk (Kd.R_below (by (with_reducible repeat (first | apply Kd.R_alloc | apply Kd.R_drewN | apply Kd.R_drew)); exact HO_4.out) hb); have n1_ := Aside0.mk (Kd.R_below (by (with_reducible repeat (first | apply Kd.R_alloc | apply Kd.R_drewN | apply Kd.R_drew)); exact HO109.out) hb); have n2_ := Aside0.mk (below_step (by repeat (first | (with_reducible first | exact HB.out | apply below_alloc | apply pw_below_drewN | apply below_drew1) | exact HB.out)) hb); clear HO_4; clear HO109; clear HB; have HO_4 := n0_; have HO109 := n1_; have HB := n2_; clear n0_ n1_ n2_; (try clear hb); (try clear hb2); (try clear hk); (try clear hi)) | ((with_reducible refine gate_dst (N := 7) rfl ?_); (try (refine gate_guard (by rfl) ?_; dsimp only)); refine box_event ?hg (N := 7) ?hd (cs := #[.string (⟨#[]⟩ : ByteArray), .int .i64 0]) (t := 23) ?hr ?_; (case hd => rfl); (case hg => rfl); (case hr => first | (go_simp; done) | (go_simp; rfl)); intro gb113 hg w34 hbox hb; have n0_ := Aside0.mk (Kd.R_below (by (with_reducible repeat (first | apply Kd.R_alloc | apply Kd.R_drewN | apply Kd.R_drew)); exact HO_4.out) hb); have n1_ := Aside0.mk (Kd.R_below (by (with_reducible repeat (first | apply Kd.R_alloc | apply Kd.R_drewN | apply Kd.R_drew)); exact HO109.out) hb); have n2_ := Aside0.mk (below_step (by repeat (first | (with_reducible first | exact HB.out | apply below_alloc | apply pw_below_drewN | apply below_drew1) | exact HB.out)) hb); have n3_ := Aside0.mk (hbox); have n4_ := Aside0.mk ((by rw [hg]; exact (below_size (by repeat (first | (with_reducible first | exact HB.out | apply below_alloc | apply pw_below_drewN | apply below_drew1) | exact HB.out))) : w.heap.size ≤ gb113)); have n5_ := Aside0.mk ((by rw [hg]; exact (below_size (by repeat (first | (with_reducible first | exact HB.out | apply below_alloc | apply pw_below_drewN | apply below_drew1) | exact HB.out))) : w.heap.size ≤ gb113)); clear HO_4; clear HO109; clear HB; have HO_4 := n0_; have HO109 := n1_; have HB := n2_; have BK113 := n3_; have GW113 := n4_; have GE113 := n5_; clear n0_ n1_ n2_ n3_ n4_ n5_; clear hb hbox hg; have hcz35_0 : w34.cell? ⟨gb113, 0, none⟩ = some (.string (⟨#[]⟩ : ByteArray)) := (blk_cell BK113.out 0).trans rfl; have hcz35_1 : w34.cell? ⟨gb113, 1, none⟩ = some (.int .i64 0) := (blk_cell BK113.out 1).trans rfl; have hfz35_0 := blk_frozen BK113.out 0; have hfz35_1 := blk_frozen BK113.out 1; have p114 : 0 ≤ (x57_3 : Int) := of_decide_eq_true (by first | (with_reducible assumption) | assumption); have q114 : x57_3 < (x4_2.length : Int) := of_decide_eq_true (by first | (with_reducible assumption) | assumption); obtain ⟨ad114, e114, hx114_0⟩ := Kd.at_int (Kd.R_reads' HO_4.out).2.2 x57_3 p114 q114; cases e114; have hn114_0 : ad114.block ≠ gb113 := Kd.own_blk (Kd.R_ne HO_4.out BK113.out (by decide)); have hn114_1 : ad114.block ≠ gb113 := Kd.own_blk (Kd.R_ne HO_4.out BK113.out (by decide)); replace hx114_0 := (cell_far (p := ⟨gb113, 0, none⟩) (by first | (rw [Go.Proofs.YtdinikcfhpfojaaDoorW.PrintWords.add_block]; exact hn114_0) | (show (Addr.add _ _).block ≠ _; rw [Go.Proofs.YtdinikcfhpfojaaDoorW.PrintWords.add_block]; exact hn114_0) | exact hn114_0) (.string t110)).trans hx114_0; replace hx114_0 := (cell_far (p := ⟨gb113, 1, none⟩) (by first | (rw [Go.Proofs.YtdinikcfhpfojaaDoorW.PrintWords.add_block]; exact hn114_1) | (show (Addr.add _ _).block ≠ _; rw [Go.Proofs.YtdinikcfhpfojaaDoorW.PrintWords.add_block]; exact hn114_1) | exact hn114_1) (.int .i64 t111)).trans hx114_0; (try have hy114_0 := fun (n_ : Nat) => (show ((((w34.drewN n_).setCell ⟨gb113, 0, none⟩ (.string t110)).setCell ⟨gb113, 1, none⟩ (.int .i64 t111))).cell? _ = some _ from hx114_0)); clear hn114_0; clear hn114_1; replace p114 := eq_true p114; replace q114 := eq_true q114)); try go_wp2_with (first | ((with_reducible refine gate_builtin (b := .append) (xs := #[.tmp 60, .tmp 62]) rfl ?_); (try (refine gate_guard (by rfl) ?_; dsimp only)); at_builtin; refine Kd.R_append k29 (w0 := w) w.heap.size rfl (.tmp 60) (.tmp 62) 26 29 (.agg #[(.int .i64 0), (.string ⟨#[]⟩), (.int .i64 0), (.bool false), (.bool false)]) 40 rfl Tryd.underlying26 info29 rfl (by decide) (by omega) u3 x3_3 (⟨11, (⟨#[]⟩ : ByteArray), 0, false, false⟩ : S29) [.int .i64 11, .string (⟨#[]⟩ : ByteArray), .int .i64 0, .bool false, .bool false] (fun _ => True) (fun _ => False) rfl rfl ?aP (fun _ hk => hk.elim) ?aF ?aO ?aB ?aS ?aL ?_; (case aP => exact k29_mkM _ _ _ (⟨11, (⟨#[]⟩ : ByteArray), 0, false, false⟩ : S29)); (case aB => exact (by repeat (first | (with_reducible first | exact HB.out | apply below_alloc | apply pw_below_drewN | apply below_drew1) | exact HB.out))); (case aF => exact (fun _ _ => trivial)); (case aO => exact (by (with_reducible repeat (first | apply Kd.R_alloc | apply Kd.R_drewN | apply Kd.R_drew)); exact HO_3.out)); (case aS => exact (below_size (by repeat (first | (with_reducible first | exact HB.out | apply below_alloc | apply pw_below_drewN | apply below_drew1) | exact HB.out)))); (case aL => have := LMc24.out; omega); intro v108 w31 ho hb hg hat; rw [← Ny107.out] at ho; have n0_ := Aside0.mk (Kd.R_over' (by (with_reducible repeat (first | apply Kd.R_alloc | apply Kd.R_drewN | apply Kd.R_drew)); exact HO_4.out) (Kd.R_typed (by (with_reducible repeat (first | apply Kd.R_alloc | apply Kd.R_drewN | apply Kd.R_drew)); exact HO_3.out)) (by decide) hg); have n1_ := Aside0.mk (hb); have n2_ := Aside0.mk (ho); clear HO_4; clear HB; clear HO_3; have HO_4 := n0_; have HB := n1_; have HO109 := n2_; clear n0_ n1_ n2_; clear ho hb hg hat; obtain ⟨Ao32, co32, eo32⟩ := Kd.R_slice HO109.out; subst eo32) | (go_at_call 15; (with_reducible refine (laws_after9.calls a0 0 _ _ y107 t110 t111 true _ ?side1 ?side2 A25.out).mono ?_); (case side1 => repeat (first | exact (Kd.R_reads' HO109.out).2.2 | (with_reducible refine Kd.C_alloc ?_ _) | (with_reducible refine Kd.C_drewN ?_ _) | (with_reducible refine Kd.C_drew ?_))); (case side2 => exact (Kd.R_reads' HO109.out).2.1); rintro e w33 ⟨rfl, hb⟩; have n0_ := Aside0.mk (Kd.R_below (by (with_reducible repeat (first | apply Kd.R_alloc | apply Kd.R_drewN | apply Kd.R_drew)); exact HO_4.out) hb); have n1_ := Aside0.mk (Kd.R_below (by (with_reducible repeat (first | apply Kd.R_alloc | apply Kd.R_drewN | apply Kd.R_drew)); exact HO109.out) hb); have n2_ := Aside0.mk (below_step (by repeat (first | (with_reducible first | exact HB.out | apply below_alloc | apply pw_below_drewN | apply below_drew1) | exact HB.out)) hb); clear HO_4; clear HO109; clear HB; have HO_4 := n0_; have HO109 := n1_; have HB := n2_; clear n0_ n1_ n2_; (try clear hb); (try clear hb2); (try clear hk); (try clear hi)) | ((with_reducible refine gate_dst (N := 7) rfl ?_); (try (refine gate_guard (by rfl) ?_; dsimp only)); refine box_event ?hg (N := 7) ?hd (cs := #[.string (⟨#[]⟩ : ByteArray), .int .i64 0]) (t := 23) ?hr ?_; (case hd => rfl); (case hg => rfl); (case hr => first | (go_simp; done) | (go_simp; rfl)); intro gb113 hg w34 hbox hb; have n0_ := Aside0.mk (Kd.R_below (by (with_reducible repeat (first | apply Kd.R_alloc | apply Kd.R_drewN | apply Kd.R_drew)); exact HO_4.out) hb); have n1_ := Aside0.mk (Kd.R_below (by (with_reducible repeat (first | apply Kd.R_alloc | apply Kd.R_drewN | apply Kd.R_drew)); exact HO109.out) hb); have n2_ := Aside0.mk (below_step (by repeat (first | (with_reducible first | exact HB.out | apply below_alloc | apply pw_below_drewN | apply below_drew1) | exact HB.out)) hb); have n3_ := Aside0.mk (hbox); have n4_ := Aside0.mk ((by rw [hg]; exact (below_size (by repeat (first | (with_reducible first | exact HB.out | apply below_alloc | apply pw_below_drewN | apply below_drew1) | exact HB.out))) : w.heap.size ≤ gb113)); have n5_ := Aside0.mk ((by rw [hg]; exact (below_size (by repeat (first | (with_reducible first | exact HB.out | apply below_alloc | apply pw_below_drewN | apply below_drew1) | exact HB.out))) : w.heap.size ≤ gb113)); clear HO_4; clear HO109; clear HB; have HO_4 := n0_; have HO109 := n1_; have HB := n2_; have BK113 := n3_; have GW113 := n4_; have GE113 := n5_; clear n0_ n1_ n2_ n3_ n4_ n5_; clear hb hbox hg; have hcz35_0 : w34.cell? ⟨gb113, 0, none⟩ = some (.string (⟨#[]⟩ : ByteArray)) := (blk_cell BK113.out 0).trans rfl; have hcz35_1 : w34.cell? ⟨gb113, 1, none⟩ = some (.int .i64 0) := (blk_cell BK113.out 1).trans rfl; have hfz35_0 := blk_frozen BK113.out 0; have hfz35_1 := blk_frozen BK113.out 1; have p114 : 0 ≤ (x57_3 : Int) := of_decide_eq_true (by first | (with_reducible assumption) | assumption); have q114 : x57_3 < (x4_2.length : Int) := of_decide_eq_true (by first | (with_reducible assumption) | assumption); obtain ⟨ad114, e114, hx114_0⟩ := Kd.at_int (Kd.R_reads' HO_4.out).2.2 x57_3 p114 q114; cases e114; have hn114_0 : ad114.block ≠ gb113 := Kd.own_blk (Kd.R_ne HO_4.out BK113.out (by decide)); have hn114_1 : ad114.block ≠ gb113 := Kd.own_blk (Kd.R_ne HO_4.out BK113.out (by decide)); replace hx114_0 := (cell_far (p := ⟨gb113, 0, none⟩) (by first | (rw [Go.Proofs.YtdinikcfhpfojaaDoorW.PrintWords.add_block]; exact hn114_0) | (show (Addr.add _ _).block ≠ _; rw [Go.Proofs.YtdinikcfhpfojaaDoorW.PrintWords.add_block]; exact hn114_0) | exact hn114_0) (.string t110)).trans hx114_0; replace hx114_0 := (cell_far (p := ⟨gb113, 1, none⟩) (by first | (rw [Go.Proofs.YtdinikcfhpfojaaDoorW.PrintWords.add_block]; exact hn114_1) | (show (Addr.add _ _).block ≠ _; rw [Go.Proofs.YtdinikcfhpfojaaDoorW.PrintWords.add_block]; exact hn114_1) | exact hn114_1) (.int .i64 t111)).trans hx114_0; (try have hy114_0 := fun (n_ : Nat) => (show ((((w34.drewN n_).setCell ⟨gb113, 0, none⟩ (.string t110)).setCell ⟨gb113, 1, none⟩ (.int .i64 t111))).cell? _ = some _ from hx114_0)); clear hn114_0; clear hn114_1; replace p114 := eq_true p114; replace q114 := eq_true q114)))
                                    go_roundg k3
                                    case measure => have := HJ2.out; have := HK2.out; have := HK3.out; omega
                                    case rel => exact ⟨(y107), (wrap64 (x57_3 + 1)), (by first | rfl | (simp; done) | (simp [*]; done)), H', ⟨by have := HJ2.out; have := HK2.out; have := HK3.out; omega⟩, ⟨by (with_reducible repeat (first | apply Kd.R_alloc | apply Kd.R_drewN | apply Kd.R_drew)); exact Kd.R_mono (Kd.R_far (p := ⟨gb113, 1, none⟩) (Kd.R_far (p := ⟨gb113, 0, none⟩) (Kd.R_types HO109.out BK113.out (by decide)) (fun _ hk => hk.2) (.string t110)) (fun _ hk => hk.2) (.int .i64 t111)) (fun _ hk => trivial)⟩, ⟨by (with_reducible repeat (first | apply Kd.R_alloc | apply Kd.R_drewN | apply Kd.R_drew)); exact Kd.R_mono (Kd.R_far (p := ⟨gb113, 1, none⟩) (Kd.R_far (p := ⟨gb113, 0, none⟩) (Kd.R_types HO_4.out BK113.out (by decide)) (fun _ hk => hk.2) (.string t110)) (fun _ hk => hk.2) (.int .i64 t111)) (fun _ hk => trivial)⟩, ⟨by repeat (first | (with_reducible first | exact HB.out | apply below_alloc | apply pw_below_drewN | apply below_drew1 | refine below_set ?_ GE113.out) | exact HB.out)⟩⟩
                                  · rw [if_neg c30] at H
                                    exact absurd ((Option.some.inj H).trans hr_) (by decide)
                                · rw [if_neg c29] at H
                                  exact absurd ((Option.some.inj H).trans hr_) (by decide)
                              · rw [if_neg c28] at H
                                exact absurd H (by simp)
                            · rw [if_neg c27] at H
                              exact absurd H (by simp)
                          · replace c26 := Bool.eq_false_iff.mpr c26
                            subst c26
                            rw [if_neg Bool.false_ne_true] at H
                            exact absurd ((Option.some.inj H).trans hr_) (by decide)
                        · rw [if_neg c24] at H
                          exact absurd H (by simp)
                      · rw [if_neg c23] at H
                        have c23b0 : decide (x57_3 < (x4_2.length : Int)) = false := decide_eq_false c23
                        clear c23
                        by_cases c51 : x3_3.length < 3518437208883
                        · rw [if_pos c51] at H
                          have LMc51 := Aside0.mk c51
                          clear c51
                          obtain ⟨y115, hy115⟩ : ∃ y_ : List (S29), y_ = (x3_3 ++ [(⟨11, (⟨#[]⟩ : ByteArray), 0, false, false⟩ : S29)]) := ⟨_, rfl⟩
                          replace H : ((laws_after9.f a0 0 y115).bind fun bt118 => (laws_FnWordsOver.l2 k3 a0 x4_2 bt118.2.2 ([] : List (S29)) (wrap64 ((x4_2.length : Int) - 1)) bt118.1 bt118.2.1)) = some r := by first | (rw [hy115]; with_reducible exact H) | (have H2_ := (Option.bind_some _ _).symm.trans H; rw [hy115]; with_reducible exact H2_) | (have H2_ := (Option.bind_some _ _).symm.trans H; with_reducible exact H2_) | with_reducible exact H | (rw [hy115]; exact H) | exact H
                          have Ny115 := Aside0.mk hy115
                          clear hy115
                          replace H := Option.bind_eq_some_iff.mp H
                          obtain ⟨⟨t118, t119, t120⟩, A520, H⟩ := H
                          replace H : (laws_FnWordsOver.l2 k3 a0 x4_2 t120 ([] : List (S29)) (wrap64 ((x4_2.length : Int) - 1)) t118 t119) = some r := H
                          have A52 := Aside0.mk A520
                          clear A520
                          have H' := Aside0.mk H
                          clear H
                          go_wp2_with (first | ((with_reducible refine gate_builtin (b := .append) (xs := #[.tmp 92, .tmp 94]) rfl ?_); (try (refine gate_guard (by rfl) ?_; dsimp only)); at_builtin; refine Kd.R_append k29 (w0 := w) w.heap.size rfl (.tmp 92) (.tmp 94) 26 29 (.agg #[(.int .i64 0), (.string ⟨#[]⟩), (.int .i64 0), (.bool false), (.bool false)]) 40 rfl Tryd.underlying26 info29 rfl (by decide) (by omega) u3 x3_3 (⟨11, (⟨#[]⟩ : ByteArray), 0, false, false⟩ : S29) [.int .i64 11, .string (⟨#[]⟩ : ByteArray), .int .i64 0, .bool false, .bool false] (fun _ => True) (fun _ => False) rfl rfl ?aP (fun _ hk => hk.elim) ?aF ?aO ?aB ?aS ?aL ?_; (case aP => exact k29_mkM _ _ _ (⟨11, (⟨#[]⟩ : ByteArray), 0, false, false⟩ : S29)); (case aB => exact (by repeat (first | (with_reducible first | exact HB.out | apply below_alloc | apply pw_below_drewN | apply below_drew1) | exact HB.out))); (case aF => exact (fun _ _ => trivial)); (case aO => exact (by (with_reducible repeat (first | apply Kd.R_alloc | apply Kd.R_drewN | apply Kd.R_drew)); exact HO_3.out)); (case aS => exact (below_size (by repeat (first | (with_reducible first | exact HB.out | apply below_alloc | apply pw_below_drewN | apply below_drew1) | exact HB.out)))); (case aL => have := LMc51.out; omega); intro v116 w53 ho hb hg hat; rw [← Ny115.out] at ho; have n0_ := Aside0.mk (Kd.R_over' (by (with_reducible repeat (first | apply Kd.R_alloc | apply Kd.R_drewN | apply Kd.R_drew)); exact HO_4.out) (Kd.R_typed (by (with_reducible repeat (first | apply Kd.R_alloc | apply Kd.R_drewN | apply Kd.R_drew)); exact HO_3.out)) (by decide) hg); have n1_ := Aside0.mk (hb); have n2_ := Aside0.mk (ho); clear HO_4; clear HB; clear HO_3; have HO_4 := n0_; have HB := n1_; have HO117 := n2_; clear n0_ n1_ n2_; clear ho hb hg hat; obtain ⟨Ao54, co54, eo54⟩ := Kd.R_slice HO117.out; subst eo54) | (go_at_call 15; (with_reducible refine (laws_after9.calls a0 0 _ _ y115 t118 t119 t120 _ ?side1 ?side2 A52.out).mono ?_); (case side1 => repeat (first | exact (Kd.R_reads' HO117.out).2.2 | (with_reducible refine Kd.C_alloc ?_ _) | (with_reducible refine Kd.C_drewN ?_ _) | (with_reducible refine Kd.C_drew ?_))); (case side2 => exact (Kd.R_reads' HO117.out).2.1); rintro e w55 ⟨rfl, hb⟩; have n0_ := Aside0.mk (Kd.R_below (by (with_reducible repeat (first | apply Kd.R_alloc | apply Kd.R_drewN | apply Kd.R_drew)); exact HO_4.out) hb); have n1_ := Aside0.mk (Kd.R_below (by (with_reducible repeat (first | apply Kd.R_alloc | apply Kd.R_drewN | apply Kd.R_drew)); exact HO117.out) hb); have n2_ := Aside0.mk (below_step (by repeat (first | (with_reducible first | exact HB.out | apply below_alloc | apply pw_below_drewN | apply below_drew1) | exact HB.out)) hb); clear HO_4; clear HO117; clear HB; have HO_4 := n0_; have HO117 := n1_; have HB := n2_; clear n0_ n1_ n2_; (try clear hb); (try clear hb2); (try clear hk); (try clear hi)) | ((with_reducible refine gate_dst (N := 9) rfl ?_); (try (refine gate_guard (by rfl) ?_; dsimp only)); refine box_event ?hg (N := 9) ?hd (cs := #[.string (⟨#[]⟩ : ByteArray), .int .i64 0]) (t := 23) ?hr ?_; (case hd => rfl); (case hg => rfl); (case hr => first | (go_simp; done) | (go_simp; rfl)); intro gb121 hg w56 hbox hb; have n0_ := Aside0.mk (Kd.R_below (by (with_reducible repeat (first | apply Kd.R_alloc | apply Kd.R_drewN | apply Kd.R_drew)); exact HO_4.out) hb); have n1_ := Aside0.mk (Kd.R_below (by (with_reducible repeat (first | apply Kd.R_alloc | apply Kd.R_drewN | apply Kd.R_drew)); exact HO117.out) hb); have n2_ := Aside0.mk (below_step (by repeat (first | (with_reducible first | exact HB.out | apply below_alloc | apply pw_below_drewN | apply below_drew1) | exact HB.out)) hb); have n3_ := Aside0.mk (hbox); have n4_ := Aside0.mk ((by rw [hg]; exact (below_size (by repeat (first | (with_reducible first | exact HB.out | apply below_alloc | apply pw_below_drewN | apply below_drew1) | exact HB.out))) : w.heap.size ≤ gb121)); have n5_ := Aside0.mk ((by rw [hg]; exact (below_size (by repeat (first | (with_reducible first | exact HB.out | apply below_alloc | apply pw_below_drewN | apply below_drew1) | exact HB.out))) : w.heap.size ≤ gb121)); clear HO_4; clear HO117; clear HB; have HO_4 := n0_; have HO117 := n1_; have HB := n2_; have BK121 := n3_; have GW121 := n4_; have GE121 := n5_; clear n0_ n1_ n2_ n3_ n4_ n5_; clear hb hbox hg; have hcz57_0 : w56.cell? ⟨gb121, 0, none⟩ = some (.string (⟨#[]⟩ : ByteArray)) := (blk_cell BK121.out 0).trans rfl; have hcz57_1 : w56.cell? ⟨gb121, 1, none⟩ = some (.int .i64 0) := (blk_cell BK121.out 1).trans rfl; have hfz57_0 := blk_frozen BK121.out 0; have hfz57_1 := blk_frozen BK121.out 1))
                          repeat (go_quiet (first | ((with_reducible refine gate_builtin (b := .append) (xs := #[.tmp 92, .tmp 94]) rfl ?_); (try (refine gate_guard (by rfl) ?_; dsimp only)); at_builtin; refine Kd.R_append k29 (w0 := w) w.heap.size rfl (.tmp 92) (.tmp 94) 26 29 (.agg #[(.int .i64 0), (.string ⟨#[]⟩), (.int .i64 0), (.bool false), (.bool false)]) 40 rfl Tryd.underlying26 info29 rfl (by decide) (by omega) u3 x3_3 (⟨11, (⟨#[]⟩ : ByteArray), 0, false, false⟩ : S29) [.int .i64 11, .string (⟨#[]⟩ : ByteArray), .int .i64 0, .bool false, .bool false] (fun _ => True) (fun _ => False) rfl rfl ?aP (fun _ hk => hk.elim) ?aF ?aO ?aB ?aS ?aL ?_; (case aP => exact k29_mkM _ _ _ (⟨11, (⟨#[]⟩ : ByteArray), 0, false, false⟩ : S29)); (case aB => exact (by repeat (first | (with_reducible first | exact HB.out | apply below_alloc | apply pw_below_drewN | apply below_drew1) | exact HB.out))); (case aF => exact (fun _ _ => trivial)); (case aO => exact (by (with_reducible repeat (first | apply Kd.R_alloc | apply Kd.R_drewN | apply Kd.R_drew)); exact HO_3.out)); (case aS => exact (below_size (by repeat (first | (with_reducible first | exact HB.out | apply below_alloc | apply pw_below_drewN | apply below_drew1) | exact HB.out)))); (case aL => have := LMc51.out; omega); intro v116 w53 ho hb hg hat; rw [← Ny115.out] at ho; have n0_ := Aside0.mk (Kd.R_over' (by (with_reducible repeat (first | apply Kd.R_alloc | apply Kd.R_drewN | apply Kd.R_drew)); exact HO_4.out) (Kd.R_typed (by (with_reducible repeat (first | apply Kd.R_alloc | apply Kd.R_drewN | apply Kd.R_drew)); exact HO_3.out)) (by decide) hg); have n1_ := Aside0.mk (hb); have n2_ := Aside0.mk (ho); clear HO_4; clear HB; clear HO_3; have HO_4 := n0_; have HB := n1_; have HO117 := n2_; clear n0_ n1_ n2_; clear ho hb hg hat; obtain ⟨Ao54, co54, eo54⟩ := Kd.R_slice HO117.out; subst eo54) | (go_at_call 15; (with_reducible refine (laws_after9.calls a0 0 _ _ y115 t118 t119 t120 _ ?side1 ?side2 A52.out).mono ?_); (case side1 => repeat (first | exact (Kd.R_reads' HO117.out).2.2 | (with_reducible refine Kd.C_alloc ?_ _) | (with_reducible refine Kd.C_drewN ?_ _) | (with_reducible refine Kd.C_drew ?_))); (case side2 => exact (Kd.R_reads' HO117.out).2.1); rintro e w55 ⟨rfl, hb⟩; have n0_ := Aside0.mk (Kd.R_below (by (with_reducible repeat (first | apply Kd.R_alloc | apply Kd.R_drewN | apply Kd.R_drew)); exact HO_4.out) hb); have n1_ := Aside0.mk (Kd.R_below (by (with_reducible repeat (first | apply Kd.R_alloc | apply Kd.R_drewN | apply Kd.R_drew)); exact HO117.out) hb); have n2_ := Aside0.mk (below_step (by repeat (first | (with_reducible first | exact HB.out | apply below_alloc | apply pw_below_drewN | apply below_drew1) | exact HB.out)) hb); clear HO_4; clear HO117; clear HB; have HO_4 := n0_; have HO117 := n1_; have HB := n2_; clear n0_ n1_ n2_; (try clear hb); (try clear hb2); (try clear hk); (try clear hi)) | ((with_reducible refine gate_dst (N := 9) rfl ?_); (try (refine gate_guard (by rfl) ?_; dsimp only)); refine box_event ?hg (N := 9) ?hd (cs := #[.string (⟨#[]⟩ : ByteArray), .int .i64 0]) (t := 23) ?hr ?_; (case hd => rfl); (case hg => rfl); (case hr => first | (go_simp; done) | (go_simp; rfl)); intro gb121 hg w56 hbox hb; have n0_ := Aside0.mk (Kd.R_below (by (with_reducible repeat (first | apply Kd.R_alloc | apply Kd.R_drewN | apply Kd.R_drew)); exact HO_4.out) hb); have n1_ := Aside0.mk (Kd.R_below (by (with_reducible repeat (first | apply Kd.R_alloc | apply Kd.R_drewN | apply Kd.R_drew)); exact HO117.out) hb); have n2_ := Aside0.mk (below_step (by repeat (first | (with_reducible first | exact HB.out | apply below_alloc | apply pw_below_drewN | apply below_drew1) | exact HB.out)) hb); have n3_ := Aside0.mk (hbox); have n4_ := Aside0.mk ((by rw [hg]; exact (below_size (by repeat (first | (with_reducible first | exact HB.out | apply below_alloc | apply pw_below_drewN | apply below_drew1) | exact HB.out))) : w.heap.size ≤ gb121)); have n5_ := Aside0.mk ((by rw [hg]; exact (below_size (by repeat (first | (with_reducible first | exact HB.out | apply below_alloc | apply pw_below_drewN | apply below_drew1) | exact HB.out))) : w.heap.size ≤ gb121)); clear HO_4; clear HO117; clear HB; have HO_4 := n0_; have HO117 := n1_; have HB := n2_; have BK121 := n3_; have GW121 := n4_; have GE121 := n5_; clear n0_ n1_ n2_ n3_ n4_ n5_; clear hb hbox hg; have hcz57_0 : w56.cell? ⟨gb121, 0, none⟩ = some (.string (⟨#[]⟩ : ByteArray)) := (blk_cell BK121.out 0).trans rfl; have hcz57_1 : w56.cell? ⟨gb121, 1, none⟩ = some (.int .i64 0) := (blk_cell BK121.out 1).trans rfl; have hfz57_0 := blk_frozen BK121.out 0; have hfz57_1 := blk_frozen BK121.out 1)); try go_wp2_with (first | ((with_reducible refine gate_builtin (b := .append) (xs := #[.tmp 92, .tmp 94]) rfl ?_); (try (refine gate_guard (by rfl) ?_; dsimp only)); at_builtin; refine Kd.R_append k29 (w0 := w) w.heap.size rfl (.tmp 92) (.tmp 94) 26 29 (.agg #[(.int .i64 0), (.string ⟨#[]⟩), (.int .i64 0), (.bool false), (.bool false)]) 40 rfl Tryd.underlying26 info29 rfl (by decide) (by omega) u3 x3_3 (⟨11, (⟨#[]⟩ : ByteArray), 0, false, false⟩ : S29) [.int .i64 11, .string (⟨#[]⟩ : ByteArray), .int .i64 0, .bool false, .bool false] (fun _ => True) (fun _ => False) rfl rfl ?aP (fun _ hk => hk.elim) ?aF ?aO ?aB ?aS ?aL ?_; (case aP => exact k29_mkM _ _ _ (⟨11, (⟨#[]⟩ : ByteArray), 0, false, false⟩ : S29)); (case aB => exact (by repeat (first | (with_reducible first | exact HB.out | apply below_alloc | apply pw_below_drewN | apply below_drew1) | exact HB.out))); (case aF => exact (fun _ _ => trivial)); (case aO => exact (by (with_reducible repeat (first | apply Kd.R_alloc | apply Kd.R_drewN | apply Kd.R_drew)); exact HO_3.out)); (case aS => exact (below_size (by repeat (first | (with_reducible first | exact HB.out | apply below_alloc | apply pw_below_drewN | apply below_drew1) | exact HB.out)))); (case aL => have := LMc51.out; omega); intro v116 w53 ho hb hg hat; rw [← Ny115.out] at ho; have n0_ := Aside0.mk (Kd.R_over' (by (with_reducible repeat (first | apply Kd.R_alloc | apply Kd.R_drewN | apply Kd.R_drew)); exact HO_4.out) (Kd.R_typed (by (with_reducible repeat (first | apply Kd.R_alloc | apply Kd.R_drewN | apply Kd.R_drew)); exact HO_3.out)) (by decide) hg); have n1_ := Aside0.mk (hb); have n2_ := Aside0.mk (ho); clear HO_4; clear HB; clear HO_3; have HO_4 := n0_; have HB := n1_; have HO117 := n2_; clear n0_ n1_ n2_; clear ho hb hg hat; obtain ⟨Ao54, co54, eo54⟩ := Kd.R_slice HO117.out; subst eo54) | (go_at_call 15; (with_reducible refine (laws_after9.calls a0 0 _ _ y115 t118 t119 t120 _ ?side1 ?side2 A52.out).mono ?_); (case side1 => repeat (first | exact (Kd.R_reads' HO117.out).2.2 | (with_reducible refine Kd.C_alloc ?_ _) | (with_reducible refine Kd.C_drewN ?_ _) | (with_reducible refine Kd.C_drew ?_))); (case side2 => exact (Kd.R_reads' HO117.out).2.1); rintro e w55 ⟨rfl, hb⟩; have n0_ := Aside0.mk (Kd.R_below (by (with_reducible repeat (first | apply Kd.R_alloc | apply Kd.R_drewN | apply Kd.R_drew)); exact HO_4.out) hb); have n1_ := Aside0.mk (Kd.R_below (by (with_reducible repeat (first | apply Kd.R_alloc | apply Kd.R_drewN | apply Kd.R_drew)); exact HO117.out) hb); have n2_ := Aside0.mk (below_step (by repeat (first | (with_reducible first | exact HB.out | apply below_alloc | apply pw_below_drewN | apply below_drew1) | exact HB.out)) hb); clear HO_4; clear HO117; clear HB; have HO_4 := n0_; have HO117 := n1_; have HB := n2_; clear n0_ n1_ n2_; (try clear hb); (try clear hb2); (try clear hk); (try clear hi)) | ((with_reducible refine gate_dst (N := 9) rfl ?_); (try (refine gate_guard (by rfl) ?_; dsimp only)); refine box_event ?hg (N := 9) ?hd (cs := #[.string (⟨#[]⟩ : ByteArray), .int .i64 0]) (t := 23) ?hr ?_; (case hd => rfl); (case hg => rfl); (case hr => first | (go_simp; done) | (go_simp; rfl)); intro gb121 hg w56 hbox hb; have n0_ := Aside0.mk (Kd.R_below (by (with_reducible repeat (first | apply Kd.R_alloc | apply Kd.R_drewN | apply Kd.R_drew)); exact HO_4.out) hb); have n1_ := Aside0.mk (Kd.R_below (by (with_reducible repeat (first | apply Kd.R_alloc | apply Kd.R_drewN | apply Kd.R_drew)); exact HO117.out) hb); have n2_ := Aside0.mk (below_step (by repeat (first | (with_reducible first | exact HB.out | apply below_alloc | apply pw_below_drewN | apply below_drew1) | exact HB.out)) hb); have n3_ := Aside0.mk (hbox); have n4_ := Aside0.mk ((by rw [hg]; exact (below_size (by repeat (first | (with_reducible first | exact HB.out | apply below_alloc | apply pw_below_drewN | apply below_drew1) | exact HB.out))) : w.heap.size ≤ gb121)); have n5_ := Aside0.mk ((by rw [hg]; exact (below_size (by repeat (first | (with_reducible first | exact HB.out | apply below_alloc | apply pw_below_drewN | apply below_drew1) | exact HB.out))) : w.heap.size ≤ gb121)); clear HO_4; clear HO117; clear HB; have HO_4 := n0_; have HO117 := n1_; have HB := n2_; have BK121 := n3_; have GW121 := n4_; have GE121 := n5_; clear n0_ n1_ n2_ n3_ n4_ n5_; clear hb hbox hg; have hcz57_0 : w56.cell? ⟨gb121, 0, none⟩ = some (.string (⟨#[]⟩ : ByteArray)) := (blk_cell BK121.out 0).trans rfl; have hcz57_1 : w56.cell? ⟨gb121, 1, none⟩ = some (.int .i64 0) := (blk_cell BK121.out 1).trans rfl; have hfz57_0 := blk_frozen BK121.out 0; have hfz57_1 := blk_frozen BK121.out 1)))
                          go_loopg [11, 12] k3 (fun kq v11 v12 w' => ∃ (x11_4 : List (S29)) (x12_4 : Int), v12 = .int .i64 x12_4 ∧ Aside0 (laws_FnWordsOver.l2 kq a0 x4_2 t120 x11_4 x12_4 t118 t119 = some r) ∧ Aside0 (kq ≤ k3) ∧ Aside0 (Kd.R (Kd.int .i64) 3 w' w.heap.size (fun _ => True) (.slice Ao22 x4_2.length co22) x4_2) ∧ Aside0 (Kd.R k29 29 w' w.heap.size (fun _ => True) v11 x11_4) ∧ Aside0 (w'.heap[gb121]? = some (.cells #[.string t118, .int .i64 t119] 23 (0, 0))) ∧ Aside0 (Below w.heap.size w w'))
                          case atStart => exact ⟨(([] : List (S29))), (wrap64 ((x4_2.length : Int) - 1)), (by first | rfl | (simp; done) | (simp [*]; done)), H', ⟨Nat.le_refl _⟩, ⟨by (with_reducible repeat (first | apply Kd.R_alloc | apply Kd.R_drewN | apply Kd.R_drew)); exact Kd.R_mono (Kd.R_far (p := ⟨gb121, 1, none⟩) (Kd.R_far (p := ⟨gb121, 0, none⟩) (Kd.R_types HO_4.out BK121.out (by decide)) (fun _ hk => hk.2) (.string t118)) (fun _ hk => hk.2) (.int .i64 t119)) (fun _ hk => trivial)⟩, ⟨by first | exact Kd.R_nil _ _ _ _ _ | exact Kd.N_nil _ _ _ _ _ | exact Kd.V_nil _ _ _ _ _ | exact Kd.Q_nil _ _ _ _ _ | exact Kd.S_nil _ _ _ _ _⟩, ⟨by (with_reducible repeat (first | refine blk_drewN ?_ _ | refine blk_drew ?_ | refine blk_alloc ?_ _)); refine blk_put (cs := #[.string t118, .int .i64 0]) ?_ 1 _ rfl; (with_reducible repeat (first | refine blk_drewN ?_ _ | refine blk_drew ?_ | refine blk_alloc ?_ _)); refine blk_put (cs := #[.string (⟨#[]⟩ : ByteArray), .int .i64 0]) ?_ 0 _ rfl; (with_reducible repeat (first | refine blk_drewN ?_ _ | refine blk_drew ?_ | refine blk_alloc ?_ _)); exact BK121.out⟩, ⟨by repeat (first | (with_reducible first | exact HB.out | apply below_alloc | apply pw_below_drewN | apply below_drew1 | refine below_set ?_ GE121.out) | exact HB.out)⟩⟩
                          case round =>
                            clear H'
                            try clear c1
                            try clear p1
                            try clear q1
                            try clear hx1
                            try clear c2
                            try clear c2b0
                            try clear c2b1
                            try clear p2
                            try clear c3
                            try clear p3
                            try clear c5
                            try clear c6
                            try clear p6
                            try clear c7
                            try clear c7b0
                            try clear c8
                            try clear c8b0
                            try clear p9
                            try clear q9
                            try clear hx9
                            try clear c11
                            try clear p11
                            try clear q11
                            try clear hx11
                            try clear c13
                            try clear c13b0
                            try clear c14
                            try clear c14b0
                            try clear p15
                            try clear q15
                            try clear hx15
                            try clear c17
                            try clear c18
                            try clear c20
                            try clear c20b0
                            try clear c20b1
                            try clear c23
                            try clear c23b0
                            try clear c24
                            try clear c26
                            try clear c27
                            try clear c27b0
                            try clear c28
                            try clear c28b0
                            try clear c29
                            try clear c29b0
                            try clear c29b1
                            try clear c30
                            try clear c30b0
                            try clear c30b1
                            try clear p32
                            try clear c51
                            try clear hcz35_0
                            try clear hcz35_1
                            try clear hcz40_0
                            try clear hcz40_1
                            try clear hcz45_0
                            try clear hcz45_1
                            try clear hcz50_0
                            try clear hcz50_1
                            try clear hcz57_0
                            try clear hcz57_1
                            try clear hfz35_0
                            try clear hfz35_1
                            try clear hfz40_0
                            try clear hfz40_1
                            try clear hfz45_0
                            try clear hfz45_1
                            try clear hfz50_0
                            try clear hfz50_1
                            try clear hfz57_0
                            try clear hfz57_1
                            try clear hx114_0
                            try clear p1
                            try clear p114
                            try clear p15
                            try clear p2
                            try clear p3
                            try clear p6
                            try clear p9
                            try clear q1
                            try clear q114
                            try clear q15
                            try clear q9
                            obtain ⟨x11_4, x12_4, rfl, HA, HK4, HO_4, HO_11, BK121, HB⟩ := hrel
                            cases gk with
                            | zero => exact absurd HA.out (by simp [laws_FnWordsOver.l2])
                            | succ k4 =>
                              have H := HA.out
                              clear HA
                              simp only [laws_FnWordsOver.l2] at H
                              by_cases c58 : x12_4 ≥ 0
                              · rw [if_pos c58] at H
                                have c58b0 : decide (0 ≤ x12_4) = true := decide_eq_true c58
                                clear c58
                                by_cases c59 : x11_4.length < 3518437208883
                                · rw [if_pos c59] at H
                                  have LMc59 := Aside0.mk c59
                                  clear c59
                                  obtain ⟨y122, hy122⟩ : ∃ y_ : List (S29), y_ = (x11_4 ++ [(⟨10, (⟨#[]⟩ : ByteArray), 0, false, false⟩ : S29)]) := ⟨_, rfl⟩
                                  replace H : ((laws_after9.f a0 (a0.size : Int) y122).bind fun bt125 => (if bt125.2.2 = true then (if 0 ≤ x12_4 then (if x12_4 < (x4_2.length : Int) then (if bt125.2.1 = (rd x4_2 x12_4) then (laws_FnWordsOver.l2 k4 a0 x4_2 t120 y122 (wrap64 (x12_4 - 1)) t118 t119) else (some false)) else (none)) else (none)) else (some false))) = some r := by first | (rw [hy122]; with_reducible exact H) | (have H2_ := (Option.bind_some _ _).symm.trans H; rw [hy122]; with_reducible exact H2_) | (have H2_ := (Option.bind_some _ _).symm.trans H; with_reducible exact H2_) | with_reducible exact H | (rw [hy122]; exact H) | exact H
                                  have Ny122 := Aside0.mk hy122
                                  clear hy122
                                  replace H := Option.bind_eq_some_iff.mp H
                                  obtain ⟨⟨t125, t126, t127⟩, A600, H⟩ := H
                                  replace H : (if t127 = true then (if 0 ≤ x12_4 then (if x12_4 < (x4_2.length : Int) then (if t126 = (rd x4_2 x12_4) then (laws_FnWordsOver.l2 k4 a0 x4_2 t120 y122 (wrap64 (x12_4 - 1)) t118 t119) else (some false)) else (none)) else (none)) else (some false)) = some r := H
                                  have A60 := Aside0.mk A600
                                  clear A600
                                  by_cases c61 : t127 = true
                                  · subst c61
                                    have H1 : (if 0 ≤ x12_4 then (if x12_4 < (x4_2.length : Int) then (if t126 = (rd x4_2 x12_4) then (laws_FnWordsOver.l2 k4 a0 x4_2 t120 y122 (wrap64 (x12_4 - 1)) t118 t119) else (some false)) else (none)) else (none)) = some r := by rw [if_pos rfl] at H; exact H
                                    clear H
                                    have H := H1
                                    clear H1
                                    by_cases c62 : 0 ≤ x12_4
                                    · rw [if_pos c62] at H
                                      have c62b0 : decide (0 ≤ x12_4) = true := decide_eq_true c62
                                      clear c62
                                      by_cases c63 : x12_4 < (x4_2.length : Int)
                                      · rw [if_pos c63] at H
                                        have c63b0 : decide (x12_4 < (x4_2.length : Int)) = true := decide_eq_true c63
                                        clear c63
                                        by_cases c64 : t126 = (rd x4_2 x12_4)
                                        · rw [if_pos c64] at H
                                          have c64b0 : (t126 == (rd x4_2 x12_4)) = true := beq_iff_eq.mpr c64
                                          have c64b1 : (t126 != (rd x4_2 x12_4)) = false := bne_eq_false_iff_eq.mpr c64
                                          clear c64
                                          have H' := Aside0.mk H
                                          clear H
                                          go_wp2_with (first | ((with_reducible refine gate_builtin (b := .append) (xs := #[.tmp 106, .tmp 108]) rfl ?_); (try (refine gate_guard (by rfl) ?_; dsimp only)); at_builtin; refine Kd.R_append k29 (w0 := w) w.heap.size rfl (.tmp 106) (.tmp 108) 26 29 (.agg #[(.int .i64 0), (.string ⟨#[]⟩), (.int .i64 0), (.bool false), (.bool false)]) 40 rfl Tryd.underlying26 info29 rfl (by decide) (by omega) u11 x11_4 (⟨10, (⟨#[]⟩ : ByteArray), 0, false, false⟩ : S29) [.int .i64 10, .string (⟨#[]⟩ : ByteArray), .int .i64 0, .bool false, .bool false] (fun _ => True) (fun _ => False) rfl rfl ?aP (fun _ hk => hk.elim) ?aF ?aO ?aB ?aS ?aL ?_; (case aP => exact k29_mkM _ _ _ (⟨10, (⟨#[]⟩ : ByteArray), 0, false, false⟩ : S29)); (case aB => exact (by repeat (first | (with_reducible first | exact HB.out | apply below_alloc | apply pw_below_drewN | apply below_drew1 | refine below_set ?_ GE121.out) | exact HB.out))); (case aF => exact (fun _ _ => trivial)); (case aO => exact (by (with_reducible repeat (first | apply Kd.R_alloc | apply Kd.R_drewN | apply Kd.R_drew)); exact HO_11.out)); (case aS => exact (below_size (by repeat (first | (with_reducible first | exact HB.out | apply below_alloc | apply pw_below_drewN | apply below_drew1 | refine below_set ?_ GE121.out) | exact HB.out)))); (case aL => have := LMc59.out; omega); intro v123 w65 ho hb hg hat; rw [← Ny122.out] at ho; have n0_ := Aside0.mk (Kd.R_over' (by (with_reducible repeat (first | apply Kd.R_alloc | apply Kd.R_drewN | apply Kd.R_drew)); exact HO_4.out) (Kd.R_typed (by (with_reducible repeat (first | apply Kd.R_alloc | apply Kd.R_drewN | apply Kd.R_drew)); exact HO_11.out)) (by decide) hg); have n1_ := Aside0.mk (blk_grown (g := gb121) (o := .cells #[.string t118, .int .i64 t119] 23 (0, 0)) (by (with_reducible repeat (first | refine blk_drewN ?_ _ | refine blk_drew ?_ | refine blk_alloc ?_ _)); exact BK121.out) hg (Kd.R_ne HO_11.out BK121.out (by decide))); have n2_ := Aside0.mk (hb); have n3_ := Aside0.mk (ho); clear HO_4; clear BK121; clear HB; clear HO_11; have HO_4 := n0_; have BK121 := n1_; have HB := n2_; have HO124 := n3_; clear n0_ n1_ n2_ n3_; clear ho hb hg hat; obtain ⟨Ao66, co66, eo66⟩ := Kd.R_slice HO124.out; subst eo66) | (go_at_call 15; (with_reducible refine (laws_after9.calls a0 (a0.size : Int) _ _ y122 t125 t126 true _ ?side1 ?side2 A60.out).mono ?_); (case side1 => repeat (first | exact (Kd.R_reads' HO124.out).2.2 | (with_reducible refine Kd.C_alloc ?_ _) | (with_reducible refine Kd.C_drewN ?_ _) | (with_reducible refine Kd.C_drew ?_))); (case side2 => exact (Kd.R_reads' HO124.out).2.1); rintro e w67 ⟨rfl, hb⟩; have n0_ := Aside0.mk (Kd.R_below (by (with_reducible repeat (first | apply Kd.R_alloc | apply Kd.R_drewN | apply Kd.R_drew)); exact HO_4.out) hb); have n1_ := Aside0.mk (Kd.R_below (by (with_reducible repeat (first | apply Kd.R_alloc | apply Kd.R_drewN | apply Kd.R_drew)); exact HO124.out) hb); have n2_ := Aside0.mk (blk_below (g := gb121) (o := .cells #[.string t118, .int .i64 t119] 23 (0, 0)) (by (with_reducible repeat (first | refine blk_drewN ?_ _ | refine blk_drew ?_ | refine blk_alloc ?_ _)); exact BK121.out) hb); have n3_ := Aside0.mk (below_step (by repeat (first | (with_reducible first | exact HB.out | apply below_alloc | apply pw_below_drewN | apply below_drew1 | refine below_set ?_ GE121.out) | exact HB.out)) hb); clear HO_4; clear HO124; clear BK121; clear HB; have HO_4 := n0_; have HO124 := n1_; have BK121 := n2_; have HB := n3_; clear n0_ n1_ n2_ n3_; (try clear hb); (try clear hb2); (try clear hk); (try clear hi)) | ((with_reducible refine gate_dst (N := 13) rfl ?_); (try (refine gate_guard (by rfl) ?_; dsimp only)); refine box_event ?hg (N := 13) ?hd (cs := #[.string (⟨#[]⟩ : ByteArray), .int .i64 0]) (t := 23) ?hr ?_; (case hd => rfl); (case hg => rfl); (case hr => first | (go_simp; done) | (go_simp; rfl)); intro gb128 hg w68 hbox hb; have n0_ := Aside0.mk (Kd.R_below (by (with_reducible repeat (first | apply Kd.R_alloc | apply Kd.R_drewN | apply Kd.R_drew)); exact HO_4.out) hb); have n1_ := Aside0.mk (Kd.R_below (by (with_reducible repeat (first | apply Kd.R_alloc | apply Kd.R_drewN | apply Kd.R_drew)); exact HO124.out) hb); have n2_ := Aside0.mk (blk_below (g := gb121) (o := .cells #[.string t118, .int .i64 t119] 23 (0, 0)) (by (with_reducible repeat (first | refine blk_drewN ?_ _ | refine blk_drew ?_ | refine blk_alloc ?_ _)); exact BK121.out) hb); have n3_ := Aside0.mk (below_step (by repeat (first | (with_reducible first | exact HB.out | apply below_alloc | apply pw_below_drewN | apply below_drew1 | refine below_set ?_ GE121.out) | exact HB.out)) hb); have n4_ := Aside0.mk (hbox); have n5_ := Aside0.mk ((by rw [hg]; exact (below_size (by repeat (first | (with_reducible first | exact HB.out | apply below_alloc | apply pw_below_drewN | apply below_drew1 | refine below_set ?_ GE121.out) | exact HB.out))) : w.heap.size ≤ gb128)); have n6_ := Aside0.mk ((by rw [hg]; exact (below_size (by repeat (first | (with_reducible first | exact HB.out | apply below_alloc | apply pw_below_drewN | apply below_drew1 | refine below_set ?_ GE121.out) | exact HB.out))) : w.heap.size ≤ gb128)); have n7_ := Aside0.mk ((by rw [hg]; exact Nat.ne_of_lt (blk_lt (g := gb121) (o := .cells #[.string t118, .int .i64 t119] 23 (0, 0)) (by (with_reducible repeat (first | refine blk_drewN ?_ _ | refine blk_drew ?_ | refine blk_alloc ?_ _)); exact BK121.out)) : gb121 ≠ gb128)); have n8_ := Aside0.mk ((by rw [hg]; exact Nat.ne_of_gt (blk_lt (g := gb121) (o := .cells #[.string t118, .int .i64 t119] 23 (0, 0)) (by (with_reducible repeat (first | refine blk_drewN ?_ _ | refine blk_drew ?_ | refine blk_alloc ?_ _)); exact BK121.out)) : gb128 ≠ gb121)); clear HO_4; clear HO124; clear BK121; clear HB; have HO_4 := n0_; have HO124 := n1_; have BK121 := n2_; have HB := n3_; have BK128 := n4_; have GW128 := n5_; have GE128 := n6_; have NB121_128 := n7_; have NB128_121 := n8_; clear n0_ n1_ n2_ n3_ n4_ n5_ n6_ n7_ n8_; clear hb hbox hg; have hnb69 := NB128_121.out; have hnc69 := NB121_128.out; have hcz70_0 : w68.cell? ⟨gb128, 0, none⟩ = some (.string (⟨#[]⟩ : ByteArray)) := (blk_cell BK128.out 0).trans rfl; have hcz70_1 : w68.cell? ⟨gb128, 1, none⟩ = some (.int .i64 0) := (blk_cell BK128.out 1).trans rfl; have hfz70_0 := blk_frozen BK128.out 0; have hfz70_1 := blk_frozen BK128.out 1; have p129 : 0 ≤ (x12_4 : Int) := of_decide_eq_true (by first | (with_reducible assumption) | assumption); have q129 : x12_4 < (x4_2.length : Int) := of_decide_eq_true (by first | (with_reducible assumption) | assumption); obtain ⟨ad129, e129, hx129_0⟩ := Kd.at_int (Kd.R_reads' HO_4.out).2.2 x12_4 p129 q129; cases e129; have hn129_0 : ad129.block ≠ gb128 := Kd.own_blk (Kd.R_ne HO_4.out BK128.out (by decide)); have hn129_1 : ad129.block ≠ gb128 := Kd.own_blk (Kd.R_ne HO_4.out BK128.out (by decide)); replace hx129_0 := (cell_far (p := ⟨gb128, 0, none⟩) (by first | (rw [Go.Proofs.YtdinikcfhpfojaaDoorW.PrintWords.add_block]; exact hn129_0) | (show (Addr.add _ _).block ≠ _; rw [Go.Proofs.YtdinikcfhpfojaaDoorW.PrintWords.add_block]; exact hn129_0) | exact hn129_0) (.string t125)).trans hx129_0; replace hx129_0 := (cell_far (p := ⟨gb128, 1, none⟩) (by first | (rw [Go.Proofs.YtdinikcfhpfojaaDoorW.PrintWords.add_block]; exact hn129_1) | (show (Addr.add _ _).block ≠ _; rw [Go.Proofs.YtdinikcfhpfojaaDoorW.PrintWords.add_block]; exact hn129_1) | exact hn129_1) (.int .i64 t126)).trans hx129_0; (try have hy129_0 := fun (n_ : Nat) => (show ((((w68.drewN n_).setCell ⟨gb128, 0, none⟩ (.string t125)).setCell ⟨gb128, 1, none⟩ (.int .i64 t126))).cell? _ = some _ from hx129_0)); clear hn129_0; clear hn129_1; replace p129 := eq_true p129; replace q129 := eq_true q129))
                                          repeat (go_quiet (first | ((with_reducible refine gate_builtin (b := .append) (xs := #[.tmp 106, .tmp 108]) rfl ?_); (try (refine gate_guard (by rfl) ?_; dsimp only)); at_builtin; refine Kd.R_append k29 (w0 := w) w.heap.size rfl (.tmp 106) (.tmp 108) 26 29 (.agg #[(.int .i64 0), (.string ⟨#[]⟩), (.int .i64 0), (.bool false), (.bool false)]) 40 rfl Tryd.underlying26 info29 rfl (by decide) (by omega) u11 x11_4 (⟨10, (⟨#[]⟩ : ByteArray), 0, false, false⟩ : S29) [.int .i64 10, .string (⟨#[]⟩ : ByteArray), .int .i64 0, .bool false, .bool false] (fun _ => True) (fun _ => False) rfl rfl ?aP (fun _ hk => hk.elim) ?aF ?aO ?aB ?aS ?aL ?_; (case aP => exact k29_mkM _ _ _ (⟨10, (⟨#[]⟩ : ByteArray), 0, false, false⟩ : S29)); (case aB => exact (by repeat (first | (with_reducible first | exact HB.out | apply below_alloc | apply pw_below_drewN | apply below_drew1 | refine below_set ?_ GE121.out) | exact HB.out))); (case aF => exact (fun _ _ => trivial)); (case aO => exact (by (with_reducible repeat (first | apply Kd.R_alloc | apply Kd.R_drewN | apply Kd.R_drew)); exact HO_11.out)); (case aS => exact (below_size (by repeat (first | (with_reducible first | exact HB.out | apply below_alloc | apply pw_below_drewN | apply below_drew1 | refine below_set ?_ GE121.out) | exact HB.out)))); (case aL => have := LMc59.out; omega); intro v123 w65 ho hb hg hat; rw [← Ny122.out] at ho; have n0_ := Aside0.mk (Kd.R_over' (by (with_reducible repeat (first | apply Kd.R_alloc | apply Kd.R_drewN | apply Kd.R_drew)); exact HO_4.out) (Kd.R_typed (by (with_reducible repeat (first | apply Kd.R_alloc | apply Kd.R_drewN | apply Kd.R_drew)); exact HO_11.out)) (by decide) hg); have n1_ := Aside0.mk (blk_grown (g := gb121) (o := .cells #[.string t118, .int .i64 t119] 23 (0, 0)) (by (with_reducible repeat (first | refine blk_drewN ?_ _ | refine blk_drew ?_ | refine blk_alloc ?_ _)); exact BK121.out) hg (Kd.R_ne HO_11.out BK121.out (by decide))); have n2_ := Aside0.mk (hb); have n3_ := Aside0.mk (ho); clear HO_4; clear BK121; clear HB; clear HO_11; have HO_4 := n0_; have BK121 := n1_; have HB := n2_; have HO124 := n3_; clear n0_ n1_ n2_ n3_; clear ho hb hg hat; obtain ⟨Ao66, co66, eo66⟩ := Kd.R_slice HO124.out; subst eo66) | (go_at_call 15; (with_reducible refine (laws_after9.calls a0 (a0.size : Int) _ _ y122 t125 t126 true _ ?side1 ?side2 A60.out).mono ?_); (case side1 => repeat (first | exact (Kd.R_reads' HO124.out).2.2 | (with_reducible refine Kd.C_alloc ?_ _) | (with_reducible refine Kd.C_drewN ?_ _) | (with_reducible refine Kd.C_drew ?_))); (case side2 => exact (Kd.R_reads' HO124.out).2.1); rintro e w67 ⟨rfl, hb⟩; have n0_ := Aside0.mk (Kd.R_below (by (with_reducible repeat (first | apply Kd.R_alloc | apply Kd.R_drewN | apply Kd.R_drew)); exact HO_4.out) hb); have n1_ := Aside0.mk (Kd.R_below (by (with_reducible repeat (first | apply Kd.R_alloc | apply Kd.R_drewN | apply Kd.R_drew)); exact HO124.out) hb); have n2_ := Aside0.mk (blk_below (g := gb121) (o := .cells #[.string t118, .int .i64 t119] 23 (0, 0)) (by (with_reducible repeat (first | refine blk_drewN ?_ _ | refine blk_drew ?_ | refine blk_alloc ?_ _)); exact BK121.out) hb); have n3_ := Aside0.mk (below_step (by repeat (first | (with_reducible first | exact HB.out | apply below_alloc | apply pw_below_drewN | apply below_drew1 | refine below_set ?_ GE121.out) | exact HB.out)) hb); clear HO_4; clear HO124; clear BK121; clear HB; have HO_4 := n0_; have HO124 := n1_; have BK121 := n2_; have HB := n3_; clear n0_ n1_ n2_ n3_; (try clear hb); (try clear hb2); (try clear hk); (try clear hi)) | ((with_reducible refine gate_dst (N := 13) rfl ?_); (try (refine gate_guard (by rfl) ?_; dsimp only)); refine box_event ?hg (N := 13) ?hd (cs := #[.string (⟨#[]⟩ : ByteArray), .int .i64 0]) (t := 23) ?hr ?_; (case hd => rfl); (case hg => rfl); (case hr => first | (go_simp; done) | (go_simp; rfl)); intro gb128 hg w68 hbox hb; have n0_ := Aside0.mk (Kd.R_below (by (with_reducible repeat (first | apply Kd.R_alloc | apply Kd.R_drewN | apply Kd.R_drew)); exact HO_4.out) hb); have n1_ := Aside0.mk (Kd.R_below (by (with_reducible repeat (first | apply Kd.R_alloc | apply Kd.R_drewN | apply Kd.R_drew)); exact HO124.out) hb); have n2_ := Aside0.mk (blk_below (g := gb121) (o := .cells #[.string t118, .int .i64 t119] 23 (0, 0)) (by (with_reducible repeat (first | refine blk_drewN ?_ _ | refine blk_drew ?_ | refine blk_alloc ?_ _)); exact BK121.out) hb); have n3_ := Aside0.mk (below_step (by repeat (first | (with_reducible first | exact HB.out | apply below_alloc | apply pw_below_drewN | apply below_drew1 | refine below_set ?_ GE121.out) | exact HB.out)) hb); have n4_ := Aside0.mk (hbox); have n5_ := Aside0.mk ((by rw [hg]; exact (below_size (by repeat (first | (with_reducible first | exact HB.out | apply below_alloc | apply pw_below_drewN | apply below_drew1 | refine below_set ?_ GE121.out) | exact HB.out))) : w.heap.size ≤ gb128)); have n6_ := Aside0.mk ((by rw [hg]; exact (below_size (by repeat (first | (with_reducible first | exact HB.out | apply below_alloc | apply pw_below_drewN | apply below_drew1 | refine below_set ?_ GE121.out) | exact HB.out))) : w.heap.size ≤ gb128)); have n7_ := Aside0.mk ((by rw [hg]; exact Nat.ne_of_lt (blk_lt (g := gb121) (o := .cells #[.string t118, .int .i64 t119] 23 (0, 0)) (by (with_reducible repeat (first | refine blk_drewN ?_ _ | refine blk_drew ?_ | refine blk_alloc ?_ _)); exact BK121.out)) : gb121 ≠ gb128)); have n8_ := Aside0.mk ((by rw [hg]; exact Nat.ne_of_gt (blk_lt (g := gb121) (o := .cells #[.string t118, .int .i64 t119] 23 (0, 0)) (by (with_reducible repeat (first | refine blk_drewN ?_ _ | refine blk_drew ?_ | refine blk_alloc ?_ _)); exact BK121.out)) : gb128 ≠ gb121)); clear HO_4; clear HO124; clear BK121; clear HB; have HO_4 := n0_; have HO124 := n1_; have BK121 := n2_; have HB := n3_; have BK128 := n4_; have GW128 := n5_; have GE128 := n6_; have NB121_128 := n7_; have NB128_121 := n8_; clear n0_ n1_ n2_ n3_ n4_ n5_ n6_ n7_ n8_; clear hb hbox hg; have hnb69 := NB128_121.out; have hnc69 := NB121_128.out; have hcz70_0 : w68.cell? ⟨gb128, 0, none⟩ = some (.string (⟨#[]⟩ : ByteArray)) := (blk_cell BK128.out 0).trans rfl; have hcz70_1 : w68.cell? ⟨gb128, 1, none⟩ = some (.int .i64 0) := (blk_cell BK128.out 1).trans rfl; have hfz70_0 := blk_frozen BK128.out 0; have hfz70_1 := blk_frozen BK128.out 1; have p129 : 0 ≤ (x12_4 : Int) := of_decide_eq_true (by first | (with_reducible assumption) | assumption); have q129 : x12_4 < (x4_2.length : Int) := of_decide_eq_true (by first | (with_reducible assumption) | assumption); obtain ⟨ad129, e129, hx129_0⟩ := Kd.at_int (Kd.R_reads' HO_4.out).2.2 x12_4 p129 q129; cases e129; have hn129_0 : ad129.block ≠ gb128 := Kd.own_blk (Kd.R_ne HO_4.out BK128.out (by decide)); have hn129_1 : ad129.block ≠ gb128 := Kd.own_blk (Kd.R_ne HO_4.out BK128.out (by decide)); replace hx129_0 := (cell_far (p := ⟨gb128, 0, none⟩) (by first | (rw [Go.Proofs.YtdinikcfhpfojaaDoorW.PrintWords.add_block]; exact hn129_0) | (show (Addr.add _ _).block ≠ _; rw [Go.Proofs.YtdinikcfhpfojaaDoorW.PrintWords.add_block]; exact hn129_0) | exact hn129_0) (.string t125)).trans hx129_0; replace hx129_0 := (cell_far (p := ⟨gb128, 1, none⟩) (by first | (rw [Go.Proofs.YtdinikcfhpfojaaDoorW.PrintWords.add_block]; exact hn129_1) | (show (Addr.add _ _).block ≠ _; rw [Go.Proofs.YtdinikcfhpfojaaDoorW.PrintWords.add_block]; exact hn129_1) | exact hn129_1) (.int .i64 t126)).trans hx129_0; (try have hy129_0 := fun (n_ : Nat) => (show ((((w68.drewN n_).setCell ⟨gb128, 0, none⟩ (.string t125)).setCell ⟨gb128, 1, none⟩ (.int .i64 t126))).cell? _ = some _ from hx129_0)); clear hn129_0; clear hn129_1; replace p129 := eq_true p129; replace q129 := eq_true q129)); try go_wp2_with (first | ((with_reducible refine gate_builtin (b := .append) (xs := #[.tmp 106, .tmp 108]) rfl ?_); (try (refine gate_guard (by rfl) ?_; dsimp only)); at_builtin; refine Kd.R_append k29 (w0 := w) w.heap.size rfl (.tmp 106) (.tmp 108) 26 29 (.agg #[(.int .i64 0), (.string ⟨#[]⟩), (.int .i64 0), (.bool false), (.bool false)]) 40 rfl Tryd.underlying26 info29 rfl (by decide) (by omega) u11 x11_4 (⟨10, (⟨#[]⟩ : ByteArray), 0, false, false⟩ : S29) [.int .i64 10, .string (⟨#[]⟩ : ByteArray), .int .i64 0, .bool false, .bool false] (fun _ => True) (fun _ => False) rfl rfl ?aP (fun _ hk => hk.elim) ?aF ?aO ?aB ?aS ?aL ?_; (case aP => exact k29_mkM _ _ _ (⟨10, (⟨#[]⟩ : ByteArray), 0, false, false⟩ : S29)); (case aB => exact (by repeat (first | (with_reducible first | exact HB.out | apply below_alloc | apply pw_below_drewN | apply below_drew1 | refine below_set ?_ GE121.out) | exact HB.out))); (case aF => exact (fun _ _ => trivial)); (case aO => exact (by (with_reducible repeat (first | apply Kd.R_alloc | apply Kd.R_drewN | apply Kd.R_drew)); exact HO_11.out)); (case aS => exact (below_size (by repeat (first | (with_reducible first | exact HB.out | apply below_alloc | apply pw_below_drewN | apply below_drew1 | refine below_set ?_ GE121.out) | exact HB.out)))); (case aL => have := LMc59.out; omega); intro v123 w65 ho hb hg hat; rw [← Ny122.out] at ho; have n0_ := Aside0.mk (Kd.R_over' (by (with_reducible repeat (first | apply Kd.R_alloc | apply Kd.R_drewN | apply Kd.R_drew)); exact HO_4.out) (Kd.R_typed (by (with_reducible repeat (first | apply Kd.R_alloc | apply Kd.R_drewN | apply Kd.R_drew)); exact HO_11.out)) (by decide) hg); have n1_ := Aside0.mk (blk_grown (g := gb121) (o := .cells #[.string t118, .int .i64 t119] 23 (0, 0)) (by (with_reducible repeat (first | refine blk_drewN ?_ _ | refine blk_drew ?_ | refine blk_alloc ?_ _)); exact BK121.out) hg (Kd.R_ne HO_11.out BK121.out (by decide))); have n2_ := Aside0.mk (hb); have n3_ := Aside0.mk (ho); clear HO_4; clear BK121; clear HB; clear HO_11; have HO_4 := n0_; have BK121 := n1_; have HB := n2_; have HO124 := n3_; clear n0_ n1_ n2_ n3_; clear ho hb hg hat; obtain ⟨Ao66, co66, eo66⟩ := Kd.R_slice HO124.out; subst eo66) | (go_at_call 15; (with_reducible refine (laws_after9.calls a0 (a0.size : Int) _ _ y122 t125 t126 true _ ?side1 ?side2 A60.out).mono ?_); (case side1 => repeat (first | exact (Kd.R_reads' HO124.out).2.2 | (with_reducible refine Kd.C_alloc ?_ _) | (with_reducible refine Kd.C_drewN ?_ _) | (with_reducible refine Kd.C_drew ?_))); (case side2 => exact (Kd.R_reads' HO124.out).2.1); rintro e w67 ⟨rfl, hb⟩; have n0_ := Aside0.mk (Kd.R_below (by (with_reducible repeat (first | apply Kd.R_alloc | apply Kd.R_drewN | apply Kd.R_drew)); exact HO_4.out) hb); have n1_ := Aside0.mk (Kd.R_below (by (with_reducible repeat (first | apply Kd.R_alloc | apply Kd.R_drewN | apply Kd.R_drew)); exact HO124.out) hb); have n2_ := Aside0.mk (blk_below (g := gb121) (o := .cells #[.string t118, .int .i64 t119] 23 (0, 0)) (by (with_reducible repeat (first | refine blk_drewN ?_ _ | refine blk_drew ?_ | refine blk_alloc ?_ _)); exact BK121.out) hb); have n3_ := Aside0.mk (below_step (by repeat (first | (with_reducible first | exact HB.out | apply below_alloc | apply pw_below_drewN | apply below_drew1 | refine below_set ?_ GE121.out) | exact HB.out)) hb); clear HO_4; clear HO124; clear BK121; clear HB; have HO_4 := n0_; have HO124 := n1_; have BK121 := n2_; have HB := n3_; clear n0_ n1_ n2_ n3_; (try clear hb); (try clear hb2); (try clear hk); (try clear hi)) | ((with_reducible refine gate_dst (N := 13) rfl ?_); (try (refine gate_guard (by rfl) ?_; dsimp only)); refine box_event ?hg (N := 13) ?hd (cs := #[.string (⟨#[]⟩ : ByteArray), .int .i64 0]) (t := 23) ?hr ?_; (case hd => rfl); (case hg => rfl); (case hr => first | (go_simp; done) | (go_simp; rfl)); intro gb128 hg w68 hbox hb; have n0_ := Aside0.mk (Kd.R_below (by (with_reducible repeat (first | apply Kd.R_alloc | apply Kd.R_drewN | apply Kd.R_drew)); exact HO_4.out) hb); have n1_ := Aside0.mk (Kd.R_below (by (with_reducible repeat (first | apply Kd.R_alloc | apply Kd.R_drewN | apply Kd.R_drew)); exact HO124.out) hb); have n2_ := Aside0.mk (blk_below (g := gb121) (o := .cells #[.string t118, .int .i64 t119] 23 (0, 0)) (by (with_reducible repeat (first | refine blk_drewN ?_ _ | refine blk_drew ?_ | refine blk_alloc ?_ _)); exact BK121.out) hb); have n3_ := Aside0.mk (below_step (by repeat (first | (with_reducible first | exact HB.out | apply below_alloc | apply pw_below_drewN | apply below_drew1 | refine below_set ?_ GE121.out) | exact HB.out)) hb); have n4_ := Aside0.mk (hbox); have n5_ := Aside0.mk ((by rw [hg]; exact (below_size (by repeat (first | (with_reducible first | exact HB.out | apply below_alloc | apply pw_below_drewN | apply below_drew1 | refine below_set ?_ GE121.out) | exact HB.out))) : w.heap.size ≤ gb128)); have n6_ := Aside0.mk ((by rw [hg]; exact (below_size (by repeat (first | (with_reducible first | exact HB.out | apply below_alloc | apply pw_below_drewN | apply below_drew1 | refine below_set ?_ GE121.out) | exact HB.out))) : w.heap.size ≤ gb128)); have n7_ := Aside0.mk ((by rw [hg]; exact Nat.ne_of_lt (blk_lt (g := gb121) (o := .cells #[.string t118, .int .i64 t119] 23 (0, 0)) (by (with_reducible repeat (first | refine blk_drewN ?_ _ | refine blk_drew ?_ | refine blk_alloc ?_ _)); exact BK121.out)) : gb121 ≠ gb128)); have n8_ := Aside0.mk ((by rw [hg]; exact Nat.ne_of_gt (blk_lt (g := gb121) (o := .cells #[.string t118, .int .i64 t119] 23 (0, 0)) (by (with_reducible repeat (first | refine blk_drewN ?_ _ | refine blk_drew ?_ | refine blk_alloc ?_ _)); exact BK121.out)) : gb128 ≠ gb121)); clear HO_4; clear HO124; clear BK121; clear HB; have HO_4 := n0_; have HO124 := n1_; have BK121 := n2_; have HB := n3_; have BK128 := n4_; have GW128 := n5_; have GE128 := n6_; have NB121_128 := n7_; have NB128_121 := n8_; clear n0_ n1_ n2_ n3_ n4_ n5_ n6_ n7_ n8_; clear hb hbox hg; have hnb69 := NB128_121.out; have hnc69 := NB121_128.out; have hcz70_0 : w68.cell? ⟨gb128, 0, none⟩ = some (.string (⟨#[]⟩ : ByteArray)) := (blk_cell BK128.out 0).trans rfl; have hcz70_1 : w68.cell? ⟨gb128, 1, none⟩ = some (.int .i64 0) := (blk_cell BK128.out 1).trans rfl; have hfz70_0 := blk_frozen BK128.out 0; have hfz70_1 := blk_frozen BK128.out 1; have p129 : 0 ≤ (x12_4 : Int) := of_decide_eq_true (by first | (with_reducible assumption) | assumption); have q129 : x12_4 < (x4_2.length : Int) := of_decide_eq_true (by first | (with_reducible assumption) | assumption); obtain ⟨ad129, e129, hx129_0⟩ := Kd.at_int (Kd.R_reads' HO_4.out).2.2 x12_4 p129 q129; cases e129; have hn129_0 : ad129.block ≠ gb128 := Kd.own_blk (Kd.R_ne HO_4.out BK128.out (by decide)); have hn129_1 : ad129.block ≠ gb128 := Kd.own_blk (Kd.R_ne HO_4.out BK128.out (by decide)); replace hx129_0 := (cell_far (p := ⟨gb128, 0, none⟩) (by first | (rw [Go.Proofs.YtdinikcfhpfojaaDoorW.PrintWords.add_block]; exact hn129_0) | (show (Addr.add _ _).block ≠ _; rw [Go.Proofs.YtdinikcfhpfojaaDoorW.PrintWords.add_block]; exact hn129_0) | exact hn129_0) (.string t125)).trans hx129_0; replace hx129_0 := (cell_far (p := ⟨gb128, 1, none⟩) (by first | (rw [Go.Proofs.YtdinikcfhpfojaaDoorW.PrintWords.add_block]; exact hn129_1) | (show (Addr.add _ _).block ≠ _; rw [Go.Proofs.YtdinikcfhpfojaaDoorW.PrintWords.add_block]; exact hn129_1) | exact hn129_1) (.int .i64 t126)).trans hx129_0; (try have hy129_0 := fun (n_ : Nat) => (show ((((w68.drewN n_).setCell ⟨gb128, 0, none⟩ (.string t125)).setCell ⟨gb128, 1, none⟩ (.int .i64 t126))).cell? _ = some _ from hx129_0)); clear hn129_0; clear hn129_1; replace p129 := eq_true p129; replace q129 := eq_true q129)))
                                          go_roundg k4
                                          case measure => have := HJ2.out; have := HK2.out; have := HK3.out; have := HK4.out; omega
                                          case rel => exact ⟨(y122), (wrap64 (x12_4 - 1)), (by first | rfl | (simp; done) | (simp [*]; done)), H', ⟨by have := HJ2.out; have := HK2.out; have := HK3.out; have := HK4.out; omega⟩, ⟨by (with_reducible repeat (first | apply Kd.R_alloc | apply Kd.R_drewN | apply Kd.R_drew)); exact Kd.R_mono (Kd.R_far (p := ⟨gb128, 1, none⟩) (Kd.R_far (p := ⟨gb128, 0, none⟩) (Kd.R_types HO_4.out BK128.out (by decide)) (fun _ hk => hk.2) (.string t125)) (fun _ hk => hk.2) (.int .i64 t126)) (fun _ hk => trivial)⟩, ⟨by (with_reducible repeat (first | apply Kd.R_alloc | apply Kd.R_drewN | apply Kd.R_drew)); exact Kd.R_mono (Kd.R_far (p := ⟨gb128, 1, none⟩) (Kd.R_far (p := ⟨gb128, 0, none⟩) (Kd.R_types HO124.out BK128.out (by decide)) (fun _ hk => hk.2) (.string t125)) (fun _ hk => hk.2) (.int .i64 t126)) (fun _ hk => trivial)⟩, ⟨by (with_reducible repeat (first | refine blk_drewN ?_ _ | refine blk_drew ?_ | refine blk_alloc ?_ _)); refine blk_far ?_ NB121_128.out _; (with_reducible repeat (first | refine blk_drewN ?_ _ | refine blk_drew ?_ | refine blk_alloc ?_ _)); refine blk_far ?_ NB121_128.out _; (with_reducible repeat (first | refine blk_drewN ?_ _ | refine blk_drew ?_ | refine blk_alloc ?_ _)); exact BK121.out⟩, ⟨by repeat (first | (with_reducible first | exact HB.out | apply below_alloc | apply pw_below_drewN | apply below_drew1 | refine below_set ?_ GE121.out | refine below_set ?_ GE128.out) | exact HB.out)⟩⟩
                                        · rw [if_neg c64] at H
                                          exact absurd ((Option.some.inj H).trans hr_) (by decide)
                                      · rw [if_neg c63] at H
                                        exact absurd H (by simp)
                                    · rw [if_neg c62] at H
                                      exact absurd H (by simp)
                                  · replace c61 := Bool.eq_false_iff.mpr c61
                                    subst c61
                                    rw [if_neg Bool.false_ne_true] at H
                                    exact absurd ((Option.some.inj H).trans hr_) (by decide)
                                · rw [if_neg c59] at H
                                  exact absurd H (by simp)
                              · rw [if_neg c58] at H
                                have c58b0 : decide (0 ≤ x12_4) = false := decide_eq_false c58
                                clear c58
                                by_cases c83 : x11_4.length < 3518437208883
                                · rw [if_pos c83] at H
                                  have LMc83 := Aside0.mk c83
                                  clear c83
                                  obtain ⟨y130, hy130⟩ : ∃ y_ : List (S29), y_ = (x11_4 ++ [(⟨10, (⟨#[]⟩ : ByteArray), 0, false, false⟩ : S29)]) := ⟨_, rfl⟩
                                  replace H : ((laws_after9.f a0 (a0.size : Int) y130).bind fun bt133 => (if t120 = true then (if bt133.2.2 = true then (if t119 = (a0.size : Int) then (some (bt133.2.1 == 0)) else (some false)) else (some false)) else (some false))) = some r := by first | (rw [hy130]; with_reducible exact H) | (have H2_ := (Option.bind_some _ _).symm.trans H; rw [hy130]; with_reducible exact H2_) | (have H2_ := (Option.bind_some _ _).symm.trans H; with_reducible exact H2_) | with_reducible exact H | (rw [hy130]; exact H) | exact H
                                  have Ny130 := Aside0.mk hy130
                                  clear hy130
                                  replace H := Option.bind_eq_some_iff.mp H
                                  obtain ⟨⟨t133, t134, t135⟩, A840, H⟩ := H
                                  replace H : (if t120 = true then (if t135 = true then (if t119 = (a0.size : Int) then (some (t134 == 0)) else (some false)) else (some false)) else (some false)) = some r := H
                                  have A84 := Aside0.mk A840
                                  clear A840
                                  by_cases c85 : t120 = true
                                  · subst c85
                                    have H1 : (if t135 = true then (if t119 = (a0.size : Int) then (some (t134 == 0)) else (some false)) else (some false)) = some r := by rw [if_pos rfl] at H; exact H
                                    clear H
                                    have H := H1
                                    clear H1
                                    by_cases c86 : t135 = true
                                    · subst c86
                                      have H1 : (if t119 = (a0.size : Int) then (some (t134 == 0)) else (some false)) = some r := by rw [if_pos rfl] at H; exact H
                                      clear H
                                      have H := H1
                                      clear H1
                                      by_cases c87 : t119 = (a0.size : Int)
                                      · rw [if_pos c87] at H
                                        have c87b0 : (t119 == (a0.size : Int)) = true := beq_iff_eq.mpr c87
                                        have c87b1 : (t119 != (a0.size : Int)) = false := bne_eq_false_iff_eq.mpr c87
                                        clear c87
                                        obtain rfl := Option.some.inj H
                                        go_wp2_with (first | ((with_reducible refine gate_builtin (b := .append) (xs := #[.tmp 135, .tmp 137]) rfl ?_); (try (refine gate_guard (by rfl) ?_; dsimp only)); at_builtin; refine Kd.R_append k29 (w0 := w) w.heap.size rfl (.tmp 135) (.tmp 137) 26 29 (.agg #[(.int .i64 0), (.string ⟨#[]⟩), (.int .i64 0), (.bool false), (.bool false)]) 40 rfl Tryd.underlying26 info29 rfl (by decide) (by omega) u11 x11_4 (⟨10, (⟨#[]⟩ : ByteArray), 0, false, false⟩ : S29) [.int .i64 10, .string (⟨#[]⟩ : ByteArray), .int .i64 0, .bool false, .bool false] (fun _ => True) (fun _ => False) rfl rfl ?aP (fun _ hk => hk.elim) ?aF ?aO ?aB ?aS ?aL ?_; (case aP => exact k29_mkM _ _ _ (⟨10, (⟨#[]⟩ : ByteArray), 0, false, false⟩ : S29)); (case aB => exact (by repeat (first | (with_reducible first | exact HB.out | apply below_alloc | apply pw_below_drewN | apply below_drew1 | refine below_set ?_ GE121.out) | exact HB.out))); (case aF => exact (fun _ _ => trivial)); (case aO => exact (by (with_reducible repeat (first | apply Kd.R_alloc | apply Kd.R_drewN | apply Kd.R_drew)); exact HO_11.out)); (case aS => exact (below_size (by repeat (first | (with_reducible first | exact HB.out | apply below_alloc | apply pw_below_drewN | apply below_drew1 | refine below_set ?_ GE121.out) | exact HB.out)))); (case aL => have := LMc83.out; omega); intro v131 w88 ho hb hg hat; rw [← Ny130.out] at ho; have n0_ := Aside0.mk (Kd.R_over' (by (with_reducible repeat (first | apply Kd.R_alloc | apply Kd.R_drewN | apply Kd.R_drew)); exact HO_4.out) (Kd.R_typed (by (with_reducible repeat (first | apply Kd.R_alloc | apply Kd.R_drewN | apply Kd.R_drew)); exact HO_11.out)) (by decide) hg); have n1_ := Aside0.mk (blk_grown (g := gb121) (o := .cells #[.string t118, .int .i64 t119] 23 (0, 0)) (by (with_reducible repeat (first | refine blk_drewN ?_ _ | refine blk_drew ?_ | refine blk_alloc ?_ _)); exact BK121.out) hg (Kd.R_ne HO_11.out BK121.out (by decide))); have n2_ := Aside0.mk (hb); have n3_ := Aside0.mk (ho); clear HO_4; clear BK121; clear HB; clear HO_11; have HO_4 := n0_; have BK121 := n1_; have HB := n2_; have HO132 := n3_; clear n0_ n1_ n2_ n3_; clear ho hb hg hat; obtain ⟨Ao89, co89, eo89⟩ := Kd.R_slice HO132.out; subst eo89) | (go_at_call 15; (with_reducible refine (laws_after9.calls a0 (a0.size : Int) _ _ y130 t133 t134 true _ ?side1 ?side2 A84.out).mono ?_); (case side1 => repeat (first | exact (Kd.R_reads' HO132.out).2.2 | (with_reducible refine Kd.C_alloc ?_ _) | (with_reducible refine Kd.C_drewN ?_ _) | (with_reducible refine Kd.C_drew ?_))); (case side2 => exact (Kd.R_reads' HO132.out).2.1); rintro e w90 ⟨rfl, hb⟩; have n0_ := Aside0.mk (Kd.R_below (by (with_reducible repeat (first | apply Kd.R_alloc | apply Kd.R_drewN | apply Kd.R_drew)); exact HO_4.out) hb); have n1_ := Aside0.mk (Kd.R_below (by (with_reducible repeat (first | apply Kd.R_alloc | apply Kd.R_drewN | apply Kd.R_drew)); exact HO132.out) hb); have n2_ := Aside0.mk (blk_below (g := gb121) (o := .cells #[.string t118, .int .i64 t119] 23 (0, 0)) (by (with_reducible repeat (first | refine blk_drewN ?_ _ | refine blk_drew ?_ | refine blk_alloc ?_ _)); exact BK121.out) hb); have n3_ := Aside0.mk (below_step (by repeat (first | (with_reducible first | exact HB.out | apply below_alloc | apply pw_below_drewN | apply below_drew1 | refine below_set ?_ GE121.out) | exact HB.out)) hb); clear HO_4; clear HO132; clear BK121; clear HB; have HO_4 := n0_; have HO132 := n1_; have BK121 := n2_; have HB := n3_; clear n0_ n1_ n2_ n3_; (try clear hb); (try clear hb2); (try clear hk); (try clear hi)) | ((with_reducible refine gate_dst (N := 15) rfl ?_); (try (refine gate_guard (by rfl) ?_; dsimp only)); refine box_event ?hg (N := 15) ?hd (cs := #[.string (⟨#[]⟩ : ByteArray), .int .i64 0]) (t := 23) ?hr ?_; (case hd => rfl); (case hg => rfl); (case hr => first | (go_simp; done) | (go_simp; rfl)); intro gb136 hg w91 hbox hb; have n0_ := Aside0.mk (Kd.R_below (by (with_reducible repeat (first | apply Kd.R_alloc | apply Kd.R_drewN | apply Kd.R_drew)); exact HO_4.out) hb); have n1_ := Aside0.mk (Kd.R_below (by (with_reducible repeat (first | apply Kd.R_alloc | apply Kd.R_drewN | apply Kd.R_drew)); exact HO132.out) hb); have n2_ := Aside0.mk (blk_below (g := gb121) (o := .cells #[.string t118, .int .i64 t119] 23 (0, 0)) (by (with_reducible repeat (first | refine blk_drewN ?_ _ | refine blk_drew ?_ | refine blk_alloc ?_ _)); exact BK121.out) hb); have n3_ := Aside0.mk (below_step (by repeat (first | (with_reducible first | exact HB.out | apply below_alloc | apply pw_below_drewN | apply below_drew1 | refine below_set ?_ GE121.out) | exact HB.out)) hb); have n4_ := Aside0.mk (hbox); have n5_ := Aside0.mk ((by rw [hg]; exact (below_size (by repeat (first | (with_reducible first | exact HB.out | apply below_alloc | apply pw_below_drewN | apply below_drew1 | refine below_set ?_ GE121.out) | exact HB.out))) : w.heap.size ≤ gb136)); have n6_ := Aside0.mk ((by rw [hg]; exact (below_size (by repeat (first | (with_reducible first | exact HB.out | apply below_alloc | apply pw_below_drewN | apply below_drew1 | refine below_set ?_ GE121.out) | exact HB.out))) : w.heap.size ≤ gb136)); have n7_ := Aside0.mk ((by rw [hg]; exact Nat.ne_of_lt (blk_lt (g := gb121) (o := .cells #[.string t118, .int .i64 t119] 23 (0, 0)) (by (with_reducible repeat (first | refine blk_drewN ?_ _ | refine blk_drew ?_ | refine blk_alloc ?_ _)); exact BK121.out)) : gb121 ≠ gb136)); have n8_ := Aside0.mk ((by rw [hg]; exact Nat.ne_of_gt (blk_lt (g := gb121) (o := .cells #[.string t118, .int .i64 t119] 23 (0, 0)) (by (with_reducible repeat (first | refine blk_drewN ?_ _ | refine blk_drew ?_ | refine blk_alloc ?_ _)); exact BK121.out)) : gb136 ≠ gb121)); clear HO_4; clear HO132; clear BK121; clear HB; have HO_4 := n0_; have HO132 := n1_; have BK121 := n2_; have HB := n3_; have BK136 := n4_; have GW136 := n5_; have GE136 := n6_; have NB121_136 := n7_; have NB136_121 := n8_; clear n0_ n1_ n2_ n3_ n4_ n5_ n6_ n7_ n8_; clear hb hbox hg; have hnb92 := NB136_121.out; have hnc92 := NB121_136.out; have hcz93_0 : w91.cell? ⟨gb136, 0, none⟩ = some (.string (⟨#[]⟩ : ByteArray)) := (blk_cell BK136.out 0).trans rfl; have hcz93_1 : w91.cell? ⟨gb136, 1, none⟩ = some (.int .i64 0) := (blk_cell BK136.out 1).trans rfl; have hfz93_0 := blk_frozen BK136.out 0; have hfz93_1 := blk_frozen BK136.out 1; have hcz94_0 : w91.cell? ⟨gb121, 0, none⟩ = some (.string t118) := (blk_cell BK121.out 0).trans rfl; have hcz94_1 : w91.cell? ⟨gb121, 1, none⟩ = some (.int .i64 t119) := (blk_cell BK121.out 1).trans rfl; have hfz94_0 := blk_frozen BK121.out 0; have hfz94_1 := blk_frozen BK121.out 1))
                                        repeat (go_quiet (first | ((with_reducible refine gate_builtin (b := .append) (xs := #[.tmp 135, .tmp 137]) rfl ?_); (try (refine gate_guard (by rfl) ?_; dsimp only)); at_builtin; refine Kd.R_append k29 (w0 := w) w.heap.size rfl (.tmp 135) (.tmp 137) 26 29 (.agg #[(.int .i64 0), (.string ⟨#[]⟩), (.int .i64 0), (.bool false), (.bool false)]) 40 rfl Tryd.underlying26 info29 rfl (by decide) (by omega) u11 x11_4 (⟨10, (⟨#[]⟩ : ByteArray), 0, false, false⟩ : S29) [.int .i64 10, .string (⟨#[]⟩ : ByteArray), .int .i64 0, .bool false, .bool false] (fun _ => True) (fun _ => False) rfl rfl ?aP (fun _ hk => hk.elim) ?aF ?aO ?aB ?aS ?aL ?_; (case aP => exact k29_mkM _ _ _ (⟨10, (⟨#[]⟩ : ByteArray), 0, false, false⟩ : S29)); (case aB => exact (by repeat (first | (with_reducible first | exact HB.out | apply below_alloc | apply pw_below_drewN | apply below_drew1 | refine below_set ?_ GE121.out) | exact HB.out))); (case aF => exact (fun _ _ => trivial)); (case aO => exact (by (with_reducible repeat (first | apply Kd.R_alloc | apply Kd.R_drewN | apply Kd.R_drew)); exact HO_11.out)); (case aS => exact (below_size (by repeat (first | (with_reducible first | exact HB.out | apply below_alloc | apply pw_below_drewN | apply below_drew1 | refine below_set ?_ GE121.out) | exact HB.out)))); (case aL => have := LMc83.out; omega); intro v131 w88 ho hb hg hat; rw [← Ny130.out] at ho; have n0_ := Aside0.mk (Kd.R_over' (by (with_reducible repeat (first | apply Kd.R_alloc | apply Kd.R_drewN | apply Kd.R_drew)); exact HO_4.out) (Kd.R_typed (by (with_reducible repeat (first | apply Kd.R_alloc | apply Kd.R_drewN | apply Kd.R_drew)); exact HO_11.out)) (by decide) hg); have n1_ := Aside0.mk (blk_grown (g := gb121) (o := .cells #[.string t118, .int .i64 t119] 23 (0, 0)) (by (with_reducible repeat (first | refine blk_drewN ?_ _ | refine blk_drew ?_ | refine blk_alloc ?_ _)); exact BK121.out) hg (Kd.R_ne HO_11.out BK121.out (by decide))); have n2_ := Aside0.mk (hb); have n3_ := Aside0.mk (ho); clear HO_4; clear BK121; clear HB; clear HO_11; have HO_4 := n0_; have BK121 := n1_; have HB := n2_; have HO132 := n3_; clear n0_ n1_ n2_ n3_; clear ho hb hg hat; obtain ⟨Ao89, co89, eo89⟩ := Kd.R_slice HO132.out; subst eo89) | (go_at_call 15; (with_reducible refine (laws_after9.calls a0 (a0.size : Int) _ _ y130 t133 t134 true _ ?side1 ?side2 A84.out).mono ?_); (case side1 => repeat (first | exact (Kd.R_reads' HO132.out).2.2 | (with_reducible refine Kd.C_alloc ?_ _) | (with_reducible refine Kd.C_drewN ?_ _) | (with_reducible refine Kd.C_drew ?_))); (case side2 => exact (Kd.R_reads' HO132.out).2.1); rintro e w90 ⟨rfl, hb⟩; have n0_ := Aside0.mk (Kd.R_below (by (with_reducible repeat (first | apply Kd.R_alloc | apply Kd.R_drewN | apply Kd.R_drew)); exact HO_4.out) hb); have n1_ := Aside0.mk (Kd.R_below (by (with_reducible repeat (first | apply Kd.R_alloc | apply Kd.R_drewN | apply Kd.R_drew)); exact HO132.out) hb); have n2_ := Aside0.mk (blk_below (g := gb121) (o := .cells #[.string t118, .int .i64 t119] 23 (0, 0)) (by (with_reducible repeat (first | refine blk_drewN ?_ _ | refine blk_drew ?_ | refine blk_alloc ?_ _)); exact BK121.out) hb); have n3_ := Aside0.mk (below_step (by repeat (first | (with_reducible first | exact HB.out | apply below_alloc | apply pw_below_drewN | apply below_drew1 | refine below_set ?_ GE121.out) | exact HB.out)) hb); clear HO_4; clear HO132; clear BK121; clear HB; have HO_4 := n0_; have HO132 := n1_; have BK121 := n2_; have HB := n3_; clear n0_ n1_ n2_ n3_; (try clear hb); (try clear hb2); (try clear hk); (try clear hi)) | ((with_reducible refine gate_dst (N := 15) rfl ?_); (try (refine gate_guard (by rfl) ?_; dsimp only)); refine box_event ?hg (N := 15) ?hd (cs := #[.string (⟨#[]⟩ : ByteArray), .int .i64 0]) (t := 23) ?hr ?_; (case hd => rfl); (case hg => rfl); (case hr => first | (go_simp; done) | (go_simp; rfl)); intro gb136 hg w91 hbox hb; have n0_ := Aside0.mk (Kd.R_below (by (with_reducible repeat (first | apply Kd.R_alloc | apply Kd.R_drewN | apply Kd.R_drew)); exact HO_4.out) hb); have n1_ := Aside0.mk (Kd.R_below (by (with_reducible repeat (first | apply Kd.R_alloc | apply Kd.R_drewN | apply Kd.R_drew)); exact HO132.out) hb); have n2_ := Aside0.mk (blk_below (g := gb121) (o := .cells #[.string t118, .int .i64 t119] 23 (0, 0)) (by (with_reducible repeat (first | refine blk_drewN ?_ _ | refine blk_drew ?_ | refine blk_alloc ?_ _)); exact BK121.out) hb); have n3_ := Aside0.mk (below_step (by repeat (first | (with_reducible first | exact HB.out | apply below_alloc | apply pw_below_drewN | apply below_drew1 | refine below_set ?_ GE121.out) | exact HB.out)) hb); have n4_ := Aside0.mk (hbox); have n5_ := Aside0.mk ((by rw [hg]; exact (below_size (by repeat (first | (with_reducible first | exact HB.out | apply below_alloc | apply pw_below_drewN | apply below_drew1 | refine below_set ?_ GE121.out) | exact HB.out))) : w.heap.size ≤ gb136)); have n6_ := Aside0.mk ((by rw [hg]; exact (below_size (by repeat (first | (with_reducible first | exact HB.out | apply below_alloc | apply pw_below_drewN | apply below_drew1 | refine below_set ?_ GE121.out) | exact HB.out))) : w.heap.size ≤ gb136)); have n7_ := Aside0.mk ((by rw [hg]; exact Nat.ne_of_lt (blk_lt (g := gb121) (o := .cells #[.string t118, .int .i64 t119] 23 (0, 0)) (by (with_reducible repeat (first | refine blk_drewN ?_ _ | refine blk_drew ?_ | refine blk_alloc ?_ _)); exact BK121.out)) : gb121 ≠ gb136)); have n8_ := Aside0.mk ((by rw [hg]; exact Nat.ne_of_gt (blk_lt (g := gb121) (o := .cells #[.string t118, .int .i64 t119] 23 (0, 0)) (by (with_reducible repeat (first | refine blk_drewN ?_ _ | refine blk_drew ?_ | refine blk_alloc ?_ _)); exact BK121.out)) : gb136 ≠ gb121)); clear HO_4; clear HO132; clear BK121; clear HB; have HO_4 := n0_; have HO132 := n1_; have BK121 := n2_; have HB := n3_; have BK136 := n4_; have GW136 := n5_; have GE136 := n6_; have NB121_136 := n7_; have NB136_121 := n8_; clear n0_ n1_ n2_ n3_ n4_ n5_ n6_ n7_ n8_; clear hb hbox hg; have hnb92 := NB136_121.out; have hnc92 := NB121_136.out; have hcz93_0 : w91.cell? ⟨gb136, 0, none⟩ = some (.string (⟨#[]⟩ : ByteArray)) := (blk_cell BK136.out 0).trans rfl; have hcz93_1 : w91.cell? ⟨gb136, 1, none⟩ = some (.int .i64 0) := (blk_cell BK136.out 1).trans rfl; have hfz93_0 := blk_frozen BK136.out 0; have hfz93_1 := blk_frozen BK136.out 1; have hcz94_0 : w91.cell? ⟨gb121, 0, none⟩ = some (.string t118) := (blk_cell BK121.out 0).trans rfl; have hcz94_1 : w91.cell? ⟨gb121, 1, none⟩ = some (.int .i64 t119) := (blk_cell BK121.out 1).trans rfl; have hfz94_0 := blk_frozen BK121.out 0; have hfz94_1 := blk_frozen BK121.out 1)); try go_wp2_with (first | ((with_reducible refine gate_builtin (b := .append) (xs := #[.tmp 135, .tmp 137]) rfl ?_); (try (refine gate_guard (by rfl) ?_; dsimp only)); at_builtin; refine Kd.R_append k29 (w0 := w) w.heap.size rfl (.tmp 135) (.tmp 137) 26 29 (.agg #[(.int .i64 0), (.string ⟨#[]⟩), (.int .i64 0), (.bool false), (.bool false)]) 40 rfl Tryd.underlying26 info29 rfl (by decide) (by omega) u11 x11_4 (⟨10, (⟨#[]⟩ : ByteArray), 0, false, false⟩ : S29) [.int .i64 10, .string (⟨#[]⟩ : ByteArray), .int .i64 0, .bool false, .bool false] (fun _ => True) (fun _ => False) rfl rfl ?aP (fun _ hk => hk.elim) ?aF ?aO ?aB ?aS ?aL ?_; (case aP => exact k29_mkM _ _ _ (⟨10, (⟨#[]⟩ : ByteArray), 0, false, false⟩ : S29)); (case aB => exact (by repeat (first | (with_reducible first | exact HB.out | apply below_alloc | apply pw_below_drewN | apply below_drew1 | refine below_set ?_ GE121.out) | exact HB.out))); (case aF => exact (fun _ _ => trivial)); (case aO => exact (by (with_reducible repeat (first | apply Kd.R_alloc | apply Kd.R_drewN | apply Kd.R_drew)); exact HO_11.out)); (case aS => exact (below_size (by repeat (first | (with_reducible first | exact HB.out | apply below_alloc | apply pw_below_drewN | apply below_drew1 | refine below_set ?_ GE121.out) | exact HB.out)))); (case aL => have := LMc83.out; omega); intro v131 w88 ho hb hg hat; rw [← Ny130.out] at ho; have n0_ := Aside0.mk (Kd.R_over' (by (with_reducible repeat (first | apply Kd.R_alloc | apply Kd.R_drewN | apply Kd.R_drew)); exact HO_4.out) (Kd.R_typed (by (with_reducible repeat (first | apply Kd.R_alloc | apply Kd.R_drewN | apply Kd.R_drew)); exact HO_11.out)) (by decide) hg); have n1_ := Aside0.mk (blk_grown (g := gb121) (o := .cells #[.string t118, .int .i64 t119] 23 (0, 0)) (by (with_reducible repeat (first | refine blk_drewN ?_ _ | refine blk_drew ?_ | refine blk_alloc ?_ _)); exact BK121.out) hg (Kd.R_ne HO_11.out BK121.out (by decide))); have n2_ := Aside0.mk (hb); have n3_ := Aside0.mk (ho); clear HO_4; clear BK121; clear HB; clear HO_11; have HO_4 := n0_; have BK121 := n1_; have HB := n2_; have HO132 := n3_; clear n0_ n1_ n2_ n3_; clear ho hb hg hat; obtain ⟨Ao89, co89, eo89⟩ := Kd.R_slice HO132.out; subst eo89) | (go_at_call 15; (with_reducible refine (laws_after9.calls a0 (a0.size : Int) _ _ y130 t133 t134 true _ ?side1 ?side2 A84.out).mono ?_); (case side1 => repeat (first | exact (Kd.R_reads' HO132.out).2.2 | (with_reducible refine Kd.C_alloc ?_ _) | (with_reducible refine Kd.C_drewN ?_ _) | (with_reducible refine Kd.C_drew ?_))); (case side2 => exact (Kd.R_reads' HO132.out).2.1); rintro e w90 ⟨rfl, hb⟩; have n0_ := Aside0.mk (Kd.R_below (by (with_reducible repeat (first | apply Kd.R_alloc | apply Kd.R_drewN | apply Kd.R_drew)); exact HO_4.out) hb); have n1_ := Aside0.mk (Kd.R_below (by (with_reducible repeat (first | apply Kd.R_alloc | apply Kd.R_drewN | apply Kd.R_drew)); exact HO132.out) hb); have n2_ := Aside0.mk (blk_below (g := gb121) (o := .cells #[.string t118, .int .i64 t119] 23 (0, 0)) (by (with_reducible repeat (first | refine blk_drewN ?_ _ | refine blk_drew ?_ | refine blk_alloc ?_ _)); exact BK121.out) hb); have n3_ := Aside0.mk (below_step (by repeat (first | (with_reducible first | exact HB.out | apply below_alloc | apply pw_below_drewN | apply below_drew1 | refine below_set ?_ GE121.out) | exact HB.out)) hb); clear HO_4; clear HO132; clear BK121; clear HB; have HO_4 := n0_; have HO132 := n1_; have BK121 := n2_; have HB := n3_; clear n0_ n1_ n2_ n3_; (try clear hb); (try clear hb2); (try clear hk); (try clear hi)) | ((with_reducible refine gate_dst (N := 15) rfl ?_); (try (refine gate_guard (by rfl) ?_; dsimp only)); refine box_event ?hg (N := 15) ?hd (cs := #[.string (⟨#[]⟩ : ByteArray), .int .i64 0]) (t := 23) ?hr ?_; (case hd => rfl); (case hg => rfl); (case hr => first | (go_simp; done) | (go_simp; rfl)); intro gb136 hg w91 hbox hb; have n0_ := Aside0.mk (Kd.R_below (by (with_reducible repeat (first | apply Kd.R_alloc | apply Kd.R_drewN | apply Kd.R_drew)); exact HO_4.out) hb); have n1_ := Aside0.mk (Kd.R_below (by (with_reducible repeat (first | apply Kd.R_alloc | apply Kd.R_drewN | apply Kd.R_drew)); exact HO132.out) hb); have n2_ := Aside0.mk (blk_below (g := gb121) (o := .cells #[.string t118, .int .i64 t119] 23 (0, 0)) (by (with_reducible repeat (first | refine blk_drewN ?_ _ | refine blk_drew ?_ | refine blk_alloc ?_ _)); exact BK121.out) hb); have n3_ := Aside0.mk (below_step (by repeat (first | (with_reducible first | exact HB.out | apply below_alloc | apply pw_below_drewN | apply below_drew1 | refine below_set ?_ GE121.out) | exact HB.out)) hb); have n4_ := Aside0.mk (hbox); have n5_ := Aside0.mk ((by rw [hg]; exact (below_size (by repeat (first | (with_reducible first | exact HB.out | apply below_alloc | apply pw_below_drewN | apply below_drew1 | refine below_set ?_ GE121.out) | exact HB.out))) : w.heap.size ≤ gb136)); have n6_ := Aside0.mk ((by rw [hg]; exact (below_size (by repeat (first | (with_reducible first | exact HB.out | apply below_alloc | apply pw_below_drewN | apply below_drew1 | refine below_set ?_ GE121.out) | exact HB.out))) : w.heap.size ≤ gb136)); have n7_ := Aside0.mk ((by rw [hg]; exact Nat.ne_of_lt (blk_lt (g := gb121) (o := .cells #[.string t118, .int .i64 t119] 23 (0, 0)) (by (with_reducible repeat (first | refine blk_drewN ?_ _ | refine blk_drew ?_ | refine blk_alloc ?_ _)); exact BK121.out)) : gb121 ≠ gb136)); have n8_ := Aside0.mk ((by rw [hg]; exact Nat.ne_of_gt (blk_lt (g := gb121) (o := .cells #[.string t118, .int .i64 t119] 23 (0, 0)) (by (with_reducible repeat (first | refine blk_drewN ?_ _ | refine blk_drew ?_ | refine blk_alloc ?_ _)); exact BK121.out)) : gb136 ≠ gb121)); clear HO_4; clear HO132; clear BK121; clear HB; have HO_4 := n0_; have HO132 := n1_; have BK121 := n2_; have HB := n3_; have BK136 := n4_; have GW136 := n5_; have GE136 := n6_; have NB121_136 := n7_; have NB136_121 := n8_; clear n0_ n1_ n2_ n3_ n4_ n5_ n6_ n7_ n8_; clear hb hbox hg; have hnb92 := NB136_121.out; have hnc92 := NB121_136.out; have hcz93_0 : w91.cell? ⟨gb136, 0, none⟩ = some (.string (⟨#[]⟩ : ByteArray)) := (blk_cell BK136.out 0).trans rfl; have hcz93_1 : w91.cell? ⟨gb136, 1, none⟩ = some (.int .i64 0) := (blk_cell BK136.out 1).trans rfl; have hfz93_0 := blk_frozen BK136.out 0; have hfz93_1 := blk_frozen BK136.out 1; have hcz94_0 : w91.cell? ⟨gb121, 0, none⟩ = some (.string t118) := (blk_cell BK121.out 0).trans rfl; have hcz94_1 : w91.cell? ⟨gb121, 1, none⟩ = some (.int .i64 t119) := (blk_cell BK121.out 1).trans rfl; have hfz94_0 := blk_frozen BK121.out 0; have hfz94_1 := blk_frozen BK121.out 1)))
                                        go_ret
                                        exact ⟨by first | rfl | (simp [errW_none, errW_some] <;> rfl) | (simp [*, errW_none, errW_some] <;> rfl), by repeat (first | (with_reducible first | exact HB.out | apply below_alloc | apply pw_below_drewN | apply below_drew1 | refine below_set ?_ GE121.out | refine below_set ?_ GE136.out) | exact HB.out)⟩
                                      · rw [if_neg c87] at H
                                        exact absurd ((Option.some.inj H).trans hr_) (by decide)
                                    · replace c86 := Bool.eq_false_iff.mpr c86
                                      subst c86
                                      rw [if_neg Bool.false_ne_true] at H
                                      exact absurd ((Option.some.inj H).trans hr_) (by decide)
                                  · replace c85 := Bool.eq_false_iff.mpr c85
                                    subst c85
                                    rw [if_neg Bool.false_ne_true] at H
                                    exact absurd ((Option.some.inj H).trans hr_) (by decide)
                                · rw [if_neg c83] at H
                                  exact absurd H (by simp)
                        · rw [if_neg c51] at H
                          exact absurd H (by simp)

/-- THE ONE PURE STATEMENT of laws_FnWordsOver: yours. -/
def laws_FnWordsOver.Pure : Prop := ∀ (a0 : ByteArray), a0.size ≤ 140737488351232 → ∃ k, laws_FnWordsOver.f k a0 = some true
theorem laws_FnWordsOver.walk (P : laws_FnWordsOver.Pure) (a0 : ByteArray) (w : World) (w0 : a0.size ≤ 140737488351232) :
    Calls Tryd.prog 5 #[.string a0] w fun e w' => e = .returned (.bool true) ∧ Below w.heap.size w w' := by
  obtain ⟨k, h⟩ := P a0 w0
  refine (laws_FnWordsOver.calls k a0 true rfl w h).mono ?_
  rintro e w' ⟨rfl, hd⟩
  exact ⟨rfl, hd⟩

end Go.Proofs.YtdinikcfhpfojaaDoor.PFnWordsOver
