/- Printed by a program of this seat (xprint) out of the translation: Go functions as plain functions, and the walks that show them; no condition. -/
import Derived.Test.YtkfmjkiefckgoaaDoorPFnLinesOnex0
import Derived.Test.YtkfmjkiefckgoaaDoorHEdFnLinesOne
import Derived.Test.YtkfmjkiefckgoaaDoorPFnLinesOnex1
import Derived.Test.YtkfmjkiefckgoaaDoorPFnLinesOnex2
namespace Go.Proofs.YtkfmjkiefckgoaaDoor.PFnLinesOne
open Go.RowKit Go.Proofs.YtkfmjkiefckgoaaDoor.H Go.Proofs.YtkfmjkiefckgoaaDoor.R Go.Proofs.YtkfmjkiefckgoaaDoorW.PrintWords Go.Proofs.YtkfmjkiefckgoaaDoorW.PrintLast Go.Proofs.YtkfmjkiefckgoaaDoorW.PrintMore
attribute [local go_sem] max2_int min2_int max_two min_two max_three min_three max_four min_four   -- for this text's walks alone
set_option linter.unusedVariables false
set_option linter.unusedSimpArgs false

attribute [local go_sem high] eqA26
/-! ### laws_FnLinesOne: function 3 -/
mutual
def laws_FnLinesOne.j0 : Nat → ByteArray → ByteArray → Bool → Option (Bool)
  | 0, _, _, _ => none
  | k + 1, x0, x1, x23 => if x23 = true then (some true) else ((spec_Lines.f k x0).bind fun t123 => ((spec_ASCII.f k x0).bind fun t126 => (if t126 = true then ((spec_ASCII.f k x1).bind fun t127 => (if t127 = true then ((spec_Lines.f k x1).bind fun t128 => (if (t128.length : Int) > 1 then (laws_FnLinesOne.j1 k x0 x1 t123 true) else (if (t123.length : Int) > 20 then (laws_FnLinesOne.j1 k x0 x1 t123 true) else (laws_FnLinesOne.j1 k x0 x1 t123 (decide ((x1.size : Int) > 20)))))) else (laws_FnLinesOne.j1 k x0 x1 t123 true))) else (laws_FnLinesOne.j1 k x0 x1 t123 true))))
def laws_FnLinesOne.j1 : Nat → ByteArray → ByteArray → List ByteArray → Bool → Option (Bool)
  | 0, _, _, _, _ => none
  | k + 1, x0, x1, x5, x49 => if x49 = true then (some true) else (if 0 < (x5.length : Int) then (laws_FnLinesOne.l0 k x1 x5 (rdOf ByteArray.empty x5 0) 1 x0 0) else (none))
def laws_FnLinesOne.l0 : Nat → ByteArray → List ByteArray → ByteArray → Int → ByteArray → Int → Option (Bool)
  | 0, _, _, _, _, _, _ => none
  | k + 1, x1, x5, x6, x8, x133000, x133001 => if x8 < (x5.length : Int) then (if 0 ≤ x8 then (laws_FnLinesOne.l1 k x1 x5 x6 x8 (rdOf ByteArray.empty x5 x8) x133000 x133001) else (none)) else ((laws_one7.f x133000 x133001 10 0 x1 false).bind fun bt133 => (if bt133.2.2.2 = true then (if (bt133.1.toList == x133000.toList && (bt133.2.1 == x133001)) = true then (some (x133000.toList == x6.toList)) else (some false)) else (some false)))
def laws_FnLinesOne.l1 : Nat → ByteArray → List ByteArray → ByteArray → Int → ByteArray → ByteArray → Int → Option (Bool)
  | 0, _, _, _, _, _, _, _ => none
  | k + 1, x1, x5, x6, x8, x9, x133000, x133001 => if (x9.size : Int) > 0 then (if 0 < (x9.size : Int) then (if (bt x9 0) = 32 then (if 1 ≤ (x9.size : Int) then (laws_FnLinesOne.l1 k x1 x5 x6 x8 (x9.extract 1 x9.size) x133000 x133001) else (none)) else (if x1.size + x9.size ≤ 9223372036854775807 then (if x6.size + (x1 ++ x9).size ≤ 9223372036854775807 then ((laws_one7.f x133000 x133001 10 0 x1 false).bind fun bt139 => (if bt139.2.2.2 = true then (laws_FnLinesOne.l0 k x1 x5 (x6 ++ (x1 ++ x9)) (wrap64 (x8 + 1)) bt139.1 bt139.2.1) else (some false))) else (none)) else (none))) else (none)) else (if x1.size + x9.size ≤ 9223372036854775807 then (if x6.size + (x1 ++ x9).size ≤ 9223372036854775807 then ((laws_one7.f x133000 x133001 10 0 x1 false).bind fun bt144 => (if bt144.2.2.2 = true then (laws_FnLinesOne.l0 k x1 x5 (x6 ++ (x1 ++ x9)) (wrap64 (x8 + 1)) bt144.1 bt144.2.1) else (some false))) else (none)) else (none))
end
def laws_FnLinesOne.f (k : Nat) (a0 : ByteArray) (a1 : ByteArray) : Option (Bool) := if (a0.size : Int) > 2147483647 then (laws_FnLinesOne.j0 k a0 a1 true) else (laws_FnLinesOne.j0 k a0 a1 (decide ((a1.size : Int) > 2147483647)))
theorem laws_FnLinesOne.mono_l : ∀ k, (∀ y0 y1 y2, LeO (laws_FnLinesOne.j0 k y0 y1 y2) (laws_FnLinesOne.j0 (k + 1) y0 y1 y2)) ∧ (∀ y0 y1 y2 y3, LeO (laws_FnLinesOne.j1 k y0 y1 y2 y3) (laws_FnLinesOne.j1 (k + 1) y0 y1 y2 y3)) ∧ (∀ y0 y1 y2 y3 y4 y5, LeO (laws_FnLinesOne.l0 k y0 y1 y2 y3 y4 y5) (laws_FnLinesOne.l0 (k + 1) y0 y1 y2 y3 y4 y5)) ∧ (∀ y0 y1 y2 y3 y4 y5 y6, LeO (laws_FnLinesOne.l1 k y0 y1 y2 y3 y4 y5 y6) (laws_FnLinesOne.l1 (k + 1) y0 y1 y2 y3 y4 y5 y6))
  | 0 => ⟨fun _ _ _ r h => by simp [laws_FnLinesOne.j0] at h, fun _ _ _ _ r h => by simp [laws_FnLinesOne.j1] at h, fun _ _ _ _ _ _ r h => by simp [laws_FnLinesOne.l0] at h, fun _ _ _ _ _ _ _ r h => by simp [laws_FnLinesOne.l1] at h⟩
  | k + 1 => by
    obtain ⟨ih0, ih1, ih2, ih3⟩ := laws_FnLinesOne.mono_l k
    refine ⟨?_, ?_, ?_, ?_⟩
    · intro y0 y1 y2
      unfold laws_FnLinesOne.j0
      repeat' first
      | (with_reducible exact ih0 _ _ _)
      | (with_reducible exact ih1 _ _ _ _)
      | (with_reducible exact ih2 _ _ _ _ _ _)
      | (with_reducible exact ih3 _ _ _ _ _ _ _)
      | (with_reducible exact spec_ASCII.mono _ _)
      | (with_reducible exact spec_Lines.mono _ _)
      | (with_reducible exact LeO.refl _)
      | (with_reducible exact LeO.none _)
      | (with_reducible refine LeO.ite ?_ ?_)
      | (with_reducible refine LeO.bind ?_ (fun _ => ?_))
      | exact ih0 _ _ _
      | exact ih1 _ _ _ _
      | exact ih2 _ _ _ _ _ _
      | exact ih3 _ _ _ _ _ _ _
      | exact spec_ASCII.mono _ _
      | exact spec_Lines.mono _ _
      | exact LeO.none _
      | refine LeO.ite ?_ ?_
      | refine LeO.bind ?_ (fun _ => ?_)
    · intro y0 y1 y2 y3
      unfold laws_FnLinesOne.j1
      repeat' first
      | (with_reducible exact ih0 _ _ _)
      | (with_reducible exact ih1 _ _ _ _)
      | (with_reducible exact ih2 _ _ _ _ _ _)
      | (with_reducible exact ih3 _ _ _ _ _ _ _)
      | (with_reducible exact spec_ASCII.mono _ _)
      | (with_reducible exact spec_Lines.mono _ _)
      | (with_reducible exact LeO.refl _)
      | (with_reducible exact LeO.none _)
      | (with_reducible refine LeO.ite ?_ ?_)
      | (with_reducible refine LeO.bind ?_ (fun _ => ?_))
      | exact ih0 _ _ _
      | exact ih1 _ _ _ _
      | exact ih2 _ _ _ _ _ _
      | exact ih3 _ _ _ _ _ _ _
      | exact spec_ASCII.mono _ _
      | exact spec_Lines.mono _ _
      | exact LeO.none _
      | refine LeO.ite ?_ ?_
      | refine LeO.bind ?_ (fun _ => ?_)
    · intro y0 y1 y2 y3 y4 y5
      unfold laws_FnLinesOne.l0
      repeat' first
      | (with_reducible exact ih0 _ _ _)
      | (with_reducible exact ih1 _ _ _ _)
      | (with_reducible exact ih2 _ _ _ _ _ _)
      | (with_reducible exact ih3 _ _ _ _ _ _ _)
      | (with_reducible exact spec_ASCII.mono _ _)
      | (with_reducible exact spec_Lines.mono _ _)
      | (with_reducible exact LeO.refl _)
      | (with_reducible exact LeO.none _)
      | (with_reducible refine LeO.ite ?_ ?_)
      | (with_reducible refine LeO.bind ?_ (fun _ => ?_))
      | exact ih0 _ _ _
      | exact ih1 _ _ _ _
      | exact ih2 _ _ _ _ _ _
      | exact ih3 _ _ _ _ _ _ _
      | exact spec_ASCII.mono _ _
      | exact spec_Lines.mono _ _
      | exact LeO.none _
      | refine LeO.ite ?_ ?_
      | refine LeO.bind ?_ (fun _ => ?_)
    · intro y0 y1 y2 y3 y4 y5 y6
      unfold laws_FnLinesOne.l1
      repeat' first
      | (with_reducible exact ih0 _ _ _)
      | (with_reducible exact ih1 _ _ _ _)
      | (with_reducible exact ih2 _ _ _ _ _ _)
      | (with_reducible exact ih3 _ _ _ _ _ _ _)
      | (with_reducible exact spec_ASCII.mono _ _)
      | (with_reducible exact spec_Lines.mono _ _)
      | (with_reducible exact LeO.refl _)
      | (with_reducible exact LeO.none _)
      | (with_reducible refine LeO.ite ?_ ?_)
      | (with_reducible refine LeO.bind ?_ (fun _ => ?_))
      | exact ih0 _ _ _
      | exact ih1 _ _ _ _
      | exact ih2 _ _ _ _ _ _
      | exact ih3 _ _ _ _ _ _ _
      | exact spec_ASCII.mono _ _
      | exact spec_Lines.mono _ _
      | exact LeO.none _
      | refine LeO.ite ?_ ?_
      | refine LeO.bind ?_ (fun _ => ?_)
theorem laws_FnLinesOne.mono : ∀ a0 a1 k, LeO (laws_FnLinesOne.f k a0 a1) (laws_FnLinesOne.f (k + 1) a0 a1) := by
  intro a0 a1 k
  obtain ⟨ih0, ih1, ih2, ih3⟩ := laws_FnLinesOne.mono_l k
  unfold laws_FnLinesOne.f
  repeat' first
      | (with_reducible exact ih0 _ _ _)
      | (with_reducible exact ih1 _ _ _ _)
      | (with_reducible exact ih2 _ _ _ _ _ _)
      | (with_reducible exact ih3 _ _ _ _ _ _ _)
      | (with_reducible exact spec_ASCII.mono _ _)
      | (with_reducible exact spec_Lines.mono _ _)
      | (with_reducible exact LeO.refl _)
      | (with_reducible exact LeO.none _)
      | (with_reducible refine LeO.ite ?_ ?_)
      | (with_reducible refine LeO.bind ?_ (fun _ => ?_))
      | exact ih0 _ _ _
      | exact ih1 _ _ _ _
      | exact ih2 _ _ _ _ _ _
      | exact ih3 _ _ _ _ _ _ _
      | exact spec_ASCII.mono _ _
      | exact spec_Lines.mono _ _
      | exact LeO.none _
      | refine LeO.ite ?_ ?_
      | refine LeO.bind ?_ (fun _ => ?_)
set_option maxHeartbeats 8000000 in
set_option maxRecDepth 100000 in
theorem laws_FnLinesOne.calls (k : Nat) (a0 : ByteArray) (a1 : ByteArray) (r : Bool) (w : World) (h : laws_FnLinesOne.f k a0 a1 = some r) :
    Calls Tryd.prog 3 #[.string a0, .string a1] w fun e w' => e = .returned (.bool r) ∧ Below w.heap.size w w' := by
  have hu26 := Tryd.underlying26
  have hu30 := Tryd.underlying30
  have HB := Aside0.mk (Below.refl w.heap.size w)
  have H : (if (a0.size : Int) > 2147483647 then (laws_FnLinesOne.j0 k a0 a1 true) else (laws_FnLinesOne.j0 k a0 a1 (decide ((a1.size : Int) > 2147483647)))) = some r := h
  clear h
  have HC3 := Aside0.mk H
  clear H
  go_enter Tryd.func3, Tryd.ntmps3
  go_upto_region 1 with (fail)
  go_cut [23] (fun v23 wc => ∃ (kq : Nat) (x23_2 : Bool), v23 = .bool x23_2 ∧ Aside0 (laws_FnLinesOne.j0 kq a0 a1 x23_2 = some r) ∧ Aside0 (kq ≤ k) ∧ Aside0 (Below w.heap.size w wc))
  case first =>
    have H := HC3.out
    clear HC3
    by_cases c4 : (a0.size : Int) > 2147483647
    · rw [if_pos c4] at H
      have c4b0 : decide (2147483647 < (a0.size : Int)) = true := decide_eq_true c4
      have c4b1 : decide (2147483647 < a0.size) = true := decide_eq_true (by omega)
      clear c4
      (first | rw [c4b0] | (simp only [i64_w, i32_w]; rw [c4b0]) | skip)
      have H' := Aside0.mk H
      clear H
      go_wp2
      go_meet
      case rel => exact ⟨_, (true), (by first | rfl | (simp; done) | (simp [*]; done)), H', ⟨by first | omega | exact Nat.le_refl _⟩, ⟨by repeat (first | (with_reducible first | exact HB.out | apply below_alloc | apply pw_below_drewN | apply below_drew1) | exact HB.out)⟩⟩
    · rw [if_neg c4] at H
      have c4b0 : decide (2147483647 < (a0.size : Int)) = false := decide_eq_false c4
      have c4b1 : decide (2147483647 < a0.size) = false := decide_eq_false (by omega)
      clear c4
      (first | rw [c4b0] | (simp only [i64_w, i32_w]; rw [c4b0]) | skip)
      have H' := Aside0.mk H
      clear H
      go_wp2
      go_meet
      case rel => exact ⟨_, (decide ((a1.size : Int) > 2147483647)), (by first | rfl | (simp; done) | (simp [*]; done)), H', ⟨by first | omega | exact Nat.le_refl _⟩, ⟨by repeat (first | (with_reducible first | exact HB.out | apply below_alloc | apply pw_below_drewN | apply below_drew1) | exact HB.out)⟩⟩
  case rest =>
    clear HC3
    try clear p2
    try clear c3
    try clear c4
    try clear c4b0
    try clear c4b1
    obtain ⟨kq, x23_2, rfl, HA, HJ2, HB⟩ := hcut
    cases kq with
    | zero => exact absurd HA.out (by simp [laws_FnLinesOne.j0])
    | succ kj2 =>
      have H := HA.out
      clear HA
      simp only [laws_FnLinesOne.j0] at H
      by_cases c5 : x23_2 = true
      · subst c5
        have H1 : (some true) = some r := by rw [if_pos rfl] at H; exact H
        clear H
        have H := H1
        clear H1
        obtain rfl := Option.some.inj H
        go_wp2
        go_ret
        exact ⟨by first | rfl | (simp [errW_none, errW_some] <;> rfl) | (simp [*, errW_none, errW_some] <;> rfl), by repeat (first | (with_reducible first | exact HB.out | apply below_alloc | apply pw_below_drewN | apply below_drew1) | exact HB.out)⟩
      · replace c5 := Bool.eq_false_iff.mpr c5
        subst c5
        have H1 : ((spec_Lines.f kj2 a0).bind fun t123 => ((spec_ASCII.f kj2 a0).bind fun t126 => (if t126 = true then ((spec_ASCII.f kj2 a1).bind fun t127 => (if t127 = true then ((spec_Lines.f kj2 a1).bind fun t128 => (if (t128.length : Int) > 1 then (laws_FnLinesOne.j1 kj2 a0 a1 t123 true) else (if (t123.length : Int) > 20 then (laws_FnLinesOne.j1 kj2 a0 a1 t123 true) else (laws_FnLinesOne.j1 kj2 a0 a1 t123 (decide ((a1.size : Int) > 20)))))) else (laws_FnLinesOne.j1 kj2 a0 a1 t123 true))) else (laws_FnLinesOne.j1 kj2 a0 a1 t123 true)))) = some r := by rw [if_neg (show ¬ (false = true) by decide)] at H; exact H
        clear H
        have H := H1
        clear H1
        replace H := Option.bind_eq_some_iff.mp H
        obtain ⟨t123, A60, H⟩ := H
        replace H : ((spec_ASCII.f kj2 a0).bind fun t126 => (if t126 = true then ((spec_ASCII.f kj2 a1).bind fun t127 => (if t127 = true then ((spec_Lines.f kj2 a1).bind fun t128 => (if (t128.length : Int) > 1 then (laws_FnLinesOne.j1 kj2 a0 a1 t123 true) else (if (t123.length : Int) > 20 then (laws_FnLinesOne.j1 kj2 a0 a1 t123 true) else (laws_FnLinesOne.j1 kj2 a0 a1 t123 (decide ((a1.size : Int) > 20)))))) else (laws_FnLinesOne.j1 kj2 a0 a1 t123 true))) else (laws_FnLinesOne.j1 kj2 a0 a1 t123 true))) = some r := H
        have A6 := Aside0.mk A60
        clear A60
        have HC7 := Aside0.mk H
        clear H
        go_upto_region 4 with (first | ((with_reducible refine gate_callee (f := 6) rfl ?_); refine goesL_ (some 25) rfl rfl Tryd.func6 (by kernel_rfl) rfl #[.string a0] rfl (by (try simp only [List.map_toArray, List.map_cons, List.map_nil]); first | done | rfl | (simp only [List.length_drop, List.length_take]; rfl) | (simp only [Int.toNat_natCast, ByteArray.extract_zero_size]; rfl)) ?_; (with_reducible refine (spec_Lines.calls kj2 a0 t123 _ A6.out).mono ?_); rintro e w8 ⟨v124, rfl, ho0, hb⟩; refine ⟨_, rfl, ?_⟩; have n0_ := Aside0.mk (Kd.R_lower ho0 (below_size (by repeat (first | (with_reducible first | exact HB.out | apply below_alloc | apply pw_below_drewN | apply below_drew1) | exact HB.out)))); have n1_ := Aside0.mk (below_step (by repeat (first | (with_reducible first | exact HB.out | apply below_alloc | apply pw_below_drewN | apply below_drew1) | exact HB.out)) hb); clear HB; have HO125 := n0_; have HB := n1_; clear n0_ n1_; (try clear hb); (try clear hb2); (try clear hk); (try clear hi); (try clear ho0)))
        (try simp only [Act.put, List.setIfInBounds_toArray, List.set_cons_zero, List.set_cons_succ])
        go_cut [49] (fun v49 wc => ∃ (kq : Nat) (x49_6 : Bool), v49 = .bool x49_6 ∧ Aside0 (laws_FnLinesOne.j1 kq a0 a1 t123 x49_6 = some r) ∧ Aside0 (kq ≤ kj2) ∧ Aside0 (Kd.R Kd.string 9 wc w.heap.size (fun _ => True) v124 t123) ∧ Aside0 (Below w.heap.size w wc))
        case first =>
          have H := HC7.out
          clear HC7
          replace H := Option.bind_eq_some_iff.mp H
          obtain ⟨t126, A90, H⟩ := H
          replace H : (if t126 = true then ((spec_ASCII.f kj2 a1).bind fun t127 => (if t127 = true then ((spec_Lines.f kj2 a1).bind fun t128 => (if (t128.length : Int) > 1 then (laws_FnLinesOne.j1 kj2 a0 a1 t123 true) else (if (t123.length : Int) > 20 then (laws_FnLinesOne.j1 kj2 a0 a1 t123 true) else (laws_FnLinesOne.j1 kj2 a0 a1 t123 (decide ((a1.size : Int) > 20)))))) else (laws_FnLinesOne.j1 kj2 a0 a1 t123 true))) else (laws_FnLinesOne.j1 kj2 a0 a1 t123 true)) = some r := H
          have A9 := Aside0.mk A90
          clear A90
          by_cases c10 : t126 = true
          · subst c10
            have H1 : ((spec_ASCII.f kj2 a1).bind fun t127 => (if t127 = true then ((spec_Lines.f kj2 a1).bind fun t128 => (if (t128.length : Int) > 1 then (laws_FnLinesOne.j1 kj2 a0 a1 t123 true) else (if (t123.length : Int) > 20 then (laws_FnLinesOne.j1 kj2 a0 a1 t123 true) else (laws_FnLinesOne.j1 kj2 a0 a1 t123 (decide ((a1.size : Int) > 20)))))) else (laws_FnLinesOne.j1 kj2 a0 a1 t123 true))) = some r := by rw [if_pos rfl] at H; exact H
            clear H
            have H := H1
            clear H1
            replace H := Option.bind_eq_some_iff.mp H
            obtain ⟨t127, A110, H⟩ := H
            replace H : (if t127 = true then ((spec_Lines.f kj2 a1).bind fun t128 => (if (t128.length : Int) > 1 then (laws_FnLinesOne.j1 kj2 a0 a1 t123 true) else (if (t123.length : Int) > 20 then (laws_FnLinesOne.j1 kj2 a0 a1 t123 true) else (laws_FnLinesOne.j1 kj2 a0 a1 t123 (decide ((a1.size : Int) > 20)))))) else (laws_FnLinesOne.j1 kj2 a0 a1 t123 true)) = some r := H
            have A11 := Aside0.mk A110
            clear A110
            by_cases c12 : t127 = true
            · subst c12
              have H1 : ((spec_Lines.f kj2 a1).bind fun t128 => (if (t128.length : Int) > 1 then (laws_FnLinesOne.j1 kj2 a0 a1 t123 true) else (if (t123.length : Int) > 20 then (laws_FnLinesOne.j1 kj2 a0 a1 t123 true) else (laws_FnLinesOne.j1 kj2 a0 a1 t123 (decide ((a1.size : Int) > 20)))))) = some r := by rw [if_pos rfl] at H; exact H
              clear H
              have H := H1
              clear H1
              replace H := Option.bind_eq_some_iff.mp H
              obtain ⟨t128, A130, H⟩ := H
              replace H : (if (t128.length : Int) > 1 then (laws_FnLinesOne.j1 kj2 a0 a1 t123 true) else (if (t123.length : Int) > 20 then (laws_FnLinesOne.j1 kj2 a0 a1 t123 true) else (laws_FnLinesOne.j1 kj2 a0 a1 t123 (decide ((a1.size : Int) > 20))))) = some r := H
              have A13 := Aside0.mk A130
              clear A130
              by_cases c14 : (t128.length : Int) > 1
              · rw [if_pos c14] at H
                have c14b0 : decide (1 < (t128.length : Int)) = true := decide_eq_true c14
                have c14b1 : decide (1 < t128.length) = true := decide_eq_true (by omega)
                clear c14
                (first | rw [c14b0] | (simp only [i64_w, i32_w]; rw [c14b0]) | skip)
                have H' := Aside0.mk H
                clear H
                go_wp2_with (first | ((with_reducible refine gate_callee (f := 7) rfl ?_); refine goesL_ (some 27) rfl rfl Tryd.func7 (by kernel_rfl) rfl #[.string a0] rfl (by (try simp only [List.map_toArray, List.map_cons, List.map_nil]); first | done | rfl | (simp only [List.length_drop, List.length_take]; rfl) | (simp only [Int.toNat_natCast, ByteArray.extract_zero_size]; rfl)) ?_; (with_reducible refine (spec_ASCII.calls kj2 a0 true _ A9.out).mono ?_); rintro e w' ⟨rfl, ⟨nd, rfl⟩⟩; refine ⟨_, rfl, ?_⟩) | (go_at_call 7; (with_reducible refine (spec_ASCII.calls kj2 a1 true _ A11.out).mono ?_); rintro e w' ⟨rfl, ⟨nd, rfl⟩⟩) | (go_at_call 6; (with_reducible refine (spec_Lines.calls kj2 a1 t128 _ A13.out).mono ?_); rintro e w15 ⟨v129, rfl, ho0, hb⟩; have n0_ := Aside0.mk (Kd.R_elder' (by (with_reducible repeat (first | apply Kd.R_alloc | apply Kd.R_drewN | apply Kd.R_drew)); exact HO125.out) (Kd.R_base ho0) hb); have n1_ := Aside0.mk (Kd.R_lower (Kd.R_new' ho0 (Kd.R_lt (by (with_reducible repeat (first | apply Kd.R_alloc | apply Kd.R_drewN | apply Kd.R_drew)); exact HO125.out))) (below_size (by repeat (first | (with_reducible first | exact HB.out | apply below_alloc | apply pw_below_drewN | apply below_drew1) | exact HB.out)))); have n2_ := Aside0.mk (below_step (by repeat (first | (with_reducible first | exact HB.out | apply below_alloc | apply pw_below_drewN | apply below_drew1) | exact HB.out)) hb); clear HO125; clear HB; have HO125 := n0_; have HO130 := n1_; have HB := n2_; clear n0_ n1_ n2_; (try clear hb); (try clear hb2); (try clear hk); (try clear hi); (try clear ho0); obtain ⟨Ao16, co16, eo16⟩ := Kd.R_slice HO130.out; subst eo16))
                go_meet
                case rel => exact ⟨_, (true), (by first | rfl | (simp; done) | (simp [*]; done)), H', ⟨by have := HJ2.out; first | omega | exact Nat.le_refl _⟩, ⟨by (with_reducible repeat (first | apply Kd.R_alloc | apply Kd.R_drewN | apply Kd.R_drew)); exact Kd.R_mono HO125.out (fun _ hk => trivial)⟩, ⟨by repeat (first | (with_reducible first | exact HB.out | apply below_alloc | apply pw_below_drewN | apply below_drew1) | exact HB.out)⟩⟩
              · rw [if_neg c14] at H
                have c14b0 : decide (1 < (t128.length : Int)) = false := decide_eq_false c14
                have c14b1 : decide (1 < t128.length) = false := decide_eq_false (by omega)
                clear c14
                (first | rw [c14b0] | (simp only [i64_w, i32_w]; rw [c14b0]) | skip)
                by_cases c17 : (t123.length : Int) > 20
                · rw [if_pos c17] at H
                  have c17b0 : decide (20 < (t123.length : Int)) = true := decide_eq_true c17
                  have c17b1 : decide (20 < t123.length) = true := decide_eq_true (by omega)
                  clear c17
                  have H' := Aside0.mk H
                  clear H
                  go_wp2_with (first | ((with_reducible refine gate_callee (f := 7) rfl ?_); refine goesL_ (some 27) rfl rfl Tryd.func7 (by kernel_rfl) rfl #[.string a0] rfl (by (try simp only [List.map_toArray, List.map_cons, List.map_nil]); first | done | rfl | (simp only [List.length_drop, List.length_take]; rfl) | (simp only [Int.toNat_natCast, ByteArray.extract_zero_size]; rfl)) ?_; (with_reducible refine (spec_ASCII.calls kj2 a0 true _ A9.out).mono ?_); rintro e w' ⟨rfl, ⟨nd, rfl⟩⟩; refine ⟨_, rfl, ?_⟩) | (go_at_call 7; (with_reducible refine (spec_ASCII.calls kj2 a1 true _ A11.out).mono ?_); rintro e w' ⟨rfl, ⟨nd, rfl⟩⟩) | (go_at_call 6; (with_reducible refine (spec_Lines.calls kj2 a1 t128 _ A13.out).mono ?_); rintro e w18 ⟨v129, rfl, ho0, hb⟩; have n0_ := Aside0.mk (Kd.R_elder' (by (with_reducible repeat (first | apply Kd.R_alloc | apply Kd.R_drewN | apply Kd.R_drew)); exact HO125.out) (Kd.R_base ho0) hb); have n1_ := Aside0.mk (Kd.R_lower (Kd.R_new' ho0 (Kd.R_lt (by (with_reducible repeat (first | apply Kd.R_alloc | apply Kd.R_drewN | apply Kd.R_drew)); exact HO125.out))) (below_size (by repeat (first | (with_reducible first | exact HB.out | apply below_alloc | apply pw_below_drewN | apply below_drew1) | exact HB.out)))); have n2_ := Aside0.mk (below_step (by repeat (first | (with_reducible first | exact HB.out | apply below_alloc | apply pw_below_drewN | apply below_drew1) | exact HB.out)) hb); clear HO125; clear HB; have HO125 := n0_; have HO130 := n1_; have HB := n2_; clear n0_ n1_ n2_; (try clear hb); (try clear hb2); (try clear hk); (try clear hi); (try clear ho0); obtain ⟨Ao19, co19, eo19⟩ := Kd.R_slice HO130.out; subst eo19; obtain ⟨Ao20, co20, eo20⟩ := Kd.R_slice HO125.out; subst eo20))
                  go_meet
                  case rel => exact ⟨_, (true), (by first | rfl | (simp; done) | (simp [*]; done)), H', ⟨by have := HJ2.out; first | omega | exact Nat.le_refl _⟩, ⟨by (with_reducible repeat (first | apply Kd.R_alloc | apply Kd.R_drewN | apply Kd.R_drew)); exact Kd.R_mono HO125.out (fun _ hk => trivial)⟩, ⟨by repeat (first | (with_reducible first | exact HB.out | apply below_alloc | apply pw_below_drewN | apply below_drew1) | exact HB.out)⟩⟩
                · rw [if_neg c17] at H
                  have c17b0 : decide (20 < (t123.length : Int)) = false := decide_eq_false c17
                  have c17b1 : decide (20 < t123.length) = false := decide_eq_false (by omega)
                  clear c17
                  have H' := Aside0.mk H
                  clear H
                  go_wp2_with (first | ((with_reducible refine gate_callee (f := 7) rfl ?_); refine goesL_ (some 27) rfl rfl Tryd.func7 (by kernel_rfl) rfl #[.string a0] rfl (by (try simp only [List.map_toArray, List.map_cons, List.map_nil]); first | done | rfl | (simp only [List.length_drop, List.length_take]; rfl) | (simp only [Int.toNat_natCast, ByteArray.extract_zero_size]; rfl)) ?_; (with_reducible refine (spec_ASCII.calls kj2 a0 true _ A9.out).mono ?_); rintro e w' ⟨rfl, ⟨nd, rfl⟩⟩; refine ⟨_, rfl, ?_⟩) | (go_at_call 7; (with_reducible refine (spec_ASCII.calls kj2 a1 true _ A11.out).mono ?_); rintro e w' ⟨rfl, ⟨nd, rfl⟩⟩) | (go_at_call 6; (with_reducible refine (spec_Lines.calls kj2 a1 t128 _ A13.out).mono ?_); rintro e w21 ⟨v129, rfl, ho0, hb⟩; have n0_ := Aside0.mk (Kd.R_elder' (by (with_reducible repeat (first | apply Kd.R_alloc | apply Kd.R_drewN | apply Kd.R_drew)); exact HO125.out) (Kd.R_base ho0) hb); have n1_ := Aside0.mk (Kd.R_lower (Kd.R_new' ho0 (Kd.R_lt (by (with_reducible repeat (first | apply Kd.R_alloc | apply Kd.R_drewN | apply Kd.R_drew)); exact HO125.out))) (below_size (by repeat (first | (with_reducible first | exact HB.out | apply below_alloc | apply pw_below_drewN | apply below_drew1) | exact HB.out)))); have n2_ := Aside0.mk (below_step (by repeat (first | (with_reducible first | exact HB.out | apply below_alloc | apply pw_below_drewN | apply below_drew1) | exact HB.out)) hb); clear HO125; clear HB; have HO125 := n0_; have HO130 := n1_; have HB := n2_; clear n0_ n1_ n2_; (try clear hb); (try clear hb2); (try clear hk); (try clear hi); (try clear ho0); obtain ⟨Ao22, co22, eo22⟩ := Kd.R_slice HO130.out; subst eo22; obtain ⟨Ao23, co23, eo23⟩ := Kd.R_slice HO125.out; subst eo23))
                  go_meet
                  case rel => exact ⟨_, (decide ((a1.size : Int) > 20)), (by first | rfl | (simp; done) | (simp [*]; done)), H', ⟨by have := HJ2.out; first | omega | exact Nat.le_refl _⟩, ⟨by (with_reducible repeat (first | apply Kd.R_alloc | apply Kd.R_drewN | apply Kd.R_drew)); exact Kd.R_mono HO125.out (fun _ hk => trivial)⟩, ⟨by repeat (first | (with_reducible first | exact HB.out | apply below_alloc | apply pw_below_drewN | apply below_drew1) | exact HB.out)⟩⟩
            · replace c12 := Bool.eq_false_iff.mpr c12
              subst c12
              have H1 : (laws_FnLinesOne.j1 kj2 a0 a1 t123 true) = some r := by rw [if_neg (show ¬ (false = true) by decide)] at H; exact H
              clear H
              have H := H1
              clear H1
              have H' := Aside0.mk H
              clear H
              go_wp2_with (first | ((with_reducible refine gate_callee (f := 7) rfl ?_); refine goesL_ (some 27) rfl rfl Tryd.func7 (by kernel_rfl) rfl #[.string a0] rfl (by (try simp only [List.map_toArray, List.map_cons, List.map_nil]); first | done | rfl | (simp only [List.length_drop, List.length_take]; rfl) | (simp only [Int.toNat_natCast, ByteArray.extract_zero_size]; rfl)) ?_; (with_reducible refine (spec_ASCII.calls kj2 a0 true _ A9.out).mono ?_); rintro e w' ⟨rfl, ⟨nd, rfl⟩⟩; refine ⟨_, rfl, ?_⟩) | (go_at_call 7; (with_reducible refine (spec_ASCII.calls kj2 a1 false _ A11.out).mono ?_); rintro e w' ⟨rfl, ⟨nd, rfl⟩⟩))
              go_meet
              case rel => exact ⟨_, (true), (by first | rfl | (simp; done) | (simp [*]; done)), H', ⟨by have := HJ2.out; first | omega | exact Nat.le_refl _⟩, ⟨by (with_reducible repeat (first | apply Kd.R_alloc | apply Kd.R_drewN | apply Kd.R_drew)); exact HO125.out⟩, ⟨by repeat (first | (with_reducible first | exact HB.out | apply below_alloc | apply pw_below_drewN | apply below_drew1) | exact HB.out)⟩⟩
          · replace c10 := Bool.eq_false_iff.mpr c10
            subst c10
            have H1 : (laws_FnLinesOne.j1 kj2 a0 a1 t123 true) = some r := by rw [if_neg (show ¬ (false = true) by decide)] at H; exact H
            clear H
            have H := H1
            clear H1
            have H' := Aside0.mk H
            clear H
            go_wp2_with (first | ((with_reducible refine gate_callee (f := 7) rfl ?_); refine goesL_ (some 27) rfl rfl Tryd.func7 (by kernel_rfl) rfl #[.string a0] rfl (by (try simp only [List.map_toArray, List.map_cons, List.map_nil]); first | done | rfl | (simp only [List.length_drop, List.length_take]; rfl) | (simp only [Int.toNat_natCast, ByteArray.extract_zero_size]; rfl)) ?_; (with_reducible refine (spec_ASCII.calls kj2 a0 false _ A9.out).mono ?_); rintro e w' ⟨rfl, ⟨nd, rfl⟩⟩; refine ⟨_, rfl, ?_⟩))
            go_meet
            case rel => exact ⟨_, (true), (by first | rfl | (simp; done) | (simp [*]; done)), H', ⟨by have := HJ2.out; first | omega | exact Nat.le_refl _⟩, ⟨by (with_reducible repeat (first | apply Kd.R_alloc | apply Kd.R_drewN | apply Kd.R_drew)); exact HO125.out⟩, ⟨by repeat (first | (with_reducible first | exact HB.out | apply below_alloc | apply pw_below_drewN | apply below_drew1) | exact HB.out)⟩⟩
        case rest =>
          clear HC7
          try clear c1
          try clear p2
          try clear c3
          try clear c4
          try clear c4b0
          try clear c4b1
          try clear c5
          try clear c6
          try clear c7
          try clear c10
          try clear c12
          try clear c14
          try clear c14b0
          try clear c14b1
          try clear c17
          try clear c17b0
          try clear c17b1
          try clear p2
          obtain ⟨kq, x49_6, rfl, HA, HJ6, HO_5, HB⟩ := hcut
          cases kq with
          | zero => exact absurd HA.out (by simp [laws_FnLinesOne.j1])
          | succ kj6 =>
            have H := HA.out
            clear HA
            simp only [laws_FnLinesOne.j1] at H
            by_cases c24 : x49_6 = true
            · subst c24
              have H1 : (some true) = some r := by rw [if_pos rfl] at H; exact H
              clear H
              have H := H1
              clear H1
              obtain rfl := Option.some.inj H
              go_wp2
              go_ret
              exact ⟨by first | rfl | (simp [errW_none, errW_some] <;> rfl) | (simp [*, errW_none, errW_some] <;> rfl), by repeat (first | (with_reducible first | exact HB.out | apply below_alloc | apply pw_below_drewN | apply below_drew1) | exact HB.out)⟩
            · replace c24 := Bool.eq_false_iff.mpr c24
              subst c24
              have H1 : (if 0 < (t123.length : Int) then (laws_FnLinesOne.l0 kj6 a1 t123 (rdOf ByteArray.empty t123 0) 1 a0 0) else (none)) = some r := by rw [if_neg (show ¬ (false = true) by decide)] at H; exact H
              clear H
              have H := H1
              clear H1
              by_cases c25 : 0 < (t123.length : Int)
              · rw [if_pos c25] at H
                have c25b0 : decide (0 < (t123.length : Int)) = true := decide_eq_true c25
                have c25b1 : decide (0 < t123.length) = true := decide_eq_true (by omega)
                clear c25
                have H' := Aside0.mk H
                clear H
                obtain ⟨Ao26, co26, eo26⟩ := Kd.R_slice HO_5.out
                subst eo26
                have p131 : 0 ≤ (0 : Int) := (by omega)
                have q131 : 0 < (t123.length : Int) := of_decide_eq_true (by first | (with_reducible assumption) | assumption)
                obtain ⟨ad131, e131, hx131_0⟩ := Kd.at_string (Kd.R_reads' HO_5.out).2.2 0 p131 q131
                cases e131
                have qi131 : (0 < t123.length) = True := eq_true (by omega)
                (try rw [show ((0 : Int)).toNat = 0 from rfl] at hx131_0)
                (try rw [Addr.add_zero'] at hx131_0)
                replace p131 := eq_true p131
                replace q131 := eq_true q131
                go_wp2_with (first | ((with_reducible refine gate_dst (N := 7) rfl ?_); (try (refine gate_guard (by rfl) ?_; dsimp only)); refine box_event ?hg (N := 7) ?hd (cs := #[.string (⟨#[]⟩ : ByteArray), .int .i64 0]) (t := 26) ?hr ?_; (case hd => rfl); (case hg => rfl); (case hr => first | (go_simp; done) | (go_simp; rfl)); intro gb132 hg w27 hbox hb; have n0_ := Aside0.mk (Kd.R_below (by (with_reducible repeat (first | apply Kd.R_alloc | apply Kd.R_drewN | apply Kd.R_drew)); exact HO_5.out) hb); have n1_ := Aside0.mk (below_step (by repeat (first | (with_reducible first | exact HB.out | apply below_alloc | apply pw_below_drewN | apply below_drew1) | exact HB.out)) hb); have n2_ := Aside0.mk (hbox); have n3_ := Aside0.mk ((by rw [hg]; exact (below_size (by repeat (first | (with_reducible first | exact HB.out | apply below_alloc | apply pw_below_drewN | apply below_drew1) | exact HB.out))) : w.heap.size ≤ gb132)); have n4_ := Aside0.mk ((by rw [hg]; exact (below_size (by repeat (first | (with_reducible first | exact HB.out | apply below_alloc | apply pw_below_drewN | apply below_drew1) | exact HB.out))) : w.heap.size ≤ gb132)); clear HO_5; clear HB; have HO_5 := n0_; have HB := n1_; have BK132 := n2_; have GW132 := n3_; have GE132 := n4_; clear n0_ n1_ n2_ n3_ n4_; clear hb hbox hg; have hcz28_0 : w27.cell? ⟨gb132, 0, none⟩ = some (.string (⟨#[]⟩ : ByteArray)) := (blk_cell BK132.out 0).trans rfl; have hcz28_1 : w27.cell? ⟨gb132, 1, none⟩ = some (.int .i64 0) := (blk_cell BK132.out 1).trans rfl; have hfz28_0 := blk_frozen BK132.out 0; have hfz28_1 := blk_frozen BK132.out 1))
                go_loopg [6, 8] kj6 (fun kq v6 v8 w' => ∃ (x6_3 : ByteArray) (x8_3 : Int) (x133000_3 : ByteArray) (x133001_3 : Int), v6 = .string x6_3 ∧ v8 = .int .i64 x8_3 ∧ Aside0 (laws_FnLinesOne.l0 kq a1 t123 x6_3 x8_3 x133000_3 x133001_3 = some r) ∧ Aside0 (kq ≤ kj6) ∧ Aside0 (Kd.R Kd.string 9 w' w.heap.size (fun _ => True) (.slice (some ad131) t123.length co26) t123) ∧ Aside0 (w'.heap[gb132]? = some (.cells #[.string x133000_3, .int .i64 x133001_3] 26 (0, 0))) ∧ Aside0 (Below w.heap.size w w'))
                case atStart => exact ⟨(rdOf ByteArray.empty t123 0), (1), (a0), (0), (by first | rfl | (simp; done) | (simp [*]; done)), (by first | rfl | (simp; done) | (simp [*]; done)), H', ⟨Nat.le_refl _⟩, ⟨by (with_reducible repeat (first | apply Kd.R_alloc | apply Kd.R_drewN | apply Kd.R_drew)); exact Kd.R_mono (Kd.R_far (p := ⟨gb132, 1, none⟩) (Kd.R_far (p := ⟨gb132, 0, none⟩) (Kd.R_types HO_5.out BK132.out (by decide)) (fun _ hk => hk.2) (.string a0)) (fun _ hk => hk.2) (.int .i64 0)) (fun _ hk => trivial)⟩, ⟨by (with_reducible repeat (first | refine blk_drewN ?_ _ | refine blk_drew ?_ | refine blk_alloc ?_ _)); refine blk_put (cs := #[.string a0, .int .i64 0]) ?_ 1 _ rfl; (with_reducible repeat (first | refine blk_drewN ?_ _ | refine blk_drew ?_ | refine blk_alloc ?_ _)); refine blk_put (cs := #[.string (⟨#[]⟩ : ByteArray), .int .i64 0]) ?_ 0 _ rfl; (with_reducible repeat (first | refine blk_drewN ?_ _ | refine blk_drew ?_ | refine blk_alloc ?_ _)); exact BK132.out⟩, ⟨by repeat (first | (with_reducible first | exact HB.out | apply below_alloc | apply pw_below_drewN | apply below_drew1 | refine below_set ?_ GE132.out) | exact HB.out)⟩⟩
                case round =>
                  clear H'
                  try clear c1
                  try clear p1
                  try clear q1
                  try clear hx1
                  try clear qi1
                  try clear c2
                  try clear p2
                  try clear c3
                  try clear c4
                  try clear c4b0
                  try clear c4b1
                  try clear c5
                  try clear c6
                  try clear c7
                  try clear c10
                  try clear c12
                  try clear p13
                  try clear q13
                  try clear hx13
                  try clear qi13
                  try clear c14
                  try clear c14b0
                  try clear c14b1
                  try clear c17
                  try clear c17b0
                  try clear c17b1
                  try clear c24
                  try clear c25
                  try clear c25b0
                  try clear c25b1
                  try clear hcz28_0
                  try clear hcz28_1
                  try clear hfz28_0
                  try clear hfz28_1
                  try clear hx131_0
                  try clear p131
                  try clear p2
                  try clear q131
                  obtain ⟨x6_3, x8_3, x133000_3, x133001_3, rfl, rfl, HA, HK3, HO_5, BK132, HB⟩ := hrel
                  cases gk with
                  | zero => exact absurd HA.out (by simp [laws_FnLinesOne.l0])
                  | succ k3 =>
                    have H := HA.out
                    clear HA
                    simp only [laws_FnLinesOne.l0] at H
                    by_cases c29 : x8_3 < (t123.length : Int)
                    · rw [if_pos c29] at H
                      have c29b0 : decide (x8_3 < (t123.length : Int)) = true := decide_eq_true c29
                      clear c29
                      by_cases c30 : 0 ≤ x8_3
                      · rw [if_pos c30] at H
                        have c30b0 : decide (0 ≤ x8_3) = true := decide_eq_true c30
                        clear c30
                        have H' := Aside0.mk H
                        clear H
                        have p138 : 0 ≤ (x8_3 : Int) := of_decide_eq_true (by first | (with_reducible assumption) | assumption)
                        have q138 : x8_3 < (t123.length : Int) := of_decide_eq_true (by first | (with_reducible assumption) | assumption)
                        obtain ⟨ad138, e138, hx138_0⟩ := Kd.at_string (Kd.R_reads' HO_5.out).2.2 x8_3 p138 q138
                        obtain rfl : ad131 = ad138 := (by injection e138)
                        replace p138 := eq_true p138
                        replace q138 := eq_true q138
                        go_wp2
                        go_loopg [9] k3 (fun kq v9 w' => ∃ (x9_4 : ByteArray), v9 = .string x9_4 ∧ Aside0 (laws_FnLinesOne.l1 kq a1 t123 x6_3 x8_3 x9_4 x133000_3 x133001_3 = some r) ∧ Aside0 (kq ≤ k3) ∧ Aside0 (Kd.R Kd.string 9 w' w.heap.size (fun _ => True) (.slice (some ad131) t123.length co26) t123) ∧ Aside0 (w'.heap[gb132]? = some (.cells #[.string x133000_3, .int .i64 x133001_3] 26 (0, 0))) ∧ Aside0 (Below w.heap.size w w'))
                        case atStart => exact ⟨(rdOf ByteArray.empty t123 x8_3), (by first | rfl | (simp; done) | (simp [*]; done)), H', ⟨Nat.le_refl _⟩, ⟨by (with_reducible repeat (first | apply Kd.R_alloc | apply Kd.R_drewN | apply Kd.R_drew)); exact HO_5.out⟩, ⟨by (with_reducible repeat (first | refine blk_drewN ?_ _ | refine blk_drew ?_ | refine blk_alloc ?_ _)); exact BK132.out⟩, ⟨by repeat (first | (with_reducible first | exact HB.out | apply below_alloc | apply pw_below_drewN | apply below_drew1 | refine below_set ?_ GE132.out) | exact HB.out)⟩⟩
                        case round =>
                          clear H'
                          try clear c1
                          try clear p1
                          try clear q1
                          try clear hx1
                          try clear qi1
                          try clear c2
                          try clear p2
                          try clear c3
                          try clear c4
                          try clear c4b0
                          try clear c4b1
                          try clear c5
                          try clear c6
                          try clear c7
                          try clear c10
                          try clear c12
                          try clear p13
                          try clear q13
                          try clear hx13
                          try clear qi13
                          try clear c14
                          try clear c14b0
                          try clear c14b1
                          try clear c17
                          try clear c17b0
                          try clear c17b1
                          try clear c24
                          try clear c25
                          try clear c25b0
                          try clear c25b1
                          try clear c29
                          try clear c29b0
                          try clear c30
                          try clear c30b0
                          try clear hcz28_0
                          try clear hcz28_1
                          try clear hfz28_0
                          try clear hfz28_1
                          try clear hx131_0
                          try clear hx138_0
                          try clear p1
                          try clear p13
                          try clear p131
                          try clear p138
                          try clear p2
                          try clear q1
                          try clear q13
                          try clear q131
                          try clear q138
                          obtain ⟨x9_4, rfl, HA, HK4, HO_5, BK132, HB⟩ := hrel
                          cases gk with
                          | zero => exact absurd HA.out (by simp [laws_FnLinesOne.l1])
                          | succ k4 =>
                            have H := HA.out
                            clear HA
                            simp only [laws_FnLinesOne.l1] at H
                            by_cases c31 : (x9_4.size : Int) > 0
                            · rw [if_pos c31] at H
                              have c31b0 : decide (0 < (x9_4.size : Int)) = true := decide_eq_true c31
                              have c31b1 : decide (0 < x9_4.size) = true := decide_eq_true (by omega)
                              clear c31
                              by_cases c32 : 0 < (x9_4.size : Int)
                              · rw [if_pos c32] at H
                                have c32b0 : decide (0 < (x9_4.size : Int)) = true := decide_eq_true c32
                                have c32b1 : decide (0 < x9_4.size) = true := decide_eq_true (by omega)
                                clear c32
                                by_cases c34 : (bt x9_4 0) = 32
                                · rw [if_pos c34] at H
                                  have c34b0 : ((bt x9_4 0) == 32) = true := beq_iff_eq.mpr c34
                                  have c34b1 : ((bt x9_4 0) != 32) = false := bne_eq_false_iff_eq.mpr c34
                                  clear c34
                                  by_cases c35 : 1 ≤ (x9_4.size : Int)
                                  · rw [if_pos c35] at H
                                    have c35b0 := eq_true c35
                                    have c35b1 : decide (1 ≤ (x9_4.size : Int)) = true := decide_eq_true c35
                                    clear c35
                                    have H' := Aside0.mk H
                                    clear H
                                    have p33 : 0 ≤ (0 : Int) := (by omega)
                                    have q33 : 0 < x9_4.size := (by have : (0 : Int) < (x9_4.size : Int) := of_decide_eq_true (by first | (with_reducible assumption) | assumption); omega)
                                    have hx33 : ∀ h : 0 < x9_4.size, ((x9_4[0]'h).toNat : Int) = bt x9_4 0 := bt_at x9_4 0
                                    clear p33
                                    have qi33 : (0 < (x9_4.size : Int)) = True := eq_true (of_decide_eq_true (by first | (with_reducible assumption) | assumption))
                                    replace q33 := eq_true q33
                                    go_wp2
                                    go_roundg k4
                                    case measure => have := HJ2.out; have := HJ6.out; have := HK3.out; have := HK4.out; omega
                                    case rel => exact ⟨(x9_4.extract 1 x9_4.size), (by first | rfl | (simp; done) | (simp [*]; done)), H', ⟨by have := HJ2.out; have := HJ6.out; have := HK3.out; have := HK4.out; omega⟩, ⟨by (with_reducible repeat (first | apply Kd.R_alloc | apply Kd.R_drewN | apply Kd.R_drew)); exact HO_5.out⟩, ⟨by (with_reducible repeat (first | refine blk_drewN ?_ _ | refine blk_drew ?_ | refine blk_alloc ?_ _)); exact BK132.out⟩, ⟨by repeat (first | (with_reducible first | exact HB.out | apply below_alloc | apply pw_below_drewN | apply below_drew1 | refine below_set ?_ GE132.out) | exact HB.out)⟩⟩
                                  · rw [if_neg c35] at H
                                    exact absurd H (by simp)
                                · rw [if_neg c34] at H
                                  have c34b0 : ((bt x9_4 0) == 32) = false := beq_eq_false_iff_ne.mpr c34
                                  have c34b1 : ((bt x9_4 0) != 32) = true := bne_iff_ne.mpr c34
                                  by_cases c36 : a1.size + x9_4.size ≤ 9223372036854775807
                                  · rw [if_pos c36] at H
                                    have c36b0 := eq_true c36
                                    have c36b1 : decide (a1.size + x9_4.size ≤ 9223372036854775807) = true := decide_eq_true c36
                                    try have c36b2 : (9223372036854775807 < a1.size + x9_4.size) = False := eq_false (Nat.not_lt.2 c36)
                                    by_cases c37 : x6_3.size + (a1 ++ x9_4).size ≤ 9223372036854775807
                                    · rw [if_pos c37] at H
                                      have c37b0 := eq_true c37
                                      have c37b1 : decide (x6_3.size + (a1 ++ x9_4).size ≤ 9223372036854775807) = true := decide_eq_true c37
                                      try have c37b2 : (9223372036854775807 < x6_3.size + (a1 ++ x9_4).size) = False := eq_false (Nat.not_lt.2 c37)
                                      replace H := Option.bind_eq_some_iff.mp H
                                      obtain ⟨⟨t139, t140, t141, t142⟩, A380, H⟩ := H
                                      replace H : (if t142 = true then (laws_FnLinesOne.l0 k4 a1 t123 (x6_3 ++ (a1 ++ x9_4)) (wrap64 (x8_3 + 1)) t139 t140) else (some false)) = some r := H
                                      have A38 := Aside0.mk A380
                                      clear A380
                                      by_cases c39 : t142 = true
                                      · subst c39
                                        have H1 : (laws_FnLinesOne.l0 k4 a1 t123 (x6_3 ++ (a1 ++ x9_4)) (wrap64 (x8_3 + 1)) t139 t140) = some r := by rw [if_pos rfl] at H; exact H
                                        clear H
                                        have H := H1
                                        clear H1
                                        have H' := Aside0.mk H
                                        clear H
                                        have p33 : 0 ≤ (0 : Int) := (by omega)
                                        have q33 : 0 < x9_4.size := (by have : (0 : Int) < (x9_4.size : Int) := of_decide_eq_true (by first | (with_reducible assumption) | assumption); omega)
                                        have hx33 : ∀ h : 0 < x9_4.size, ((x9_4[0]'h).toNat : Int) = bt x9_4 0 := bt_at x9_4 0
                                        clear p33
                                        have qi33 : (0 < (x9_4.size : Int)) = True := eq_true (of_decide_eq_true (by first | (with_reducible assumption) | assumption))
                                        replace q33 := eq_true q33
                                        have hcz40_0 : wr.cell? ⟨gb132, 0, none⟩ = some (.string x133000_3) := (blk_cell BK132.out 0).trans rfl
                                        have hcz40_1 : wr.cell? ⟨gb132, 1, none⟩ = some (.int .i64 x133001_3) := (blk_cell BK132.out 1).trans rfl
                                        have hfz40_0 := blk_frozen BK132.out 0
                                        have hfz40_1 := blk_frozen BK132.out 1
                                        go_wp2_with (first | ((with_reducible refine gate_callee (f := 8) rfl ?_); refine goesL_ (some 84) rfl rfl Tryd.func8 (by kernel_rfl) rfl #[.agg #[.string x133000_3, .int .i64 x133001_3], .agg #[.int .i64 10, .int .i64 0, .string a1, .bool false]] rfl (by (try simp only [List.map_toArray, List.map_cons, List.map_nil]); first | done | rfl | (simp only [List.length_drop, List.length_take]; rfl) | (simp only [Int.toNat_natCast, ByteArray.extract_zero_size]; rfl)) ?_; (with_reducible refine (laws_one7.calls x133000_3 x133001_3 10 0 a1 false t139 t140 t141 true _ A38.out).mono ?_); rintro e w41 ⟨rfl, hb⟩; refine ⟨_, rfl, ?_⟩; have n0_ := Aside0.mk (Kd.R_below (by (with_reducible repeat (first | apply Kd.R_alloc | apply Kd.R_drewN | apply Kd.R_drew)); exact HO_5.out) hb); have n1_ := Aside0.mk (blk_below (g := gb132) (o := .cells #[.string x133000_3, .int .i64 x133001_3] 26 (0, 0)) (by (with_reducible repeat (first | refine blk_drewN ?_ _ | refine blk_drew ?_ | refine blk_alloc ?_ _)); exact BK132.out) hb); have n2_ := Aside0.mk (below_step (by repeat (first | (with_reducible first | exact HB.out | apply below_alloc | apply pw_below_drewN | apply below_drew1 | refine below_set ?_ GE132.out) | exact HB.out)) hb); clear HO_5; clear BK132; clear HB; have HO_5 := n0_; have BK132 := n1_; have HB := n2_; clear n0_ n1_ n2_; (try clear hb); (try clear hb2); (try clear hk); (try clear hi)) | ((with_reducible refine gate_dst (N := 10) rfl ?_); (try (refine gate_guard (by rfl) ?_; dsimp only)); refine box_event ?hg (N := 10) ?hd (cs := #[.string (⟨#[]⟩ : ByteArray), .int .i64 0]) (t := 26) ?hr ?_; (case hd => rfl); (case hg => rfl); (case hr => first | (go_simp; done) | (go_simp; rfl)); intro gb143 hg w42 hbox hb; have n0_ := Aside0.mk (Kd.R_below (by (with_reducible repeat (first | apply Kd.R_alloc | apply Kd.R_drewN | apply Kd.R_drew)); exact HO_5.out) hb); have n1_ := Aside0.mk (blk_below (g := gb132) (o := .cells #[.string x133000_3, .int .i64 x133001_3] 26 (0, 0)) (by (with_reducible repeat (first | refine blk_drewN ?_ _ | refine blk_drew ?_ | refine blk_alloc ?_ _)); exact BK132.out) hb); have n2_ := Aside0.mk (below_step (by repeat (first | (with_reducible first | exact HB.out | apply below_alloc | apply pw_below_drewN | apply below_drew1 | refine below_set ?_ GE132.out) | exact HB.out)) hb); have n3_ := Aside0.mk (hbox); have n4_ := Aside0.mk ((by rw [hg]; exact (below_size (by repeat (first | (with_reducible first | exact HB.out | apply below_alloc | apply pw_below_drewN | apply below_drew1 | refine below_set ?_ GE132.out) | exact HB.out))) : w.heap.size ≤ gb143)); have n5_ := Aside0.mk ((by rw [hg]; exact (below_size (by repeat (first | (with_reducible first | exact HB.out | apply below_alloc | apply pw_below_drewN | apply below_drew1 | refine below_set ?_ GE132.out) | exact HB.out))) : w.heap.size ≤ gb143)); have n6_ := Aside0.mk ((by rw [hg]; exact Nat.ne_of_lt (blk_lt (g := gb132) (o := .cells #[.string x133000_3, .int .i64 x133001_3] 26 (0, 0)) (by (with_reducible repeat (first | refine blk_drewN ?_ _ | refine blk_drew ?_ | refine blk_alloc ?_ _)); exact BK132.out)) : gb132 ≠ gb143)); have n7_ := Aside0.mk ((by rw [hg]; exact Nat.ne_of_gt (blk_lt (g := gb132) (o := .cells #[.string x133000_3, .int .i64 x133001_3] 26 (0, 0)) (by (with_reducible repeat (first | refine blk_drewN ?_ _ | refine blk_drew ?_ | refine blk_alloc ?_ _)); exact BK132.out)) : gb143 ≠ gb132)); clear HO_5; clear BK132; clear HB; have HO_5 := n0_; have BK132 := n1_; have HB := n2_; have BK143 := n3_; have GW143 := n4_; have GE143 := n5_; have NB132_143 := n6_; have NB143_132 := n7_; clear n0_ n1_ n2_ n3_ n4_ n5_ n6_ n7_; clear hb hbox hg; have hnb43 := NB143_132.out; have hnc43 := NB132_143.out; have hcz44_0 : w42.cell? ⟨gb143, 0, none⟩ = some (.string (⟨#[]⟩ : ByteArray)) := (blk_cell BK143.out 0).trans rfl; have hcz44_1 : w42.cell? ⟨gb143, 1, none⟩ = some (.int .i64 0) := (blk_cell BK143.out 1).trans rfl; have hfz44_0 := blk_frozen BK143.out 0; have hfz44_1 := blk_frozen BK143.out 1; have hcz45_0 : w42.cell? ⟨gb132, 0, none⟩ = some (.string x133000_3) := (blk_cell BK132.out 0).trans rfl; have hcz45_1 : w42.cell? ⟨gb132, 1, none⟩ = some (.int .i64 x133001_3) := (blk_cell BK132.out 1).trans rfl; have hfz45_0 := blk_frozen BK132.out 0; have hfz45_1 := blk_frozen BK132.out 1))
                                        go_roundg k4
                                        case measure => have := HJ2.out; have := HJ6.out; have := HK3.out; have := HK4.out; omega
                                        case rel => exact ⟨(x6_3 ++ (a1 ++ x9_4)), (wrap64 (x8_3 + 1)), (t139), (t140), (by first | rfl | (simp; done) | (simp [*]; done)), (by first | rfl | (simp; done) | (simp [*]; done)), H', ⟨by have := HJ2.out; have := HJ6.out; have := HK3.out; have := HK4.out; omega⟩, ⟨by (with_reducible repeat (first | apply Kd.R_alloc | apply Kd.R_drewN | apply Kd.R_drew)); exact Kd.R_mono (Kd.R_far (p := ⟨gb132, 1, none⟩) (Kd.R_far (p := ⟨gb132, 0, none⟩) (Kd.R_far (p := ⟨gb143, 1, none⟩) (Kd.R_far (p := ⟨gb143, 0, none⟩) (Kd.R_types (Kd.R_types HO_5.out BK143.out (by decide)) BK132.out (by decide)) (fun _ hk => hk.1.2) (.string t139)) (fun _ hk => hk.1.2) (.int .i64 t140)) (fun _ hk => hk.2) (.string t139)) (fun _ hk => hk.2) (.int .i64 t140)) (fun _ hk => trivial)⟩, ⟨by (with_reducible repeat (first | refine blk_drewN ?_ _ | refine blk_drew ?_ | refine blk_alloc ?_ _)); refine blk_put (cs := #[.string t139, .int .i64 x133001_3]) ?_ 1 _ rfl; (with_reducible repeat (first | refine blk_drewN ?_ _ | refine blk_drew ?_ | refine blk_alloc ?_ _)); refine blk_put (cs := #[.string x133000_3, .int .i64 x133001_3]) ?_ 0 _ rfl; (with_reducible repeat (first | refine blk_drewN ?_ _ | refine blk_drew ?_ | refine blk_alloc ?_ _)); refine blk_far ?_ NB132_143.out _; (with_reducible repeat (first | refine blk_drewN ?_ _ | refine blk_drew ?_ | refine blk_alloc ?_ _)); refine blk_far ?_ NB132_143.out _; (with_reducible repeat (first | refine blk_drewN ?_ _ | refine blk_drew ?_ | refine blk_alloc ?_ _)); exact BK132.out⟩, ⟨by repeat (first | (with_reducible first | exact HB.out | apply below_alloc | apply pw_below_drewN | apply below_drew1 | refine below_set ?_ GE132.out | refine below_set ?_ GE143.out) | exact HB.out)⟩⟩
                                      · replace c39 := Bool.eq_false_iff.mpr c39
                                        subst c39
                                        have H1 : (some false) = some r := by rw [if_neg (show ¬ (false = true) by decide)] at H; exact H
                                        clear H
                                        have H := H1
                                        clear H1
                                        obtain rfl := Option.some.inj H
                                        have p33 : 0 ≤ (0 : Int) := (by omega)
                                        have q33 : 0 < x9_4.size := (by have : (0 : Int) < (x9_4.size : Int) := of_decide_eq_true (by first | (with_reducible assumption) | assumption); omega)
                                        have hx33 : ∀ h : 0 < x9_4.size, ((x9_4[0]'h).toNat : Int) = bt x9_4 0 := bt_at x9_4 0
                                        clear p33
                                        have qi33 : (0 < (x9_4.size : Int)) = True := eq_true (of_decide_eq_true (by first | (with_reducible assumption) | assumption))
                                        replace q33 := eq_true q33
                                        have hcz46_0 : wr.cell? ⟨gb132, 0, none⟩ = some (.string x133000_3) := (blk_cell BK132.out 0).trans rfl
                                        have hcz46_1 : wr.cell? ⟨gb132, 1, none⟩ = some (.int .i64 x133001_3) := (blk_cell BK132.out 1).trans rfl
                                        have hfz46_0 := blk_frozen BK132.out 0
                                        have hfz46_1 := blk_frozen BK132.out 1
                                        go_wp2_with (first | ((with_reducible refine gate_callee (f := 8) rfl ?_); refine goesL_ (some 84) rfl rfl Tryd.func8 (by kernel_rfl) rfl #[.agg #[.string x133000_3, .int .i64 x133001_3], .agg #[.int .i64 10, .int .i64 0, .string a1, .bool false]] rfl (by (try simp only [List.map_toArray, List.map_cons, List.map_nil]); first | done | rfl | (simp only [List.length_drop, List.length_take]; rfl) | (simp only [Int.toNat_natCast, ByteArray.extract_zero_size]; rfl)) ?_; (with_reducible refine (laws_one7.calls x133000_3 x133001_3 10 0 a1 false t139 t140 t141 false _ A38.out).mono ?_); rintro e w47 ⟨rfl, hb⟩; refine ⟨_, rfl, ?_⟩; have n0_ := Aside0.mk (Kd.R_below (by (with_reducible repeat (first | apply Kd.R_alloc | apply Kd.R_drewN | apply Kd.R_drew)); exact HO_5.out) hb); have n1_ := Aside0.mk (blk_below (g := gb132) (o := .cells #[.string x133000_3, .int .i64 x133001_3] 26 (0, 0)) (by (with_reducible repeat (first | refine blk_drewN ?_ _ | refine blk_drew ?_ | refine blk_alloc ?_ _)); exact BK132.out) hb); have n2_ := Aside0.mk (below_step (by repeat (first | (with_reducible first | exact HB.out | apply below_alloc | apply pw_below_drewN | apply below_drew1 | refine below_set ?_ GE132.out) | exact HB.out)) hb); clear HO_5; clear BK132; clear HB; have HO_5 := n0_; have BK132 := n1_; have HB := n2_; clear n0_ n1_ n2_; (try clear hb); (try clear hb2); (try clear hk); (try clear hi)) | ((with_reducible refine gate_dst (N := 10) rfl ?_); (try (refine gate_guard (by rfl) ?_; dsimp only)); refine box_event ?hg (N := 10) ?hd (cs := #[.string (⟨#[]⟩ : ByteArray), .int .i64 0]) (t := 26) ?hr ?_; (case hd => rfl); (case hg => rfl); (case hr => first | (go_simp; done) | (go_simp; rfl)); intro gb143 hg w48 hbox hb; have n0_ := Aside0.mk (Kd.R_below (by (with_reducible repeat (first | apply Kd.R_alloc | apply Kd.R_drewN | apply Kd.R_drew)); exact HO_5.out) hb); have n1_ := Aside0.mk (blk_below (g := gb132) (o := .cells #[.string x133000_3, .int .i64 x133001_3] 26 (0, 0)) (by (with_reducible repeat (first | refine blk_drewN ?_ _ | refine blk_drew ?_ | refine blk_alloc ?_ _)); exact BK132.out) hb); have n2_ := Aside0.mk (below_step (by repeat (first | (with_reducible first | exact HB.out | apply below_alloc | apply pw_below_drewN | apply below_drew1 | refine below_set ?_ GE132.out) | exact HB.out)) hb); have n3_ := Aside0.mk (hbox); have n4_ := Aside0.mk ((by rw [hg]; exact (below_size (by repeat (first | (with_reducible first | exact HB.out | apply below_alloc | apply pw_below_drewN | apply below_drew1 | refine below_set ?_ GE132.out) | exact HB.out))) : w.heap.size ≤ gb143)); have n5_ := Aside0.mk ((by rw [hg]; exact (below_size (by repeat (first | (with_reducible first | exact HB.out | apply below_alloc | apply pw_below_drewN | apply below_drew1 | refine below_set ?_ GE132.out) | exact HB.out))) : w.heap.size ≤ gb143)); have n6_ := Aside0.mk ((by rw [hg]; exact Nat.ne_of_lt (blk_lt (g := gb132) (o := .cells #[.string x133000_3, .int .i64 x133001_3] 26 (0, 0)) (by (with_reducible repeat (first | refine blk_drewN ?_ _ | refine blk_drew ?_ | refine blk_alloc ?_ _)); exact BK132.out)) : gb132 ≠ gb143)); have n7_ := Aside0.mk ((by rw [hg]; exact Nat.ne_of_gt (blk_lt (g := gb132) (o := .cells #[.string x133000_3, .int .i64 x133001_3] 26 (0, 0)) (by (with_reducible repeat (first | refine blk_drewN ?_ _ | refine blk_drew ?_ | refine blk_alloc ?_ _)); exact BK132.out)) : gb143 ≠ gb132)); clear HO_5; clear BK132; clear HB; have HO_5 := n0_; have BK132 := n1_; have HB := n2_; have BK143 := n3_; have GW143 := n4_; have GE143 := n5_; have NB132_143 := n6_; have NB143_132 := n7_; clear n0_ n1_ n2_ n3_ n4_ n5_ n6_ n7_; clear hb hbox hg; have hnb49 := NB143_132.out; have hnc49 := NB132_143.out; have hcz50_0 : w48.cell? ⟨gb143, 0, none⟩ = some (.string (⟨#[]⟩ : ByteArray)) := (blk_cell BK143.out 0).trans rfl; have hcz50_1 : w48.cell? ⟨gb143, 1, none⟩ = some (.int .i64 0) := (blk_cell BK143.out 1).trans rfl; have hfz50_0 := blk_frozen BK143.out 0; have hfz50_1 := blk_frozen BK143.out 1))
                                        go_ret
                                        exact ⟨by first | rfl | (simp [errW_none, errW_some] <;> rfl) | (simp [*, errW_none, errW_some] <;> rfl), by repeat (first | (with_reducible first | exact HB.out | apply below_alloc | apply pw_below_drewN | apply below_drew1 | refine below_set ?_ GE132.out | refine below_set ?_ GE143.out) | exact HB.out)⟩
                                    · rw [if_neg c37] at H
                                      exact absurd H (by simp)
                                  · rw [if_neg c36] at H
                                    exact absurd H (by simp)
                              · rw [if_neg c32] at H
                                exact absurd H (by simp)
                            · rw [if_neg c31] at H
                              have c31b0 : decide (0 < (x9_4.size : Int)) = false := decide_eq_false c31
                              have c31b1 : decide (0 < x9_4.size) = false := decide_eq_false (by omega)
                              clear c31
                              by_cases c51 : a1.size + x9_4.size ≤ 9223372036854775807
                              · rw [if_pos c51] at H
                                have c51b0 := eq_true c51
                                have c51b1 : decide (a1.size + x9_4.size ≤ 9223372036854775807) = true := decide_eq_true c51
                                try have c51b2 : (9223372036854775807 < a1.size + x9_4.size) = False := eq_false (Nat.not_lt.2 c51)
                                by_cases c52 : x6_3.size + (a1 ++ x9_4).size ≤ 9223372036854775807
                                · rw [if_pos c52] at H
                                  have c52b0 := eq_true c52
                                  have c52b1 : decide (x6_3.size + (a1 ++ x9_4).size ≤ 9223372036854775807) = true := decide_eq_true c52
                                  try have c52b2 : (9223372036854775807 < x6_3.size + (a1 ++ x9_4).size) = False := eq_false (Nat.not_lt.2 c52)
                                  replace H := Option.bind_eq_some_iff.mp H
                                  obtain ⟨⟨t144, t145, t146, t147⟩, A530, H⟩ := H
                                  replace H : (if t147 = true then (laws_FnLinesOne.l0 k4 a1 t123 (x6_3 ++ (a1 ++ x9_4)) (wrap64 (x8_3 + 1)) t144 t145) else (some false)) = some r := H
                                  have A53 := Aside0.mk A530
                                  clear A530
                                  by_cases c54 : t147 = true
                                  · subst c54
                                    have H1 : (laws_FnLinesOne.l0 k4 a1 t123 (x6_3 ++ (a1 ++ x9_4)) (wrap64 (x8_3 + 1)) t144 t145) = some r := by rw [if_pos rfl] at H; exact H
                                    clear H
                                    have H := H1
                                    clear H1
                                    have H' := Aside0.mk H
                                    clear H
                                    have hcz55_0 : wr.cell? ⟨gb132, 0, none⟩ = some (.string x133000_3) := (blk_cell BK132.out 0).trans rfl
                                    have hcz55_1 : wr.cell? ⟨gb132, 1, none⟩ = some (.int .i64 x133001_3) := (blk_cell BK132.out 1).trans rfl
                                    have hfz55_0 := blk_frozen BK132.out 0
                                    have hfz55_1 := blk_frozen BK132.out 1
                                    go_wp2_with (first | ((with_reducible refine gate_callee (f := 8) rfl ?_); refine goesL_ (some 84) rfl rfl Tryd.func8 (by kernel_rfl) rfl #[.agg #[.string x133000_3, .int .i64 x133001_3], .agg #[.int .i64 10, .int .i64 0, .string a1, .bool false]] rfl (by (try simp only [List.map_toArray, List.map_cons, List.map_nil]); first | done | rfl | (simp only [List.length_drop, List.length_take]; rfl) | (simp only [Int.toNat_natCast, ByteArray.extract_zero_size]; rfl)) ?_; (with_reducible refine (laws_one7.calls x133000_3 x133001_3 10 0 a1 false t144 t145 t146 true _ A53.out).mono ?_); rintro e w56 ⟨rfl, hb⟩; refine ⟨_, rfl, ?_⟩; have n0_ := Aside0.mk (Kd.R_below (by (with_reducible repeat (first | apply Kd.R_alloc | apply Kd.R_drewN | apply Kd.R_drew)); exact HO_5.out) hb); have n1_ := Aside0.mk (blk_below (g := gb132) (o := .cells #[.string x133000_3, .int .i64 x133001_3] 26 (0, 0)) (by (with_reducible repeat (first | refine blk_drewN ?_ _ | refine blk_drew ?_ | refine blk_alloc ?_ _)); exact BK132.out) hb); have n2_ := Aside0.mk (below_step (by repeat (first | (with_reducible first | exact HB.out | apply below_alloc | apply pw_below_drewN | apply below_drew1 | refine below_set ?_ GE132.out) | exact HB.out)) hb); clear HO_5; clear BK132; clear HB; have HO_5 := n0_; have BK132 := n1_; have HB := n2_; clear n0_ n1_ n2_; (try clear hb); (try clear hb2); (try clear hk); (try clear hi)) | ((with_reducible refine gate_dst (N := 10) rfl ?_); (try (refine gate_guard (by rfl) ?_; dsimp only)); refine box_event ?hg (N := 10) ?hd (cs := #[.string (⟨#[]⟩ : ByteArray), .int .i64 0]) (t := 26) ?hr ?_; (case hd => rfl); (case hg => rfl); (case hr => first | (go_simp; done) | (go_simp; rfl)); intro gb148 hg w57 hbox hb; have n0_ := Aside0.mk (Kd.R_below (by (with_reducible repeat (first | apply Kd.R_alloc | apply Kd.R_drewN | apply Kd.R_drew)); exact HO_5.out) hb); have n1_ := Aside0.mk (blk_below (g := gb132) (o := .cells #[.string x133000_3, .int .i64 x133001_3] 26 (0, 0)) (by (with_reducible repeat (first | refine blk_drewN ?_ _ | refine blk_drew ?_ | refine blk_alloc ?_ _)); exact BK132.out) hb); have n2_ := Aside0.mk (below_step (by repeat (first | (with_reducible first | exact HB.out | apply below_alloc | apply pw_below_drewN | apply below_drew1 | refine below_set ?_ GE132.out) | exact HB.out)) hb); have n3_ := Aside0.mk (hbox); have n4_ := Aside0.mk ((by rw [hg]; exact (below_size (by repeat (first | (with_reducible first | exact HB.out | apply below_alloc | apply pw_below_drewN | apply below_drew1 | refine below_set ?_ GE132.out) | exact HB.out))) : w.heap.size ≤ gb148)); have n5_ := Aside0.mk ((by rw [hg]; exact (below_size (by repeat (first | (with_reducible first | exact HB.out | apply below_alloc | apply pw_below_drewN | apply below_drew1 | refine below_set ?_ GE132.out) | exact HB.out))) : w.heap.size ≤ gb148)); have n6_ := Aside0.mk ((by rw [hg]; exact Nat.ne_of_lt (blk_lt (g := gb132) (o := .cells #[.string x133000_3, .int .i64 x133001_3] 26 (0, 0)) (by (with_reducible repeat (first | refine blk_drewN ?_ _ | refine blk_drew ?_ | refine blk_alloc ?_ _)); exact BK132.out)) : gb132 ≠ gb148)); have n7_ := Aside0.mk ((by rw [hg]; exact Nat.ne_of_gt (blk_lt (g := gb132) (o := .cells #[.string x133000_3, .int .i64 x133001_3] 26 (0, 0)) (by (with_reducible repeat (first | refine blk_drewN ?_ _ | refine blk_drew ?_ | refine blk_alloc ?_ _)); exact BK132.out)) : gb148 ≠ gb132)); clear HO_5; clear BK132; clear HB; have HO_5 := n0_; have BK132 := n1_; have HB := n2_; have BK148 := n3_; have GW148 := n4_; have GE148 := n5_; have NB132_148 := n6_; have NB148_132 := n7_; clear n0_ n1_ n2_ n3_ n4_ n5_ n6_ n7_; clear hb hbox hg; have hnb58 := NB148_132.out; have hnc58 := NB132_148.out; have hcz59_0 : w57.cell? ⟨gb148, 0, none⟩ = some (.string (⟨#[]⟩ : ByteArray)) := (blk_cell BK148.out 0).trans rfl; have hcz59_1 : w57.cell? ⟨gb148, 1, none⟩ = some (.int .i64 0) := (blk_cell BK148.out 1).trans rfl; have hfz59_0 := blk_frozen BK148.out 0; have hfz59_1 := blk_frozen BK148.out 1; have hcz60_0 : w57.cell? ⟨gb132, 0, none⟩ = some (.string x133000_3) := (blk_cell BK132.out 0).trans rfl; have hcz60_1 : w57.cell? ⟨gb132, 1, none⟩ = some (.int .i64 x133001_3) := (blk_cell BK132.out 1).trans rfl; have hfz60_0 := blk_frozen BK132.out 0; have hfz60_1 := blk_frozen BK132.out 1))
                                    go_roundg k4
                                    case measure => have := HJ2.out; have := HJ6.out; have := HK3.out; have := HK4.out; omega
                                    case rel => exact ⟨(x6_3 ++ (a1 ++ x9_4)), (wrap64 (x8_3 + 1)), (t144), (t145), (by first | rfl | (simp; done) | (simp [*]; done)), (by first | rfl | (simp; done) | (simp [*]; done)), H', ⟨by have := HJ2.out; have := HJ6.out; have := HK3.out; have := HK4.out; omega⟩, ⟨by (with_reducible repeat (first | apply Kd.R_alloc | apply Kd.R_drewN | apply Kd.R_drew)); exact Kd.R_mono (Kd.R_far (p := ⟨gb132, 1, none⟩) (Kd.R_far (p := ⟨gb132, 0, none⟩) (Kd.R_far (p := ⟨gb148, 1, none⟩) (Kd.R_far (p := ⟨gb148, 0, none⟩) (Kd.R_types (Kd.R_types HO_5.out BK148.out (by decide)) BK132.out (by decide)) (fun _ hk => hk.1.2) (.string t144)) (fun _ hk => hk.1.2) (.int .i64 t145)) (fun _ hk => hk.2) (.string t144)) (fun _ hk => hk.2) (.int .i64 t145)) (fun _ hk => trivial)⟩, ⟨by (with_reducible repeat (first | refine blk_drewN ?_ _ | refine blk_drew ?_ | refine blk_alloc ?_ _)); refine blk_put (cs := #[.string t144, .int .i64 x133001_3]) ?_ 1 _ rfl; (with_reducible repeat (first | refine blk_drewN ?_ _ | refine blk_drew ?_ | refine blk_alloc ?_ _)); refine blk_put (cs := #[.string x133000_3, .int .i64 x133001_3]) ?_ 0 _ rfl; (with_reducible repeat (first | refine blk_drewN ?_ _ | refine blk_drew ?_ | refine blk_alloc ?_ _)); refine blk_far ?_ NB132_148.out _; (with_reducible repeat (first | refine blk_drewN ?_ _ | refine blk_drew ?_ | refine blk_alloc ?_ _)); refine blk_far ?_ NB132_148.out _; (with_reducible repeat (first | refine blk_drewN ?_ _ | refine blk_drew ?_ | refine blk_alloc ?_ _)); exact BK132.out⟩, ⟨by repeat (first | (with_reducible first | exact HB.out | apply below_alloc | apply pw_below_drewN | apply below_drew1 | refine below_set ?_ GE132.out | refine below_set ?_ GE148.out) | exact HB.out)⟩⟩
                                  · replace c54 := Bool.eq_false_iff.mpr c54
                                    subst c54
                                    have H1 : (some false) = some r := by rw [if_neg (show ¬ (false = true) by decide)] at H; exact H
                                    clear H
                                    have H := H1
                                    clear H1
                                    obtain rfl := Option.some.inj H
                                    have hcz61_0 : wr.cell? ⟨gb132, 0, none⟩ = some (.string x133000_3) := (blk_cell BK132.out 0).trans rfl
                                    have hcz61_1 : wr.cell? ⟨gb132, 1, none⟩ = some (.int .i64 x133001_3) := (blk_cell BK132.out 1).trans rfl
                                    have hfz61_0 := blk_frozen BK132.out 0
                                    have hfz61_1 := blk_frozen BK132.out 1
                                    go_wp2_with (first | ((with_reducible refine gate_callee (f := 8) rfl ?_); refine goesL_ (some 84) rfl rfl Tryd.func8 (by kernel_rfl) rfl #[.agg #[.string x133000_3, .int .i64 x133001_3], .agg #[.int .i64 10, .int .i64 0, .string a1, .bool false]] rfl (by (try simp only [List.map_toArray, List.map_cons, List.map_nil]); first | done | rfl | (simp only [List.length_drop, List.length_take]; rfl) | (simp only [Int.toNat_natCast, ByteArray.extract_zero_size]; rfl)) ?_; (with_reducible refine (laws_one7.calls x133000_3 x133001_3 10 0 a1 false t144 t145 t146 false _ A53.out).mono ?_); rintro e w62 ⟨rfl, hb⟩; refine ⟨_, rfl, ?_⟩; have n0_ := Aside0.mk (Kd.R_below (by (with_reducible repeat (first | apply Kd.R_alloc | apply Kd.R_drewN | apply Kd.R_drew)); exact HO_5.out) hb); have n1_ := Aside0.mk (blk_below (g := gb132) (o := .cells #[.string x133000_3, .int .i64 x133001_3] 26 (0, 0)) (by (with_reducible repeat (first | refine blk_drewN ?_ _ | refine blk_drew ?_ | refine blk_alloc ?_ _)); exact BK132.out) hb); have n2_ := Aside0.mk (below_step (by repeat (first | (with_reducible first | exact HB.out | apply below_alloc | apply pw_below_drewN | apply below_drew1 | refine below_set ?_ GE132.out) | exact HB.out)) hb); clear HO_5; clear BK132; clear HB; have HO_5 := n0_; have BK132 := n1_; have HB := n2_; clear n0_ n1_ n2_; (try clear hb); (try clear hb2); (try clear hk); (try clear hi)) | ((with_reducible refine gate_dst (N := 10) rfl ?_); (try (refine gate_guard (by rfl) ?_; dsimp only)); refine box_event ?hg (N := 10) ?hd (cs := #[.string (⟨#[]⟩ : ByteArray), .int .i64 0]) (t := 26) ?hr ?_; (case hd => rfl); (case hg => rfl); (case hr => first | (go_simp; done) | (go_simp; rfl)); intro gb148 hg w63 hbox hb; have n0_ := Aside0.mk (Kd.R_below (by (with_reducible repeat (first | apply Kd.R_alloc | apply Kd.R_drewN | apply Kd.R_drew)); exact HO_5.out) hb); have n1_ := Aside0.mk (blk_below (g := gb132) (o := .cells #[.string x133000_3, .int .i64 x133001_3] 26 (0, 0)) (by (with_reducible repeat (first | refine blk_drewN ?_ _ | refine blk_drew ?_ | refine blk_alloc ?_ _)); exact BK132.out) hb); have n2_ := Aside0.mk (below_step (by repeat (first | (with_reducible first | exact HB.out | apply below_alloc | apply pw_below_drewN | apply below_drew1 | refine below_set ?_ GE132.out) | exact HB.out)) hb); have n3_ := Aside0.mk (hbox); have n4_ := Aside0.mk ((by rw [hg]; exact (below_size (by repeat (first | (with_reducible first | exact HB.out | apply below_alloc | apply pw_below_drewN | apply below_drew1 | refine below_set ?_ GE132.out) | exact HB.out))) : w.heap.size ≤ gb148)); have n5_ := Aside0.mk ((by rw [hg]; exact (below_size (by repeat (first | (with_reducible first | exact HB.out | apply below_alloc | apply pw_below_drewN | apply below_drew1 | refine below_set ?_ GE132.out) | exact HB.out))) : w.heap.size ≤ gb148)); have n6_ := Aside0.mk ((by rw [hg]; exact Nat.ne_of_lt (blk_lt (g := gb132) (o := .cells #[.string x133000_3, .int .i64 x133001_3] 26 (0, 0)) (by (with_reducible repeat (first | refine blk_drewN ?_ _ | refine blk_drew ?_ | refine blk_alloc ?_ _)); exact BK132.out)) : gb132 ≠ gb148)); have n7_ := Aside0.mk ((by rw [hg]; exact Nat.ne_of_gt (blk_lt (g := gb132) (o := .cells #[.string x133000_3, .int .i64 x133001_3] 26 (0, 0)) (by (with_reducible repeat (first | refine blk_drewN ?_ _ | refine blk_drew ?_ | refine blk_alloc ?_ _)); exact BK132.out)) : gb148 ≠ gb132)); clear HO_5; clear BK132; clear HB; have HO_5 := n0_; have BK132 := n1_; have HB := n2_; have BK148 := n3_; have GW148 := n4_; have GE148 := n5_; have NB132_148 := n6_; have NB148_132 := n7_; clear n0_ n1_ n2_ n3_ n4_ n5_ n6_ n7_; clear hb hbox hg; have hnb64 := NB148_132.out; have hnc64 := NB132_148.out; have hcz65_0 : w63.cell? ⟨gb148, 0, none⟩ = some (.string (⟨#[]⟩ : ByteArray)) := (blk_cell BK148.out 0).trans rfl; have hcz65_1 : w63.cell? ⟨gb148, 1, none⟩ = some (.int .i64 0) := (blk_cell BK148.out 1).trans rfl; have hfz65_0 := blk_frozen BK148.out 0; have hfz65_1 := blk_frozen BK148.out 1))
                                    go_ret
                                    exact ⟨by first | rfl | (simp [errW_none, errW_some] <;> rfl) | (simp [*, errW_none, errW_some] <;> rfl), by repeat (first | (with_reducible first | exact HB.out | apply below_alloc | apply pw_below_drewN | apply below_drew1 | refine below_set ?_ GE132.out | refine below_set ?_ GE148.out) | exact HB.out)⟩
                                · rw [if_neg c52] at H
                                  exact absurd H (by simp)
                              · rw [if_neg c51] at H
                                exact absurd H (by simp)
                      · rw [if_neg c30] at H
                        exact absurd H (by simp)
                    · rw [if_neg c29] at H
                      have c29b0 : decide (x8_3 < (t123.length : Int)) = false := decide_eq_false c29
                      clear c29
                      replace H := Option.bind_eq_some_iff.mp H
                      obtain ⟨⟨t133, t134, t135, t136⟩, A660, H⟩ := H
                      replace H : (if t136 = true then (if (t133.toList == x133000_3.toList && (t134 == x133001_3)) = true then (some (x133000_3.toList == x6_3.toList)) else (some false)) else (some false)) = some r := H
                      have A66 := Aside0.mk A660
                      clear A660
                      by_cases c67 : t136 = true
                      · subst c67
                        have H1 : (if (t133.toList == x133000_3.toList && (t134 == x133001_3)) = true then (some (x133000_3.toList == x6_3.toList)) else (some false)) = some r := by rw [if_pos rfl] at H; exact H
                        clear H
                        have H := H1
                        clear H1
                        by_cases c68 : (t133.toList == x133000_3.toList && (t134 == x133001_3)) = true
                        · rw [if_pos c68] at H
                          have c68b0 : (t133.toList == x133000_3.toList && (t134 == x133001_3)) = true := c68
                          (try (have c68b1 : decide (t133.toList = x133000_3.toList && (t134 == x133001_3)) = true := by simpa using c68))
                          (try (have c68b2 : (t133.toList == x133000_3.toList && (t134 == x133001_3)) = true := by simpa using c68))
                          clear c68
                          obtain rfl := Option.some.inj H
                          have hcz69_0 : wr.cell? ⟨gb132, 0, none⟩ = some (.string x133000_3) := (blk_cell BK132.out 0).trans rfl
                          have hcz69_1 : wr.cell? ⟨gb132, 1, none⟩ = some (.int .i64 x133001_3) := (blk_cell BK132.out 1).trans rfl
                          have hfz69_0 := blk_frozen BK132.out 0
                          have hfz69_1 := blk_frozen BK132.out 1
                          go_wp2_with (first | ((with_reducible refine gate_callee (f := 8) rfl ?_); refine goesL_ (some 95) rfl rfl Tryd.func8 (by kernel_rfl) rfl #[.agg #[.string x133000_3, .int .i64 x133001_3], .agg #[.int .i64 10, .int .i64 0, .string a1, .bool false]] rfl (by (try simp only [List.map_toArray, List.map_cons, List.map_nil]); first | done | rfl | (simp only [List.length_drop, List.length_take]; rfl) | (simp only [Int.toNat_natCast, ByteArray.extract_zero_size]; rfl)) ?_; (with_reducible refine (laws_one7.calls x133000_3 x133001_3 10 0 a1 false t133 t134 t135 true _ A66.out).mono ?_); rintro e w70 ⟨rfl, hb⟩; refine ⟨_, rfl, ?_⟩; have n0_ := Aside0.mk (Kd.R_below (by (with_reducible repeat (first | apply Kd.R_alloc | apply Kd.R_drewN | apply Kd.R_drew)); exact HO_5.out) hb); have n1_ := Aside0.mk (blk_below (g := gb132) (o := .cells #[.string x133000_3, .int .i64 x133001_3] 26 (0, 0)) (by (with_reducible repeat (first | refine blk_drewN ?_ _ | refine blk_drew ?_ | refine blk_alloc ?_ _)); exact BK132.out) hb); have n2_ := Aside0.mk (below_step (by repeat (first | (with_reducible first | exact HB.out | apply below_alloc | apply pw_below_drewN | apply below_drew1 | refine below_set ?_ GE132.out) | exact HB.out)) hb); clear HO_5; clear BK132; clear HB; have HO_5 := n0_; have BK132 := n1_; have HB := n2_; clear n0_ n1_ n2_; (try clear hb); (try clear hb2); (try clear hk); (try clear hi)) | ((with_reducible refine gate_dst (N := 13) rfl ?_); (try (refine gate_guard (by rfl) ?_; dsimp only)); refine box_event ?hg (N := 13) ?hd (cs := #[.string (⟨#[]⟩ : ByteArray), .int .i64 0]) (t := 26) ?hr ?_; (case hd => rfl); (case hg => rfl); (case hr => first | (go_simp; done) | (go_simp; rfl)); intro gb137 hg w71 hbox hb; have n0_ := Aside0.mk (Kd.R_below (by (with_reducible repeat (first | apply Kd.R_alloc | apply Kd.R_drewN | apply Kd.R_drew)); exact HO_5.out) hb); have n1_ := Aside0.mk (blk_below (g := gb132) (o := .cells #[.string x133000_3, .int .i64 x133001_3] 26 (0, 0)) (by (with_reducible repeat (first | refine blk_drewN ?_ _ | refine blk_drew ?_ | refine blk_alloc ?_ _)); exact BK132.out) hb); have n2_ := Aside0.mk (below_step (by repeat (first | (with_reducible first | exact HB.out | apply below_alloc | apply pw_below_drewN | apply below_drew1 | refine below_set ?_ GE132.out) | exact HB.out)) hb); have n3_ := Aside0.mk (hbox); have n4_ := Aside0.mk ((by rw [hg]; exact (below_size (by repeat (first | (with_reducible first | exact HB.out | apply below_alloc | apply pw_below_drewN | apply below_drew1 | refine below_set ?_ GE132.out) | exact HB.out))) : w.heap.size ≤ gb137)); have n5_ := Aside0.mk ((by rw [hg]; exact (below_size (by repeat (first | (with_reducible first | exact HB.out | apply below_alloc | apply pw_below_drewN | apply below_drew1 | refine below_set ?_ GE132.out) | exact HB.out))) : w.heap.size ≤ gb137)); have n6_ := Aside0.mk ((by rw [hg]; exact Nat.ne_of_lt (blk_lt (g := gb132) (o := .cells #[.string x133000_3, .int .i64 x133001_3] 26 (0, 0)) (by (with_reducible repeat (first | refine blk_drewN ?_ _ | refine blk_drew ?_ | refine blk_alloc ?_ _)); exact BK132.out)) : gb132 ≠ gb137)); have n7_ := Aside0.mk ((by rw [hg]; exact Nat.ne_of_gt (blk_lt (g := gb132) (o := .cells #[.string x133000_3, .int .i64 x133001_3] 26 (0, 0)) (by (with_reducible repeat (first | refine blk_drewN ?_ _ | refine blk_drew ?_ | refine blk_alloc ?_ _)); exact BK132.out)) : gb137 ≠ gb132)); clear HO_5; clear BK132; clear HB; have HO_5 := n0_; have BK132 := n1_; have HB := n2_; have BK137 := n3_; have GW137 := n4_; have GE137 := n5_; have NB132_137 := n6_; have NB137_132 := n7_; clear n0_ n1_ n2_ n3_ n4_ n5_ n6_ n7_; clear hb hbox hg; have hnb72 := NB137_132.out; have hnc72 := NB132_137.out; have hcz73_0 : w71.cell? ⟨gb137, 0, none⟩ = some (.string (⟨#[]⟩ : ByteArray)) := (blk_cell BK137.out 0).trans rfl; have hcz73_1 : w71.cell? ⟨gb137, 1, none⟩ = some (.int .i64 0) := (blk_cell BK137.out 1).trans rfl; have hfz73_0 := blk_frozen BK137.out 0; have hfz73_1 := blk_frozen BK137.out 1; have hcz74_0 : w71.cell? ⟨gb132, 0, none⟩ = some (.string x133000_3) := (blk_cell BK132.out 0).trans rfl; have hcz74_1 : w71.cell? ⟨gb132, 1, none⟩ = some (.int .i64 x133001_3) := (blk_cell BK132.out 1).trans rfl; have hfz74_0 := blk_frozen BK132.out 0; have hfz74_1 := blk_frozen BK132.out 1))
                          go_ret
                          exact ⟨by first | rfl | (simp [errW_none, errW_some] <;> rfl) | (simp [*, errW_none, errW_some] <;> rfl), by repeat (first | (with_reducible first | exact HB.out | apply below_alloc | apply pw_below_drewN | apply below_drew1 | refine below_set ?_ GE132.out | refine below_set ?_ GE137.out) | exact HB.out)⟩
                        · rw [if_neg c68] at H
                          have c68b0 : (t133.toList == x133000_3.toList && (t134 == x133001_3)) = false := by simpa using c68
                          (try (have c68b1 : decide (t133.toList = x133000_3.toList && (t134 == x133001_3)) = false := by simpa using c68))
                          (try (have c68b2 : (t133.toList == x133000_3.toList && (t134 == x133001_3)) = false := by simpa using c68))
                          (try (have c68b3 : ¬ (t133.toList = x133000_3.toList && (t134 == x133001_3)) := by simpa using c68))
                          clear c68
                          obtain rfl := Option.some.inj H
                          have hcz75_0 : wr.cell? ⟨gb132, 0, none⟩ = some (.string x133000_3) := (blk_cell BK132.out 0).trans rfl
                          have hcz75_1 : wr.cell? ⟨gb132, 1, none⟩ = some (.int .i64 x133001_3) := (blk_cell BK132.out 1).trans rfl
                          have hfz75_0 := blk_frozen BK132.out 0
                          have hfz75_1 := blk_frozen BK132.out 1
                          go_wp2_with (first | ((with_reducible refine gate_callee (f := 8) rfl ?_); refine goesL_ (some 95) rfl rfl Tryd.func8 (by kernel_rfl) rfl #[.agg #[.string x133000_3, .int .i64 x133001_3], .agg #[.int .i64 10, .int .i64 0, .string a1, .bool false]] rfl (by (try simp only [List.map_toArray, List.map_cons, List.map_nil]); first | done | rfl | (simp only [List.length_drop, List.length_take]; rfl) | (simp only [Int.toNat_natCast, ByteArray.extract_zero_size]; rfl)) ?_; (with_reducible refine (laws_one7.calls x133000_3 x133001_3 10 0 a1 false t133 t134 t135 true _ A66.out).mono ?_); rintro e w76 ⟨rfl, hb⟩; refine ⟨_, rfl, ?_⟩; have n0_ := Aside0.mk (Kd.R_below (by (with_reducible repeat (first | apply Kd.R_alloc | apply Kd.R_drewN | apply Kd.R_drew)); exact HO_5.out) hb); have n1_ := Aside0.mk (blk_below (g := gb132) (o := .cells #[.string x133000_3, .int .i64 x133001_3] 26 (0, 0)) (by (with_reducible repeat (first | refine blk_drewN ?_ _ | refine blk_drew ?_ | refine blk_alloc ?_ _)); exact BK132.out) hb); have n2_ := Aside0.mk (below_step (by repeat (first | (with_reducible first | exact HB.out | apply below_alloc | apply pw_below_drewN | apply below_drew1 | refine below_set ?_ GE132.out) | exact HB.out)) hb); clear HO_5; clear BK132; clear HB; have HO_5 := n0_; have BK132 := n1_; have HB := n2_; clear n0_ n1_ n2_; (try clear hb); (try clear hb2); (try clear hk); (try clear hi)) | ((with_reducible refine gate_dst (N := 13) rfl ?_); (try (refine gate_guard (by rfl) ?_; dsimp only)); refine box_event ?hg (N := 13) ?hd (cs := #[.string (⟨#[]⟩ : ByteArray), .int .i64 0]) (t := 26) ?hr ?_; (case hd => rfl); (case hg => rfl); (case hr => first | (go_simp; done) | (go_simp; rfl)); intro gb137 hg w77 hbox hb; have n0_ := Aside0.mk (Kd.R_below (by (with_reducible repeat (first | apply Kd.R_alloc | apply Kd.R_drewN | apply Kd.R_drew)); exact HO_5.out) hb); have n1_ := Aside0.mk (blk_below (g := gb132) (o := .cells #[.string x133000_3, .int .i64 x133001_3] 26 (0, 0)) (by (with_reducible repeat (first | refine blk_drewN ?_ _ | refine blk_drew ?_ | refine blk_alloc ?_ _)); exact BK132.out) hb); have n2_ := Aside0.mk (below_step (by repeat (first | (with_reducible first | exact HB.out | apply below_alloc | apply pw_below_drewN | apply below_drew1 | refine below_set ?_ GE132.out) | exact HB.out)) hb); have n3_ := Aside0.mk (hbox); have n4_ := Aside0.mk ((by rw [hg]; exact (below_size (by repeat (first | (with_reducible first | exact HB.out | apply below_alloc | apply pw_below_drewN | apply below_drew1 | refine below_set ?_ GE132.out) | exact HB.out))) : w.heap.size ≤ gb137)); have n5_ := Aside0.mk ((by rw [hg]; exact (below_size (by repeat (first | (with_reducible first | exact HB.out | apply below_alloc | apply pw_below_drewN | apply below_drew1 | refine below_set ?_ GE132.out) | exact HB.out))) : w.heap.size ≤ gb137)); have n6_ := Aside0.mk ((by rw [hg]; exact Nat.ne_of_lt (blk_lt (g := gb132) (o := .cells #[.string x133000_3, .int .i64 x133001_3] 26 (0, 0)) (by (with_reducible repeat (first | refine blk_drewN ?_ _ | refine blk_drew ?_ | refine blk_alloc ?_ _)); exact BK132.out)) : gb132 ≠ gb137)); have n7_ := Aside0.mk ((by rw [hg]; exact Nat.ne_of_gt (blk_lt (g := gb132) (o := .cells #[.string x133000_3, .int .i64 x133001_3] 26 (0, 0)) (by (with_reducible repeat (first | refine blk_drewN ?_ _ | refine blk_drew ?_ | refine blk_alloc ?_ _)); exact BK132.out)) : gb137 ≠ gb132)); clear HO_5; clear BK132; clear HB; have HO_5 := n0_; have BK132 := n1_; have HB := n2_; have BK137 := n3_; have GW137 := n4_; have GE137 := n5_; have NB132_137 := n6_; have NB137_132 := n7_; clear n0_ n1_ n2_ n3_ n4_ n5_ n6_ n7_; clear hb hbox hg; have hnb78 := NB137_132.out; have hnc78 := NB132_137.out; have hcz79_0 : w77.cell? ⟨gb137, 0, none⟩ = some (.string (⟨#[]⟩ : ByteArray)) := (blk_cell BK137.out 0).trans rfl; have hcz79_1 : w77.cell? ⟨gb137, 1, none⟩ = some (.int .i64 0) := (blk_cell BK137.out 1).trans rfl; have hfz79_0 := blk_frozen BK137.out 0; have hfz79_1 := blk_frozen BK137.out 1; have hcz80_0 : w77.cell? ⟨gb132, 0, none⟩ = some (.string x133000_3) := (blk_cell BK132.out 0).trans rfl; have hcz80_1 : w77.cell? ⟨gb132, 1, none⟩ = some (.int .i64 x133001_3) := (blk_cell BK132.out 1).trans rfl; have hfz80_0 := blk_frozen BK132.out 0; have hfz80_1 := blk_frozen BK132.out 1))
                          go_ret
                          exact ⟨by first | rfl | (simp [errW_none, errW_some] <;> rfl) | (simp [*, errW_none, errW_some] <;> rfl), by repeat (first | (with_reducible first | exact HB.out | apply below_alloc | apply pw_below_drewN | apply below_drew1 | refine below_set ?_ GE132.out | refine below_set ?_ GE137.out) | exact HB.out)⟩
                      · replace c67 := Bool.eq_false_iff.mpr c67
                        subst c67
                        have H1 : (some false) = some r := by rw [if_neg (show ¬ (false = true) by decide)] at H; exact H
                        clear H
                        have H := H1
                        clear H1
                        obtain rfl := Option.some.inj H
                        have hcz81_0 : wr.cell? ⟨gb132, 0, none⟩ = some (.string x133000_3) := (blk_cell BK132.out 0).trans rfl
                        have hcz81_1 : wr.cell? ⟨gb132, 1, none⟩ = some (.int .i64 x133001_3) := (blk_cell BK132.out 1).trans rfl
                        have hfz81_0 := blk_frozen BK132.out 0
                        have hfz81_1 := blk_frozen BK132.out 1
                        go_wp2_with (first | ((with_reducible refine gate_callee (f := 8) rfl ?_); refine goesL_ (some 95) rfl rfl Tryd.func8 (by kernel_rfl) rfl #[.agg #[.string x133000_3, .int .i64 x133001_3], .agg #[.int .i64 10, .int .i64 0, .string a1, .bool false]] rfl (by (try simp only [List.map_toArray, List.map_cons, List.map_nil]); first | done | rfl | (simp only [List.length_drop, List.length_take]; rfl) | (simp only [Int.toNat_natCast, ByteArray.extract_zero_size]; rfl)) ?_; (with_reducible refine (laws_one7.calls x133000_3 x133001_3 10 0 a1 false t133 t134 t135 false _ A66.out).mono ?_); rintro e w82 ⟨rfl, hb⟩; refine ⟨_, rfl, ?_⟩; have n0_ := Aside0.mk (Kd.R_below (by (with_reducible repeat (first | apply Kd.R_alloc | apply Kd.R_drewN | apply Kd.R_drew)); exact HO_5.out) hb); have n1_ := Aside0.mk (blk_below (g := gb132) (o := .cells #[.string x133000_3, .int .i64 x133001_3] 26 (0, 0)) (by (with_reducible repeat (first | refine blk_drewN ?_ _ | refine blk_drew ?_ | refine blk_alloc ?_ _)); exact BK132.out) hb); have n2_ := Aside0.mk (below_step (by repeat (first | (with_reducible first | exact HB.out | apply below_alloc | apply pw_below_drewN | apply below_drew1 | refine below_set ?_ GE132.out) | exact HB.out)) hb); clear HO_5; clear BK132; clear HB; have HO_5 := n0_; have BK132 := n1_; have HB := n2_; clear n0_ n1_ n2_; (try clear hb); (try clear hb2); (try clear hk); (try clear hi)) | ((with_reducible refine gate_dst (N := 13) rfl ?_); (try (refine gate_guard (by rfl) ?_; dsimp only)); refine box_event ?hg (N := 13) ?hd (cs := #[.string (⟨#[]⟩ : ByteArray), .int .i64 0]) (t := 26) ?hr ?_; (case hd => rfl); (case hg => rfl); (case hr => first | (go_simp; done) | (go_simp; rfl)); intro gb137 hg w83 hbox hb; have n0_ := Aside0.mk (Kd.R_below (by (with_reducible repeat (first | apply Kd.R_alloc | apply Kd.R_drewN | apply Kd.R_drew)); exact HO_5.out) hb); have n1_ := Aside0.mk (blk_below (g := gb132) (o := .cells #[.string x133000_3, .int .i64 x133001_3] 26 (0, 0)) (by (with_reducible repeat (first | refine blk_drewN ?_ _ | refine blk_drew ?_ | refine blk_alloc ?_ _)); exact BK132.out) hb); have n2_ := Aside0.mk (below_step (by repeat (first | (with_reducible first | exact HB.out | apply below_alloc | apply pw_below_drewN | apply below_drew1 | refine below_set ?_ GE132.out) | exact HB.out)) hb); have n3_ := Aside0.mk (hbox); have n4_ := Aside0.mk ((by rw [hg]; exact (below_size (by repeat (first | (with_reducible first | exact HB.out | apply below_alloc | apply pw_below_drewN | apply below_drew1 | refine below_set ?_ GE132.out) | exact HB.out))) : w.heap.size ≤ gb137)); have n5_ := Aside0.mk ((by rw [hg]; exact (below_size (by repeat (first | (with_reducible first | exact HB.out | apply below_alloc | apply pw_below_drewN | apply below_drew1 | refine below_set ?_ GE132.out) | exact HB.out))) : w.heap.size ≤ gb137)); have n6_ := Aside0.mk ((by rw [hg]; exact Nat.ne_of_lt (blk_lt (g := gb132) (o := .cells #[.string x133000_3, .int .i64 x133001_3] 26 (0, 0)) (by (with_reducible repeat (first | refine blk_drewN ?_ _ | refine blk_drew ?_ | refine blk_alloc ?_ _)); exact BK132.out)) : gb132 ≠ gb137)); have n7_ := Aside0.mk ((by rw [hg]; exact Nat.ne_of_gt (blk_lt (g := gb132) (o := .cells #[.string x133000_3, .int .i64 x133001_3] 26 (0, 0)) (by (with_reducible repeat (first | refine blk_drewN ?_ _ | refine blk_drew ?_ | refine blk_alloc ?_ _)); exact BK132.out)) : gb137 ≠ gb132)); clear HO_5; clear BK132; clear HB; have HO_5 := n0_; have BK132 := n1_; have HB := n2_; have BK137 := n3_; have GW137 := n4_; have GE137 := n5_; have NB132_137 := n6_; have NB137_132 := n7_; clear n0_ n1_ n2_ n3_ n4_ n5_ n6_ n7_; clear hb hbox hg; have hnb84 := NB137_132.out; have hnc84 := NB132_137.out; have hcz85_0 : w83.cell? ⟨gb137, 0, none⟩ = some (.string (⟨#[]⟩ : ByteArray)) := (blk_cell BK137.out 0).trans rfl; have hcz85_1 : w83.cell? ⟨gb137, 1, none⟩ = some (.int .i64 0) := (blk_cell BK137.out 1).trans rfl; have hfz85_0 := blk_frozen BK137.out 0; have hfz85_1 := blk_frozen BK137.out 1))
                        go_ret
                        exact ⟨by first | rfl | (simp [errW_none, errW_some] <;> rfl) | (simp [*, errW_none, errW_some] <;> rfl), by repeat (first | (with_reducible first | exact HB.out | apply below_alloc | apply pw_below_drewN | apply below_drew1 | refine below_set ?_ GE132.out | refine below_set ?_ GE137.out) | exact HB.out)⟩
              · rw [if_neg c25] at H
                exact absurd H (by simp)

/-- THE ONE PURE STATEMENT of laws_FnLinesOne: yours. -/
def laws_FnLinesOne.Pure : Prop := ∀ (a0 : ByteArray) (a1 : ByteArray), a0.size ≤ 140737488351232 → a1.size ≤ 140737488351232 → ∃ k, laws_FnLinesOne.f k a0 a1 = some true
theorem laws_FnLinesOne.walk (P : laws_FnLinesOne.Pure) (a0 : ByteArray) (a1 : ByteArray) (w : World) (w0 : a0.size ≤ 140737488351232) (w1 : a1.size ≤ 140737488351232) :
    Calls Tryd.prog 3 #[.string a0, .string a1] w fun e w' => e = .returned (.bool true) ∧ Below w.heap.size w w' := by
  obtain ⟨k, h⟩ := P a0 a1 w0 w1
  refine (laws_FnLinesOne.calls k a0 a1 true w h).mono ?_
  rintro e w' ⟨rfl, hd⟩
  exact ⟨rfl, hd⟩

end Go.Proofs.YtkfmjkiefckgoaaDoor.PFnLinesOne
