/- Printed by a program of this seat (xprint) out of the translation: Go functions as plain functions, and the walks that show them; no condition. -/
import Derived.Test.YthkblefeifdhaaaPFnEscapeOfx0
namespace Go.Proofs.Ythkblefeifdhaaa.PFnEscapeOf
open Go.RowKit Go.Proofs.Ythkblefeifdhaaa.H Go.Proofs.Ythkblefeifdhaaa.R Go.Proofs.YthkblefeifdhaaaW.PrintWords Go.Proofs.YthkblefeifdhaaaW.PrintLast Go.Proofs.YthkblefeifdhaaaW.PrintMore
attribute [local go_sem] max2_int min2_int max_two min_two max_three min_three max_four min_four   -- for this text's walks alone
set_option linter.unusedVariables false
set_option linter.unusedSimpArgs false

/-! ### readline_IsPrintable: function 41 -/
def readline_IsPrintable.f (a0 : Int) : Option (Bool) := if a0 ≥ 55296 then (if a0 ≥ 32 then (some (!(decide (a0 ≤ 56319)))) else (some false)) else (if a0 ≥ 32 then (some (!false)) else (some false))
set_option maxHeartbeats 8000000 in
set_option maxRecDepth 100000 in
theorem readline_IsPrintable.calls (a0 : Int) (r : Bool) (w : World) (h : readline_IsPrintable.f a0 = some r) :
    Calls Try.prog 41 #[.int .i32 a0] w fun e w' => e = .returned (.bool r) ∧ Drawn0 w w' := by
  have H : (if a0 ≥ 55296 then (if a0 ≥ 32 then (some (!(decide (a0 ≤ 56319)))) else (some false)) else (if a0 ≥ 32 then (some (!false)) else (some false))) = some r := h
  clear h
  by_cases c2 : a0 ≥ 55296
  · rw [if_pos c2] at H
    have c2b0 : decide (55296 ≤ a0) = true := decide_eq_true c2
    clear c2
    by_cases c3 : a0 ≥ 32
    · rw [if_pos c3] at H
      have c3b0 : decide (32 ≤ a0) = true := decide_eq_true c3
      clear c3
      obtain rfl := Option.some.inj H
      go_enter Try.func41, Try.ntmps41
      go_wp2
      go_ret
      exact ⟨by first | rfl | (simp; done) | (simp [*]; done), by repeat (first | exact Drawn0.refl _ | apply Drawn0.step)⟩
    · rw [if_neg c3] at H
      have c3b0 : decide (32 ≤ a0) = false := decide_eq_false c3
      clear c3
      obtain rfl := Option.some.inj H
      go_enter Try.func41, Try.ntmps41
      go_wp2
      go_ret
      exact ⟨by first | rfl | (simp; done) | (simp [*]; done), by repeat (first | exact Drawn0.refl _ | apply Drawn0.step)⟩
  · rw [if_neg c2] at H
    have c2b0 : decide (55296 ≤ a0) = false := decide_eq_false c2
    clear c2
    by_cases c4 : a0 ≥ 32
    · rw [if_pos c4] at H
      have c4b0 : decide (32 ≤ a0) = true := decide_eq_true c4
      clear c4
      obtain rfl := Option.some.inj H
      go_enter Try.func41, Try.ntmps41
      go_wp2
      go_ret
      exact ⟨by first | rfl | (simp; done) | (simp [*]; done), by repeat (first | exact Drawn0.refl _ | apply Drawn0.step)⟩
    · rw [if_neg c4] at H
      have c4b0 : decide (32 ≤ a0) = false := decide_eq_false c4
      clear c4
      obtain rfl := Option.some.inj H
      go_enter Try.func41, Try.ntmps41
      go_wp2
      go_ret
      exact ⟨by first | rfl | (simp; done) | (simp [*]; done), by repeat (first | exact Drawn0.refl _ | apply Drawn0.step)⟩

/-! ### impl_Printable: function 13 -/
def impl_Printable.f (a0 : Int) : Option (Bool) := (readline_IsPrintable.f (wrap32 (a0))).bind fun t101 => (some t101)
set_option maxHeartbeats 8000000 in
set_option maxRecDepth 100000 in
theorem impl_Printable.calls (a0 : Int) (r : Bool) (w : World) (h : impl_Printable.f a0 = some r) :
    Calls Try.prog 13 #[.int .i64 a0] w fun e w' => e = .returned (.bool r) ∧ Drawn0 w w' := by
  have H : ((readline_IsPrintable.f (wrap32 (a0))).bind fun t101 => (some t101)) = some r := h
  clear h
  replace H := Option.bind_eq_some_iff.mp H
  obtain ⟨t101, A20, H⟩ := H
  replace H : (some t101) = some r := H
  have A2 := Aside0.mk A20
  clear A20
  obtain rfl := Option.some.inj H
  go_enter Try.func13, Try.ntmps13
  go_wp2_with (first | ((with_reducible refine gate_callee (f := 41) rfl ?_); refine goesL_ (some 5) rfl rfl Try.func41 (by kernel_rfl) rfl #[.int .i32 (wrap32 (a0))] rfl (by (try simp only [List.map_toArray, List.map_cons, List.map_nil]); first | done | rfl | (simp only [List.length_drop, List.length_take]; rfl)) ?_; (with_reducible refine (readline_IsPrintable.calls (wrap32 (a0)) t101 _ A2.out).mono ?_); rintro e w' ⟨rfl, ⟨nd, rfl⟩⟩; refine ⟨_, rfl, ?_⟩))
  go_ret
  exact ⟨by first | rfl | (simp; done) | (simp [*]; done), by repeat (first | exact Drawn0.refl _ | apply Drawn0.step)⟩

/-! ### laws_ascii9: function 24 -/
def laws_ascii9.l0 : Nat → ByteArray → Int → Int → Option (Bool)
  | 0, _, _, _ => none
  | k + 1, x0, x5, x6 => if x6 < x5 then (if 0 ≤ x6 then (if x6 < (x0.size : Int) then (if (bt x0 x6) ≥ 128 then (some false) else (laws_ascii9.l0 k x0 x5 (wrap64 (x6 + 1)))) else (none)) else (none)) else (some (decide ((x0.size : Int) ≤ 300)))
def laws_ascii9.f (k : Nat) (a0 : ByteArray) : Option (Bool) := laws_ascii9.l0 k a0 (a0.size : Int) 0
theorem laws_ascii9.mono_l : ∀ k, (∀ y0 y1 y2, LeO (laws_ascii9.l0 k y0 y1 y2) (laws_ascii9.l0 (k + 1) y0 y1 y2))
  | 0 => fun _ _ _ r h => by simp [laws_ascii9.l0] at h
  | k + 1 => by
    have ih0 := laws_ascii9.mono_l k
    · intro y0 y1 y2
      unfold laws_ascii9.l0
      repeat' first
      | (with_reducible exact ih0 _ _ _)
      | (with_reducible exact LeO.refl _)
      | (with_reducible exact LeO.none _)
      | (with_reducible refine LeO.ite ?_ ?_)
      | (with_reducible refine LeO.bind ?_ (fun _ => ?_))
      | exact ih0 _ _ _
      | exact LeO.none _
      | refine LeO.ite ?_ ?_
      | refine LeO.bind ?_ (fun _ => ?_)
theorem laws_ascii9.mono : ∀ a0 k, LeO (laws_ascii9.f k a0) (laws_ascii9.f (k + 1) a0) := by
  intro a0 k
  have ih0 := laws_ascii9.mono_l k
  unfold laws_ascii9.f
  repeat' first
      | (with_reducible exact ih0 _ _ _)
      | (with_reducible exact LeO.refl _)
      | (with_reducible exact LeO.none _)
      | (with_reducible refine LeO.ite ?_ ?_)
      | (with_reducible refine LeO.bind ?_ (fun _ => ?_))
      | exact ih0 _ _ _
      | exact LeO.none _
      | refine LeO.ite ?_ ?_
      | refine LeO.bind ?_ (fun _ => ?_)
set_option maxHeartbeats 8000000 in
set_option maxRecDepth 100000 in
theorem laws_ascii9.calls (k : Nat) (a0 : ByteArray) (r : Bool) (w : World) (h : laws_ascii9.f k a0 = some r) :
    Calls Try.prog 24 #[.string a0] w fun e w' => e = .returned (.bool r) ∧ Drawn0 w w' := by
  have H : (laws_ascii9.l0 k a0 (a0.size : Int) 0) = some r := h
  clear h
  have H' := Aside0.mk H
  clear H
  go_enter Try.func24, Try.ntmps24
  go_wp2
  go_loopg [6] k (fun kq v6 w' => ∃ (x6_1 : Int), v6 = .int .i64 x6_1 ∧ Aside0 (laws_ascii9.l0 kq a0 (a0.size : Int) x6_1 = some r) ∧ Aside0 (kq ≤ k) ∧ Drawn0 w w')
  case atStart => exact ⟨(0), (by first | rfl | (simp; done) | (simp [*]; done)), H', ⟨Nat.le_refl _⟩, by repeat (first | exact Drawn0.refl _ | apply Drawn0.step)⟩
  case round =>
    clear H'
    obtain ⟨x6_1, rfl, HA, HK1, ⟨m1, rfl⟩⟩ := hrel
    cases gk with
    | zero => exact absurd HA.out (by simp [laws_ascii9.l0])
    | succ k1 =>
      have H := HA.out
      clear HA
      simp only [laws_ascii9.l0] at H
      by_cases c2 : x6_1 < (a0.size : Int)
      · rw [if_pos c2] at H
        have c2b0 : decide (x6_1 < (a0.size : Int)) = true := decide_eq_true c2
        clear c2
        by_cases c3 : 0 ≤ x6_1
        · rw [if_pos c3] at H
          have c3b0 : decide (0 ≤ x6_1) = true := decide_eq_true c3
          clear c3
          by_cases c4 : x6_1 < (a0.size : Int)
          · rw [if_pos c4] at H
            have c4b0 : decide (x6_1 < (a0.size : Int)) = true := decide_eq_true c4
            clear c4
            by_cases c6 : (bt a0 x6_1) ≥ 128
            · rw [if_pos c6] at H
              have c6b0 : decide (128 ≤ (bt a0 x6_1)) = true := decide_eq_true c6
              clear c6
              obtain rfl := Option.some.inj H
              have p5 : 0 ≤ (x6_1 : Int) := of_decide_eq_true (by first | (with_reducible assumption) | assumption)
              have q5 : x6_1 < (a0.size : Int) := of_decide_eq_true (by first | (with_reducible assumption) | assumption)
              have hx5 := bt_at a0 x6_1
              replace p5 := eq_true p5
              replace q5 := eq_true q5
              go_wp2
              go_ret
              exact ⟨by first | rfl | (simp; done) | (simp [*]; done), by repeat (first | exact Drawn0.refl _ | apply Drawn0.step)⟩
            · rw [if_neg c6] at H
              have c6b0 : decide (128 ≤ (bt a0 x6_1)) = false := decide_eq_false c6
              clear c6
              have H' := Aside0.mk H
              clear H
              have p5 : 0 ≤ (x6_1 : Int) := of_decide_eq_true (by first | (with_reducible assumption) | assumption)
              have q5 : x6_1 < (a0.size : Int) := of_decide_eq_true (by first | (with_reducible assumption) | assumption)
              have hx5 := bt_at a0 x6_1
              replace p5 := eq_true p5
              replace q5 := eq_true q5
              go_wp2
              go_roundg k1
              case measure => have := HK1.out; omega
              case rel => exact ⟨(wrap64 (x6_1 + 1)), (by first | rfl | (simp; done) | (simp [*]; done)), H', ⟨by have := HK1.out; omega⟩, by repeat (first | exact Drawn0.refl _ | apply Drawn0.step)⟩
          · rw [if_neg c4] at H
            exact absurd H (by simp)
        · rw [if_neg c3] at H
          exact absurd H (by simp)
      · rw [if_neg c2] at H
        have c2b0 : decide (x6_1 < (a0.size : Int)) = false := decide_eq_false c2
        clear c2
        obtain rfl := Option.some.inj H
        go_wp2
        go_ret
        exact ⟨by first | rfl | (simp; done) | (simp [*]; done), by repeat (first | exact Drawn0.refl _ | apply Drawn0.step)⟩

/-! ### spec_ExKey: function 54 -/
def spec_ExKey.f (a0 : Int) : Option (Int) := if a0 = 68 then (some 2) else (if a0 = 67 then (some 6) else (if a0 = 65 then (some 16) else (if a0 = 66 then (some 14) else (if a0 = 72 then (some 1) else (if a0 = 70 then (some 5) else (some 0))))))
set_option maxHeartbeats 8000000 in
set_option maxRecDepth 100000 in
theorem spec_ExKey.calls (a0 : Int) (r : Int) (w : World) (h : spec_ExKey.f a0 = some r) :
    Calls Try.prog 54 #[.int .i64 a0] w fun e w' => e = .returned (.int .i64 r) ∧ Drawn0 w w' := by
  have H : (if a0 = 68 then (some 2) else (if a0 = 67 then (some 6) else (if a0 = 65 then (some 16) else (if a0 = 66 then (some 14) else (if a0 = 72 then (some 1) else (if a0 = 70 then (some 5) else (some 0))))))) = some r := h
  clear h
  by_cases c2 : a0 = 68
  · rw [if_pos c2] at H
    have c2b0 : (a0 == 68) = true := beq_iff_eq.mpr c2
    have c2b1 : (a0 != 68) = false := bne_eq_false_iff_eq.mpr c2
    clear c2
    obtain rfl := Option.some.inj H
    go_enter Try.func54, Try.ntmps54
    go_wp2
    go_ret
    exact ⟨by first | rfl | (simp; done) | (simp [*]; done), by repeat (first | exact Drawn0.refl _ | apply Drawn0.step)⟩
  · rw [if_neg c2] at H
    have c2b0 : (a0 == 68) = false := beq_eq_false_iff_ne.mpr c2
    have c2b1 : (a0 != 68) = true := bne_iff_ne.mpr c2
    by_cases c3 : a0 = 67
    · rw [if_pos c3] at H
      have c3b0 : (a0 == 67) = true := beq_iff_eq.mpr c3
      have c3b1 : (a0 != 67) = false := bne_eq_false_iff_eq.mpr c3
      clear c3
      obtain rfl := Option.some.inj H
      go_enter Try.func54, Try.ntmps54
      go_wp2
      go_ret
      exact ⟨by first | rfl | (simp; done) | (simp [*]; done), by repeat (first | exact Drawn0.refl _ | apply Drawn0.step)⟩
    · rw [if_neg c3] at H
      have c3b0 : (a0 == 67) = false := beq_eq_false_iff_ne.mpr c3
      have c3b1 : (a0 != 67) = true := bne_iff_ne.mpr c3
      by_cases c4 : a0 = 65
      · rw [if_pos c4] at H
        have c4b0 : (a0 == 65) = true := beq_iff_eq.mpr c4
        have c4b1 : (a0 != 65) = false := bne_eq_false_iff_eq.mpr c4
        clear c4
        obtain rfl := Option.some.inj H
        go_enter Try.func54, Try.ntmps54
        go_wp2
        go_ret
        exact ⟨by first | rfl | (simp; done) | (simp [*]; done), by repeat (first | exact Drawn0.refl _ | apply Drawn0.step)⟩
      · rw [if_neg c4] at H
        have c4b0 : (a0 == 65) = false := beq_eq_false_iff_ne.mpr c4
        have c4b1 : (a0 != 65) = true := bne_iff_ne.mpr c4
        by_cases c5 : a0 = 66
        · rw [if_pos c5] at H
          have c5b0 : (a0 == 66) = true := beq_iff_eq.mpr c5
          have c5b1 : (a0 != 66) = false := bne_eq_false_iff_eq.mpr c5
          clear c5
          obtain rfl := Option.some.inj H
          go_enter Try.func54, Try.ntmps54
          go_wp2
          go_ret
          exact ⟨by first | rfl | (simp; done) | (simp [*]; done), by repeat (first | exact Drawn0.refl _ | apply Drawn0.step)⟩
        · rw [if_neg c5] at H
          have c5b0 : (a0 == 66) = false := beq_eq_false_iff_ne.mpr c5
          have c5b1 : (a0 != 66) = true := bne_iff_ne.mpr c5
          by_cases c6 : a0 = 72
          · rw [if_pos c6] at H
            have c6b0 : (a0 == 72) = true := beq_iff_eq.mpr c6
            have c6b1 : (a0 != 72) = false := bne_eq_false_iff_eq.mpr c6
            clear c6
            obtain rfl := Option.some.inj H
            go_enter Try.func54, Try.ntmps54
            go_wp2
            go_ret
            exact ⟨by first | rfl | (simp; done) | (simp [*]; done), by repeat (first | exact Drawn0.refl _ | apply Drawn0.step)⟩
          · rw [if_neg c6] at H
            have c6b0 : (a0 == 72) = false := beq_eq_false_iff_ne.mpr c6
            have c6b1 : (a0 != 72) = true := bne_iff_ne.mpr c6
            by_cases c7 : a0 = 70
            · rw [if_pos c7] at H
              have c7b0 : (a0 == 70) = true := beq_iff_eq.mpr c7
              have c7b1 : (a0 != 70) = false := bne_eq_false_iff_eq.mpr c7
              clear c7
              obtain rfl := Option.some.inj H
              go_enter Try.func54, Try.ntmps54
              go_wp2
              go_ret
              exact ⟨by first | rfl | (simp; done) | (simp [*]; done), by repeat (first | exact Drawn0.refl _ | apply Drawn0.step)⟩
            · rw [if_neg c7] at H
              have c7b0 : (a0 == 70) = false := beq_eq_false_iff_ne.mpr c7
              have c7b1 : (a0 != 70) = true := bne_iff_ne.mpr c7
              obtain rfl := Option.some.inj H
              go_enter Try.func54, Try.ntmps54
              go_wp2
              go_ret
              exact ⟨by first | rfl | (simp; done) | (simp [*]; done), by repeat (first | exact Drawn0.refl _ | apply Drawn0.step)⟩

/-! ### spec_EscapeOf: function 25 -/
def spec_EscapeOf.f (a0 : Int) (a1 : ByteArray) : Option (Int × ByteArray) := if a0 = 98 then (some ((-1), a1)) else (if a0 = 102 then (some ((-2), a1)) else (if a0 = 100 then (some ((-3), a1)) else (if a0 = 20 then (some ((-5), a1)) else (if a0 = 127 then (some ((-4), a1)) else (if a0 = 79 then (if a1.toList = ([] : List UInt8) then (some (a0, a1)) else (if 0 < (a1.size : Int) then (if (bt a1 0) = 72 then ((spec_ExKey.f (wrap64 (bt a1 0))).bind fun t102 => (if 1 ≤ (a1.size : Int) then (some (t102, a1.extract 1 a1.size)) else (none))) else (if (bt a1 0) = 70 then ((spec_ExKey.f (wrap64 (bt a1 0))).bind fun t103 => (if 1 ≤ (a1.size : Int) then (some (t103, a1.extract 1 a1.size)) else (none))) else (some (a0, a1)))) else (none))) else (some (a0, a1)))))))
set_option maxHeartbeats 8000000 in
set_option maxRecDepth 100000 in
theorem spec_EscapeOf.calls (a0 : Int) (a1 : ByteArray) (r1 : Int) (r2 : ByteArray) (w : World) (h : spec_EscapeOf.f a0 a1 = some (r1, r2)) :
    Calls Try.prog 25 #[.int .i64 a0, .string a1] w fun e w' => e = .returned (.tuple #[.int .i64 r1, .string r2]) ∧ Drawn0 w w' := by
  have H : (if a0 = 98 then (some ((-1), a1)) else (if a0 = 102 then (some ((-2), a1)) else (if a0 = 100 then (some ((-3), a1)) else (if a0 = 20 then (some ((-5), a1)) else (if a0 = 127 then (some ((-4), a1)) else (if a0 = 79 then (if a1.toList = ([] : List UInt8) then (some (a0, a1)) else (if 0 < (a1.size : Int) then (if (bt a1 0) = 72 then ((spec_ExKey.f (wrap64 (bt a1 0))).bind fun t102 => (if 1 ≤ (a1.size : Int) then (some (t102, a1.extract 1 a1.size)) else (none))) else (if (bt a1 0) = 70 then ((spec_ExKey.f (wrap64 (bt a1 0))).bind fun t103 => (if 1 ≤ (a1.size : Int) then (some (t103, a1.extract 1 a1.size)) else (none))) else (some (a0, a1)))) else (none))) else (some (a0, a1)))))))) = some (r1, r2) := h
  clear h
  by_cases c3 : a0 = 98
  · rw [if_pos c3] at H
    have c3b0 : (a0 == 98) = true := beq_iff_eq.mpr c3
    have c3b1 : (a0 != 98) = false := bne_eq_false_iff_eq.mpr c3
    clear c3
    simp only [Option.some.injEq, Prod.mk.injEq] at H
    obtain ⟨rfl, rfl⟩ := H
    go_enter Try.func25, Try.ntmps25
    go_wp2
    repeat (go_quiet (fail); try go_wp2)
    go_ret2
    exact ⟨by first | rfl | (simp; done) | (simp [*]; done), by repeat (first | exact Drawn0.refl _ | apply Drawn0.step)⟩
  · rw [if_neg c3] at H
    have c3b0 : (a0 == 98) = false := beq_eq_false_iff_ne.mpr c3
    have c3b1 : (a0 != 98) = true := bne_iff_ne.mpr c3
    by_cases c4 : a0 = 102
    · rw [if_pos c4] at H
      have c4b0 : (a0 == 102) = true := beq_iff_eq.mpr c4
      have c4b1 : (a0 != 102) = false := bne_eq_false_iff_eq.mpr c4
      clear c4
      simp only [Option.some.injEq, Prod.mk.injEq] at H
      obtain ⟨rfl, rfl⟩ := H
      go_enter Try.func25, Try.ntmps25
      go_wp2
      repeat (go_quiet (fail); try go_wp2)
      go_ret2
      exact ⟨by first | rfl | (simp; done) | (simp [*]; done), by repeat (first | exact Drawn0.refl _ | apply Drawn0.step)⟩
    · rw [if_neg c4] at H
      have c4b0 : (a0 == 102) = false := beq_eq_false_iff_ne.mpr c4
      have c4b1 : (a0 != 102) = true := bne_iff_ne.mpr c4
      by_cases c5 : a0 = 100
      · rw [if_pos c5] at H
        have c5b0 : (a0 == 100) = true := beq_iff_eq.mpr c5
        have c5b1 : (a0 != 100) = false := bne_eq_false_iff_eq.mpr c5
        clear c5
        simp only [Option.some.injEq, Prod.mk.injEq] at H
        obtain ⟨rfl, rfl⟩ := H
        go_enter Try.func25, Try.ntmps25
        go_wp2
        repeat (go_quiet (fail); try go_wp2)
        go_ret2
        exact ⟨by first | rfl | (simp; done) | (simp [*]; done), by repeat (first | exact Drawn0.refl _ | apply Drawn0.step)⟩
      · rw [if_neg c5] at H
        have c5b0 : (a0 == 100) = false := beq_eq_false_iff_ne.mpr c5
        have c5b1 : (a0 != 100) = true := bne_iff_ne.mpr c5
        by_cases c6 : a0 = 20
        · rw [if_pos c6] at H
          have c6b0 : (a0 == 20) = true := beq_iff_eq.mpr c6
          have c6b1 : (a0 != 20) = false := bne_eq_false_iff_eq.mpr c6
          clear c6
          simp only [Option.some.injEq, Prod.mk.injEq] at H
          obtain ⟨rfl, rfl⟩ := H
          go_enter Try.func25, Try.ntmps25
          go_wp2
          repeat (go_quiet (fail); try go_wp2)
          go_ret2
          exact ⟨by first | rfl | (simp; done) | (simp [*]; done), by repeat (first | exact Drawn0.refl _ | apply Drawn0.step)⟩
        · rw [if_neg c6] at H
          have c6b0 : (a0 == 20) = false := beq_eq_false_iff_ne.mpr c6
          have c6b1 : (a0 != 20) = true := bne_iff_ne.mpr c6
          by_cases c7 : a0 = 127
          · rw [if_pos c7] at H
            have c7b0 : (a0 == 127) = true := beq_iff_eq.mpr c7
            have c7b1 : (a0 != 127) = false := bne_eq_false_iff_eq.mpr c7
            clear c7
            simp only [Option.some.injEq, Prod.mk.injEq] at H
            obtain ⟨rfl, rfl⟩ := H
            go_enter Try.func25, Try.ntmps25
            go_wp2
            repeat (go_quiet (fail); try go_wp2)
            go_ret2
            exact ⟨by first | rfl | (simp; done) | (simp [*]; done), by repeat (first | exact Drawn0.refl _ | apply Drawn0.step)⟩
          · rw [if_neg c7] at H
            have c7b0 : (a0 == 127) = false := beq_eq_false_iff_ne.mpr c7
            have c7b1 : (a0 != 127) = true := bne_iff_ne.mpr c7
            by_cases c8 : a0 = 79
            · rw [if_pos c8] at H
              have c8b0 : (a0 == 79) = true := beq_iff_eq.mpr c8
              have c8b1 : (a0 != 79) = false := bne_eq_false_iff_eq.mpr c8
              clear c8
              by_cases c9 : a1.toList = ([] : List UInt8)
              · rw [if_pos c9] at H
                have c9b0 : (a1.toList == ([] : List UInt8)) = true := beq_iff_eq.mpr c9
                have c9b1 : (a1.toList != ([] : List UInt8)) = false := bne_eq_false_iff_eq.mpr c9
                clear c9
                simp only [Option.some.injEq, Prod.mk.injEq] at H
                obtain ⟨rfl, rfl⟩ := H
                go_enter Try.func25, Try.ntmps25
                go_wp2
                repeat (go_quiet (fail); try go_wp2)
                go_ret2
                exact ⟨by first | rfl | (simp; done) | (simp [*]; done), by repeat (first | exact Drawn0.refl _ | apply Drawn0.step)⟩
              · rw [if_neg c9] at H
                have c9b0 : (a1.toList == ([] : List UInt8)) = false := beq_eq_false_iff_ne.mpr c9
                have c9b1 : (a1.toList != ([] : List UInt8)) = true := bne_iff_ne.mpr c9
                by_cases c10 : 0 < (a1.size : Int)
                · rw [if_pos c10] at H
                  have c10b0 : decide (0 < (a1.size : Int)) = true := decide_eq_true c10
                  have c10b1 : decide (0 < a1.size) = true := decide_eq_true (by omega)
                  clear c10
                  by_cases c12 : (bt a1 0) = 72
                  · rw [if_pos c12] at H
                    have c12b0 : ((bt a1 0) == 72) = true := beq_iff_eq.mpr c12
                    have c12b1 : ((bt a1 0) != 72) = false := bne_eq_false_iff_eq.mpr c12
                    clear c12
                    replace H := Option.bind_eq_some_iff.mp H
                    obtain ⟨t102, A140, H⟩ := H
                    replace H : (if 1 ≤ (a1.size : Int) then (some (t102, a1.extract 1 a1.size)) else (none)) = some (r1, r2) := H
                    have A14 := Aside0.mk A140
                    clear A140
                    by_cases c15 : 1 ≤ (a1.size : Int)
                    · rw [if_pos c15] at H
                      have c15b0 := eq_true c15
                      have c15b1 : decide (1 ≤ (a1.size : Int)) = true := decide_eq_true c15
                      clear c15
                      simp only [Option.some.injEq, Prod.mk.injEq] at H
                      obtain ⟨rfl, rfl⟩ := H
                      have p11 : 0 ≤ (0 : Int) := (by omega)
                      have q11 : 0 < a1.size := (by have : (0 : Int) < (a1.size : Int) := of_decide_eq_true (by first | (with_reducible assumption) | assumption); omega)
                      have hx11 : ∀ h : 0 < a1.size, ((a1[0]'h).toNat : Int) = bt a1 0 := bt_at a1 0
                      clear p11
                      have qi11 : (0 < (a1.size : Int)) = True := eq_true (of_decide_eq_true (by first | (with_reducible assumption) | assumption))
                      replace q11 := eq_true q11
                      have p13 : 0 ≤ (0 : Int) := (by omega)
                      have q13 : 0 < a1.size := (by have : (0 : Int) < (a1.size : Int) := of_decide_eq_true (by first | (with_reducible assumption) | assumption); omega)
                      have hx13 : ∀ h : 0 < a1.size, ((a1[0]'h).toNat : Int) = bt a1 0 := bt_at a1 0
                      clear p13
                      have qi13 : (0 < (a1.size : Int)) = True := eq_true (of_decide_eq_true (by first | (with_reducible assumption) | assumption))
                      replace q13 := eq_true q13
                      go_enter Try.func25, Try.ntmps25
                      go_wp2_with (first | (go_at_call 54; (with_reducible refine (spec_ExKey.calls (wrap64 (bt a1 0)) t102 _ A14.out).mono ?_); rintro e w' ⟨rfl, ⟨nd, rfl⟩⟩; (try first | exact ⟨rfl, _, World.drewN_drewN _ _ _⟩ | exact ⟨rfl, _, Eq.trans (World.drewN_drewN _ _ _) (congrArg (World.drewN _) (Nat.add_assoc _ _ _))⟩)))
                      repeat (go_quiet (first | (go_at_call 54; (with_reducible refine (spec_ExKey.calls (wrap64 (bt a1 0)) t102 _ A14.out).mono ?_); rintro e w' ⟨rfl, ⟨nd, rfl⟩⟩; (try first | exact ⟨rfl, _, World.drewN_drewN _ _ _⟩ | exact ⟨rfl, _, Eq.trans (World.drewN_drewN _ _ _) (congrArg (World.drewN _) (Nat.add_assoc _ _ _))⟩))); try go_wp2_with (first | (go_at_call 54; (with_reducible refine (spec_ExKey.calls (wrap64 (bt a1 0)) t102 _ A14.out).mono ?_); rintro e w' ⟨rfl, ⟨nd, rfl⟩⟩; (try first | exact ⟨rfl, _, World.drewN_drewN _ _ _⟩ | exact ⟨rfl, _, Eq.trans (World.drewN_drewN _ _ _) (congrArg (World.drewN _) (Nat.add_assoc _ _ _))⟩))))
                      go_ret2
                      exact ⟨by first | rfl | (simp; done) | (simp [*]; done), by repeat (first | exact Drawn0.refl _ | apply Drawn0.step)⟩
                    · rw [if_neg c15] at H
                      exact absurd H (by simp)
                  · rw [if_neg c12] at H
                    have c12b0 : ((bt a1 0) == 72) = false := beq_eq_false_iff_ne.mpr c12
                    have c12b1 : ((bt a1 0) != 72) = true := bne_iff_ne.mpr c12
                    by_cases c17 : (bt a1 0) = 70
                    · rw [if_pos c17] at H
                      have c17b0 : ((bt a1 0) == 70) = true := beq_iff_eq.mpr c17
                      have c17b1 : ((bt a1 0) != 70) = false := bne_eq_false_iff_eq.mpr c17
                      clear c17
                      replace H := Option.bind_eq_some_iff.mp H
                      obtain ⟨t103, A190, H⟩ := H
                      replace H : (if 1 ≤ (a1.size : Int) then (some (t103, a1.extract 1 a1.size)) else (none)) = some (r1, r2) := H
                      have A19 := Aside0.mk A190
                      clear A190
                      by_cases c20 : 1 ≤ (a1.size : Int)
                      · rw [if_pos c20] at H
                        have c20b0 := eq_true c20
                        have c20b1 : decide (1 ≤ (a1.size : Int)) = true := decide_eq_true c20
                        clear c20
                        simp only [Option.some.injEq, Prod.mk.injEq] at H
                        obtain ⟨rfl, rfl⟩ := H
                        have p11 : 0 ≤ (0 : Int) := (by omega)
                        have q11 : 0 < a1.size := (by have : (0 : Int) < (a1.size : Int) := of_decide_eq_true (by first | (with_reducible assumption) | assumption); omega)
                        have hx11 : ∀ h : 0 < a1.size, ((a1[0]'h).toNat : Int) = bt a1 0 := bt_at a1 0
                        clear p11
                        have qi11 : (0 < (a1.size : Int)) = True := eq_true (of_decide_eq_true (by first | (with_reducible assumption) | assumption))
                        replace q11 := eq_true q11
                        have p16 : 0 ≤ (0 : Int) := (by omega)
                        have q16 : 0 < a1.size := (by have : (0 : Int) < (a1.size : Int) := of_decide_eq_true (by first | (with_reducible assumption) | assumption); omega)
                        have hx16 : ∀ h : 0 < a1.size, ((a1[0]'h).toNat : Int) = bt a1 0 := bt_at a1 0
                        clear p16
                        have qi16 : (0 < (a1.size : Int)) = True := eq_true (of_decide_eq_true (by first | (with_reducible assumption) | assumption))
                        replace q16 := eq_true q16
                        have p18 : 0 ≤ (0 : Int) := (by omega)
                        have q18 : 0 < a1.size := (by have : (0 : Int) < (a1.size : Int) := of_decide_eq_true (by first | (with_reducible assumption) | assumption); omega)
                        have hx18 : ∀ h : 0 < a1.size, ((a1[0]'h).toNat : Int) = bt a1 0 := bt_at a1 0
                        clear p18
                        have qi18 : (0 < (a1.size : Int)) = True := eq_true (of_decide_eq_true (by first | (with_reducible assumption) | assumption))
                        replace q18 := eq_true q18
                        go_enter Try.func25, Try.ntmps25
                        go_wp2_with (first | (go_at_call 54; (with_reducible refine (spec_ExKey.calls (wrap64 (bt a1 0)) t103 _ A19.out).mono ?_); rintro e w' ⟨rfl, ⟨nd, rfl⟩⟩; (try first | exact ⟨rfl, _, World.drewN_drewN _ _ _⟩ | exact ⟨rfl, _, Eq.trans (World.drewN_drewN _ _ _) (congrArg (World.drewN _) (Nat.add_assoc _ _ _))⟩)))
                        repeat (go_quiet (first | (go_at_call 54; (with_reducible refine (spec_ExKey.calls (wrap64 (bt a1 0)) t103 _ A19.out).mono ?_); rintro e w' ⟨rfl, ⟨nd, rfl⟩⟩; (try first | exact ⟨rfl, _, World.drewN_drewN _ _ _⟩ | exact ⟨rfl, _, Eq.trans (World.drewN_drewN _ _ _) (congrArg (World.drewN _) (Nat.add_assoc _ _ _))⟩))); try go_wp2_with (first | (go_at_call 54; (with_reducible refine (spec_ExKey.calls (wrap64 (bt a1 0)) t103 _ A19.out).mono ?_); rintro e w' ⟨rfl, ⟨nd, rfl⟩⟩; (try first | exact ⟨rfl, _, World.drewN_drewN _ _ _⟩ | exact ⟨rfl, _, Eq.trans (World.drewN_drewN _ _ _) (congrArg (World.drewN _) (Nat.add_assoc _ _ _))⟩))))
                        go_ret2
                        exact ⟨by first | rfl | (simp; done) | (simp [*]; done), by repeat (first | exact Drawn0.refl _ | apply Drawn0.step)⟩
                      · rw [if_neg c20] at H
                        exact absurd H (by simp)
                    · rw [if_neg c17] at H
                      have c17b0 : ((bt a1 0) == 70) = false := beq_eq_false_iff_ne.mpr c17
                      have c17b1 : ((bt a1 0) != 70) = true := bne_iff_ne.mpr c17
                      simp only [Option.some.injEq, Prod.mk.injEq] at H
                      obtain ⟨rfl, rfl⟩ := H
                      have p11 : 0 ≤ (0 : Int) := (by omega)
                      have q11 : 0 < a1.size := (by have : (0 : Int) < (a1.size : Int) := of_decide_eq_true (by first | (with_reducible assumption) | assumption); omega)
                      have hx11 : ∀ h : 0 < a1.size, ((a1[0]'h).toNat : Int) = bt a1 0 := bt_at a1 0
                      clear p11
                      have qi11 : (0 < (a1.size : Int)) = True := eq_true (of_decide_eq_true (by first | (with_reducible assumption) | assumption))
                      replace q11 := eq_true q11
                      have p16 : 0 ≤ (0 : Int) := (by omega)
                      have q16 : 0 < a1.size := (by have : (0 : Int) < (a1.size : Int) := of_decide_eq_true (by first | (with_reducible assumption) | assumption); omega)
                      have hx16 : ∀ h : 0 < a1.size, ((a1[0]'h).toNat : Int) = bt a1 0 := bt_at a1 0
                      clear p16
                      have qi16 : (0 < (a1.size : Int)) = True := eq_true (of_decide_eq_true (by first | (with_reducible assumption) | assumption))
                      replace q16 := eq_true q16
                      go_enter Try.func25, Try.ntmps25
                      go_wp2
                      repeat (go_quiet (fail); try go_wp2)
                      go_ret2
                      exact ⟨by first | rfl | (simp; done) | (simp [*]; done), by repeat (first | exact Drawn0.refl _ | apply Drawn0.step)⟩
                · rw [if_neg c10] at H
                  exact absurd H (by simp)
            · rw [if_neg c8] at H
              have c8b0 : (a0 == 79) = false := beq_eq_false_iff_ne.mpr c8
              have c8b1 : (a0 != 79) = true := bne_iff_ne.mpr c8
              simp only [Option.some.injEq, Prod.mk.injEq] at H
              obtain ⟨rfl, rfl⟩ := H
              go_enter Try.func25, Try.ntmps25
              go_wp2
              repeat (go_quiet (fail); try go_wp2)
              go_ret2
              exact ⟨by first | rfl | (simp; done) | (simp [*]; done), by repeat (first | exact Drawn0.refl _ | apply Drawn0.step)⟩

/-! ### laws_FnEscapeOf: function 8 -/
def laws_FnEscapeOf.j0 : Nat → Int → ByteArray → Bool → Option (Bool)
  | 0, _, _, _ => none
  | k + 1, x0, x1, x23 => if x23 = true then (some true) else ((spec_EscapeOf.f (wrap64 (x0)) x1).bind fun bt105 => ((impl_EscapeOf.f (wrap64 (x0)) x1).bind fun bt107 => (if bt107.1 = bt105.1 then (if bt107.2.toList = bt105.2.toList then ((impl_Printable.f 97).bind fun t109 => (some t109)) else (some false)) else (some false))))
def laws_FnEscapeOf.f (k : Nat) (a0 : Int) (a1 : ByteArray) : Option (Bool) := if (a1.size : Int) > 2147483647 then (some true) else (if a0 ≥ 128 then (laws_FnEscapeOf.j0 k a0 a1 true) else (if (a1.size : Int) > 100 then (laws_FnEscapeOf.j0 k a0 a1 true) else ((laws_ascii9.f k a1).bind fun t104 => (laws_FnEscapeOf.j0 k a0 a1 (!t104)))))
theorem laws_FnEscapeOf.mono_l : ∀ k, (∀ y0 y1 y2, LeO (laws_FnEscapeOf.j0 k y0 y1 y2) (laws_FnEscapeOf.j0 (k + 1) y0 y1 y2))
  | 0 => fun _ _ _ r h => by simp [laws_FnEscapeOf.j0] at h
  | k + 1 => by
    have ih0 := laws_FnEscapeOf.mono_l k
    · intro y0 y1 y2
      unfold laws_FnEscapeOf.j0
      repeat' first
      | (with_reducible exact ih0 _ _ _)
      | (with_reducible exact laws_ascii9.mono _ _)
      | (with_reducible exact LeO.refl _)
      | (with_reducible exact LeO.none _)
      | (with_reducible refine LeO.ite ?_ ?_)
      | (with_reducible refine LeO.bind ?_ (fun _ => ?_))
      | exact ih0 _ _ _
      | exact laws_ascii9.mono _ _
      | exact LeO.none _
      | refine LeO.ite ?_ ?_
      | refine LeO.bind ?_ (fun _ => ?_)
theorem laws_FnEscapeOf.mono : ∀ a0 a1 k, LeO (laws_FnEscapeOf.f k a0 a1) (laws_FnEscapeOf.f (k + 1) a0 a1) := by
  intro a0 a1 k
  have ih0 := laws_FnEscapeOf.mono_l k
  unfold laws_FnEscapeOf.f
  repeat' first
      | (with_reducible exact ih0 _ _ _)
      | (with_reducible exact laws_ascii9.mono _ _)
      | (with_reducible exact LeO.refl _)
      | (with_reducible exact LeO.none _)
      | (with_reducible refine LeO.ite ?_ ?_)
      | (with_reducible refine LeO.bind ?_ (fun _ => ?_))
      | exact ih0 _ _ _
      | exact laws_ascii9.mono _ _
      | exact LeO.none _
      | refine LeO.ite ?_ ?_
      | refine LeO.bind ?_ (fun _ => ?_)
set_option maxHeartbeats 8000000 in
set_option maxRecDepth 100000 in
theorem laws_FnEscapeOf.calls (k : Nat) (a0 : Int) (a1 : ByteArray) (r : Bool) (w : World) (h : laws_FnEscapeOf.f k a0 a1 = some r) :
    Calls Try.prog 8 #[.int .u8 a0, .string a1] w fun e w' => e = .returned (.bool r) ∧ Below w.heap.size w w' := by
  have HB := Aside0.mk (Below.refl w.heap.size w)
  have H : (if (a1.size : Int) > 2147483647 then (some true) else (if a0 ≥ 128 then (laws_FnEscapeOf.j0 k a0 a1 true) else (if (a1.size : Int) > 100 then (laws_FnEscapeOf.j0 k a0 a1 true) else ((laws_ascii9.f k a1).bind fun t104 => (laws_FnEscapeOf.j0 k a0 a1 (!t104)))))) = some r := h
  clear h
  by_cases c3 : (a1.size : Int) > 2147483647
  · rw [if_pos c3] at H
    have c3b0 : decide (2147483647 < (a1.size : Int)) = true := decide_eq_true c3
    have c3b1 : decide (2147483647 < a1.size) = true := decide_eq_true (by omega)
    clear c3
    obtain rfl := Option.some.inj H
    go_enter Try.func8, Try.ntmps8
    go_wp2
    go_ret
    exact ⟨by first | rfl | (simp [errW_none, errW_some] <;> rfl) | (simp [*, errW_none, errW_some] <;> rfl), by repeat (first | (with_reducible first | exact HB.out | apply below_alloc | apply pw_below_drewN | apply below_drew1) | exact HB.out)⟩
  · rw [if_neg c3] at H
    have c3b0 : decide (2147483647 < (a1.size : Int)) = false := decide_eq_false c3
    have c3b1 : decide (2147483647 < a1.size) = false := decide_eq_false (by omega)
    clear c3
    have HC4 := Aside0.mk H
    clear H
    go_enter Try.func8, Try.ntmps8
    go_upto_region 3 with (fail)
    go_cut [23] (fun v23 wc => ∃ (kq : Nat) (x23_3 : Bool), v23 = .bool x23_3 ∧ Aside0 (laws_FnEscapeOf.j0 kq a0 a1 x23_3 = some r) ∧ Aside0 (kq ≤ k) ∧ Aside0 (Below w.heap.size w wc))
    case first =>
      have H := HC4.out
      clear HC4
      by_cases c5 : a0 ≥ 128
      · rw [if_pos c5] at H
        have c5b0 : decide (128 ≤ a0) = true := decide_eq_true c5
        clear c5
        (first | rw [c5b0] | (simp only [i64_w, i32_w]; rw [c5b0]) | skip)
        have H' := Aside0.mk H
        clear H
        go_wp2
        go_meet
        case rel => exact ⟨_, (true), (by first | rfl | (simp; done) | (simp [*]; done)), H', ⟨by first | omega | exact Nat.le_refl _⟩, ⟨by repeat (first | (with_reducible first | exact HB.out | apply below_alloc | apply pw_below_drewN | apply below_drew1) | exact HB.out)⟩⟩
      · rw [if_neg c5] at H
        have c5b0 : decide (128 ≤ a0) = false := decide_eq_false c5
        clear c5
        (first | rw [c5b0] | (simp only [i64_w, i32_w]; rw [c5b0]) | skip)
        by_cases c6 : (a1.size : Int) > 100
        · rw [if_pos c6] at H
          have c6b0 : decide (100 < (a1.size : Int)) = true := decide_eq_true c6
          have c6b1 : decide (100 < a1.size) = true := decide_eq_true (by omega)
          clear c6
          have H' := Aside0.mk H
          clear H
          go_wp2
          go_meet
          case rel => exact ⟨_, (true), (by first | rfl | (simp; done) | (simp [*]; done)), H', ⟨by first | omega | exact Nat.le_refl _⟩, ⟨by repeat (first | (with_reducible first | exact HB.out | apply below_alloc | apply pw_below_drewN | apply below_drew1) | exact HB.out)⟩⟩
        · rw [if_neg c6] at H
          have c6b0 : decide (100 < (a1.size : Int)) = false := decide_eq_false c6
          have c6b1 : decide (100 < a1.size) = false := decide_eq_false (by omega)
          clear c6
          replace H := Option.bind_eq_some_iff.mp H
          obtain ⟨t104, A70, H⟩ := H
          replace H : (laws_FnEscapeOf.j0 k a0 a1 (!t104)) = some r := H
          have A7 := Aside0.mk A70
          clear A70
          have H' := Aside0.mk H
          clear H
          go_wp2_with (first | (go_at_call 24; (with_reducible refine (laws_ascii9.calls k a1 t104 _ A7.out).mono ?_); rintro e w' ⟨rfl, ⟨nd, rfl⟩⟩))
          go_meet
          case rel => exact ⟨_, (!t104), (by first | rfl | (simp; done) | (simp [*]; done)), H', ⟨by first | omega | exact Nat.le_refl _⟩, ⟨by repeat (first | (with_reducible first | exact HB.out | apply below_alloc | apply pw_below_drewN | apply below_drew1) | exact HB.out)⟩⟩
    case rest =>
      clear HC4
      try clear p2
      try clear c3
      try clear c3b0
      try clear c3b1
      try clear c5
      try clear c5b0
      try clear c6
      try clear c6b0
      try clear c6b1
      obtain ⟨kq, x23_3, rfl, HA, HJ3, HB⟩ := hcut
      cases kq with
      | zero => exact absurd HA.out (by simp [laws_FnEscapeOf.j0])
      | succ kj3 =>
        have H := HA.out
        clear HA
        simp only [laws_FnEscapeOf.j0] at H
        by_cases c8 : x23_3 = true
        · subst c8
          have H1 : (some true) = some r := by rw [if_pos rfl] at H; exact H
          clear H
          have H := H1
          clear H1
          obtain rfl := Option.some.inj H
          go_wp2
          go_ret
          exact ⟨by first | rfl | (simp [errW_none, errW_some] <;> rfl) | (simp [*, errW_none, errW_some] <;> rfl), by repeat (first | (with_reducible first | exact HB.out | apply below_alloc | apply pw_below_drewN | apply below_drew1) | exact HB.out)⟩
        · replace c8 := Bool.eq_false_iff.mpr c8
          subst c8
          have H1 : ((spec_EscapeOf.f (wrap64 (a0)) a1).bind fun bt105 => ((impl_EscapeOf.f (wrap64 (a0)) a1).bind fun bt107 => (if bt107.1 = bt105.1 then (if bt107.2.toList = bt105.2.toList then ((impl_Printable.f 97).bind fun t109 => (some t109)) else (some false)) else (some false)))) = some r := by rw [if_neg (show ¬ (false = true) by decide)] at H; exact H
          clear H
          have H := H1
          clear H1
          replace H := Option.bind_eq_some_iff.mp H
          obtain ⟨⟨t105, t106⟩, A90, H⟩ := H
          replace H : ((impl_EscapeOf.f (wrap64 (a0)) a1).bind fun bt107 => (if bt107.1 = t105 then (if bt107.2.toList = t106.toList then ((impl_Printable.f 97).bind fun t109 => (some t109)) else (some false)) else (some false))) = some r := H
          have A9 := Aside0.mk A90
          clear A90
          replace H := Option.bind_eq_some_iff.mp H
          obtain ⟨⟨t107, t108⟩, A100, H⟩ := H
          replace H : (if t107 = t105 then (if t108.toList = t106.toList then ((impl_Printable.f 97).bind fun t109 => (some t109)) else (some false)) else (some false)) = some r := H
          have A10 := Aside0.mk A100
          clear A100
          by_cases c11 : t107 = t105
          · rw [if_pos c11] at H
            have c11b0 : (t107 == t105) = true := beq_iff_eq.mpr c11
            have c11b1 : (t107 != t105) = false := bne_eq_false_iff_eq.mpr c11
            clear c11
            by_cases c12 : t108.toList = t106.toList
            · rw [if_pos c12] at H
              have c12b0 : (t108.toList == t106.toList) = true := beq_iff_eq.mpr c12
              have c12b1 : (t108.toList != t106.toList) = false := bne_eq_false_iff_eq.mpr c12
              clear c12
              replace H := Option.bind_eq_some_iff.mp H
              obtain ⟨t109, A130, H⟩ := H
              replace H : (some t109) = some r := H
              have A13 := Aside0.mk A130
              clear A130
              obtain rfl := Option.some.inj H
              go_wp2_with (first | ((with_reducible refine gate_callee (f := 25) rfl ?_); refine goesL_ (some 28) rfl rfl Try.func25 (by kernel_rfl) rfl #[.int .i64 (wrap64 (a0)), .string a1] rfl (by (try simp only [List.map_toArray, List.map_cons, List.map_nil]); first | done | rfl | (simp only [List.length_drop, List.length_take]; rfl)) ?_; (with_reducible refine (spec_EscapeOf.calls (wrap64 (a0)) a1 t105 t106 _ A9.out).mono ?_); rintro e w' ⟨rfl, ⟨nd, rfl⟩⟩; refine ⟨_, rfl, ?_⟩) | ((with_reducible refine gate_callee (f := 26) rfl ?_); refine goesL_ (some 35) rfl rfl Try.func26 (by kernel_rfl) rfl #[.int .i64 (wrap64 (a0)), .string a1] rfl (by (try simp only [List.map_toArray, List.map_cons, List.map_nil]); first | done | rfl | (simp only [List.length_drop, List.length_take]; rfl)) ?_; (with_reducible refine (impl_EscapeOf.calls (wrap64 (a0)) a1 t107 t108 _ A10.out).mono ?_); rintro e w14 ⟨rfl, hb⟩; refine ⟨_, rfl, ?_⟩; have n0_ := Aside0.mk (below_step (by repeat (first | (with_reducible first | exact HB.out | apply below_alloc | apply pw_below_drewN | apply below_drew1) | exact HB.out)) hb); clear HB; have HB := n0_; clear n0_; (try clear hb); (try clear hb2); (try clear hk); (try clear hi)) | (go_at_call 13; (with_reducible refine (impl_Printable.calls 97 t109 _ A13.out).mono ?_); rintro e w' ⟨rfl, ⟨nd, rfl⟩⟩))
              go_ret
              exact ⟨by first | rfl | (simp [errW_none, errW_some] <;> rfl) | (simp [*, errW_none, errW_some] <;> rfl), by repeat (first | (with_reducible first | exact HB.out | apply below_alloc | apply pw_below_drewN | apply below_drew1) | exact HB.out)⟩
            · rw [if_neg c12] at H
              have c12b0 : (t108.toList == t106.toList) = false := beq_eq_false_iff_ne.mpr c12
              have c12b1 : (t108.toList != t106.toList) = true := bne_iff_ne.mpr c12
              obtain rfl := Option.some.inj H
              go_wp2_with (first | ((with_reducible refine gate_callee (f := 25) rfl ?_); refine goesL_ (some 28) rfl rfl Try.func25 (by kernel_rfl) rfl #[.int .i64 (wrap64 (a0)), .string a1] rfl (by (try simp only [List.map_toArray, List.map_cons, List.map_nil]); first | done | rfl | (simp only [List.length_drop, List.length_take]; rfl)) ?_; (with_reducible refine (spec_EscapeOf.calls (wrap64 (a0)) a1 t105 t106 _ A9.out).mono ?_); rintro e w' ⟨rfl, ⟨nd, rfl⟩⟩; refine ⟨_, rfl, ?_⟩) | ((with_reducible refine gate_callee (f := 26) rfl ?_); refine goesL_ (some 35) rfl rfl Try.func26 (by kernel_rfl) rfl #[.int .i64 (wrap64 (a0)), .string a1] rfl (by (try simp only [List.map_toArray, List.map_cons, List.map_nil]); first | done | rfl | (simp only [List.length_drop, List.length_take]; rfl)) ?_; (with_reducible refine (impl_EscapeOf.calls (wrap64 (a0)) a1 t107 t108 _ A10.out).mono ?_); rintro e w15 ⟨rfl, hb⟩; refine ⟨_, rfl, ?_⟩; have n0_ := Aside0.mk (below_step (by repeat (first | (with_reducible first | exact HB.out | apply below_alloc | apply pw_below_drewN | apply below_drew1) | exact HB.out)) hb); clear HB; have HB := n0_; clear n0_; (try clear hb); (try clear hb2); (try clear hk); (try clear hi)))
              go_ret
              exact ⟨by first | rfl | (simp [errW_none, errW_some] <;> rfl) | (simp [*, errW_none, errW_some] <;> rfl), by repeat (first | (with_reducible first | exact HB.out | apply below_alloc | apply pw_below_drewN | apply below_drew1) | exact HB.out)⟩
          · rw [if_neg c11] at H
            have c11b0 : (t107 == t105) = false := beq_eq_false_iff_ne.mpr c11
            have c11b1 : (t107 != t105) = true := bne_iff_ne.mpr c11
            obtain rfl := Option.some.inj H
            go_wp2_with (first | ((with_reducible refine gate_callee (f := 25) rfl ?_); refine goesL_ (some 28) rfl rfl Try.func25 (by kernel_rfl) rfl #[.int .i64 (wrap64 (a0)), .string a1] rfl (by (try simp only [List.map_toArray, List.map_cons, List.map_nil]); first | done | rfl | (simp only [List.length_drop, List.length_take]; rfl)) ?_; (with_reducible refine (spec_EscapeOf.calls (wrap64 (a0)) a1 t105 t106 _ A9.out).mono ?_); rintro e w' ⟨rfl, ⟨nd, rfl⟩⟩; refine ⟨_, rfl, ?_⟩) | ((with_reducible refine gate_callee (f := 26) rfl ?_); refine goesL_ (some 35) rfl rfl Try.func26 (by kernel_rfl) rfl #[.int .i64 (wrap64 (a0)), .string a1] rfl (by (try simp only [List.map_toArray, List.map_cons, List.map_nil]); first | done | rfl | (simp only [List.length_drop, List.length_take]; rfl)) ?_; (with_reducible refine (impl_EscapeOf.calls (wrap64 (a0)) a1 t107 t108 _ A10.out).mono ?_); rintro e w16 ⟨rfl, hb⟩; refine ⟨_, rfl, ?_⟩; have n0_ := Aside0.mk (below_step (by repeat (first | (with_reducible first | exact HB.out | apply below_alloc | apply pw_below_drewN | apply below_drew1) | exact HB.out)) hb); clear HB; have HB := n0_; clear n0_; (try clear hb); (try clear hb2); (try clear hk); (try clear hi)))
            go_ret
            exact ⟨by first | rfl | (simp [errW_none, errW_some] <;> rfl) | (simp [*, errW_none, errW_some] <;> rfl), by repeat (first | (with_reducible first | exact HB.out | apply below_alloc | apply pw_below_drewN | apply below_drew1) | exact HB.out)⟩

/-- THE ONE PURE STATEMENT of laws_FnEscapeOf: yours. -/
def laws_FnEscapeOf.Pure : Prop := ∀ (a0 : Int) (a1 : ByteArray), (Lit.int .u8 a0).wf = true → a1.size ≤ 140737488351232 → ∃ k, laws_FnEscapeOf.f k a0 a1 = some true
theorem laws_FnEscapeOf.walk (P : laws_FnEscapeOf.Pure) (a0 : Int) (a1 : ByteArray) (w : World) (w0 : (Lit.int .u8 a0).wf = true) (w1 : a1.size ≤ 140737488351232) :
    Calls Try.prog 8 #[.int .u8 a0, .string a1] w fun e w' => e = .returned (.bool true) ∧ Below w.heap.size w w' := by
  obtain ⟨k, h⟩ := P a0 a1 w0 w1
  refine (laws_FnEscapeOf.calls k a0 a1 true w h).mono ?_
  rintro e w' ⟨rfl, hd⟩
  exact ⟨rfl, hd⟩

end Go.Proofs.Ythkblefeifdhaaa.PFnEscapeOf
