/- Printed by a program of this seat (xprint) out of the translation: Go functions as plain functions, and the walks that show them; no condition. -/
import Derived.Test.YtanadaamipfmkaaDoorQPFnTruncatedAgainx0
import Derived.Test.YtanadaamipfmkaaDoorQHTt
namespace Go.Proofs.YtanadaamipfmkaaDoor.PFnTruncatedAgain
open Go.RowKit Go.Proofs.YtanadaamipfmkaaDoor.H Go.Proofs.YtanadaamipfmkaaDoor.R Go.Proofs.YtanadaamipfmkaaDoorW.PrintWords Go.Proofs.YtanadaamipfmkaaDoorW.PrintLast Go.Proofs.YtanadaamipfmkaaDoorW.PrintMore
attribute [local go_sem] max2_int min2_int max_two min_two max_three min_three max_four min_four   -- for this text's walks alone
set_option linter.unusedVariables false
set_option linter.unusedSimpArgs false
/-! ### spec_Lined: function 15 -/
def spec_Lined.l0 : Nat → ByteArray → Int → Option (Bool)
  | 0, _, _ => none
  | k + 1, x0, x3 => if x3 < (x0.size : Int) then (if 0 ≤ x3 then (if (bt x0 x3) = 10 then (some false) else (spec_Lined.l0 k x0 (wrap64 (x3 + 1)))) else (none)) else (some true)
def spec_Lined.f (k : Nat) (a0 : ByteArray) : Option (Bool) := spec_Lined.l0 k a0 0
theorem spec_Lined.mono_l : ∀ k, (∀ y0 y1, LeO (spec_Lined.l0 k y0 y1) (spec_Lined.l0 (k + 1) y0 y1))
  | 0 => fun _ _ r h => by simp [spec_Lined.l0] at h
  | k + 1 => by
    have ih0 := spec_Lined.mono_l k
    · intro y0 y1
      unfold spec_Lined.l0
      repeat' first
      | (with_reducible exact ih0 _ _)
      | (with_reducible exact LeO.refl _)
      | (with_reducible exact LeO.none _)
      | (with_reducible refine LeO.ite ?_ ?_)
      | (with_reducible refine LeO.bind ?_ (fun _ => ?_))
      | exact ih0 _ _
      | exact LeO.none _
      | refine LeO.ite ?_ ?_
      | refine LeO.bind ?_ (fun _ => ?_)
theorem spec_Lined.mono : ∀ a0 k, LeO (spec_Lined.f k a0) (spec_Lined.f (k + 1) a0) := by
  intro a0 k
  have ih0 := spec_Lined.mono_l k
  unfold spec_Lined.f
  repeat' first
      | (with_reducible exact ih0 _ _)
      | (with_reducible exact LeO.refl _)
      | (with_reducible exact LeO.none _)
      | (with_reducible refine LeO.ite ?_ ?_)
      | (with_reducible refine LeO.bind ?_ (fun _ => ?_))
      | exact ih0 _ _
      | exact LeO.none _
      | refine LeO.ite ?_ ?_
      | refine LeO.bind ?_ (fun _ => ?_)
set_option maxHeartbeats 8000000 in
set_option maxRecDepth 100000 in
theorem spec_Lined.calls (k : Nat) (a0 : ByteArray) (r : Bool) (w : World) (h : spec_Lined.f k a0 = some r) :
    Calls Tryd.prog 15 #[.string a0] w fun e w' => e = .returned (.bool r) ∧ Drawn0 w w' := by
  have H : (spec_Lined.l0 k a0 0) = some r := h
  clear h
  have H' := Aside0.mk H
  clear H
  go_enter Tryd.func15, Tryd.ntmps15
  go_wp2
  go_loopg [3] k (fun kq v3 w' => ∃ (x3_1 : Int), v3 = .int .i64 x3_1 ∧ Aside0 (spec_Lined.l0 kq a0 x3_1 = some r) ∧ Aside0 (kq ≤ k) ∧ Drawn0 w w')
  case atStart => exact ⟨(0), (by first | rfl | (simp; done) | (simp [*]; done)), H', ⟨Nat.le_refl _⟩, by repeat (first | exact Drawn0.refl _ | apply Drawn0.step)⟩
  case round =>
    clear H'
    try clear c1
    obtain ⟨x3_1, rfl, HA, HK1, ⟨m1, rfl⟩⟩ := hrel
    cases gk with
    | zero => exact absurd HA.out (by simp [spec_Lined.l0])
    | succ k1 =>
      have H := HA.out
      clear HA
      simp only [spec_Lined.l0] at H
      by_cases c2 : x3_1 < (a0.size : Int)
      · rw [if_pos c2] at H
        have c2b0 : decide (x3_1 < (a0.size : Int)) = true := decide_eq_true c2
        clear c2
        by_cases c3 : 0 ≤ x3_1
        · rw [if_pos c3] at H
          have c3b0 : decide (0 ≤ x3_1) = true := decide_eq_true c3
          clear c3
          by_cases c5 : (bt a0 x3_1) = 10
          · rw [if_pos c5] at H
            have c5b0 : ((bt a0 x3_1) == 10) = true := beq_iff_eq.mpr c5
            have c5b1 : ((bt a0 x3_1) != 10) = false := bne_eq_false_iff_eq.mpr c5
            clear c5
            obtain rfl := Option.some.inj H
            have p4 : 0 ≤ (x3_1 : Int) := of_decide_eq_true (by first | (with_reducible assumption) | assumption)
            have q4 : x3_1 < (a0.size : Int) := of_decide_eq_true (by first | (with_reducible assumption) | assumption)
            have hx4 := bt_at a0 x3_1
            replace p4 := eq_true p4
            replace q4 := eq_true q4
            go_wp2
            go_ret
            exact ⟨by first | rfl | (simp; done) | (simp [*]; done), by repeat (first | exact Drawn0.refl _ | apply Drawn0.step)⟩
          · rw [if_neg c5] at H
            have c5b0 : ((bt a0 x3_1) == 10) = false := beq_eq_false_iff_ne.mpr c5
            have c5b1 : ((bt a0 x3_1) != 10) = true := bne_iff_ne.mpr c5
            have H' := Aside0.mk H
            clear H
            have p4 : 0 ≤ (x3_1 : Int) := of_decide_eq_true (by first | (with_reducible assumption) | assumption)
            have q4 : x3_1 < (a0.size : Int) := of_decide_eq_true (by first | (with_reducible assumption) | assumption)
            have hx4 := bt_at a0 x3_1
            replace p4 := eq_true p4
            replace q4 := eq_true q4
            go_wp2
            go_roundg k1
            case measure => have := HK1.out; omega
            case rel => exact ⟨(wrap64 (x3_1 + 1)), (by first | rfl | (simp; done) | (simp [*]; done)), H', ⟨by have := HK1.out; omega⟩, by repeat (first | exact Drawn0.refl _ | apply Drawn0.step)⟩
        · rw [if_neg c3] at H
          exact absurd H (by simp)
      · rw [if_neg c2] at H
        have c2b0 : decide (x3_1 < (a0.size : Int)) = false := decide_eq_false c2
        clear c2
        obtain rfl := Option.some.inj H
        go_wp2
        go_ret
        exact ⟨by first | rfl | (simp; done) | (simp [*]; done), by repeat (first | exact Drawn0.refl _ | apply Drawn0.step)⟩
/-! ### spec_Plain: function 45 -/
def spec_Plain.l0 : Nat → ByteArray → Int → Option (Bool)
  | 0, _, _ => none
  | k + 1, x0, x3 => if x3 < (x0.size : Int) then (if 0 ≤ x3 then (if (bt x0 x3) = 10 then (spec_Plain.l0 k x0 (wrap64 (x3 + 1))) else (if (bt x0 x3) < 32 then (some false) else (if (bt x0 x3) > 126 then (some false) else (spec_Plain.l0 k x0 (wrap64 (x3 + 1)))))) else (none)) else (some true)
def spec_Plain.f (k : Nat) (a0 : ByteArray) : Option (Bool) := spec_Plain.l0 k a0 0
theorem spec_Plain.mono_l : ∀ k, (∀ y0 y1, LeO (spec_Plain.l0 k y0 y1) (spec_Plain.l0 (k + 1) y0 y1))
  | 0 => fun _ _ r h => by simp [spec_Plain.l0] at h
  | k + 1 => by
    have ih0 := spec_Plain.mono_l k
    · intro y0 y1
      unfold spec_Plain.l0
      repeat' first
      | (with_reducible exact ih0 _ _)
      | (with_reducible exact LeO.refl _)
      | (with_reducible exact LeO.none _)
      | (with_reducible refine LeO.ite ?_ ?_)
      | (with_reducible refine LeO.bind ?_ (fun _ => ?_))
      | exact ih0 _ _
      | exact LeO.none _
      | refine LeO.ite ?_ ?_
      | refine LeO.bind ?_ (fun _ => ?_)
theorem spec_Plain.mono : ∀ a0 k, LeO (spec_Plain.f k a0) (spec_Plain.f (k + 1) a0) := by
  intro a0 k
  have ih0 := spec_Plain.mono_l k
  unfold spec_Plain.f
  repeat' first
      | (with_reducible exact ih0 _ _)
      | (with_reducible exact LeO.refl _)
      | (with_reducible exact LeO.none _)
      | (with_reducible refine LeO.ite ?_ ?_)
      | (with_reducible refine LeO.bind ?_ (fun _ => ?_))
      | exact ih0 _ _
      | exact LeO.none _
      | refine LeO.ite ?_ ?_
      | refine LeO.bind ?_ (fun _ => ?_)
set_option maxHeartbeats 8000000 in
set_option maxRecDepth 100000 in
theorem spec_Plain.calls (k : Nat) (a0 : ByteArray) (r : Bool) (w : World) (h : spec_Plain.f k a0 = some r) :
    Calls Tryd.prog 45 #[.string a0] w fun e w' => e = .returned (.bool r) ∧ Drawn0 w w' := by
  have H : (spec_Plain.l0 k a0 0) = some r := h
  clear h
  have H' := Aside0.mk H
  clear H
  go_enter Tryd.func45, Tryd.ntmps45
  go_wp2
  go_loopg [3] k (fun kq v3 w' => ∃ (x3_1 : Int), v3 = .int .i64 x3_1 ∧ Aside0 (spec_Plain.l0 kq a0 x3_1 = some r) ∧ Aside0 (kq ≤ k) ∧ Drawn0 w w')
  case atStart => exact ⟨(0), (by first | rfl | (simp; done) | (simp [*]; done)), H', ⟨Nat.le_refl _⟩, by repeat (first | exact Drawn0.refl _ | apply Drawn0.step)⟩
  case round =>
    clear H'
    obtain ⟨x3_1, rfl, HA, HK1, ⟨m1, rfl⟩⟩ := hrel
    cases gk with
    | zero => exact absurd HA.out (by simp [spec_Plain.l0])
    | succ k1 =>
      have H := HA.out
      clear HA
      simp only [spec_Plain.l0] at H
      by_cases c2 : x3_1 < (a0.size : Int)
      · rw [if_pos c2] at H
        have c2b0 : decide (x3_1 < (a0.size : Int)) = true := decide_eq_true c2
        clear c2
        by_cases c3 : 0 ≤ x3_1
        · rw [if_pos c3] at H
          have c3b0 : decide (0 ≤ x3_1) = true := decide_eq_true c3
          clear c3
          by_cases c5 : (bt a0 x3_1) = 10
          · rw [if_pos c5] at H
            have c5b0 : ((bt a0 x3_1) == 10) = true := beq_iff_eq.mpr c5
            have c5b1 : ((bt a0 x3_1) != 10) = false := bne_eq_false_iff_eq.mpr c5
            clear c5
            have H' := Aside0.mk H
            clear H
            have p4 : 0 ≤ (x3_1 : Int) := of_decide_eq_true (by first | (with_reducible assumption) | assumption)
            have q4 : x3_1 < (a0.size : Int) := of_decide_eq_true (by first | (with_reducible assumption) | assumption)
            have hx4 := bt_at a0 x3_1
            replace p4 := eq_true p4
            replace q4 := eq_true q4
            go_wp2
            go_roundg k1
            case measure => have := HK1.out; omega
            case rel => exact ⟨(wrap64 (x3_1 + 1)), (by first | rfl | (simp; done) | (simp [*]; done)), H', ⟨by have := HK1.out; omega⟩, by repeat (first | exact Drawn0.refl _ | apply Drawn0.step)⟩
          · rw [if_neg c5] at H
            have c5b0 : ((bt a0 x3_1) == 10) = false := beq_eq_false_iff_ne.mpr c5
            have c5b1 : ((bt a0 x3_1) != 10) = true := bne_iff_ne.mpr c5
            by_cases c7 : (bt a0 x3_1) < 32
            · rw [if_pos c7] at H
              have c7b0 : decide ((bt a0 x3_1) < 32) = true := decide_eq_true c7
              clear c7
              obtain rfl := Option.some.inj H
              have p4 : 0 ≤ (x3_1 : Int) := of_decide_eq_true (by first | (with_reducible assumption) | assumption)
              have q4 : x3_1 < (a0.size : Int) := of_decide_eq_true (by first | (with_reducible assumption) | assumption)
              have hx4 := bt_at a0 x3_1
              replace p4 := eq_true p4
              replace q4 := eq_true q4
              have p6 : 0 ≤ (x3_1 : Int) := of_decide_eq_true (by first | (with_reducible assumption) | assumption)
              have q6 : x3_1 < (a0.size : Int) := of_decide_eq_true (by first | (with_reducible assumption) | assumption)
              have hx6 := bt_at a0 x3_1
              replace p6 := eq_true p6
              replace q6 := eq_true q6
              go_wp2
              go_ret
              exact ⟨by first | rfl | (simp; done) | (simp [*]; done), by repeat (first | exact Drawn0.refl _ | apply Drawn0.step)⟩
            · rw [if_neg c7] at H
              have c7b0 : decide ((bt a0 x3_1) < 32) = false := decide_eq_false c7
              clear c7
              by_cases c9 : (bt a0 x3_1) > 126
              · rw [if_pos c9] at H
                have c9b0 : decide (126 < (bt a0 x3_1)) = true := decide_eq_true c9
                clear c9
                obtain rfl := Option.some.inj H
                have p4 : 0 ≤ (x3_1 : Int) := of_decide_eq_true (by first | (with_reducible assumption) | assumption)
                have q4 : x3_1 < (a0.size : Int) := of_decide_eq_true (by first | (with_reducible assumption) | assumption)
                have hx4 := bt_at a0 x3_1
                replace p4 := eq_true p4
                replace q4 := eq_true q4
                have p6 : 0 ≤ (x3_1 : Int) := of_decide_eq_true (by first | (with_reducible assumption) | assumption)
                have q6 : x3_1 < (a0.size : Int) := of_decide_eq_true (by first | (with_reducible assumption) | assumption)
                have hx6 := bt_at a0 x3_1
                replace p6 := eq_true p6
                replace q6 := eq_true q6
                have p8 : 0 ≤ (x3_1 : Int) := of_decide_eq_true (by first | (with_reducible assumption) | assumption)
                have q8 : x3_1 < (a0.size : Int) := of_decide_eq_true (by first | (with_reducible assumption) | assumption)
                have hx8 := bt_at a0 x3_1
                replace p8 := eq_true p8
                replace q8 := eq_true q8
                go_wp2
                go_ret
                exact ⟨by first | rfl | (simp; done) | (simp [*]; done), by repeat (first | exact Drawn0.refl _ | apply Drawn0.step)⟩
              · rw [if_neg c9] at H
                have c9b0 : decide (126 < (bt a0 x3_1)) = false := decide_eq_false c9
                clear c9
                have H' := Aside0.mk H
                clear H
                have p4 : 0 ≤ (x3_1 : Int) := of_decide_eq_true (by first | (with_reducible assumption) | assumption)
                have q4 : x3_1 < (a0.size : Int) := of_decide_eq_true (by first | (with_reducible assumption) | assumption)
                have hx4 := bt_at a0 x3_1
                replace p4 := eq_true p4
                replace q4 := eq_true q4
                have p6 : 0 ≤ (x3_1 : Int) := of_decide_eq_true (by first | (with_reducible assumption) | assumption)
                have q6 : x3_1 < (a0.size : Int) := of_decide_eq_true (by first | (with_reducible assumption) | assumption)
                have hx6 := bt_at a0 x3_1
                replace p6 := eq_true p6
                replace q6 := eq_true q6
                have p8 : 0 ≤ (x3_1 : Int) := of_decide_eq_true (by first | (with_reducible assumption) | assumption)
                have q8 : x3_1 < (a0.size : Int) := of_decide_eq_true (by first | (with_reducible assumption) | assumption)
                have hx8 := bt_at a0 x3_1
                replace p8 := eq_true p8
                replace q8 := eq_true q8
                go_wp2
                go_roundg k1
                case measure => have := HK1.out; omega
                case rel => exact ⟨(wrap64 (x3_1 + 1)), (by first | rfl | (simp; done) | (simp [*]; done)), H', ⟨by have := HK1.out; omega⟩, by repeat (first | exact Drawn0.refl _ | apply Drawn0.step)⟩
        · rw [if_neg c3] at H
          exact absurd H (by simp)
      · rw [if_neg c2] at H
        have c2b0 : decide (x3_1 < (a0.size : Int)) = false := decide_eq_false c2
        clear c2
        obtain rfl := Option.some.inj H
        go_wp2
        go_ret
        exact ⟨by first | rfl | (simp; done) | (simp [*]; done), by repeat (first | exact Drawn0.refl _ | apply Drawn0.step)⟩
/-! ### laws_plain16: function 22 -/
def laws_plain16.f (k : Nat) (a0 : ByteArray) : Option (Bool) := if (a0.size : Int) ≤ 2000 then ((spec_Plain.f k a0).bind fun t101 => (some t101)) else (some false)
theorem laws_plain16.mono : ∀ a0 k, LeO (laws_plain16.f k a0) (laws_plain16.f (k + 1) a0) := by
  intro a0 k
  unfold laws_plain16.f
  repeat' first
      | (with_reducible exact spec_Plain.mono _ _)
      | (with_reducible exact LeO.refl _)
      | (with_reducible exact LeO.none _)
      | (with_reducible refine LeO.ite ?_ ?_)
      | (with_reducible refine LeO.bind ?_ (fun _ => ?_))
      | exact spec_Plain.mono _ _
      | exact LeO.none _
      | refine LeO.ite ?_ ?_
      | refine LeO.bind ?_ (fun _ => ?_)
set_option maxHeartbeats 8000000 in
set_option maxRecDepth 100000 in
theorem laws_plain16.calls (k : Nat) (a0 : ByteArray) (r : Bool) (w : World) (h : laws_plain16.f k a0 = some r) :
    Calls Tryd.prog 22 #[.string a0] w fun e w' => e = .returned (.bool r) ∧ Drawn0 w w' := by
  have H : (if (a0.size : Int) ≤ 2000 then ((spec_Plain.f k a0).bind fun t101 => (some t101)) else (some false)) = some r := h
  clear h
  by_cases c2 : (a0.size : Int) ≤ 2000
  · rw [if_pos c2] at H
    have c2b0 : decide ((a0.size : Int) ≤ 2000) = true := decide_eq_true c2
    have c2b1 : decide (a0.size ≤ 2000) = true := decide_eq_true (by omega)
    clear c2
    replace H := Option.bind_eq_some_iff.mp H
    obtain ⟨t101, A30, H⟩ := H
    replace H : (some t101) = some r := H
    have A3 := Aside0.mk A30
    clear A30
    obtain rfl := Option.some.inj H
    go_enter Tryd.func22, Tryd.ntmps22
    go_wp2_with (first | (go_at_call 45; (with_reducible refine (spec_Plain.calls k a0 t101 _ A3.out).mono ?_); rintro e w' ⟨rfl, ⟨nd, rfl⟩⟩))
    go_ret
    exact ⟨by first | rfl | (simp; done) | (simp [*]; done), by repeat (first | exact Drawn0.refl _ | apply Drawn0.step)⟩
  · rw [if_neg c2] at H
    have c2b0 : decide ((a0.size : Int) ≤ 2000) = false := decide_eq_false c2
    have c2b1 : decide (a0.size ≤ 2000) = false := decide_eq_false (by omega)
    clear c2
    obtain rfl := Option.some.inj H
    go_enter Tryd.func22, Tryd.ntmps22
    go_wp2
    go_ret
    exact ⟨by first | rfl | (simp; done) | (simp [*]; done), by repeat (first | exact Drawn0.refl _ | apply Drawn0.step)⟩
/-! ### laws_some16: function 24 -/
def laws_some16.f (k : Nat) (a0 : ByteArray) : Option (Bool) := if (a0.size : Int) ≤ 800 then ((laws_plain16.f k a0).bind fun t102 => (some t102)) else (some false)
theorem laws_some16.mono : ∀ a0 k, LeO (laws_some16.f k a0) (laws_some16.f (k + 1) a0) := by
  intro a0 k
  unfold laws_some16.f
  repeat' first
      | (with_reducible exact laws_plain16.mono _ _)
      | (with_reducible exact LeO.refl _)
      | (with_reducible exact LeO.none _)
      | (with_reducible refine LeO.ite ?_ ?_)
      | (with_reducible refine LeO.bind ?_ (fun _ => ?_))
      | exact laws_plain16.mono _ _
      | exact LeO.none _
      | refine LeO.ite ?_ ?_
      | refine LeO.bind ?_ (fun _ => ?_)
set_option maxHeartbeats 8000000 in
set_option maxRecDepth 100000 in
theorem laws_some16.calls (k : Nat) (a0 : ByteArray) (r : Bool) (w : World) (h : laws_some16.f k a0 = some r) :
    Calls Tryd.prog 24 #[.string a0] w fun e w' => e = .returned (.bool r) ∧ Drawn0 w w' := by
  have H : (if (a0.size : Int) ≤ 800 then ((laws_plain16.f k a0).bind fun t102 => (some t102)) else (some false)) = some r := h
  clear h
  by_cases c2 : (a0.size : Int) ≤ 800
  · rw [if_pos c2] at H
    have c2b0 : decide ((a0.size : Int) ≤ 800) = true := decide_eq_true c2
    have c2b1 : decide (a0.size ≤ 800) = true := decide_eq_true (by omega)
    clear c2
    replace H := Option.bind_eq_some_iff.mp H
    obtain ⟨t102, A30, H⟩ := H
    replace H : (some t102) = some r := H
    have A3 := Aside0.mk A30
    clear A30
    obtain rfl := Option.some.inj H
    go_enter Tryd.func24, Tryd.ntmps24
    go_wp2_with (first | (go_at_call 22; (with_reducible refine (laws_plain16.calls k a0 t102 _ A3.out).mono ?_); rintro e w' ⟨rfl, ⟨nd, rfl⟩⟩))
    go_ret
    exact ⟨by first | rfl | (simp; done) | (simp [*]; done), by repeat (first | exact Drawn0.refl _ | apply Drawn0.step)⟩
  · rw [if_neg c2] at H
    have c2b0 : decide ((a0.size : Int) ≤ 800) = false := decide_eq_false c2
    have c2b1 : decide (a0.size ≤ 800) = false := decide_eq_false (by omega)
    clear c2
    obtain rfl := Option.some.inj H
    go_enter Tryd.func24, Tryd.ntmps24
    go_wp2
    go_ret
    exact ⟨by first | rfl | (simp; done) | (simp [*]; done), by repeat (first | exact Drawn0.refl _ | apply Drawn0.step)⟩
/-! ### laws_FnTruncatedAgain: function 7 -/
mutual
def laws_FnTruncatedAgain.j0 : Nat → ByteArray → Int → Int → ByteArray → Bool → Option (Bool)
  | 0, _, _, _, _, _ => none
  | k + 1, x0, x1, x2, x3, x17 => if x17 = true then (some true) else ((laws_some16.f k x0).bind fun t103 => (if t103 = true then ((laws_some16.f k x3).bind fun t104 => (if t104 = true then ((spec_Lined.f k x0).bind fun t105 => (if t105 = true then ((spec_Lined.f k x3).bind fun t106 => (if t106 = true then (if x1 > 200 then (laws_FnTruncatedAgain.j1 k x0 x1 x2 x3 true) else (laws_FnTruncatedAgain.j1 k x0 x1 x2 x3 (decide (x2 > 200)))) else (laws_FnTruncatedAgain.j1 k x0 x1 x2 x3 true))) else (laws_FnTruncatedAgain.j1 k x0 x1 x2 x3 true))) else (laws_FnTruncatedAgain.j1 k x0 x1 x2 x3 true))) else (laws_FnTruncatedAgain.j1 k x0 x1 x2 x3 true)))
def laws_FnTruncatedAgain.j1 : Nat → ByteArray → Int → Int → ByteArray → Bool → Option (Bool)
  | 0, _, _, _, _, _ => none
  | k + 1, x0, x1, x2, x3, x43 => if x43 = true then (some true) else ((impl_Truncated.f x0 (IntKind.u64.wrap (x1)) x3).bind fun t107 => ((impl_Truncated.f x0 (IntKind.u64.wrap (x1)) (⟨#[]⟩ : ByteArray)).bind fun t108 => ((impl_Truncated.f t108 (IntKind.u64.wrap (x2)) (⟨#[]⟩ : ByteArray)).bind fun t109 => ((impl_Truncated.f x0 (IntKind.u64.wrap (mn x1 x2)) (⟨#[]⟩ : ByteArray)).bind fun t110 => (if t109.toList = t110.toList then ((impl_Width.f t107).bind fun t111 => (if t111 ≤ (mx (wrap64 (x1)) (x3.size : Int)) then ((impl_Truncated.f (⟨#[97, 98, 99]⟩ : ByteArray) 2 (⟨#[]⟩ : ByteArray)).bind fun t112 => (some (t112.toList == ([97, 98] : List UInt8)))) else (some false))) else (some false))))))
end
def laws_FnTruncatedAgain.f (k : Nat) (a0 : ByteArray) (a1 : Int) (a2 : Int) (a3 : ByteArray) : Option (Bool) := if (a0.size : Int) > 2147483647 then (laws_FnTruncatedAgain.j0 k a0 a1 a2 a3 true) else (laws_FnTruncatedAgain.j0 k a0 a1 a2 a3 (decide ((a3.size : Int) > 2147483647)))
theorem laws_FnTruncatedAgain.mono_l : ∀ k, (∀ y0 y1 y2 y3 y4, LeO (laws_FnTruncatedAgain.j0 k y0 y1 y2 y3 y4) (laws_FnTruncatedAgain.j0 (k + 1) y0 y1 y2 y3 y4)) ∧ (∀ y0 y1 y2 y3 y4, LeO (laws_FnTruncatedAgain.j1 k y0 y1 y2 y3 y4) (laws_FnTruncatedAgain.j1 (k + 1) y0 y1 y2 y3 y4))
  | 0 => ⟨fun _ _ _ _ _ r h => by simp [laws_FnTruncatedAgain.j0] at h, fun _ _ _ _ _ r h => by simp [laws_FnTruncatedAgain.j1] at h⟩
  | k + 1 => by
    obtain ⟨ih0, ih1⟩ := laws_FnTruncatedAgain.mono_l k
    refine ⟨?_, ?_⟩
    · intro y0 y1 y2 y3 y4
      unfold laws_FnTruncatedAgain.j0
      repeat' first
      | (with_reducible exact ih0 _ _ _ _ _)
      | (with_reducible exact ih1 _ _ _ _ _)
      | (with_reducible exact laws_some16.mono _ _)
      | (with_reducible exact spec_Lined.mono _ _)
      | (with_reducible exact LeO.refl _)
      | (with_reducible exact LeO.none _)
      | (with_reducible refine LeO.ite ?_ ?_)
      | (with_reducible refine LeO.bind ?_ (fun _ => ?_))
      | exact ih0 _ _ _ _ _
      | exact ih1 _ _ _ _ _
      | exact laws_some16.mono _ _
      | exact spec_Lined.mono _ _
      | exact LeO.none _
      | refine LeO.ite ?_ ?_
      | refine LeO.bind ?_ (fun _ => ?_)
    · intro y0 y1 y2 y3 y4
      unfold laws_FnTruncatedAgain.j1
      repeat' first
      | (with_reducible exact ih0 _ _ _ _ _)
      | (with_reducible exact ih1 _ _ _ _ _)
      | (with_reducible exact laws_some16.mono _ _)
      | (with_reducible exact spec_Lined.mono _ _)
      | (with_reducible exact LeO.refl _)
      | (with_reducible exact LeO.none _)
      | (with_reducible refine LeO.ite ?_ ?_)
      | (with_reducible refine LeO.bind ?_ (fun _ => ?_))
      | exact ih0 _ _ _ _ _
      | exact ih1 _ _ _ _ _
      | exact laws_some16.mono _ _
      | exact spec_Lined.mono _ _
      | exact LeO.none _
      | refine LeO.ite ?_ ?_
      | refine LeO.bind ?_ (fun _ => ?_)
theorem laws_FnTruncatedAgain.mono : ∀ a0 a1 a2 a3 k, LeO (laws_FnTruncatedAgain.f k a0 a1 a2 a3) (laws_FnTruncatedAgain.f (k + 1) a0 a1 a2 a3) := by
  intro a0 a1 a2 a3 k
  obtain ⟨ih0, ih1⟩ := laws_FnTruncatedAgain.mono_l k
  unfold laws_FnTruncatedAgain.f
  repeat' first
      | (with_reducible exact ih0 _ _ _ _ _)
      | (with_reducible exact ih1 _ _ _ _ _)
      | (with_reducible exact laws_some16.mono _ _)
      | (with_reducible exact spec_Lined.mono _ _)
      | (with_reducible exact LeO.refl _)
      | (with_reducible exact LeO.none _)
      | (with_reducible refine LeO.ite ?_ ?_)
      | (with_reducible refine LeO.bind ?_ (fun _ => ?_))
      | exact ih0 _ _ _ _ _
      | exact ih1 _ _ _ _ _
      | exact laws_some16.mono _ _
      | exact spec_Lined.mono _ _
      | exact LeO.none _
      | refine LeO.ite ?_ ?_
      | refine LeO.bind ?_ (fun _ => ?_)
set_option maxHeartbeats 8000000 in
set_option maxRecDepth 100000 in
theorem laws_FnTruncatedAgain.calls (k : Nat) (a0 : ByteArray) (a1 : Int) (a2 : Int) (a3 : ByteArray) (r : Bool) (w : World) (h : laws_FnTruncatedAgain.f k a0 a1 a2 a3 = some r) :
    Calls Tryd.prog 7 #[.string a0, .int .u8 a1, .int .u8 a2, .string a3] w fun e w' => e = .returned (.bool r) ∧ Below w.heap.size w w' := by
  have HB := Aside0.mk (Below.refl w.heap.size w)
  have H : (if (a0.size : Int) > 2147483647 then (laws_FnTruncatedAgain.j0 k a0 a1 a2 a3 true) else (laws_FnTruncatedAgain.j0 k a0 a1 a2 a3 (decide ((a3.size : Int) > 2147483647)))) = some r := h
  clear h
  have HC5 := Aside0.mk H
  clear H
  go_enter Tryd.func7, Tryd.ntmps7
  go_upto_region 1 with (fail)
  go_cut [17] (fun v17 wc => ∃ (kq : Nat) (x17_4 : Bool), v17 = .bool x17_4 ∧ Aside0 (laws_FnTruncatedAgain.j0 kq a0 a1 a2 a3 x17_4 = some r) ∧ Aside0 (kq ≤ k) ∧ Aside0 (Below w.heap.size w wc))
  case first =>
    have H := HC5.out
    clear HC5
    by_cases c6 : (a0.size : Int) > 2147483647
    · rw [if_pos c6] at H
      have c6b0 : decide (2147483647 < (a0.size : Int)) = true := decide_eq_true c6
      have c6b1 : decide (2147483647 < a0.size) = true := decide_eq_true (by omega)
      clear c6
      (first | rw [c6b0] | (simp only [i64_w, i32_w]; rw [c6b0]) | skip)
      have H' := Aside0.mk H
      clear H
      go_wp2
      go_meet
      case rel => exact ⟨_, (true), (by first | rfl | (simp; done) | (simp [*]; done)), H', ⟨by first | omega | exact Nat.le_refl _⟩, ⟨by repeat (first | (with_reducible first | exact HB.out | apply below_alloc | apply pw_below_drewN | apply below_drew1) | exact HB.out)⟩⟩
    · rw [if_neg c6] at H
      have c6b0 : decide (2147483647 < (a0.size : Int)) = false := decide_eq_false c6
      have c6b1 : decide (2147483647 < a0.size) = false := decide_eq_false (by omega)
      clear c6
      (first | rw [c6b0] | (simp only [i64_w, i32_w]; rw [c6b0]) | skip)
      have H' := Aside0.mk H
      clear H
      go_wp2
      go_meet
      case rel => exact ⟨_, (decide ((a3.size : Int) > 2147483647)), (by first | rfl | (simp; done) | (simp [*]; done)), H', ⟨by first | omega | exact Nat.le_refl _⟩, ⟨by repeat (first | (with_reducible first | exact HB.out | apply below_alloc | apply pw_below_drewN | apply below_drew1) | exact HB.out)⟩⟩
  case rest =>
    clear HC5
    try clear p2
    try clear c6
    try clear c6b0
    try clear c6b1
    obtain ⟨kq, x17_4, rfl, HA, HJ4, HB⟩ := hcut
    cases kq with
    | zero => exact absurd HA.out (by simp [laws_FnTruncatedAgain.j0])
    | succ kj4 =>
      have H := HA.out
      clear HA
      simp only [laws_FnTruncatedAgain.j0] at H
      by_cases c7 : x17_4 = true
      · subst c7
        have H1 : (some true) = some r := by rw [if_pos rfl] at H; exact H
        clear H
        have H := H1
        clear H1
        obtain rfl := Option.some.inj H
        go_wp2
        go_ret
        exact ⟨by first | rfl | (simp [errW_none, errW_some] <;> rfl) | (simp [*, errW_none, errW_some] <;> rfl), by repeat (first | (with_reducible first | exact HB.out | apply below_alloc | apply pw_below_drewN | apply below_drew1) | exact HB.out)⟩
      · replace c7 := Bool.eq_false_iff.mpr c7
        subst c7
        have H1 : ((laws_some16.f kj4 a0).bind fun t103 => (if t103 = true then ((laws_some16.f kj4 a3).bind fun t104 => (if t104 = true then ((spec_Lined.f kj4 a0).bind fun t105 => (if t105 = true then ((spec_Lined.f kj4 a3).bind fun t106 => (if t106 = true then (if a1 > 200 then (laws_FnTruncatedAgain.j1 kj4 a0 a1 a2 a3 true) else (laws_FnTruncatedAgain.j1 kj4 a0 a1 a2 a3 (decide (a2 > 200)))) else (laws_FnTruncatedAgain.j1 kj4 a0 a1 a2 a3 true))) else (laws_FnTruncatedAgain.j1 kj4 a0 a1 a2 a3 true))) else (laws_FnTruncatedAgain.j1 kj4 a0 a1 a2 a3 true))) else (laws_FnTruncatedAgain.j1 kj4 a0 a1 a2 a3 true))) = some r := by rw [if_neg (show ¬ (false = true) by decide)] at H; exact H
        clear H
        have H := H1
        clear H1
        have HC8 := Aside0.mk H
        clear H
        go_upto_region 3 with (fail)
        go_cut [43] (fun v43 wc => ∃ (kq : Nat) (x43_7 : Bool), v43 = .bool x43_7 ∧ Aside0 (laws_FnTruncatedAgain.j1 kq a0 a1 a2 a3 x43_7 = some r) ∧ Aside0 (kq ≤ kj4) ∧ Aside0 (Below w.heap.size w wc))
        case first =>
          have H := HC8.out
          clear HC8
          replace H := Option.bind_eq_some_iff.mp H
          obtain ⟨t103, A90, H⟩ := H
          replace H : (if t103 = true then ((laws_some16.f kj4 a3).bind fun t104 => (if t104 = true then ((spec_Lined.f kj4 a0).bind fun t105 => (if t105 = true then ((spec_Lined.f kj4 a3).bind fun t106 => (if t106 = true then (if a1 > 200 then (laws_FnTruncatedAgain.j1 kj4 a0 a1 a2 a3 true) else (laws_FnTruncatedAgain.j1 kj4 a0 a1 a2 a3 (decide (a2 > 200)))) else (laws_FnTruncatedAgain.j1 kj4 a0 a1 a2 a3 true))) else (laws_FnTruncatedAgain.j1 kj4 a0 a1 a2 a3 true))) else (laws_FnTruncatedAgain.j1 kj4 a0 a1 a2 a3 true))) else (laws_FnTruncatedAgain.j1 kj4 a0 a1 a2 a3 true)) = some r := H
          have A9 := Aside0.mk A90
          clear A90
          by_cases c10 : t103 = true
          · subst c10
            have H1 : ((laws_some16.f kj4 a3).bind fun t104 => (if t104 = true then ((spec_Lined.f kj4 a0).bind fun t105 => (if t105 = true then ((spec_Lined.f kj4 a3).bind fun t106 => (if t106 = true then (if a1 > 200 then (laws_FnTruncatedAgain.j1 kj4 a0 a1 a2 a3 true) else (laws_FnTruncatedAgain.j1 kj4 a0 a1 a2 a3 (decide (a2 > 200)))) else (laws_FnTruncatedAgain.j1 kj4 a0 a1 a2 a3 true))) else (laws_FnTruncatedAgain.j1 kj4 a0 a1 a2 a3 true))) else (laws_FnTruncatedAgain.j1 kj4 a0 a1 a2 a3 true))) = some r := by rw [if_pos rfl] at H; exact H
            clear H
            have H := H1
            clear H1
            replace H := Option.bind_eq_some_iff.mp H
            obtain ⟨t104, A110, H⟩ := H
            replace H : (if t104 = true then ((spec_Lined.f kj4 a0).bind fun t105 => (if t105 = true then ((spec_Lined.f kj4 a3).bind fun t106 => (if t106 = true then (if a1 > 200 then (laws_FnTruncatedAgain.j1 kj4 a0 a1 a2 a3 true) else (laws_FnTruncatedAgain.j1 kj4 a0 a1 a2 a3 (decide (a2 > 200)))) else (laws_FnTruncatedAgain.j1 kj4 a0 a1 a2 a3 true))) else (laws_FnTruncatedAgain.j1 kj4 a0 a1 a2 a3 true))) else (laws_FnTruncatedAgain.j1 kj4 a0 a1 a2 a3 true)) = some r := H
            have A11 := Aside0.mk A110
            clear A110
            by_cases c12 : t104 = true
            · subst c12
              have H1 : ((spec_Lined.f kj4 a0).bind fun t105 => (if t105 = true then ((spec_Lined.f kj4 a3).bind fun t106 => (if t106 = true then (if a1 > 200 then (laws_FnTruncatedAgain.j1 kj4 a0 a1 a2 a3 true) else (laws_FnTruncatedAgain.j1 kj4 a0 a1 a2 a3 (decide (a2 > 200)))) else (laws_FnTruncatedAgain.j1 kj4 a0 a1 a2 a3 true))) else (laws_FnTruncatedAgain.j1 kj4 a0 a1 a2 a3 true))) = some r := by rw [if_pos rfl] at H; exact H
              clear H
              have H := H1
              clear H1
              replace H := Option.bind_eq_some_iff.mp H
              obtain ⟨t105, A130, H⟩ := H
              replace H : (if t105 = true then ((spec_Lined.f kj4 a3).bind fun t106 => (if t106 = true then (if a1 > 200 then (laws_FnTruncatedAgain.j1 kj4 a0 a1 a2 a3 true) else (laws_FnTruncatedAgain.j1 kj4 a0 a1 a2 a3 (decide (a2 > 200)))) else (laws_FnTruncatedAgain.j1 kj4 a0 a1 a2 a3 true))) else (laws_FnTruncatedAgain.j1 kj4 a0 a1 a2 a3 true)) = some r := H
              have A13 := Aside0.mk A130
              clear A130
              by_cases c14 : t105 = true
              · subst c14
                have H1 : ((spec_Lined.f kj4 a3).bind fun t106 => (if t106 = true then (if a1 > 200 then (laws_FnTruncatedAgain.j1 kj4 a0 a1 a2 a3 true) else (laws_FnTruncatedAgain.j1 kj4 a0 a1 a2 a3 (decide (a2 > 200)))) else (laws_FnTruncatedAgain.j1 kj4 a0 a1 a2 a3 true))) = some r := by rw [if_pos rfl] at H; exact H
                clear H
                have H := H1
                clear H1
                replace H := Option.bind_eq_some_iff.mp H
                obtain ⟨t106, A150, H⟩ := H
                replace H : (if t106 = true then (if a1 > 200 then (laws_FnTruncatedAgain.j1 kj4 a0 a1 a2 a3 true) else (laws_FnTruncatedAgain.j1 kj4 a0 a1 a2 a3 (decide (a2 > 200)))) else (laws_FnTruncatedAgain.j1 kj4 a0 a1 a2 a3 true)) = some r := H
                have A15 := Aside0.mk A150
                clear A150
                by_cases c16 : t106 = true
                · subst c16
                  have H1 : (if a1 > 200 then (laws_FnTruncatedAgain.j1 kj4 a0 a1 a2 a3 true) else (laws_FnTruncatedAgain.j1 kj4 a0 a1 a2 a3 (decide (a2 > 200)))) = some r := by rw [if_pos rfl] at H; exact H
                  clear H
                  have H := H1
                  clear H1
                  by_cases c17 : a1 > 200
                  · rw [if_pos c17] at H
                    have c17b0 : decide (200 < a1) = true := decide_eq_true c17
                    clear c17
                    (first | rw [c17b0] | (simp only [i64_w, i32_w]; rw [c17b0]) | skip)
                    have H' := Aside0.mk H
                    clear H
                    go_wp2_with (first | ((with_reducible refine gate_callee (f := 24) rfl ?_); refine goesL_ (some 19) rfl rfl Tryd.func24 (by kernel_rfl) rfl #[.string a0] rfl (by (try simp only [List.map_toArray, List.map_cons, List.map_nil]); first | done | rfl | (simp only [List.length_drop, List.length_take]; rfl) | (simp only [Int.toNat_natCast, ByteArray.extract_zero_size]; rfl)) ?_; (with_reducible refine (laws_some16.calls kj4 a0 true _ A9.out).mono ?_); rintro e w' ⟨rfl, ⟨nd, rfl⟩⟩; refine ⟨_, rfl, ?_⟩) | (go_at_call 24; (with_reducible refine (laws_some16.calls kj4 a3 true _ A11.out).mono ?_); rintro e w' ⟨rfl, ⟨nd, rfl⟩⟩) | (go_at_call 15; (with_reducible refine (spec_Lined.calls kj4 a0 true _ A13.out).mono ?_); rintro e w' ⟨rfl, ⟨nd, rfl⟩⟩) | (go_at_call 15; (with_reducible refine (spec_Lined.calls kj4 a3 true _ A15.out).mono ?_); rintro e w' ⟨rfl, ⟨nd, rfl⟩⟩))
                    go_meet
                    case rel => exact ⟨_, (true), (by first | rfl | (simp; done) | (simp [*]; done)), H', ⟨by have := HJ4.out; first | omega | exact Nat.le_refl _⟩, ⟨by repeat (first | (with_reducible first | exact HB.out | apply below_alloc | apply pw_below_drewN | apply below_drew1) | exact HB.out)⟩⟩
                  · rw [if_neg c17] at H
                    have c17b0 : decide (200 < a1) = false := decide_eq_false c17
                    clear c17
                    (first | rw [c17b0] | (simp only [i64_w, i32_w]; rw [c17b0]) | skip)
                    have H' := Aside0.mk H
                    clear H
                    go_wp2_with (first | ((with_reducible refine gate_callee (f := 24) rfl ?_); refine goesL_ (some 19) rfl rfl Tryd.func24 (by kernel_rfl) rfl #[.string a0] rfl (by (try simp only [List.map_toArray, List.map_cons, List.map_nil]); first | done | rfl | (simp only [List.length_drop, List.length_take]; rfl) | (simp only [Int.toNat_natCast, ByteArray.extract_zero_size]; rfl)) ?_; (with_reducible refine (laws_some16.calls kj4 a0 true _ A9.out).mono ?_); rintro e w' ⟨rfl, ⟨nd, rfl⟩⟩; refine ⟨_, rfl, ?_⟩) | (go_at_call 24; (with_reducible refine (laws_some16.calls kj4 a3 true _ A11.out).mono ?_); rintro e w' ⟨rfl, ⟨nd, rfl⟩⟩) | (go_at_call 15; (with_reducible refine (spec_Lined.calls kj4 a0 true _ A13.out).mono ?_); rintro e w' ⟨rfl, ⟨nd, rfl⟩⟩) | (go_at_call 15; (with_reducible refine (spec_Lined.calls kj4 a3 true _ A15.out).mono ?_); rintro e w' ⟨rfl, ⟨nd, rfl⟩⟩))
                    go_meet
                    case rel => exact ⟨_, (decide (a2 > 200)), (by first | rfl | (simp; done) | (simp [*]; done)), H', ⟨by have := HJ4.out; first | omega | exact Nat.le_refl _⟩, ⟨by repeat (first | (with_reducible first | exact HB.out | apply below_alloc | apply pw_below_drewN | apply below_drew1) | exact HB.out)⟩⟩
                · replace c16 := Bool.eq_false_iff.mpr c16
                  subst c16
                  have H1 : (laws_FnTruncatedAgain.j1 kj4 a0 a1 a2 a3 true) = some r := by rw [if_neg (show ¬ (false = true) by decide)] at H; exact H
                  clear H
                  have H := H1
                  clear H1
                  have H' := Aside0.mk H
                  clear H
                  go_wp2_with (first | ((with_reducible refine gate_callee (f := 24) rfl ?_); refine goesL_ (some 19) rfl rfl Tryd.func24 (by kernel_rfl) rfl #[.string a0] rfl (by (try simp only [List.map_toArray, List.map_cons, List.map_nil]); first | done | rfl | (simp only [List.length_drop, List.length_take]; rfl) | (simp only [Int.toNat_natCast, ByteArray.extract_zero_size]; rfl)) ?_; (with_reducible refine (laws_some16.calls kj4 a0 true _ A9.out).mono ?_); rintro e w' ⟨rfl, ⟨nd, rfl⟩⟩; refine ⟨_, rfl, ?_⟩) | (go_at_call 24; (with_reducible refine (laws_some16.calls kj4 a3 true _ A11.out).mono ?_); rintro e w' ⟨rfl, ⟨nd, rfl⟩⟩) | (go_at_call 15; (with_reducible refine (spec_Lined.calls kj4 a0 true _ A13.out).mono ?_); rintro e w' ⟨rfl, ⟨nd, rfl⟩⟩) | (go_at_call 15; (with_reducible refine (spec_Lined.calls kj4 a3 false _ A15.out).mono ?_); rintro e w' ⟨rfl, ⟨nd, rfl⟩⟩))
                  go_meet
                  case rel => exact ⟨_, (true), (by first | rfl | (simp; done) | (simp [*]; done)), H', ⟨by have := HJ4.out; first | omega | exact Nat.le_refl _⟩, ⟨by repeat (first | (with_reducible first | exact HB.out | apply below_alloc | apply pw_below_drewN | apply below_drew1) | exact HB.out)⟩⟩
              · replace c14 := Bool.eq_false_iff.mpr c14
                subst c14
                have H1 : (laws_FnTruncatedAgain.j1 kj4 a0 a1 a2 a3 true) = some r := by rw [if_neg (show ¬ (false = true) by decide)] at H; exact H
                clear H
                have H := H1
                clear H1
                have H' := Aside0.mk H
                clear H
                go_wp2_with (first | ((with_reducible refine gate_callee (f := 24) rfl ?_); refine goesL_ (some 19) rfl rfl Tryd.func24 (by kernel_rfl) rfl #[.string a0] rfl (by (try simp only [List.map_toArray, List.map_cons, List.map_nil]); first | done | rfl | (simp only [List.length_drop, List.length_take]; rfl) | (simp only [Int.toNat_natCast, ByteArray.extract_zero_size]; rfl)) ?_; (with_reducible refine (laws_some16.calls kj4 a0 true _ A9.out).mono ?_); rintro e w' ⟨rfl, ⟨nd, rfl⟩⟩; refine ⟨_, rfl, ?_⟩) | (go_at_call 24; (with_reducible refine (laws_some16.calls kj4 a3 true _ A11.out).mono ?_); rintro e w' ⟨rfl, ⟨nd, rfl⟩⟩) | (go_at_call 15; (with_reducible refine (spec_Lined.calls kj4 a0 false _ A13.out).mono ?_); rintro e w' ⟨rfl, ⟨nd, rfl⟩⟩))
                go_meet
                case rel => exact ⟨_, (true), (by first | rfl | (simp; done) | (simp [*]; done)), H', ⟨by have := HJ4.out; first | omega | exact Nat.le_refl _⟩, ⟨by repeat (first | (with_reducible first | exact HB.out | apply below_alloc | apply pw_below_drewN | apply below_drew1) | exact HB.out)⟩⟩
            · replace c12 := Bool.eq_false_iff.mpr c12
              subst c12
              have H1 : (laws_FnTruncatedAgain.j1 kj4 a0 a1 a2 a3 true) = some r := by rw [if_neg (show ¬ (false = true) by decide)] at H; exact H
              clear H
              have H := H1
              clear H1
              have H' := Aside0.mk H
              clear H
              go_wp2_with (first | ((with_reducible refine gate_callee (f := 24) rfl ?_); refine goesL_ (some 19) rfl rfl Tryd.func24 (by kernel_rfl) rfl #[.string a0] rfl (by (try simp only [List.map_toArray, List.map_cons, List.map_nil]); first | done | rfl | (simp only [List.length_drop, List.length_take]; rfl) | (simp only [Int.toNat_natCast, ByteArray.extract_zero_size]; rfl)) ?_; (with_reducible refine (laws_some16.calls kj4 a0 true _ A9.out).mono ?_); rintro e w' ⟨rfl, ⟨nd, rfl⟩⟩; refine ⟨_, rfl, ?_⟩) | (go_at_call 24; (with_reducible refine (laws_some16.calls kj4 a3 false _ A11.out).mono ?_); rintro e w' ⟨rfl, ⟨nd, rfl⟩⟩))
              go_meet
              case rel => exact ⟨_, (true), (by first | rfl | (simp; done) | (simp [*]; done)), H', ⟨by have := HJ4.out; first | omega | exact Nat.le_refl _⟩, ⟨by repeat (first | (with_reducible first | exact HB.out | apply below_alloc | apply pw_below_drewN | apply below_drew1) | exact HB.out)⟩⟩
          · replace c10 := Bool.eq_false_iff.mpr c10
            subst c10
            have H1 : (laws_FnTruncatedAgain.j1 kj4 a0 a1 a2 a3 true) = some r := by rw [if_neg (show ¬ (false = true) by decide)] at H; exact H
            clear H
            have H := H1
            clear H1
            have H' := Aside0.mk H
            clear H
            go_wp2_with (first | ((with_reducible refine gate_callee (f := 24) rfl ?_); refine goesL_ (some 19) rfl rfl Tryd.func24 (by kernel_rfl) rfl #[.string a0] rfl (by (try simp only [List.map_toArray, List.map_cons, List.map_nil]); first | done | rfl | (simp only [List.length_drop, List.length_take]; rfl) | (simp only [Int.toNat_natCast, ByteArray.extract_zero_size]; rfl)) ?_; (with_reducible refine (laws_some16.calls kj4 a0 false _ A9.out).mono ?_); rintro e w' ⟨rfl, ⟨nd, rfl⟩⟩; refine ⟨_, rfl, ?_⟩))
            go_meet
            case rel => exact ⟨_, (true), (by first | rfl | (simp; done) | (simp [*]; done)), H', ⟨by have := HJ4.out; first | omega | exact Nat.le_refl _⟩, ⟨by repeat (first | (with_reducible first | exact HB.out | apply below_alloc | apply pw_below_drewN | apply below_drew1) | exact HB.out)⟩⟩
        case rest =>
          clear HC8
          try clear c1
          try clear c2
          try clear p2
          try clear c6
          try clear c6b0
          try clear c6b1
          try clear c7
          try clear c10
          try clear c12
          try clear c14
          try clear c16
          try clear c17
          try clear c17b0
          try clear p2
          obtain ⟨kq, x43_7, rfl, HA, HJ7, HB⟩ := hcut
          cases kq with
          | zero => exact absurd HA.out (by simp [laws_FnTruncatedAgain.j1])
          | succ kj7 =>
            have H := HA.out
            clear HA
            simp only [laws_FnTruncatedAgain.j1] at H
            by_cases c18 : x43_7 = true
            · subst c18
              have H1 : (some true) = some r := by rw [if_pos rfl] at H; exact H
              clear H
              have H := H1
              clear H1
              obtain rfl := Option.some.inj H
              go_wp2
              go_ret
              exact ⟨by first | rfl | (simp [errW_none, errW_some] <;> rfl) | (simp [*, errW_none, errW_some] <;> rfl), by repeat (first | (with_reducible first | exact HB.out | apply below_alloc | apply pw_below_drewN | apply below_drew1) | exact HB.out)⟩
            · replace c18 := Bool.eq_false_iff.mpr c18
              subst c18
              have H1 : ((impl_Truncated.f a0 (IntKind.u64.wrap (a1)) a3).bind fun t107 => ((impl_Truncated.f a0 (IntKind.u64.wrap (a1)) (⟨#[]⟩ : ByteArray)).bind fun t108 => ((impl_Truncated.f t108 (IntKind.u64.wrap (a2)) (⟨#[]⟩ : ByteArray)).bind fun t109 => ((impl_Truncated.f a0 (IntKind.u64.wrap (mn a1 a2)) (⟨#[]⟩ : ByteArray)).bind fun t110 => (if t109.toList = t110.toList then ((impl_Width.f t107).bind fun t111 => (if t111 ≤ (mx (wrap64 (a1)) (a3.size : Int)) then ((impl_Truncated.f (⟨#[97, 98, 99]⟩ : ByteArray) 2 (⟨#[]⟩ : ByteArray)).bind fun t112 => (some (t112.toList == ([97, 98] : List UInt8)))) else (some false))) else (some false)))))) = some r := by rw [if_neg (show ¬ (false = true) by decide)] at H; exact H
              clear H
              have H := H1
              clear H1
              replace H := Option.bind_eq_some_iff.mp H
              obtain ⟨t107, A190, H⟩ := H
              replace H : ((impl_Truncated.f a0 (IntKind.u64.wrap (a1)) (⟨#[]⟩ : ByteArray)).bind fun t108 => ((impl_Truncated.f t108 (IntKind.u64.wrap (a2)) (⟨#[]⟩ : ByteArray)).bind fun t109 => ((impl_Truncated.f a0 (IntKind.u64.wrap (mn a1 a2)) (⟨#[]⟩ : ByteArray)).bind fun t110 => (if t109.toList = t110.toList then ((impl_Width.f t107).bind fun t111 => (if t111 ≤ (mx (wrap64 (a1)) (a3.size : Int)) then ((impl_Truncated.f (⟨#[97, 98, 99]⟩ : ByteArray) 2 (⟨#[]⟩ : ByteArray)).bind fun t112 => (some (t112.toList == ([97, 98] : List UInt8)))) else (some false))) else (some false))))) = some r := H
              have A19 := Aside0.mk A190
              clear A190
              replace H := Option.bind_eq_some_iff.mp H
              obtain ⟨t108, A200, H⟩ := H
              replace H : ((impl_Truncated.f t108 (IntKind.u64.wrap (a2)) (⟨#[]⟩ : ByteArray)).bind fun t109 => ((impl_Truncated.f a0 (IntKind.u64.wrap (mn a1 a2)) (⟨#[]⟩ : ByteArray)).bind fun t110 => (if t109.toList = t110.toList then ((impl_Width.f t107).bind fun t111 => (if t111 ≤ (mx (wrap64 (a1)) (a3.size : Int)) then ((impl_Truncated.f (⟨#[97, 98, 99]⟩ : ByteArray) 2 (⟨#[]⟩ : ByteArray)).bind fun t112 => (some (t112.toList == ([97, 98] : List UInt8)))) else (some false))) else (some false)))) = some r := H
              have A20 := Aside0.mk A200
              clear A200
              replace H := Option.bind_eq_some_iff.mp H
              obtain ⟨t109, A210, H⟩ := H
              replace H : ((impl_Truncated.f a0 (IntKind.u64.wrap (mn a1 a2)) (⟨#[]⟩ : ByteArray)).bind fun t110 => (if t109.toList = t110.toList then ((impl_Width.f t107).bind fun t111 => (if t111 ≤ (mx (wrap64 (a1)) (a3.size : Int)) then ((impl_Truncated.f (⟨#[97, 98, 99]⟩ : ByteArray) 2 (⟨#[]⟩ : ByteArray)).bind fun t112 => (some (t112.toList == ([97, 98] : List UInt8)))) else (some false))) else (some false))) = some r := H
              have A21 := Aside0.mk A210
              clear A210
              obtain ⟨ji22, hji22⟩ : ∃ j_ : Int, (mn a1 a2) = j_ := ⟨_, rfl⟩
              replace H : ((impl_Truncated.f a0 (IntKind.u64.wrap (ji22)) (⟨#[]⟩ : ByteArray)).bind fun t110 => (if t109.toList = t110.toList then ((impl_Width.f t107).bind fun t111 => (if t111 ≤ (mx (wrap64 (a1)) (a3.size : Int)) then ((impl_Truncated.f (⟨#[97, 98, 99]⟩ : ByteArray) 2 (⟨#[]⟩ : ByteArray)).bind fun t112 => (some (t112.toList == ([97, 98] : List UInt8)))) else (some false))) else (some false))) = some r := by first | (rw [hji22] at H; exact H) | (simp only [hji22] at H ⊢; exact H)
              (try rw [hji22] at A19)
              (try rw [hji22] at A20)
              (try rw [hji22] at A21)
              have hji22_ : (if a2 < a1 then a2 else a1) = ji22 := hji22
              replace H := Option.bind_eq_some_iff.mp H
              obtain ⟨t110, A230, H⟩ := H
              replace H : (if t109.toList = t110.toList then ((impl_Width.f t107).bind fun t111 => (if t111 ≤ (mx (wrap64 (a1)) (a3.size : Int)) then ((impl_Truncated.f (⟨#[97, 98, 99]⟩ : ByteArray) 2 (⟨#[]⟩ : ByteArray)).bind fun t112 => (some (t112.toList == ([97, 98] : List UInt8)))) else (some false))) else (some false)) = some r := H
              have A23 := Aside0.mk A230
              clear A230
              by_cases c24 : t109.toList = t110.toList
              · rw [if_pos c24] at H
                have c24b0 : (t109.toList == t110.toList) = true := beq_iff_eq.mpr c24
                have c24b1 : (t109.toList != t110.toList) = false := bne_eq_false_iff_eq.mpr c24
                clear c24
                replace H := Option.bind_eq_some_iff.mp H
                obtain ⟨t111, A250, H⟩ := H
                replace H : (if t111 ≤ (mx (wrap64 (a1)) (a3.size : Int)) then ((impl_Truncated.f (⟨#[97, 98, 99]⟩ : ByteArray) 2 (⟨#[]⟩ : ByteArray)).bind fun t112 => (some (t112.toList == ([97, 98] : List UInt8)))) else (some false)) = some r := H
                have A25 := Aside0.mk A250
                clear A250
                obtain ⟨ji26, hji26⟩ : ∃ j_ : Int, (mx (wrap64 (a1)) (a3.size : Int)) = j_ := ⟨_, rfl⟩
                replace H : (if t111 ≤ (ji26) then ((impl_Truncated.f (⟨#[97, 98, 99]⟩ : ByteArray) 2 (⟨#[]⟩ : ByteArray)).bind fun t112 => (some (t112.toList == ([97, 98] : List UInt8)))) else (some false)) = some r := by first | (rw [hji26] at H; exact H) | (simp only [hji26] at H ⊢; exact H)
                (try rw [hji26] at A19)
                (try rw [hji26] at A20)
                (try rw [hji26] at A21)
                (try rw [hji26] at A23)
                (try rw [hji26] at A25)
                have hji26_ : (if (wrap64 (a1)) < (a3.size : Int) then (a3.size : Int) else (wrap64 (a1))) = ji26 := hji26
                by_cases c27 : t111 ≤ (ji26)
                · rw [if_pos c27] at H
                  have c27b0 : decide (t111 ≤ (ji26)) = true := decide_eq_true c27
                  clear c27
                  replace H := Option.bind_eq_some_iff.mp H
                  obtain ⟨t112, A280, H⟩ := H
                  replace H : (some (t112.toList == ([97, 98] : List UInt8))) = some r := H
                  have A28 := Aside0.mk A280
                  clear A280
                  obtain rfl := Option.some.inj H
                  go_wp2_with (first | ((with_reducible refine gate_callee (f := 25) rfl ?_); refine goesL_ (some 48) rfl rfl Tryd.func25 (by kernel_rfl) rfl #[.string a0, .int .u64 (IntKind.u64.wrap (a1)), .string a3] rfl (by (try simp only [List.map_toArray, List.map_cons, List.map_nil]); first | done | rfl | (simp only [List.length_drop, List.length_take]; rfl) | (simp only [Int.toNat_natCast, ByteArray.extract_zero_size]; rfl)) ?_; (with_reducible refine (impl_Truncated.calls a0 (IntKind.u64.wrap (a1)) a3 t107 _ A19.out).mono ?_); rintro e w29 ⟨rfl, hb⟩; refine ⟨_, rfl, ?_⟩; have n0_ := Aside0.mk (below_step (by repeat (first | (with_reducible first | exact HB.out | apply below_alloc | apply pw_below_drewN | apply below_drew1) | exact HB.out)) hb); clear HB; have HB := n0_; clear n0_; (try clear hb); (try clear hb2); (try clear hk); (try clear hi)) | ((with_reducible refine gate_callee (f := 25) rfl ?_); refine goesL_ (some 52) rfl rfl Tryd.func25 (by kernel_rfl) rfl #[.string a0, .int .u64 (IntKind.u64.wrap (a1)), .string (⟨#[]⟩ : ByteArray)] rfl (by (try simp only [List.map_toArray, List.map_cons, List.map_nil]); first | done | rfl | (simp only [List.length_drop, List.length_take]; rfl) | (simp only [Int.toNat_natCast, ByteArray.extract_zero_size]; rfl)) ?_; (with_reducible refine (impl_Truncated.calls a0 (IntKind.u64.wrap (a1)) (⟨#[]⟩ : ByteArray) t108 _ A20.out).mono ?_); rintro e w30 ⟨rfl, hb⟩; refine ⟨_, rfl, ?_⟩; have n0_ := Aside0.mk (below_step (by repeat (first | (with_reducible first | exact HB.out | apply below_alloc | apply pw_below_drewN | apply below_drew1) | exact HB.out)) hb); clear HB; have HB := n0_; clear n0_; (try clear hb); (try clear hb2); (try clear hk); (try clear hi)) | ((with_reducible refine gate_callee (f := 25) rfl ?_); refine goesL_ (some 55) rfl rfl Tryd.func25 (by kernel_rfl) rfl #[.string t108, .int .u64 (IntKind.u64.wrap (a2)), .string (⟨#[]⟩ : ByteArray)] rfl (by (try simp only [List.map_toArray, List.map_cons, List.map_nil]); first | done | rfl | (simp only [List.length_drop, List.length_take]; rfl) | (simp only [Int.toNat_natCast, ByteArray.extract_zero_size]; rfl)) ?_; (with_reducible refine (impl_Truncated.calls t108 (IntKind.u64.wrap (a2)) (⟨#[]⟩ : ByteArray) t109 _ A21.out).mono ?_); rintro e w31 ⟨rfl, hb⟩; refine ⟨_, rfl, ?_⟩; have n0_ := Aside0.mk (below_step (by repeat (first | (with_reducible first | exact HB.out | apply below_alloc | apply pw_below_drewN | apply below_drew1) | exact HB.out)) hb); clear HB; have HB := n0_; clear n0_; (try clear hb); (try clear hb2); (try clear hk); (try clear hi)) | ((with_reducible refine gate_callee (f := 25) rfl ?_); refine goesL_ (some 61) rfl rfl Tryd.func25 (by kernel_rfl) rfl #[.string a0, .int .u64 (IntKind.u64.wrap (ji22)), .string (⟨#[]⟩ : ByteArray)] rfl (by (try simp only [List.map_toArray, List.map_cons, List.map_nil]); first | done | (simp only [hji22]; rfl) | rfl | (simp only [List.length_drop, List.length_take]; rfl)) ?_; (with_reducible refine (impl_Truncated.calls a0 (IntKind.u64.wrap (ji22)) (⟨#[]⟩ : ByteArray) t110 _ A23.out).mono ?_); rintro e w32 ⟨rfl, hb⟩; refine ⟨_, rfl, ?_⟩; have n0_ := Aside0.mk (below_step (by repeat (first | (with_reducible first | exact HB.out | apply below_alloc | apply pw_below_drewN | apply below_drew1) | exact HB.out)) hb); clear HB; have HB := n0_; clear n0_; (try clear hb); (try clear hb2); (try clear hk); (try clear hi)) | (go_at_call 26; (with_reducible refine (impl_Width.calls t107 t111 _ A25.out).mono ?_); rintro e w33 ⟨rfl, hb⟩; have n0_ := Aside0.mk (below_step (by repeat (first | (with_reducible first | exact HB.out | apply below_alloc | apply pw_below_drewN | apply below_drew1) | exact HB.out)) hb); clear HB; have HB := n0_; clear n0_; (try clear hb); (try clear hb2); (try clear hk); (try clear hi)) | (go_at_call 25; (with_reducible refine (impl_Truncated.calls (⟨#[97, 98, 99]⟩ : ByteArray) 2 (⟨#[]⟩ : ByteArray) t112 _ A28.out).mono ?_); rintro e w34 ⟨rfl, hb⟩; have n0_ := Aside0.mk (below_step (by repeat (first | (with_reducible first | exact HB.out | apply below_alloc | apply pw_below_drewN | apply below_drew1) | exact HB.out)) hb); clear HB; have HB := n0_; clear n0_; (try clear hb); (try clear hb2); (try clear hk); (try clear hi)))
                  go_ret
                  exact ⟨by first | rfl | (simp [errW_none, errW_some] <;> rfl) | (simp only [← hji22, ← hji26]; first | rfl | (simp [errW_none, errW_some] <;> rfl)) | (simp [*, errW_none, errW_some] <;> rfl), by repeat (first | (with_reducible first | exact HB.out | apply below_alloc | apply pw_below_drewN | apply below_drew1) | exact HB.out)⟩
                · rw [if_neg c27] at H
                  have c27b0 : decide (t111 ≤ (ji26)) = false := decide_eq_false c27
                  clear c27
                  obtain rfl := Option.some.inj H
                  go_wp2_with (first | ((with_reducible refine gate_callee (f := 25) rfl ?_); refine goesL_ (some 48) rfl rfl Tryd.func25 (by kernel_rfl) rfl #[.string a0, .int .u64 (IntKind.u64.wrap (a1)), .string a3] rfl (by (try simp only [List.map_toArray, List.map_cons, List.map_nil]); first | done | rfl | (simp only [List.length_drop, List.length_take]; rfl) | (simp only [Int.toNat_natCast, ByteArray.extract_zero_size]; rfl)) ?_; (with_reducible refine (impl_Truncated.calls a0 (IntKind.u64.wrap (a1)) a3 t107 _ A19.out).mono ?_); rintro e w35 ⟨rfl, hb⟩; refine ⟨_, rfl, ?_⟩; have n0_ := Aside0.mk (below_step (by repeat (first | (with_reducible first | exact HB.out | apply below_alloc | apply pw_below_drewN | apply below_drew1) | exact HB.out)) hb); clear HB; have HB := n0_; clear n0_; (try clear hb); (try clear hb2); (try clear hk); (try clear hi)) | ((with_reducible refine gate_callee (f := 25) rfl ?_); refine goesL_ (some 52) rfl rfl Tryd.func25 (by kernel_rfl) rfl #[.string a0, .int .u64 (IntKind.u64.wrap (a1)), .string (⟨#[]⟩ : ByteArray)] rfl (by (try simp only [List.map_toArray, List.map_cons, List.map_nil]); first | done | rfl | (simp only [List.length_drop, List.length_take]; rfl) | (simp only [Int.toNat_natCast, ByteArray.extract_zero_size]; rfl)) ?_; (with_reducible refine (impl_Truncated.calls a0 (IntKind.u64.wrap (a1)) (⟨#[]⟩ : ByteArray) t108 _ A20.out).mono ?_); rintro e w36 ⟨rfl, hb⟩; refine ⟨_, rfl, ?_⟩; have n0_ := Aside0.mk (below_step (by repeat (first | (with_reducible first | exact HB.out | apply below_alloc | apply pw_below_drewN | apply below_drew1) | exact HB.out)) hb); clear HB; have HB := n0_; clear n0_; (try clear hb); (try clear hb2); (try clear hk); (try clear hi)) | ((with_reducible refine gate_callee (f := 25) rfl ?_); refine goesL_ (some 55) rfl rfl Tryd.func25 (by kernel_rfl) rfl #[.string t108, .int .u64 (IntKind.u64.wrap (a2)), .string (⟨#[]⟩ : ByteArray)] rfl (by (try simp only [List.map_toArray, List.map_cons, List.map_nil]); first | done | rfl | (simp only [List.length_drop, List.length_take]; rfl) | (simp only [Int.toNat_natCast, ByteArray.extract_zero_size]; rfl)) ?_; (with_reducible refine (impl_Truncated.calls t108 (IntKind.u64.wrap (a2)) (⟨#[]⟩ : ByteArray) t109 _ A21.out).mono ?_); rintro e w37 ⟨rfl, hb⟩; refine ⟨_, rfl, ?_⟩; have n0_ := Aside0.mk (below_step (by repeat (first | (with_reducible first | exact HB.out | apply below_alloc | apply pw_below_drewN | apply below_drew1) | exact HB.out)) hb); clear HB; have HB := n0_; clear n0_; (try clear hb); (try clear hb2); (try clear hk); (try clear hi)) | ((with_reducible refine gate_callee (f := 25) rfl ?_); refine goesL_ (some 61) rfl rfl Tryd.func25 (by kernel_rfl) rfl #[.string a0, .int .u64 (IntKind.u64.wrap (ji22)), .string (⟨#[]⟩ : ByteArray)] rfl (by (try simp only [List.map_toArray, List.map_cons, List.map_nil]); first | done | (simp only [hji22]; rfl) | rfl | (simp only [List.length_drop, List.length_take]; rfl)) ?_; (with_reducible refine (impl_Truncated.calls a0 (IntKind.u64.wrap (ji22)) (⟨#[]⟩ : ByteArray) t110 _ A23.out).mono ?_); rintro e w38 ⟨rfl, hb⟩; refine ⟨_, rfl, ?_⟩; have n0_ := Aside0.mk (below_step (by repeat (first | (with_reducible first | exact HB.out | apply below_alloc | apply pw_below_drewN | apply below_drew1) | exact HB.out)) hb); clear HB; have HB := n0_; clear n0_; (try clear hb); (try clear hb2); (try clear hk); (try clear hi)) | (go_at_call 26; (with_reducible refine (impl_Width.calls t107 t111 _ A25.out).mono ?_); rintro e w39 ⟨rfl, hb⟩; have n0_ := Aside0.mk (below_step (by repeat (first | (with_reducible first | exact HB.out | apply below_alloc | apply pw_below_drewN | apply below_drew1) | exact HB.out)) hb); clear HB; have HB := n0_; clear n0_; (try clear hb); (try clear hb2); (try clear hk); (try clear hi)))
                  go_ret
                  exact ⟨by first | rfl | (simp [errW_none, errW_some] <;> rfl) | (simp only [← hji22, ← hji26]; first | rfl | (simp [errW_none, errW_some] <;> rfl)) | (simp [*, errW_none, errW_some] <;> rfl), by repeat (first | (with_reducible first | exact HB.out | apply below_alloc | apply pw_below_drewN | apply below_drew1) | exact HB.out)⟩
              · rw [if_neg c24] at H
                have c24b0 : (t109.toList == t110.toList) = false := beq_eq_false_iff_ne.mpr c24
                have c24b1 : (t109.toList != t110.toList) = true := bne_iff_ne.mpr c24
                obtain rfl := Option.some.inj H
                go_wp2_with (first | ((with_reducible refine gate_callee (f := 25) rfl ?_); refine goesL_ (some 48) rfl rfl Tryd.func25 (by kernel_rfl) rfl #[.string a0, .int .u64 (IntKind.u64.wrap (a1)), .string a3] rfl (by (try simp only [List.map_toArray, List.map_cons, List.map_nil]); first | done | rfl | (simp only [List.length_drop, List.length_take]; rfl) | (simp only [Int.toNat_natCast, ByteArray.extract_zero_size]; rfl)) ?_; (with_reducible refine (impl_Truncated.calls a0 (IntKind.u64.wrap (a1)) a3 t107 _ A19.out).mono ?_); rintro e w40 ⟨rfl, hb⟩; refine ⟨_, rfl, ?_⟩; have n0_ := Aside0.mk (below_step (by repeat (first | (with_reducible first | exact HB.out | apply below_alloc | apply pw_below_drewN | apply below_drew1) | exact HB.out)) hb); clear HB; have HB := n0_; clear n0_; (try clear hb); (try clear hb2); (try clear hk); (try clear hi)) | ((with_reducible refine gate_callee (f := 25) rfl ?_); refine goesL_ (some 52) rfl rfl Tryd.func25 (by kernel_rfl) rfl #[.string a0, .int .u64 (IntKind.u64.wrap (a1)), .string (⟨#[]⟩ : ByteArray)] rfl (by (try simp only [List.map_toArray, List.map_cons, List.map_nil]); first | done | rfl | (simp only [List.length_drop, List.length_take]; rfl) | (simp only [Int.toNat_natCast, ByteArray.extract_zero_size]; rfl)) ?_; (with_reducible refine (impl_Truncated.calls a0 (IntKind.u64.wrap (a1)) (⟨#[]⟩ : ByteArray) t108 _ A20.out).mono ?_); rintro e w41 ⟨rfl, hb⟩; refine ⟨_, rfl, ?_⟩; have n0_ := Aside0.mk (below_step (by repeat (first | (with_reducible first | exact HB.out | apply below_alloc | apply pw_below_drewN | apply below_drew1) | exact HB.out)) hb); clear HB; have HB := n0_; clear n0_; (try clear hb); (try clear hb2); (try clear hk); (try clear hi)) | ((with_reducible refine gate_callee (f := 25) rfl ?_); refine goesL_ (some 55) rfl rfl Tryd.func25 (by kernel_rfl) rfl #[.string t108, .int .u64 (IntKind.u64.wrap (a2)), .string (⟨#[]⟩ : ByteArray)] rfl (by (try simp only [List.map_toArray, List.map_cons, List.map_nil]); first | done | rfl | (simp only [List.length_drop, List.length_take]; rfl) | (simp only [Int.toNat_natCast, ByteArray.extract_zero_size]; rfl)) ?_; (with_reducible refine (impl_Truncated.calls t108 (IntKind.u64.wrap (a2)) (⟨#[]⟩ : ByteArray) t109 _ A21.out).mono ?_); rintro e w42 ⟨rfl, hb⟩; refine ⟨_, rfl, ?_⟩; have n0_ := Aside0.mk (below_step (by repeat (first | (with_reducible first | exact HB.out | apply below_alloc | apply pw_below_drewN | apply below_drew1) | exact HB.out)) hb); clear HB; have HB := n0_; clear n0_; (try clear hb); (try clear hb2); (try clear hk); (try clear hi)) | ((with_reducible refine gate_callee (f := 25) rfl ?_); refine goesL_ (some 61) rfl rfl Tryd.func25 (by kernel_rfl) rfl #[.string a0, .int .u64 (IntKind.u64.wrap (ji22)), .string (⟨#[]⟩ : ByteArray)] rfl (by (try simp only [List.map_toArray, List.map_cons, List.map_nil]); first | done | (simp only [hji22]; rfl) | rfl | (simp only [List.length_drop, List.length_take]; rfl)) ?_; (with_reducible refine (impl_Truncated.calls a0 (IntKind.u64.wrap (ji22)) (⟨#[]⟩ : ByteArray) t110 _ A23.out).mono ?_); rintro e w43 ⟨rfl, hb⟩; refine ⟨_, rfl, ?_⟩; have n0_ := Aside0.mk (below_step (by repeat (first | (with_reducible first | exact HB.out | apply below_alloc | apply pw_below_drewN | apply below_drew1) | exact HB.out)) hb); clear HB; have HB := n0_; clear n0_; (try clear hb); (try clear hb2); (try clear hk); (try clear hi)))
                go_ret
                exact ⟨by first | rfl | (simp [errW_none, errW_some] <;> rfl) | (simp only [← hji22]; first | rfl | (simp [errW_none, errW_some] <;> rfl)) | (simp [*, errW_none, errW_some] <;> rfl), by repeat (first | (with_reducible first | exact HB.out | apply below_alloc | apply pw_below_drewN | apply below_drew1) | exact HB.out)⟩
/-- THE ONE PURE STATEMENT of laws_FnTruncatedAgain: yours. -/
def laws_FnTruncatedAgain.Pure : Prop := ∀ (a0 : ByteArray) (a1 : Int) (a2 : Int) (a3 : ByteArray), a0.size ≤ 140737488351232 → (Lit.int .u8 a1).wf = true → (Lit.int .u8 a2).wf = true → a3.size ≤ 140737488351232 → ∃ k, laws_FnTruncatedAgain.f k a0 a1 a2 a3 = some true
theorem laws_FnTruncatedAgain.walk (P : laws_FnTruncatedAgain.Pure) (a0 : ByteArray) (a1 : Int) (a2 : Int) (a3 : ByteArray) (w : World) (w0 : a0.size ≤ 140737488351232) (w1 : (Lit.int .u8 a1).wf = true) (w2 : (Lit.int .u8 a2).wf = true) (w3 : a3.size ≤ 140737488351232) :
    Calls Tryd.prog 7 #[.string a0, .int .u8 a1, .int .u8 a2, .string a3] w fun e w' => e = .returned (.bool true) ∧ Below w.heap.size w w' := by
  obtain ⟨k, h⟩ := P a0 a1 a2 a3 w0 w1 w2 w3
  refine (laws_FnTruncatedAgain.calls k a0 a1 a2 a3 true w h).mono ?_
  rintro e w' ⟨rfl, hd⟩
  exact ⟨rfl, hd⟩
end Go.Proofs.YtanadaamipfmkaaDoor.PFnTruncatedAgain
