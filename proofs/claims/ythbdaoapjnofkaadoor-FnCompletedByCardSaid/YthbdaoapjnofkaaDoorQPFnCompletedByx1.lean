/- Printed by a program of this seat (xprint) out of the translation: Go functions as plain functions, and the walks that show them; no condition. -/
import Derived.Test.YthbdaoapjnofkaaDoorQPFnCompletedByx0
import Derived.Test.YthbdaoapjnofkaaDoorQHCyG
namespace Go.Proofs.YthbdaoapjnofkaaDoor.PFnCompletedBy
open Go.RowKit Go.Proofs.YthbdaoapjnofkaaDoor.H Go.Proofs.YthbdaoapjnofkaaDoor.R Go.Proofs.YthbdaoapjnofkaaDoorW.PrintWords Go.Proofs.YthbdaoapjnofkaaDoorW.PrintLast Go.Proofs.YthbdaoapjnofkaaDoorW.PrintMore
attribute [local go_sem] max2_int min2_int max_two min_two max_three min_three max_four min_four   -- for this text's walks alone
set_option linter.unusedVariables false
set_option linter.unusedSimpArgs false
/-! ### laws_zzFits1: function 11 -/
def laws_zzFits1.l0 : Nat → List ByteArray → Int → Int → Option (Bool)
  | 0, _, _, _ => none
  | k + 1, x8, x9, x10 => if x10 < x9 then (if 0 ≤ x10 then (if x10 < (x8.length : Int) then (if ((rdOf ByteArray.empty x8 x10).size : Int) > 2147483647 then (some false) else (laws_zzFits1.l0 k x8 x9 (wrap64 (x10 + 1)))) else (none)) else (none)) else (some true)
def laws_zzFits1.f (k : Nat) (l0 : List ByteArray) : Option (Bool) := if (l0.length : Int) > 2147483647 then (some false) else (laws_zzFits1.l0 k l0 (l0.length : Int) 0)
theorem laws_zzFits1.mono_l : ∀ k, (∀ y0 y1 y2, LeO (laws_zzFits1.l0 k y0 y1 y2) (laws_zzFits1.l0 (k + 1) y0 y1 y2))
  | 0 => fun _ _ _ r h => by simp [laws_zzFits1.l0] at h
  | k + 1 => by
    have ih0 := laws_zzFits1.mono_l k
    · intro y0 y1 y2
      unfold laws_zzFits1.l0
      repeat' first
      | (with_reducible exact ih0 _ _ _)
      | (with_reducible exact LeO.refl _)
      | (with_reducible exact LeO.none _)
      | (with_reducible refine LeO.ite ?_ ?_)
      | (with_reducible refine LeO.bind ?_ (fun _ => ?_))
      | exact ih0 _ _ _
      | exact LeO.none _
      | refine LeO.ite ?_ ?_
      | refine LeO.bind ?_ (fun _ => ?_)
theorem laws_zzFits1.mono : ∀ a0 k, LeO (laws_zzFits1.f k a0) (laws_zzFits1.f (k + 1) a0) := by
  intro a0 k
  have ih0 := laws_zzFits1.mono_l k
  unfold laws_zzFits1.f
  repeat' first
      | (with_reducible exact ih0 _ _ _)
      | (with_reducible exact LeO.refl _)
      | (with_reducible exact LeO.none _)
      | (with_reducible refine LeO.ite ?_ ?_)
      | (with_reducible refine LeO.bind ?_ (fun _ => ?_))
      | exact ih0 _ _ _
      | exact LeO.none _
      | refine LeO.ite ?_ ?_
      | refine LeO.bind ?_ (fun _ => ?_)
set_option maxHeartbeats 8000000 in
set_option maxRecDepth 100000 in
theorem laws_zzFits1.calls (k : Nat) (A0 : Option Addr) (c0 : Nat) (l0 : List ByteArray) (r : Bool) (w : World) (hr0 : Kd.C Kd.string w A0 l0.length l0) (hc0 : l0.length ≤ c0) (h : laws_zzFits1.f k l0 = some r) :
    Calls Tryd.prog 11 #[.slice A0 l0.length c0] w fun e w' => e = .returned (.bool r) ∧ Drawn0 w w' := by
  have HR0 := Aside0.mk hr0
  have HC0 := Aside0.mk hc0
  clear hr0 hc0
  have H : (if (l0.length : Int) > 2147483647 then (some false) else (laws_zzFits1.l0 k l0 (l0.length : Int) 0)) = some r := h
  clear h
  by_cases c2 : (l0.length : Int) > 2147483647
  · rw [if_pos c2] at H
    have c2b0 : decide (2147483647 < (l0.length : Int)) = true := decide_eq_true c2
    have c2b1 : decide (2147483647 < l0.length) = true := decide_eq_true (by omega)
    clear c2
    obtain rfl := Option.some.inj H
    go_enter Tryd.func11, Tryd.ntmps11
    go_wp2
    go_ret
    exact ⟨by first | rfl | (simp; done) | (simp [*]; done), by repeat (first | exact Drawn0.refl _ | apply Drawn0.step)⟩
  · rw [if_neg c2] at H
    have c2b0 : decide (2147483647 < (l0.length : Int)) = false := decide_eq_false c2
    have c2b1 : decide (2147483647 < l0.length) = false := decide_eq_false (by omega)
    clear c2
    have H' := Aside0.mk H
    clear H
    go_enter Tryd.func11, Tryd.ntmps11
    go_wp2
    go_loopg [10] k (fun kq v10 w' => ∃ (x10_1 : Int), v10 = .int .i64 x10_1 ∧ Aside0 (laws_zzFits1.l0 kq l0 (l0.length : Int) x10_1 = some r) ∧ Aside0 (kq ≤ k) ∧ Drawn0 w w')
    case atStart => exact ⟨(0), (by first | rfl | (simp; done) | (simp [*]; done)), H', ⟨Nat.le_refl _⟩, by repeat (first | exact Drawn0.refl _ | apply Drawn0.step)⟩
    case round =>
      clear H'
      try clear c1
      try clear c2
      try clear c2b0
      try clear c2b1
      try clear p2
      obtain ⟨x10_1, rfl, HA, HK1, ⟨m1, rfl⟩⟩ := hrel
      cases gk with
      | zero => exact absurd HA.out (by simp [laws_zzFits1.l0])
      | succ k1 =>
        have H := HA.out
        clear HA
        simp only [laws_zzFits1.l0] at H
        by_cases c3 : x10_1 < (l0.length : Int)
        · rw [if_pos c3] at H
          have c3b0 : decide (x10_1 < (l0.length : Int)) = true := decide_eq_true c3
          clear c3
          by_cases c4 : 0 ≤ x10_1
          · rw [if_pos c4] at H
            have c4b0 : decide (0 ≤ x10_1) = true := decide_eq_true c4
            clear c4
            by_cases c5 : x10_1 < (l0.length : Int)
            · rw [if_pos c5] at H
              have c5b0 : decide (x10_1 < (l0.length : Int)) = true := decide_eq_true c5
              clear c5
              by_cases c6 : ((rdOf ByteArray.empty l0 x10_1).size : Int) > 2147483647
              · rw [if_pos c6] at H
                have c6b0 : decide (2147483647 < ((rdOf ByteArray.empty l0 x10_1).size : Int)) = true := decide_eq_true c6
                have c6b1 : decide (2147483647 < (rdOf ByteArray.empty l0 x10_1).size) = true := decide_eq_true (by omega)
                clear c6
                obtain rfl := Option.some.inj H
                have p101 : 0 ≤ (x10_1 : Int) := of_decide_eq_true (by first | (with_reducible assumption) | assumption)
                have q101 : x10_1 < (l0.length : Int) := of_decide_eq_true (by first | (with_reducible assumption) | assumption)
                obtain ⟨ad101, e101, hx101_0⟩ := Kd.at_string HR0.out x10_1 p101 q101
                cases e101
                replace p101 := eq_true p101
                replace q101 := eq_true q101
                go_wp2
                go_ret
                exact ⟨by first | rfl | (simp; done) | (simp [*]; done), by repeat (first | exact Drawn0.refl _ | apply Drawn0.step)⟩
              · rw [if_neg c6] at H
                have c6b0 : decide (2147483647 < ((rdOf ByteArray.empty l0 x10_1).size : Int)) = false := decide_eq_false c6
                have c6b1 : decide (2147483647 < (rdOf ByteArray.empty l0 x10_1).size) = false := decide_eq_false (by omega)
                clear c6
                have H' := Aside0.mk H
                clear H
                have p101 : 0 ≤ (x10_1 : Int) := of_decide_eq_true (by first | (with_reducible assumption) | assumption)
                have q101 : x10_1 < (l0.length : Int) := of_decide_eq_true (by first | (with_reducible assumption) | assumption)
                obtain ⟨ad101, e101, hx101_0⟩ := Kd.at_string HR0.out x10_1 p101 q101
                cases e101
                replace p101 := eq_true p101
                replace q101 := eq_true q101
                go_wp2
                go_roundg k1
                case measure => have := HK1.out; omega
                case rel => exact ⟨(wrap64 (x10_1 + 1)), (by first | rfl | (simp; done) | (simp [*]; done)), H', ⟨by have := HK1.out; omega⟩, by repeat (first | exact Drawn0.refl _ | apply Drawn0.step)⟩
            · rw [if_neg c5] at H
              exact absurd H (by simp)
          · rw [if_neg c4] at H
            exact absurd H (by simp)
        · rw [if_neg c3] at H
          have c3b0 : decide (x10_1 < (l0.length : Int)) = false := decide_eq_false c3
          clear c3
          obtain rfl := Option.some.inj H
          go_wp2
          go_ret
          exact ⟨by first | rfl | (simp; done) | (simp [*]; done), by repeat (first | exact Drawn0.refl _ | apply Drawn0.step)⟩
/-! ### spec_SameTexts9: function 20 -/
def spec_SameTexts9.l0 : Nat → List ByteArray → List ByteArray → Int → Int → Option (Bool)
  | 0, _, _, _, _ => none
  | k + 1, x0, x1, x12, x13 => if x13 < x12 then (if 0 ≤ x13 then (if x13 < (x0.length : Int) then (if x13 < (x1.length : Int) then (if (rdOf ByteArray.empty x0 x13).toList = (rdOf ByteArray.empty x1 x13).toList then (spec_SameTexts9.l0 k x0 x1 x12 (wrap64 (x13 + 1))) else (some false)) else (none)) else (none)) else (none)) else (some true)
def spec_SameTexts9.f (k : Nat) (l0 : List ByteArray) (l1 : List ByteArray) : Option (Bool) := if (l0.length : Int) = (l1.length : Int) then (spec_SameTexts9.l0 k l0 l1 (l0.length : Int) 0) else (some false)
theorem spec_SameTexts9.mono_l : ∀ k, (∀ y0 y1 y2 y3, LeO (spec_SameTexts9.l0 k y0 y1 y2 y3) (spec_SameTexts9.l0 (k + 1) y0 y1 y2 y3))
  | 0 => fun _ _ _ _ r h => by simp [spec_SameTexts9.l0] at h
  | k + 1 => by
    have ih0 := spec_SameTexts9.mono_l k
    · intro y0 y1 y2 y3
      unfold spec_SameTexts9.l0
      repeat' first
      | (with_reducible exact ih0 _ _ _ _)
      | (with_reducible exact LeO.refl _)
      | (with_reducible exact LeO.none _)
      | (with_reducible refine LeO.ite ?_ ?_)
      | (with_reducible refine LeO.bind ?_ (fun _ => ?_))
      | exact ih0 _ _ _ _
      | exact LeO.none _
      | refine LeO.ite ?_ ?_
      | refine LeO.bind ?_ (fun _ => ?_)
theorem spec_SameTexts9.mono : ∀ a0 a1 k, LeO (spec_SameTexts9.f k a0 a1) (spec_SameTexts9.f (k + 1) a0 a1) := by
  intro a0 a1 k
  have ih0 := spec_SameTexts9.mono_l k
  unfold spec_SameTexts9.f
  repeat' first
      | (with_reducible exact ih0 _ _ _ _)
      | (with_reducible exact LeO.refl _)
      | (with_reducible exact LeO.none _)
      | (with_reducible refine LeO.ite ?_ ?_)
      | (with_reducible refine LeO.bind ?_ (fun _ => ?_))
      | exact ih0 _ _ _ _
      | exact LeO.none _
      | refine LeO.ite ?_ ?_
      | refine LeO.bind ?_ (fun _ => ?_)
set_option maxHeartbeats 8000000 in
set_option maxRecDepth 100000 in
theorem spec_SameTexts9.calls (k : Nat) (A0 : Option Addr) (c0 : Nat) (l0 : List ByteArray) (A1 : Option Addr) (c1 : Nat) (l1 : List ByteArray) (r : Bool) (w : World) (hr0 : Kd.C Kd.string w A0 l0.length l0) (hc0 : l0.length ≤ c0) (hr1 : Kd.C Kd.string w A1 l1.length l1) (hc1 : l1.length ≤ c1) (h : spec_SameTexts9.f k l0 l1 = some r) :
    Calls Tryd.prog 20 #[.slice A0 l0.length c0, .slice A1 l1.length c1] w fun e w' => e = .returned (.bool r) ∧ Drawn0 w w' := by
  have HR0 := Aside0.mk hr0
  have HC0 := Aside0.mk hc0
  clear hr0 hc0
  have HR1 := Aside0.mk hr1
  have HC1 := Aside0.mk hc1
  clear hr1 hc1
  have H : (if (l0.length : Int) = (l1.length : Int) then (spec_SameTexts9.l0 k l0 l1 (l0.length : Int) 0) else (some false)) = some r := h
  clear h
  by_cases c3 : (l0.length : Int) = (l1.length : Int)
  · rw [if_pos c3] at H
    have c3b0 : ((l0.length : Int) == (l1.length : Int)) = true := beq_iff_eq.mpr c3
    have c3b1 : ((l0.length : Int) != (l1.length : Int)) = false := bne_eq_false_iff_eq.mpr c3
    have c3b2 : (l0.length == l1.length) = true := by first | simpa using c3 | (simp at c3 ⊢; omega)
    clear c3
    have H' := Aside0.mk H
    clear H
    go_enter Tryd.func20, Tryd.ntmps20
    go_wp2
    repeat (go_quiet (fail); try go_wp2)
    go_loopg [13] k (fun kq v13 w' => ∃ (x13_1 : Int), v13 = .int .i64 x13_1 ∧ Aside0 (spec_SameTexts9.l0 kq l0 l1 (l0.length : Int) x13_1 = some r) ∧ Aside0 (kq ≤ k) ∧ Drawn0 w w')
    case atStart => exact ⟨(0), (by first | rfl | (simp; done) | (simp [*]; done)), H', ⟨Nat.le_refl _⟩, by repeat (first | exact Drawn0.refl _ | apply Drawn0.step)⟩
    case round =>
      clear H'
      try clear c1
      try clear c2
      try clear p2
      try clear c3
      try clear c3b0
      try clear c3b1
      try clear c3b2
      obtain ⟨x13_1, rfl, HA, HK1, ⟨m1, rfl⟩⟩ := hrel
      cases gk with
      | zero => exact absurd HA.out (by simp [spec_SameTexts9.l0])
      | succ k1 =>
        have H := HA.out
        clear HA
        simp only [spec_SameTexts9.l0] at H
        by_cases c4 : x13_1 < (l0.length : Int)
        · rw [if_pos c4] at H
          have c4b0 : decide (x13_1 < (l0.length : Int)) = true := decide_eq_true c4
          clear c4
          by_cases c5 : 0 ≤ x13_1
          · rw [if_pos c5] at H
            have c5b0 : decide (0 ≤ x13_1) = true := decide_eq_true c5
            clear c5
            by_cases c6 : x13_1 < (l0.length : Int)
            · rw [if_pos c6] at H
              have c6b0 : decide (x13_1 < (l0.length : Int)) = true := decide_eq_true c6
              clear c6
              by_cases c7 : x13_1 < (l1.length : Int)
              · rw [if_pos c7] at H
                have c7b0 : decide (x13_1 < (l1.length : Int)) = true := decide_eq_true c7
                clear c7
                by_cases c8 : (rdOf ByteArray.empty l0 x13_1).toList = (rdOf ByteArray.empty l1 x13_1).toList
                · rw [if_pos c8] at H
                  have c8b0 : ((rdOf ByteArray.empty l0 x13_1).toList == (rdOf ByteArray.empty l1 x13_1).toList) = true := beq_iff_eq.mpr c8
                  have c8b1 : ((rdOf ByteArray.empty l0 x13_1).toList != (rdOf ByteArray.empty l1 x13_1).toList) = false := bne_eq_false_iff_eq.mpr c8
                  clear c8
                  have H' := Aside0.mk H
                  clear H
                  have p102 : 0 ≤ (x13_1 : Int) := of_decide_eq_true (by first | (with_reducible assumption) | assumption)
                  have q102 : x13_1 < (l0.length : Int) := of_decide_eq_true (by first | (with_reducible assumption) | assumption)
                  obtain ⟨ad102, e102, hx102_0⟩ := Kd.at_string HR0.out x13_1 p102 q102
                  cases e102
                  replace p102 := eq_true p102
                  replace q102 := eq_true q102
                  have p103 : 0 ≤ (x13_1 : Int) := of_decide_eq_true (by first | (with_reducible assumption) | assumption)
                  have q103 : x13_1 < (l1.length : Int) := of_decide_eq_true (by first | (with_reducible assumption) | assumption)
                  obtain ⟨ad103, e103, hx103_0⟩ := Kd.at_string HR1.out x13_1 p103 q103
                  cases e103
                  replace p103 := eq_true p103
                  replace q103 := eq_true q103
                  go_wp2
                  repeat (go_quiet (fail); try go_wp2)
                  go_roundg k1
                  case measure => have := HK1.out; omega
                  case rel => exact ⟨(wrap64 (x13_1 + 1)), (by first | rfl | (simp; done) | (simp [*]; done)), H', ⟨by have := HK1.out; omega⟩, by repeat (first | exact Drawn0.refl _ | apply Drawn0.step)⟩
                · rw [if_neg c8] at H
                  have c8b0 : ((rdOf ByteArray.empty l0 x13_1).toList == (rdOf ByteArray.empty l1 x13_1).toList) = false := beq_eq_false_iff_ne.mpr c8
                  have c8b1 : ((rdOf ByteArray.empty l0 x13_1).toList != (rdOf ByteArray.empty l1 x13_1).toList) = true := bne_iff_ne.mpr c8
                  obtain rfl := Option.some.inj H
                  have p102 : 0 ≤ (x13_1 : Int) := of_decide_eq_true (by first | (with_reducible assumption) | assumption)
                  have q102 : x13_1 < (l0.length : Int) := of_decide_eq_true (by first | (with_reducible assumption) | assumption)
                  obtain ⟨ad102, e102, hx102_0⟩ := Kd.at_string HR0.out x13_1 p102 q102
                  cases e102
                  replace p102 := eq_true p102
                  replace q102 := eq_true q102
                  have p103 : 0 ≤ (x13_1 : Int) := of_decide_eq_true (by first | (with_reducible assumption) | assumption)
                  have q103 : x13_1 < (l1.length : Int) := of_decide_eq_true (by first | (with_reducible assumption) | assumption)
                  obtain ⟨ad103, e103, hx103_0⟩ := Kd.at_string HR1.out x13_1 p103 q103
                  cases e103
                  replace p103 := eq_true p103
                  replace q103 := eq_true q103
                  go_wp2
                  repeat (go_quiet (fail); try go_wp2)
                  go_ret
                  exact ⟨by first | rfl | (simp; done) | (simp [*]; done), by repeat (first | exact Drawn0.refl _ | apply Drawn0.step)⟩
              · rw [if_neg c7] at H
                exact absurd H (by simp)
            · rw [if_neg c6] at H
              exact absurd H (by simp)
          · rw [if_neg c5] at H
            exact absurd H (by simp)
        · rw [if_neg c4] at H
          have c4b0 : decide (x13_1 < (l0.length : Int)) = false := decide_eq_false c4
          clear c4
          obtain rfl := Option.some.inj H
          go_wp2
          repeat (go_quiet (fail); try go_wp2)
          go_ret
          exact ⟨by first | rfl | (simp; done) | (simp [*]; done), by repeat (first | exact Drawn0.refl _ | apply Drawn0.step)⟩
  · rw [if_neg c3] at H
    have c3b0 : ((l0.length : Int) == (l1.length : Int)) = false := beq_eq_false_iff_ne.mpr c3
    have c3b1 : ((l0.length : Int) != (l1.length : Int)) = true := bne_iff_ne.mpr c3
    have c3b2 : (l0.length == l1.length) = false := by first | simpa using c3 | (simp at c3 ⊢; omega)
    obtain rfl := Option.some.inj H
    go_enter Tryd.func20, Tryd.ntmps20
    go_wp2
    repeat (go_quiet (fail); try go_wp2)
    go_ret
    exact ⟨by first | rfl | (simp; done) | (simp [*]; done), by repeat (first | exact Drawn0.refl _ | apply Drawn0.step)⟩
/-! ### spec_Small: function 26 -/
def spec_Small.l0 : Nat → ByteArray → Int → Int → Option (Bool)
  | 0, _, _, _ => none
  | k + 1, x0, x5, x6 => if x6 < x5 then (if 0 ≤ x6 then (if x6 < (x0.size : Int) then (if (bt x0 x6) < 97 then (some false) else (if (bt x0 x6) > 122 then (some false) else (spec_Small.l0 k x0 x5 (wrap64 (x6 + 1))))) else (none)) else (none)) else (some true)
def spec_Small.f (k : Nat) (a0 : ByteArray) : Option (Bool) := spec_Small.l0 k a0 (a0.size : Int) 0
theorem spec_Small.mono_l : ∀ k, (∀ y0 y1 y2, LeO (spec_Small.l0 k y0 y1 y2) (spec_Small.l0 (k + 1) y0 y1 y2))
  | 0 => fun _ _ _ r h => by simp [spec_Small.l0] at h
  | k + 1 => by
    have ih0 := spec_Small.mono_l k
    · intro y0 y1 y2
      unfold spec_Small.l0
      repeat' first
      | (with_reducible exact ih0 _ _ _)
      | (with_reducible exact LeO.refl _)
      | (with_reducible exact LeO.none _)
      | (with_reducible refine LeO.ite ?_ ?_)
      | (with_reducible refine LeO.bind ?_ (fun _ => ?_))
      | exact ih0 _ _ _
      | exact LeO.none _
      | refine LeO.ite ?_ ?_
      | refine LeO.bind ?_ (fun _ => ?_)
theorem spec_Small.mono : ∀ a0 k, LeO (spec_Small.f k a0) (spec_Small.f (k + 1) a0) := by
  intro a0 k
  have ih0 := spec_Small.mono_l k
  unfold spec_Small.f
  repeat' first
      | (with_reducible exact ih0 _ _ _)
      | (with_reducible exact LeO.refl _)
      | (with_reducible exact LeO.none _)
      | (with_reducible refine LeO.ite ?_ ?_)
      | (with_reducible refine LeO.bind ?_ (fun _ => ?_))
      | exact ih0 _ _ _
      | exact LeO.none _
      | refine LeO.ite ?_ ?_
      | refine LeO.bind ?_ (fun _ => ?_)
set_option maxHeartbeats 8000000 in
set_option maxRecDepth 100000 in
theorem spec_Small.calls (k : Nat) (a0 : ByteArray) (r : Bool) (w : World) (h : spec_Small.f k a0 = some r) :
    Calls Tryd.prog 26 #[.string a0] w fun e w' => e = .returned (.bool r) ∧ Drawn0 w w' := by
  have H : (spec_Small.l0 k a0 (a0.size : Int) 0) = some r := h
  clear h
  have H' := Aside0.mk H
  clear H
  go_enter Tryd.func26, Tryd.ntmps26
  go_wp2
  go_loopg [6] k (fun kq v6 w' => ∃ (x6_1 : Int), v6 = .int .i64 x6_1 ∧ Aside0 (spec_Small.l0 kq a0 (a0.size : Int) x6_1 = some r) ∧ Aside0 (kq ≤ k) ∧ Drawn0 w w')
  case atStart => exact ⟨(0), (by first | rfl | (simp; done) | (simp [*]; done)), H', ⟨Nat.le_refl _⟩, by repeat (first | exact Drawn0.refl _ | apply Drawn0.step)⟩
  case round =>
    clear H'
    obtain ⟨x6_1, rfl, HA, HK1, ⟨m1, rfl⟩⟩ := hrel
    cases gk with
    | zero => exact absurd HA.out (by simp [spec_Small.l0])
    | succ k1 =>
      have H := HA.out
      clear HA
      simp only [spec_Small.l0] at H
      by_cases c2 : x6_1 < (a0.size : Int)
      · rw [if_pos c2] at H
        have c2b0 : decide (x6_1 < (a0.size : Int)) = true := decide_eq_true c2
        clear c2
        by_cases c3 : 0 ≤ x6_1
        · rw [if_pos c3] at H
          have c3b0 : decide (0 ≤ x6_1) = true := decide_eq_true c3
          clear c3
          by_cases c4 : x6_1 < (a0.size : Int)
          · rw [if_pos c4] at H
            have c4b0 : decide (x6_1 < (a0.size : Int)) = true := decide_eq_true c4
            clear c4
            by_cases c6 : (bt a0 x6_1) < 97
            · rw [if_pos c6] at H
              have c6b0 : decide ((bt a0 x6_1) < 97) = true := decide_eq_true c6
              clear c6
              obtain rfl := Option.some.inj H
              have p5 : 0 ≤ (x6_1 : Int) := of_decide_eq_true (by first | (with_reducible assumption) | assumption)
              have q5 : x6_1 < (a0.size : Int) := of_decide_eq_true (by first | (with_reducible assumption) | assumption)
              have hx5 := bt_at a0 x6_1
              replace p5 := eq_true p5
              replace q5 := eq_true q5
              go_wp2
              go_ret
              exact ⟨by first | rfl | (simp; done) | (simp [*]; done), by repeat (first | exact Drawn0.refl _ | apply Drawn0.step)⟩
            · rw [if_neg c6] at H
              have c6b0 : decide ((bt a0 x6_1) < 97) = false := decide_eq_false c6
              clear c6
              by_cases c8 : (bt a0 x6_1) > 122
              · rw [if_pos c8] at H
                have c8b0 : decide (122 < (bt a0 x6_1)) = true := decide_eq_true c8
                clear c8
                obtain rfl := Option.some.inj H
                have p5 : 0 ≤ (x6_1 : Int) := of_decide_eq_true (by first | (with_reducible assumption) | assumption)
                have q5 : x6_1 < (a0.size : Int) := of_decide_eq_true (by first | (with_reducible assumption) | assumption)
                have hx5 := bt_at a0 x6_1
                replace p5 := eq_true p5
                replace q5 := eq_true q5
                have p7 : 0 ≤ (x6_1 : Int) := of_decide_eq_true (by first | (with_reducible assumption) | assumption)
                have q7 : x6_1 < (a0.size : Int) := of_decide_eq_true (by first | (with_reducible assumption) | assumption)
                have hx7 := bt_at a0 x6_1
                replace p7 := eq_true p7
                replace q7 := eq_true q7
                go_wp2
                go_ret
                exact ⟨by first | rfl | (simp; done) | (simp [*]; done), by repeat (first | exact Drawn0.refl _ | apply Drawn0.step)⟩
              · rw [if_neg c8] at H
                have c8b0 : decide (122 < (bt a0 x6_1)) = false := decide_eq_false c8
                clear c8
                have H' := Aside0.mk H
                clear H
                have p5 : 0 ≤ (x6_1 : Int) := of_decide_eq_true (by first | (with_reducible assumption) | assumption)
                have q5 : x6_1 < (a0.size : Int) := of_decide_eq_true (by first | (with_reducible assumption) | assumption)
                have hx5 := bt_at a0 x6_1
                replace p5 := eq_true p5
                replace q5 := eq_true q5
                have p7 : 0 ≤ (x6_1 : Int) := of_decide_eq_true (by first | (with_reducible assumption) | assumption)
                have q7 : x6_1 < (a0.size : Int) := of_decide_eq_true (by first | (with_reducible assumption) | assumption)
                have hx7 := bt_at a0 x6_1
                replace p7 := eq_true p7
                replace q7 := eq_true q7
                go_wp2
                go_roundg k1
                case measure => have := HK1.out; omega
                case rel => exact ⟨(wrap64 (x6_1 + 1)), (by first | rfl | (simp; done) | (simp [*]; done)), H', ⟨by have := HK1.out; omega⟩, by repeat (first | exact Drawn0.refl _ | apply Drawn0.step)⟩
          · rw [if_neg c4] at H
            exact absurd H (by simp)
        · rw [if_neg c3] at H
          exact absurd H (by simp)
      · rw [if_neg c2] at H
        have c2b0 : decide (x6_1 < (a0.size : Int)) = false := decide_eq_false c2
        clear c2
        obtain rfl := Option.some.inj H
        go_wp2
        go_ret
        exact ⟨by first | rfl | (simp; done) | (simp [*]; done), by repeat (first | exact Drawn0.refl _ | apply Drawn0.step)⟩
/-! ### laws_names9: function 25 -/
mutual
def laws_names9.l0 : Nat → List ByteArray → Int → Int → Option (Bool)
  | 0, _, _, _ => none
  | k + 1, x0, x6, x7 => if x7 < x6 then (if 0 ≤ x7 then (if x7 < (x0.length : Int) then (if (rdOf ByteArray.empty x0 x7).toList = ([] : List UInt8) then (laws_names9.j1 k x0 x7 x6 x7 true) else (if ((rdOf ByteArray.empty x0 x7).size : Int) > 12 then (laws_names9.j1 k x0 x7 x6 x7 true) else ((spec_Small.f k (rdOf ByteArray.empty x0 x7)).bind fun t107 => (laws_names9.j1 k x0 x7 x6 x7 (!t107))))) else (none)) else (none)) else (some (decide ((x0.length : Int) ≤ 8)))
def laws_names9.j1 : Nat → List ByteArray → Int → Int → Int → Bool → Option (Bool)
  | 0, _, _, _, _, _ => none
  | k + 1, x0, x3, x6, x7, x30 => if x30 = true then (some false) else (laws_names9.l1 k x0 x3 x6 x7 x3 0)
def laws_names9.l1 : Nat → List ByteArray → Int → Int → Int → Int → Int → Option (Bool)
  | 0, _, _, _, _, _, _ => none
  | k + 1, x0, x3, x6, x7, x31, x32 => if x32 < x31 then (if 0 ≤ x32 then (if x32 < (x0.length : Int) then (if 0 ≤ x3 then (if x3 < (x0.length : Int) then (if (rdOf ByteArray.empty x0 x32).toList = (rdOf ByteArray.empty x0 x3).toList then (some false) else (laws_names9.l1 k x0 x3 x6 x7 x31 (wrap64 (x32 + 1)))) else (none)) else (none)) else (none)) else (none)) else (laws_names9.l0 k x0 x6 (wrap64 (x7 + 1)))
end
def laws_names9.f (k : Nat) (l0 : List ByteArray) : Option (Bool) := laws_names9.l0 k l0 (l0.length : Int) 0
theorem laws_names9.mono_l : ∀ k, (∀ y0 y1 y2, LeO (laws_names9.l0 k y0 y1 y2) (laws_names9.l0 (k + 1) y0 y1 y2)) ∧ (∀ y0 y1 y2 y3 y4, LeO (laws_names9.j1 k y0 y1 y2 y3 y4) (laws_names9.j1 (k + 1) y0 y1 y2 y3 y4)) ∧ (∀ y0 y1 y2 y3 y4 y5, LeO (laws_names9.l1 k y0 y1 y2 y3 y4 y5) (laws_names9.l1 (k + 1) y0 y1 y2 y3 y4 y5))
  | 0 => ⟨fun _ _ _ r h => by simp [laws_names9.l0] at h, fun _ _ _ _ _ r h => by simp [laws_names9.j1] at h, fun _ _ _ _ _ _ r h => by simp [laws_names9.l1] at h⟩
  | k + 1 => by
    obtain ⟨ih0, ih1, ih2⟩ := laws_names9.mono_l k
    refine ⟨?_, ?_, ?_⟩
    · intro y0 y1 y2
      unfold laws_names9.l0
      repeat' first
      | (with_reducible exact ih0 _ _ _)
      | (with_reducible exact ih1 _ _ _ _ _)
      | (with_reducible exact ih2 _ _ _ _ _ _)
      | (with_reducible exact spec_Small.mono _ _)
      | (with_reducible exact LeO.refl _)
      | (with_reducible exact LeO.none _)
      | (with_reducible refine LeO.ite ?_ ?_)
      | (with_reducible refine LeO.bind ?_ (fun _ => ?_))
      | exact ih0 _ _ _
      | exact ih1 _ _ _ _ _
      | exact ih2 _ _ _ _ _ _
      | exact spec_Small.mono _ _
      | exact LeO.none _
      | refine LeO.ite ?_ ?_
      | refine LeO.bind ?_ (fun _ => ?_)
    · intro y0 y1 y2 y3 y4
      unfold laws_names9.j1
      repeat' first
      | (with_reducible exact ih0 _ _ _)
      | (with_reducible exact ih1 _ _ _ _ _)
      | (with_reducible exact ih2 _ _ _ _ _ _)
      | (with_reducible exact spec_Small.mono _ _)
      | (with_reducible exact LeO.refl _)
      | (with_reducible exact LeO.none _)
      | (with_reducible refine LeO.ite ?_ ?_)
      | (with_reducible refine LeO.bind ?_ (fun _ => ?_))
      | exact ih0 _ _ _
      | exact ih1 _ _ _ _ _
      | exact ih2 _ _ _ _ _ _
      | exact spec_Small.mono _ _
      | exact LeO.none _
      | refine LeO.ite ?_ ?_
      | refine LeO.bind ?_ (fun _ => ?_)
    · intro y0 y1 y2 y3 y4 y5
      unfold laws_names9.l1
      repeat' first
      | (with_reducible exact ih0 _ _ _)
      | (with_reducible exact ih1 _ _ _ _ _)
      | (with_reducible exact ih2 _ _ _ _ _ _)
      | (with_reducible exact spec_Small.mono _ _)
      | (with_reducible exact LeO.refl _)
      | (with_reducible exact LeO.none _)
      | (with_reducible refine LeO.ite ?_ ?_)
      | (with_reducible refine LeO.bind ?_ (fun _ => ?_))
      | exact ih0 _ _ _
      | exact ih1 _ _ _ _ _
      | exact ih2 _ _ _ _ _ _
      | exact spec_Small.mono _ _
      | exact LeO.none _
      | refine LeO.ite ?_ ?_
      | refine LeO.bind ?_ (fun _ => ?_)
theorem laws_names9.mono : ∀ a0 k, LeO (laws_names9.f k a0) (laws_names9.f (k + 1) a0) := by
  intro a0 k
  obtain ⟨ih0, ih1, ih2⟩ := laws_names9.mono_l k
  unfold laws_names9.f
  repeat' first
      | (with_reducible exact ih0 _ _ _)
      | (with_reducible exact ih1 _ _ _ _ _)
      | (with_reducible exact ih2 _ _ _ _ _ _)
      | (with_reducible exact spec_Small.mono _ _)
      | (with_reducible exact LeO.refl _)
      | (with_reducible exact LeO.none _)
      | (with_reducible refine LeO.ite ?_ ?_)
      | (with_reducible refine LeO.bind ?_ (fun _ => ?_))
      | exact ih0 _ _ _
      | exact ih1 _ _ _ _ _
      | exact ih2 _ _ _ _ _ _
      | exact spec_Small.mono _ _
      | exact LeO.none _
      | refine LeO.ite ?_ ?_
      | refine LeO.bind ?_ (fun _ => ?_)
set_option maxHeartbeats 8000000 in
set_option maxRecDepth 100000 in
theorem laws_names9.calls (k : Nat) (A0 : Option Addr) (c0 : Nat) (l0 : List ByteArray) (r : Bool) (w : World) (hr0 : Kd.C Kd.string w A0 l0.length l0) (hc0 : l0.length ≤ c0) (h : laws_names9.f k l0 = some r) :
    Calls Tryd.prog 25 #[.slice A0 l0.length c0] w fun e w' => e = .returned (.bool r) ∧ Drawn0 w w' := by
  have HR0 := Aside0.mk hr0
  have HC0 := Aside0.mk hc0
  clear hr0 hc0
  have H : (laws_names9.l0 k l0 (l0.length : Int) 0) = some r := h
  clear h
  have H' := Aside0.mk H
  clear H
  go_enter Tryd.func25, Tryd.ntmps25
  go_wp2
  repeat (go_quiet (fail); try go_wp2)
  go_loopg [7] k (fun kq v7 w' => ∃ (x7_1 : Int), v7 = .int .i64 x7_1 ∧ Aside0 (laws_names9.l0 kq l0 (l0.length : Int) x7_1 = some r) ∧ Aside0 (kq ≤ k) ∧ Drawn0 w w')
  case atStart => exact ⟨(0), (by first | rfl | (simp; done) | (simp [*]; done)), H', ⟨Nat.le_refl _⟩, by repeat (first | exact Drawn0.refl _ | apply Drawn0.step)⟩
  case round =>
    clear H'
    obtain ⟨x7_1, rfl, HA, HK1, ⟨m1, rfl⟩⟩ := hrel
    cases gk with
    | zero => exact absurd HA.out (by simp [laws_names9.l0])
    | succ k1 =>
      have H := HA.out
      clear HA
      simp only [laws_names9.l0] at H
      by_cases c2 : x7_1 < (l0.length : Int)
      · rw [if_pos c2] at H
        have c2b0 : decide (x7_1 < (l0.length : Int)) = true := decide_eq_true c2
        clear c2
        have HC3 := Aside0.mk H
        clear H
        go_upto_region 4 with (fail)
        repeat (go_quiet (fail); go_upto_region 4 with (fail))
        go_cut [30] (fun v30 wc => ∃ (kq : Nat) (x30_2 : Bool), v30 = .bool x30_2 ∧ Aside0 (laws_names9.j1 kq l0 x7_1 (l0.length : Int) x7_1 x30_2 = some r) ∧ Aside0 (kq ≤ k1) ∧ Drawn0 w wc)
        case first =>
          have H := HC3.out
          clear HC3
          by_cases c4 : 0 ≤ x7_1
          · rw [if_pos c4] at H
            have c4b0 : decide (0 ≤ x7_1) = true := decide_eq_true c4
            clear c4
            (first | rw [c4b0] | (simp only [i64_w, i32_w]; rw [c4b0]) | skip)
            by_cases c5 : x7_1 < (l0.length : Int)
            · rw [if_pos c5] at H
              have c5b0 : decide (x7_1 < (l0.length : Int)) = true := decide_eq_true c5
              clear c5
              by_cases c6 : (rdOf ByteArray.empty l0 x7_1).toList = ([] : List UInt8)
              · rw [if_pos c6] at H
                have c6b0 : ((rdOf ByteArray.empty l0 x7_1).toList == ([] : List UInt8)) = true := beq_iff_eq.mpr c6
                have c6b1 : ((rdOf ByteArray.empty l0 x7_1).toList != ([] : List UInt8)) = false := bne_eq_false_iff_eq.mpr c6
                clear c6
                have H' := Aside0.mk H
                clear H
                have p104 : 0 ≤ (x7_1 : Int) := of_decide_eq_true (by first | (with_reducible assumption) | assumption)
                have q104 : x7_1 < (l0.length : Int) := of_decide_eq_true (by first | (with_reducible assumption) | assumption)
                obtain ⟨ad104, e104, hx104_0⟩ := Kd.at_string HR0.out x7_1 p104 q104
                cases e104
                replace p104 := eq_true p104
                replace q104 := eq_true q104
                go_wp2
                repeat (go_quiet (fail); try go_wp2)
                go_meet
                case rel => exact ⟨_, (true), (by first | rfl | (simp; done) | (simp [*]; done)), H', ⟨by have := HK1.out; first | omega | exact Nat.le_refl _⟩, by repeat (first | exact Drawn0.refl _ | apply Drawn0.step)⟩
              · rw [if_neg c6] at H
                have c6b0 : ((rdOf ByteArray.empty l0 x7_1).toList == ([] : List UInt8)) = false := beq_eq_false_iff_ne.mpr c6
                have c6b1 : ((rdOf ByteArray.empty l0 x7_1).toList != ([] : List UInt8)) = true := bne_iff_ne.mpr c6
                by_cases c7 : ((rdOf ByteArray.empty l0 x7_1).size : Int) > 12
                · rw [if_pos c7] at H
                  have c7b0 : decide (12 < ((rdOf ByteArray.empty l0 x7_1).size : Int)) = true := decide_eq_true c7
                  have c7b1 : decide (12 < (rdOf ByteArray.empty l0 x7_1).size) = true := decide_eq_true (by omega)
                  clear c7
                  have H' := Aside0.mk H
                  clear H
                  have p104 : 0 ≤ (x7_1 : Int) := of_decide_eq_true (by first | (with_reducible assumption) | assumption)
                  have q104 : x7_1 < (l0.length : Int) := of_decide_eq_true (by first | (with_reducible assumption) | assumption)
                  obtain ⟨ad104, e104, hx104_0⟩ := Kd.at_string HR0.out x7_1 p104 q104
                  cases e104
                  replace p104 := eq_true p104
                  replace q104 := eq_true q104
                  have p105 : 0 ≤ (x7_1 : Int) := of_decide_eq_true (by first | (with_reducible assumption) | assumption)
                  have q105 : x7_1 < (l0.length : Int) := of_decide_eq_true (by first | (with_reducible assumption) | assumption)
                  obtain ⟨ad105, e105, hx105_0⟩ := Kd.at_string HR0.out x7_1 p105 q105
                  obtain rfl : ad104 = ad105 := (by injection e105)
                  replace p105 := eq_true p105
                  replace q105 := eq_true q105
                  go_wp2
                  repeat (go_quiet (fail); try go_wp2)
                  go_meet
                  case rel => exact ⟨_, (true), (by first | rfl | (simp; done) | (simp [*]; done)), H', ⟨by have := HK1.out; first | omega | exact Nat.le_refl _⟩, by repeat (first | exact Drawn0.refl _ | apply Drawn0.step)⟩
                · rw [if_neg c7] at H
                  have c7b0 : decide (12 < ((rdOf ByteArray.empty l0 x7_1).size : Int)) = false := decide_eq_false c7
                  have c7b1 : decide (12 < (rdOf ByteArray.empty l0 x7_1).size) = false := decide_eq_false (by omega)
                  clear c7
                  replace H := Option.bind_eq_some_iff.mp H
                  obtain ⟨t107, A80, H⟩ := H
                  replace H : (laws_names9.j1 k1 l0 x7_1 (l0.length : Int) x7_1 (!t107)) = some r := H
                  have A8 := Aside0.mk A80
                  clear A80
                  have H' := Aside0.mk H
                  clear H
                  have p104 : 0 ≤ (x7_1 : Int) := of_decide_eq_true (by first | (with_reducible assumption) | assumption)
                  have q104 : x7_1 < (l0.length : Int) := of_decide_eq_true (by first | (with_reducible assumption) | assumption)
                  obtain ⟨ad104, e104, hx104_0⟩ := Kd.at_string HR0.out x7_1 p104 q104
                  cases e104
                  replace p104 := eq_true p104
                  replace q104 := eq_true q104
                  have p105 : 0 ≤ (x7_1 : Int) := of_decide_eq_true (by first | (with_reducible assumption) | assumption)
                  have q105 : x7_1 < (l0.length : Int) := of_decide_eq_true (by first | (with_reducible assumption) | assumption)
                  obtain ⟨ad105, e105, hx105_0⟩ := Kd.at_string HR0.out x7_1 p105 q105
                  obtain rfl : ad104 = ad105 := (by injection e105)
                  replace p105 := eq_true p105
                  replace q105 := eq_true q105
                  have p106 : 0 ≤ (x7_1 : Int) := of_decide_eq_true (by first | (with_reducible assumption) | assumption)
                  have q106 : x7_1 < (l0.length : Int) := of_decide_eq_true (by first | (with_reducible assumption) | assumption)
                  obtain ⟨ad106, e106, hx106_0⟩ := Kd.at_string HR0.out x7_1 p106 q106
                  obtain rfl : ad104 = ad106 := (by injection e106)
                  replace p106 := eq_true p106
                  replace q106 := eq_true q106
                  go_wp2_with (first | (go_at_call 26; (with_reducible refine (spec_Small.calls k1 (rdOf ByteArray.empty l0 x7_1) t107 _ A8.out).mono ?_); rintro e w' ⟨rfl, ⟨nd, rfl⟩⟩; (try first | exact ⟨rfl, _, World.drewN_drewN _ _ _⟩ | exact ⟨rfl, _, Eq.trans (World.drewN_drewN _ _ _) (congrArg (World.drewN _) (Nat.add_assoc _ _ _))⟩)))
                  repeat (go_quiet (first | (go_at_call 26; (with_reducible refine (spec_Small.calls k1 (rdOf ByteArray.empty l0 x7_1) t107 _ A8.out).mono ?_); rintro e w' ⟨rfl, ⟨nd, rfl⟩⟩; (try first | exact ⟨rfl, _, World.drewN_drewN _ _ _⟩ | exact ⟨rfl, _, Eq.trans (World.drewN_drewN _ _ _) (congrArg (World.drewN _) (Nat.add_assoc _ _ _))⟩))); try go_wp2_with (first | (go_at_call 26; (with_reducible refine (spec_Small.calls k1 (rdOf ByteArray.empty l0 x7_1) t107 _ A8.out).mono ?_); rintro e w' ⟨rfl, ⟨nd, rfl⟩⟩; (try first | exact ⟨rfl, _, World.drewN_drewN _ _ _⟩ | exact ⟨rfl, _, Eq.trans (World.drewN_drewN _ _ _) (congrArg (World.drewN _) (Nat.add_assoc _ _ _))⟩))))
                  go_meet
                  case rel => exact ⟨_, (!t107), (by first | rfl | (simp; done) | (simp [*]; done)), H', ⟨by have := HK1.out; first | omega | exact Nat.le_refl _⟩, by repeat (first | exact Drawn0.refl _ | apply Drawn0.step)⟩
            · rw [if_neg c5] at H
              exact absurd H (by simp)
          · rw [if_neg c4] at H
            exact absurd H (by simp)
        case rest =>
          clear HC3
          try clear p1
          try clear q1
          try clear hx1
          try clear c2
          try clear c2b0
          try clear p2
          try clear c4
          try clear c4b0
          try clear c5
          try clear c5b0
          try clear c6
          try clear c6b0
          try clear c6b1
          try clear c7
          try clear c7b0
          try clear c7b1
          try clear hx104_0
          try clear hx105_0
          try clear hx106_0
          try clear p104
          try clear p105
          try clear p106
          try clear q104
          try clear q105
          try clear q106
          obtain ⟨kq, x30_2, rfl, HA, HJ2, ⟨mc2, rfl⟩⟩ := hcut
          cases kq with
          | zero => exact absurd HA.out (by simp [laws_names9.j1])
          | succ kj2 =>
            have H := HA.out
            clear HA
            simp only [laws_names9.j1] at H
            by_cases c9 : x30_2 = true
            · subst c9
              have H1 : (some false) = some r := by rw [if_pos rfl] at H; exact H
              clear H
              have H := H1
              clear H1
              obtain rfl := Option.some.inj H
              go_wp2
              repeat (go_quiet (fail); try go_wp2)
              go_ret
              exact ⟨by first | rfl | (simp; done) | (simp [*]; done), by repeat (first | exact Drawn0.refl _ | apply Drawn0.step)⟩
            · replace c9 := Bool.eq_false_iff.mpr c9
              subst c9
              have H1 : (laws_names9.l1 kj2 l0 x7_1 (l0.length : Int) x7_1 x7_1 0) = some r := by rw [if_neg (show ¬ (false = true) by decide)] at H; exact H
              clear H
              have H := H1
              clear H1
              have H' := Aside0.mk H
              clear H
              go_wp2
              repeat (go_quiet (fail); try go_wp2)
              go_loopg [32] kj2 (fun kq v32 w' => ∃ (x32_3 : Int), v32 = .int .i64 x32_3 ∧ Aside0 (laws_names9.l1 kq l0 x7_1 (l0.length : Int) x7_1 x7_1 x32_3 = some r) ∧ Aside0 (kq ≤ kj2) ∧ Drawn0 w w')
              case atStart => exact ⟨(0), (by first | rfl | (simp; done) | (simp [*]; done)), H', ⟨Nat.le_refl _⟩, by repeat (first | exact Drawn0.refl _ | apply Drawn0.step)⟩
              case round =>
                clear H'
                try clear p1
                try clear q1
                try clear hx1
                try clear c2
                try clear c2b0
                try clear p2
                try clear c4
                try clear c4b0
                try clear c5
                try clear c5b0
                try clear c6
                try clear c6b0
                try clear c6b1
                try clear c7
                try clear c7b0
                try clear c7b1
                try clear c9
                try clear hx104_0
                try clear hx105_0
                try clear hx106_0
                try clear p1
                try clear p104
                try clear p105
                try clear p106
                try clear p2
                try clear q1
                try clear q104
                try clear q105
                try clear q106
                obtain ⟨x32_3, rfl, HA, HK3, ⟨m3, rfl⟩⟩ := hrel
                cases gk with
                | zero => exact absurd HA.out (by simp [laws_names9.l1])
                | succ k3 =>
                  have H := HA.out
                  clear HA
                  simp only [laws_names9.l1] at H
                  by_cases c10 : x32_3 < x7_1
                  · rw [if_pos c10] at H
                    have c10b0 : decide (x32_3 < x7_1) = true := decide_eq_true c10
                    clear c10
                    by_cases c11 : 0 ≤ x32_3
                    · rw [if_pos c11] at H
                      have c11b0 : decide (0 ≤ x32_3) = true := decide_eq_true c11
                      clear c11
                      by_cases c12 : x32_3 < (l0.length : Int)
                      · rw [if_pos c12] at H
                        have c12b0 : decide (x32_3 < (l0.length : Int)) = true := decide_eq_true c12
                        clear c12
                        by_cases c13 : 0 ≤ x7_1
                        · rw [if_pos c13] at H
                          have c13b0 : decide (0 ≤ x7_1) = true := decide_eq_true c13
                          clear c13
                          by_cases c14 : x7_1 < (l0.length : Int)
                          · rw [if_pos c14] at H
                            have c14b0 : decide (x7_1 < (l0.length : Int)) = true := decide_eq_true c14
                            clear c14
                            by_cases c15 : (rdOf ByteArray.empty l0 x32_3).toList = (rdOf ByteArray.empty l0 x7_1).toList
                            · rw [if_pos c15] at H
                              have c15b0 : ((rdOf ByteArray.empty l0 x32_3).toList == (rdOf ByteArray.empty l0 x7_1).toList) = true := beq_iff_eq.mpr c15
                              have c15b1 : ((rdOf ByteArray.empty l0 x32_3).toList != (rdOf ByteArray.empty l0 x7_1).toList) = false := bne_eq_false_iff_eq.mpr c15
                              clear c15
                              obtain rfl := Option.some.inj H
                              have p108 : 0 ≤ (x32_3 : Int) := of_decide_eq_true (by first | (with_reducible assumption) | assumption)
                              have q108 : x32_3 < (l0.length : Int) := of_decide_eq_true (by first | (with_reducible assumption) | assumption)
                              obtain ⟨ad108, e108, hx108_0⟩ := Kd.at_string HR0.out x32_3 p108 q108
                              cases e108
                              replace p108 := eq_true p108
                              replace q108 := eq_true q108
                              have p109 : 0 ≤ (x7_1 : Int) := of_decide_eq_true (by first | (with_reducible assumption) | assumption)
                              have q109 : x7_1 < (l0.length : Int) := of_decide_eq_true (by first | (with_reducible assumption) | assumption)
                              obtain ⟨ad109, e109, hx109_0⟩ := Kd.at_string HR0.out x7_1 p109 q109
                              obtain rfl : ad108 = ad109 := (by injection e109)
                              replace p109 := eq_true p109
                              replace q109 := eq_true q109
                              go_wp2
                              repeat (go_quiet (fail); try go_wp2)
                              go_ret
                              exact ⟨by first | rfl | (simp; done) | (simp [*]; done), by repeat (first | exact Drawn0.refl _ | apply Drawn0.step)⟩
                            · rw [if_neg c15] at H
                              have c15b0 : ((rdOf ByteArray.empty l0 x32_3).toList == (rdOf ByteArray.empty l0 x7_1).toList) = false := beq_eq_false_iff_ne.mpr c15
                              have c15b1 : ((rdOf ByteArray.empty l0 x32_3).toList != (rdOf ByteArray.empty l0 x7_1).toList) = true := bne_iff_ne.mpr c15
                              have H' := Aside0.mk H
                              clear H
                              have p108 : 0 ≤ (x32_3 : Int) := of_decide_eq_true (by first | (with_reducible assumption) | assumption)
                              have q108 : x32_3 < (l0.length : Int) := of_decide_eq_true (by first | (with_reducible assumption) | assumption)
                              obtain ⟨ad108, e108, hx108_0⟩ := Kd.at_string HR0.out x32_3 p108 q108
                              cases e108
                              replace p108 := eq_true p108
                              replace q108 := eq_true q108
                              have p109 : 0 ≤ (x7_1 : Int) := of_decide_eq_true (by first | (with_reducible assumption) | assumption)
                              have q109 : x7_1 < (l0.length : Int) := of_decide_eq_true (by first | (with_reducible assumption) | assumption)
                              obtain ⟨ad109, e109, hx109_0⟩ := Kd.at_string HR0.out x7_1 p109 q109
                              obtain rfl : ad108 = ad109 := (by injection e109)
                              replace p109 := eq_true p109
                              replace q109 := eq_true q109
                              go_wp2
                              repeat (go_quiet (fail); try go_wp2)
                              go_roundg k3
                              case measure => have := HK1.out; have := HJ2.out; have := HK3.out; omega
                              case rel => exact ⟨(wrap64 (x32_3 + 1)), (by first | rfl | (simp; done) | (simp [*]; done)), H', ⟨by have := HK1.out; have := HJ2.out; have := HK3.out; omega⟩, by repeat (first | exact Drawn0.refl _ | apply Drawn0.step)⟩
                          · rw [if_neg c14] at H
                            exact absurd H (by simp)
                        · rw [if_neg c13] at H
                          exact absurd H (by simp)
                      · rw [if_neg c12] at H
                        exact absurd H (by simp)
                    · rw [if_neg c11] at H
                      exact absurd H (by simp)
                  · rw [if_neg c10] at H
                    have c10b0 : decide (x32_3 < x7_1) = false := decide_eq_false c10
                    clear c10
                    have H' := Aside0.mk H
                    clear H
                    go_wp2
                    repeat (go_quiet (fail); try go_wp2)
                    go_roundg k3
                    case measure => have := HK1.out; have := HJ2.out; have := HK3.out; omega
                    case rel => exact ⟨(wrap64 (x7_1 + 1)), (by first | rfl | (simp; done) | (simp [*]; done)), H', ⟨by have := HK1.out; have := HJ2.out; have := HK3.out; omega⟩, by repeat (first | exact Drawn0.refl _ | apply Drawn0.step)⟩
      · rw [if_neg c2] at H
        have c2b0 : decide (x7_1 < (l0.length : Int)) = false := decide_eq_false c2
        clear c2
        obtain rfl := Option.some.inj H
        go_wp2
        repeat (go_quiet (fail); try go_wp2)
        go_ret
        exact ⟨by first | rfl | (simp; done) | (simp [*]; done), by repeat (first | exact Drawn0.refl _ | apply Drawn0.step)⟩
end Go.Proofs.YthbdaoapjnofkaaDoor.PFnCompletedBy
