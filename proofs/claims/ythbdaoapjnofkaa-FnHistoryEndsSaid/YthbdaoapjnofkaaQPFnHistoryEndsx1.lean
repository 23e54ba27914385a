/- Printed by a program of this seat (xprint) out of the translation: Go functions as plain functions, and the walks that show them; no condition. -/
import Derived.Test.YthbdaoapjnofkaaQPFnHistoryEndsx0
import Derived.Test.YthbdaoapjnofkaaQHTnFnHistoryEnds
namespace Go.Proofs.Ythbdaoapjnofkaa.PFnHistoryEnds
open Go.RowKit Go.Proofs.Ythbdaoapjnofkaa.H Go.Proofs.Ythbdaoapjnofkaa.R Go.Proofs.YthbdaoapjnofkaaW.PrintWords Go.Proofs.YthbdaoapjnofkaaW.PrintLast Go.Proofs.YthbdaoapjnofkaaW.PrintMore
attribute [local go_sem] max2_int min2_int max_two min_two max_three min_three max_four min_four   -- for this text's walks alone
set_option linter.unusedVariables false
set_option linter.unusedSimpArgs false
/-! ### laws_zzFits1: function 7 -/
def laws_zzFits1.l0 : Nat → List ByteArray → Int → Int → Option (Bool)
  | 0, _, _, _ => none
  | k + 1, x8, x9, x10 => if x10 < x9 then (if 0 ≤ x10 then (if x10 < (x8.length : Int) then (if ((rdOf ByteArray.empty x8 x10).size : Int) > 2147483647 then (some false) else (laws_zzFits1.l0 k x8 x9 (wrap64 (x10 + 1)))) else (none)) else (none)) else (some true)
def laws_zzFits1.f (k : Nat) (l0 : List ByteArray) : Option (Bool) := if (l0.length : Int) > 2147483647 then (some false) else (laws_zzFits1.l0 k l0 (l0.length : Int) 0)
theorem laws_zzFits1.mono_l : ∀ k, (∀ y0 y1 y2, LeO (laws_zzFits1.l0 k y0 y1 y2) (laws_zzFits1.l0 (k + 1) y0 y1 y2))
  | 0 => fun _ _ _ r h => by simp [laws_zzFits1.l0] at h
  | k + 1 => by
    have ih0 := laws_zzFits1.mono_l k
    · intro y0 y1 y2
      unfold laws_zzFits1.l0
      repeat' first
      | (with_reducible exact ih0 _ _ _)
      | (with_reducible exact LeO.refl _)
      | (with_reducible exact LeO.none _)
      | (with_reducible refine LeO.ite ?_ ?_)
      | (with_reducible refine LeO.bind ?_ (fun _ => ?_))
      | exact ih0 _ _ _
      | exact LeO.none _
      | refine LeO.ite ?_ ?_
      | refine LeO.bind ?_ (fun _ => ?_)
theorem laws_zzFits1.mono : ∀ a0 k, LeO (laws_zzFits1.f k a0) (laws_zzFits1.f (k + 1) a0) := by
  intro a0 k
  have ih0 := laws_zzFits1.mono_l k
  unfold laws_zzFits1.f
  repeat' first
      | (with_reducible exact ih0 _ _ _)
      | (with_reducible exact LeO.refl _)
      | (with_reducible exact LeO.none _)
      | (with_reducible refine LeO.ite ?_ ?_)
      | (with_reducible refine LeO.bind ?_ (fun _ => ?_))
      | exact ih0 _ _ _
      | exact LeO.none _
      | refine LeO.ite ?_ ?_
      | refine LeO.bind ?_ (fun _ => ?_)
set_option maxHeartbeats 8000000 in
set_option maxRecDepth 100000 in
theorem laws_zzFits1.calls (k : Nat) (A0 : Option Addr) (c0 : Nat) (l0 : List ByteArray) (r : Bool) (w : World) (hr0 : Kd.C Kd.string w A0 l0.length l0) (hc0 : l0.length ≤ c0) (h : laws_zzFits1.f k l0 = some r) :
    Calls Try.prog 7 #[.slice A0 l0.length c0] w fun e w' => e = .returned (.bool r) ∧ Drawn0 w w' := by
  have HR0 := Aside0.mk hr0
  have HC0 := Aside0.mk hc0
  clear hr0 hc0
  have H : (if (l0.length : Int) > 2147483647 then (some false) else (laws_zzFits1.l0 k l0 (l0.length : Int) 0)) = some r := h
  clear h
  by_cases c2 : (l0.length : Int) > 2147483647
  · rw [if_pos c2] at H
    have c2b0 : decide (2147483647 < (l0.length : Int)) = true := decide_eq_true c2
    have c2b1 : decide (2147483647 < l0.length) = true := decide_eq_true (by omega)
    clear c2
    obtain rfl := Option.some.inj H
    go_enter Try.func7, Try.ntmps7
    go_wp2
    go_ret
    exact ⟨by first | rfl | (simp; done) | (simp [*]; done), by repeat (first | exact Drawn0.refl _ | apply Drawn0.step)⟩
  · rw [if_neg c2] at H
    have c2b0 : decide (2147483647 < (l0.length : Int)) = false := decide_eq_false c2
    have c2b1 : decide (2147483647 < l0.length) = false := decide_eq_false (by omega)
    clear c2
    have H' := Aside0.mk H
    clear H
    go_enter Try.func7, Try.ntmps7
    go_wp2
    go_loopg [10] k (fun kq v10 w' => ∃ (x10_1 : Int), v10 = .int .i64 x10_1 ∧ Aside0 (laws_zzFits1.l0 kq l0 (l0.length : Int) x10_1 = some r) ∧ Aside0 (kq ≤ k) ∧ Drawn0 w w')
    case atStart => exact ⟨(0), (by first | rfl | (simp; done) | (simp [*]; done)), H', ⟨Nat.le_refl _⟩, by repeat (first | exact Drawn0.refl _ | apply Drawn0.step)⟩
    case round =>
      clear H'
      try clear c2
      try clear c2b0
      try clear c2b1
      try clear p2
      obtain ⟨x10_1, rfl, HA, HK1, ⟨m1, rfl⟩⟩ := hrel
      cases gk with
      | zero => exact absurd HA.out (by simp [laws_zzFits1.l0])
      | succ k1 =>
        have H := HA.out
        clear HA
        simp only [laws_zzFits1.l0] at H
        by_cases c3 : x10_1 < (l0.length : Int)
        · rw [if_pos c3] at H
          have c3b0 : decide (x10_1 < (l0.length : Int)) = true := decide_eq_true c3
          clear c3
          by_cases c4 : 0 ≤ x10_1
          · rw [if_pos c4] at H
            have c4b0 : decide (0 ≤ x10_1) = true := decide_eq_true c4
            clear c4
            by_cases c5 : x10_1 < (l0.length : Int)
            · rw [if_pos c5] at H
              have c5b0 : decide (x10_1 < (l0.length : Int)) = true := decide_eq_true c5
              clear c5
              by_cases c6 : ((rdOf ByteArray.empty l0 x10_1).size : Int) > 2147483647
              · rw [if_pos c6] at H
                have c6b0 : decide (2147483647 < ((rdOf ByteArray.empty l0 x10_1).size : Int)) = true := decide_eq_true c6
                have c6b1 : decide (2147483647 < (rdOf ByteArray.empty l0 x10_1).size) = true := decide_eq_true (by omega)
                clear c6
                obtain rfl := Option.some.inj H
                have p101 : 0 ≤ (x10_1 : Int) := of_decide_eq_true (by first | (with_reducible assumption) | assumption)
                have q101 : x10_1 < (l0.length : Int) := of_decide_eq_true (by first | (with_reducible assumption) | assumption)
                obtain ⟨ad101, e101, hx101_0⟩ := Kd.at_string HR0.out x10_1 p101 q101
                cases e101
                replace p101 := eq_true p101
                replace q101 := eq_true q101
                go_wp2
                go_ret
                exact ⟨by first | rfl | (simp; done) | (simp [*]; done), by repeat (first | exact Drawn0.refl _ | apply Drawn0.step)⟩
              · rw [if_neg c6] at H
                have c6b0 : decide (2147483647 < ((rdOf ByteArray.empty l0 x10_1).size : Int)) = false := decide_eq_false c6
                have c6b1 : decide (2147483647 < (rdOf ByteArray.empty l0 x10_1).size) = false := decide_eq_false (by omega)
                clear c6
                have H' := Aside0.mk H
                clear H
                have p101 : 0 ≤ (x10_1 : Int) := of_decide_eq_true (by first | (with_reducible assumption) | assumption)
                have q101 : x10_1 < (l0.length : Int) := of_decide_eq_true (by first | (with_reducible assumption) | assumption)
                obtain ⟨ad101, e101, hx101_0⟩ := Kd.at_string HR0.out x10_1 p101 q101
                cases e101
                replace p101 := eq_true p101
                replace q101 := eq_true q101
                go_wp2
                go_roundg k1
                case measure => have := HK1.out; omega
                case rel => exact ⟨(wrap64 (x10_1 + 1)), (by first | rfl | (simp; done) | (simp [*]; done)), H', ⟨by have := HK1.out; omega⟩, by repeat (first | exact Drawn0.refl _ | apply Drawn0.step)⟩
            · rw [if_neg c5] at H
              exact absurd H (by simp)
          · rw [if_neg c4] at H
            exact absurd H (by simp)
        · rw [if_neg c3] at H
          have c3b0 : decide (x10_1 < (l0.length : Int)) = false := decide_eq_false c3
          clear c3
          obtain rfl := Option.some.inj H
          go_wp2
          go_ret
          exact ⟨by first | rfl | (simp; done) | (simp [*]; done), by repeat (first | exact Drawn0.refl _ | apply Drawn0.step)⟩
/-! ### spec_ASCII: function 8 -/
def spec_ASCII.l0 : Nat → ByteArray → Int → Option (Bool)
  | 0, _, _ => none
  | k + 1, x0, x3 => if x3 < (x0.size : Int) then (if 0 ≤ x3 then (if (bt x0 x3) ≥ 128 then (some false) else (spec_ASCII.l0 k x0 (wrap64 (x3 + 1)))) else (none)) else (some (decide ((x0.size : Int) ≤ 1000)))
def spec_ASCII.f (k : Nat) (a0 : ByteArray) : Option (Bool) := spec_ASCII.l0 k a0 0
theorem spec_ASCII.mono_l : ∀ k, (∀ y0 y1, LeO (spec_ASCII.l0 k y0 y1) (spec_ASCII.l0 (k + 1) y0 y1))
  | 0 => fun _ _ r h => by simp [spec_ASCII.l0] at h
  | k + 1 => by
    have ih0 := spec_ASCII.mono_l k
    · intro y0 y1
      unfold spec_ASCII.l0
      repeat' first
      | (with_reducible exact ih0 _ _)
      | (with_reducible exact LeO.refl _)
      | (with_reducible exact LeO.none _)
      | (with_reducible refine LeO.ite ?_ ?_)
      | (with_reducible refine LeO.bind ?_ (fun _ => ?_))
      | exact ih0 _ _
      | exact LeO.none _
      | refine LeO.ite ?_ ?_
      | refine LeO.bind ?_ (fun _ => ?_)
theorem spec_ASCII.mono : ∀ a0 k, LeO (spec_ASCII.f k a0) (spec_ASCII.f (k + 1) a0) := by
  intro a0 k
  have ih0 := spec_ASCII.mono_l k
  unfold spec_ASCII.f
  repeat' first
      | (with_reducible exact ih0 _ _)
      | (with_reducible exact LeO.refl _)
      | (with_reducible exact LeO.none _)
      | (with_reducible refine LeO.ite ?_ ?_)
      | (with_reducible refine LeO.bind ?_ (fun _ => ?_))
      | exact ih0 _ _
      | exact LeO.none _
      | refine LeO.ite ?_ ?_
      | refine LeO.bind ?_ (fun _ => ?_)
set_option maxHeartbeats 8000000 in
set_option maxRecDepth 100000 in
theorem spec_ASCII.calls (k : Nat) (a0 : ByteArray) (r : Bool) (w : World) (h : spec_ASCII.f k a0 = some r) :
    Calls Try.prog 8 #[.string a0] w fun e w' => e = .returned (.bool r) ∧ Drawn0 w w' := by
  have H : (spec_ASCII.l0 k a0 0) = some r := h
  clear h
  have H' := Aside0.mk H
  clear H
  go_enter Try.func8, Try.ntmps8
  go_wp2
  go_loopg [3] k (fun kq v3 w' => ∃ (x3_1 : Int), v3 = .int .i64 x3_1 ∧ Aside0 (spec_ASCII.l0 kq a0 x3_1 = some r) ∧ Aside0 (kq ≤ k) ∧ Drawn0 w w')
  case atStart => exact ⟨(0), (by first | rfl | (simp; done) | (simp [*]; done)), H', ⟨Nat.le_refl _⟩, by repeat (first | exact Drawn0.refl _ | apply Drawn0.step)⟩
  case round =>
    clear H'
    obtain ⟨x3_1, rfl, HA, HK1, ⟨m1, rfl⟩⟩ := hrel
    cases gk with
    | zero => exact absurd HA.out (by simp [spec_ASCII.l0])
    | succ k1 =>
      have H := HA.out
      clear HA
      simp only [spec_ASCII.l0] at H
      by_cases c2 : x3_1 < (a0.size : Int)
      · rw [if_pos c2] at H
        have c2b0 : decide (x3_1 < (a0.size : Int)) = true := decide_eq_true c2
        clear c2
        by_cases c3 : 0 ≤ x3_1
        · rw [if_pos c3] at H
          have c3b0 : decide (0 ≤ x3_1) = true := decide_eq_true c3
          clear c3
          by_cases c5 : (bt a0 x3_1) ≥ 128
          · rw [if_pos c5] at H
            have c5b0 : decide (128 ≤ (bt a0 x3_1)) = true := decide_eq_true c5
            clear c5
            obtain rfl := Option.some.inj H
            have p4 : 0 ≤ (x3_1 : Int) := of_decide_eq_true (by first | (with_reducible assumption) | assumption)
            have q4 : x3_1 < (a0.size : Int) := of_decide_eq_true (by first | (with_reducible assumption) | assumption)
            have hx4 := bt_at a0 x3_1
            replace p4 := eq_true p4
            replace q4 := eq_true q4
            go_wp2
            go_ret
            exact ⟨by first | rfl | (simp; done) | (simp [*]; done), by repeat (first | exact Drawn0.refl _ | apply Drawn0.step)⟩
          · rw [if_neg c5] at H
            have c5b0 : decide (128 ≤ (bt a0 x3_1)) = false := decide_eq_false c5
            clear c5
            have H' := Aside0.mk H
            clear H
            have p4 : 0 ≤ (x3_1 : Int) := of_decide_eq_true (by first | (with_reducible assumption) | assumption)
            have q4 : x3_1 < (a0.size : Int) := of_decide_eq_true (by first | (with_reducible assumption) | assumption)
            have hx4 := bt_at a0 x3_1
            replace p4 := eq_true p4
            replace q4 := eq_true q4
            go_wp2
            go_roundg k1
            case measure => have := HK1.out; omega
            case rel => exact ⟨(wrap64 (x3_1 + 1)), (by first | rfl | (simp; done) | (simp [*]; done)), H', ⟨by have := HK1.out; omega⟩, by repeat (first | exact Drawn0.refl _ | apply Drawn0.step)⟩
        · rw [if_neg c3] at H
          exact absurd H (by simp)
      · rw [if_neg c2] at H
        have c2b0 : decide (x3_1 < (a0.size : Int)) = false := decide_eq_false c2
        clear c2
        obtain rfl := Option.some.inj H
        go_wp2
        go_ret
        exact ⟨by first | rfl | (simp; done) | (simp [*]; done), by repeat (first | exact Drawn0.refl _ | apply Drawn0.step)⟩
/-! ### laws_FnHistoryEnds: function 3 -/
mutual
def laws_FnHistoryEnds.j0 : Nat → List ByteArray → ByteArray → Bool → Option (Bool)
  | 0, _, _, _ => none
  | k + 1, x0, x1, x18 => if x18 = true then (some true) else (if (x0.length : Int) > 8 then (laws_FnHistoryEnds.j1 k x0 x1 true) else ((spec_ASCII.f k x1).bind fun t103 => (laws_FnHistoryEnds.j1 k x0 x1 (!t103))))
def laws_FnHistoryEnds.j1 : Nat → List ByteArray → ByteArray → Bool → Option (Bool)
  | 0, _, _, _ => none
  | k + 1, x0, x1, x26 => if x26 = true then (some true) else (laws_FnHistoryEnds.l0 k x0 x1 ([] : List (S27)) 0)
def laws_FnHistoryEnds.l0 : Nat → List ByteArray → ByteArray → List (S27) → Int → Option (Bool)
  | 0, _, _, _, _ => none
  | k + 1, x0, x1, x5, x6 => if x6 < (x0.length : Int) then (if 0 ≤ x6 then ((spec_ASCII.f k (rdOf ByteArray.empty x0 x6)).bind fun t105 => (if t105 = true then (if x5.length < 5864062014805 then (laws_FnHistoryEnds.l0 k x0 x1 (x5 ++ [(⟨1, rdOf ByteArray.empty x0 x6⟩ : S27)]) (wrap64 (x6 + 1))) else (none)) else (some true))) else (none)) else ((some (([(⟨4, (⟨#[]⟩ : ByteArray)⟩ : S27), (⟨3, x1⟩ : S27)] : List (S27)) : List (S27))).bind fun y110 => (if x5.length + y110.length < 5864062014805 then (laws_FnHistoryEnds.l1 k x0 x1 (x5 ++ y110) 0) else (none)))
def laws_FnHistoryEnds.l1 : Nat → List ByteArray → ByteArray → List (S27) → Int → Option (Bool)
  | 0, _, _, _, _ => none
  | k + 1, x0, x1, x5, x7 => if x7 ≤ (x0.length : Int) then (if x5.length < 5864062014805 then (laws_FnHistoryEnds.l1 k x0 x1 (x5 ++ [(⟨2, x1⟩ : S27)]) (wrap64 (x7 + 1))) else (none)) else ((impl_Turned.f x5).bind fun bt119 => (if (bt119.1.length : Int) = (x5.length : Int) then (if (bt119.2.length : Int) = (x5.length : Int) then (if 0 ≤ (wrap64 ((x0.length : Int) + 1)) then (if (wrap64 ((x0.length : Int) + 1)) < (bt119.1.length : Int) then (if (rdOf ByteArray.empty bt119.1 (wrap64 ((x0.length : Int) + 1))).toList = x1.toList then (if (wrap64 ((x0.length : Int) + 1)) < (bt119.2.length : Int) then (if (rdOf false bt119.2 (wrap64 ((x0.length : Int) + 1)) = true) then (some false) else (if 0 ≤ (wrap64 ((x5.length : Int) - 1)) then (if (wrap64 ((x5.length : Int) - 1)) < (bt119.1.length : Int) then (if (rdOf ByteArray.empty bt119.1 (wrap64 ((x5.length : Int) - 1))).toList = x1.toList then (if (wrap64 ((x5.length : Int) - 1)) < (bt119.2.length : Int) then (some (!(rdOf false bt119.2 (wrap64 ((x5.length : Int) - 1))))) else (none)) else (some false)) else (none)) else (none))) else (none)) else (some false)) else (none)) else (none)) else (some false)) else (some false)))
end
def laws_FnHistoryEnds.f (k : Nat) (l0 : List ByteArray) (a1 : ByteArray) : Option (Bool) := (laws_zzFits1.f k l0).bind fun t102 => (if t102 = true then (laws_FnHistoryEnds.j0 k l0 a1 (decide ((a1.size : Int) > 2147483647))) else (laws_FnHistoryEnds.j0 k l0 a1 true))
theorem laws_FnHistoryEnds.mono_l : ∀ k, (∀ y0 y1 y2, LeO (laws_FnHistoryEnds.j0 k y0 y1 y2) (laws_FnHistoryEnds.j0 (k + 1) y0 y1 y2)) ∧ (∀ y0 y1 y2, LeO (laws_FnHistoryEnds.j1 k y0 y1 y2) (laws_FnHistoryEnds.j1 (k + 1) y0 y1 y2)) ∧ (∀ y0 y1 y2 y3, LeO (laws_FnHistoryEnds.l0 k y0 y1 y2 y3) (laws_FnHistoryEnds.l0 (k + 1) y0 y1 y2 y3)) ∧ (∀ y0 y1 y2 y3, LeO (laws_FnHistoryEnds.l1 k y0 y1 y2 y3) (laws_FnHistoryEnds.l1 (k + 1) y0 y1 y2 y3))
  | 0 => ⟨fun _ _ _ r h => by simp [laws_FnHistoryEnds.j0] at h, fun _ _ _ r h => by simp [laws_FnHistoryEnds.j1] at h, fun _ _ _ _ r h => by simp [laws_FnHistoryEnds.l0] at h, fun _ _ _ _ r h => by simp [laws_FnHistoryEnds.l1] at h⟩
  | k + 1 => by
    obtain ⟨ih0, ih1, ih2, ih3⟩ := laws_FnHistoryEnds.mono_l k
    refine ⟨?_, ?_, ?_, ?_⟩
    · intro y0 y1 y2
      unfold laws_FnHistoryEnds.j0
      repeat' first
      | (with_reducible exact ih0 _ _ _)
      | (with_reducible exact ih1 _ _ _)
      | (with_reducible exact ih2 _ _ _ _)
      | (with_reducible exact ih3 _ _ _ _)
      | (with_reducible exact laws_zzFits1.mono _ _)
      | (with_reducible exact spec_ASCII.mono _ _)
      | (with_reducible exact LeO.refl _)
      | (with_reducible exact LeO.none _)
      | (with_reducible refine LeO.ite ?_ ?_)
      | (with_reducible refine LeO.bind ?_ (fun _ => ?_))
      | exact ih0 _ _ _
      | exact ih1 _ _ _
      | exact ih2 _ _ _ _
      | exact ih3 _ _ _ _
      | exact laws_zzFits1.mono _ _
      | exact spec_ASCII.mono _ _
      | exact LeO.none _
      | refine LeO.ite ?_ ?_
      | refine LeO.bind ?_ (fun _ => ?_)
    · intro y0 y1 y2
      unfold laws_FnHistoryEnds.j1
      repeat' first
      | (with_reducible exact ih0 _ _ _)
      | (with_reducible exact ih1 _ _ _)
      | (with_reducible exact ih2 _ _ _ _)
      | (with_reducible exact ih3 _ _ _ _)
      | (with_reducible exact laws_zzFits1.mono _ _)
      | (with_reducible exact spec_ASCII.mono _ _)
      | (with_reducible exact LeO.refl _)
      | (with_reducible exact LeO.none _)
      | (with_reducible refine LeO.ite ?_ ?_)
      | (with_reducible refine LeO.bind ?_ (fun _ => ?_))
      | exact ih0 _ _ _
      | exact ih1 _ _ _
      | exact ih2 _ _ _ _
      | exact ih3 _ _ _ _
      | exact laws_zzFits1.mono _ _
      | exact spec_ASCII.mono _ _
      | exact LeO.none _
      | refine LeO.ite ?_ ?_
      | refine LeO.bind ?_ (fun _ => ?_)
    · intro y0 y1 y2 y3
      unfold laws_FnHistoryEnds.l0
      repeat' first
      | (with_reducible exact ih0 _ _ _)
      | (with_reducible exact ih1 _ _ _)
      | (with_reducible exact ih2 _ _ _ _)
      | (with_reducible exact ih3 _ _ _ _)
      | (with_reducible exact laws_zzFits1.mono _ _)
      | (with_reducible exact spec_ASCII.mono _ _)
      | (with_reducible exact LeO.refl _)
      | (with_reducible exact LeO.none _)
      | (with_reducible refine LeO.ite ?_ ?_)
      | (with_reducible refine LeO.bind ?_ (fun _ => ?_))
      | exact ih0 _ _ _
      | exact ih1 _ _ _
      | exact ih2 _ _ _ _
      | exact ih3 _ _ _ _
      | exact laws_zzFits1.mono _ _
      | exact spec_ASCII.mono _ _
      | exact LeO.none _
      | refine LeO.ite ?_ ?_
      | refine LeO.bind ?_ (fun _ => ?_)
    · intro y0 y1 y2 y3
      unfold laws_FnHistoryEnds.l1
      repeat' first
      | (with_reducible exact ih0 _ _ _)
      | (with_reducible exact ih1 _ _ _)
      | (with_reducible exact ih2 _ _ _ _)
      | (with_reducible exact ih3 _ _ _ _)
      | (with_reducible exact laws_zzFits1.mono _ _)
      | (with_reducible exact spec_ASCII.mono _ _)
      | (with_reducible exact LeO.refl _)
      | (with_reducible exact LeO.none _)
      | (with_reducible refine LeO.ite ?_ ?_)
      | (with_reducible refine LeO.bind ?_ (fun _ => ?_))
      | exact ih0 _ _ _
      | exact ih1 _ _ _
      | exact ih2 _ _ _ _
      | exact ih3 _ _ _ _
      | exact laws_zzFits1.mono _ _
      | exact spec_ASCII.mono _ _
      | exact LeO.none _
      | refine LeO.ite ?_ ?_
      | refine LeO.bind ?_ (fun _ => ?_)
theorem laws_FnHistoryEnds.mono : ∀ a0 a1 k, LeO (laws_FnHistoryEnds.f k a0 a1) (laws_FnHistoryEnds.f (k + 1) a0 a1) := by
  intro a0 a1 k
  obtain ⟨ih0, ih1, ih2, ih3⟩ := laws_FnHistoryEnds.mono_l k
  unfold laws_FnHistoryEnds.f
  repeat' first
      | (with_reducible exact ih0 _ _ _)
      | (with_reducible exact ih1 _ _ _)
      | (with_reducible exact ih2 _ _ _ _)
      | (with_reducible exact ih3 _ _ _ _)
      | (with_reducible exact laws_zzFits1.mono _ _)
      | (with_reducible exact spec_ASCII.mono _ _)
      | (with_reducible exact LeO.refl _)
      | (with_reducible exact LeO.none _)
      | (with_reducible refine LeO.ite ?_ ?_)
      | (with_reducible refine LeO.bind ?_ (fun _ => ?_))
      | exact ih0 _ _ _
      | exact ih1 _ _ _
      | exact ih2 _ _ _ _
      | exact ih3 _ _ _ _
      | exact laws_zzFits1.mono _ _
      | exact spec_ASCII.mono _ _
      | exact LeO.none _
      | refine LeO.ite ?_ ?_
      | refine LeO.bind ?_ (fun _ => ?_)
set_option maxHeartbeats 8000000 in
set_option maxRecDepth 100000 in
theorem laws_FnHistoryEnds.calls (k : Nat) (A0 : Option Addr) (c0 : Nat) (l0 : List ByteArray) (a1 : ByteArray) (r : Bool) (w : World) (hr0 : Kd.C Kd.string w A0 l0.length l0) (hc0 : l0.length ≤ c0) (h : laws_FnHistoryEnds.f k l0 a1 = some r) :
    Calls Try.prog 3 #[.slice A0 l0.length c0, .string a1] w fun e w' => e = .returned (.bool r) ∧ Below w.heap.size w w' := by
  have hu27 := Try.underlying27
  have HR0 := Aside0.mk hr0
  have HC0 := Aside0.mk hc0
  clear hr0 hc0
  have HB := Aside0.mk (Below.refl w.heap.size w)
  have H : ((laws_zzFits1.f k l0).bind fun t102 => (if t102 = true then (laws_FnHistoryEnds.j0 k l0 a1 (decide ((a1.size : Int) > 2147483647))) else (laws_FnHistoryEnds.j0 k l0 a1 true))) = some r := h
  clear h
  have HC3 := Aside0.mk H
  clear H
  go_enter Try.func3, Try.ntmps3
  go_upto_region 1 with (fail)
  go_cut [18] (fun v18 wc => ∃ (kq : Nat) (x18_2 : Bool), v18 = .bool x18_2 ∧ Aside0 (laws_FnHistoryEnds.j0 kq l0 a1 x18_2 = some r) ∧ Aside0 (kq ≤ k) ∧ Aside0 (Below w.heap.size w wc))
  case first =>
    have H := HC3.out
    clear HC3
    replace H := Option.bind_eq_some_iff.mp H
    obtain ⟨t102, A40, H⟩ := H
    replace H : (if t102 = true then (laws_FnHistoryEnds.j0 k l0 a1 (decide ((a1.size : Int) > 2147483647))) else (laws_FnHistoryEnds.j0 k l0 a1 true)) = some r := H
    have A4 := Aside0.mk A40
    clear A40
    by_cases c5 : t102 = true
    · subst c5
      have H1 : (laws_FnHistoryEnds.j0 k l0 a1 (decide ((a1.size : Int) > 2147483647))) = some r := by rw [if_pos rfl] at H; exact H
      clear H
      have H := H1
      clear H1
      have H' := Aside0.mk H
      clear H
      go_wp2_with (first | ((with_reducible refine gate_callee (f := 7) rfl ?_); refine goesL_ (some 12) rfl rfl Try.func7 (by kernel_rfl) rfl #[.slice A0 l0.length c0] rfl (by (try simp only [List.map_toArray, List.map_cons, List.map_nil]); first | done | rfl | (simp only [List.length_drop, List.length_take]; rfl) | (simp only [Int.toNat_natCast, ByteArray.extract_zero_size]; rfl)) ?_; (with_reducible refine (laws_zzFits1.calls k _ _ l0 true _ ?side1 ?side2 A4.out).mono ?_); (case side1 => repeat (first | exact (Kd.C_below HR0.out HB.out) | (with_reducible refine Kd.C_alloc ?_ _) | (with_reducible refine Kd.C_drewN ?_ _) | (with_reducible refine Kd.C_drew ?_))); (case side2 => exact HC0.out); rintro e w' ⟨rfl, ⟨nd, rfl⟩⟩; refine ⟨_, rfl, ?_⟩))
      go_meet
      case rel => exact ⟨_, (decide ((a1.size : Int) > 2147483647)), (by first | rfl | (simp; done) | (simp [*]; done)), H', ⟨by first | omega | exact Nat.le_refl _⟩, ⟨by repeat (first | (with_reducible first | exact HB.out | apply below_alloc | apply pw_below_drewN | apply below_drew1) | exact HB.out)⟩⟩
    · replace c5 := Bool.eq_false_iff.mpr c5
      subst c5
      have H1 : (laws_FnHistoryEnds.j0 k l0 a1 true) = some r := by rw [if_neg (show ¬ (false = true) by decide)] at H; exact H
      clear H
      have H := H1
      clear H1
      have H' := Aside0.mk H
      clear H
      go_wp2_with (first | ((with_reducible refine gate_callee (f := 7) rfl ?_); refine goesL_ (some 12) rfl rfl Try.func7 (by kernel_rfl) rfl #[.slice A0 l0.length c0] rfl (by (try simp only [List.map_toArray, List.map_cons, List.map_nil]); first | done | rfl | (simp only [List.length_drop, List.length_take]; rfl) | (simp only [Int.toNat_natCast, ByteArray.extract_zero_size]; rfl)) ?_; (with_reducible refine (laws_zzFits1.calls k _ _ l0 false _ ?side1 ?side2 A4.out).mono ?_); (case side1 => repeat (first | exact (Kd.C_below HR0.out HB.out) | (with_reducible refine Kd.C_alloc ?_ _) | (with_reducible refine Kd.C_drewN ?_ _) | (with_reducible refine Kd.C_drew ?_))); (case side2 => exact HC0.out); rintro e w' ⟨rfl, ⟨nd, rfl⟩⟩; refine ⟨_, rfl, ?_⟩))
      go_meet
      case rel => exact ⟨_, (true), (by first | rfl | (simp; done) | (simp [*]; done)), H', ⟨by first | omega | exact Nat.le_refl _⟩, ⟨by repeat (first | (with_reducible first | exact HB.out | apply below_alloc | apply pw_below_drewN | apply below_drew1) | exact HB.out)⟩⟩
  case rest =>
    clear HC3
    try clear p2
    try clear c3
    try clear c5
    obtain ⟨kq, x18_2, rfl, HA, HJ2, HB⟩ := hcut
    cases kq with
    | zero => exact absurd HA.out (by simp [laws_FnHistoryEnds.j0])
    | succ kj2 =>
      have H := HA.out
      clear HA
      simp only [laws_FnHistoryEnds.j0] at H
      by_cases c6 : x18_2 = true
      · subst c6
        have H1 : (some true) = some r := by rw [if_pos rfl] at H; exact H
        clear H
        have H := H1
        clear H1
        obtain rfl := Option.some.inj H
        go_wp2
        go_ret
        exact ⟨by first | rfl | (simp [errW_none, errW_some] <;> rfl) | (simp [*, errW_none, errW_some] <;> rfl), by repeat (first | (with_reducible first | exact HB.out | apply below_alloc | apply pw_below_drewN | apply below_drew1) | exact HB.out)⟩
      · replace c6 := Bool.eq_false_iff.mpr c6
        subst c6
        have H1 : (if (l0.length : Int) > 8 then (laws_FnHistoryEnds.j1 kj2 l0 a1 true) else ((spec_ASCII.f kj2 a1).bind fun t103 => (laws_FnHistoryEnds.j1 kj2 l0 a1 (!t103)))) = some r := by rw [if_neg (show ¬ (false = true) by decide)] at H; exact H
        clear H
        have H := H1
        clear H1
        have HC7 := Aside0.mk H
        clear H
        go_upto_region 3 with (fail)
        go_cut [26] (fun v26 wc => ∃ (kq : Nat) (x26_6 : Bool), v26 = .bool x26_6 ∧ Aside0 (laws_FnHistoryEnds.j1 kq l0 a1 x26_6 = some r) ∧ Aside0 (kq ≤ kj2) ∧ Aside0 (Below w.heap.size w wc))
        case first =>
          have H := HC7.out
          clear HC7
          by_cases c8 : (l0.length : Int) > 8
          · rw [if_pos c8] at H
            have c8b0 : decide (8 < (l0.length : Int)) = true := decide_eq_true c8
            have c8b1 : decide (8 < l0.length) = true := decide_eq_true (by omega)
            clear c8
            (first | rw [c8b0] | (simp only [i64_w, i32_w]; rw [c8b0]) | skip)
            have H' := Aside0.mk H
            clear H
            go_wp2
            go_meet
            case rel => exact ⟨_, (true), (by first | rfl | (simp; done) | (simp [*]; done)), H', ⟨by have := HJ2.out; first | omega | exact Nat.le_refl _⟩, ⟨by repeat (first | (with_reducible first | exact HB.out | apply below_alloc | apply pw_below_drewN | apply below_drew1) | exact HB.out)⟩⟩
          · rw [if_neg c8] at H
            have c8b0 : decide (8 < (l0.length : Int)) = false := decide_eq_false c8
            have c8b1 : decide (8 < l0.length) = false := decide_eq_false (by omega)
            clear c8
            (first | rw [c8b0] | (simp only [i64_w, i32_w]; rw [c8b0]) | skip)
            replace H := Option.bind_eq_some_iff.mp H
            obtain ⟨t103, A90, H⟩ := H
            replace H : (laws_FnHistoryEnds.j1 kj2 l0 a1 (!t103)) = some r := H
            have A9 := Aside0.mk A90
            clear A90
            have H' := Aside0.mk H
            clear H
            go_wp2_with (first | (go_at_call 8; (with_reducible refine (spec_ASCII.calls kj2 a1 t103 _ A9.out).mono ?_); rintro e w' ⟨rfl, ⟨nd, rfl⟩⟩))
            go_meet
            case rel => exact ⟨_, (!t103), (by first | rfl | (simp; done) | (simp [*]; done)), H', ⟨by have := HJ2.out; first | omega | exact Nat.le_refl _⟩, ⟨by repeat (first | (with_reducible first | exact HB.out | apply below_alloc | apply pw_below_drewN | apply below_drew1) | exact HB.out)⟩⟩
        case rest =>
          clear HC7
          try clear p2
          try clear c3
          try clear c5
          try clear c6
          try clear c7
          try clear c8
          try clear c8b0
          try clear c8b1
          try clear p2
          obtain ⟨kq, x26_6, rfl, HA, HJ6, HB⟩ := hcut
          cases kq with
          | zero => exact absurd HA.out (by simp [laws_FnHistoryEnds.j1])
          | succ kj6 =>
            have H := HA.out
            clear HA
            simp only [laws_FnHistoryEnds.j1] at H
            by_cases c10 : x26_6 = true
            · subst c10
              have H1 : (some true) = some r := by rw [if_pos rfl] at H; exact H
              clear H
              have H := H1
              clear H1
              obtain rfl := Option.some.inj H
              go_wp2
              go_ret
              exact ⟨by first | rfl | (simp [errW_none, errW_some] <;> rfl) | (simp [*, errW_none, errW_some] <;> rfl), by repeat (first | (with_reducible first | exact HB.out | apply below_alloc | apply pw_below_drewN | apply below_drew1) | exact HB.out)⟩
            · replace c10 := Bool.eq_false_iff.mpr c10
              subst c10
              have H1 : (laws_FnHistoryEnds.l0 kj6 l0 a1 ([] : List (S27)) 0) = some r := by rw [if_neg (show ¬ (false = true) by decide)] at H; exact H
              clear H
              have H := H1
              clear H1
              have H' := Aside0.mk H
              clear H
              go_wp2
              go_loopg [5, 6] kj6 (fun kq v5 v6 w' => ∃ (x5_3 : List (S27)) (x6_3 : Int), v6 = .int .i64 x6_3 ∧ Aside0 (laws_FnHistoryEnds.l0 kq l0 a1 x5_3 x6_3 = some r) ∧ Aside0 (kq ≤ kj6) ∧ Aside0 (Kd.R k27 27 w' w.heap.size (fun _ => True) v5 x5_3) ∧ Aside0 (Below w.heap.size w w'))
              case atStart => exact ⟨(([] : List (S27))), (0), (by first | rfl | (simp; done) | (simp [*]; done)), H', ⟨Nat.le_refl _⟩, ⟨by first | exact Kd.R_nil _ _ _ _ _ | exact Kd.N_nil _ _ _ _ _ | exact Kd.V_nil _ _ _ _ _ | exact Kd.Q_nil _ _ _ _ _ | exact Kd.S_nil _ _ _ _ _⟩, ⟨by repeat (first | (with_reducible first | exact HB.out | apply below_alloc | apply pw_below_drewN | apply below_drew1) | exact HB.out)⟩⟩
              case round =>
                clear H'
                try clear c1
                try clear p2
                try clear c3
                try clear c5
                try clear c6
                try clear c7
                try clear c8
                try clear c8b0
                try clear c8b1
                try clear c10
                try clear p2
                obtain ⟨x5_3, x6_3, rfl, HA, HK3, HO_5, HB⟩ := hrel
                cases gk with
                | zero => exact absurd HA.out (by simp [laws_FnHistoryEnds.l0])
                | succ k3 =>
                  have H := HA.out
                  clear HA
                  simp only [laws_FnHistoryEnds.l0] at H
                  by_cases c11 : x6_3 < (l0.length : Int)
                  · rw [if_pos c11] at H
                    have c11b0 : decide (x6_3 < (l0.length : Int)) = true := decide_eq_true c11
                    clear c11
                    by_cases c12 : 0 ≤ x6_3
                    · rw [if_pos c12] at H
                      have c12b0 : decide (0 ≤ x6_3) = true := decide_eq_true c12
                      clear c12
                      replace H := Option.bind_eq_some_iff.mp H
                      obtain ⟨t105, A130, H⟩ := H
                      replace H : (if t105 = true then (if x5_3.length < 5864062014805 then (laws_FnHistoryEnds.l0 k3 l0 a1 (x5_3 ++ [(⟨1, rdOf ByteArray.empty l0 x6_3⟩ : S27)]) (wrap64 (x6_3 + 1))) else (none)) else (some true)) = some r := H
                      have A13 := Aside0.mk A130
                      clear A130
                      by_cases c14 : t105 = true
                      · subst c14
                        have H1 : (if x5_3.length < 5864062014805 then (laws_FnHistoryEnds.l0 k3 l0 a1 (x5_3 ++ [(⟨1, rdOf ByteArray.empty l0 x6_3⟩ : S27)]) (wrap64 (x6_3 + 1))) else (none)) = some r := by rw [if_pos rfl] at H; exact H
                        clear H
                        have H := H1
                        clear H1
                        by_cases c15 : x5_3.length < 5864062014805
                        · rw [if_pos c15] at H
                          have LMc15 := Aside0.mk c15
                          clear c15
                          obtain ⟨y107, hy107⟩ : ∃ y_ : List (S27), y_ = (x5_3 ++ [(⟨1, rdOf ByteArray.empty l0 x6_3⟩ : S27)]) := ⟨_, rfl⟩
                          replace H : (laws_FnHistoryEnds.l0 k3 l0 a1 y107 (wrap64 (x6_3 + 1))) = some r := by first | (rw [hy107]; with_reducible exact H) | (have H2_ := (Option.bind_some _ _).symm.trans H; rw [hy107]; with_reducible exact H2_) | (have H2_ := (Option.bind_some _ _).symm.trans H; with_reducible exact H2_) | with_reducible exact H | (rw [hy107]; exact H) | exact H
                          have Ny107 := Aside0.mk hy107
                          clear hy107
                          have H' := Aside0.mk H
                          clear H
                          have p104 : 0 ≤ (x6_3 : Int) := of_decide_eq_true (by first | (with_reducible assumption) | assumption)
                          have q104 : x6_3 < (l0.length : Int) := of_decide_eq_true (by first | (with_reducible assumption) | assumption)
                          obtain ⟨ad104, e104, hx104_0⟩ := Kd.at_string HR0.out x6_3 p104 q104
                          cases e104
                          replace hx104_0 := (HB.out.cell (World.block_lt_of_cell? w _ hx104_0)).trans hx104_0
                          replace p104 := eq_true p104
                          replace q104 := eq_true q104
                          go_wp2_with (first | ((with_reducible refine gate_callee (f := 8) rfl ?_); refine goesL_ (some 37) rfl rfl Try.func8 (by kernel_rfl) rfl #[.string (rdOf ByteArray.empty l0 x6_3)] rfl (by (try simp only [List.map_toArray, List.map_cons, List.map_nil]); first | done | rfl | (simp only [List.length_drop, List.length_take]; rfl) | (simp only [Int.toNat_natCast, ByteArray.extract_zero_size]; rfl)) ?_; (with_reducible refine (spec_ASCII.calls k3 (rdOf ByteArray.empty l0 x6_3) true _ A13.out).mono ?_); rintro e w' ⟨rfl, ⟨nd, rfl⟩⟩; refine ⟨_, rfl, ?_⟩; have p106 : 0 ≤ (x6_3 : Int) := of_decide_eq_true (by first | (with_reducible assumption) | assumption); have q106 : x6_3 < (l0.length : Int) := of_decide_eq_true (by first | (with_reducible assumption) | assumption); obtain ⟨ad106, e106, hx106_0⟩ := Kd.at_string HR0.out x6_3 p106 q106; obtain rfl : ad104 = ad106 := (by injection e106); replace hx106_0 := (HB.out.cell (World.block_lt_of_cell? w _ hx106_0)).trans hx106_0; replace p106 := eq_true p106; replace q106 := eq_true q106) | ((with_reducible refine gate_builtin (b := .append) (xs := #[.tmp 39, .tmp 45]) rfl ?_); (try (refine gate_guard (by rfl) ?_; dsimp only)); at_builtin; refine Kd.R_append k27 (w0 := w) w.heap.size rfl (.tmp 39) (.tmp 45) 25 27 (.agg #[(.int .i64 0), (.string ⟨#[]⟩)]) 24 rfl Try.underlying25 info27 rfl (by decide) (by omega) u5 x5_3 (⟨1, rdOf ByteArray.empty l0 x6_3⟩ : S27) [.int .i64 1, .string (rdOf ByteArray.empty l0 x6_3)] (fun _ => True) (fun _ => False) rfl rfl ?aP (fun _ hk => hk.elim) ?aF ?aO ?aB ?aS ?aL ?_; (case aP => exact k27_mkM _ _ _ (⟨1, rdOf ByteArray.empty l0 x6_3⟩ : S27)); (case aB => exact (by repeat (first | (with_reducible first | exact HB.out | apply below_alloc | apply pw_below_drewN | apply below_drew1) | exact HB.out))); (case aF => exact (fun _ _ => trivial)); (case aO => exact (by (with_reducible repeat (first | apply Kd.R_alloc | apply Kd.R_drewN | apply Kd.R_drew)); exact HO_5.out)); (case aS => exact (below_size (by repeat (first | (with_reducible first | exact HB.out | apply below_alloc | apply pw_below_drewN | apply below_drew1) | exact HB.out)))); (case aL => have := LMc15.out; omega); intro v108 w16 ho hb hg hat; rw [← Ny107.out] at ho; have n0_ := Aside0.mk (hb); have n1_ := Aside0.mk (ho); clear HB; clear HO_5; have HB := n0_; have HO109 := n1_; clear n0_ n1_; clear ho hb hg hat))
                          go_roundg k3
                          case measure => have := HJ2.out; have := HJ6.out; have := HK3.out; omega
                          case rel => exact ⟨(y107), (wrap64 (x6_3 + 1)), (by first | rfl | (simp; done) | (simp [*]; done)), H', ⟨by have := HJ2.out; have := HJ6.out; have := HK3.out; omega⟩, ⟨by (with_reducible repeat (first | apply Kd.R_alloc | apply Kd.R_drewN | apply Kd.R_drew)); exact HO109.out⟩, ⟨by repeat (first | (with_reducible first | exact HB.out | apply below_alloc | apply pw_below_drewN | apply below_drew1) | exact HB.out)⟩⟩
                        · rw [if_neg c15] at H
                          exact absurd H (by simp)
                      · replace c14 := Bool.eq_false_iff.mpr c14
                        subst c14
                        have H1 : (some true) = some r := by rw [if_neg (show ¬ (false = true) by decide)] at H; exact H
                        clear H
                        have H := H1
                        clear H1
                        obtain rfl := Option.some.inj H
                        have p104 : 0 ≤ (x6_3 : Int) := of_decide_eq_true (by first | (with_reducible assumption) | assumption)
                        have q104 : x6_3 < (l0.length : Int) := of_decide_eq_true (by first | (with_reducible assumption) | assumption)
                        obtain ⟨ad104, e104, hx104_0⟩ := Kd.at_string HR0.out x6_3 p104 q104
                        cases e104
                        replace hx104_0 := (HB.out.cell (World.block_lt_of_cell? w _ hx104_0)).trans hx104_0
                        replace p104 := eq_true p104
                        replace q104 := eq_true q104
                        go_wp2_with (first | ((with_reducible refine gate_callee (f := 8) rfl ?_); refine goesL_ (some 37) rfl rfl Try.func8 (by kernel_rfl) rfl #[.string (rdOf ByteArray.empty l0 x6_3)] rfl (by (try simp only [List.map_toArray, List.map_cons, List.map_nil]); first | done | rfl | (simp only [List.length_drop, List.length_take]; rfl) | (simp only [Int.toNat_natCast, ByteArray.extract_zero_size]; rfl)) ?_; (with_reducible refine (spec_ASCII.calls k3 (rdOf ByteArray.empty l0 x6_3) false _ A13.out).mono ?_); rintro e w' ⟨rfl, ⟨nd, rfl⟩⟩; refine ⟨_, rfl, ?_⟩))
                        go_ret
                        exact ⟨by first | rfl | (simp [errW_none, errW_some] <;> rfl) | (simp [*, errW_none, errW_some] <;> rfl), by repeat (first | (with_reducible first | exact HB.out | apply below_alloc | apply pw_below_drewN | apply below_drew1) | exact HB.out)⟩
                    · rw [if_neg c12] at H
                      exact absurd H (by simp)
                  · rw [if_neg c11] at H
                    have c11b0 : decide (x6_3 < (l0.length : Int)) = false := decide_eq_false c11
                    clear c11
                    obtain ⟨y110, hy110⟩ : ∃ y_ : List (S27), y_ = (([(⟨4, (⟨#[]⟩ : ByteArray)⟩ : S27), (⟨3, a1⟩ : S27)] : List (S27))) := ⟨_, rfl⟩
                    replace H : (if x5_3.length + y110.length < 5864062014805 then (laws_FnHistoryEnds.l1 k3 l0 a1 (x5_3 ++ y110) 0) else (none)) = some r := by first | (rw [hy110]; with_reducible exact H) | (have H2_ := (Option.bind_some _ _).symm.trans H; rw [hy110]; with_reducible exact H2_) | (have H2_ := (Option.bind_some _ _).symm.trans H; with_reducible exact H2_) | with_reducible exact H | (rw [hy110]; exact H) | exact H
                    have Ny110 := Aside0.mk hy110
                    clear hy110
                    by_cases c17 : x5_3.length + y110.length < 5864062014805
                    · rw [if_pos c17] at H
                      have LMc17 := Aside0.mk c17
                      clear c17
                      obtain ⟨y113, hy113⟩ : ∃ y_ : List (S27), y_ = (x5_3 ++ y110) := ⟨_, rfl⟩
                      replace H : (laws_FnHistoryEnds.l1 k3 l0 a1 y113 0) = some r := by first | (rw [hy113]; with_reducible exact H) | (have H2_ := (Option.bind_some _ _).symm.trans H; rw [hy113]; with_reducible exact H2_) | (have H2_ := (Option.bind_some _ _).symm.trans H; with_reducible exact H2_) | with_reducible exact H | (rw [hy113]; exact H) | exact H
                      have Ny113 := Aside0.mk hy113
                      clear hy113
                      have H' := Aside0.mk H
                      clear H
                      go_wp2_with (first | ((with_reducible refine gate_dst (N := 51) rfl ?_); (try (refine gate_guard (by rfl) ?_; dsimp only)); refine Kd.R_lit k27 _ 27 ?hg (N := 51) ?hd (xs := ([(⟨4, (⟨#[]⟩ : ByteArray)⟩ : S27), (⟨3, a1⟩ : S27)] : List (S27))) (inner := [.int .i64 4, .string (⟨#[]⟩ : ByteArray), .int .i64 3, .string a1]) (ok := fun _ => True) (okp := fun _ => True) ?hr ?hp (fun _ hk => hk) trivial (Below.refl _ _) (Nat.le_refl _) (by simp) ?_; (case hd => rfl); (case hg => rfl); (case hr => first | (go_simp; done) | (go_simp; rfl)); (case hp => exact (Reps.c2 (show Kd.M k27 _ _ _ (⟨4, (⟨#[]⟩ : ByteArray)⟩ : S27) [.int .i64 4, .string (⟨#[]⟩ : ByteArray)] from (k27_mkM _ _ _ (⟨4, (⟨#[]⟩ : ByteArray)⟩ : S27) )) (Reps.c2 (show Kd.M k27 _ _ _ (⟨3, a1⟩ : S27) [.int .i64 3, .string a1] from (k27_mkM _ _ _ (⟨3, a1⟩ : S27) )) (Reps.none _ _)))); intro v111 w18 ho19 hb hg_ hnew_; clear hg_ hnew_; (first | rw [← Ny110.out] at ho19 | (simp only [Int.reduceToNat] at ho19; rw [← Ny110.out] at ho19)); have n0_ := Aside0.mk (Kd.R_elder' (by (with_reducible repeat (first | apply Kd.R_alloc | apply Kd.R_drewN | apply Kd.R_drew)); exact HO_5.out) (Kd.R_base ho19) hb); have n1_ := Aside0.mk (Kd.R_lower (Kd.R_new' ho19 (Kd.R_lt (by (with_reducible repeat (first | apply Kd.R_alloc | apply Kd.R_drewN | apply Kd.R_drew)); exact HO_5.out))) (below_size (by repeat (first | (with_reducible first | exact HB.out | apply below_alloc | apply pw_below_drewN | apply below_drew1) | exact HB.out)))); have n2_ := Aside0.mk (below_step (by repeat (first | (with_reducible first | exact HB.out | apply below_alloc | apply pw_below_drewN | apply below_drew1) | exact HB.out)) hb); clear HO_5; clear HB; have HO_5 := n0_; have HO112 := n1_; have HB := n2_; clear n0_ n1_ n2_; clear hb ho19; obtain ⟨Ao21, co21, eo21⟩ := Kd.R_slice HO112.out; subst eo21) | ((with_reducible refine gate_builtin (b := .append) (xs := #[.tmp 47, .tmp 51]) rfl ?_); (try (refine gate_guard (by rfl) ?_; dsimp only)); at_builtin; refine Kd.R_append_rows k27 (w0 := w) w.heap.size rfl (.tmp 47) (.tmp 51) 25 27 (.agg #[(.int .i64 0), (.string ⟨#[]⟩)]) 24 rfl Try.underlying25 info27 rfl (by decide) (by omega) u5 x5_3 y110 _ _ _ (fun k_ => some k_ ≠ (.slice Ao21 y110.length co21 : Value).ownBlock) (fun _ => False) rfl rfl ?aO ?aR (fun _ _ h => h) (fun _ h => h.elim) ?aF ?aB ?aS ?aL ?_; (case aR => repeat (first | exact (Kd.R_reads' HO112.out).2.2 | (with_reducible refine Kd.C_alloc ?_ _) | (with_reducible refine Kd.C_drewN ?_ _) | (with_reducible refine Kd.C_drew ?_))); (case aB => exact (by repeat (first | (with_reducible first | exact HB.out | apply below_alloc | apply pw_below_drewN | apply below_drew1) | exact HB.out))); (case aF => exact (fun k_ hk => Kd.fresh' (Kd.R_lt (by (with_reducible repeat (first | apply Kd.R_alloc | apply Kd.R_drewN | apply Kd.R_drew)); exact HO112.out)) k_ hk)); (case aO => exact (by (with_reducible repeat (first | apply Kd.R_alloc | apply Kd.R_drewN | apply Kd.R_drew)); exact Kd.R_mono HO_5.out (fun _ hk => hk.2))); (case aS => exact (below_size (by repeat (first | (with_reducible first | exact HB.out | apply below_alloc | apply pw_below_drewN | apply below_drew1) | exact HB.out)))); (case aL => have := LMc17.out; omega); intro v114 w20 ho hb hg hat; rw [← Ny113.out] at ho; have n0_ := Aside0.mk (Kd.R_after (ok := (fun _ => True)) (by (with_reducible repeat (first | apply Kd.R_alloc | apply Kd.R_drewN | apply Kd.R_drew)); exact HO112.out) hg hat); have n1_ := Aside0.mk (hb); have n2_ := Aside0.mk (ho); clear HO112; clear HB; clear HO_5; have HO112 := n0_; have HB := n1_; have HO115 := n2_; clear n0_ n1_ n2_; clear ho hb hg hat))
                      go_loopg [5, 7] k3 (fun kq v5 v7 w' => ∃ (x5_4 : List (S27)) (x7_4 : Int), v7 = .int .i64 x7_4 ∧ Aside0 (laws_FnHistoryEnds.l1 kq l0 a1 x5_4 x7_4 = some r) ∧ Aside0 (kq ≤ k3) ∧ Aside0 (Kd.R k27 27 w' w.heap.size (fun _ => True) v5 x5_4) ∧ Aside0 (Below w.heap.size w w'))
                      case atStart => exact ⟨(y113), (0), (by first | rfl | (simp; done) | (simp [*]; done)), H', ⟨Nat.le_refl _⟩, ⟨by (with_reducible repeat (first | apply Kd.R_alloc | apply Kd.R_drewN | apply Kd.R_drew)); exact Kd.R_mono HO115.out (fun _ hk => trivial)⟩, ⟨by repeat (first | (with_reducible first | exact HB.out | apply below_alloc | apply pw_below_drewN | apply below_drew1) | exact HB.out)⟩⟩
                      case round =>
                        clear H'
                        try clear c1
                        try clear p1
                        try clear q1
                        try clear hx1
                        try clear c2
                        try clear p2
                        try clear c3
                        try clear c5
                        try clear c6
                        try clear p6
                        try clear c7
                        try clear c8
                        try clear c8b0
                        try clear c8b1
                        try clear c10
                        try clear p10
                        try clear q10
                        try clear hx10
                        try clear c11
                        try clear c11b0
                        try clear c12
                        try clear c12b0
                        try clear c14
                        try clear c15
                        try clear c17
                        try clear hx104_0
                        try clear hx106_0
                        try clear p104
                        try clear p106
                        try clear p2
                        try clear q104
                        try clear q106
                        obtain ⟨x5_4, x7_4, rfl, HA, HK4, HO_5, HB⟩ := hrel
                        cases gk with
                        | zero => exact absurd HA.out (by simp [laws_FnHistoryEnds.l1])
                        | succ k4 =>
                          have H := HA.out
                          clear HA
                          simp only [laws_FnHistoryEnds.l1] at H
                          by_cases c22 : x7_4 ≤ (l0.length : Int)
                          · rw [if_pos c22] at H
                            have c22b0 : decide (x7_4 ≤ (l0.length : Int)) = true := decide_eq_true c22
                            clear c22
                            by_cases c23 : x5_4.length < 5864062014805
                            · rw [if_pos c23] at H
                              have LMc23 := Aside0.mk c23
                              clear c23
                              obtain ⟨y116, hy116⟩ : ∃ y_ : List (S27), y_ = (x5_4 ++ [(⟨2, a1⟩ : S27)]) := ⟨_, rfl⟩
                              replace H : (laws_FnHistoryEnds.l1 k4 l0 a1 y116 (wrap64 (x7_4 + 1))) = some r := by first | (rw [hy116]; with_reducible exact H) | (have H2_ := (Option.bind_some _ _).symm.trans H; rw [hy116]; with_reducible exact H2_) | (have H2_ := (Option.bind_some _ _).symm.trans H; with_reducible exact H2_) | with_reducible exact H | (rw [hy116]; exact H) | exact H
                              have Ny116 := Aside0.mk hy116
                              clear hy116
                              have H' := Aside0.mk H
                              clear H
                              go_wp2_with (first | ((with_reducible refine gate_builtin (b := .append) (xs := #[.tmp 59, .tmp 62]) rfl ?_); (try (refine gate_guard (by rfl) ?_; dsimp only)); at_builtin; refine Kd.R_append k27 (w0 := w) w.heap.size rfl (.tmp 59) (.tmp 62) 25 27 (.agg #[(.int .i64 0), (.string ⟨#[]⟩)]) 24 rfl Try.underlying25 info27 rfl (by decide) (by omega) u5 x5_4 (⟨2, a1⟩ : S27) [.int .i64 2, .string a1] (fun _ => True) (fun _ => False) rfl rfl ?aP (fun _ hk => hk.elim) ?aF ?aO ?aB ?aS ?aL ?_; (case aP => exact k27_mkM _ _ _ (⟨2, a1⟩ : S27)); (case aB => exact (by repeat (first | (with_reducible first | exact HB.out | apply below_alloc | apply pw_below_drewN | apply below_drew1) | exact HB.out))); (case aF => exact (fun _ _ => trivial)); (case aO => exact (by (with_reducible repeat (first | apply Kd.R_alloc | apply Kd.R_drewN | apply Kd.R_drew)); exact HO_5.out)); (case aS => exact (below_size (by repeat (first | (with_reducible first | exact HB.out | apply below_alloc | apply pw_below_drewN | apply below_drew1) | exact HB.out)))); (case aL => have := LMc23.out; omega); intro v117 w24 ho hb hg hat; rw [← Ny116.out] at ho; have n0_ := Aside0.mk (hb); have n1_ := Aside0.mk (ho); clear HB; clear HO_5; have HB := n0_; have HO118 := n1_; clear n0_ n1_; clear ho hb hg hat))
                              go_roundg k4
                              case measure => have := HJ2.out; have := HJ6.out; have := HK3.out; have := HK4.out; omega
                              case rel => exact ⟨(y116), (wrap64 (x7_4 + 1)), (by first | rfl | (simp; done) | (simp [*]; done)), H', ⟨by have := HJ2.out; have := HJ6.out; have := HK3.out; have := HK4.out; omega⟩, ⟨by (with_reducible repeat (first | apply Kd.R_alloc | apply Kd.R_drewN | apply Kd.R_drew)); exact HO118.out⟩, ⟨by repeat (first | (with_reducible first | exact HB.out | apply below_alloc | apply pw_below_drewN | apply below_drew1) | exact HB.out)⟩⟩
                            · rw [if_neg c23] at H
                              exact absurd H (by simp)
                          · rw [if_neg c22] at H
                            have c22b0 : decide (x7_4 ≤ (l0.length : Int)) = false := decide_eq_false c22
                            clear c22
                            replace H := Option.bind_eq_some_iff.mp H
                            obtain ⟨⟨t119, t120⟩, A250, H⟩ := H
                            replace H : (if (t119.length : Int) = (x5_4.length : Int) then (if (t120.length : Int) = (x5_4.length : Int) then (if 0 ≤ (wrap64 ((l0.length : Int) + 1)) then (if (wrap64 ((l0.length : Int) + 1)) < (t119.length : Int) then (if (rdOf ByteArray.empty t119 (wrap64 ((l0.length : Int) + 1))).toList = a1.toList then (if (wrap64 ((l0.length : Int) + 1)) < (t120.length : Int) then (if (rdOf false t120 (wrap64 ((l0.length : Int) + 1)) = true) then (some false) else (if 0 ≤ (wrap64 ((x5_4.length : Int) - 1)) then (if (wrap64 ((x5_4.length : Int) - 1)) < (t119.length : Int) then (if (rdOf ByteArray.empty t119 (wrap64 ((x5_4.length : Int) - 1))).toList = a1.toList then (if (wrap64 ((x5_4.length : Int) - 1)) < (t120.length : Int) then (some (!(rdOf false t120 (wrap64 ((x5_4.length : Int) - 1))))) else (none)) else (some false)) else (none)) else (none))) else (none)) else (some false)) else (none)) else (none)) else (some false)) else (some false)) = some r := H
                            have A25 := Aside0.mk A250
                            clear A250
                            by_cases c26 : (t119.length : Int) = (x5_4.length : Int)
                            · rw [if_pos c26] at H
                              have c26b0 : ((t119.length : Int) == (x5_4.length : Int)) = true := beq_iff_eq.mpr c26
                              have c26b1 : ((t119.length : Int) != (x5_4.length : Int)) = false := bne_eq_false_iff_eq.mpr c26
                              have c26b2 : (t119.length == x5_4.length) = true := by first | simpa using c26 | (simp at c26 ⊢; omega)
                              clear c26
                              by_cases c27 : (t120.length : Int) = (x5_4.length : Int)
                              · rw [if_pos c27] at H
                                have c27b0 : ((t120.length : Int) == (x5_4.length : Int)) = true := beq_iff_eq.mpr c27
                                have c27b1 : ((t120.length : Int) != (x5_4.length : Int)) = false := bne_eq_false_iff_eq.mpr c27
                                have c27b2 : (t120.length == x5_4.length) = true := by first | simpa using c27 | (simp at c27 ⊢; omega)
                                clear c27
                                obtain ⟨ji28, hji28⟩ : ∃ j_ : Int, (wrap64 ((l0.length : Int) + 1)) = j_ := ⟨_, rfl⟩
                                replace H : (if 0 ≤ (ji28) then (if (ji28) < (t119.length : Int) then (if (rdOf ByteArray.empty t119 (ji28)).toList = a1.toList then (if (ji28) < (t120.length : Int) then (if (rdOf false t120 (ji28) = true) then (some false) else (if 0 ≤ (wrap64 ((x5_4.length : Int) - 1)) then (if (wrap64 ((x5_4.length : Int) - 1)) < (t119.length : Int) then (if (rdOf ByteArray.empty t119 (wrap64 ((x5_4.length : Int) - 1))).toList = a1.toList then (if (wrap64 ((x5_4.length : Int) - 1)) < (t120.length : Int) then (some (!(rdOf false t120 (wrap64 ((x5_4.length : Int) - 1))))) else (none)) else (some false)) else (none)) else (none))) else (none)) else (some false)) else (none)) else (none)) = some r := by first | (rw [hji28] at H; exact H) | (simp only [hji28] at H ⊢; exact H)
                                (try rw [hji28] at A25)
                                have hji28w : (IntKind.i64.wrap ((l0.length : Int) + 1)) = ji28 := (i64_w _).trans hji28
                                by_cases c29 : 0 ≤ (ji28)
                                · rw [if_pos c29] at H
                                  have c29b0 : decide (0 ≤ (ji28)) = true := decide_eq_true c29
                                  clear c29
                                  by_cases c30 : (ji28) < (t119.length : Int)
                                  · rw [if_pos c30] at H
                                    have c30b0 : decide ((ji28) < (t119.length : Int)) = true := decide_eq_true c30
                                    clear c30
                                    by_cases c31 : (rdOf ByteArray.empty t119 (ji28)).toList = a1.toList
                                    · rw [if_pos c31] at H
                                      have c31b0 : ((rdOf ByteArray.empty t119 (ji28)).toList == a1.toList) = true := beq_iff_eq.mpr c31
                                      have c31b1 : ((rdOf ByteArray.empty t119 (ji28)).toList != a1.toList) = false := bne_eq_false_iff_eq.mpr c31
                                      clear c31
                                      by_cases c32 : (ji28) < (t120.length : Int)
                                      · rw [if_pos c32] at H
                                        have c32b0 : decide ((ji28) < (t120.length : Int)) = true := decide_eq_true c32
                                        clear c32
                                        obtain ⟨bq33, hbq33⟩ : ∃ b_ : Bool, b_ = (rdOf false t120 (ji28)) := ⟨_, rfl⟩
                                        replace H : (if (bq33 = true) then (some false) else (if 0 ≤ (wrap64 ((x5_4.length : Int) - 1)) then (if (wrap64 ((x5_4.length : Int) - 1)) < (t119.length : Int) then (if (rdOf ByteArray.empty t119 (wrap64 ((x5_4.length : Int) - 1))).toList = a1.toList then (if (wrap64 ((x5_4.length : Int) - 1)) < (t120.length : Int) then (some (!(rdOf false t120 (wrap64 ((x5_4.length : Int) - 1))))) else (none)) else (some false)) else (none)) else (none))) = some r := by rw [← hbq33] at H; exact H
                                        have Nbq33 := Aside0.mk hbq33
                                        clear hbq33
                                        by_cases c34 : (bq33 = true)
                                        · subst c34
                                          have H1 : (some false) = some r := by rw [if_pos rfl] at H; exact H
                                          clear H
                                          have H := H1
                                          clear H1
                                          obtain rfl := Option.some.inj H
                                          obtain ⟨Ao35, co35, eo35⟩ := Kd.R_slice HO_5.out
                                          subst eo35
                                          go_wp2_with (first | ((with_reducible refine gate_callee (f := 9) rfl ?_); refine goesL_ (some 66) rfl rfl Try.func9 (by kernel_rfl) rfl #[.slice Ao35 x5_4.length co35] rfl (by (try simp only [List.map_toArray, List.map_cons, List.map_nil]); first | done | rfl | (simp only [List.length_drop, List.length_take]; rfl) | (simp only [Int.toNat_natCast, ByteArray.extract_zero_size]; rfl)) ?_; (with_reducible refine (impl_Turned.calls _ _ x5_4 t119 t120 _ ?side1 ?side2 A25.out).mono ?_); (case side1 => repeat (first | exact (Kd.R_reads' HO_5.out).2.2 | (with_reducible refine Kd.C_alloc ?_ _) | (with_reducible refine Kd.C_drewN ?_ _) | (with_reducible refine Kd.C_drew ?_))); (case side2 => exact (Kd.R_reads' HO_5.out).2.1); rintro e w36 ⟨v121, v123, rfl, ho0, ho1, hb⟩; refine ⟨_, rfl, ?_⟩; have n0_ := Aside0.mk (Kd.R_below (by (with_reducible repeat (first | apply Kd.R_alloc | apply Kd.R_drewN | apply Kd.R_drew)); exact HO_5.out) hb); have n1_ := Aside0.mk (Kd.R_lower ho0 (below_size (by repeat (first | (with_reducible first | exact HB.out | apply below_alloc | apply pw_below_drewN | apply below_drew1) | exact HB.out)))); have n2_ := Aside0.mk (Kd.R_lower ho1 (below_size (by repeat (first | (with_reducible first | exact HB.out | apply below_alloc | apply pw_below_drewN | apply below_drew1) | exact HB.out)))); have n3_ := Aside0.mk (below_step (by repeat (first | (with_reducible first | exact HB.out | apply below_alloc | apply pw_below_drewN | apply below_drew1) | exact HB.out)) hb); clear HO_5; clear HB; have HO_5 := n0_; have HO122 := n1_; have HO124 := n2_; have HB := n3_; clear n0_ n1_ n2_ n3_; (try clear hb); (try clear hb2); (try clear hk); (try clear hi); (try clear ho0); (try clear ho1); obtain ⟨Ao37, co37, eo37⟩ := Kd.R_slice HO122.out; subst eo37; obtain ⟨Ao38, co38, eo38⟩ := Kd.R_slice HO124.out; subst eo38; have p125 : 0 ≤ ((ji28) : Int) := of_decide_eq_true (by first | (with_reducible assumption) | assumption); have q125 : (ji28) < (t119.length : Int) := of_decide_eq_true (by first | (with_reducible assumption) | assumption); obtain ⟨ad125, e125, hx125_0⟩ := Kd.at_string (Kd.R_reads' HO122.out).2.2 (ji28) p125 q125; cases e125; replace p125 := eq_true p125; replace q125 := eq_true q125; have p126 : 0 ≤ ((ji28) : Int) := of_decide_eq_true (by first | (with_reducible assumption) | assumption); have q126 : (ji28) < (t120.length : Int) := of_decide_eq_true (by first | (with_reducible assumption) | assumption); obtain ⟨ad126, e126, hx126_0⟩ := Kd.at_bool (Kd.R_reads' HO124.out).2.2 (ji28) p126 q126; (try rw [← Nbq33.out] at hx126_0); cases e126; replace p126 := eq_true p126; replace q126 := eq_true q126))
                                          go_ret
                                          exact ⟨by first | rfl | (simp [errW_none, errW_some] <;> rfl) | (simp only [← hji28]; first | rfl | (simp [errW_none, errW_some] <;> rfl)) | (simp [*, errW_none, errW_some] <;> rfl), by repeat (first | (with_reducible first | exact HB.out | apply below_alloc | apply pw_below_drewN | apply below_drew1) | exact HB.out)⟩
                                        · replace c34 := Bool.eq_false_iff.mpr c34
                                          subst c34
                                          have H1 : (if 0 ≤ (wrap64 ((x5_4.length : Int) - 1)) then (if (wrap64 ((x5_4.length : Int) - 1)) < (t119.length : Int) then (if (rdOf ByteArray.empty t119 (wrap64 ((x5_4.length : Int) - 1))).toList = a1.toList then (if (wrap64 ((x5_4.length : Int) - 1)) < (t120.length : Int) then (some (!(rdOf false t120 (wrap64 ((x5_4.length : Int) - 1))))) else (none)) else (some false)) else (none)) else (none)) = some r := by rw [if_neg (show ¬ (false = true) by decide)] at H; exact H
                                          clear H
                                          have H := H1
                                          clear H1
                                          obtain ⟨ji39, hji39⟩ : ∃ j_ : Int, (wrap64 ((x5_4.length : Int) - 1)) = j_ := ⟨_, rfl⟩
                                          replace H : (if 0 ≤ (ji39) then (if (ji39) < (t119.length : Int) then (if (rdOf ByteArray.empty t119 (ji39)).toList = a1.toList then (if (ji39) < (t120.length : Int) then (some (!(rdOf false t120 (ji39)))) else (none)) else (some false)) else (none)) else (none)) = some r := by first | (rw [hji39] at H; exact H) | (simp only [hji39] at H ⊢; exact H)
                                          (try rw [hji39] at A25)
                                          have hji39w : (IntKind.i64.wrap ((x5_4.length : Int) - 1)) = ji39 := (i64_w _).trans hji39
                                          by_cases c40 : 0 ≤ (ji39)
                                          · rw [if_pos c40] at H
                                            have c40b0 : decide (0 ≤ (ji39)) = true := decide_eq_true c40
                                            clear c40
                                            by_cases c41 : (ji39) < (t119.length : Int)
                                            · rw [if_pos c41] at H
                                              have c41b0 : decide ((ji39) < (t119.length : Int)) = true := decide_eq_true c41
                                              clear c41
                                              by_cases c42 : (rdOf ByteArray.empty t119 (ji39)).toList = a1.toList
                                              · rw [if_pos c42] at H
                                                have c42b0 : ((rdOf ByteArray.empty t119 (ji39)).toList == a1.toList) = true := beq_iff_eq.mpr c42
                                                have c42b1 : ((rdOf ByteArray.empty t119 (ji39)).toList != a1.toList) = false := bne_eq_false_iff_eq.mpr c42
                                                clear c42
                                                by_cases c43 : (ji39) < (t120.length : Int)
                                                · rw [if_pos c43] at H
                                                  have c43b0 : decide ((ji39) < (t120.length : Int)) = true := decide_eq_true c43
                                                  clear c43
                                                  obtain rfl := Option.some.inj H
                                                  obtain ⟨Ao44, co44, eo44⟩ := Kd.R_slice HO_5.out
                                                  subst eo44
                                                  go_wp2_with (first | ((with_reducible refine gate_callee (f := 9) rfl ?_); refine goesL_ (some 66) rfl rfl Try.func9 (by kernel_rfl) rfl #[.slice Ao44 x5_4.length co44] rfl (by (try simp only [List.map_toArray, List.map_cons, List.map_nil]); first | done | rfl | (simp only [List.length_drop, List.length_take]; rfl) | (simp only [Int.toNat_natCast, ByteArray.extract_zero_size]; rfl)) ?_; (with_reducible refine (impl_Turned.calls _ _ x5_4 t119 t120 _ ?side1 ?side2 A25.out).mono ?_); (case side1 => repeat (first | exact (Kd.R_reads' HO_5.out).2.2 | (with_reducible refine Kd.C_alloc ?_ _) | (with_reducible refine Kd.C_drewN ?_ _) | (with_reducible refine Kd.C_drew ?_))); (case side2 => exact (Kd.R_reads' HO_5.out).2.1); rintro e w45 ⟨v121, v123, rfl, ho0, ho1, hb⟩; refine ⟨_, rfl, ?_⟩; have n0_ := Aside0.mk (Kd.R_below (by (with_reducible repeat (first | apply Kd.R_alloc | apply Kd.R_drewN | apply Kd.R_drew)); exact HO_5.out) hb); have n1_ := Aside0.mk (Kd.R_lower ho0 (below_size (by repeat (first | (with_reducible first | exact HB.out | apply below_alloc | apply pw_below_drewN | apply below_drew1) | exact HB.out)))); have n2_ := Aside0.mk (Kd.R_lower ho1 (below_size (by repeat (first | (with_reducible first | exact HB.out | apply below_alloc | apply pw_below_drewN | apply below_drew1) | exact HB.out)))); have n3_ := Aside0.mk (below_step (by repeat (first | (with_reducible first | exact HB.out | apply below_alloc | apply pw_below_drewN | apply below_drew1) | exact HB.out)) hb); clear HO_5; clear HB; have HO_5 := n0_; have HO122 := n1_; have HO124 := n2_; have HB := n3_; clear n0_ n1_ n2_ n3_; (try clear hb); (try clear hb2); (try clear hk); (try clear hi); (try clear ho0); (try clear ho1); obtain ⟨Ao46, co46, eo46⟩ := Kd.R_slice HO122.out; subst eo46; obtain ⟨Ao47, co47, eo47⟩ := Kd.R_slice HO124.out; subst eo47; have p125 : 0 ≤ ((ji28) : Int) := of_decide_eq_true (by first | (with_reducible assumption) | assumption); have q125 : (ji28) < (t119.length : Int) := of_decide_eq_true (by first | (with_reducible assumption) | assumption); obtain ⟨ad125, e125, hx125_0⟩ := Kd.at_string (Kd.R_reads' HO122.out).2.2 (ji28) p125 q125; cases e125; replace p125 := eq_true p125; replace q125 := eq_true q125; have p126 : 0 ≤ ((ji28) : Int) := of_decide_eq_true (by first | (with_reducible assumption) | assumption); have q126 : (ji28) < (t120.length : Int) := of_decide_eq_true (by first | (with_reducible assumption) | assumption); obtain ⟨ad126, e126, hx126_0⟩ := Kd.at_bool (Kd.R_reads' HO124.out).2.2 (ji28) p126 q126; (try rw [← Nbq33.out] at hx126_0); cases e126; replace p126 := eq_true p126; replace q126 := eq_true q126; have p127 : 0 ≤ ((ji39) : Int) := of_decide_eq_true (by first | (with_reducible assumption) | assumption); have q127 : (ji39) < (t119.length : Int) := of_decide_eq_true (by first | (with_reducible assumption) | assumption); obtain ⟨ad127, e127, hx127_0⟩ := Kd.at_string (Kd.R_reads' HO122.out).2.2 (ji39) p127 q127; obtain rfl : ad125 = ad127 := (by injection e127); replace p127 := eq_true p127; replace q127 := eq_true q127; have p128 : 0 ≤ ((ji39) : Int) := of_decide_eq_true (by first | (with_reducible assumption) | assumption); have q128 : (ji39) < (t120.length : Int) := of_decide_eq_true (by first | (with_reducible assumption) | assumption); obtain ⟨ad128, e128, hx128_0⟩ := Kd.at_bool (Kd.R_reads' HO124.out).2.2 (ji39) p128 q128; (try rw [← Nbq33.out] at hx128_0); obtain rfl : ad126 = ad128 := (by injection e128); replace p128 := eq_true p128; replace q128 := eq_true q128))
                                                  go_ret
                                                  exact ⟨by first | rfl | (simp [errW_none, errW_some] <;> rfl) | (simp only [← hji28, ← hji39]; first | rfl | (simp [errW_none, errW_some] <;> rfl)) | (simp [*, errW_none, errW_some] <;> rfl), by repeat (first | (with_reducible first | exact HB.out | apply below_alloc | apply pw_below_drewN | apply below_drew1) | exact HB.out)⟩
                                                · rw [if_neg c43] at H
                                                  exact absurd H (by simp)
                                              · rw [if_neg c42] at H
                                                have c42b0 : ((rdOf ByteArray.empty t119 (ji39)).toList == a1.toList) = false := beq_eq_false_iff_ne.mpr c42
                                                have c42b1 : ((rdOf ByteArray.empty t119 (ji39)).toList != a1.toList) = true := bne_iff_ne.mpr c42
                                                obtain rfl := Option.some.inj H
                                                obtain ⟨Ao48, co48, eo48⟩ := Kd.R_slice HO_5.out
                                                subst eo48
                                                go_wp2_with (first | ((with_reducible refine gate_callee (f := 9) rfl ?_); refine goesL_ (some 66) rfl rfl Try.func9 (by kernel_rfl) rfl #[.slice Ao48 x5_4.length co48] rfl (by (try simp only [List.map_toArray, List.map_cons, List.map_nil]); first | done | rfl | (simp only [List.length_drop, List.length_take]; rfl) | (simp only [Int.toNat_natCast, ByteArray.extract_zero_size]; rfl)) ?_; (with_reducible refine (impl_Turned.calls _ _ x5_4 t119 t120 _ ?side1 ?side2 A25.out).mono ?_); (case side1 => repeat (first | exact (Kd.R_reads' HO_5.out).2.2 | (with_reducible refine Kd.C_alloc ?_ _) | (with_reducible refine Kd.C_drewN ?_ _) | (with_reducible refine Kd.C_drew ?_))); (case side2 => exact (Kd.R_reads' HO_5.out).2.1); rintro e w49 ⟨v121, v123, rfl, ho0, ho1, hb⟩; refine ⟨_, rfl, ?_⟩; have n0_ := Aside0.mk (Kd.R_below (by (with_reducible repeat (first | apply Kd.R_alloc | apply Kd.R_drewN | apply Kd.R_drew)); exact HO_5.out) hb); have n1_ := Aside0.mk (Kd.R_lower ho0 (below_size (by repeat (first | (with_reducible first | exact HB.out | apply below_alloc | apply pw_below_drewN | apply below_drew1) | exact HB.out)))); have n2_ := Aside0.mk (Kd.R_lower ho1 (below_size (by repeat (first | (with_reducible first | exact HB.out | apply below_alloc | apply pw_below_drewN | apply below_drew1) | exact HB.out)))); have n3_ := Aside0.mk (below_step (by repeat (first | (with_reducible first | exact HB.out | apply below_alloc | apply pw_below_drewN | apply below_drew1) | exact HB.out)) hb); clear HO_5; clear HB; have HO_5 := n0_; have HO122 := n1_; have HO124 := n2_; have HB := n3_; clear n0_ n1_ n2_ n3_; (try clear hb); (try clear hb2); (try clear hk); (try clear hi); (try clear ho0); (try clear ho1); obtain ⟨Ao50, co50, eo50⟩ := Kd.R_slice HO122.out; subst eo50; obtain ⟨Ao51, co51, eo51⟩ := Kd.R_slice HO124.out; subst eo51; have p125 : 0 ≤ ((ji28) : Int) := of_decide_eq_true (by first | (with_reducible assumption) | assumption); have q125 : (ji28) < (t119.length : Int) := of_decide_eq_true (by first | (with_reducible assumption) | assumption); obtain ⟨ad125, e125, hx125_0⟩ := Kd.at_string (Kd.R_reads' HO122.out).2.2 (ji28) p125 q125; cases e125; replace p125 := eq_true p125; replace q125 := eq_true q125; have p126 : 0 ≤ ((ji28) : Int) := of_decide_eq_true (by first | (with_reducible assumption) | assumption); have q126 : (ji28) < (t120.length : Int) := of_decide_eq_true (by first | (with_reducible assumption) | assumption); obtain ⟨ad126, e126, hx126_0⟩ := Kd.at_bool (Kd.R_reads' HO124.out).2.2 (ji28) p126 q126; (try rw [← Nbq33.out] at hx126_0); cases e126; replace p126 := eq_true p126; replace q126 := eq_true q126; have p127 : 0 ≤ ((ji39) : Int) := of_decide_eq_true (by first | (with_reducible assumption) | assumption); have q127 : (ji39) < (t119.length : Int) := of_decide_eq_true (by first | (with_reducible assumption) | assumption); obtain ⟨ad127, e127, hx127_0⟩ := Kd.at_string (Kd.R_reads' HO122.out).2.2 (ji39) p127 q127; obtain rfl : ad125 = ad127 := (by injection e127); replace p127 := eq_true p127; replace q127 := eq_true q127))
                                                go_ret
                                                exact ⟨by first | rfl | (simp [errW_none, errW_some] <;> rfl) | (simp only [← hji28, ← hji39]; first | rfl | (simp [errW_none, errW_some] <;> rfl)) | (simp [*, errW_none, errW_some] <;> rfl), by repeat (first | (with_reducible first | exact HB.out | apply below_alloc | apply pw_below_drewN | apply below_drew1) | exact HB.out)⟩
                                            · rw [if_neg c41] at H
                                              exact absurd H (by simp)
                                          · rw [if_neg c40] at H
                                            exact absurd H (by simp)
                                      · rw [if_neg c32] at H
                                        exact absurd H (by simp)
                                    · rw [if_neg c31] at H
                                      have c31b0 : ((rdOf ByteArray.empty t119 (ji28)).toList == a1.toList) = false := beq_eq_false_iff_ne.mpr c31
                                      have c31b1 : ((rdOf ByteArray.empty t119 (ji28)).toList != a1.toList) = true := bne_iff_ne.mpr c31
                                      obtain rfl := Option.some.inj H
                                      obtain ⟨Ao52, co52, eo52⟩ := Kd.R_slice HO_5.out
                                      subst eo52
                                      go_wp2_with (first | ((with_reducible refine gate_callee (f := 9) rfl ?_); refine goesL_ (some 66) rfl rfl Try.func9 (by kernel_rfl) rfl #[.slice Ao52 x5_4.length co52] rfl (by (try simp only [List.map_toArray, List.map_cons, List.map_nil]); first | done | rfl | (simp only [List.length_drop, List.length_take]; rfl) | (simp only [Int.toNat_natCast, ByteArray.extract_zero_size]; rfl)) ?_; (with_reducible refine (impl_Turned.calls _ _ x5_4 t119 t120 _ ?side1 ?side2 A25.out).mono ?_); (case side1 => repeat (first | exact (Kd.R_reads' HO_5.out).2.2 | (with_reducible refine Kd.C_alloc ?_ _) | (with_reducible refine Kd.C_drewN ?_ _) | (with_reducible refine Kd.C_drew ?_))); (case side2 => exact (Kd.R_reads' HO_5.out).2.1); rintro e w53 ⟨v121, v123, rfl, ho0, ho1, hb⟩; refine ⟨_, rfl, ?_⟩; have n0_ := Aside0.mk (Kd.R_below (by (with_reducible repeat (first | apply Kd.R_alloc | apply Kd.R_drewN | apply Kd.R_drew)); exact HO_5.out) hb); have n1_ := Aside0.mk (Kd.R_lower ho0 (below_size (by repeat (first | (with_reducible first | exact HB.out | apply below_alloc | apply pw_below_drewN | apply below_drew1) | exact HB.out)))); have n2_ := Aside0.mk (Kd.R_lower ho1 (below_size (by repeat (first | (with_reducible first | exact HB.out | apply below_alloc | apply pw_below_drewN | apply below_drew1) | exact HB.out)))); have n3_ := Aside0.mk (below_step (by repeat (first | (with_reducible first | exact HB.out | apply below_alloc | apply pw_below_drewN | apply below_drew1) | exact HB.out)) hb); clear HO_5; clear HB; have HO_5 := n0_; have HO122 := n1_; have HO124 := n2_; have HB := n3_; clear n0_ n1_ n2_ n3_; (try clear hb); (try clear hb2); (try clear hk); (try clear hi); (try clear ho0); (try clear ho1); obtain ⟨Ao54, co54, eo54⟩ := Kd.R_slice HO122.out; subst eo54; obtain ⟨Ao55, co55, eo55⟩ := Kd.R_slice HO124.out; subst eo55; have p125 : 0 ≤ ((ji28) : Int) := of_decide_eq_true (by first | (with_reducible assumption) | assumption); have q125 : (ji28) < (t119.length : Int) := of_decide_eq_true (by first | (with_reducible assumption) | assumption); obtain ⟨ad125, e125, hx125_0⟩ := Kd.at_string (Kd.R_reads' HO122.out).2.2 (ji28) p125 q125; cases e125; replace p125 := eq_true p125; replace q125 := eq_true q125))
                                      go_ret
                                      exact ⟨by first | rfl | (simp [errW_none, errW_some] <;> rfl) | (simp only [← hji28]; first | rfl | (simp [errW_none, errW_some] <;> rfl)) | (simp [*, errW_none, errW_some] <;> rfl), by repeat (first | (with_reducible first | exact HB.out | apply below_alloc | apply pw_below_drewN | apply below_drew1) | exact HB.out)⟩
                                  · rw [if_neg c30] at H
                                    exact absurd H (by simp)
                                · rw [if_neg c29] at H
                                  exact absurd H (by simp)
                              · rw [if_neg c27] at H
                                have c27b0 : ((t120.length : Int) == (x5_4.length : Int)) = false := beq_eq_false_iff_ne.mpr c27
                                have c27b1 : ((t120.length : Int) != (x5_4.length : Int)) = true := bne_iff_ne.mpr c27
                                have c27b2 : (t120.length == x5_4.length) = false := by first | simpa using c27 | (simp at c27 ⊢; omega)
                                obtain rfl := Option.some.inj H
                                obtain ⟨Ao56, co56, eo56⟩ := Kd.R_slice HO_5.out
                                subst eo56
                                go_wp2_with (first | ((with_reducible refine gate_callee (f := 9) rfl ?_); refine goesL_ (some 66) rfl rfl Try.func9 (by kernel_rfl) rfl #[.slice Ao56 x5_4.length co56] rfl (by (try simp only [List.map_toArray, List.map_cons, List.map_nil]); first | done | rfl | (simp only [List.length_drop, List.length_take]; rfl) | (simp only [Int.toNat_natCast, ByteArray.extract_zero_size]; rfl)) ?_; (with_reducible refine (impl_Turned.calls _ _ x5_4 t119 t120 _ ?side1 ?side2 A25.out).mono ?_); (case side1 => repeat (first | exact (Kd.R_reads' HO_5.out).2.2 | (with_reducible refine Kd.C_alloc ?_ _) | (with_reducible refine Kd.C_drewN ?_ _) | (with_reducible refine Kd.C_drew ?_))); (case side2 => exact (Kd.R_reads' HO_5.out).2.1); rintro e w57 ⟨v121, v123, rfl, ho0, ho1, hb⟩; refine ⟨_, rfl, ?_⟩; have n0_ := Aside0.mk (Kd.R_below (by (with_reducible repeat (first | apply Kd.R_alloc | apply Kd.R_drewN | apply Kd.R_drew)); exact HO_5.out) hb); have n1_ := Aside0.mk (Kd.R_lower ho0 (below_size (by repeat (first | (with_reducible first | exact HB.out | apply below_alloc | apply pw_below_drewN | apply below_drew1) | exact HB.out)))); have n2_ := Aside0.mk (Kd.R_lower ho1 (below_size (by repeat (first | (with_reducible first | exact HB.out | apply below_alloc | apply pw_below_drewN | apply below_drew1) | exact HB.out)))); have n3_ := Aside0.mk (below_step (by repeat (first | (with_reducible first | exact HB.out | apply below_alloc | apply pw_below_drewN | apply below_drew1) | exact HB.out)) hb); clear HO_5; clear HB; have HO_5 := n0_; have HO122 := n1_; have HO124 := n2_; have HB := n3_; clear n0_ n1_ n2_ n3_; (try clear hb); (try clear hb2); (try clear hk); (try clear hi); (try clear ho0); (try clear ho1); obtain ⟨Ao58, co58, eo58⟩ := Kd.R_slice HO122.out; subst eo58; obtain ⟨Ao59, co59, eo59⟩ := Kd.R_slice HO124.out; subst eo59))
                                go_ret
                                exact ⟨by first | rfl | (simp [errW_none, errW_some] <;> rfl) | (simp [*, errW_none, errW_some] <;> rfl), by repeat (first | (with_reducible first | exact HB.out | apply below_alloc | apply pw_below_drewN | apply below_drew1) | exact HB.out)⟩
                            · rw [if_neg c26] at H
                              have c26b0 : ((t119.length : Int) == (x5_4.length : Int)) = false := beq_eq_false_iff_ne.mpr c26
                              have c26b1 : ((t119.length : Int) != (x5_4.length : Int)) = true := bne_iff_ne.mpr c26
                              have c26b2 : (t119.length == x5_4.length) = false := by first | simpa using c26 | (simp at c26 ⊢; omega)
                              obtain rfl := Option.some.inj H
                              obtain ⟨Ao60, co60, eo60⟩ := Kd.R_slice HO_5.out
                              subst eo60
                              go_wp2_with (first | ((with_reducible refine gate_callee (f := 9) rfl ?_); refine goesL_ (some 66) rfl rfl Try.func9 (by kernel_rfl) rfl #[.slice Ao60 x5_4.length co60] rfl (by (try simp only [List.map_toArray, List.map_cons, List.map_nil]); first | done | rfl | (simp only [List.length_drop, List.length_take]; rfl) | (simp only [Int.toNat_natCast, ByteArray.extract_zero_size]; rfl)) ?_; (with_reducible refine (impl_Turned.calls _ _ x5_4 t119 t120 _ ?side1 ?side2 A25.out).mono ?_); (case side1 => repeat (first | exact (Kd.R_reads' HO_5.out).2.2 | (with_reducible refine Kd.C_alloc ?_ _) | (with_reducible refine Kd.C_drewN ?_ _) | (with_reducible refine Kd.C_drew ?_))); (case side2 => exact (Kd.R_reads' HO_5.out).2.1); rintro e w61 ⟨v121, v123, rfl, ho0, ho1, hb⟩; refine ⟨_, rfl, ?_⟩; have n0_ := Aside0.mk (Kd.R_below (by (with_reducible repeat (first | apply Kd.R_alloc | apply Kd.R_drewN | apply Kd.R_drew)); exact HO_5.out) hb); have n1_ := Aside0.mk (Kd.R_lower ho0 (below_size (by repeat (first | (with_reducible first | exact HB.out | apply below_alloc | apply pw_below_drewN | apply below_drew1) | exact HB.out)))); have n2_ := Aside0.mk (Kd.R_lower ho1 (below_size (by repeat (first | (with_reducible first | exact HB.out | apply below_alloc | apply pw_below_drewN | apply below_drew1) | exact HB.out)))); have n3_ := Aside0.mk (below_step (by repeat (first | (with_reducible first | exact HB.out | apply below_alloc | apply pw_below_drewN | apply below_drew1) | exact HB.out)) hb); clear HO_5; clear HB; have HO_5 := n0_; have HO122 := n1_; have HO124 := n2_; have HB := n3_; clear n0_ n1_ n2_ n3_; (try clear hb); (try clear hb2); (try clear hk); (try clear hi); (try clear ho0); (try clear ho1); obtain ⟨Ao62, co62, eo62⟩ := Kd.R_slice HO122.out; subst eo62))
                              go_ret
                              exact ⟨by first | rfl | (simp [errW_none, errW_some] <;> rfl) | (simp [*, errW_none, errW_some] <;> rfl), by repeat (first | (with_reducible first | exact HB.out | apply below_alloc | apply pw_below_drewN | apply below_drew1) | exact HB.out)⟩
                    · rw [if_neg c17] at H
                      exact absurd H (by simp)
/-- THE ONE PURE STATEMENT of laws_FnHistoryEnds: yours. -/
def laws_FnHistoryEnds.Pure : Prop := ∀ (l0 : List ByteArray) (a1 : ByteArray), l0.length ≤ maxLen → (∀ x ∈ l0, x.size ≤ maxLen) → a1.size ≤ maxLen → ∃ k, laws_FnHistoryEnds.f k l0 a1 = some true
theorem laws_FnHistoryEnds.walk (P : laws_FnHistoryEnds.Pure) (A0 : Option Addr) (c0 : Nat) (l0 : List ByteArray) (a1 : ByteArray) (w : World) (hr0 : Kd.C Kd.string w A0 l0.length l0) (hc0 : l0.length ≤ c0) (hm0 : l0.length ≤ maxLen) (hg0 : ∀ x ∈ l0, x.size ≤ maxLen) (hg1 : a1.size ≤ maxLen) :
    Calls Try.prog 3 #[.slice A0 l0.length c0, .string a1] w fun e w' => e = .returned (.bool true) ∧ Below w.heap.size w w' := by
  obtain ⟨k, h⟩ := P l0 a1 hm0 hg0 hg1
  refine (laws_FnHistoryEnds.calls k A0 c0 l0 a1 true w hr0 hc0 h).mono ?_
  rintro e w' ⟨rfl, hd⟩
  exact ⟨rfl, hd⟩
end Go.Proofs.Ythbdaoapjnofkaa.PFnHistoryEnds
