/- Printed by a program of this seat (xprint) out of the translation: Go functions as plain functions, and the walks that show them; no condition. -/
import Derived.Test.YthkblefeifdhaaaPFnMessagesx0
import Derived.Test.YthkblefeifdhaaaHMessages
import Derived.Test.YthkblefeifdhaaaPFnMessagesx1
namespace Go.Proofs.Ythkblefeifdhaaa.PFnMessages
open Go.RowKit Go.Proofs.Ythkblefeifdhaaa.H Go.Proofs.Ythkblefeifdhaaa.R Go.Proofs.YthkblefeifdhaaaW.PrintWords Go.Proofs.YthkblefeifdhaaaW.PrintLast Go.Proofs.YthkblefeifdhaaaW.PrintMore
attribute [local go_sem] max2_int min2_int max_two min_two max_three min_three max_four min_four   -- for this text's walks alone
set_option linter.unusedVariables false
set_option linter.unusedSimpArgs false

/-! ### laws_FnMessages: function 6 -/
mutual
def laws_FnMessages.j0 : Nat → List Int → List ByteArray → Bool → Option (Bool)
  | 0, _, _, _ => none
  | k + 1, x0, x1, x21 => if x21 = true then (some true) else (if (x0.length : Int) = (x1.length : Int) then (laws_FnMessages.j1 k x0 x1 (decide ((x1.length : Int) > 12))) else (laws_FnMessages.j1 k x0 x1 true))
def laws_FnMessages.j1 : Nat → List Int → List ByteArray → Bool → Option (Bool)
  | 0, _, _, _ => none
  | k + 1, x0, x1, x31 => if x31 = true then (some true) else (laws_FnMessages.l0 k x0 x1 0 (x1.length : Int) 0)
def laws_FnMessages.l0 : Nat → List Int → List ByteArray → Int → Int → Int → Option (Bool)
  | 0, _, _, _, _, _ => none
  | k + 1, x0, x1, x5, x33, x34 => if x34 < x33 then (if 0 ≤ x34 then (if x34 < (x1.length : Int) then (if x34 < (x0.length : Int) then (if (rd x0 x34) ≥ 32768 then (some true) else (laws_FnMessages.l0 k x0 x1 (wrap64 (x5 + ((rdOf ByteArray.empty x1 x34).size : Int))) x33 (wrap64 (x34 + 1)))) else (none)) else (none)) else (none)) else (if x5 > 500 then (some true) else (laws_FnMessages.l1 k x0 x1 (⟨#[]⟩ : ByteArray) (x1.length : Int) 0))
def laws_FnMessages.l1 : Nat → List Int → List ByteArray → ByteArray → Int → Int → Option (Bool)
  | 0, _, _, _, _, _ => none
  | k + 1, x0, x1, x7, x53, x54 => if x54 < x53 then (if 0 ≤ x54 then (if x54 < (x0.length : Int) then (if x54 < (x1.length : Int) then ((impl_MessageWritten.f (wrap64 (rd x0 x54)) (rdOf ByteArray.empty x1 x54)).bind fun t107 => (if x7.size + t107.size ≤ 9223372036854775807 then (laws_FnMessages.l1 k x0 x1 (x7 ++ t107) x53 (wrap64 (x54 + 1))) else (none))) else (none)) else (none)) else (none)) else (laws_FnMessages.l2 k x0 x1 x7 (x1.length : Int) 0)
def laws_FnMessages.l2 : Nat → List Int → List ByteArray → ByteArray → Int → Int → Option (Bool)
  | 0, _, _, _, _, _ => none
  | k + 1, x0, x1, x7, x71, x72 => if x72 < x71 then ((impl_MessageRead.f x7).bind fun bt108 => (if bt108.2.2.2 = true then (if 0 ≤ x72 then (if x72 < (x0.length : Int) then (if bt108.1 = (wrap64 (rd x0 x72)) then (if x72 < (x1.length : Int) then (if bt108.2.1.toList = (rdOf ByteArray.empty x1 x72).toList then (laws_FnMessages.l2 k x0 x1 bt108.2.2.1 x71 (wrap64 (x72 + 1))) else (some false)) else (none)) else (some false)) else (none)) else (none)) else (some false))) else (if x7.toList = ([] : List UInt8) then ((impl_MessageWritten.f 1 (⟨#[]⟩ : ByteArray)).bind fun t114 => (some (t114.toList == ([0, 0, 0, 2, 0, 1] : List UInt8)))) else (some false))
end
def laws_FnMessages.f (k : Nat) (l0 : List Int) (l1 : List ByteArray) : Option (Bool) := if (l0.length : Int) > 2147483647 then (laws_FnMessages.j0 k l0 l1 true) else ((laws_zzFits1.f k l1).bind fun t102 => (laws_FnMessages.j0 k l0 l1 (!t102)))
theorem laws_FnMessages.mono_l : ∀ k, (∀ y0 y1 y2, LeO (laws_FnMessages.j0 k y0 y1 y2) (laws_FnMessages.j0 (k + 1) y0 y1 y2)) ∧ (∀ y0 y1 y2, LeO (laws_FnMessages.j1 k y0 y1 y2) (laws_FnMessages.j1 (k + 1) y0 y1 y2)) ∧ (∀ y0 y1 y2 y3 y4, LeO (laws_FnMessages.l0 k y0 y1 y2 y3 y4) (laws_FnMessages.l0 (k + 1) y0 y1 y2 y3 y4)) ∧ (∀ y0 y1 y2 y3 y4, LeO (laws_FnMessages.l1 k y0 y1 y2 y3 y4) (laws_FnMessages.l1 (k + 1) y0 y1 y2 y3 y4)) ∧ (∀ y0 y1 y2 y3 y4, LeO (laws_FnMessages.l2 k y0 y1 y2 y3 y4) (laws_FnMessages.l2 (k + 1) y0 y1 y2 y3 y4))
  | 0 => ⟨fun _ _ _ r h => by simp [laws_FnMessages.j0] at h, fun _ _ _ r h => by simp [laws_FnMessages.j1] at h, fun _ _ _ _ _ r h => by simp [laws_FnMessages.l0] at h, fun _ _ _ _ _ r h => by simp [laws_FnMessages.l1] at h, fun _ _ _ _ _ r h => by simp [laws_FnMessages.l2] at h⟩
  | k + 1 => by
    obtain ⟨ih0, ih1, ih2, ih3, ih4⟩ := laws_FnMessages.mono_l k
    refine ⟨?_, ?_, ?_, ?_, ?_⟩
    · intro y0 y1 y2
      unfold laws_FnMessages.j0
      repeat' first
      | (with_reducible exact ih0 _ _ _)
      | (with_reducible exact ih1 _ _ _)
      | (with_reducible exact ih2 _ _ _ _ _)
      | (with_reducible exact ih3 _ _ _ _ _)
      | (with_reducible exact ih4 _ _ _ _ _)
      | (with_reducible exact laws_zzFits1.mono _ _)
      | (with_reducible exact LeO.refl _)
      | (with_reducible exact LeO.none _)
      | (with_reducible refine LeO.ite ?_ ?_)
      | (with_reducible refine LeO.bind ?_ (fun _ => ?_))
      | exact ih0 _ _ _
      | exact ih1 _ _ _
      | exact ih2 _ _ _ _ _
      | exact ih3 _ _ _ _ _
      | exact ih4 _ _ _ _ _
      | exact laws_zzFits1.mono _ _
      | exact LeO.none _
      | refine LeO.ite ?_ ?_
      | refine LeO.bind ?_ (fun _ => ?_)
    · intro y0 y1 y2
      unfold laws_FnMessages.j1
      repeat' first
      | (with_reducible exact ih0 _ _ _)
      | (with_reducible exact ih1 _ _ _)
      | (with_reducible exact ih2 _ _ _ _ _)
      | (with_reducible exact ih3 _ _ _ _ _)
      | (with_reducible exact ih4 _ _ _ _ _)
      | (with_reducible exact laws_zzFits1.mono _ _)
      | (with_reducible exact LeO.refl _)
      | (with_reducible exact LeO.none _)
      | (with_reducible refine LeO.ite ?_ ?_)
      | (with_reducible refine LeO.bind ?_ (fun _ => ?_))
      | exact ih0 _ _ _
      | exact ih1 _ _ _
      | exact ih2 _ _ _ _ _
      | exact ih3 _ _ _ _ _
      | exact ih4 _ _ _ _ _
      | exact laws_zzFits1.mono _ _
      | exact LeO.none _
      | refine LeO.ite ?_ ?_
      | refine LeO.bind ?_ (fun _ => ?_)
    · intro y0 y1 y2 y3 y4
      unfold laws_FnMessages.l0
      repeat' first
      | (with_reducible exact ih0 _ _ _)
      | (with_reducible exact ih1 _ _ _)
      | (with_reducible exact ih2 _ _ _ _ _)
      | (with_reducible exact ih3 _ _ _ _ _)
      | (with_reducible exact ih4 _ _ _ _ _)
      | (with_reducible exact laws_zzFits1.mono _ _)
      | (with_reducible exact LeO.refl _)
      | (with_reducible exact LeO.none _)
      | (with_reducible refine LeO.ite ?_ ?_)
      | (with_reducible refine LeO.bind ?_ (fun _ => ?_))
      | exact ih0 _ _ _
      | exact ih1 _ _ _
      | exact ih2 _ _ _ _ _
      | exact ih3 _ _ _ _ _
      | exact ih4 _ _ _ _ _
      | exact laws_zzFits1.mono _ _
      | exact LeO.none _
      | refine LeO.ite ?_ ?_
      | refine LeO.bind ?_ (fun _ => ?_)
    · intro y0 y1 y2 y3 y4
      unfold laws_FnMessages.l1
      repeat' first
      | (with_reducible exact ih0 _ _ _)
      | (with_reducible exact ih1 _ _ _)
      | (with_reducible exact ih2 _ _ _ _ _)
      | (with_reducible exact ih3 _ _ _ _ _)
      | (with_reducible exact ih4 _ _ _ _ _)
      | (with_reducible exact laws_zzFits1.mono _ _)
      | (with_reducible exact LeO.refl _)
      | (with_reducible exact LeO.none _)
      | (with_reducible refine LeO.ite ?_ ?_)
      | (with_reducible refine LeO.bind ?_ (fun _ => ?_))
      | exact ih0 _ _ _
      | exact ih1 _ _ _
      | exact ih2 _ _ _ _ _
      | exact ih3 _ _ _ _ _
      | exact ih4 _ _ _ _ _
      | exact laws_zzFits1.mono _ _
      | exact LeO.none _
      | refine LeO.ite ?_ ?_
      | refine LeO.bind ?_ (fun _ => ?_)
    · intro y0 y1 y2 y3 y4
      unfold laws_FnMessages.l2
      repeat' first
      | (with_reducible exact ih0 _ _ _)
      | (with_reducible exact ih1 _ _ _)
      | (with_reducible exact ih2 _ _ _ _ _)
      | (with_reducible exact ih3 _ _ _ _ _)
      | (with_reducible exact ih4 _ _ _ _ _)
      | (with_reducible exact laws_zzFits1.mono _ _)
      | (with_reducible exact LeO.refl _)
      | (with_reducible exact LeO.none _)
      | (with_reducible refine LeO.ite ?_ ?_)
      | (with_reducible refine LeO.bind ?_ (fun _ => ?_))
      | exact ih0 _ _ _
      | exact ih1 _ _ _
      | exact ih2 _ _ _ _ _
      | exact ih3 _ _ _ _ _
      | exact ih4 _ _ _ _ _
      | exact laws_zzFits1.mono _ _
      | exact LeO.none _
      | refine LeO.ite ?_ ?_
      | refine LeO.bind ?_ (fun _ => ?_)
theorem laws_FnMessages.mono : ∀ a0 a1 k, LeO (laws_FnMessages.f k a0 a1) (laws_FnMessages.f (k + 1) a0 a1) := by
  intro a0 a1 k
  obtain ⟨ih0, ih1, ih2, ih3, ih4⟩ := laws_FnMessages.mono_l k
  unfold laws_FnMessages.f
  repeat' first
      | (with_reducible exact ih0 _ _ _)
      | (with_reducible exact ih1 _ _ _)
      | (with_reducible exact ih2 _ _ _ _ _)
      | (with_reducible exact ih3 _ _ _ _ _)
      | (with_reducible exact ih4 _ _ _ _ _)
      | (with_reducible exact laws_zzFits1.mono _ _)
      | (with_reducible exact LeO.refl _)
      | (with_reducible exact LeO.none _)
      | (with_reducible refine LeO.ite ?_ ?_)
      | (with_reducible refine LeO.bind ?_ (fun _ => ?_))
      | exact ih0 _ _ _
      | exact ih1 _ _ _
      | exact ih2 _ _ _ _ _
      | exact ih3 _ _ _ _ _
      | exact ih4 _ _ _ _ _
      | exact laws_zzFits1.mono _ _
      | exact LeO.none _
      | refine LeO.ite ?_ ?_
      | refine LeO.bind ?_ (fun _ => ?_)
def laws_FnMessages.T19 : Bool × List (List Nat × List Nat) := (true, [([], []), ([], []), ([], []), ([1, 2], [1, 2]), ([3], [3]), ([4], [4]), ([], []), ([], []), ([6, 7], [6, 7]), ([8], [8]), ([5, 9], [5, 9]), ([0, 10], [0, 10]), ([11, 10, 0, 1, 2, 3, 4, 5, 6, 7, 8, 9, 10, 11], [0, 11])])
def laws_FnMessages.B19 : List Nat := [0, 0, 0, 6, 14, 30, 0, 0, 192, 448, 1022, 2047, 4095]
theorem laws_FnMessages.tab19 : rtab .any (opsOf Try.f6 19) = laws_FnMessages.T19 := by kernel_rfl
theorem laws_FnMessages.bits19 : waitsOk laws_FnMessages.T19.2 laws_FnMessages.B19 = true := by kernel_rfl
set_option maxHeartbeats 8000000 in
set_option maxRecDepth 100000 in
theorem laws_FnMessages.calls (k : Nat) (A0 : Option Addr) (c0 : Nat) (l0 : List Int) (A1 : Option Addr) (c1 : Nat) (l1 : List ByteArray) (r : Bool) (w : World) (hr0 : Kd.C (Kd.int .u16) w A0 l0.length l0) (hc0 : l0.length ≤ c0) (hr1 : Kd.C Kd.string w A1 l1.length l1) (hc1 : l1.length ≤ c1) (h : laws_FnMessages.f k l0 l1 = some r) :
    Calls Try.prog 6 #[.slice A0 l0.length c0, .slice A1 l1.length c1] w fun e w' => e = .returned (.bool r) ∧ Below w.heap.size w w' := by
  have HR0 := Aside0.mk hr0
  have HC0 := Aside0.mk hc0
  clear hr0 hc0
  have HR1 := Aside0.mk hr1
  have HC1 := Aside0.mk hc1
  clear hr1 hc1
  have HB := Aside0.mk (Below.refl w.heap.size w)
  have H : (if (l0.length : Int) > 2147483647 then (laws_FnMessages.j0 k l0 l1 true) else ((laws_zzFits1.f k l1).bind fun t102 => (laws_FnMessages.j0 k l0 l1 (!t102)))) = some r := h
  clear h
  have HC3 := Aside0.mk H
  clear H
  go_enter Try.func6, Try.ntmps6
  go_upto_region 1 with (fail)
  go_cut [21] (fun v21 wc => ∃ (kq : Nat) (x21_2 : Bool), v21 = .bool x21_2 ∧ Aside0 (laws_FnMessages.j0 kq l0 l1 x21_2 = some r) ∧ Aside0 (kq ≤ k) ∧ Aside0 (Below w.heap.size w wc))
  case first =>
    have H := HC3.out
    clear HC3
    by_cases c4 : (l0.length : Int) > 2147483647
    · rw [if_pos c4] at H
      have c4b0 : decide (2147483647 < (l0.length : Int)) = true := decide_eq_true c4
      have c4b1 : decide (2147483647 < l0.length) = true := decide_eq_true (by omega)
      clear c4
      (first | rw [c4b0] | (simp only [i64_w, i32_w]; rw [c4b0]) | skip)
      have H' := Aside0.mk H
      clear H
      go_wp2
      go_meet
      case rel => exact ⟨_, (true), (by first | rfl | (simp; done) | (simp [*]; done)), H', ⟨by first | omega | exact Nat.le_refl _⟩, ⟨by repeat (first | (with_reducible first | exact HB.out | apply below_alloc | apply pw_below_drewN | apply below_drew1) | exact HB.out)⟩⟩
    · rw [if_neg c4] at H
      have c4b0 : decide (2147483647 < (l0.length : Int)) = false := decide_eq_false c4
      have c4b1 : decide (2147483647 < l0.length) = false := decide_eq_false (by omega)
      clear c4
      (first | rw [c4b0] | (simp only [i64_w, i32_w]; rw [c4b0]) | skip)
      replace H := Option.bind_eq_some_iff.mp H
      obtain ⟨t102, A50, H⟩ := H
      replace H : (laws_FnMessages.j0 k l0 l1 (!t102)) = some r := H
      have A5 := Aside0.mk A50
      clear A50
      have H' := Aside0.mk H
      clear H
      go_wp2_with (first | (go_at_call 20; (with_reducible refine (laws_zzFits1.calls k _ _ l1 t102 _ ?side1 ?side2 A5.out).mono ?_); (case side1 => repeat (first | exact (Kd.C_below HR1.out HB.out) | (with_reducible refine Kd.C_alloc ?_ _) | (with_reducible refine Kd.C_drewN ?_ _) | (with_reducible refine Kd.C_drew ?_))); (case side2 => exact HC1.out); rintro e w' ⟨rfl, ⟨nd, rfl⟩⟩))
      go_meet
      case rel => exact ⟨_, (!t102), (by first | rfl | (simp; done) | (simp [*]; done)), H', ⟨by first | omega | exact Nat.le_refl _⟩, ⟨by repeat (first | (with_reducible first | exact HB.out | apply below_alloc | apply pw_below_drewN | apply below_drew1) | exact HB.out)⟩⟩
  case rest =>
    clear HC3
    try clear c1
    try clear p2
    try clear c4
    try clear c4b0
    try clear c4b1
    obtain ⟨kq, x21_2, rfl, HA, HJ2, HB⟩ := hcut
    cases kq with
    | zero => exact absurd HA.out (by simp [laws_FnMessages.j0])
    | succ kj2 =>
      have H := HA.out
      clear HA
      simp only [laws_FnMessages.j0] at H
      by_cases c6 : x21_2 = true
      · subst c6
        have H1 : (some true) = some r := by rw [if_pos rfl] at H; exact H
        clear H
        have H := H1
        clear H1
        obtain rfl := Option.some.inj H
        go_wp2
        go_ret
        exact ⟨by first | rfl | (simp [errW_none, errW_some] <;> rfl) | (simp [*, errW_none, errW_some] <;> rfl), by repeat (first | (with_reducible first | exact HB.out | apply below_alloc | apply pw_below_drewN | apply below_drew1) | exact HB.out)⟩
      · replace c6 := Bool.eq_false_iff.mpr c6
        subst c6
        have H1 : (if (l0.length : Int) = (l1.length : Int) then (laws_FnMessages.j1 kj2 l0 l1 (decide ((l1.length : Int) > 12))) else (laws_FnMessages.j1 kj2 l0 l1 true)) = some r := by rw [if_neg (show ¬ (false = true) by decide)] at H; exact H
        clear H
        have H := H1
        clear H1
        have HC7 := Aside0.mk H
        clear H
        go_upto_region 3 with (fail)
        go_cut [31] (fun v31 wc => ∃ (kq : Nat) (x31_6 : Bool), v31 = .bool x31_6 ∧ Aside0 (laws_FnMessages.j1 kq l0 l1 x31_6 = some r) ∧ Aside0 (kq ≤ kj2) ∧ Aside0 (Below w.heap.size w wc))
        case first =>
          have H := HC7.out
          clear HC7
          by_cases c8 : (l0.length : Int) = (l1.length : Int)
          · rw [if_pos c8] at H
            have c8b0 : ((l0.length : Int) == (l1.length : Int)) = true := beq_iff_eq.mpr c8
            have c8b1 : ((l0.length : Int) != (l1.length : Int)) = false := bne_eq_false_iff_eq.mpr c8
            have c8b2 : (l0.length == l1.length) = true := by first | simpa using c8 | (simp at c8 ⊢; omega)
            clear c8
            (first | rw [c8b0] | (simp only [i64_w, i32_w]; rw [c8b0]) | skip)
            have H' := Aside0.mk H
            clear H
            go_wp2
            go_meet
            case rel => exact ⟨_, (decide ((l1.length : Int) > 12)), (by first | rfl | (simp; done) | (simp [*]; done)), H', ⟨by have := HJ2.out; first | omega | exact Nat.le_refl _⟩, ⟨by repeat (first | (with_reducible first | exact HB.out | apply below_alloc | apply pw_below_drewN | apply below_drew1) | exact HB.out)⟩⟩
          · rw [if_neg c8] at H
            have c8b0 : ((l0.length : Int) == (l1.length : Int)) = false := beq_eq_false_iff_ne.mpr c8
            have c8b1 : ((l0.length : Int) != (l1.length : Int)) = true := bne_iff_ne.mpr c8
            have c8b2 : (l0.length == l1.length) = false := by first | simpa using c8 | (simp at c8 ⊢; omega)
            (first | rw [c8b0] | (simp only [i64_w, i32_w]; rw [c8b0]) | skip)
            have H' := Aside0.mk H
            clear H
            go_wp2
            go_meet
            case rel => exact ⟨_, (true), (by first | rfl | (simp; done) | (simp [*]; done)), H', ⟨by have := HJ2.out; first | omega | exact Nat.le_refl _⟩, ⟨by repeat (first | (with_reducible first | exact HB.out | apply below_alloc | apply pw_below_drewN | apply below_drew1) | exact HB.out)⟩⟩
        case rest =>
          clear HC7
          try clear c1
          try clear p2
          try clear c4
          try clear c4b0
          try clear c4b1
          try clear c6
          try clear c8
          try clear c8b0
          try clear c8b1
          try clear c8b2
          try clear p2
          obtain ⟨kq, x31_6, rfl, HA, HJ6, HB⟩ := hcut
          cases kq with
          | zero => exact absurd HA.out (by simp [laws_FnMessages.j1])
          | succ kj6 =>
            have H := HA.out
            clear HA
            simp only [laws_FnMessages.j1] at H
            by_cases c9 : x31_6 = true
            · subst c9
              have H1 : (some true) = some r := by rw [if_pos rfl] at H; exact H
              clear H
              have H := H1
              clear H1
              obtain rfl := Option.some.inj H
              go_wp2
              go_ret
              exact ⟨by first | rfl | (simp [errW_none, errW_some] <;> rfl) | (simp [*, errW_none, errW_some] <;> rfl), by repeat (first | (with_reducible first | exact HB.out | apply below_alloc | apply pw_below_drewN | apply below_drew1) | exact HB.out)⟩
            · replace c9 := Bool.eq_false_iff.mpr c9
              subst c9
              have H1 : (laws_FnMessages.l0 kj6 l0 l1 0 (l1.length : Int) 0) = some r := by rw [if_neg (show ¬ (false = true) by decide)] at H; exact H
              clear H
              have H := H1
              clear H1
              have H' := Aside0.mk H
              clear H
              go_wp2
              go_loopg [5, 34] kj6 (fun kq v5 v34 w' => ∃ (x5_3 : Int) (x34_3 : Int), v5 = .int .i64 x5_3 ∧ v34 = .int .i64 x34_3 ∧ Aside0 (laws_FnMessages.l0 kq l0 l1 x5_3 (l1.length : Int) x34_3 = some r) ∧ Aside0 (kq ≤ kj6) ∧ Aside0 (Below w.heap.size w w'))
              case atStart => exact ⟨(0), (0), (by first | rfl | (simp; done) | (simp [*]; done)), (by first | rfl | (simp; done) | (simp [*]; done)), H', ⟨Nat.le_refl _⟩, ⟨by repeat (first | (with_reducible first | exact HB.out | apply below_alloc | apply pw_below_drewN | apply below_drew1) | exact HB.out)⟩⟩
              case round =>
                clear H'
                try clear c1
                try clear p2
                try clear c4
                try clear c4b0
                try clear c4b1
                try clear c6
                try clear c8
                try clear c8b0
                try clear c8b1
                try clear c8b2
                try clear c9
                try clear p2
                obtain ⟨x5_3, x34_3, rfl, rfl, HA, HK3, HB⟩ := hrel
                cases gk with
                | zero => exact absurd HA.out (by simp [laws_FnMessages.l0])
                | succ k3 =>
                  have H := HA.out
                  clear HA
                  simp only [laws_FnMessages.l0] at H
                  by_cases c10 : x34_3 < (l1.length : Int)
                  · rw [if_pos c10] at H
                    have c10b0 : decide (x34_3 < (l1.length : Int)) = true := decide_eq_true c10
                    clear c10
                    by_cases c11 : 0 ≤ x34_3
                    · rw [if_pos c11] at H
                      have c11b0 : decide (0 ≤ x34_3) = true := decide_eq_true c11
                      clear c11
                      by_cases c12 : x34_3 < (l1.length : Int)
                      · rw [if_pos c12] at H
                        have c12b0 : decide (x34_3 < (l1.length : Int)) = true := decide_eq_true c12
                        clear c12
                        by_cases c13 : x34_3 < (l0.length : Int)
                        · rw [if_pos c13] at H
                          have c13b0 : decide (x34_3 < (l0.length : Int)) = true := decide_eq_true c13
                          clear c13
                          by_cases c14 : (rd l0 x34_3) ≥ 32768
                          · rw [if_pos c14] at H
                            have c14b0 : decide (32768 ≤ (rd l0 x34_3)) = true := decide_eq_true c14
                            clear c14
                            obtain rfl := Option.some.inj H
                            have p103 : 0 ≤ (x34_3 : Int) := of_decide_eq_true (by first | (with_reducible assumption) | assumption)
                            have q103 : x34_3 < (l1.length : Int) := of_decide_eq_true (by first | (with_reducible assumption) | assumption)
                            obtain ⟨ad103, e103, hx103_0⟩ := Kd.at_string HR1.out x34_3 p103 q103
                            cases e103
                            replace hx103_0 := (HB.out.cell (World.block_lt_of_cell? w _ hx103_0)).trans hx103_0
                            replace p103 := eq_true p103
                            replace q103 := eq_true q103
                            have p104 : 0 ≤ (x34_3 : Int) := of_decide_eq_true (by first | (with_reducible assumption) | assumption)
                            have q104 : x34_3 < (l0.length : Int) := of_decide_eq_true (by first | (with_reducible assumption) | assumption)
                            obtain ⟨ad104, e104, hx104_0⟩ := Kd.at_int HR0.out x34_3 p104 q104
                            cases e104
                            replace hx104_0 := (HB.out.cell (World.block_lt_of_cell? w _ hx104_0)).trans hx104_0
                            replace p104 := eq_true p104
                            replace q104 := eq_true q104
                            go_wp2
                            go_ret
                            exact ⟨by first | rfl | (simp [errW_none, errW_some] <;> rfl) | (simp [*, errW_none, errW_some] <;> rfl), by repeat (first | (with_reducible first | exact HB.out | apply below_alloc | apply pw_below_drewN | apply below_drew1) | exact HB.out)⟩
                          · rw [if_neg c14] at H
                            have c14b0 : decide (32768 ≤ (rd l0 x34_3)) = false := decide_eq_false c14
                            clear c14
                            have H' := Aside0.mk H
                            clear H
                            have p103 : 0 ≤ (x34_3 : Int) := of_decide_eq_true (by first | (with_reducible assumption) | assumption)
                            have q103 : x34_3 < (l1.length : Int) := of_decide_eq_true (by first | (with_reducible assumption) | assumption)
                            obtain ⟨ad103, e103, hx103_0⟩ := Kd.at_string HR1.out x34_3 p103 q103
                            cases e103
                            replace hx103_0 := (HB.out.cell (World.block_lt_of_cell? w _ hx103_0)).trans hx103_0
                            replace p103 := eq_true p103
                            replace q103 := eq_true q103
                            have p104 : 0 ≤ (x34_3 : Int) := of_decide_eq_true (by first | (with_reducible assumption) | assumption)
                            have q104 : x34_3 < (l0.length : Int) := of_decide_eq_true (by first | (with_reducible assumption) | assumption)
                            obtain ⟨ad104, e104, hx104_0⟩ := Kd.at_int HR0.out x34_3 p104 q104
                            cases e104
                            replace hx104_0 := (HB.out.cell (World.block_lt_of_cell? w _ hx104_0)).trans hx104_0
                            replace p104 := eq_true p104
                            replace q104 := eq_true q104
                            go_wp2
                            go_roundg k3
                            case measure => have := HJ2.out; have := HJ6.out; have := HK3.out; omega
                            case rel => exact ⟨(wrap64 (x5_3 + ((rdOf ByteArray.empty l1 x34_3).size : Int))), (wrap64 (x34_3 + 1)), (by first | rfl | (simp; done) | (simp [*]; done)), (by first | rfl | (simp; done) | (simp [*]; done)), H', ⟨by have := HJ2.out; have := HJ6.out; have := HK3.out; omega⟩, ⟨by repeat (first | (with_reducible first | exact HB.out | apply below_alloc | apply pw_below_drewN | apply below_drew1) | exact HB.out)⟩⟩
                        · rw [if_neg c13] at H
                          exact absurd H (by simp)
                      · rw [if_neg c12] at H
                        exact absurd H (by simp)
                    · rw [if_neg c11] at H
                      exact absurd H (by simp)
                  · rw [if_neg c10] at H
                    have c10b0 : decide (x34_3 < (l1.length : Int)) = false := decide_eq_false c10
                    clear c10
                    by_cases c15 : x5_3 > 500
                    · rw [if_pos c15] at H
                      have c15b0 : decide (500 < x5_3) = true := decide_eq_true c15
                      clear c15
                      obtain rfl := Option.some.inj H
                      go_wp2
                      go_ret
                      exact ⟨by first | rfl | (simp [errW_none, errW_some] <;> rfl) | (simp [*, errW_none, errW_some] <;> rfl), by repeat (first | (with_reducible first | exact HB.out | apply below_alloc | apply pw_below_drewN | apply below_drew1) | exact HB.out)⟩
                    · rw [if_neg c15] at H
                      have c15b0 : decide (500 < x5_3) = false := decide_eq_false c15
                      clear c15
                      have H' := Aside0.mk H
                      clear H
                      go_wp2
                      go_loopg [7, 54] k3 (fun kq v7 v54 w' => ∃ (x7_4 : ByteArray) (x54_4 : Int), v7 = .string x7_4 ∧ v54 = .int .i64 x54_4 ∧ Aside0 (laws_FnMessages.l1 kq l0 l1 x7_4 (l1.length : Int) x54_4 = some r) ∧ Aside0 (kq ≤ k3) ∧ Aside0 (Below w.heap.size w w'))
                      case atStart => exact ⟨((⟨#[]⟩ : ByteArray)), (0), (by first | rfl | (simp; done) | (simp [*]; done)), (by first | rfl | (simp; done) | (simp [*]; done)), H', ⟨Nat.le_refl _⟩, ⟨by repeat (first | (with_reducible first | exact HB.out | apply below_alloc | apply pw_below_drewN | apply below_drew1) | exact HB.out)⟩⟩
                      case round =>
                        clear H'
                        try clear c1
                        try clear p1
                        try clear q1
                        try clear hx1
                        try clear p2
                        try clear c4
                        try clear c4b0
                        try clear c4b1
                        try clear c6
                        try clear p6
                        try clear c8
                        try clear c8b0
                        try clear c8b1
                        try clear c8b2
                        try clear c9
                        try clear c10
                        try clear c10b0
                        try clear p10
                        try clear q10
                        try clear hx10
                        try clear c11
                        try clear c11b0
                        try clear c12
                        try clear c12b0
                        try clear c13
                        try clear c13b0
                        try clear c14
                        try clear c14b0
                        try clear c15
                        try clear c15b0
                        try clear hx103_0
                        try clear hx104_0
                        try clear p103
                        try clear p104
                        try clear p2
                        try clear q103
                        try clear q104
                        obtain ⟨x7_4, x54_4, rfl, rfl, HA, HK4, HB⟩ := hrel
                        cases gk with
                        | zero => exact absurd HA.out (by simp [laws_FnMessages.l1])
                        | succ k4 =>
                          have H := HA.out
                          clear HA
                          simp only [laws_FnMessages.l1] at H
                          by_cases c16 : x54_4 < (l1.length : Int)
                          · rw [if_pos c16] at H
                            have c16b0 : decide (x54_4 < (l1.length : Int)) = true := decide_eq_true c16
                            clear c16
                            by_cases c17 : 0 ≤ x54_4
                            · rw [if_pos c17] at H
                              have c17b0 : decide (0 ≤ x54_4) = true := decide_eq_true c17
                              clear c17
                              by_cases c18 : x54_4 < (l0.length : Int)
                              · rw [if_pos c18] at H
                                have c18b0 : decide (x54_4 < (l0.length : Int)) = true := decide_eq_true c18
                                clear c18
                                by_cases c19 : x54_4 < (l1.length : Int)
                                · rw [if_pos c19] at H
                                  have c19b0 : decide (x54_4 < (l1.length : Int)) = true := decide_eq_true c19
                                  clear c19
                                  replace H := Option.bind_eq_some_iff.mp H
                                  obtain ⟨t107, A200, H⟩ := H
                                  replace H : (if x7_4.size + t107.size ≤ 9223372036854775807 then (laws_FnMessages.l1 k4 l0 l1 (x7_4 ++ t107) (l1.length : Int) (wrap64 (x54_4 + 1))) else (none)) = some r := H
                                  have A20 := Aside0.mk A200
                                  clear A200
                                  by_cases c21 : x7_4.size + t107.size ≤ 9223372036854775807
                                  · rw [if_pos c21] at H
                                    have c21b0 := eq_true c21
                                    have c21b1 : decide (x7_4.size + t107.size ≤ 9223372036854775807) = true := decide_eq_true c21
                                    try have c21b2 : (9223372036854775807 < x7_4.size + t107.size) = False := eq_false (Nat.not_lt.2 c21)
                                    have H' := Aside0.mk H
                                    clear H
                                    try go_wp2
                                    have n0_ := Aside0.mk (below_drew1 HB.out)
                                    clear HB
                                    have HB := n0_
                                    clear n0_
                                    have p105 : 0 ≤ (x54_4 : Int) := of_decide_eq_true (by first | (with_reducible assumption) | assumption)
                                    have q105 : x54_4 < (l0.length : Int) := of_decide_eq_true (by first | (with_reducible assumption) | assumption)
                                    obtain ⟨ad105, e105, hx105_0⟩ := Kd.at_int HR0.out x54_4 p105 q105
                                    have hw105_0 := hx105_0
                                    cases e105
                                    replace hx105_0 := (HB.out.cell (World.block_lt_of_cell? w _ hx105_0)).trans hx105_0
                                    replace p105 := eq_true p105
                                    replace q105 := eq_true q105
                                    have p106 : 0 ≤ (x54_4 : Int) := of_decide_eq_true (by first | (with_reducible assumption) | assumption)
                                    have q106 : x54_4 < (l1.length : Int) := of_decide_eq_true (by first | (with_reducible assumption) | assumption)
                                    obtain ⟨ad106, e106, hx106_0⟩ := Kd.at_string HR1.out x54_4 p106 q106
                                    have hw106_0 := hx106_0
                                    cases e106
                                    replace hx106_0 := (HB.out.cell (World.block_lt_of_cell? w _ hx106_0)).trans hx106_0
                                    replace p106 := eq_true p106
                                    replace q106 := eq_true q106
                                    refine start_ (n := 13) (S := fun w' => w'.cell? (ad105.add (x54_4).toNat) = some (.int .u16 (rd l0 x54_4)) ∧ w'.cell? (ad106.add (x54_4).toNat) = some (.string (rdOf ByteArray.empty l1 x54_4))) (ds := []) #[false, false, false, false, false, false, false, false, false, false, false, false, false] (by kernel_rfl) rfl rfl ⟨((HB.out.cell (World.block_lt_of_cell? w _ hw105_0)).trans hw105_0), ((HB.out.cell (World.block_lt_of_cell? w _ hw106_0)).trans hw106_0)⟩ (fun hHeld => ?_); refine with_tabW laws_FnMessages.tab19 laws_FnMessages.bits19 (fun HT_ HW_ => ?_)
                                    generalize wr.drew = w22 at HB hx105_0 hx106_0 hHeld ⊢
                                    refine pure_ (i := 0) (N := some 57) (v := ?_) (a' := ?_) #[true, false, false, false, false, false, false, false, false, false, false, false, false] rfl rfl (any_of HT_.out (by kernel_rfl)) (fun _ _ _ h => h) (Or.inl ⟨by rfl, ?_⟩) ?_ ?_
                                    rotate_left
                                    · intro w'
                                      go_simp
                                      with_reducible rfl
                                    rotate_left
                                    · simp only [Act.put, List.setIfInBounds_toArray, List.set_cons_zero, List.set_cons_succ, i64_w, i32_w]
                                      rfl
                                    refine pure_ (i := 1) (N := some 58) (v := ?_) (a' := ?_) #[true, true, false, false, false, false, false, false, false, false, false, false, false] rfl rfl (any_of HT_.out (by kernel_rfl)) (fun _ _ _ h => h) (Or.inl ⟨by rfl, ?_⟩) ?_ ?_
                                    rotate_left
                                    · intro w'
                                      go_simp
                                      with_reducible rfl
                                    rotate_left
                                    · simp only [Act.put, List.setIfInBounds_toArray, List.set_cons_zero, List.set_cons_succ, i64_w, i32_w]
                                      rfl
                                    refine pure_ (i := 2) (N := some 59) (v := ?_) (a' := ?_) #[true, true, true, false, false, false, false, false, false, false, false, false, false] rfl rfl (any_of HT_.out (by kernel_rfl)) (fun _ _ _ h => h) (Or.inl ⟨by rfl, ?_⟩) ?_ ?_
                                    rotate_left
                                    · intro w'
                                      go_simp
                                      with_reducible rfl
                                    rotate_left
                                    · simp only [Act.put, List.setIfInBounds_toArray, List.set_cons_zero, List.set_cons_succ, i64_w, i32_w]
                                      rfl
                                    refine pure_ (i := 3) (N := some 60) (v := ?_) (a' := ?_) #[true, true, true, true, false, false, false, false, false, false, false, false, false] rfl rfl (any_of HT_.out (by kernel_rfl)) (fun _ _ _ h => h) (Or.inl ⟨by rfl, ?_⟩) ?_ ?_
                                    rotate_left
                                    · intro w'
                                      go_simp
                                      with_reducible rfl
                                    rotate_left
                                    · simp only [Act.put, List.setIfInBounds_toArray, List.set_cons_zero, List.set_cons_succ, i64_w, i32_w]
                                      rfl
                                    refine pure_ (i := 6) (N := some 63) (v := ?_) (a' := ?_) #[true, true, true, true, false, false, true, false, false, false, false, false, false] rfl rfl (any_of HT_.out (by kernel_rfl)) (fun _ _ _ h => h) (Or.inl ⟨by rfl, ?_⟩) ?_ ?_
                                    rotate_left
                                    · intro w'
                                      go_simp
                                      with_reducible rfl
                                    rotate_left
                                    · simp only [Act.put, List.setIfInBounds_toArray, List.set_cons_zero, List.set_cons_succ, i64_w, i32_w]
                                      rfl
                                    refine pure_ (i := 7) (N := some 64) (v := ?_) (a' := ?_) #[true, true, true, true, false, false, true, true, false, false, false, false, false] rfl rfl (any_of HT_.out (by kernel_rfl)) (fun _ _ _ h => h) (Or.inl ⟨by rfl, ?_⟩) ?_ ?_
                                    rotate_left
                                    · intro w'
                                      go_simp
                                      with_reducible rfl
                                    rotate_left
                                    · simp only [Act.put, List.setIfInBounds_toArray, List.set_cons_zero, List.set_cons_succ, i64_w, i32_w]
                                      rfl
                                    refine pure_ (i := 8) (N := some 65) (v := ?_) (a' := ?_) #[true, true, true, true, false, false, true, true, true, false, false, false, false] rfl rfl (any_of HT_.out (by kernel_rfl)) (fun _ _ _ h => h) (Or.inl ⟨by rfl, ?_⟩) ?_ ?_
                                    rotate_left
                                    · intro w'
                                      go_simp
                                      with_reducible rfl
                                    rotate_left
                                    · simp only [Act.put, List.setIfInBounds_toArray, List.set_cons_zero, List.set_cons_succ, i64_w, i32_w]
                                      rfl
                                    refine take_ (i := 4) (N := some 61) (v := ?_) (a' := ?_) #[true, true, true, true, true, false, true, true, true, false, false, false, false] rfl rfl (take_ofW HT_.out HW_.out (by kernel_rfl)) (fun _ _ _ h => h) (Or.inl ⟨by rfl, ?_⟩) hHeld ?_ ?_
                                    rotate_left
                                    · rintro w' ⟨s0, s1⟩
                                      go_simp
                                      with_reducible rfl
                                    rotate_left
                                    · simp only [Act.put, List.setIfInBounds_toArray, List.set_cons_zero, List.set_cons_succ, i64_w, i32_w]
                                      rfl
                                    refine pure_ (i := 5) (N := some 62) (v := ?_) (a' := ?_) #[true, true, true, true, true, true, true, true, true, false, false, false, false] rfl rfl (any_of HT_.out (by kernel_rfl)) (fun _ _ _ h => h) (Or.inl ⟨by rfl, ?_⟩) ?_ ?_
                                    rotate_left
                                    · intro w'
                                      go_simp
                                      with_reducible rfl
                                    rotate_left
                                    · simp only [Act.put, List.setIfInBounds_toArray, List.set_cons_zero, List.set_cons_succ, i64_w, i32_w]
                                      rfl
                                    refine take_ (i := 9) (N := some 66) (v := ?_) (a' := ?_) #[true, true, true, true, true, true, true, true, true, true, false, false, false] rfl rfl (take_ofW HT_.out HW_.out (by kernel_rfl)) (fun _ _ _ h => h) (Or.inl ⟨by rfl, ?_⟩) hHeld ?_ ?_
                                    rotate_left
                                    · rintro w' ⟨s0, s1⟩
                                      go_simp
                                      with_reducible rfl
                                    rotate_left
                                    · simp only [Act.put, List.setIfInBounds_toArray, List.set_cons_zero, List.set_cons_succ, i64_w, i32_w]
                                      rfl
                                    refine one_ (i := 10) (N := some 67) #[true, true, true, true, true, true, true, true, true, true, true, false, false] rfl rfl (one_of HT_.out (by kernel_rfl)) (by decide) (fun K hK => ?_)
                                    refine goes_ Try.func21 (by kernel_rfl) rfl #[.int .i64 (wrap64 (rd l0 x54_4)), .string (rdOf ByteArray.empty l1 x54_4)] (by rfl) rfl rfl (by (try simp only [List.map_toArray, List.map_cons, List.map_nil]); first | done | rfl | (simp only [List.length_drop, List.length_take]; rfl) | (simp only [Int.toNat_natCast, ByteArray.extract_zero_size]; rfl)) ?_
                                    with_reducible refine (impl_MessageWritten.calls (wrap64 (rd l0 x54_4)) (rdOf ByteArray.empty l1 x54_4) t107 _ A20.out).mono ?_
                                    rintro e w23 ⟨rfl, hb⟩
                                    refine ⟨_, rfl, ?_⟩
                                    have n0_ := Aside0.mk (below_step (by repeat (first | (with_reducible first | exact HB.out | apply below_alloc | apply pw_below_drewN | apply below_drew1) | exact HB.out)) hb)
                                    clear HB
                                    have HB := n0_
                                    clear n0_
                                    (try clear hb)
                                    (try clear hb2)
                                    (try clear hk)
                                    (try clear hi)
                                    refine hK.out _ _ ⟨((HB.out.cell (World.block_lt_of_cell? w _ hw105_0)).trans hw105_0), ((HB.out.cell (World.block_lt_of_cell? w _ hw106_0)).trans hw106_0)⟩ (fun hHeld => ?_)
                                    clear hK K
                                    refine norm_ (a' := ?_) ?_ ?_
                                    rotate_left
                                    · show Act.put _ (some 67) _ = _
                                      simp only [Act.put, List.setIfInBounds_toArray, List.set_cons_zero, List.set_cons_succ, i64_w, i32_w]
                                      rfl
                                    refine pure_ (i := 11) (N := some 68) (v := ?_) (a' := ?_) #[true, true, true, true, true, true, true, true, true, true, true, true, false] rfl rfl (any_of HT_.out (by kernel_rfl)) (fun _ _ _ h => h) (Or.inl ⟨by rfl, ?_⟩) ?_ ?_
                                    rotate_left
                                    · intro w'
                                      go_simp
                                      with_reducible rfl
                                    rotate_left
                                    · simp only [Act.put, List.setIfInBounds_toArray, List.set_cons_zero, List.set_cons_succ, i64_w, i32_w]
                                      rfl
                                    refine pure_ (i := 12) (N := some 7) (v := ?_) (a' := ?_) #[true, true, true, true, true, true, true, true, true, true, true, true, true] rfl rfl (any_of HT_.out (by kernel_rfl)) (fun _ _ _ h => h) (Or.inl ⟨by rfl, ?_⟩) ?_ ?_
                                    rotate_left
                                    · intro w'
                                      go_simp
                                      with_reducible rfl
                                    rotate_left
                                    · simp only [Act.put, List.setIfInBounds_toArray, List.set_cons_zero, List.set_cons_succ, i64_w, i32_w]
                                      rfl
                                    refine done_ (done_of HT_.out (by kernel_rfl)) ?_
                                    try go_wp2
                                    go_roundg k4
                                    case measure => have := HJ2.out; have := HJ6.out; have := HK3.out; have := HK4.out; omega
                                    case rel => exact ⟨(x7_4 ++ t107), (wrap64 (x54_4 + 1)), (by first | rfl | (simp; done) | (simp [*]; done)), (by first | rfl | (simp; done) | (simp [*]; done)), H', ⟨by have := HJ2.out; have := HJ6.out; have := HK3.out; have := HK4.out; omega⟩, ⟨by repeat (first | (with_reducible first | exact HB.out | apply below_alloc | apply pw_below_drewN | apply below_drew1) | exact HB.out)⟩⟩
                                  · rw [if_neg c21] at H
                                    exact absurd H (by simp)
                                · rw [if_neg c19] at H
                                  exact absurd H (by simp)
                              · rw [if_neg c18] at H
                                exact absurd H (by simp)
                            · rw [if_neg c17] at H
                              exact absurd H (by simp)
                          · rw [if_neg c16] at H
                            have c16b0 : decide (x54_4 < (l1.length : Int)) = false := decide_eq_false c16
                            clear c16
                            have H' := Aside0.mk H
                            clear H
                            go_wp2
                            go_loopg [7, 72] k4 (fun kq v7 v72 w' => ∃ (x7_5 : ByteArray) (x72_5 : Int), v7 = .string x7_5 ∧ v72 = .int .i64 x72_5 ∧ Aside0 (laws_FnMessages.l2 kq l0 l1 x7_5 (l1.length : Int) x72_5 = some r) ∧ Aside0 (kq ≤ k4) ∧ Aside0 (Below w.heap.size w w'))
                            case atStart => exact ⟨(x7_4), (0), (by first | rfl | (simp; done) | (simp [*]; done)), (by first | rfl | (simp; done) | (simp [*]; done)), H', ⟨Nat.le_refl _⟩, ⟨by repeat (first | (with_reducible first | exact HB.out | apply below_alloc | apply pw_below_drewN | apply below_drew1) | exact HB.out)⟩⟩
                            case round =>
                              clear H'
                              try clear c1
                              try clear p1
                              try clear q1
                              try clear hx1
                              try clear c2
                              try clear p2
                              try clear c4
                              try clear c4b0
                              try clear c4b1
                              try clear c6
                              try clear p6
                              try clear c8
                              try clear c8b0
                              try clear c8b1
                              try clear c8b2
                              try clear c9
                              try clear c10
                              try clear c10b0
                              try clear p10
                              try clear q10
                              try clear hx10
                              try clear c11
                              try clear c11b0
                              try clear c12
                              try clear c12b0
                              try clear c13
                              try clear c13b0
                              try clear c14
                              try clear c14b0
                              try clear c15
                              try clear c15b0
                              try clear c16
                              try clear c16b0
                              try clear c17
                              try clear c17b0
                              try clear c18
                              try clear c18b0
                              try clear c19
                              try clear c19b0
                              try clear c21
                              try clear c21b0
                              try clear c21b1
                              try clear c21b2
                              try clear hx103_0
                              try clear hx104_0
                              try clear hx105_0
                              try clear hx106_0
                              try clear p1
                              try clear p10
                              try clear p103
                              try clear p104
                              try clear p105
                              try clear p106
                              try clear p2
                              try clear p6
                              try clear q1
                              try clear q10
                              try clear q103
                              try clear q104
                              try clear q105
                              try clear q106
                              obtain ⟨x7_5, x72_5, rfl, rfl, HA, HK5, HB⟩ := hrel
                              cases gk with
                              | zero => exact absurd HA.out (by simp [laws_FnMessages.l2])
                              | succ k5 =>
                                have H := HA.out
                                clear HA
                                simp only [laws_FnMessages.l2] at H
                                by_cases c24 : x72_5 < (l1.length : Int)
                                · rw [if_pos c24] at H
                                  have c24b0 : decide (x72_5 < (l1.length : Int)) = true := decide_eq_true c24
                                  clear c24
                                  replace H := Option.bind_eq_some_iff.mp H
                                  obtain ⟨⟨t108, t109, t110, t111⟩, A250, H⟩ := H
                                  replace H : (if t111 = true then (if 0 ≤ x72_5 then (if x72_5 < (l0.length : Int) then (if t108 = (wrap64 (rd l0 x72_5)) then (if x72_5 < (l1.length : Int) then (if t109.toList = (rdOf ByteArray.empty l1 x72_5).toList then (laws_FnMessages.l2 k5 l0 l1 t110 (l1.length : Int) (wrap64 (x72_5 + 1))) else (some false)) else (none)) else (some false)) else (none)) else (none)) else (some false)) = some r := H
                                  have A25 := Aside0.mk A250
                                  clear A250
                                  by_cases c26 : t111 = true
                                  · subst c26
                                    have H1 : (if 0 ≤ x72_5 then (if x72_5 < (l0.length : Int) then (if t108 = (wrap64 (rd l0 x72_5)) then (if x72_5 < (l1.length : Int) then (if t109.toList = (rdOf ByteArray.empty l1 x72_5).toList then (laws_FnMessages.l2 k5 l0 l1 t110 (l1.length : Int) (wrap64 (x72_5 + 1))) else (some false)) else (none)) else (some false)) else (none)) else (none)) = some r := by rw [if_pos rfl] at H; exact H
                                    clear H
                                    have H := H1
                                    clear H1
                                    by_cases c27 : 0 ≤ x72_5
                                    · rw [if_pos c27] at H
                                      have c27b0 : decide (0 ≤ x72_5) = true := decide_eq_true c27
                                      clear c27
                                      by_cases c28 : x72_5 < (l0.length : Int)
                                      · rw [if_pos c28] at H
                                        have c28b0 : decide (x72_5 < (l0.length : Int)) = true := decide_eq_true c28
                                        clear c28
                                        by_cases c29 : t108 = (wrap64 (rd l0 x72_5))
                                        · rw [if_pos c29] at H
                                          have c29b0 : (t108 == (wrap64 (rd l0 x72_5))) = true := beq_iff_eq.mpr c29
                                          have c29b1 : (t108 != (wrap64 (rd l0 x72_5))) = false := bne_eq_false_iff_eq.mpr c29
                                          clear c29
                                          by_cases c30 : x72_5 < (l1.length : Int)
                                          · rw [if_pos c30] at H
                                            have c30b0 : decide (x72_5 < (l1.length : Int)) = true := decide_eq_true c30
                                            clear c30
                                            by_cases c31 : t109.toList = (rdOf ByteArray.empty l1 x72_5).toList
                                            · rw [if_pos c31] at H
                                              have c31b0 : (t109.toList == (rdOf ByteArray.empty l1 x72_5).toList) = true := beq_iff_eq.mpr c31
                                              have c31b1 : (t109.toList != (rdOf ByteArray.empty l1 x72_5).toList) = false := bne_eq_false_iff_eq.mpr c31
                                              clear c31
                                              have H' := Aside0.mk H
                                              clear H
                                              go_wp2_with (first | ((with_reducible refine gate_callee (f := 22) rfl ?_); refine goesL_ (some 77) rfl rfl Try.func22 (by kernel_rfl) rfl #[.string x7_5] rfl (by (try simp only [List.map_toArray, List.map_cons, List.map_nil]); first | done | rfl | (simp only [List.length_drop, List.length_take]; rfl) | (simp only [Int.toNat_natCast, ByteArray.extract_zero_size]; rfl)) ?_; (with_reducible refine (impl_MessageRead.calls x7_5 t108 t109 t110 true _ A25.out).mono ?_); rintro e w32 ⟨rfl, hb⟩; refine ⟨_, rfl, ?_⟩; have n0_ := Aside0.mk (below_step (by repeat (first | (with_reducible first | exact HB.out | apply below_alloc | apply pw_below_drewN | apply below_drew1) | exact HB.out)) hb); clear HB; have HB := n0_; clear n0_; (try clear hb); (try clear hb2); (try clear hk); (try clear hi); have p112 : 0 ≤ (x72_5 : Int) := of_decide_eq_true (by first | (with_reducible assumption) | assumption); have q112 : x72_5 < (l0.length : Int) := of_decide_eq_true (by first | (with_reducible assumption) | assumption); obtain ⟨ad112, e112, hx112_0⟩ := Kd.at_int HR0.out x72_5 p112 q112; cases e112; replace hx112_0 := (HB.out.cell (World.block_lt_of_cell? w _ hx112_0)).trans hx112_0; replace p112 := eq_true p112; replace q112 := eq_true q112; have p113 : 0 ≤ (x72_5 : Int) := of_decide_eq_true (by first | (with_reducible assumption) | assumption); have q113 : x72_5 < (l1.length : Int) := of_decide_eq_true (by first | (with_reducible assumption) | assumption); obtain ⟨ad113, e113, hx113_0⟩ := Kd.at_string HR1.out x72_5 p113 q113; cases e113; replace hx113_0 := (HB.out.cell (World.block_lt_of_cell? w _ hx113_0)).trans hx113_0; replace p113 := eq_true p113; replace q113 := eq_true q113))
                                              go_roundg k5
                                              case measure => have := HJ2.out; have := HJ6.out; have := HK3.out; have := HK4.out; have := HK5.out; omega
                                              case rel => exact ⟨(t110), (wrap64 (x72_5 + 1)), (by first | rfl | (simp; done) | (simp [*]; done)), (by first | rfl | (simp; done) | (simp [*]; done)), H', ⟨by have := HJ2.out; have := HJ6.out; have := HK3.out; have := HK4.out; have := HK5.out; omega⟩, ⟨by repeat (first | (with_reducible first | exact HB.out | apply below_alloc | apply pw_below_drewN | apply below_drew1) | exact HB.out)⟩⟩
                                            · rw [if_neg c31] at H
                                              have c31b0 : (t109.toList == (rdOf ByteArray.empty l1 x72_5).toList) = false := beq_eq_false_iff_ne.mpr c31
                                              have c31b1 : (t109.toList != (rdOf ByteArray.empty l1 x72_5).toList) = true := bne_iff_ne.mpr c31
                                              obtain rfl := Option.some.inj H
                                              go_wp2_with (first | ((with_reducible refine gate_callee (f := 22) rfl ?_); refine goesL_ (some 77) rfl rfl Try.func22 (by kernel_rfl) rfl #[.string x7_5] rfl (by (try simp only [List.map_toArray, List.map_cons, List.map_nil]); first | done | rfl | (simp only [List.length_drop, List.length_take]; rfl) | (simp only [Int.toNat_natCast, ByteArray.extract_zero_size]; rfl)) ?_; (with_reducible refine (impl_MessageRead.calls x7_5 t108 t109 t110 true _ A25.out).mono ?_); rintro e w33 ⟨rfl, hb⟩; refine ⟨_, rfl, ?_⟩; have n0_ := Aside0.mk (below_step (by repeat (first | (with_reducible first | exact HB.out | apply below_alloc | apply pw_below_drewN | apply below_drew1) | exact HB.out)) hb); clear HB; have HB := n0_; clear n0_; (try clear hb); (try clear hb2); (try clear hk); (try clear hi); have p112 : 0 ≤ (x72_5 : Int) := of_decide_eq_true (by first | (with_reducible assumption) | assumption); have q112 : x72_5 < (l0.length : Int) := of_decide_eq_true (by first | (with_reducible assumption) | assumption); obtain ⟨ad112, e112, hx112_0⟩ := Kd.at_int HR0.out x72_5 p112 q112; cases e112; replace hx112_0 := (HB.out.cell (World.block_lt_of_cell? w _ hx112_0)).trans hx112_0; replace p112 := eq_true p112; replace q112 := eq_true q112; have p113 : 0 ≤ (x72_5 : Int) := of_decide_eq_true (by first | (with_reducible assumption) | assumption); have q113 : x72_5 < (l1.length : Int) := of_decide_eq_true (by first | (with_reducible assumption) | assumption); obtain ⟨ad113, e113, hx113_0⟩ := Kd.at_string HR1.out x72_5 p113 q113; cases e113; replace hx113_0 := (HB.out.cell (World.block_lt_of_cell? w _ hx113_0)).trans hx113_0; replace p113 := eq_true p113; replace q113 := eq_true q113))
                                              go_ret
                                              exact ⟨by first | rfl | (simp [errW_none, errW_some] <;> rfl) | (simp [*, errW_none, errW_some] <;> rfl), by repeat (first | (with_reducible first | exact HB.out | apply below_alloc | apply pw_below_drewN | apply below_drew1) | exact HB.out)⟩
                                          · rw [if_neg c30] at H
                                            exact absurd H (by simp)
                                        · rw [if_neg c29] at H
                                          have c29b0 : (t108 == (wrap64 (rd l0 x72_5))) = false := beq_eq_false_iff_ne.mpr c29
                                          have c29b1 : (t108 != (wrap64 (rd l0 x72_5))) = true := bne_iff_ne.mpr c29
                                          obtain rfl := Option.some.inj H
                                          go_wp2_with (first | ((with_reducible refine gate_callee (f := 22) rfl ?_); refine goesL_ (some 77) rfl rfl Try.func22 (by kernel_rfl) rfl #[.string x7_5] rfl (by (try simp only [List.map_toArray, List.map_cons, List.map_nil]); first | done | rfl | (simp only [List.length_drop, List.length_take]; rfl) | (simp only [Int.toNat_natCast, ByteArray.extract_zero_size]; rfl)) ?_; (with_reducible refine (impl_MessageRead.calls x7_5 t108 t109 t110 true _ A25.out).mono ?_); rintro e w34 ⟨rfl, hb⟩; refine ⟨_, rfl, ?_⟩; have n0_ := Aside0.mk (below_step (by repeat (first | (with_reducible first | exact HB.out | apply below_alloc | apply pw_below_drewN | apply below_drew1) | exact HB.out)) hb); clear HB; have HB := n0_; clear n0_; (try clear hb); (try clear hb2); (try clear hk); (try clear hi); have p112 : 0 ≤ (x72_5 : Int) := of_decide_eq_true (by first | (with_reducible assumption) | assumption); have q112 : x72_5 < (l0.length : Int) := of_decide_eq_true (by first | (with_reducible assumption) | assumption); obtain ⟨ad112, e112, hx112_0⟩ := Kd.at_int HR0.out x72_5 p112 q112; cases e112; replace hx112_0 := (HB.out.cell (World.block_lt_of_cell? w _ hx112_0)).trans hx112_0; replace p112 := eq_true p112; replace q112 := eq_true q112))
                                          go_ret
                                          exact ⟨by first | rfl | (simp [errW_none, errW_some] <;> rfl) | (simp [*, errW_none, errW_some] <;> rfl), by repeat (first | (with_reducible first | exact HB.out | apply below_alloc | apply pw_below_drewN | apply below_drew1) | exact HB.out)⟩
                                      · rw [if_neg c28] at H
                                        exact absurd H (by simp)
                                    · rw [if_neg c27] at H
                                      exact absurd H (by simp)
                                  · replace c26 := Bool.eq_false_iff.mpr c26
                                    subst c26
                                    have H1 : (some false) = some r := by rw [if_neg (show ¬ (false = true) by decide)] at H; exact H
                                    clear H
                                    have H := H1
                                    clear H1
                                    obtain rfl := Option.some.inj H
                                    go_wp2_with (first | ((with_reducible refine gate_callee (f := 22) rfl ?_); refine goesL_ (some 77) rfl rfl Try.func22 (by kernel_rfl) rfl #[.string x7_5] rfl (by (try simp only [List.map_toArray, List.map_cons, List.map_nil]); first | done | rfl | (simp only [List.length_drop, List.length_take]; rfl) | (simp only [Int.toNat_natCast, ByteArray.extract_zero_size]; rfl)) ?_; (with_reducible refine (impl_MessageRead.calls x7_5 t108 t109 t110 false _ A25.out).mono ?_); rintro e w35 ⟨rfl, hb⟩; refine ⟨_, rfl, ?_⟩; have n0_ := Aside0.mk (below_step (by repeat (first | (with_reducible first | exact HB.out | apply below_alloc | apply pw_below_drewN | apply below_drew1) | exact HB.out)) hb); clear HB; have HB := n0_; clear n0_; (try clear hb); (try clear hb2); (try clear hk); (try clear hi)))
                                    go_ret
                                    exact ⟨by first | rfl | (simp [errW_none, errW_some] <;> rfl) | (simp [*, errW_none, errW_some] <;> rfl), by repeat (first | (with_reducible first | exact HB.out | apply below_alloc | apply pw_below_drewN | apply below_drew1) | exact HB.out)⟩
                                · rw [if_neg c24] at H
                                  have c24b0 : decide (x72_5 < (l1.length : Int)) = false := decide_eq_false c24
                                  clear c24
                                  by_cases c36 : x7_5.toList = ([] : List UInt8)
                                  · rw [if_pos c36] at H
                                    have c36b0 : (x7_5.toList == ([] : List UInt8)) = true := beq_iff_eq.mpr c36
                                    have c36b1 : (x7_5.toList != ([] : List UInt8)) = false := bne_eq_false_iff_eq.mpr c36
                                    clear c36
                                    replace H := Option.bind_eq_some_iff.mp H
                                    obtain ⟨t114, A370, H⟩ := H
                                    replace H : (some (t114.toList == ([0, 0, 0, 2, 0, 1] : List UInt8))) = some r := H
                                    have A37 := Aside0.mk A370
                                    clear A370
                                    obtain rfl := Option.some.inj H
                                    go_wp2_with (first | (go_at_call 21; (with_reducible refine (impl_MessageWritten.calls 1 (⟨#[]⟩ : ByteArray) t114 _ A37.out).mono ?_); rintro e w38 ⟨rfl, hb⟩; have n0_ := Aside0.mk (below_step (by repeat (first | (with_reducible first | exact HB.out | apply below_alloc | apply pw_below_drewN | apply below_drew1) | exact HB.out)) hb); clear HB; have HB := n0_; clear n0_; (try clear hb); (try clear hb2); (try clear hk); (try clear hi)))
                                    go_ret
                                    exact ⟨by first | rfl | (simp [errW_none, errW_some] <;> rfl) | (simp [*, errW_none, errW_some] <;> rfl), by repeat (first | (with_reducible first | exact HB.out | apply below_alloc | apply pw_below_drewN | apply below_drew1) | exact HB.out)⟩
                                  · rw [if_neg c36] at H
                                    have c36b0 : (x7_5.toList == ([] : List UInt8)) = false := beq_eq_false_iff_ne.mpr c36
                                    have c36b1 : (x7_5.toList != ([] : List UInt8)) = true := bne_iff_ne.mpr c36
                                    obtain rfl := Option.some.inj H
                                    go_wp2
                                    go_ret
                                    exact ⟨by first | rfl | (simp [errW_none, errW_some] <;> rfl) | (simp [*, errW_none, errW_some] <;> rfl), by repeat (first | (with_reducible first | exact HB.out | apply below_alloc | apply pw_below_drewN | apply below_drew1) | exact HB.out)⟩

/-- THE ONE PURE STATEMENT of laws_FnMessages: yours. -/
def laws_FnMessages.Pure : Prop := ∀ (l0 : List Int) (l1 : List ByteArray), l0.length ≤ maxLen → (∀ x ∈ l0, (Lit.int .u16 x).wf = true) → l1.length ≤ maxLen → (∀ x ∈ l1, x.size ≤ maxLen) → ∃ k, laws_FnMessages.f k l0 l1 = some true
theorem laws_FnMessages.walk (P : laws_FnMessages.Pure) (A0 : Option Addr) (c0 : Nat) (l0 : List Int) (A1 : Option Addr) (c1 : Nat) (l1 : List ByteArray) (w : World) (hr0 : Kd.C (Kd.int .u16) w A0 l0.length l0) (hc0 : l0.length ≤ c0) (hm0 : l0.length ≤ maxLen) (hg0 : ∀ x ∈ l0, (Lit.int .u16 x).wf = true) (hr1 : Kd.C Kd.string w A1 l1.length l1) (hc1 : l1.length ≤ c1) (hm1 : l1.length ≤ maxLen) (hg1 : ∀ x ∈ l1, x.size ≤ maxLen) :
    Calls Try.prog 6 #[.slice A0 l0.length c0, .slice A1 l1.length c1] w fun e w' => e = .returned (.bool true) ∧ Below w.heap.size w w' := by
  obtain ⟨k, h⟩ := P l0 l1 hm0 hg0 hm1 hg1
  refine (laws_FnMessages.calls k A0 c0 l0 A1 c1 l1 true w hr0 hc0 hr1 hc1 h).mono ?_
  rintro e w' ⟨rfl, hd⟩
  exact ⟨rfl, hd⟩

end Go.Proofs.Ythkblefeifdhaaa.PFnMessages
