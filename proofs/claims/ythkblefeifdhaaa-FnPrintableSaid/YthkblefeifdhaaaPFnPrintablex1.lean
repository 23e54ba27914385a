-- PRINTED BY print.sh 35421559b90ae4d0a3588c463048766b98c2df88dd9212a6774a882060cdf62d: not written by this session
import Derived.Test.YthkblefeifdhaaaPFnPrintablex0
namespace Go.Proofs.Ythkblefeifdhaaa.PFnPrintable
open Go.RowKit Go.Proofs.YthkblefeifdhaaaW.PrintWords Go.Proofs.YthkblefeifdhaaaW.PrintLast Go.Proofs.YthkblefeifdhaaaW.PrintMore
attribute [local go_sem] max2_int min2_int max_two min_two max_three min_three max_four min_four   -- for this text's walks alone
set_option linter.unusedVariables false
set_option linter.unusedSimpArgs false

/-! ### readline_IsPrintable: function 41 -/
def readline_IsPrintable.f (a0 : Int) : Option (Bool) := if a0 ≥ 55296 then (if a0 ≥ 32 then (some (!(decide (a0 ≤ 56319)))) else (some false)) else (if a0 ≥ 32 then (some (!false)) else (some false))
set_option maxHeartbeats 8000000 in
set_option maxRecDepth 100000 in
theorem readline_IsPrintable.calls (a0 : Int) (r : Bool) (w : World) (h : readline_IsPrintable.f a0 = some r) :
    Calls Try.prog 41 #[.int .i32 a0] w fun e w' => e = .returned (.bool r) ∧ Drawn0 w w' := by
  have H : (if a0 ≥ 55296 then (if a0 ≥ 32 then (some (!(decide (a0 ≤ 56319)))) else (some false)) else (if a0 ≥ 32 then (some (!false)) else (some false))) = some r := h
  clear h
  by_cases c2 : a0 ≥ 55296
  · rw [if_pos c2] at H
    have c2b0 : decide (55296 ≤ a0) = true := decide_eq_true c2
    clear c2
    by_cases c3 : a0 ≥ 32
    · rw [if_pos c3] at H
      have c3b0 : decide (32 ≤ a0) = true := decide_eq_true c3
      clear c3
      obtain rfl := Option.some.inj H
      go_enter Try.func41, Try.ntmps41
      go_wp2
      go_ret
      exact ⟨by first | rfl | (simp; done) | (simp [*]; done), by repeat (first | exact Drawn0.refl _ | apply Drawn0.step)⟩
    · rw [if_neg c3] at H
      have c3b0 : decide (32 ≤ a0) = false := decide_eq_false c3
      clear c3
      obtain rfl := Option.some.inj H
      go_enter Try.func41, Try.ntmps41
      go_wp2
      go_ret
      exact ⟨by first | rfl | (simp; done) | (simp [*]; done), by repeat (first | exact Drawn0.refl _ | apply Drawn0.step)⟩
  · rw [if_neg c2] at H
    have c2b0 : decide (55296 ≤ a0) = false := decide_eq_false c2
    clear c2
    by_cases c4 : a0 ≥ 32
    · rw [if_pos c4] at H
      have c4b0 : decide (32 ≤ a0) = true := decide_eq_true c4
      clear c4
      obtain rfl := Option.some.inj H
      go_enter Try.func41, Try.ntmps41
      go_wp2
      go_ret
      exact ⟨by first | rfl | (simp; done) | (simp [*]; done), by repeat (first | exact Drawn0.refl _ | apply Drawn0.step)⟩
    · rw [if_neg c4] at H
      have c4b0 : decide (32 ≤ a0) = false := decide_eq_false c4
      clear c4
      obtain rfl := Option.some.inj H
      go_enter Try.func41, Try.ntmps41
      go_wp2
      go_ret
      exact ⟨by first | rfl | (simp; done) | (simp [*]; done), by repeat (first | exact Drawn0.refl _ | apply Drawn0.step)⟩

/-! ### impl_Printable: function 13 -/
def impl_Printable.f (a0 : Int) : Option (Bool) := (readline_IsPrintable.f (wrap32 (a0))).bind fun t101 => (some t101)
set_option maxHeartbeats 8000000 in
set_option maxRecDepth 100000 in
theorem impl_Printable.calls (a0 : Int) (r : Bool) (w : World) (h : impl_Printable.f a0 = some r) :
    Calls Try.prog 13 #[.int .i64 a0] w fun e w' => e = .returned (.bool r) ∧ Drawn0 w w' := by
  have H : ((readline_IsPrintable.f (wrap32 (a0))).bind fun t101 => (some t101)) = some r := h
  clear h
  replace H := Option.bind_eq_some_iff.mp H
  obtain ⟨t101, A20, H⟩ := H
  replace H : (some t101) = some r := H
  have A2 := Aside0.mk A20
  clear A20
  obtain rfl := Option.some.inj H
  go_enter Try.func13, Try.ntmps13
  go_wp2_with (first | ((with_reducible refine gate_callee (f := 41) rfl ?_); refine goesL_ (some 5) rfl rfl Try.func41 (by kernel_rfl) rfl #[.int .i32 (wrap32 (a0))] rfl (by (try simp only [List.map_toArray, List.map_cons, List.map_nil]); first | done | rfl | (simp only [List.length_drop, List.length_take]; rfl)) ?_; (with_reducible refine (readline_IsPrintable.calls (wrap32 (a0)) t101 _ A2.out).mono ?_); rintro e w' ⟨rfl, ⟨nd, rfl⟩⟩; refine ⟨_, rfl, ?_⟩))
  go_ret
  exact ⟨by first | rfl | (simp; done) | (simp [*]; done), by repeat (first | exact Drawn0.refl _ | apply Drawn0.step)⟩

/-! ### readline_IsWordBreak: function 42 -/
mutual
def readline_IsWordBreak.j0 : Nat → Int → Bool → Option (Bool)
  | 0, _, _ => none
  | k + 1, x0, x3 => if x3 = true then (some false) else (if x0 ≥ 65 then (readline_IsWordBreak.j1 k x0 (decide (x0 ≤ 90))) else (readline_IsWordBreak.j1 k x0 false))
def readline_IsWordBreak.j1 : Nat → Int → Bool → Option (Bool)
  | 0, _, _ => none
  | k + 1, x0, x10 => if x10 = true then (some false) else (if x0 ≥ 48 then (if x0 ≤ 57 then (some false) else (some true)) else (some true))
end
def readline_IsWordBreak.f (k : Nat) (a0 : Int) : Option (Bool) := if a0 ≥ 97 then (readline_IsWordBreak.j0 k a0 (decide (a0 ≤ 122))) else (readline_IsWordBreak.j0 k a0 false)
theorem readline_IsWordBreak.mono_l : ∀ k, (∀ y0 y1, LeO (readline_IsWordBreak.j0 k y0 y1) (readline_IsWordBreak.j0 (k + 1) y0 y1)) ∧ (∀ y0 y1, LeO (readline_IsWordBreak.j1 k y0 y1) (readline_IsWordBreak.j1 (k + 1) y0 y1))
  | 0 => ⟨fun _ _ r h => by simp [readline_IsWordBreak.j0] at h, fun _ _ r h => by simp [readline_IsWordBreak.j1] at h⟩
  | k + 1 => by
    obtain ⟨ih0, ih1⟩ := readline_IsWordBreak.mono_l k
    refine ⟨?_, ?_⟩
    · intro y0 y1
      unfold readline_IsWordBreak.j0
      repeat' first
      | (with_reducible exact ih0 _ _)
      | (with_reducible exact ih1 _ _)
      | (with_reducible exact LeO.refl _)
      | (with_reducible exact LeO.none _)
      | (with_reducible refine LeO.ite ?_ ?_)
      | (with_reducible refine LeO.bind ?_ (fun _ => ?_))
      | exact ih0 _ _
      | exact ih1 _ _
      | exact LeO.none _
      | refine LeO.ite ?_ ?_
      | refine LeO.bind ?_ (fun _ => ?_)
    · intro y0 y1
      unfold readline_IsWordBreak.j1
      repeat' first
      | (with_reducible exact ih0 _ _)
      | (with_reducible exact ih1 _ _)
      | (with_reducible exact LeO.refl _)
      | (with_reducible exact LeO.none _)
      | (with_reducible refine LeO.ite ?_ ?_)
      | (with_reducible refine LeO.bind ?_ (fun _ => ?_))
      | exact ih0 _ _
      | exact ih1 _ _
      | exact LeO.none _
      | refine LeO.ite ?_ ?_
      | refine LeO.bind ?_ (fun _ => ?_)
theorem readline_IsWordBreak.mono : ∀ a0 k, LeO (readline_IsWordBreak.f k a0) (readline_IsWordBreak.f (k + 1) a0) := by
  intro a0 k
  obtain ⟨ih0, ih1⟩ := readline_IsWordBreak.mono_l k
  unfold readline_IsWordBreak.f
  repeat' first
      | (with_reducible exact ih0 _ _)
      | (with_reducible exact ih1 _ _)
      | (with_reducible exact LeO.refl _)
      | (with_reducible exact LeO.none _)
      | (with_reducible refine LeO.ite ?_ ?_)
      | (with_reducible refine LeO.bind ?_ (fun _ => ?_))
      | exact ih0 _ _
      | exact ih1 _ _
      | exact LeO.none _
      | refine LeO.ite ?_ ?_
      | refine LeO.bind ?_ (fun _ => ?_)
set_option maxHeartbeats 8000000 in
set_option maxRecDepth 100000 in
theorem readline_IsWordBreak.calls (k : Nat) (a0 : Int) (r : Bool) (w : World) (h : readline_IsWordBreak.f k a0 = some r) :
    Calls Try.prog 42 #[.int .i32 a0] w fun e w' => e = .returned (.bool r) ∧ Drawn0 w w' := by
  have H : (if a0 ≥ 97 then (readline_IsWordBreak.j0 k a0 (decide (a0 ≤ 122))) else (readline_IsWordBreak.j0 k a0 false)) = some r := h
  clear h
  have HC2 := Aside0.mk H
  clear H
  go_enter Try.func42, Try.ntmps42
  go_upto_region 2 with (fail)
  go_cut [3] (fun v3 wc => ∃ (kq : Nat) (x3_1 : Bool), v3 = .bool x3_1 ∧ Aside0 (readline_IsWordBreak.j0 kq a0 x3_1 = some r) ∧ Aside0 (kq ≤ k) ∧ Drawn0 w wc)
  case first =>
    have H := HC2.out
    clear HC2
    by_cases c3 : a0 ≥ 97
    · rw [if_pos c3] at H
      have c3b0 : decide (97 ≤ a0) = true := decide_eq_true c3
      clear c3
      (first | rw [c3b0] | (simp only [i64_w, i32_w]; rw [c3b0]) | skip)
      have H' := Aside0.mk H
      clear H
      go_wp2
      go_meet
      case rel => exact ⟨_, (decide (a0 ≤ 122)), (by first | rfl | (simp; done) | (simp [*]; done)), H', ⟨by first | omega | exact Nat.le_refl _⟩, by repeat (first | exact Drawn0.refl _ | apply Drawn0.step)⟩
    · rw [if_neg c3] at H
      have c3b0 : decide (97 ≤ a0) = false := decide_eq_false c3
      clear c3
      (first | rw [c3b0] | (simp only [i64_w, i32_w]; rw [c3b0]) | skip)
      have H' := Aside0.mk H
      clear H
      go_wp2
      go_meet
      case rel => exact ⟨_, (false), (by first | rfl | (simp; done) | (simp [*]; done)), H', ⟨by first | omega | exact Nat.le_refl _⟩, by repeat (first | exact Drawn0.refl _ | apply Drawn0.step)⟩
  case rest =>
    clear HC2
    try clear p2
    try clear c3
    try clear c3b0
    obtain ⟨kq, x3_1, rfl, HA, HJ1, ⟨mc1, rfl⟩⟩ := hcut
    cases kq with
    | zero => exact absurd HA.out (by simp [readline_IsWordBreak.j0])
    | succ kj1 =>
      have H := HA.out
      clear HA
      simp only [readline_IsWordBreak.j0] at H
      by_cases c4 : x3_1 = true
      · subst c4
        have H1 : (some false) = some r := by rw [if_pos rfl] at H; exact H
        clear H
        have H := H1
        clear H1
        obtain rfl := Option.some.inj H
        go_wp2
        go_ret
        exact ⟨by first | rfl | (simp; done) | (simp [*]; done), by repeat (first | exact Drawn0.refl _ | apply Drawn0.step)⟩
      · replace c4 := Bool.eq_false_iff.mpr c4
        subst c4
        have H1 : (if a0 ≥ 65 then (readline_IsWordBreak.j1 kj1 a0 (decide (a0 ≤ 90))) else (readline_IsWordBreak.j1 kj1 a0 false)) = some r := by rw [if_neg (show ¬ (false = true) by decide)] at H; exact H
        clear H
        have H := H1
        clear H1
        have HC5 := Aside0.mk H
        clear H
        go_upto_region 3 with (fail)
        go_cut [10] (fun v10 wc => ∃ (kq : Nat) (x10_4 : Bool), v10 = .bool x10_4 ∧ Aside0 (readline_IsWordBreak.j1 kq a0 x10_4 = some r) ∧ Aside0 (kq ≤ kj1) ∧ Drawn0 w wc)
        case first =>
          have H := HC5.out
          clear HC5
          by_cases c6 : a0 ≥ 65
          · rw [if_pos c6] at H
            have c6b0 : decide (65 ≤ a0) = true := decide_eq_true c6
            clear c6
            (first | rw [c6b0] | (simp only [i64_w, i32_w]; rw [c6b0]) | skip)
            have H' := Aside0.mk H
            clear H
            go_wp2
            go_meet
            case rel => exact ⟨_, (decide (a0 ≤ 90)), (by first | rfl | (simp; done) | (simp [*]; done)), H', ⟨by have := HJ1.out; first | omega | exact Nat.le_refl _⟩, by repeat (first | exact Drawn0.refl _ | apply Drawn0.step)⟩
          · rw [if_neg c6] at H
            have c6b0 : decide (65 ≤ a0) = false := decide_eq_false c6
            clear c6
            (first | rw [c6b0] | (simp only [i64_w, i32_w]; rw [c6b0]) | skip)
            have H' := Aside0.mk H
            clear H
            go_wp2
            go_meet
            case rel => exact ⟨_, (false), (by first | rfl | (simp; done) | (simp [*]; done)), H', ⟨by have := HJ1.out; first | omega | exact Nat.le_refl _⟩, by repeat (first | exact Drawn0.refl _ | apply Drawn0.step)⟩
        case rest =>
          clear HC5
          try clear c1
          try clear p2
          try clear c3
          try clear c3b0
          try clear c4
          try clear c6
          try clear c6b0
          try clear p2
          obtain ⟨kq, x10_4, rfl, HA, HJ4, ⟨mc4, rfl⟩⟩ := hcut
          cases kq with
          | zero => exact absurd HA.out (by simp [readline_IsWordBreak.j1])
          | succ kj4 =>
            have H := HA.out
            clear HA
            simp only [readline_IsWordBreak.j1] at H
            by_cases c7 : x10_4 = true
            · subst c7
              have H1 : (some false) = some r := by rw [if_pos rfl] at H; exact H
              clear H
              have H := H1
              clear H1
              obtain rfl := Option.some.inj H
              go_wp2
              go_ret
              exact ⟨by first | rfl | (simp; done) | (simp [*]; done), by repeat (first | exact Drawn0.refl _ | apply Drawn0.step)⟩
            · replace c7 := Bool.eq_false_iff.mpr c7
              subst c7
              have H1 : (if a0 ≥ 48 then (if a0 ≤ 57 then (some false) else (some true)) else (some true)) = some r := by rw [if_neg (show ¬ (false = true) by decide)] at H; exact H
              clear H
              have H := H1
              clear H1
              by_cases c8 : a0 ≥ 48
              · rw [if_pos c8] at H
                have c8b0 : decide (48 ≤ a0) = true := decide_eq_true c8
                clear c8
                by_cases c9 : a0 ≤ 57
                · rw [if_pos c9] at H
                  have c9b0 : decide (a0 ≤ 57) = true := decide_eq_true c9
                  clear c9
                  obtain rfl := Option.some.inj H
                  go_wp2
                  go_ret
                  exact ⟨by first | rfl | (simp; done) | (simp [*]; done), by repeat (first | exact Drawn0.refl _ | apply Drawn0.step)⟩
                · rw [if_neg c9] at H
                  have c9b0 : decide (a0 ≤ 57) = false := decide_eq_false c9
                  clear c9
                  obtain rfl := Option.some.inj H
                  go_wp2
                  go_ret
                  exact ⟨by first | rfl | (simp; done) | (simp [*]; done), by repeat (first | exact Drawn0.refl _ | apply Drawn0.step)⟩
              · rw [if_neg c8] at H
                have c8b0 : decide (48 ≤ a0) = false := decide_eq_false c8
                clear c8
                obtain rfl := Option.some.inj H
                go_wp2
                go_ret
                exact ⟨by first | rfl | (simp; done) | (simp [*]; done), by repeat (first | exact Drawn0.refl _ | apply Drawn0.step)⟩

/-! ### impl_WordBreak: function 14 -/
def impl_WordBreak.f (k : Nat) (a0 : Int) : Option (Bool) := (readline_IsWordBreak.f k (wrap32 (a0))).bind fun t102 => (some t102)
theorem impl_WordBreak.mono : ∀ a0 k, LeO (impl_WordBreak.f k a0) (impl_WordBreak.f (k + 1) a0) := by
  intro a0 k
  unfold impl_WordBreak.f
  repeat' first
      | (with_reducible exact readline_IsWordBreak.mono _ _)
      | (with_reducible exact LeO.refl _)
      | (with_reducible exact LeO.none _)
      | (with_reducible refine LeO.ite ?_ ?_)
      | (with_reducible refine LeO.bind ?_ (fun _ => ?_))
      | exact readline_IsWordBreak.mono _ _
      | exact LeO.none _
      | refine LeO.ite ?_ ?_
      | refine LeO.bind ?_ (fun _ => ?_)
set_option maxHeartbeats 8000000 in
set_option maxRecDepth 100000 in
theorem impl_WordBreak.calls (k : Nat) (a0 : Int) (r : Bool) (w : World) (h : impl_WordBreak.f k a0 = some r) :
    Calls Try.prog 14 #[.int .i64 a0] w fun e w' => e = .returned (.bool r) ∧ Drawn0 w w' := by
  have H : ((readline_IsWordBreak.f k (wrap32 (a0))).bind fun t102 => (some t102)) = some r := h
  clear h
  replace H := Option.bind_eq_some_iff.mp H
  obtain ⟨t102, A20, H⟩ := H
  replace H : (some t102) = some r := H
  have A2 := Aside0.mk A20
  clear A20
  obtain rfl := Option.some.inj H
  go_enter Try.func14, Try.ntmps14
  go_wp2_with (first | ((with_reducible refine gate_callee (f := 42) rfl ?_); refine goesL_ (some 5) rfl rfl Try.func42 (by kernel_rfl) rfl #[.int .i32 (wrap32 (a0))] rfl (by (try simp only [List.map_toArray, List.map_cons, List.map_nil]); first | done | rfl | (simp only [List.length_drop, List.length_take]; rfl)) ?_; (with_reducible refine (readline_IsWordBreak.calls k (wrap32 (a0)) t102 _ A2.out).mono ?_); rintro e w' ⟨rfl, ⟨nd, rfl⟩⟩; refine ⟨_, rfl, ?_⟩))
  go_ret
  exact ⟨by first | rfl | (simp; done) | (simp [*]; done), by repeat (first | exact Drawn0.refl _ | apply Drawn0.step)⟩

/-! ### spec_IsWordSign: function 15 -/
def spec_IsWordSign.f (a0 : Int) : Option (Bool) := if a0 ≥ 97 then (if a0 ≤ 122 then (some true) else (if a0 ≥ 65 then (if a0 ≤ 90 then (some true) else (if a0 ≥ 48 then (some (decide (a0 ≤ 57))) else (some false))) else (if a0 ≥ 48 then (some (decide (a0 ≤ 57))) else (some false)))) else (if a0 ≥ 65 then (if a0 ≤ 90 then (some true) else (if a0 ≥ 48 then (some (decide (a0 ≤ 57))) else (some false))) else (if a0 ≥ 48 then (some (decide (a0 ≤ 57))) else (some false)))
set_option maxHeartbeats 8000000 in
set_option maxRecDepth 100000 in
theorem spec_IsWordSign.calls (a0 : Int) (r : Bool) (w : World) (h : spec_IsWordSign.f a0 = some r) :
    Calls Try.prog 15 #[.int .i32 a0] w fun e w' => e = .returned (.bool r) ∧ Drawn0 w w' := by
  have H : (if a0 ≥ 97 then (if a0 ≤ 122 then (some true) else (if a0 ≥ 65 then (if a0 ≤ 90 then (some true) else (if a0 ≥ 48 then (some (decide (a0 ≤ 57))) else (some false))) else (if a0 ≥ 48 then (some (decide (a0 ≤ 57))) else (some false)))) else (if a0 ≥ 65 then (if a0 ≤ 90 then (some true) else (if a0 ≥ 48 then (some (decide (a0 ≤ 57))) else (some false))) else (if a0 ≥ 48 then (some (decide (a0 ≤ 57))) else (some false)))) = some r := h
  clear h
  by_cases c2 : a0 ≥ 97
  · rw [if_pos c2] at H
    have c2b0 : decide (97 ≤ a0) = true := decide_eq_true c2
    clear c2
    by_cases c3 : a0 ≤ 122
    · rw [if_pos c3] at H
      have c3b0 : decide (a0 ≤ 122) = true := decide_eq_true c3
      clear c3
      obtain rfl := Option.some.inj H
      go_enter Try.func15, Try.ntmps15
      go_wp2
      go_ret
      exact ⟨by first | rfl | (simp; done) | (simp [*]; done), by repeat (first | exact Drawn0.refl _ | apply Drawn0.step)⟩
    · rw [if_neg c3] at H
      have c3b0 : decide (a0 ≤ 122) = false := decide_eq_false c3
      clear c3
      by_cases c4 : a0 ≥ 65
      · rw [if_pos c4] at H
        have c4b0 : decide (65 ≤ a0) = true := decide_eq_true c4
        clear c4
        by_cases c5 : a0 ≤ 90
        · rw [if_pos c5] at H
          have c5b0 : decide (a0 ≤ 90) = true := decide_eq_true c5
          clear c5
          obtain rfl := Option.some.inj H
          go_enter Try.func15, Try.ntmps15
          go_wp2
          go_ret
          exact ⟨by first | rfl | (simp; done) | (simp [*]; done), by repeat (first | exact Drawn0.refl _ | apply Drawn0.step)⟩
        · rw [if_neg c5] at H
          have c5b0 : decide (a0 ≤ 90) = false := decide_eq_false c5
          clear c5
          by_cases c6 : a0 ≥ 48
          · rw [if_pos c6] at H
            have c6b0 : decide (48 ≤ a0) = true := decide_eq_true c6
            clear c6
            obtain rfl := Option.some.inj H
            go_enter Try.func15, Try.ntmps15
            go_wp2
            go_ret
            exact ⟨by first | rfl | (simp; done) | (simp [*]; done), by repeat (first | exact Drawn0.refl _ | apply Drawn0.step)⟩
          · rw [if_neg c6] at H
            have c6b0 : decide (48 ≤ a0) = false := decide_eq_false c6
            clear c6
            obtain rfl := Option.some.inj H
            go_enter Try.func15, Try.ntmps15
            go_wp2
            go_ret
            exact ⟨by first | rfl | (simp; done) | (simp [*]; done), by repeat (first | exact Drawn0.refl _ | apply Drawn0.step)⟩
      · rw [if_neg c4] at H
        have c4b0 : decide (65 ≤ a0) = false := decide_eq_false c4
        clear c4
        by_cases c7 : a0 ≥ 48
        · rw [if_pos c7] at H
          have c7b0 : decide (48 ≤ a0) = true := decide_eq_true c7
          clear c7
          obtain rfl := Option.some.inj H
          go_enter Try.func15, Try.ntmps15
          go_wp2
          go_ret
          exact ⟨by first | rfl | (simp; done) | (simp [*]; done), by repeat (first | exact Drawn0.refl _ | apply Drawn0.step)⟩
        · rw [if_neg c7] at H
          have c7b0 : decide (48 ≤ a0) = false := decide_eq_false c7
          clear c7
          obtain rfl := Option.some.inj H
          go_enter Try.func15, Try.ntmps15
          go_wp2
          go_ret
          exact ⟨by first | rfl | (simp; done) | (simp [*]; done), by repeat (first | exact Drawn0.refl _ | apply Drawn0.step)⟩
  · rw [if_neg c2] at H
    have c2b0 : decide (97 ≤ a0) = false := decide_eq_false c2
    clear c2
    by_cases c8 : a0 ≥ 65
    · rw [if_pos c8] at H
      have c8b0 : decide (65 ≤ a0) = true := decide_eq_true c8
      clear c8
      by_cases c9 : a0 ≤ 90
      · rw [if_pos c9] at H
        have c9b0 : decide (a0 ≤ 90) = true := decide_eq_true c9
        clear c9
        obtain rfl := Option.some.inj H
        go_enter Try.func15, Try.ntmps15
        go_wp2
        go_ret
        exact ⟨by first | rfl | (simp; done) | (simp [*]; done), by repeat (first | exact Drawn0.refl _ | apply Drawn0.step)⟩
      · rw [if_neg c9] at H
        have c9b0 : decide (a0 ≤ 90) = false := decide_eq_false c9
        clear c9
        by_cases c10 : a0 ≥ 48
        · rw [if_pos c10] at H
          have c10b0 : decide (48 ≤ a0) = true := decide_eq_true c10
          clear c10
          obtain rfl := Option.some.inj H
          go_enter Try.func15, Try.ntmps15
          go_wp2
          go_ret
          exact ⟨by first | rfl | (simp; done) | (simp [*]; done), by repeat (first | exact Drawn0.refl _ | apply Drawn0.step)⟩
        · rw [if_neg c10] at H
          have c10b0 : decide (48 ≤ a0) = false := decide_eq_false c10
          clear c10
          obtain rfl := Option.some.inj H
          go_enter Try.func15, Try.ntmps15
          go_wp2
          go_ret
          exact ⟨by first | rfl | (simp; done) | (simp [*]; done), by repeat (first | exact Drawn0.refl _ | apply Drawn0.step)⟩
    · rw [if_neg c8] at H
      have c8b0 : decide (65 ≤ a0) = false := decide_eq_false c8
      clear c8
      by_cases c11 : a0 ≥ 48
      · rw [if_pos c11] at H
        have c11b0 : decide (48 ≤ a0) = true := decide_eq_true c11
        clear c11
        obtain rfl := Option.some.inj H
        go_enter Try.func15, Try.ntmps15
        go_wp2
        go_ret
        exact ⟨by first | rfl | (simp; done) | (simp [*]; done), by repeat (first | exact Drawn0.refl _ | apply Drawn0.step)⟩
      · rw [if_neg c11] at H
        have c11b0 : decide (48 ≤ a0) = false := decide_eq_false c11
        clear c11
        obtain rfl := Option.some.inj H
        go_enter Try.func15, Try.ntmps15
        go_wp2
        go_ret
        exact ⟨by first | rfl | (simp; done) | (simp [*]; done), by repeat (first | exact Drawn0.refl _ | apply Drawn0.step)⟩

/-! ### laws_FnPrintable: function 3 -/
def laws_FnPrintable.f (k : Nat) (a0 : Int) : Option (Bool) := if a0 > 1114111 then (some true) else ((impl_Printable.f (wrap64 (a0))).bind fun t103 => (if a0 ≥ 32 then (if a0 < 55296 then (if (t103 == true) = true then ((impl_WordBreak.f k (wrap64 (a0))).bind fun t104 => ((spec_IsWordSign.f (wrap32 (a0))).bind fun t105 => (some (t104 == (!t105))))) else (some false)) else (if (t103 == (decide (a0 > 56319))) = true then ((impl_WordBreak.f k (wrap64 (a0))).bind fun t106 => ((spec_IsWordSign.f (wrap32 (a0))).bind fun t107 => (some (t106 == (!t107))))) else (some false))) else (if (t103 == false) = true then ((impl_WordBreak.f k (wrap64 (a0))).bind fun t108 => ((spec_IsWordSign.f (wrap32 (a0))).bind fun t109 => (some (t108 == (!t109))))) else (some false))))
theorem laws_FnPrintable.mono : ∀ a0 k, LeO (laws_FnPrintable.f k a0) (laws_FnPrintable.f (k + 1) a0) := by
  intro a0 k
  unfold laws_FnPrintable.f
  repeat' first
      | (with_reducible exact impl_WordBreak.mono _ _)
      | (with_reducible exact LeO.refl _)
      | (with_reducible exact LeO.none _)
      | (with_reducible refine LeO.ite ?_ ?_)
      | (with_reducible refine LeO.bind ?_ (fun _ => ?_))
      | exact impl_WordBreak.mono _ _
      | exact LeO.none _
      | refine LeO.ite ?_ ?_
      | refine LeO.bind ?_ (fun _ => ?_)
set_option maxHeartbeats 8000000 in
set_option maxRecDepth 100000 in
theorem laws_FnPrintable.calls (k : Nat) (a0 : Int) (r : Bool) (w : World) (h : laws_FnPrintable.f k a0 = some r) :
    Calls Try.prog 3 #[.int .u32 a0] w fun e w' => e = .returned (.bool r) ∧ Drawn0 w w' := by
  have H : (if a0 > 1114111 then (some true) else ((impl_Printable.f (wrap64 (a0))).bind fun t103 => (if a0 ≥ 32 then (if a0 < 55296 then (if (t103 == true) = true then ((impl_WordBreak.f k (wrap64 (a0))).bind fun t104 => ((spec_IsWordSign.f (wrap32 (a0))).bind fun t105 => (some (t104 == (!t105))))) else (some false)) else (if (t103 == (decide (a0 > 56319))) = true then ((impl_WordBreak.f k (wrap64 (a0))).bind fun t106 => ((spec_IsWordSign.f (wrap32 (a0))).bind fun t107 => (some (t106 == (!t107))))) else (some false))) else (if (t103 == false) = true then ((impl_WordBreak.f k (wrap64 (a0))).bind fun t108 => ((spec_IsWordSign.f (wrap32 (a0))).bind fun t109 => (some (t108 == (!t109))))) else (some false))))) = some r := h
  clear h
  by_cases c2 : a0 > 1114111
  · rw [if_pos c2] at H
    have c2b0 : decide (1114111 < a0) = true := decide_eq_true c2
    clear c2
    obtain rfl := Option.some.inj H
    go_enter Try.func3, Try.ntmps3
    go_wp2
    go_ret
    exact ⟨by first | rfl | (simp; done) | (simp [*]; done), by repeat (first | exact Drawn0.refl _ | apply Drawn0.step)⟩
  · rw [if_neg c2] at H
    have c2b0 : decide (1114111 < a0) = false := decide_eq_false c2
    clear c2
    replace H := Option.bind_eq_some_iff.mp H
    obtain ⟨t103, A30, H⟩ := H
    replace H : (if a0 ≥ 32 then (if a0 < 55296 then (if (t103 == true) = true then ((impl_WordBreak.f k (wrap64 (a0))).bind fun t104 => ((spec_IsWordSign.f (wrap32 (a0))).bind fun t105 => (some (t104 == (!t105))))) else (some false)) else (if (t103 == (decide (a0 > 56319))) = true then ((impl_WordBreak.f k (wrap64 (a0))).bind fun t106 => ((spec_IsWordSign.f (wrap32 (a0))).bind fun t107 => (some (t106 == (!t107))))) else (some false))) else (if (t103 == false) = true then ((impl_WordBreak.f k (wrap64 (a0))).bind fun t108 => ((spec_IsWordSign.f (wrap32 (a0))).bind fun t109 => (some (t108 == (!t109))))) else (some false))) = some r := H
    have A3 := Aside0.mk A30
    clear A30
    by_cases c4 : a0 ≥ 32
    · rw [if_pos c4] at H
      have c4b0 : decide (32 ≤ a0) = true := decide_eq_true c4
      clear c4
      by_cases c5 : a0 < 55296
      · rw [if_pos c5] at H
        have c5b0 : decide (a0 < 55296) = true := decide_eq_true c5
        clear c5
        by_cases c6 : (t103 == true) = true
        · rw [if_pos c6] at H
          have c6b0 : (t103 == true) = true := c6
          (try (have c6b1 : decide (t103 = true) = true := by simpa using c6))
          (try (have c6b2 : (t103 == true) = true := by simpa using c6))
          clear c6
          replace H := Option.bind_eq_some_iff.mp H
          obtain ⟨t104, A70, H⟩ := H
          replace H : ((spec_IsWordSign.f (wrap32 (a0))).bind fun t105 => (some (t104 == (!t105)))) = some r := H
          have A7 := Aside0.mk A70
          clear A70
          replace H := Option.bind_eq_some_iff.mp H
          obtain ⟨t105, A80, H⟩ := H
          replace H : (some (t104 == (!t105))) = some r := H
          have A8 := Aside0.mk A80
          clear A80
          obtain rfl := Option.some.inj H
          go_enter Try.func3, Try.ntmps3
          go_wp2_with (first | ((with_reducible refine gate_callee (f := 13) rfl ?_); refine goesL_ (some 7) rfl rfl Try.func13 (by kernel_rfl) rfl #[.int .i64 (wrap64 (a0))] rfl (by (try simp only [List.map_toArray, List.map_cons, List.map_nil]); first | done | rfl | (simp only [List.length_drop, List.length_take]; rfl)) ?_; (with_reducible refine (impl_Printable.calls (wrap64 (a0)) t103 _ A3.out).mono ?_); rintro e w' ⟨rfl, ⟨nd, rfl⟩⟩; refine ⟨_, rfl, ?_⟩) | (go_at_call 14; (with_reducible refine (impl_WordBreak.calls k (wrap64 (a0)) t104 _ A7.out).mono ?_); rintro e w' ⟨rfl, ⟨nd, rfl⟩⟩) | (go_at_call 15; (with_reducible refine (spec_IsWordSign.calls (wrap32 (a0)) t105 _ A8.out).mono ?_); rintro e w' ⟨rfl, ⟨nd, rfl⟩⟩))
          go_ret
          exact ⟨by first | rfl | (simp; done) | (simp [*]; done), by repeat (first | exact Drawn0.refl _ | apply Drawn0.step)⟩
        · rw [if_neg c6] at H
          have c6b0 : (t103 == true) = false := by simpa using c6
          (try (have c6b1 : decide (t103 = true) = false := by simpa using c6))
          (try (have c6b2 : (t103 == true) = false := by simpa using c6))
          (try (have c6b3 : ¬ (t103 = true) := by simpa using c6))
          clear c6
          obtain rfl := Option.some.inj H
          go_enter Try.func3, Try.ntmps3
          go_wp2_with (first | ((with_reducible refine gate_callee (f := 13) rfl ?_); refine goesL_ (some 7) rfl rfl Try.func13 (by kernel_rfl) rfl #[.int .i64 (wrap64 (a0))] rfl (by (try simp only [List.map_toArray, List.map_cons, List.map_nil]); first | done | rfl | (simp only [List.length_drop, List.length_take]; rfl)) ?_; (with_reducible refine (impl_Printable.calls (wrap64 (a0)) t103 _ A3.out).mono ?_); rintro e w' ⟨rfl, ⟨nd, rfl⟩⟩; refine ⟨_, rfl, ?_⟩))
          go_ret
          exact ⟨by first | rfl | (simp; done) | (simp [*]; done), by repeat (first | exact Drawn0.refl _ | apply Drawn0.step)⟩
      · rw [if_neg c5] at H
        have c5b0 : decide (a0 < 55296) = false := decide_eq_false c5
        clear c5
        by_cases c9 : (t103 == (decide (a0 > 56319))) = true
        · rw [if_pos c9] at H
          have c9b0 : (t103 == (decide (a0 > 56319))) = true := c9
          (try (have c9b1 : decide (t103 = (decide (a0 > 56319))) = true := by simpa using c9))
          (try (have c9b2 : (t103 == (decide (a0 > 56319))) = true := by simpa using c9))
          clear c9
          replace H := Option.bind_eq_some_iff.mp H
          obtain ⟨t106, A100, H⟩ := H
          replace H : ((spec_IsWordSign.f (wrap32 (a0))).bind fun t107 => (some (t106 == (!t107)))) = some r := H
          have A10 := Aside0.mk A100
          clear A100
          replace H := Option.bind_eq_some_iff.mp H
          obtain ⟨t107, A110, H⟩ := H
          replace H : (some (t106 == (!t107))) = some r := H
          have A11 := Aside0.mk A110
          clear A110
          obtain rfl := Option.some.inj H
          go_enter Try.func3, Try.ntmps3
          go_wp2_with (first | ((with_reducible refine gate_callee (f := 13) rfl ?_); refine goesL_ (some 7) rfl rfl Try.func13 (by kernel_rfl) rfl #[.int .i64 (wrap64 (a0))] rfl (by (try simp only [List.map_toArray, List.map_cons, List.map_nil]); first | done | rfl | (simp only [List.length_drop, List.length_take]; rfl)) ?_; (with_reducible refine (impl_Printable.calls (wrap64 (a0)) t103 _ A3.out).mono ?_); rintro e w' ⟨rfl, ⟨nd, rfl⟩⟩; refine ⟨_, rfl, ?_⟩) | (go_at_call 14; (with_reducible refine (impl_WordBreak.calls k (wrap64 (a0)) t106 _ A10.out).mono ?_); rintro e w' ⟨rfl, ⟨nd, rfl⟩⟩) | (go_at_call 15; (with_reducible refine (spec_IsWordSign.calls (wrap32 (a0)) t107 _ A11.out).mono ?_); rintro e w' ⟨rfl, ⟨nd, rfl⟩⟩))
          go_ret
          exact ⟨by first | rfl | (simp; done) | (simp [*]; done), by repeat (first | exact Drawn0.refl _ | apply Drawn0.step)⟩
        · rw [if_neg c9] at H
          have c9b0 : (t103 == (decide (a0 > 56319))) = false := by simpa using c9
          (try (have c9b1 : decide (t103 = (decide (a0 > 56319))) = false := by simpa using c9))
          (try (have c9b2 : (t103 == (decide (a0 > 56319))) = false := by simpa using c9))
          (try (have c9b3 : ¬ (t103 = (decide (a0 > 56319))) := by simpa using c9))
          clear c9
          obtain rfl := Option.some.inj H
          go_enter Try.func3, Try.ntmps3
          go_wp2_with (first | ((with_reducible refine gate_callee (f := 13) rfl ?_); refine goesL_ (some 7) rfl rfl Try.func13 (by kernel_rfl) rfl #[.int .i64 (wrap64 (a0))] rfl (by (try simp only [List.map_toArray, List.map_cons, List.map_nil]); first | done | rfl | (simp only [List.length_drop, List.length_take]; rfl)) ?_; (with_reducible refine (impl_Printable.calls (wrap64 (a0)) t103 _ A3.out).mono ?_); rintro e w' ⟨rfl, ⟨nd, rfl⟩⟩; refine ⟨_, rfl, ?_⟩))
          go_ret
          exact ⟨by first | rfl | (simp; done) | (simp [*]; done), by repeat (first | exact Drawn0.refl _ | apply Drawn0.step)⟩
    · rw [if_neg c4] at H
      have c4b0 : decide (32 ≤ a0) = false := decide_eq_false c4
      clear c4
      by_cases c12 : (t103 == false) = true
      · rw [if_pos c12] at H
        have c12b0 : (t103 == false) = true := c12
        (try (have c12b1 : decide (t103 = false) = true := by simpa using c12))
        (try (have c12b2 : (t103 == false) = true := by simpa using c12))
        clear c12
        replace H := Option.bind_eq_some_iff.mp H
        obtain ⟨t108, A130, H⟩ := H
        replace H : ((spec_IsWordSign.f (wrap32 (a0))).bind fun t109 => (some (t108 == (!t109)))) = some r := H
        have A13 := Aside0.mk A130
        clear A130
        replace H := Option.bind_eq_some_iff.mp H
        obtain ⟨t109, A140, H⟩ := H
        replace H : (some (t108 == (!t109))) = some r := H
        have A14 := Aside0.mk A140
        clear A140
        obtain rfl := Option.some.inj H
        go_enter Try.func3, Try.ntmps3
        go_wp2_with (first | ((with_reducible refine gate_callee (f := 13) rfl ?_); refine goesL_ (some 7) rfl rfl Try.func13 (by kernel_rfl) rfl #[.int .i64 (wrap64 (a0))] rfl (by (try simp only [List.map_toArray, List.map_cons, List.map_nil]); first | done | rfl | (simp only [List.length_drop, List.length_take]; rfl)) ?_; (with_reducible refine (impl_Printable.calls (wrap64 (a0)) t103 _ A3.out).mono ?_); rintro e w' ⟨rfl, ⟨nd, rfl⟩⟩; refine ⟨_, rfl, ?_⟩) | (go_at_call 14; (with_reducible refine (impl_WordBreak.calls k (wrap64 (a0)) t108 _ A13.out).mono ?_); rintro e w' ⟨rfl, ⟨nd, rfl⟩⟩) | (go_at_call 15; (with_reducible refine (spec_IsWordSign.calls (wrap32 (a0)) t109 _ A14.out).mono ?_); rintro e w' ⟨rfl, ⟨nd, rfl⟩⟩))
        go_ret
        exact ⟨by first | rfl | (simp; done) | (simp [*]; done), by repeat (first | exact Drawn0.refl _ | apply Drawn0.step)⟩
      · rw [if_neg c12] at H
        have c12b0 : (t103 == false) = false := by simpa using c12
        (try (have c12b1 : decide (t103 = false) = false := by simpa using c12))
        (try (have c12b2 : (t103 == false) = false := by simpa using c12))
        (try (have c12b3 : ¬ (t103 = false) := by simpa using c12))
        clear c12
        obtain rfl := Option.some.inj H
        go_enter Try.func3, Try.ntmps3
        go_wp2_with (first | ((with_reducible refine gate_callee (f := 13) rfl ?_); refine goesL_ (some 7) rfl rfl Try.func13 (by kernel_rfl) rfl #[.int .i64 (wrap64 (a0))] rfl (by (try simp only [List.map_toArray, List.map_cons, List.map_nil]); first | done | rfl | (simp only [List.length_drop, List.length_take]; rfl)) ?_; (with_reducible refine (impl_Printable.calls (wrap64 (a0)) t103 _ A3.out).mono ?_); rintro e w' ⟨rfl, ⟨nd, rfl⟩⟩; refine ⟨_, rfl, ?_⟩))
        go_ret
        exact ⟨by first | rfl | (simp; done) | (simp [*]; done), by repeat (first | exact Drawn0.refl _ | apply Drawn0.step)⟩

/-- THE ONE PURE STATEMENT of laws_FnPrintable: yours. -/
def laws_FnPrintable.Pure : Prop := ∀ (a0 : Int), (Lit.int .u32 a0).wf = true → ∃ k, laws_FnPrintable.f k a0 = some true
theorem laws_FnPrintable.walk (P : laws_FnPrintable.Pure) (a0 : Int) (w : World) (w0 : (Lit.int .u32 a0).wf = true) :
    Calls Try.prog 3 #[.int .u32 a0] w fun e w' => e = .returned (.bool true) ∧ Below w.heap.size w w' := by
  obtain ⟨k, h⟩ := P a0 w0
  refine (laws_FnPrintable.calls k a0 true w h).mono ?_
  rintro e w' ⟨rfl, hd⟩
  exact ⟨rfl, hd.below⟩

end Go.Proofs.Ythkblefeifdhaaa.PFnPrintable
