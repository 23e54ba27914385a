/- Printed by a program of this seat (xprint) out of the translation: Go functions as plain functions, and the walks that show them; no condition. -/
import Derived.Test.YthbdaoapjnofkaaDoorQPFnSplitRowsx0
import Derived.Test.YthbdaoapjnofkaaDoorQHSplit
namespace Go.Proofs.YthbdaoapjnofkaaDoor.PFnSplitRows
open Go.RowKit Go.Proofs.YthbdaoapjnofkaaDoor.H Go.Proofs.YthbdaoapjnofkaaDoor.R Go.Proofs.YthbdaoapjnofkaaDoorW.PrintWords Go.Proofs.YthbdaoapjnofkaaDoorW.PrintLast Go.Proofs.YthbdaoapjnofkaaDoorW.PrintMore
attribute [local go_sem] max2_int min2_int max_two min_two max_three min_three max_four min_four   -- for this text's walks alone
set_option linter.unusedVariables false
set_option linter.unusedSimpArgs false
/-! ### spec_IsPlain: function 18 -/
def spec_IsPlain.l0 : Nat → ByteArray → Int → Int → Option (Bool)
  | 0, _, _, _ => none
  | k + 1, x0, x5, x6 => if x6 < x5 then (if 0 ≤ x6 then (if x6 < (x0.size : Int) then (if (bt x0 x6) < 32 then (some false) else (if (bt x0 x6) > 126 then (some false) else (spec_IsPlain.l0 k x0 x5 (wrap64 (x6 + 1))))) else (none)) else (none)) else (some true)
def spec_IsPlain.f (k : Nat) (a0 : ByteArray) : Option (Bool) := spec_IsPlain.l0 k a0 (a0.size : Int) 0
theorem spec_IsPlain.mono_l : ∀ k, (∀ y0 y1 y2, LeO (spec_IsPlain.l0 k y0 y1 y2) (spec_IsPlain.l0 (k + 1) y0 y1 y2))
  | 0 => fun _ _ _ r h => by simp [spec_IsPlain.l0] at h
  | k + 1 => by
    have ih0 := spec_IsPlain.mono_l k
    · intro y0 y1 y2
      unfold spec_IsPlain.l0
      repeat' first
      | (with_reducible exact ih0 _ _ _)
      | (with_reducible exact LeO.refl _)
      | (with_reducible exact LeO.none _)
      | (with_reducible refine LeO.ite ?_ ?_)
      | (with_reducible refine LeO.bind ?_ (fun _ => ?_))
      | exact ih0 _ _ _
      | exact LeO.none _
      | refine LeO.ite ?_ ?_
      | refine LeO.bind ?_ (fun _ => ?_)
theorem spec_IsPlain.mono : ∀ a0 k, LeO (spec_IsPlain.f k a0) (spec_IsPlain.f (k + 1) a0) := by
  intro a0 k
  have ih0 := spec_IsPlain.mono_l k
  unfold spec_IsPlain.f
  repeat' first
      | (with_reducible exact ih0 _ _ _)
      | (with_reducible exact LeO.refl _)
      | (with_reducible exact LeO.none _)
      | (with_reducible refine LeO.ite ?_ ?_)
      | (with_reducible refine LeO.bind ?_ (fun _ => ?_))
      | exact ih0 _ _ _
      | exact LeO.none _
      | refine LeO.ite ?_ ?_
      | refine LeO.bind ?_ (fun _ => ?_)
set_option maxHeartbeats 8000000 in
set_option maxRecDepth 100000 in
theorem spec_IsPlain.calls (k : Nat) (a0 : ByteArray) (r : Bool) (w : World) (h : spec_IsPlain.f k a0 = some r) :
    Calls Tryd.prog 18 #[.string a0] w fun e w' => e = .returned (.bool r) ∧ Drawn0 w w' := by
  have H : (spec_IsPlain.l0 k a0 (a0.size : Int) 0) = some r := h
  clear h
  have H' := Aside0.mk H
  clear H
  go_enter Tryd.func18, Tryd.ntmps18
  go_wp2
  go_loopg [6] k (fun kq v6 w' => ∃ (x6_1 : Int), v6 = .int .i64 x6_1 ∧ Aside0 (spec_IsPlain.l0 kq a0 (a0.size : Int) x6_1 = some r) ∧ Aside0 (kq ≤ k) ∧ Drawn0 w w')
  case atStart => exact ⟨(0), (by first | rfl | (simp; done) | (simp [*]; done)), H', ⟨Nat.le_refl _⟩, by repeat (first | exact Drawn0.refl _ | apply Drawn0.step)⟩
  case round =>
    clear H'
    try clear c1
    obtain ⟨x6_1, rfl, HA, HK1, ⟨m1, rfl⟩⟩ := hrel
    cases gk with
    | zero => exact absurd HA.out (by simp [spec_IsPlain.l0])
    | succ k1 =>
      have H := HA.out
      clear HA
      simp only [spec_IsPlain.l0] at H
      by_cases c2 : x6_1 < (a0.size : Int)
      · rw [if_pos c2] at H
        have c2b0 : decide (x6_1 < (a0.size : Int)) = true := decide_eq_true c2
        clear c2
        by_cases c3 : 0 ≤ x6_1
        · rw [if_pos c3] at H
          have c3b0 : decide (0 ≤ x6_1) = true := decide_eq_true c3
          clear c3
          by_cases c4 : x6_1 < (a0.size : Int)
          · rw [if_pos c4] at H
            have c4b0 : decide (x6_1 < (a0.size : Int)) = true := decide_eq_true c4
            clear c4
            by_cases c6 : (bt a0 x6_1) < 32
            · rw [if_pos c6] at H
              have c6b0 : decide ((bt a0 x6_1) < 32) = true := decide_eq_true c6
              clear c6
              obtain rfl := Option.some.inj H
              have p5 : 0 ≤ (x6_1 : Int) := of_decide_eq_true (by first | (with_reducible assumption) | assumption)
              have q5 : x6_1 < (a0.size : Int) := of_decide_eq_true (by first | (with_reducible assumption) | assumption)
              have hx5 := bt_at a0 x6_1
              replace p5 := eq_true p5
              replace q5 := eq_true q5
              go_wp2
              go_ret
              exact ⟨by first | rfl | (simp; done) | (simp [*]; done), by repeat (first | exact Drawn0.refl _ | apply Drawn0.step)⟩
            · rw [if_neg c6] at H
              have c6b0 : decide ((bt a0 x6_1) < 32) = false := decide_eq_false c6
              clear c6
              by_cases c8 : (bt a0 x6_1) > 126
              · rw [if_pos c8] at H
                have c8b0 : decide (126 < (bt a0 x6_1)) = true := decide_eq_true c8
                clear c8
                obtain rfl := Option.some.inj H
                have p5 : 0 ≤ (x6_1 : Int) := of_decide_eq_true (by first | (with_reducible assumption) | assumption)
                have q5 : x6_1 < (a0.size : Int) := of_decide_eq_true (by first | (with_reducible assumption) | assumption)
                have hx5 := bt_at a0 x6_1
                replace p5 := eq_true p5
                replace q5 := eq_true q5
                have p7 : 0 ≤ (x6_1 : Int) := of_decide_eq_true (by first | (with_reducible assumption) | assumption)
                have q7 : x6_1 < (a0.size : Int) := of_decide_eq_true (by first | (with_reducible assumption) | assumption)
                have hx7 := bt_at a0 x6_1
                replace p7 := eq_true p7
                replace q7 := eq_true q7
                go_wp2
                go_ret
                exact ⟨by first | rfl | (simp; done) | (simp [*]; done), by repeat (first | exact Drawn0.refl _ | apply Drawn0.step)⟩
              · rw [if_neg c8] at H
                have c8b0 : decide (126 < (bt a0 x6_1)) = false := decide_eq_false c8
                clear c8
                have H' := Aside0.mk H
                clear H
                have p5 : 0 ≤ (x6_1 : Int) := of_decide_eq_true (by first | (with_reducible assumption) | assumption)
                have q5 : x6_1 < (a0.size : Int) := of_decide_eq_true (by first | (with_reducible assumption) | assumption)
                have hx5 := bt_at a0 x6_1
                replace p5 := eq_true p5
                replace q5 := eq_true q5
                have p7 : 0 ≤ (x6_1 : Int) := of_decide_eq_true (by first | (with_reducible assumption) | assumption)
                have q7 : x6_1 < (a0.size : Int) := of_decide_eq_true (by first | (with_reducible assumption) | assumption)
                have hx7 := bt_at a0 x6_1
                replace p7 := eq_true p7
                replace q7 := eq_true q7
                go_wp2
                go_roundg k1
                case measure => have := HK1.out; omega
                case rel => exact ⟨(wrap64 (x6_1 + 1)), (by first | rfl | (simp; done) | (simp [*]; done)), H', ⟨by have := HK1.out; omega⟩, by repeat (first | exact Drawn0.refl _ | apply Drawn0.step)⟩
          · rw [if_neg c4] at H
            exact absurd H (by simp)
        · rw [if_neg c3] at H
          exact absurd H (by simp)
      · rw [if_neg c2] at H
        have c2b0 : decide (x6_1 < (a0.size : Int)) = false := decide_eq_false c2
        clear c2
        obtain rfl := Option.some.inj H
        go_wp2
        go_ret
        exact ⟨by first | rfl | (simp; done) | (simp [*]; done), by repeat (first | exact Drawn0.refl _ | apply Drawn0.step)⟩
/-! ### impl_SplitRows: function 19 -/
def impl_SplitRows.f (a0 : Int) (a1 : Int) (a2 : ByteArray) : Option (List ByteArray) := if (runesOf a2).length ≤ 70368744177664 then ((readline_SplitByLine.f a0 a1 (runesOf a2)).bind fun t104 => (some t104)) else (none)
set_option maxHeartbeats 8000000 in
set_option maxRecDepth 100000 in
theorem impl_SplitRows.calls (a0 : Int) (a1 : Int) (a2 : ByteArray) (r : List ByteArray) (w : World) (h : impl_SplitRows.f a0 a1 a2 = some r) :
    Calls Tryd.prog 19 #[.int .i64 a0, .int .i64 a1, .string a2] w fun e w' => ∃ v0_ : Value, e = .returned (v0_) ∧ Kd.R Kd.string 9 w' w.heap.size (fun _ => True) v0_ r ∧ Below w.heap.size w w' := by
  have HB := Aside0.mk (Below.refl w.heap.size w)
  have H : (if (runesOf a2).length ≤ 70368744177664 then ((readline_SplitByLine.f a0 a1 (runesOf a2)).bind fun t104 => (some t104)) else (none)) = some r := h
  clear h
  by_cases c4 : (runesOf a2).length ≤ 70368744177664
  · rw [if_pos c4] at H
    have c4b0 := eq_true c4
    have c4b1 : decide ((runesOf a2).length ≤ 70368744177664) = true := decide_eq_true c4
    clear c4
    obtain ⟨y101, hy101⟩ : ∃ y_ : List Int, y_ = (runesOf a2) := ⟨_, rfl⟩
    replace H : ((readline_SplitByLine.f a0 a1 y101).bind fun t104 => (some t104)) = some r := by first | (rw [hy101]; with_reducible exact H) | (have H2_ := (Option.bind_some _ _).symm.trans H; rw [hy101]; with_reducible exact H2_) | (have H2_ := (Option.bind_some _ _).symm.trans H; with_reducible exact H2_) | with_reducible exact H | (rw [hy101]; exact H) | exact H
    have Ny101 := Aside0.mk hy101
    clear hy101
    replace H := Option.bind_eq_some_iff.mp H
    obtain ⟨t104, A50, H⟩ := H
    replace H : (some t104) = some r := H
    have A5 := Aside0.mk A50
    clear A50
    obtain rfl := Option.some.inj H
    go_enter Tryd.func19, Tryd.ntmps19
    go_wp2_with (first | ((with_reducible refine gate_dst (N := 10) rfl ?_); refine R_runes _ 21 rfl (N := 10) rfl 9 27 _ rfl a2 rfl Tryd.underlying9 Tryd.underlying27 Tryd.underlying21 (ok := fun _ => True) (okp := fun _ => True) (fun _ hk => hk) trivial (of_decide_eq_true (by first | (with_reducible assumption) | assumption)) (Below.refl _ _) (Nat.le_refl _) ?_; intro v102 w6 ho7 hb hg_ hnew_; clear hg_ hnew_; (first | rw [← Ny101.out] at ho7 | (simp only [Int.reduceToNat] at ho7; rw [← Ny101.out] at ho7)); have n0_ := Aside0.mk (Kd.R_lower ho7 (below_size (by repeat (first | (with_reducible first | exact HB.out | apply below_alloc | apply pw_below_drewN | apply below_drew1) | exact HB.out)))); have n1_ := Aside0.mk (below_step (by repeat (first | (with_reducible first | exact HB.out | apply below_alloc | apply pw_below_drewN | apply below_drew1) | exact HB.out)) hb); clear HB; have HO103 := n0_; have HB := n1_; clear n0_ n1_; clear hb ho7; obtain ⟨Ao8, co8, eo8⟩ := Kd.R_slice HO103.out; subst eo8) | ((with_reducible refine gate_callee (f := 45) rfl ?_); refine goesL_ (some 11) rfl rfl Tryd.func45 (by kernel_rfl) rfl #[.int .i64 a0, .int .i64 a1, .slice Ao8 y101.length co8] rfl (by (try simp only [List.map_toArray, List.map_cons, List.map_nil]); first | done | rfl | (simp only [List.length_drop, List.length_take]; rfl) | (simp only [Int.toNat_natCast, ByteArray.extract_zero_size]; rfl)) ?_; (with_reducible refine (readline_SplitByLine.calls a0 a1 _ _ y101 t104 _ ?side1 ?side2 A5.out).mono ?_); (case side1 => repeat (first | exact (Kd.R_reads' HO103.out).2.2 | (with_reducible refine Kd.C_alloc ?_ _) | (with_reducible refine Kd.C_drewN ?_ _) | (with_reducible refine Kd.C_drew ?_))); (case side2 => exact (Kd.R_reads' HO103.out).2.1); rintro e w9 ⟨v105, rfl, ho0, hb⟩; refine ⟨_, rfl, ?_⟩; have n0_ := Aside0.mk (Kd.R_below (by (with_reducible repeat (first | apply Kd.R_alloc | apply Kd.R_drewN | apply Kd.R_drew)); exact HO103.out) hb); have n1_ := Aside0.mk (Kd.R_lower ho0 (below_size (by repeat (first | (with_reducible first | exact HB.out | apply below_alloc | apply pw_below_drewN | apply below_drew1) | exact HB.out)))); have n2_ := Aside0.mk (below_step (by repeat (first | (with_reducible first | exact HB.out | apply below_alloc | apply pw_below_drewN | apply below_drew1) | exact HB.out)) hb); clear HO103; clear HB; have HO103 := n0_; have HO106 := n1_; have HB := n2_; clear n0_ n1_ n2_; (try clear hb); (try clear hb2); (try clear hk); (try clear hi); (try clear ho0)))
    go_ret
    exact ⟨_, by first | rfl | (simp [errW_none, errW_some] <;> rfl) | (simp [*, errW_none, errW_some] <;> rfl), by (with_reducible repeat (first | apply Kd.R_alloc | apply Kd.R_drewN | apply Kd.R_drew)); exact HO106.out, by repeat (first | (with_reducible first | exact HB.out | apply below_alloc | apply pw_below_drewN | apply below_drew1) | exact HB.out)⟩
  · rw [if_neg c4] at H
    exact absurd H (by simp)
/-! ### spec_SameTexts9: function 20 -/
def spec_SameTexts9.l0 : Nat → List ByteArray → List ByteArray → Int → Int → Option (Bool)
  | 0, _, _, _, _ => none
  | k + 1, x0, x1, x12, x13 => if x13 < x12 then (if 0 ≤ x13 then (if x13 < (x0.length : Int) then (if x13 < (x1.length : Int) then (if (rdOf ByteArray.empty x0 x13).toList = (rdOf ByteArray.empty x1 x13).toList then (spec_SameTexts9.l0 k x0 x1 x12 (wrap64 (x13 + 1))) else (some false)) else (none)) else (none)) else (none)) else (some true)
def spec_SameTexts9.f (k : Nat) (l0 : List ByteArray) (l1 : List ByteArray) : Option (Bool) := if (l0.length : Int) = (l1.length : Int) then (spec_SameTexts9.l0 k l0 l1 (l0.length : Int) 0) else (some false)
theorem spec_SameTexts9.mono_l : ∀ k, (∀ y0 y1 y2 y3, LeO (spec_SameTexts9.l0 k y0 y1 y2 y3) (spec_SameTexts9.l0 (k + 1) y0 y1 y2 y3))
  | 0 => fun _ _ _ _ r h => by simp [spec_SameTexts9.l0] at h
  | k + 1 => by
    have ih0 := spec_SameTexts9.mono_l k
    · intro y0 y1 y2 y3
      unfold spec_SameTexts9.l0
      repeat' first
      | (with_reducible exact ih0 _ _ _ _)
      | (with_reducible exact LeO.refl _)
      | (with_reducible exact LeO.none _)
      | (with_reducible refine LeO.ite ?_ ?_)
      | (with_reducible refine LeO.bind ?_ (fun _ => ?_))
      | exact ih0 _ _ _ _
      | exact LeO.none _
      | refine LeO.ite ?_ ?_
      | refine LeO.bind ?_ (fun _ => ?_)
theorem spec_SameTexts9.mono : ∀ a0 a1 k, LeO (spec_SameTexts9.f k a0 a1) (spec_SameTexts9.f (k + 1) a0 a1) := by
  intro a0 a1 k
  have ih0 := spec_SameTexts9.mono_l k
  unfold spec_SameTexts9.f
  repeat' first
      | (with_reducible exact ih0 _ _ _ _)
      | (with_reducible exact LeO.refl _)
      | (with_reducible exact LeO.none _)
      | (with_reducible refine LeO.ite ?_ ?_)
      | (with_reducible refine LeO.bind ?_ (fun _ => ?_))
      | exact ih0 _ _ _ _
      | exact LeO.none _
      | refine LeO.ite ?_ ?_
      | refine LeO.bind ?_ (fun _ => ?_)
set_option maxHeartbeats 8000000 in
set_option maxRecDepth 100000 in
theorem spec_SameTexts9.calls (k : Nat) (A0 : Option Addr) (c0 : Nat) (l0 : List ByteArray) (A1 : Option Addr) (c1 : Nat) (l1 : List ByteArray) (r : Bool) (w : World) (hr0 : Kd.C Kd.string w A0 l0.length l0) (hc0 : l0.length ≤ c0) (hr1 : Kd.C Kd.string w A1 l1.length l1) (hc1 : l1.length ≤ c1) (h : spec_SameTexts9.f k l0 l1 = some r) :
    Calls Tryd.prog 20 #[.slice A0 l0.length c0, .slice A1 l1.length c1] w fun e w' => e = .returned (.bool r) ∧ Drawn0 w w' := by
  have HR0 := Aside0.mk hr0
  have HC0 := Aside0.mk hc0
  clear hr0 hc0
  have HR1 := Aside0.mk hr1
  have HC1 := Aside0.mk hc1
  clear hr1 hc1
  have H : (if (l0.length : Int) = (l1.length : Int) then (spec_SameTexts9.l0 k l0 l1 (l0.length : Int) 0) else (some false)) = some r := h
  clear h
  by_cases c3 : (l0.length : Int) = (l1.length : Int)
  · rw [if_pos c3] at H
    have c3b0 : ((l0.length : Int) == (l1.length : Int)) = true := beq_iff_eq.mpr c3
    have c3b1 : ((l0.length : Int) != (l1.length : Int)) = false := bne_eq_false_iff_eq.mpr c3
    have c3b2 : (l0.length == l1.length) = true := by first | simpa using c3 | (simp at c3 ⊢; omega)
    clear c3
    have H' := Aside0.mk H
    clear H
    go_enter Tryd.func20, Tryd.ntmps20
    go_wp2
    repeat (go_quiet (fail); try go_wp2)
    go_loopg [13] k (fun kq v13 w' => ∃ (x13_1 : Int), v13 = .int .i64 x13_1 ∧ Aside0 (spec_SameTexts9.l0 kq l0 l1 (l0.length : Int) x13_1 = some r) ∧ Aside0 (kq ≤ k) ∧ Drawn0 w w')
    case atStart => exact ⟨(0), (by first | rfl | (simp; done) | (simp [*]; done)), H', ⟨Nat.le_refl _⟩, by repeat (first | exact Drawn0.refl _ | apply Drawn0.step)⟩
    case round =>
      clear H'
      try clear c1
      try clear c2
      try clear p2
      try clear c3
      try clear c3b0
      try clear c3b1
      try clear c3b2
      obtain ⟨x13_1, rfl, HA, HK1, ⟨m1, rfl⟩⟩ := hrel
      cases gk with
      | zero => exact absurd HA.out (by simp [spec_SameTexts9.l0])
      | succ k1 =>
        have H := HA.out
        clear HA
        simp only [spec_SameTexts9.l0] at H
        by_cases c4 : x13_1 < (l0.length : Int)
        · rw [if_pos c4] at H
          have c4b0 : decide (x13_1 < (l0.length : Int)) = true := decide_eq_true c4
          clear c4
          by_cases c5 : 0 ≤ x13_1
          · rw [if_pos c5] at H
            have c5b0 : decide (0 ≤ x13_1) = true := decide_eq_true c5
            clear c5
            by_cases c6 : x13_1 < (l0.length : Int)
            · rw [if_pos c6] at H
              have c6b0 : decide (x13_1 < (l0.length : Int)) = true := decide_eq_true c6
              clear c6
              by_cases c7 : x13_1 < (l1.length : Int)
              · rw [if_pos c7] at H
                have c7b0 : decide (x13_1 < (l1.length : Int)) = true := decide_eq_true c7
                clear c7
                by_cases c8 : (rdOf ByteArray.empty l0 x13_1).toList = (rdOf ByteArray.empty l1 x13_1).toList
                · rw [if_pos c8] at H
                  have c8b0 : ((rdOf ByteArray.empty l0 x13_1).toList == (rdOf ByteArray.empty l1 x13_1).toList) = true := beq_iff_eq.mpr c8
                  have c8b1 : ((rdOf ByteArray.empty l0 x13_1).toList != (rdOf ByteArray.empty l1 x13_1).toList) = false := bne_eq_false_iff_eq.mpr c8
                  clear c8
                  have H' := Aside0.mk H
                  clear H
                  have p107 : 0 ≤ (x13_1 : Int) := of_decide_eq_true (by first | (with_reducible assumption) | assumption)
                  have q107 : x13_1 < (l0.length : Int) := of_decide_eq_true (by first | (with_reducible assumption) | assumption)
                  obtain ⟨ad107, e107, hx107_0⟩ := Kd.at_string HR0.out x13_1 p107 q107
                  cases e107
                  replace p107 := eq_true p107
                  replace q107 := eq_true q107
                  have p108 : 0 ≤ (x13_1 : Int) := of_decide_eq_true (by first | (with_reducible assumption) | assumption)
                  have q108 : x13_1 < (l1.length : Int) := of_decide_eq_true (by first | (with_reducible assumption) | assumption)
                  obtain ⟨ad108, e108, hx108_0⟩ := Kd.at_string HR1.out x13_1 p108 q108
                  cases e108
                  replace p108 := eq_true p108
                  replace q108 := eq_true q108
                  go_wp2
                  repeat (go_quiet (fail); try go_wp2)
                  go_roundg k1
                  case measure => have := HK1.out; omega
                  case rel => exact ⟨(wrap64 (x13_1 + 1)), (by first | rfl | (simp; done) | (simp [*]; done)), H', ⟨by have := HK1.out; omega⟩, by repeat (first | exact Drawn0.refl _ | apply Drawn0.step)⟩
                · rw [if_neg c8] at H
                  have c8b0 : ((rdOf ByteArray.empty l0 x13_1).toList == (rdOf ByteArray.empty l1 x13_1).toList) = false := beq_eq_false_iff_ne.mpr c8
                  have c8b1 : ((rdOf ByteArray.empty l0 x13_1).toList != (rdOf ByteArray.empty l1 x13_1).toList) = true := bne_iff_ne.mpr c8
                  obtain rfl := Option.some.inj H
                  have p107 : 0 ≤ (x13_1 : Int) := of_decide_eq_true (by first | (with_reducible assumption) | assumption)
                  have q107 : x13_1 < (l0.length : Int) := of_decide_eq_true (by first | (with_reducible assumption) | assumption)
                  obtain ⟨ad107, e107, hx107_0⟩ := Kd.at_string HR0.out x13_1 p107 q107
                  cases e107
                  replace p107 := eq_true p107
                  replace q107 := eq_true q107
                  have p108 : 0 ≤ (x13_1 : Int) := of_decide_eq_true (by first | (with_reducible assumption) | assumption)
                  have q108 : x13_1 < (l1.length : Int) := of_decide_eq_true (by first | (with_reducible assumption) | assumption)
                  obtain ⟨ad108, e108, hx108_0⟩ := Kd.at_string HR1.out x13_1 p108 q108
                  cases e108
                  replace p108 := eq_true p108
                  replace q108 := eq_true q108
                  go_wp2
                  repeat (go_quiet (fail); try go_wp2)
                  go_ret
                  exact ⟨by first | rfl | (simp; done) | (simp [*]; done), by repeat (first | exact Drawn0.refl _ | apply Drawn0.step)⟩
              · rw [if_neg c7] at H
                exact absurd H (by simp)
            · rw [if_neg c6] at H
              exact absurd H (by simp)
          · rw [if_neg c5] at H
            exact absurd H (by simp)
        · rw [if_neg c4] at H
          have c4b0 : decide (x13_1 < (l0.length : Int)) = false := decide_eq_false c4
          clear c4
          obtain rfl := Option.some.inj H
          go_wp2
          repeat (go_quiet (fail); try go_wp2)
          go_ret
          exact ⟨by first | rfl | (simp; done) | (simp [*]; done), by repeat (first | exact Drawn0.refl _ | apply Drawn0.step)⟩
  · rw [if_neg c3] at H
    have c3b0 : ((l0.length : Int) == (l1.length : Int)) = false := beq_eq_false_iff_ne.mpr c3
    have c3b1 : ((l0.length : Int) != (l1.length : Int)) = true := bne_iff_ne.mpr c3
    have c3b2 : (l0.length == l1.length) = false := by first | simpa using c3 | (simp at c3 ⊢; omega)
    obtain rfl := Option.some.inj H
    go_enter Tryd.func20, Tryd.ntmps20
    go_wp2
    repeat (go_quiet (fail); try go_wp2)
    go_ret
    exact ⟨by first | rfl | (simp; done) | (simp [*]; done), by repeat (first | exact Drawn0.refl _ | apply Drawn0.step)⟩
/-! ### spec_RowsIn: function 21 -/
def spec_RowsIn.l0 : Nat → Int → ByteArray → List ByteArray → Int → Int → Int → Option (List ByteArray)
  | 0, _, _, _, _, _, _ => none
  | k + 1, x1, x2, x7, x8, x13, x14 => if x14 < x13 then (if 0 ≤ (wrap64 ((x7.length : Int) - 1)) then (if (wrap64 ((x7.length : Int) - 1)) < (x7.length : Int) then (if 0 ≤ x14 then (if x14 ≤ (wrap64 (x14 + 1)) then (if (wrap64 (x14 + 1)) ≤ (x2.size : Int) then (if (rdOf ByteArray.empty x7 (wrap64 ((x7.length : Int) - 1))).size + (x2.extract (x14 : Int).toNat ((wrap64 (x14 + 1)) : Int).toNat).size ≤ 9223372036854775807 then ((some (x7.set ((wrap64 ((x7.length : Int) - 1)) : Int).toNat ((rdOf ByteArray.empty x7 (wrap64 ((x7.length : Int) - 1))) ++ (x2.extract (x14 : Int).toNat ((wrap64 (x14 + 1)) : Int).toNat)) : List ByteArray)).bind fun y113 => (if (wrap64 (x8 + 1)) ≥ x1 then (if y113.length < 8796093022208 then (spec_RowsIn.l0 k x1 x2 (y113 ++ [(⟨#[]⟩ : ByteArray)]) 0 x13 (wrap64 (x14 + 1))) else (none)) else (spec_RowsIn.l0 k x1 x2 y113 (wrap64 (x8 + 1)) x13 (wrap64 (x14 + 1))))) else (none)) else (none)) else (none)) else (none)) else (none)) else (none)) else (some x7)
def spec_RowsIn.f (k : Nat) (a0 : Int) (a1 : Int) (a2 : ByteArray) : Option (List ByteArray) := spec_RowsIn.l0 k a1 a2 (([(⟨#[]⟩ : ByteArray)] : List ByteArray)) a0 (a2.size : Int) 0
theorem spec_RowsIn.mono_l : ∀ k, (∀ y0 y1 y2 y3 y4 y5, LeO (spec_RowsIn.l0 k y0 y1 y2 y3 y4 y5) (spec_RowsIn.l0 (k + 1) y0 y1 y2 y3 y4 y5))
  | 0 => fun _ _ _ _ _ _ r h => by simp [spec_RowsIn.l0] at h
  | k + 1 => by
    have ih0 := spec_RowsIn.mono_l k
    · intro y0 y1 y2 y3 y4 y5
      unfold spec_RowsIn.l0
      repeat' first
      | (with_reducible exact ih0 _ _ _ _ _ _)
      | (with_reducible exact LeO.refl _)
      | (with_reducible exact LeO.none _)
      | (with_reducible refine LeO.ite ?_ ?_)
      | (with_reducible refine LeO.bind ?_ (fun _ => ?_))
      | exact ih0 _ _ _ _ _ _
      | exact LeO.none _
      | refine LeO.ite ?_ ?_
      | refine LeO.bind ?_ (fun _ => ?_)
theorem spec_RowsIn.mono : ∀ a0 a1 a2 k, LeO (spec_RowsIn.f k a0 a1 a2) (spec_RowsIn.f (k + 1) a0 a1 a2) := by
  intro a0 a1 a2 k
  have ih0 := spec_RowsIn.mono_l k
  unfold spec_RowsIn.f
  repeat' first
      | (with_reducible exact ih0 _ _ _ _ _ _)
      | (with_reducible exact LeO.refl _)
      | (with_reducible exact LeO.none _)
      | (with_reducible refine LeO.ite ?_ ?_)
      | (with_reducible refine LeO.bind ?_ (fun _ => ?_))
      | exact ih0 _ _ _ _ _ _
      | exact LeO.none _
      | refine LeO.ite ?_ ?_
      | refine LeO.bind ?_ (fun _ => ?_)
def spec_RowsIn.T6 : Bool × List (List Nat × List Nat) := (true, [([], []), ([], []), ([1], [1]), ([2], [2]), ([0, 3], [0, 3]), ([4], [4]), ([], []), ([], []), ([], []), ([8], [8]), ([6, 7, 9], [6, 7, 9]), ([5, 10], [5, 10]), ([0, 3, 0, 1, 2, 3, 4, 5, 6, 7, 8, 9, 10, 11], [0, 3]), ([12, 11, 0, 1, 2, 3, 4, 5, 6, 7, 8, 9, 10, 11], [11, 12])])
def spec_RowsIn.B6 : List Nat := [0, 0, 2, 6, 15, 31, 0, 0, 0, 256, 960, 2047, 4095, 8191]
theorem spec_RowsIn.tab6 : rtab .any (opsOf Tryd.f21 6) = spec_RowsIn.T6 := by kernel_rfl
theorem spec_RowsIn.bits6 : waitsOk spec_RowsIn.T6.2 spec_RowsIn.B6 = true := by kernel_rfl
set_option maxHeartbeats 8000000 in
set_option maxRecDepth 100000 in
theorem spec_RowsIn.calls (k : Nat) (a0 : Int) (a1 : Int) (a2 : ByteArray) (r : List ByteArray) (w : World) (h : spec_RowsIn.f k a0 a1 a2 = some r) :
    Calls Tryd.prog 21 #[.int .i64 a0, .int .i64 a1, .string a2] w fun e w' => ∃ v0_ : Value, e = .returned (v0_) ∧ Kd.R Kd.string 9 w' w.heap.size (fun _ => True) v0_ r ∧ Below w.heap.size w w' := by
  have HB := Aside0.mk (Below.refl w.heap.size w)
  have H : (spec_RowsIn.l0 k a1 a2 (([(⟨#[]⟩ : ByteArray)] : List ByteArray)) a0 (a2.size : Int) 0) = some r := h
  clear h
  obtain ⟨y109, hy109⟩ : ∃ y_ : List ByteArray, y_ = (([(⟨#[]⟩ : ByteArray)] : List ByteArray)) := ⟨_, rfl⟩
  replace H : (spec_RowsIn.l0 k a1 a2 y109 a0 (a2.size : Int) 0) = some r := by first | (rw [hy109]; with_reducible exact H) | (have H2_ := (Option.bind_some _ _).symm.trans H; rw [hy109]; with_reducible exact H2_) | (have H2_ := (Option.bind_some _ _).symm.trans H; with_reducible exact H2_) | with_reducible exact H | (rw [hy109]; exact H) | exact H
  have Ny109 := Aside0.mk hy109
  clear hy109
  have H' := Aside0.mk H
  clear H
  go_enter Tryd.func21, Tryd.ntmps21
  go_wp2_with (first | ((with_reducible refine gate_dst (N := 10) rfl ?_); refine Kd.R_lit Kd.string _ 9 ?hg (N := 10) ?hd (xs := ([(⟨#[]⟩ : ByteArray)] : List ByteArray)) (inner := [.string (⟨#[]⟩ : ByteArray)]) (ok := fun _ => True) (okp := fun _ => True) ?hr ?hp (fun _ hk => hk) trivial (Below.refl _ _) (Nat.le_refl _) (by simp) ?_; (case hd => rfl); (case hg => rfl); (case hr => first | (go_simp; done) | (go_simp; rfl)); (case hp => exact (Reps.one (show Kd.M Kd.string _ _ _ (⟨#[]⟩ : ByteArray) [.string (⟨#[]⟩ : ByteArray)] from rfl) (Reps.none _ _))); intro v110 w4 ho5 hb hg_ hnew_; clear hg_ hnew_; (first | rw [← Ny109.out] at ho5 | (simp only [Int.reduceToNat] at ho5; rw [← Ny109.out] at ho5)); have n0_ := Aside0.mk (Kd.R_lower ho5 (below_size (by repeat (first | (with_reducible first | exact HB.out | apply below_alloc | apply pw_below_drewN | apply below_drew1) | exact HB.out)))); have n1_ := Aside0.mk (below_step (by repeat (first | (with_reducible first | exact HB.out | apply below_alloc | apply pw_below_drewN | apply below_drew1) | exact HB.out)) hb); clear HB; have HO111 := n0_; have HB := n1_; clear n0_ n1_; clear hb ho5))
  go_loopg [7, 8, 14] k (fun kq v7 v8 v14 w' => ∃ (x7_1 : List ByteArray) (x8_1 : Int) (x14_1 : Int), v8 = .int .i64 x8_1 ∧ v14 = .int .i64 x14_1 ∧ Aside0 (spec_RowsIn.l0 kq a1 a2 x7_1 x8_1 (a2.size : Int) x14_1 = some r) ∧ Aside0 (kq ≤ k) ∧ Aside0 (Kd.R Kd.string 9 w' w.heap.size (fun _ => True) v7 x7_1) ∧ Aside0 (Below w.heap.size w w'))
  case atStart => exact ⟨(y109), (a0), (0), (by first | rfl | (simp; done) | (simp [*]; done)), (by first | rfl | (simp; done) | (simp [*]; done)), H', ⟨Nat.le_refl _⟩, ⟨by (with_reducible repeat (first | apply Kd.R_alloc | apply Kd.R_drewN | apply Kd.R_drew)); exact HO111.out⟩, ⟨by repeat (first | (with_reducible first | exact HB.out | apply below_alloc | apply pw_below_drewN | apply below_drew1) | exact HB.out)⟩⟩
  case round =>
    clear H'
    try clear c2
    try clear p2
    obtain ⟨x7_1, x8_1, x14_1, rfl, rfl, HA, HK1, HO_7, HB⟩ := hrel
    cases gk with
    | zero => exact absurd HA.out (by simp [spec_RowsIn.l0])
    | succ k1 =>
      have H := HA.out
      clear HA
      simp only [spec_RowsIn.l0] at H
      by_cases c6 : x14_1 < (a2.size : Int)
      · rw [if_pos c6] at H
        have c6b0 : decide (x14_1 < (a2.size : Int)) = true := decide_eq_true c6
        clear c6
        obtain ⟨ji7, hji7⟩ : ∃ j_ : Int, (wrap64 ((x7_1.length : Int) - 1)) = j_ := ⟨_, rfl⟩
        replace H : (if 0 ≤ (ji7) then (if (ji7) < (x7_1.length : Int) then (if 0 ≤ x14_1 then (if x14_1 ≤ (wrap64 (x14_1 + 1)) then (if (wrap64 (x14_1 + 1)) ≤ (a2.size : Int) then (if (rdOf ByteArray.empty x7_1 (ji7)).size + (a2.extract (x14_1 : Int).toNat ((wrap64 (x14_1 + 1)) : Int).toNat).size ≤ 9223372036854775807 then ((some (x7_1.set ((ji7) : Int).toNat ((rdOf ByteArray.empty x7_1 (ji7)) ++ (a2.extract (x14_1 : Int).toNat ((wrap64 (x14_1 + 1)) : Int).toNat)) : List ByteArray)).bind fun y113 => (if (wrap64 (x8_1 + 1)) ≥ a1 then (if y113.length < 8796093022208 then (spec_RowsIn.l0 k1 a1 a2 (y113 ++ [(⟨#[]⟩ : ByteArray)]) 0 (a2.size : Int) (wrap64 (x14_1 + 1))) else (none)) else (spec_RowsIn.l0 k1 a1 a2 y113 (wrap64 (x8_1 + 1)) (a2.size : Int) (wrap64 (x14_1 + 1))))) else (none)) else (none)) else (none)) else (none)) else (none)) else (none)) = some r := by first | (rw [hji7] at H; exact H) | (simp only [hji7] at H ⊢; exact H)
        have hji7w : (IntKind.i64.wrap ((x7_1.length : Int) - 1)) = ji7 := (i64_w _).trans hji7
        by_cases c8 : 0 ≤ (ji7)
        · rw [if_pos c8] at H
          have c8b0 : decide (0 ≤ (ji7)) = true := decide_eq_true c8
          clear c8
          by_cases c9 : (ji7) < (x7_1.length : Int)
          · rw [if_pos c9] at H
            have c9b0 : decide ((ji7) < (x7_1.length : Int)) = true := decide_eq_true c9
            clear c9
            by_cases c10 : 0 ≤ x14_1
            · rw [if_pos c10] at H
              have c10b0 := eq_true c10
              have c10b1 : decide (0 ≤ x14_1) = true := decide_eq_true c10
              clear c10
              by_cases c11 : x14_1 ≤ (wrap64 (x14_1 + 1))
              · rw [if_pos c11] at H
                have c11b0 := eq_true c11
                have c11b1 : decide (x14_1 ≤ (wrap64 (x14_1 + 1))) = true := decide_eq_true c11
                by_cases c12 : (wrap64 (x14_1 + 1)) ≤ (a2.size : Int)
                · rw [if_pos c12] at H
                  have c12b0 := eq_true c12
                  have c12b1 : decide ((wrap64 (x14_1 + 1)) ≤ (a2.size : Int)) = true := decide_eq_true c12
                  by_cases c13 : (rdOf ByteArray.empty x7_1 (ji7)).size + (a2.extract (x14_1 : Int).toNat ((wrap64 (x14_1 + 1)) : Int).toNat).size ≤ 9223372036854775807
                  · rw [if_pos c13] at H
                    have c13b0 := eq_true c13
                    have c13b1 : decide ((rdOf ByteArray.empty x7_1 (ji7)).size + (a2.extract (x14_1 : Int).toNat ((wrap64 (x14_1 + 1)) : Int).toNat).size ≤ 9223372036854775807) = true := decide_eq_true c13
                    try have c13b2 : (9223372036854775807 < (rdOf ByteArray.empty x7_1 (ji7)).size + (a2.extract (x14_1 : Int).toNat ((wrap64 (x14_1 + 1)) : Int).toNat).size) = False := eq_false (Nat.not_lt.2 c13)
                    try have c13b3 : (9223372036854775807 < (rdOf ByteArray.empty x7_1 (ji7)).size + (((wrap64 (x14_1 + 1)) : Int).toNat - (x14_1 : Int).toNat)) = False := eq_false (by have h_ := c13; rw [ByteArray.size_extract] at h_; omega)
                    obtain ⟨y113, hy113⟩ : ∃ y_ : List ByteArray, y_ = (x7_1.set ((ji7) : Int).toNat ((rdOf ByteArray.empty x7_1 (ji7)) ++ (a2.extract (x14_1 : Int).toNat ((wrap64 (x14_1 + 1)) : Int).toNat))) := ⟨_, rfl⟩
                    replace H : (if (wrap64 (x8_1 + 1)) ≥ a1 then (if y113.length < 8796093022208 then (spec_RowsIn.l0 k1 a1 a2 (y113 ++ [(⟨#[]⟩ : ByteArray)]) 0 (a2.size : Int) (wrap64 (x14_1 + 1))) else (none)) else (spec_RowsIn.l0 k1 a1 a2 y113 (wrap64 (x8_1 + 1)) (a2.size : Int) (wrap64 (x14_1 + 1)))) = some r := by first | (rw [hy113]; with_reducible exact H) | (have H2_ := (Option.bind_some _ _).symm.trans H; rw [hy113]; with_reducible exact H2_) | (have H2_ := (Option.bind_some _ _).symm.trans H; with_reducible exact H2_) | with_reducible exact H | (rw [hy113]; exact H) | exact H
                    have Ny113 := Aside0.mk hy113
                    clear hy113
                    by_cases c15 : (wrap64 (x8_1 + 1)) ≥ a1
                    · rw [if_pos c15] at H
                      have c15b0 : decide (a1 ≤ (wrap64 (x8_1 + 1))) = true := decide_eq_true c15
                      clear c15
                      by_cases c16 : y113.length < 8796093022208
                      · rw [if_pos c16] at H
                        have LMc16 := Aside0.mk c16
                        clear c16
                        obtain ⟨y114, hy114⟩ : ∃ y_ : List ByteArray, y_ = (y113 ++ [(⟨#[]⟩ : ByteArray)]) := ⟨_, rfl⟩
                        replace H : (spec_RowsIn.l0 k1 a1 a2 y114 0 (a2.size : Int) (wrap64 (x14_1 + 1))) = some r := by first | (rw [hy114]; with_reducible exact H) | (have H2_ := (Option.bind_some _ _).symm.trans H; rw [hy114]; with_reducible exact H2_) | (have H2_ := (Option.bind_some _ _).symm.trans H; with_reducible exact H2_) | with_reducible exact H | (rw [hy114]; exact H) | exact H
                        have Ny114 := Aside0.mk hy114
                        clear hy114
                        have H' := Aside0.mk H
                        clear H
                        try go_wp2
                        have n0_ := Aside0.mk (Kd.R_drew HO_7.out)
                        have n1_ := Aside0.mk (below_drew1 HB.out)
                        clear HO_7
                        clear HB
                        have HO_7 := n0_
                        have HB := n1_
                        clear n0_ n1_
                        obtain ⟨Ao18, co18, eo18⟩ := Kd.R_slice HO_7.out
                        (first | subst eo18 | (injection eo18 with f1_ f2_ f3_; have f4_ := f1_.symm; have f5_ := f3_.symm; clear f1_ f2_ f3_; subst f4_; subst f5_))
                        have p112 : 0 ≤ ((ji7) : Int) := of_decide_eq_true (by first | (with_reducible assumption) | assumption)
                        have q112 : (ji7) < (x7_1.length : Int) := of_decide_eq_true (by first | (with_reducible assumption) | assumption)
                        obtain ⟨ad112, e112, hx112_0⟩ := Kd.at_string (Kd.R_reads' HO_7.out).2.2 (ji7) p112 q112
                        cases e112
                        replace p112 := eq_true p112
                        replace q112 := eq_true q112
                        have p14 : 0 ≤ ((ji7) : Int) := of_decide_eq_true (by first | (with_reducible assumption) | assumption)
                        have q14 : ((ji7) : Int) < ((x7_1.length : Int) : Int) := of_decide_eq_true (by first | (with_reducible assumption) | assumption)
                        obtain ⟨go14, co14, eo14, gb14, gl14, cl14, HG14⟩ := Kd.R_form HO_7.out (by omega)
                        (first | cases eo14 | (injection eo14 with ea_ en_ ec_; (first | subst ea_ | (injection ea_ with ea_; subst ea_)); subst ec_; clear en_))
                        have GB14 := Aside0.mk gb14
                        have GG14 := Aside0.mk HG14
                        clear gb14 gl14 HG14
                        (first | simp only [add_plain] at hx112_0 | skip)
                        obtain ⟨hx14_0, hf14_0⟩ := Kd.R_celln (⟨#[]⟩ : ByteArray) HO_7.out ((ji7) : Int) p14 q14
                        replace p14 := eq_true p14
                        replace q14 := eq_true q14
                        have HP19 := Kd.R_putn HO_7.out ((ji7) : Int) ((rdOf ByteArray.empty x7_1 (ji7)) ++ (a2.extract (x14_1 : Int).toNat ((wrap64 (x14_1 + 1)) : Int).toNat))
                        rw [← Ny113.out] at HP19
                        have HQ19 := Aside0.mk HP19
                        clear HP19
                        refine start_ (n := 14) (S := fun w' => w'.cell? ⟨go14, ((ji7)).toNat, none⟩ = some (.string (rdOf ByteArray.empty x7_1 (ji7)))) (ds := [13]) #[false, false, false, false, false, false, false, false, false, false, false, false, false, false] (by kernel_rfl) rfl rfl (hx112_0) (fun hHeld => ?_); refine with_tabW spec_RowsIn.tab6 spec_RowsIn.bits6 (fun HT_ HW_ => ?_)
                        generalize wr.drew = w17 at HO_7 HB GG14 HQ19 hf14_0 hx112_0 hx14_0 hHeld ⊢
                        refine pure_ (i := 0) (N := some 17) (v := ?_) (a' := ?_) #[true, false, false, false, false, false, false, false, false, false, false, false, false, false] rfl rfl (any_of HT_.out (by kernel_rfl)) (fun _ _ _ h => h) (Or.inl ⟨by rfl, ?_⟩) ?_ ?_
                        rotate_left
                        · intro w'
                          go_simp
                          with_reducible rfl
                        rotate_left
                        · simp only [Act.put, List.setIfInBounds_toArray, List.set_cons_zero, List.set_cons_succ, i64_w, i32_w]
                          rfl
                        refine pure_ (i := 1) (N := some 18) (v := ?_) (a' := ?_) #[true, true, false, false, false, false, false, false, false, false, false, false, false, false] rfl rfl (any_of HT_.out (by kernel_rfl)) (fun _ _ _ h => h) (Or.inl ⟨by rfl, ?_⟩) ?_ ?_
                        rotate_left
                        · intro w'
                          go_simp
                          with_reducible rfl
                        rotate_left
                        · simp only [Act.put, List.setIfInBounds_toArray, List.set_cons_zero, List.set_cons_succ, i64_w, i32_w]
                          rfl
                        refine pure_ (i := 2) (N := some 19) (v := ?_) (a' := ?_) #[true, true, true, false, false, false, false, false, false, false, false, false, false, false] rfl rfl (any_of HT_.out (by kernel_rfl)) (fun _ _ _ h => h) (Or.inl ⟨by rfl, ?_⟩) ?_ ?_
                        rotate_left
                        · intro w'
                          go_simp
                          with_reducible rfl
                        rotate_left
                        · simp only [Act.put, List.setIfInBounds_toArray, List.set_cons_zero, List.set_cons_succ, i64_w, i32_w]
                          rfl
                        refine pure_ (i := 3) (N := some 20) (v := ?_) (a' := ?_) #[true, true, true, true, false, false, false, false, false, false, false, false, false, false] rfl rfl (any_of HT_.out (by kernel_rfl)) (fun _ _ _ h => h) (Or.inl ⟨by rfl, ?_⟩) ?_ ?_
                        rotate_left
                        · intro w'
                          go_simp
                          with_reducible rfl
                        rotate_left
                        · simp only [Act.put, List.setIfInBounds_toArray, List.set_cons_zero, List.set_cons_succ, i64_w, i32_w]
                          rfl
                        refine pure_ (i := 4) (N := some 21) (v := ?_) (a' := ?_) #[true, true, true, true, true, false, false, false, false, false, false, false, false, false] rfl rfl (any_of HT_.out (by kernel_rfl)) (fun _ _ _ h => h) (Or.inl ⟨by rfl, ?_⟩) ?_ ?_
                        rotate_left
                        · intro w'
                          go_simp
                          with_reducible rfl
                        rotate_left
                        · simp only [Act.put, List.setIfInBounds_toArray, List.set_cons_zero, List.set_cons_succ, i64_w, i32_w]
                          rfl
                        refine pure_ (i := 6) (N := some 23) (v := ?_) (a' := ?_) #[true, true, true, true, true, false, true, false, false, false, false, false, false, false] rfl rfl (any_of HT_.out (by kernel_rfl)) (fun _ _ _ h => h) (Or.inl ⟨by rfl, ?_⟩) ?_ ?_
                        rotate_left
                        · intro w'
                          go_simp
                          with_reducible rfl
                        rotate_left
                        · simp only [Act.put, List.setIfInBounds_toArray, List.set_cons_zero, List.set_cons_succ, i64_w, i32_w]
                          rfl
                        refine pure_ (i := 7) (N := some 24) (v := ?_) (a' := ?_) #[true, true, true, true, true, false, true, true, false, false, false, false, false, false] rfl rfl (any_of HT_.out (by kernel_rfl)) (fun _ _ _ h => h) (Or.inl ⟨by rfl, ?_⟩) ?_ ?_
                        rotate_left
                        · intro w'
                          go_simp
                          with_reducible rfl
                        rotate_left
                        · simp only [Act.put, List.setIfInBounds_toArray, List.set_cons_zero, List.set_cons_succ, i64_w, i32_w]
                          rfl
                        refine pure_ (i := 8) (N := some 25) (v := ?_) (a' := ?_) #[true, true, true, true, true, false, true, true, true, false, false, false, false, false] rfl rfl (any_of HT_.out (by kernel_rfl)) (fun _ _ _ h => h) (Or.inl ⟨by rfl, ?_⟩) ?_ ?_
                        rotate_left
                        · intro w'
                          go_simp
                          with_reducible rfl
                        rotate_left
                        · simp only [Act.put, List.setIfInBounds_toArray, List.set_cons_zero, List.set_cons_succ, i64_w, i32_w]
                          rfl
                        refine pure_ (i := 9) (N := some 26) (v := ?_) (a' := ?_) #[true, true, true, true, true, false, true, true, true, true, false, false, false, false] rfl rfl (any_of HT_.out (by kernel_rfl)) (fun _ _ _ h => h) (Or.inl ⟨by rfl, ?_⟩) ?_ ?_
                        rotate_left
                        · intro w'
                          go_simp
                          with_reducible rfl
                        rotate_left
                        · simp only [Act.put, List.setIfInBounds_toArray, List.set_cons_zero, List.set_cons_succ, i64_w, i32_w]
                          rfl
                        refine pure_ (i := 10) (N := some 27) (v := ?_) (a' := ?_) #[true, true, true, true, true, false, true, true, true, true, true, false, false, false] rfl rfl (any_of HT_.out (by kernel_rfl)) (fun _ _ _ h => h) (Or.inl ⟨by rfl, ?_⟩) ?_ ?_
                        rotate_left
                        · intro w'
                          go_simp
                          with_reducible rfl
                        rotate_left
                        · simp only [Act.put, List.setIfInBounds_toArray, List.set_cons_zero, List.set_cons_succ, i64_w, i32_w]
                          rfl
                        refine take_ (i := 5) (N := some 22) (v := ?_) (a' := ?_) #[true, true, true, true, true, true, true, true, true, true, true, false, false, false] rfl rfl (take_ofW HT_.out HW_.out (by kernel_rfl)) (fun _ _ _ h => h) (Or.inl ⟨by rfl, ?_⟩) hHeld ?_ ?_
                        rotate_left
                        · intro w' s0
                          go_simp
                          with_reducible rfl
                        rotate_left
                        · simp only [Act.put, List.setIfInBounds_toArray, List.set_cons_zero, List.set_cons_succ, i64_w, i32_w]
                          rfl
                        refine pure_ (i := 11) (N := some 28) (v := ?_) (a' := ?_) #[true, true, true, true, true, true, true, true, true, true, true, true, false, false] rfl rfl (any_of HT_.out (by kernel_rfl)) (fun _ _ _ h => h) (Or.inl ⟨by rfl, ?_⟩) ?_ ?_
                        rotate_left
                        · intro w'
                          go_simp
                          with_reducible rfl
                        rotate_left
                        · simp only [Act.put, List.setIfInBounds_toArray, List.set_cons_zero, List.set_cons_succ, i64_w, i32_w]
                          rfl
                        refine pure_ (i := 12) (N := some 29) (v := ?_) (a' := ?_) #[true, true, true, true, true, true, true, true, true, true, true, true, true, false] rfl rfl (any_of HT_.out (by kernel_rfl)) (fun _ _ _ h => h) (Or.inl ⟨by rfl, ?_⟩) ?_ ?_
                        rotate_left
                        · intro w'
                          go_simp
                          with_reducible rfl
                        rotate_left
                        · simp only [Act.put, List.setIfInBounds_toArray, List.set_cons_zero, List.set_cons_succ, i64_w, i32_w]
                          rfl
                        refine last_ (i := 13) (N := none) #[true, true, true, true, true, true, true, true, true, true, true, true, true, true] rfl rfl (one_of HT_.out (by kernel_rfl)) (by decide) (fun K hK => ?_)
                        refine skip_ (w1 := ?_) (by rfl) rfl ?_ ?_
                        rotate_left
                        · go_simp
                          rfl
                        refine hK.out _ _ ?_
                        clear hK K
                        refine done_ (done_of HT_.out (by kernel_rfl)) ?_
                        try go_wp2_with (first | ((with_reducible refine gate_builtin (b := .append) (xs := #[.tmp 35, .tmp 36]) rfl ?_); at_builtin; refine Kd.R_append Kd.string (w0 := w) w.heap.size rfl (.tmp 35) (.tmp 36) 22 9 (.string ⟨#[]⟩) 16 rfl Tryd.underlying22 info9 rfl (by decide) (by omega) (.slice (some ⟨go14, 0, none⟩) x7_1.length co18) y113 (⟨#[]⟩ : ByteArray) [.string (⟨#[]⟩ : ByteArray)] (fun _ => True) (fun _ => False) rfl (by first | (go_simp; done) | (go_simp; rfl)) ?aP (fun _ hk => hk.elim) ?aF ?aO ?aB ?aS ?aL ?_; (case aP => exact rfl); (case aB => exact (by repeat (first | (with_reducible first | exact HB.out | apply below_alloc | apply pw_below_drewN | apply below_drew1 | refine below_set ?_ GB14.out) | exact HB.out))); (case aF => exact (fun _ _ => trivial)); (case aO => exact (by (with_reducible repeat (first | apply Kd.R_alloc | apply Kd.R_drewN | apply Kd.R_drew)); exact HQ19.out)); (case aS => exact (below_size (by repeat (first | (with_reducible first | exact HB.out | apply below_alloc | apply pw_below_drewN | apply below_drew1 | refine below_set ?_ GB14.out) | exact HB.out)))); (case aL => have := LMc16.out; omega); intro v115 w20 ho hb hg hat; rw [← Ny114.out] at ho; have n0_ := Aside0.mk (hb); have n1_ := Aside0.mk (ho); clear HB; clear HO_7; have HB := n0_; have HO116 := n1_; clear n0_ n1_; clear ho hb hg hat))
                        go_roundg k1
                        case measure => have := HK1.out; omega
                        case rel => exact ⟨(y114), (0), (wrap64 (x14_1 + 1)), (by first | rfl | (simp; done) | (simp [*]; done)), (by first | rfl | (simp; done) | (simp [*]; done)), H', ⟨by have := HK1.out; omega⟩, ⟨by (with_reducible repeat (first | apply Kd.R_alloc | apply Kd.R_drewN | apply Kd.R_drew)); exact HO116.out⟩, ⟨by repeat (first | (with_reducible first | exact HB.out | apply below_alloc | apply pw_below_drewN | apply below_drew1) | exact HB.out)⟩⟩
                      · rw [if_neg c16] at H
                        exact absurd H (by simp)
                    · rw [if_neg c15] at H
                      have c15b0 : decide (a1 ≤ (wrap64 (x8_1 + 1))) = false := decide_eq_false c15
                      clear c15
                      have H' := Aside0.mk H
                      clear H
                      try go_wp2
                      have n0_ := Aside0.mk (Kd.R_drew HO_7.out)
                      have n1_ := Aside0.mk (below_drew1 HB.out)
                      clear HO_7
                      clear HB
                      have HO_7 := n0_
                      have HB := n1_
                      clear n0_ n1_
                      obtain ⟨Ao22, co22, eo22⟩ := Kd.R_slice HO_7.out
                      (first | subst eo22 | (injection eo22 with f1_ f2_ f3_; have f4_ := f1_.symm; have f5_ := f3_.symm; clear f1_ f2_ f3_; subst f4_; subst f5_))
                      have p112 : 0 ≤ ((ji7) : Int) := of_decide_eq_true (by first | (with_reducible assumption) | assumption)
                      have q112 : (ji7) < (x7_1.length : Int) := of_decide_eq_true (by first | (with_reducible assumption) | assumption)
                      obtain ⟨ad112, e112, hx112_0⟩ := Kd.at_string (Kd.R_reads' HO_7.out).2.2 (ji7) p112 q112
                      cases e112
                      replace p112 := eq_true p112
                      replace q112 := eq_true q112
                      have p14 : 0 ≤ ((ji7) : Int) := of_decide_eq_true (by first | (with_reducible assumption) | assumption)
                      have q14 : ((ji7) : Int) < ((x7_1.length : Int) : Int) := of_decide_eq_true (by first | (with_reducible assumption) | assumption)
                      obtain ⟨go14, co14, eo14, gb14, gl14, cl14, HG14⟩ := Kd.R_form HO_7.out (by omega)
                      (first | cases eo14 | (injection eo14 with ea_ en_ ec_; (first | subst ea_ | (injection ea_ with ea_; subst ea_)); subst ec_; clear en_))
                      have GB14 := Aside0.mk gb14
                      have GG14 := Aside0.mk HG14
                      clear gb14 gl14 HG14
                      (first | simp only [add_plain] at hx112_0 | skip)
                      obtain ⟨hx14_0, hf14_0⟩ := Kd.R_celln (⟨#[]⟩ : ByteArray) HO_7.out ((ji7) : Int) p14 q14
                      replace p14 := eq_true p14
                      replace q14 := eq_true q14
                      have HP23 := Kd.R_putn HO_7.out ((ji7) : Int) ((rdOf ByteArray.empty x7_1 (ji7)) ++ (a2.extract (x14_1 : Int).toNat ((wrap64 (x14_1 + 1)) : Int).toNat))
                      rw [← Ny113.out] at HP23
                      have HQ23 := Aside0.mk HP23
                      clear HP23
                      refine start_ (n := 14) (S := fun w' => w'.cell? ⟨go14, ((ji7)).toNat, none⟩ = some (.string (rdOf ByteArray.empty x7_1 (ji7)))) (ds := [13]) #[false, false, false, false, false, false, false, false, false, false, false, false, false, false] (by kernel_rfl) rfl rfl (hx112_0) (fun hHeld => ?_); refine with_tabW spec_RowsIn.tab6 spec_RowsIn.bits6 (fun HT_ HW_ => ?_)
                      generalize wr.drew = w21 at HO_7 HB GG14 HQ23 hf14_0 hx112_0 hx14_0 hHeld ⊢
                      refine pure_ (i := 0) (N := some 17) (v := ?_) (a' := ?_) #[true, false, false, false, false, false, false, false, false, false, false, false, false, false] rfl rfl (any_of HT_.out (by kernel_rfl)) (fun _ _ _ h => h) (Or.inl ⟨by rfl, ?_⟩) ?_ ?_
                      rotate_left
                      · intro w'
                        go_simp
                        with_reducible rfl
                      rotate_left
                      · simp only [Act.put, List.setIfInBounds_toArray, List.set_cons_zero, List.set_cons_succ, i64_w, i32_w]
                        rfl
                      refine pure_ (i := 1) (N := some 18) (v := ?_) (a' := ?_) #[true, true, false, false, false, false, false, false, false, false, false, false, false, false] rfl rfl (any_of HT_.out (by kernel_rfl)) (fun _ _ _ h => h) (Or.inl ⟨by rfl, ?_⟩) ?_ ?_
                      rotate_left
                      · intro w'
                        go_simp
                        with_reducible rfl
                      rotate_left
                      · simp only [Act.put, List.setIfInBounds_toArray, List.set_cons_zero, List.set_cons_succ, i64_w, i32_w]
                        rfl
                      refine pure_ (i := 2) (N := some 19) (v := ?_) (a' := ?_) #[true, true, true, false, false, false, false, false, false, false, false, false, false, false] rfl rfl (any_of HT_.out (by kernel_rfl)) (fun _ _ _ h => h) (Or.inl ⟨by rfl, ?_⟩) ?_ ?_
                      rotate_left
                      · intro w'
                        go_simp
                        with_reducible rfl
                      rotate_left
                      · simp only [Act.put, List.setIfInBounds_toArray, List.set_cons_zero, List.set_cons_succ, i64_w, i32_w]
                        rfl
                      refine pure_ (i := 3) (N := some 20) (v := ?_) (a' := ?_) #[true, true, true, true, false, false, false, false, false, false, false, false, false, false] rfl rfl (any_of HT_.out (by kernel_rfl)) (fun _ _ _ h => h) (Or.inl ⟨by rfl, ?_⟩) ?_ ?_
                      rotate_left
                      · intro w'
                        go_simp
                        with_reducible rfl
                      rotate_left
                      · simp only [Act.put, List.setIfInBounds_toArray, List.set_cons_zero, List.set_cons_succ, i64_w, i32_w]
                        rfl
                      refine pure_ (i := 4) (N := some 21) (v := ?_) (a' := ?_) #[true, true, true, true, true, false, false, false, false, false, false, false, false, false] rfl rfl (any_of HT_.out (by kernel_rfl)) (fun _ _ _ h => h) (Or.inl ⟨by rfl, ?_⟩) ?_ ?_
                      rotate_left
                      · intro w'
                        go_simp
                        with_reducible rfl
                      rotate_left
                      · simp only [Act.put, List.setIfInBounds_toArray, List.set_cons_zero, List.set_cons_succ, i64_w, i32_w]
                        rfl
                      refine pure_ (i := 6) (N := some 23) (v := ?_) (a' := ?_) #[true, true, true, true, true, false, true, false, false, false, false, false, false, false] rfl rfl (any_of HT_.out (by kernel_rfl)) (fun _ _ _ h => h) (Or.inl ⟨by rfl, ?_⟩) ?_ ?_
                      rotate_left
                      · intro w'
                        go_simp
                        with_reducible rfl
                      rotate_left
                      · simp only [Act.put, List.setIfInBounds_toArray, List.set_cons_zero, List.set_cons_succ, i64_w, i32_w]
                        rfl
                      refine pure_ (i := 7) (N := some 24) (v := ?_) (a' := ?_) #[true, true, true, true, true, false, true, true, false, false, false, false, false, false] rfl rfl (any_of HT_.out (by kernel_rfl)) (fun _ _ _ h => h) (Or.inl ⟨by rfl, ?_⟩) ?_ ?_
                      rotate_left
                      · intro w'
                        go_simp
                        with_reducible rfl
                      rotate_left
                      · simp only [Act.put, List.setIfInBounds_toArray, List.set_cons_zero, List.set_cons_succ, i64_w, i32_w]
                        rfl
                      refine pure_ (i := 8) (N := some 25) (v := ?_) (a' := ?_) #[true, true, true, true, true, false, true, true, true, false, false, false, false, false] rfl rfl (any_of HT_.out (by kernel_rfl)) (fun _ _ _ h => h) (Or.inl ⟨by rfl, ?_⟩) ?_ ?_
                      rotate_left
                      · intro w'
                        go_simp
                        with_reducible rfl
                      rotate_left
                      · simp only [Act.put, List.setIfInBounds_toArray, List.set_cons_zero, List.set_cons_succ, i64_w, i32_w]
                        rfl
                      refine pure_ (i := 9) (N := some 26) (v := ?_) (a' := ?_) #[true, true, true, true, true, false, true, true, true, true, false, false, false, false] rfl rfl (any_of HT_.out (by kernel_rfl)) (fun _ _ _ h => h) (Or.inl ⟨by rfl, ?_⟩) ?_ ?_
                      rotate_left
                      · intro w'
                        go_simp
                        with_reducible rfl
                      rotate_left
                      · simp only [Act.put, List.setIfInBounds_toArray, List.set_cons_zero, List.set_cons_succ, i64_w, i32_w]
                        rfl
                      refine pure_ (i := 10) (N := some 27) (v := ?_) (a' := ?_) #[true, true, true, true, true, false, true, true, true, true, true, false, false, false] rfl rfl (any_of HT_.out (by kernel_rfl)) (fun _ _ _ h => h) (Or.inl ⟨by rfl, ?_⟩) ?_ ?_
                      rotate_left
                      · intro w'
                        go_simp
                        with_reducible rfl
                      rotate_left
                      · simp only [Act.put, List.setIfInBounds_toArray, List.set_cons_zero, List.set_cons_succ, i64_w, i32_w]
                        rfl
                      refine take_ (i := 5) (N := some 22) (v := ?_) (a' := ?_) #[true, true, true, true, true, true, true, true, true, true, true, false, false, false] rfl rfl (take_ofW HT_.out HW_.out (by kernel_rfl)) (fun _ _ _ h => h) (Or.inl ⟨by rfl, ?_⟩) hHeld ?_ ?_
                      rotate_left
                      · intro w' s0
                        go_simp
                        with_reducible rfl
                      rotate_left
                      · simp only [Act.put, List.setIfInBounds_toArray, List.set_cons_zero, List.set_cons_succ, i64_w, i32_w]
                        rfl
                      refine pure_ (i := 11) (N := some 28) (v := ?_) (a' := ?_) #[true, true, true, true, true, true, true, true, true, true, true, true, false, false] rfl rfl (any_of HT_.out (by kernel_rfl)) (fun _ _ _ h => h) (Or.inl ⟨by rfl, ?_⟩) ?_ ?_
                      rotate_left
                      · intro w'
                        go_simp
                        with_reducible rfl
                      rotate_left
                      · simp only [Act.put, List.setIfInBounds_toArray, List.set_cons_zero, List.set_cons_succ, i64_w, i32_w]
                        rfl
                      refine pure_ (i := 12) (N := some 29) (v := ?_) (a' := ?_) #[true, true, true, true, true, true, true, true, true, true, true, true, true, false] rfl rfl (any_of HT_.out (by kernel_rfl)) (fun _ _ _ h => h) (Or.inl ⟨by rfl, ?_⟩) ?_ ?_
                      rotate_left
                      · intro w'
                        go_simp
                        with_reducible rfl
                      rotate_left
                      · simp only [Act.put, List.setIfInBounds_toArray, List.set_cons_zero, List.set_cons_succ, i64_w, i32_w]
                        rfl
                      refine last_ (i := 13) (N := none) #[true, true, true, true, true, true, true, true, true, true, true, true, true, true] rfl rfl (one_of HT_.out (by kernel_rfl)) (by decide) (fun K hK => ?_)
                      refine skip_ (w1 := ?_) (by rfl) rfl ?_ ?_
                      rotate_left
                      · go_simp
                        rfl
                      refine hK.out _ _ ?_
                      clear hK K
                      refine done_ (done_of HT_.out (by kernel_rfl)) ?_
                      try go_wp2
                      go_roundg k1
                      case measure => have := HK1.out; omega
                      case rel => exact ⟨(y113), (wrap64 (x8_1 + 1)), (wrap64 (x14_1 + 1)), (by first | rfl | (simp; done) | (simp [*]; done)), (by first | rfl | (simp; done) | (simp [*]; done)), H', ⟨by have := HK1.out; omega⟩, ⟨by (with_reducible repeat (first | apply Kd.R_alloc | apply Kd.R_drewN | apply Kd.R_drew)); exact HQ23.out⟩, ⟨by repeat (first | (with_reducible first | exact HB.out | apply below_alloc | apply pw_below_drewN | apply below_drew1 | refine below_set ?_ GB14.out) | exact HB.out)⟩⟩
                  · rw [if_neg c13] at H
                    exact absurd H (by simp)
                · rw [if_neg c12] at H
                  exact absurd H (by simp)
              · rw [if_neg c11] at H
                exact absurd H (by simp)
            · rw [if_neg c10] at H
              exact absurd H (by simp)
          · rw [if_neg c9] at H
            exact absurd H (by simp)
        · rw [if_neg c8] at H
          exact absurd H (by simp)
      · rw [if_neg c6] at H
        have c6b0 : decide (x14_1 < (a2.size : Int)) = false := decide_eq_false c6
        clear c6
        obtain rfl := Option.some.inj H
        go_wp2
        go_ret
        exact ⟨_, by first | rfl | (simp [errW_none, errW_some] <;> rfl) | (simp [*, errW_none, errW_some] <;> rfl), by (with_reducible repeat (first | apply Kd.R_alloc | apply Kd.R_drewN | apply Kd.R_drew)); exact HO_7.out, by repeat (first | (with_reducible first | exact HB.out | apply below_alloc | apply pw_below_drewN | apply below_drew1) | exact HB.out)⟩
end Go.Proofs.YthbdaoapjnofkaaDoor.PFnSplitRows
