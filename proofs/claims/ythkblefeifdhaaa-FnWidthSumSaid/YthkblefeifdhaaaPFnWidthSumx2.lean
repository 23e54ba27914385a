-- Printed by a program of this seat (xprint) out of the translation; Lean checks it.
import Derived.Test.YthkblefeifdhaaaPFnWidthSumx0
import Derived.Test.YthkblefeifdhaaaPFnWidthSumx1
namespace Go.Proofs.Ythkblefeifdhaaa.PFnWidthSum
open Go.RowKit Go.Proofs.Ythkblefeifdhaaa.H Go.Proofs.Ythkblefeifdhaaa.R Go.Proofs.YthkblefeifdhaaaW.PrintWords Go.Proofs.YthkblefeifdhaaaW.PrintLast Go.Proofs.YthkblefeifdhaaaW.PrintMore
attribute [local go_sem] max2_int min2_int max_two min_two max_three min_three max_four min_four   -- for this text's walks alone
set_option linter.unusedVariables false
set_option linter.unusedSimpArgs false

/-! ### spec_Width: function 19 -/
def spec_Width.l0 : Nat → ByteArray → Int → Int → Option (Int)
  | 0, _, _, _ => none
  | k + 1, x0, x3, x4 => if x4 < (x0.size : Int) then (if 0 ≤ x4 then (if (bt x0 x4) = 10 then (spec_Width.l0 k x0 x3 (wrap64 (x4 + 1))) else (spec_Width.l0 k x0 (wrap64 (x3 + 1)) (wrap64 (x4 + 1)))) else (none)) else (some x3)
def spec_Width.f (k : Nat) (a0 : ByteArray) : Option (Int) := spec_Width.l0 k a0 0 0
theorem spec_Width.mono_l : ∀ k, (∀ y0 y1 y2, LeO (spec_Width.l0 k y0 y1 y2) (spec_Width.l0 (k + 1) y0 y1 y2))
  | 0 => fun _ _ _ r h => by simp [spec_Width.l0] at h
  | k + 1 => by
    have ih0 := spec_Width.mono_l k
    · intro y0 y1 y2
      unfold spec_Width.l0
      repeat' first
      | (with_reducible exact ih0 _ _ _)
      | (with_reducible exact LeO.refl _)
      | (with_reducible exact LeO.none _)
      | (with_reducible refine LeO.ite ?_ ?_)
      | (with_reducible refine LeO.bind ?_ (fun _ => ?_))
      | exact ih0 _ _ _
      | exact LeO.none _
      | refine LeO.ite ?_ ?_
      | refine LeO.bind ?_ (fun _ => ?_)
theorem spec_Width.mono : ∀ a0 k, LeO (spec_Width.f k a0) (spec_Width.f (k + 1) a0) := by
  intro a0 k
  have ih0 := spec_Width.mono_l k
  unfold spec_Width.f
  repeat' first
      | (with_reducible exact ih0 _ _ _)
      | (with_reducible exact LeO.refl _)
      | (with_reducible exact LeO.none _)
      | (with_reducible refine LeO.ite ?_ ?_)
      | (with_reducible refine LeO.bind ?_ (fun _ => ?_))
      | exact ih0 _ _ _
      | exact LeO.none _
      | refine LeO.ite ?_ ?_
      | refine LeO.bind ?_ (fun _ => ?_)
set_option maxHeartbeats 8000000 in
set_option maxRecDepth 100000 in
theorem spec_Width.calls (k : Nat) (a0 : ByteArray) (r : Int) (w : World) (h : spec_Width.f k a0 = some r) :
    Calls Try.prog 19 #[.string a0] w fun e w' => e = .returned (.int .i64 r) ∧ Drawn0 w w' := by
  have H : (spec_Width.l0 k a0 0 0) = some r := h
  clear h
  have H' := Aside0.mk H
  clear H
  go_enter Try.func19, Try.ntmps19
  go_wp2
  go_loopg [3, 4] k (fun kq v3 v4 w' => ∃ (x3_1 : Int) (x4_1 : Int), v3 = .int .i64 x3_1 ∧ v4 = .int .i64 x4_1 ∧ Aside0 (spec_Width.l0 kq a0 x3_1 x4_1 = some r) ∧ Aside0 (kq ≤ k) ∧ Drawn0 w w')
  case atStart => exact ⟨(0), (0), (by first | rfl | (simp; done) | (simp [*]; done)), (by first | rfl | (simp; done) | (simp [*]; done)), H', ⟨Nat.le_refl _⟩, by repeat (first | exact Drawn0.refl _ | apply Drawn0.step)⟩
  case round =>
    clear H'
    try clear c1
    obtain ⟨x3_1, x4_1, rfl, rfl, HA, HK1, ⟨m1, rfl⟩⟩ := hrel
    cases gk with
    | zero => exact absurd HA.out (by simp [spec_Width.l0])
    | succ k1 =>
      have H := HA.out
      clear HA
      simp only [spec_Width.l0] at H
      by_cases c2 : x4_1 < (a0.size : Int)
      · rw [if_pos c2] at H
        have c2b0 : decide (x4_1 < (a0.size : Int)) = true := decide_eq_true c2
        clear c2
        by_cases c3 : 0 ≤ x4_1
        · rw [if_pos c3] at H
          have c3b0 : decide (0 ≤ x4_1) = true := decide_eq_true c3
          clear c3
          by_cases c5 : (bt a0 x4_1) = 10
          · rw [if_pos c5] at H
            have c5b0 : ((bt a0 x4_1) == 10) = true := beq_iff_eq.mpr c5
            have c5b1 : ((bt a0 x4_1) != 10) = false := bne_eq_false_iff_eq.mpr c5
            clear c5
            have H' := Aside0.mk H
            clear H
            have p4 : 0 ≤ (x4_1 : Int) := of_decide_eq_true (by first | (with_reducible assumption) | assumption)
            have q4 : x4_1 < (a0.size : Int) := of_decide_eq_true (by first | (with_reducible assumption) | assumption)
            have hx4 := bt_at a0 x4_1
            replace p4 := eq_true p4
            replace q4 := eq_true q4
            go_wp2
            go_roundg k1
            case measure => have := HK1.out; omega
            case rel => exact ⟨(x3_1), (wrap64 (x4_1 + 1)), (by first | rfl | (simp; done) | (simp [*]; done)), (by first | rfl | (simp; done) | (simp [*]; done)), H', ⟨by have := HK1.out; omega⟩, by repeat (first | exact Drawn0.refl _ | apply Drawn0.step)⟩
          · rw [if_neg c5] at H
            have c5b0 : ((bt a0 x4_1) == 10) = false := beq_eq_false_iff_ne.mpr c5
            have c5b1 : ((bt a0 x4_1) != 10) = true := bne_iff_ne.mpr c5
            have H' := Aside0.mk H
            clear H
            have p4 : 0 ≤ (x4_1 : Int) := of_decide_eq_true (by first | (with_reducible assumption) | assumption)
            have q4 : x4_1 < (a0.size : Int) := of_decide_eq_true (by first | (with_reducible assumption) | assumption)
            have hx4 := bt_at a0 x4_1
            replace p4 := eq_true p4
            replace q4 := eq_true q4
            go_wp2
            go_roundg k1
            case measure => have := HK1.out; omega
            case rel => exact ⟨(wrap64 (x3_1 + 1)), (wrap64 (x4_1 + 1)), (by first | rfl | (simp; done) | (simp [*]; done)), (by first | rfl | (simp; done) | (simp [*]; done)), H', ⟨by have := HK1.out; omega⟩, by repeat (first | exact Drawn0.refl _ | apply Drawn0.step)⟩
        · rw [if_neg c3] at H
          exact absurd H (by simp)
      · rw [if_neg c2] at H
        have c2b0 : decide (x4_1 < (a0.size : Int)) = false := decide_eq_false c2
        clear c2
        obtain rfl := Option.some.inj H
        go_wp2
        go_ret
        exact ⟨by first | rfl | (simp; done) | (simp [*]; done), by repeat (first | exact Drawn0.refl _ | apply Drawn0.step)⟩

/-! ### laws_FnWidthSum: function 5 -/
mutual
def laws_FnWidthSum.j0 : Nat → ByteArray → ByteArray → Bool → Option (Bool)
  | 0, _, _, _ => none
  | k + 1, x0, x1, x16 => if x16 = true then (some true) else ((laws_coloured16.f k x0).bind fun bt108 => ((laws_coloured16.f k x1).bind fun bt110 => (if bt108.2 = true then (laws_FnWidthSum.j1 k x0 x1 bt108.1 bt110.1 (!bt110.2)) else (laws_FnWidthSum.j1 k x0 x1 bt108.1 bt110.1 true))))
def laws_FnWidthSum.j1 : Nat → ByteArray → ByteArray → ByteArray → ByteArray → Bool → Option (Bool)
  | 0, _, _, _, _, _ => none
  | k + 1, x0, x1, x5, x7, x32 => if x32 = true then (some true) else (if x0.size + x1.size ≤ 9223372036854775807 then ((impl_Width.f (x0 ++ x1)).bind fun t112 => ((impl_Width.f x0).bind fun t113 => ((impl_Width.f x1).bind fun t114 => (if t112 = (wrap64 (t113 + t114)) then ((impl_Width.f x0).bind fun t115 => ((spec_Width.f k x5).bind fun t116 => (if t115 = t116 then ((impl_Width.f x1).bind fun t117 => ((spec_Width.f k x7).bind fun t118 => (if t117 = t118 then ((impl_Width.f (⟨#[97]⟩ : ByteArray)).bind fun t119 => (some (t119 == 1))) else (some false)))) else (some false)))) else (some false))))) else (none))
end
def laws_FnWidthSum.f (k : Nat) (a0 : ByteArray) (a1 : ByteArray) : Option (Bool) := if (a0.size : Int) > 2147483647 then (laws_FnWidthSum.j0 k a0 a1 true) else (laws_FnWidthSum.j0 k a0 a1 (decide ((a1.size : Int) > 2147483647)))
theorem laws_FnWidthSum.mono_l : ∀ k, (∀ y0 y1 y2, LeO (laws_FnWidthSum.j0 k y0 y1 y2) (laws_FnWidthSum.j0 (k + 1) y0 y1 y2)) ∧ (∀ y0 y1 y2 y3 y4, LeO (laws_FnWidthSum.j1 k y0 y1 y2 y3 y4) (laws_FnWidthSum.j1 (k + 1) y0 y1 y2 y3 y4))
  | 0 => ⟨fun _ _ _ r h => by simp [laws_FnWidthSum.j0] at h, fun _ _ _ _ _ r h => by simp [laws_FnWidthSum.j1] at h⟩
  | k + 1 => by
    obtain ⟨ih0, ih1⟩ := laws_FnWidthSum.mono_l k
    refine ⟨?_, ?_⟩
    · intro y0 y1 y2
      unfold laws_FnWidthSum.j0
      repeat' first
      | (with_reducible exact ih0 _ _ _)
      | (with_reducible exact ih1 _ _ _ _ _)
      | (with_reducible exact laws_coloured16.mono _ _)
      | (with_reducible exact spec_Width.mono _ _)
      | (with_reducible exact LeO.refl _)
      | (with_reducible exact LeO.none _)
      | (with_reducible refine LeO.ite ?_ ?_)
      | (with_reducible refine LeO.bind ?_ (fun _ => ?_))
      | exact ih0 _ _ _
      | exact ih1 _ _ _ _ _
      | exact laws_coloured16.mono _ _
      | exact spec_Width.mono _ _
      | exact LeO.none _
      | refine LeO.ite ?_ ?_
      | refine LeO.bind ?_ (fun _ => ?_)
    · intro y0 y1 y2 y3 y4
      unfold laws_FnWidthSum.j1
      repeat' first
      | (with_reducible exact ih0 _ _ _)
      | (with_reducible exact ih1 _ _ _ _ _)
      | (with_reducible exact laws_coloured16.mono _ _)
      | (with_reducible exact spec_Width.mono _ _)
      | (with_reducible exact LeO.refl _)
      | (with_reducible exact LeO.none _)
      | (with_reducible refine LeO.ite ?_ ?_)
      | (with_reducible refine LeO.bind ?_ (fun _ => ?_))
      | exact ih0 _ _ _
      | exact ih1 _ _ _ _ _
      | exact laws_coloured16.mono _ _
      | exact spec_Width.mono _ _
      | exact LeO.none _
      | refine LeO.ite ?_ ?_
      | refine LeO.bind ?_ (fun _ => ?_)
theorem laws_FnWidthSum.mono : ∀ a0 a1 k, LeO (laws_FnWidthSum.f k a0 a1) (laws_FnWidthSum.f (k + 1) a0 a1) := by
  intro a0 a1 k
  obtain ⟨ih0, ih1⟩ := laws_FnWidthSum.mono_l k
  unfold laws_FnWidthSum.f
  repeat' first
      | (with_reducible exact ih0 _ _ _)
      | (with_reducible exact ih1 _ _ _ _ _)
      | (with_reducible exact laws_coloured16.mono _ _)
      | (with_reducible exact spec_Width.mono _ _)
      | (with_reducible exact LeO.refl _)
      | (with_reducible exact LeO.none _)
      | (with_reducible refine LeO.ite ?_ ?_)
      | (with_reducible refine LeO.bind ?_ (fun _ => ?_))
      | exact ih0 _ _ _
      | exact ih1 _ _ _ _ _
      | exact laws_coloured16.mono _ _
      | exact spec_Width.mono _ _
      | exact LeO.none _
      | refine LeO.ite ?_ ?_
      | refine LeO.bind ?_ (fun _ => ?_)
set_option maxHeartbeats 8000000 in
set_option maxRecDepth 100000 in
theorem laws_FnWidthSum.calls (k : Nat) (a0 : ByteArray) (a1 : ByteArray) (r : Bool) (w : World) (h : laws_FnWidthSum.f k a0 a1 = some r) :
    Calls Try.prog 5 #[.string a0, .string a1] w fun e w' => e = .returned (.bool r) ∧ Below w.heap.size w w' := by
  have HB := Aside0.mk (Below.refl w.heap.size w)
  have H : (if (a0.size : Int) > 2147483647 then (laws_FnWidthSum.j0 k a0 a1 true) else (laws_FnWidthSum.j0 k a0 a1 (decide ((a1.size : Int) > 2147483647)))) = some r := h
  clear h
  have HC3 := Aside0.mk H
  clear H
  go_enter Try.func5, Try.ntmps5
  go_upto_region 1 with (fail)
  go_cut [16] (fun v16 wc => ∃ (kq : Nat) (x16_2 : Bool), v16 = .bool x16_2 ∧ Aside0 (laws_FnWidthSum.j0 kq a0 a1 x16_2 = some r) ∧ Aside0 (kq ≤ k) ∧ Aside0 (Below w.heap.size w wc))
  case first =>
    have H := HC3.out
    clear HC3
    by_cases c4 : (a0.size : Int) > 2147483647
    · rw [if_pos c4] at H
      have c4b0 : decide (2147483647 < (a0.size : Int)) = true := decide_eq_true c4
      have c4b1 : decide (2147483647 < a0.size) = true := decide_eq_true (by omega)
      clear c4
      (first | rw [c4b0] | (simp only [i64_w, i32_w]; rw [c4b0]) | skip)
      have H' := Aside0.mk H
      clear H
      go_wp2
      go_meet
      case rel => exact ⟨_, (true), (by first | rfl | (simp; done) | (simp [*]; done)), H', ⟨by first | omega | exact Nat.le_refl _⟩, ⟨by repeat (first | (with_reducible first | exact HB.out | apply below_alloc | apply pw_below_drewN | apply below_drew1) | exact HB.out)⟩⟩
    · rw [if_neg c4] at H
      have c4b0 : decide (2147483647 < (a0.size : Int)) = false := decide_eq_false c4
      have c4b1 : decide (2147483647 < a0.size) = false := decide_eq_false (by omega)
      clear c4
      (first | rw [c4b0] | (simp only [i64_w, i32_w]; rw [c4b0]) | skip)
      have H' := Aside0.mk H
      clear H
      go_wp2
      go_meet
      case rel => exact ⟨_, (decide ((a1.size : Int) > 2147483647)), (by first | rfl | (simp; done) | (simp [*]; done)), H', ⟨by first | omega | exact Nat.le_refl _⟩, ⟨by repeat (first | (with_reducible first | exact HB.out | apply below_alloc | apply pw_below_drewN | apply below_drew1) | exact HB.out)⟩⟩
  case rest =>
    clear HC3
    try clear p2
    try clear c4
    try clear c4b0
    try clear c4b1
    obtain ⟨kq, x16_2, rfl, HA, HJ2, HB⟩ := hcut
    cases kq with
    | zero => exact absurd HA.out (by simp [laws_FnWidthSum.j0])
    | succ kj2 =>
      have H := HA.out
      clear HA
      simp only [laws_FnWidthSum.j0] at H
      by_cases c5 : x16_2 = true
      · subst c5
        have H1 : (some true) = some r := by rw [if_pos rfl] at H; exact H
        clear H
        have H := H1
        clear H1
        obtain rfl := Option.some.inj H
        go_wp2
        go_ret
        exact ⟨by first | rfl | (simp [errW_none, errW_some] <;> rfl) | (simp [*, errW_none, errW_some] <;> rfl), by repeat (first | (with_reducible first | exact HB.out | apply below_alloc | apply pw_below_drewN | apply below_drew1) | exact HB.out)⟩
      · replace c5 := Bool.eq_false_iff.mpr c5
        subst c5
        have H1 : ((laws_coloured16.f kj2 a0).bind fun bt108 => ((laws_coloured16.f kj2 a1).bind fun bt110 => (if bt108.2 = true then (laws_FnWidthSum.j1 kj2 a0 a1 bt108.1 bt110.1 (!bt110.2)) else (laws_FnWidthSum.j1 kj2 a0 a1 bt108.1 bt110.1 true)))) = some r := by rw [if_neg (show ¬ (false = true) by decide)] at H; exact H
        clear H
        have H := H1
        clear H1
        replace H := Option.bind_eq_some_iff.mp H
        obtain ⟨⟨t108, t109⟩, A60, H⟩ := H
        replace H : ((laws_coloured16.f kj2 a1).bind fun bt110 => (if t109 = true then (laws_FnWidthSum.j1 kj2 a0 a1 t108 bt110.1 (!bt110.2)) else (laws_FnWidthSum.j1 kj2 a0 a1 t108 bt110.1 true))) = some r := H
        have A6 := Aside0.mk A60
        clear A60
        replace H := Option.bind_eq_some_iff.mp H
        obtain ⟨⟨t110, t111⟩, A70, H⟩ := H
        replace H : (if t109 = true then (laws_FnWidthSum.j1 kj2 a0 a1 t108 t110 (!t111)) else (laws_FnWidthSum.j1 kj2 a0 a1 t108 t110 true)) = some r := H
        have A7 := Aside0.mk A70
        clear A70
        have HC8 := Aside0.mk H
        clear H
        go_upto_region 5 with (first | ((with_reducible refine gate_callee (f := 17) rfl ?_); refine goesL_ (some 19) rfl rfl Try.func17 (by kernel_rfl) rfl #[.string a0] rfl (by (try simp only [List.map_toArray, List.map_cons, List.map_nil]); first | done | rfl | (simp only [List.length_drop, List.length_take]; rfl)) ?_; (with_reducible refine (laws_coloured16.calls kj2 a0 t108 t109 _ A6.out).mono ?_); rintro e w9 ⟨rfl, hb⟩; refine ⟨_, rfl, ?_⟩; have n0_ := Aside0.mk (below_step (by repeat (first | (with_reducible first | exact HB.out | apply below_alloc | apply pw_below_drewN | apply below_drew1) | exact HB.out)) hb); clear HB; have HB := n0_; clear n0_; (try clear hb); (try clear hb2); (try clear hk); (try clear hi)) | ((with_reducible refine gate_callee (f := 17) rfl ?_); refine goesL_ (some 24) rfl rfl Try.func17 (by kernel_rfl) rfl #[.string a1] rfl (by (try simp only [List.map_toArray, List.map_cons, List.map_nil]); first | done | rfl | (simp only [List.length_drop, List.length_take]; rfl)) ?_; (with_reducible refine (laws_coloured16.calls kj2 a1 t110 t111 _ A7.out).mono ?_); rintro e w10 ⟨rfl, hb⟩; refine ⟨_, rfl, ?_⟩; have n0_ := Aside0.mk (below_step (by repeat (first | (with_reducible first | exact HB.out | apply below_alloc | apply pw_below_drewN | apply below_drew1) | exact HB.out)) hb); clear HB; have HB := n0_; clear n0_; (try clear hb); (try clear hb2); (try clear hk); (try clear hi)))
        (try simp only [Act.put, List.setIfInBounds_toArray, List.set_cons_zero, List.set_cons_succ])
        go_cut [32] (fun v32 wc => ∃ (kq : Nat) (x32_7 : Bool), v32 = .bool x32_7 ∧ Aside0 (laws_FnWidthSum.j1 kq a0 a1 t108 t110 x32_7 = some r) ∧ Aside0 (kq ≤ kj2) ∧ Aside0 (Below w.heap.size w wc))
        case first =>
          have H := HC8.out
          clear HC8
          by_cases c11 : t109 = true
          · subst c11
            have H1 : (laws_FnWidthSum.j1 kj2 a0 a1 t108 t110 (!t111)) = some r := by rw [if_pos rfl] at H; exact H
            clear H
            have H := H1
            clear H1
            have H' := Aside0.mk H
            clear H
            go_wp2
            go_meet
            case rel => exact ⟨_, (!t111), (by first | rfl | (simp; done) | (simp [*]; done)), H', ⟨by have := HJ2.out; first | omega | exact Nat.le_refl _⟩, ⟨by repeat (first | (with_reducible first | exact HB.out | apply below_alloc | apply pw_below_drewN | apply below_drew1) | exact HB.out)⟩⟩
          · replace c11 := Bool.eq_false_iff.mpr c11
            subst c11
            have H1 : (laws_FnWidthSum.j1 kj2 a0 a1 t108 t110 true) = some r := by rw [if_neg (show ¬ (false = true) by decide)] at H; exact H
            clear H
            have H := H1
            clear H1
            have H' := Aside0.mk H
            clear H
            go_wp2
            go_meet
            case rel => exact ⟨_, (true), (by first | rfl | (simp; done) | (simp [*]; done)), H', ⟨by have := HJ2.out; first | omega | exact Nat.le_refl _⟩, ⟨by repeat (first | (with_reducible first | exact HB.out | apply below_alloc | apply pw_below_drewN | apply below_drew1) | exact HB.out)⟩⟩
        case rest =>
          clear HC8
          try clear c1
          try clear p2
          try clear c4
          try clear c4b0
          try clear c4b1
          try clear c5
          try clear c11
          try clear p2
          obtain ⟨kq, x32_7, rfl, HA, HJ7, HB⟩ := hcut
          cases kq with
          | zero => exact absurd HA.out (by simp [laws_FnWidthSum.j1])
          | succ kj7 =>
            have H := HA.out
            clear HA
            simp only [laws_FnWidthSum.j1] at H
            by_cases c12 : x32_7 = true
            · subst c12
              have H1 : (some true) = some r := by rw [if_pos rfl] at H; exact H
              clear H
              have H := H1
              clear H1
              obtain rfl := Option.some.inj H
              go_wp2
              go_ret
              exact ⟨by first | rfl | (simp [errW_none, errW_some] <;> rfl) | (simp [*, errW_none, errW_some] <;> rfl), by repeat (first | (with_reducible first | exact HB.out | apply below_alloc | apply pw_below_drewN | apply below_drew1) | exact HB.out)⟩
            · replace c12 := Bool.eq_false_iff.mpr c12
              subst c12
              have H1 : (if a0.size + a1.size ≤ 9223372036854775807 then ((impl_Width.f (a0 ++ a1)).bind fun t112 => ((impl_Width.f a0).bind fun t113 => ((impl_Width.f a1).bind fun t114 => (if t112 = (wrap64 (t113 + t114)) then ((impl_Width.f a0).bind fun t115 => ((spec_Width.f kj7 t108).bind fun t116 => (if t115 = t116 then ((impl_Width.f a1).bind fun t117 => ((spec_Width.f kj7 t110).bind fun t118 => (if t117 = t118 then ((impl_Width.f (⟨#[97]⟩ : ByteArray)).bind fun t119 => (some (t119 == 1))) else (some false)))) else (some false)))) else (some false))))) else (none)) = some r := by rw [if_neg (show ¬ (false = true) by decide)] at H; exact H
              clear H
              have H := H1
              clear H1
              by_cases c13 : a0.size + a1.size ≤ 9223372036854775807
              · rw [if_pos c13] at H
                have c13b0 := eq_true c13
                have c13b1 : decide (a0.size + a1.size ≤ 9223372036854775807) = true := decide_eq_true c13
                try have c13b2 : (9223372036854775807 < a0.size + a1.size) = False := eq_false (Nat.not_lt.2 c13)
                replace H := Option.bind_eq_some_iff.mp H
                obtain ⟨t112, A140, H⟩ := H
                replace H : ((impl_Width.f a0).bind fun t113 => ((impl_Width.f a1).bind fun t114 => (if t112 = (wrap64 (t113 + t114)) then ((impl_Width.f a0).bind fun t115 => ((spec_Width.f kj7 t108).bind fun t116 => (if t115 = t116 then ((impl_Width.f a1).bind fun t117 => ((spec_Width.f kj7 t110).bind fun t118 => (if t117 = t118 then ((impl_Width.f (⟨#[97]⟩ : ByteArray)).bind fun t119 => (some (t119 == 1))) else (some false)))) else (some false)))) else (some false)))) = some r := H
                have A14 := Aside0.mk A140
                clear A140
                replace H := Option.bind_eq_some_iff.mp H
                obtain ⟨t113, A150, H⟩ := H
                replace H : ((impl_Width.f a1).bind fun t114 => (if t112 = (wrap64 (t113 + t114)) then ((impl_Width.f a0).bind fun t115 => ((spec_Width.f kj7 t108).bind fun t116 => (if t115 = t116 then ((impl_Width.f a1).bind fun t117 => ((spec_Width.f kj7 t110).bind fun t118 => (if t117 = t118 then ((impl_Width.f (⟨#[97]⟩ : ByteArray)).bind fun t119 => (some (t119 == 1))) else (some false)))) else (some false)))) else (some false))) = some r := H
                have A15 := Aside0.mk A150
                clear A150
                replace H := Option.bind_eq_some_iff.mp H
                obtain ⟨t114, A160, H⟩ := H
                replace H : (if t112 = (wrap64 (t113 + t114)) then ((impl_Width.f a0).bind fun t115 => ((spec_Width.f kj7 t108).bind fun t116 => (if t115 = t116 then ((impl_Width.f a1).bind fun t117 => ((spec_Width.f kj7 t110).bind fun t118 => (if t117 = t118 then ((impl_Width.f (⟨#[97]⟩ : ByteArray)).bind fun t119 => (some (t119 == 1))) else (some false)))) else (some false)))) else (some false)) = some r := H
                have A16 := Aside0.mk A160
                clear A160
                by_cases c17 : t112 = (wrap64 (t113 + t114))
                · rw [if_pos c17] at H
                  have c17b0 : (t112 == (wrap64 (t113 + t114))) = true := beq_iff_eq.mpr c17
                  have c17b1 : (t112 != (wrap64 (t113 + t114))) = false := bne_eq_false_iff_eq.mpr c17
                  clear c17
                  replace H := Option.bind_eq_some_iff.mp H
                  obtain ⟨t115, A180, H⟩ := H
                  replace H : ((spec_Width.f kj7 t108).bind fun t116 => (if t115 = t116 then ((impl_Width.f a1).bind fun t117 => ((spec_Width.f kj7 t110).bind fun t118 => (if t117 = t118 then ((impl_Width.f (⟨#[97]⟩ : ByteArray)).bind fun t119 => (some (t119 == 1))) else (some false)))) else (some false))) = some r := H
                  have A18 := Aside0.mk A180
                  clear A180
                  replace H := Option.bind_eq_some_iff.mp H
                  obtain ⟨t116, A190, H⟩ := H
                  replace H : (if t115 = t116 then ((impl_Width.f a1).bind fun t117 => ((spec_Width.f kj7 t110).bind fun t118 => (if t117 = t118 then ((impl_Width.f (⟨#[97]⟩ : ByteArray)).bind fun t119 => (some (t119 == 1))) else (some false)))) else (some false)) = some r := H
                  have A19 := Aside0.mk A190
                  clear A190
                  by_cases c20 : t115 = t116
                  · rw [if_pos c20] at H
                    have c20b0 : (t115 == t116) = true := beq_iff_eq.mpr c20
                    have c20b1 : (t115 != t116) = false := bne_eq_false_iff_eq.mpr c20
                    clear c20
                    replace H := Option.bind_eq_some_iff.mp H
                    obtain ⟨t117, A210, H⟩ := H
                    replace H : ((spec_Width.f kj7 t110).bind fun t118 => (if t117 = t118 then ((impl_Width.f (⟨#[97]⟩ : ByteArray)).bind fun t119 => (some (t119 == 1))) else (some false))) = some r := H
                    have A21 := Aside0.mk A210
                    clear A210
                    replace H := Option.bind_eq_some_iff.mp H
                    obtain ⟨t118, A220, H⟩ := H
                    replace H : (if t117 = t118 then ((impl_Width.f (⟨#[97]⟩ : ByteArray)).bind fun t119 => (some (t119 == 1))) else (some false)) = some r := H
                    have A22 := Aside0.mk A220
                    clear A220
                    by_cases c23 : t117 = t118
                    · rw [if_pos c23] at H
                      have c23b0 : (t117 == t118) = true := beq_iff_eq.mpr c23
                      have c23b1 : (t117 != t118) = false := bne_eq_false_iff_eq.mpr c23
                      clear c23
                      replace H := Option.bind_eq_some_iff.mp H
                      obtain ⟨t119, A240, H⟩ := H
                      replace H : (some (t119 == 1)) = some r := H
                      have A24 := Aside0.mk A240
                      clear A240
                      obtain rfl := Option.some.inj H
                      go_wp2_with (first | ((with_reducible refine gate_callee (f := 18) rfl ?_); refine goesL_ (some 36) rfl rfl Try.func18 (by kernel_rfl) rfl #[.string (a0 ++ a1)] rfl (by (try simp only [List.map_toArray, List.map_cons, List.map_nil]); first | done | rfl | (simp only [List.length_drop, List.length_take]; rfl)) ?_; (with_reducible refine (impl_Width.calls (a0 ++ a1) t112 _ A14.out).mono ?_); rintro e w25 ⟨rfl, hb⟩; refine ⟨_, rfl, ?_⟩; have n0_ := Aside0.mk (below_step (by repeat (first | (with_reducible first | exact HB.out | apply below_alloc | apply pw_below_drewN | apply below_drew1) | exact HB.out)) hb); clear HB; have HB := n0_; clear n0_; (try clear hb); (try clear hb2); (try clear hk); (try clear hi)) | ((with_reducible refine gate_callee (f := 18) rfl ?_); refine goesL_ (some 38) rfl rfl Try.func18 (by kernel_rfl) rfl #[.string a0] rfl (by (try simp only [List.map_toArray, List.map_cons, List.map_nil]); first | done | rfl | (simp only [List.length_drop, List.length_take]; rfl)) ?_; (with_reducible refine (impl_Width.calls a0 t113 _ A15.out).mono ?_); rintro e w26 ⟨rfl, hb⟩; refine ⟨_, rfl, ?_⟩; have n0_ := Aside0.mk (below_step (by repeat (first | (with_reducible first | exact HB.out | apply below_alloc | apply pw_below_drewN | apply below_drew1) | exact HB.out)) hb); clear HB; have HB := n0_; clear n0_; (try clear hb); (try clear hb2); (try clear hk); (try clear hi)) | ((with_reducible refine gate_callee (f := 18) rfl ?_); refine goesL_ (some 40) rfl rfl Try.func18 (by kernel_rfl) rfl #[.string a1] rfl (by (try simp only [List.map_toArray, List.map_cons, List.map_nil]); first | done | rfl | (simp only [List.length_drop, List.length_take]; rfl)) ?_; (with_reducible refine (impl_Width.calls a1 t114 _ A16.out).mono ?_); rintro e w27 ⟨rfl, hb⟩; refine ⟨_, rfl, ?_⟩; have n0_ := Aside0.mk (below_step (by repeat (first | (with_reducible first | exact HB.out | apply below_alloc | apply pw_below_drewN | apply below_drew1) | exact HB.out)) hb); clear HB; have HB := n0_; clear n0_; (try clear hb); (try clear hb2); (try clear hk); (try clear hi)) | (go_at_call 18; (with_reducible refine (impl_Width.calls a0 t115 _ A18.out).mono ?_); rintro e w28 ⟨rfl, hb⟩; have n0_ := Aside0.mk (below_step (by repeat (first | (with_reducible first | exact HB.out | apply below_alloc | apply pw_below_drewN | apply below_drew1) | exact HB.out)) hb); clear HB; have HB := n0_; clear n0_; (try clear hb); (try clear hb2); (try clear hk); (try clear hi)) | (go_at_call 19; (with_reducible refine (spec_Width.calls kj7 t108 t116 _ A19.out).mono ?_); rintro e w' ⟨rfl, ⟨nd, rfl⟩⟩) | (go_at_call 18; (with_reducible refine (impl_Width.calls a1 t117 _ A21.out).mono ?_); rintro e w29 ⟨rfl, hb⟩; have n0_ := Aside0.mk (below_step (by repeat (first | (with_reducible first | exact HB.out | apply below_alloc | apply pw_below_drewN | apply below_drew1) | exact HB.out)) hb); clear HB; have HB := n0_; clear n0_; (try clear hb); (try clear hb2); (try clear hk); (try clear hi)) | (go_at_call 19; (with_reducible refine (spec_Width.calls kj7 t110 t118 _ A22.out).mono ?_); rintro e w' ⟨rfl, ⟨nd, rfl⟩⟩) | (go_at_call 18; (with_reducible refine (impl_Width.calls (⟨#[97]⟩ : ByteArray) t119 _ A24.out).mono ?_); rintro e w30 ⟨rfl, hb⟩; have n0_ := Aside0.mk (below_step (by repeat (first | (with_reducible first | exact HB.out | apply below_alloc | apply pw_below_drewN | apply below_drew1) | exact HB.out)) hb); clear HB; have HB := n0_; clear n0_; (try clear hb); (try clear hb2); (try clear hk); (try clear hi)))
                      go_ret
                      exact ⟨by first | rfl | (simp [errW_none, errW_some] <;> rfl) | (simp [*, errW_none, errW_some] <;> rfl), by repeat (first | (with_reducible first | exact HB.out | apply below_alloc | apply pw_below_drewN | apply below_drew1) | exact HB.out)⟩
                    · rw [if_neg c23] at H
                      have c23b0 : (t117 == t118) = false := beq_eq_false_iff_ne.mpr c23
                      have c23b1 : (t117 != t118) = true := bne_iff_ne.mpr c23
                      obtain rfl := Option.some.inj H
                      go_wp2_with (first | ((with_reducible refine gate_callee (f := 18) rfl ?_); refine goesL_ (some 36) rfl rfl Try.func18 (by kernel_rfl) rfl #[.string (a0 ++ a1)] rfl (by (try simp only [List.map_toArray, List.map_cons, List.map_nil]); first | done | rfl | (simp only [List.length_drop, List.length_take]; rfl)) ?_; (with_reducible refine (impl_Width.calls (a0 ++ a1) t112 _ A14.out).mono ?_); rintro e w31 ⟨rfl, hb⟩; refine ⟨_, rfl, ?_⟩; have n0_ := Aside0.mk (below_step (by repeat (first | (with_reducible first | exact HB.out | apply below_alloc | apply pw_below_drewN | apply below_drew1) | exact HB.out)) hb); clear HB; have HB := n0_; clear n0_; (try clear hb); (try clear hb2); (try clear hk); (try clear hi)) | ((with_reducible refine gate_callee (f := 18) rfl ?_); refine goesL_ (some 38) rfl rfl Try.func18 (by kernel_rfl) rfl #[.string a0] rfl (by (try simp only [List.map_toArray, List.map_cons, List.map_nil]); first | done | rfl | (simp only [List.length_drop, List.length_take]; rfl)) ?_; (with_reducible refine (impl_Width.calls a0 t113 _ A15.out).mono ?_); rintro e w32 ⟨rfl, hb⟩; refine ⟨_, rfl, ?_⟩; have n0_ := Aside0.mk (below_step (by repeat (first | (with_reducible first | exact HB.out | apply below_alloc | apply pw_below_drewN | apply below_drew1) | exact HB.out)) hb); clear HB; have HB := n0_; clear n0_; (try clear hb); (try clear hb2); (try clear hk); (try clear hi)) | ((with_reducible refine gate_callee (f := 18) rfl ?_); refine goesL_ (some 40) rfl rfl Try.func18 (by kernel_rfl) rfl #[.string a1] rfl (by (try simp only [List.map_toArray, List.map_cons, List.map_nil]); first | done | rfl | (simp only [List.length_drop, List.length_take]; rfl)) ?_; (with_reducible refine (impl_Width.calls a1 t114 _ A16.out).mono ?_); rintro e w33 ⟨rfl, hb⟩; refine ⟨_, rfl, ?_⟩; have n0_ := Aside0.mk (below_step (by repeat (first | (with_reducible first | exact HB.out | apply below_alloc | apply pw_below_drewN | apply below_drew1) | exact HB.out)) hb); clear HB; have HB := n0_; clear n0_; (try clear hb); (try clear hb2); (try clear hk); (try clear hi)) | (go_at_call 18; (with_reducible refine (impl_Width.calls a0 t115 _ A18.out).mono ?_); rintro e w34 ⟨rfl, hb⟩; have n0_ := Aside0.mk (below_step (by repeat (first | (with_reducible first | exact HB.out | apply below_alloc | apply pw_below_drewN | apply below_drew1) | exact HB.out)) hb); clear HB; have HB := n0_; clear n0_; (try clear hb); (try clear hb2); (try clear hk); (try clear hi)) | (go_at_call 19; (with_reducible refine (spec_Width.calls kj7 t108 t116 _ A19.out).mono ?_); rintro e w' ⟨rfl, ⟨nd, rfl⟩⟩) | (go_at_call 18; (with_reducible refine (impl_Width.calls a1 t117 _ A21.out).mono ?_); rintro e w35 ⟨rfl, hb⟩; have n0_ := Aside0.mk (below_step (by repeat (first | (with_reducible first | exact HB.out | apply below_alloc | apply pw_below_drewN | apply below_drew1) | exact HB.out)) hb); clear HB; have HB := n0_; clear n0_; (try clear hb); (try clear hb2); (try clear hk); (try clear hi)) | (go_at_call 19; (with_reducible refine (spec_Width.calls kj7 t110 t118 _ A22.out).mono ?_); rintro e w' ⟨rfl, ⟨nd, rfl⟩⟩))
                      go_ret
                      exact ⟨by first | rfl | (simp [errW_none, errW_some] <;> rfl) | (simp [*, errW_none, errW_some] <;> rfl), by repeat (first | (with_reducible first | exact HB.out | apply below_alloc | apply pw_below_drewN | apply below_drew1) | exact HB.out)⟩
                  · rw [if_neg c20] at H
                    have c20b0 : (t115 == t116) = false := beq_eq_false_iff_ne.mpr c20
                    have c20b1 : (t115 != t116) = true := bne_iff_ne.mpr c20
                    obtain rfl := Option.some.inj H
                    go_wp2_with (first | ((with_reducible refine gate_callee (f := 18) rfl ?_); refine goesL_ (some 36) rfl rfl Try.func18 (by kernel_rfl) rfl #[.string (a0 ++ a1)] rfl (by (try simp only [List.map_toArray, List.map_cons, List.map_nil]); first | done | rfl | (simp only [List.length_drop, List.length_take]; rfl)) ?_; (with_reducible refine (impl_Width.calls (a0 ++ a1) t112 _ A14.out).mono ?_); rintro e w36 ⟨rfl, hb⟩; refine ⟨_, rfl, ?_⟩; have n0_ := Aside0.mk (below_step (by repeat (first | (with_reducible first | exact HB.out | apply below_alloc | apply pw_below_drewN | apply below_drew1) | exact HB.out)) hb); clear HB; have HB := n0_; clear n0_; (try clear hb); (try clear hb2); (try clear hk); (try clear hi)) | ((with_reducible refine gate_callee (f := 18) rfl ?_); refine goesL_ (some 38) rfl rfl Try.func18 (by kernel_rfl) rfl #[.string a0] rfl (by (try simp only [List.map_toArray, List.map_cons, List.map_nil]); first | done | rfl | (simp only [List.length_drop, List.length_take]; rfl)) ?_; (with_reducible refine (impl_Width.calls a0 t113 _ A15.out).mono ?_); rintro e w37 ⟨rfl, hb⟩; refine ⟨_, rfl, ?_⟩; have n0_ := Aside0.mk (below_step (by repeat (first | (with_reducible first | exact HB.out | apply below_alloc | apply pw_below_drewN | apply below_drew1) | exact HB.out)) hb); clear HB; have HB := n0_; clear n0_; (try clear hb); (try clear hb2); (try clear hk); (try clear hi)) | ((with_reducible refine gate_callee (f := 18) rfl ?_); refine goesL_ (some 40) rfl rfl Try.func18 (by kernel_rfl) rfl #[.string a1] rfl (by (try simp only [List.map_toArray, List.map_cons, List.map_nil]); first | done | rfl | (simp only [List.length_drop, List.length_take]; rfl)) ?_; (with_reducible refine (impl_Width.calls a1 t114 _ A16.out).mono ?_); rintro e w38 ⟨rfl, hb⟩; refine ⟨_, rfl, ?_⟩; have n0_ := Aside0.mk (below_step (by repeat (first | (with_reducible first | exact HB.out | apply below_alloc | apply pw_below_drewN | apply below_drew1) | exact HB.out)) hb); clear HB; have HB := n0_; clear n0_; (try clear hb); (try clear hb2); (try clear hk); (try clear hi)) | (go_at_call 18; (with_reducible refine (impl_Width.calls a0 t115 _ A18.out).mono ?_); rintro e w39 ⟨rfl, hb⟩; have n0_ := Aside0.mk (below_step (by repeat (first | (with_reducible first | exact HB.out | apply below_alloc | apply pw_below_drewN | apply below_drew1) | exact HB.out)) hb); clear HB; have HB := n0_; clear n0_; (try clear hb); (try clear hb2); (try clear hk); (try clear hi)) | (go_at_call 19; (with_reducible refine (spec_Width.calls kj7 t108 t116 _ A19.out).mono ?_); rintro e w' ⟨rfl, ⟨nd, rfl⟩⟩))
                    go_ret
                    exact ⟨by first | rfl | (simp [errW_none, errW_some] <;> rfl) | (simp [*, errW_none, errW_some] <;> rfl), by repeat (first | (with_reducible first | exact HB.out | apply below_alloc | apply pw_below_drewN | apply below_drew1) | exact HB.out)⟩
                · rw [if_neg c17] at H
                  have c17b0 : (t112 == (wrap64 (t113 + t114))) = false := beq_eq_false_iff_ne.mpr c17
                  have c17b1 : (t112 != (wrap64 (t113 + t114))) = true := bne_iff_ne.mpr c17
                  obtain rfl := Option.some.inj H
                  go_wp2_with (first | ((with_reducible refine gate_callee (f := 18) rfl ?_); refine goesL_ (some 36) rfl rfl Try.func18 (by kernel_rfl) rfl #[.string (a0 ++ a1)] rfl (by (try simp only [List.map_toArray, List.map_cons, List.map_nil]); first | done | rfl | (simp only [List.length_drop, List.length_take]; rfl)) ?_; (with_reducible refine (impl_Width.calls (a0 ++ a1) t112 _ A14.out).mono ?_); rintro e w40 ⟨rfl, hb⟩; refine ⟨_, rfl, ?_⟩; have n0_ := Aside0.mk (below_step (by repeat (first | (with_reducible first | exact HB.out | apply below_alloc | apply pw_below_drewN | apply below_drew1) | exact HB.out)) hb); clear HB; have HB := n0_; clear n0_; (try clear hb); (try clear hb2); (try clear hk); (try clear hi)) | ((with_reducible refine gate_callee (f := 18) rfl ?_); refine goesL_ (some 38) rfl rfl Try.func18 (by kernel_rfl) rfl #[.string a0] rfl (by (try simp only [List.map_toArray, List.map_cons, List.map_nil]); first | done | rfl | (simp only [List.length_drop, List.length_take]; rfl)) ?_; (with_reducible refine (impl_Width.calls a0 t113 _ A15.out).mono ?_); rintro e w41 ⟨rfl, hb⟩; refine ⟨_, rfl, ?_⟩; have n0_ := Aside0.mk (below_step (by repeat (first | (with_reducible first | exact HB.out | apply below_alloc | apply pw_below_drewN | apply below_drew1) | exact HB.out)) hb); clear HB; have HB := n0_; clear n0_; (try clear hb); (try clear hb2); (try clear hk); (try clear hi)) | ((with_reducible refine gate_callee (f := 18) rfl ?_); refine goesL_ (some 40) rfl rfl Try.func18 (by kernel_rfl) rfl #[.string a1] rfl (by (try simp only [List.map_toArray, List.map_cons, List.map_nil]); first | done | rfl | (simp only [List.length_drop, List.length_take]; rfl)) ?_; (with_reducible refine (impl_Width.calls a1 t114 _ A16.out).mono ?_); rintro e w42 ⟨rfl, hb⟩; refine ⟨_, rfl, ?_⟩; have n0_ := Aside0.mk (below_step (by repeat (first | (with_reducible first | exact HB.out | apply below_alloc | apply pw_below_drewN | apply below_drew1) | exact HB.out)) hb); clear HB; have HB := n0_; clear n0_; (try clear hb); (try clear hb2); (try clear hk); (try clear hi)))
                  go_ret
                  exact ⟨by first | rfl | (simp [errW_none, errW_some] <;> rfl) | (simp [*, errW_none, errW_some] <;> rfl), by repeat (first | (with_reducible first | exact HB.out | apply below_alloc | apply pw_below_drewN | apply below_drew1) | exact HB.out)⟩
              · rw [if_neg c13] at H
                exact absurd H (by simp)

/-- THE ONE PURE STATEMENT of laws_FnWidthSum: yours. -/
def laws_FnWidthSum.Pure : Prop := ∀ (a0 : ByteArray) (a1 : ByteArray), a0.size ≤ 140737488351232 → a1.size ≤ 140737488351232 → ∃ k, laws_FnWidthSum.f k a0 a1 = some true
theorem laws_FnWidthSum.walk (P : laws_FnWidthSum.Pure) (a0 : ByteArray) (a1 : ByteArray) (w : World) (w0 : a0.size ≤ 140737488351232) (w1 : a1.size ≤ 140737488351232) :
    Calls Try.prog 5 #[.string a0, .string a1] w fun e w' => e = .returned (.bool true) ∧ Below w.heap.size w w' := by
  obtain ⟨k, h⟩ := P a0 a1 w0 w1
  refine (laws_FnWidthSum.calls k a0 a1 true w h).mono ?_
  rintro e w' ⟨rfl, hd⟩
  exact ⟨rfl, hd⟩

end Go.Proofs.Ythkblefeifdhaaa.PFnWidthSum
