/- Printed by a program of this seat (xprint) out of the translation: Go functions as plain functions, and the walks that show them; no condition. -/
import Derived.Test.YthbdaoapjnofkaaDoorQPFnSplitRowsx0
import Derived.Test.YthbdaoapjnofkaaDoorQHSplit
import Derived.Test.YthbdaoapjnofkaaDoorQPFnSplitRowsx1
namespace Go.Proofs.YthbdaoapjnofkaaDoor.PFnSplitRows
open Go.RowKit Go.Proofs.YthbdaoapjnofkaaDoor.H Go.Proofs.YthbdaoapjnofkaaDoor.R Go.Proofs.YthbdaoapjnofkaaDoorW.PrintWords Go.Proofs.YthbdaoapjnofkaaDoorW.PrintLast Go.Proofs.YthbdaoapjnofkaaDoorW.PrintMore
attribute [local go_sem] max2_int min2_int max_two min_two max_three min_three max_four min_four   -- for this text's walks alone
set_option linter.unusedVariables false
set_option linter.unusedSimpArgs false
/-! ### laws_FnSplitRows: function 5 -/
mutual
def laws_FnSplitRows.j0 : Nat → Int → Int → ByteArray → Bool → Option (Bool)
  | 0, _, _, _, _ => none
  | k + 1, x0, x1, x2, x37 => if x37 = true then (some true) else ((impl_SplitRows.f x0 x1 x2).bind fun t118 => (laws_FnSplitRows.l0 k x0 x1 x2 t118 (⟨#[]⟩ : ByteArray) (t118.length : Int) 0))
def laws_FnSplitRows.l0 : Nat → Int → Int → ByteArray → List ByteArray → ByteArray → Int → Int → Option (Bool)
  | 0, _, _, _, _, _, _, _ => none
  | k + 1, x0, x1, x2, x7, x8, x43, x44 => if x44 < x43 then (if 0 ≤ x44 then (if x44 < (x7.length : Int) then (if x8.size + (rdOf ByteArray.empty x7 x44).size ≤ 9223372036854775807 then (laws_FnSplitRows.l0 k x0 x1 x2 x7 (x8 ++ (rdOf ByteArray.empty x7 x44)) x43 (wrap64 (x44 + 1))) else (none)) else (none)) else (none)) else ((spec_RowsIn.f k x0 x1 x2).bind fun t122 => ((spec_SameTexts9.f k x7 t122).bind fun t125 => (if t125 = true then (some (x8.toList == x2.toList)) else (some false))))
end
def laws_FnSplitRows.f (k : Nat) (a0 : Int) (a1 : Int) (a2 : ByteArray) : Option (Bool) := if (a2.size : Int) > 2147483647 then (some true) else (if a1 < 1 then (laws_FnSplitRows.j0 k a0 a1 a2 true) else (if a1 > 200 then (laws_FnSplitRows.j0 k a0 a1 a2 true) else (if a0 < 0 then (laws_FnSplitRows.j0 k a0 a1 a2 true) else (if a0 ≥ a1 then (laws_FnSplitRows.j0 k a0 a1 a2 true) else (if (a2.size : Int) > 300 then (laws_FnSplitRows.j0 k a0 a1 a2 true) else ((spec_IsPlain.f k a2).bind fun t117 => (laws_FnSplitRows.j0 k a0 a1 a2 (!t117))))))))
theorem laws_FnSplitRows.mono_l : ∀ k, (∀ y0 y1 y2 y3, LeO (laws_FnSplitRows.j0 k y0 y1 y2 y3) (laws_FnSplitRows.j0 (k + 1) y0 y1 y2 y3)) ∧ (∀ y0 y1 y2 y3 y4 y5 y6, LeO (laws_FnSplitRows.l0 k y0 y1 y2 y3 y4 y5 y6) (laws_FnSplitRows.l0 (k + 1) y0 y1 y2 y3 y4 y5 y6))
  | 0 => ⟨fun _ _ _ _ r h => by simp [laws_FnSplitRows.j0] at h, fun _ _ _ _ _ _ _ r h => by simp [laws_FnSplitRows.l0] at h⟩
  | k + 1 => by
    obtain ⟨ih0, ih1⟩ := laws_FnSplitRows.mono_l k
    refine ⟨?_, ?_⟩
    · intro y0 y1 y2 y3
      unfold laws_FnSplitRows.j0
      repeat' first
      | (with_reducible exact ih0 _ _ _ _)
      | (with_reducible exact ih1 _ _ _ _ _ _ _)
      | (with_reducible exact spec_IsPlain.mono _ _)
      | (with_reducible exact spec_RowsIn.mono _ _ _ _)
      | (with_reducible exact spec_SameTexts9.mono _ _ _)
      | (with_reducible exact LeO.refl _)
      | (with_reducible exact LeO.none _)
      | (with_reducible refine LeO.ite ?_ ?_)
      | (with_reducible refine LeO.bind ?_ (fun _ => ?_))
      | exact ih0 _ _ _ _
      | exact ih1 _ _ _ _ _ _ _
      | exact spec_IsPlain.mono _ _
      | exact spec_RowsIn.mono _ _ _ _
      | exact spec_SameTexts9.mono _ _ _
      | exact LeO.none _
      | refine LeO.ite ?_ ?_
      | refine LeO.bind ?_ (fun _ => ?_)
    · intro y0 y1 y2 y3 y4 y5 y6
      unfold laws_FnSplitRows.l0
      repeat' first
      | (with_reducible exact ih0 _ _ _ _)
      | (with_reducible exact ih1 _ _ _ _ _ _ _)
      | (with_reducible exact spec_IsPlain.mono _ _)
      | (with_reducible exact spec_RowsIn.mono _ _ _ _)
      | (with_reducible exact spec_SameTexts9.mono _ _ _)
      | (with_reducible exact LeO.refl _)
      | (with_reducible exact LeO.none _)
      | (with_reducible refine LeO.ite ?_ ?_)
      | (with_reducible refine LeO.bind ?_ (fun _ => ?_))
      | exact ih0 _ _ _ _
      | exact ih1 _ _ _ _ _ _ _
      | exact spec_IsPlain.mono _ _
      | exact spec_RowsIn.mono _ _ _ _
      | exact spec_SameTexts9.mono _ _ _
      | exact LeO.none _
      | refine LeO.ite ?_ ?_
      | refine LeO.bind ?_ (fun _ => ?_)
theorem laws_FnSplitRows.mono : ∀ a0 a1 a2 k, LeO (laws_FnSplitRows.f k a0 a1 a2) (laws_FnSplitRows.f (k + 1) a0 a1 a2) := by
  intro a0 a1 a2 k
  obtain ⟨ih0, ih1⟩ := laws_FnSplitRows.mono_l k
  unfold laws_FnSplitRows.f
  repeat' first
      | (with_reducible exact ih0 _ _ _ _)
      | (with_reducible exact ih1 _ _ _ _ _ _ _)
      | (with_reducible exact spec_IsPlain.mono _ _)
      | (with_reducible exact spec_RowsIn.mono _ _ _ _)
      | (with_reducible exact spec_SameTexts9.mono _ _ _)
      | (with_reducible exact LeO.refl _)
      | (with_reducible exact LeO.none _)
      | (with_reducible refine LeO.ite ?_ ?_)
      | (with_reducible refine LeO.bind ?_ (fun _ => ?_))
      | exact ih0 _ _ _ _
      | exact ih1 _ _ _ _ _ _ _
      | exact spec_IsPlain.mono _ _
      | exact spec_RowsIn.mono _ _ _ _
      | exact spec_SameTexts9.mono _ _ _
      | exact LeO.none _
      | refine LeO.ite ?_ ?_
      | refine LeO.bind ?_ (fun _ => ?_)
set_option maxHeartbeats 8000000 in
set_option maxRecDepth 100000 in
theorem laws_FnSplitRows.calls (k : Nat) (a0 : Int) (a1 : Int) (a2 : ByteArray) (r : Bool) (w : World) (h : laws_FnSplitRows.f k a0 a1 a2 = some r) :
    Calls Tryd.prog 5 #[.int .i64 a0, .int .i64 a1, .string a2] w fun e w' => e = .returned (.bool r) ∧ Below w.heap.size w w' := by
  have HB := Aside0.mk (Below.refl w.heap.size w)
  have H : (if (a2.size : Int) > 2147483647 then (some true) else (if a1 < 1 then (laws_FnSplitRows.j0 k a0 a1 a2 true) else (if a1 > 200 then (laws_FnSplitRows.j0 k a0 a1 a2 true) else (if a0 < 0 then (laws_FnSplitRows.j0 k a0 a1 a2 true) else (if a0 ≥ a1 then (laws_FnSplitRows.j0 k a0 a1 a2 true) else (if (a2.size : Int) > 300 then (laws_FnSplitRows.j0 k a0 a1 a2 true) else ((spec_IsPlain.f k a2).bind fun t117 => (laws_FnSplitRows.j0 k a0 a1 a2 (!t117))))))))) = some r := h
  clear h
  by_cases c4 : (a2.size : Int) > 2147483647
  · rw [if_pos c4] at H
    have c4b0 : decide (2147483647 < (a2.size : Int)) = true := decide_eq_true c4
    have c4b1 : decide (2147483647 < a2.size) = true := decide_eq_true (by omega)
    clear c4
    obtain rfl := Option.some.inj H
    go_enter Tryd.func5, Tryd.ntmps5
    go_wp2
    go_ret
    exact ⟨by first | rfl | (simp [errW_none, errW_some] <;> rfl) | (simp [*, errW_none, errW_some] <;> rfl), by repeat (first | (with_reducible first | exact HB.out | apply below_alloc | apply pw_below_drewN | apply below_drew1) | exact HB.out)⟩
  · rw [if_neg c4] at H
    have c4b0 : decide (2147483647 < (a2.size : Int)) = false := decide_eq_false c4
    have c4b1 : decide (2147483647 < a2.size) = false := decide_eq_false (by omega)
    clear c4
    have HC5 := Aside0.mk H
    clear H
    go_enter Tryd.func5, Tryd.ntmps5
    go_upto_region 3 with (fail)
    go_cut [37] (fun v37 wc => ∃ (kq : Nat) (x37_4 : Bool), v37 = .bool x37_4 ∧ Aside0 (laws_FnSplitRows.j0 kq a0 a1 a2 x37_4 = some r) ∧ Aside0 (kq ≤ k) ∧ Aside0 (Below w.heap.size w wc))
    case first =>
      have H := HC5.out
      clear HC5
      by_cases c6 : a1 < 1
      · rw [if_pos c6] at H
        have c6b0 : decide (a1 < 1) = true := decide_eq_true c6
        clear c6
        (first | rw [c6b0] | (simp only [i64_w, i32_w]; rw [c6b0]) | skip)
        have H' := Aside0.mk H
        clear H
        go_wp2
        go_meet
        case rel => exact ⟨_, (true), (by first | rfl | (simp; done) | (simp [*]; done)), H', ⟨by first | omega | exact Nat.le_refl _⟩, ⟨by repeat (first | (with_reducible first | exact HB.out | apply below_alloc | apply pw_below_drewN | apply below_drew1) | exact HB.out)⟩⟩
      · rw [if_neg c6] at H
        have c6b0 : decide (a1 < 1) = false := decide_eq_false c6
        clear c6
        (first | rw [c6b0] | (simp only [i64_w, i32_w]; rw [c6b0]) | skip)
        by_cases c7 : a1 > 200
        · rw [if_pos c7] at H
          have c7b0 : decide (200 < a1) = true := decide_eq_true c7
          clear c7
          have H' := Aside0.mk H
          clear H
          go_wp2
          go_meet
          case rel => exact ⟨_, (true), (by first | rfl | (simp; done) | (simp [*]; done)), H', ⟨by first | omega | exact Nat.le_refl _⟩, ⟨by repeat (first | (with_reducible first | exact HB.out | apply below_alloc | apply pw_below_drewN | apply below_drew1) | exact HB.out)⟩⟩
        · rw [if_neg c7] at H
          have c7b0 : decide (200 < a1) = false := decide_eq_false c7
          clear c7
          by_cases c8 : a0 < 0
          · rw [if_pos c8] at H
            have c8b0 : decide (a0 < 0) = true := decide_eq_true c8
            clear c8
            have H' := Aside0.mk H
            clear H
            go_wp2
            go_meet
            case rel => exact ⟨_, (true), (by first | rfl | (simp; done) | (simp [*]; done)), H', ⟨by first | omega | exact Nat.le_refl _⟩, ⟨by repeat (first | (with_reducible first | exact HB.out | apply below_alloc | apply pw_below_drewN | apply below_drew1) | exact HB.out)⟩⟩
          · rw [if_neg c8] at H
            have c8b0 : decide (a0 < 0) = false := decide_eq_false c8
            clear c8
            by_cases c9 : a0 ≥ a1
            · rw [if_pos c9] at H
              have c9b0 : decide (a1 ≤ a0) = true := decide_eq_true c9
              clear c9
              have H' := Aside0.mk H
              clear H
              go_wp2
              go_meet
              case rel => exact ⟨_, (true), (by first | rfl | (simp; done) | (simp [*]; done)), H', ⟨by first | omega | exact Nat.le_refl _⟩, ⟨by repeat (first | (with_reducible first | exact HB.out | apply below_alloc | apply pw_below_drewN | apply below_drew1) | exact HB.out)⟩⟩
            · rw [if_neg c9] at H
              have c9b0 : decide (a1 ≤ a0) = false := decide_eq_false c9
              clear c9
              by_cases c10 : (a2.size : Int) > 300
              · rw [if_pos c10] at H
                have c10b0 : decide (300 < (a2.size : Int)) = true := decide_eq_true c10
                have c10b1 : decide (300 < a2.size) = true := decide_eq_true (by omega)
                clear c10
                have H' := Aside0.mk H
                clear H
                go_wp2
                go_meet
                case rel => exact ⟨_, (true), (by first | rfl | (simp; done) | (simp [*]; done)), H', ⟨by first | omega | exact Nat.le_refl _⟩, ⟨by repeat (first | (with_reducible first | exact HB.out | apply below_alloc | apply pw_below_drewN | apply below_drew1) | exact HB.out)⟩⟩
              · rw [if_neg c10] at H
                have c10b0 : decide (300 < (a2.size : Int)) = false := decide_eq_false c10
                have c10b1 : decide (300 < a2.size) = false := decide_eq_false (by omega)
                clear c10
                replace H := Option.bind_eq_some_iff.mp H
                obtain ⟨t117, A110, H⟩ := H
                replace H : (laws_FnSplitRows.j0 k a0 a1 a2 (!t117)) = some r := H
                have A11 := Aside0.mk A110
                clear A110
                have H' := Aside0.mk H
                clear H
                go_wp2_with (first | (go_at_call 18; (with_reducible refine (spec_IsPlain.calls k a2 t117 _ A11.out).mono ?_); rintro e w' ⟨rfl, ⟨nd, rfl⟩⟩))
                go_meet
                case rel => exact ⟨_, (!t117), (by first | rfl | (simp; done) | (simp [*]; done)), H', ⟨by first | omega | exact Nat.le_refl _⟩, ⟨by repeat (first | (with_reducible first | exact HB.out | apply below_alloc | apply pw_below_drewN | apply below_drew1) | exact HB.out)⟩⟩
    case rest =>
      clear HC5
      try clear c1
      try clear p2
      try clear c4
      try clear c4b0
      try clear c4b1
      try clear c5
      try clear c6
      try clear c6b0
      try clear c7
      try clear c7b0
      try clear c8
      try clear c8b0
      try clear c9
      try clear c9b0
      try clear c10
      try clear c10b0
      try clear c10b1
      obtain ⟨kq, x37_4, rfl, HA, HJ4, HB⟩ := hcut
      cases kq with
      | zero => exact absurd HA.out (by simp [laws_FnSplitRows.j0])
      | succ kj4 =>
        have H := HA.out
        clear HA
        simp only [laws_FnSplitRows.j0] at H
        by_cases c12 : x37_4 = true
        · subst c12
          have H1 : (some true) = some r := by rw [if_pos rfl] at H; exact H
          clear H
          have H := H1
          clear H1
          obtain rfl := Option.some.inj H
          go_wp2
          go_ret
          exact ⟨by first | rfl | (simp [errW_none, errW_some] <;> rfl) | (simp [*, errW_none, errW_some] <;> rfl), by repeat (first | (with_reducible first | exact HB.out | apply below_alloc | apply pw_below_drewN | apply below_drew1) | exact HB.out)⟩
        · replace c12 := Bool.eq_false_iff.mpr c12
          subst c12
          have H1 : ((impl_SplitRows.f a0 a1 a2).bind fun t118 => (laws_FnSplitRows.l0 kj4 a0 a1 a2 t118 (⟨#[]⟩ : ByteArray) (t118.length : Int) 0)) = some r := by rw [if_neg (show ¬ (false = true) by decide)] at H; exact H
          clear H
          have H := H1
          clear H1
          replace H := Option.bind_eq_some_iff.mp H
          obtain ⟨t118, A130, H⟩ := H
          replace H : (laws_FnSplitRows.l0 kj4 a0 a1 a2 t118 (⟨#[]⟩ : ByteArray) (t118.length : Int) 0) = some r := H
          have A13 := Aside0.mk A130
          clear A130
          have H' := Aside0.mk H
          clear H
          go_wp2_with (first | ((with_reducible refine gate_callee (f := 19) rfl ?_); refine goesL_ (some 41) rfl rfl Tryd.func19 (by kernel_rfl) rfl #[.int .i64 a0, .int .i64 a1, .string a2] rfl (by (try simp only [List.map_toArray, List.map_cons, List.map_nil]); first | done | rfl | (simp only [List.length_drop, List.length_take]; rfl) | (simp only [Int.toNat_natCast, ByteArray.extract_zero_size]; rfl)) ?_; (with_reducible refine (impl_SplitRows.calls a0 a1 a2 t118 _ A13.out).mono ?_); rintro e w14 ⟨v119, rfl, ho0, hb⟩; refine ⟨_, rfl, ?_⟩; have n0_ := Aside0.mk (Kd.R_lower ho0 (below_size (by repeat (first | (with_reducible first | exact HB.out | apply below_alloc | apply pw_below_drewN | apply below_drew1) | exact HB.out)))); have n1_ := Aside0.mk (below_step (by repeat (first | (with_reducible first | exact HB.out | apply below_alloc | apply pw_below_drewN | apply below_drew1) | exact HB.out)) hb); clear HB; have HO120 := n0_; have HB := n1_; clear n0_ n1_; (try clear hb); (try clear hb2); (try clear hk); (try clear hi); (try clear ho0); obtain ⟨Ao15, co15, eo15⟩ := Kd.R_slice HO120.out; subst eo15))
          go_loopg [8, 44] kj4 (fun kq v8 v44 w' => ∃ (x8_2 : ByteArray) (x44_2 : Int), v8 = .string x8_2 ∧ v44 = .int .i64 x44_2 ∧ Aside0 (laws_FnSplitRows.l0 kq a0 a1 a2 t118 x8_2 (t118.length : Int) x44_2 = some r) ∧ Aside0 (kq ≤ kj4) ∧ Aside0 (Kd.R Kd.string 9 w' w.heap.size (fun _ => True) (.slice Ao15 t118.length co15) t118) ∧ Aside0 (Below w.heap.size w w'))
          case atStart => exact ⟨((⟨#[]⟩ : ByteArray)), (0), (by first | rfl | (simp; done) | (simp [*]; done)), (by first | rfl | (simp; done) | (simp [*]; done)), H', ⟨Nat.le_refl _⟩, ⟨by (with_reducible repeat (first | apply Kd.R_alloc | apply Kd.R_drewN | apply Kd.R_drew)); exact HO120.out⟩, ⟨by repeat (first | (with_reducible first | exact HB.out | apply below_alloc | apply pw_below_drewN | apply below_drew1) | exact HB.out)⟩⟩
          case round =>
            clear H'
            try clear c1
            try clear p2
            try clear c4
            try clear c4b0
            try clear c4b1
            try clear c5
            try clear c6
            try clear c6b0
            try clear c7
            try clear c7b0
            try clear c8
            try clear c8b0
            try clear c9
            try clear c9b0
            try clear c10
            try clear c10b0
            try clear c10b1
            try clear c12
            try clear p2
            obtain ⟨x8_2, x44_2, rfl, rfl, HA, HK2, HO_7, HB⟩ := hrel
            cases gk with
            | zero => exact absurd HA.out (by simp [laws_FnSplitRows.l0])
            | succ k2 =>
              have H := HA.out
              clear HA
              simp only [laws_FnSplitRows.l0] at H
              by_cases c16 : x44_2 < (t118.length : Int)
              · rw [if_pos c16] at H
                have c16b0 : decide (x44_2 < (t118.length : Int)) = true := decide_eq_true c16
                clear c16
                by_cases c17 : 0 ≤ x44_2
                · rw [if_pos c17] at H
                  have c17b0 : decide (0 ≤ x44_2) = true := decide_eq_true c17
                  clear c17
                  by_cases c18 : x44_2 < (t118.length : Int)
                  · rw [if_pos c18] at H
                    have c18b0 : decide (x44_2 < (t118.length : Int)) = true := decide_eq_true c18
                    clear c18
                    by_cases c19 : x8_2.size + (rdOf ByteArray.empty t118 x44_2).size ≤ 9223372036854775807
                    · rw [if_pos c19] at H
                      have c19b0 := eq_true c19
                      have c19b1 : decide (x8_2.size + (rdOf ByteArray.empty t118 x44_2).size ≤ 9223372036854775807) = true := decide_eq_true c19
                      try have c19b2 : (9223372036854775807 < x8_2.size + (rdOf ByteArray.empty t118 x44_2).size) = False := eq_false (Nat.not_lt.2 c19)
                      have H' := Aside0.mk H
                      clear H
                      have p121 : 0 ≤ (x44_2 : Int) := of_decide_eq_true (by first | (with_reducible assumption) | assumption)
                      have q121 : x44_2 < (t118.length : Int) := of_decide_eq_true (by first | (with_reducible assumption) | assumption)
                      obtain ⟨ad121, e121, hx121_0⟩ := Kd.at_string (Kd.R_reads' HO_7.out).2.2 x44_2 p121 q121
                      cases e121
                      replace p121 := eq_true p121
                      replace q121 := eq_true q121
                      go_wp2
                      go_roundg k2
                      case measure => have := HJ4.out; have := HK2.out; omega
                      case rel => exact ⟨(x8_2 ++ (rdOf ByteArray.empty t118 x44_2)), (wrap64 (x44_2 + 1)), (by first | rfl | (simp; done) | (simp [*]; done)), (by first | rfl | (simp; done) | (simp [*]; done)), H', ⟨by have := HJ4.out; have := HK2.out; omega⟩, ⟨by (with_reducible repeat (first | apply Kd.R_alloc | apply Kd.R_drewN | apply Kd.R_drew)); exact HO_7.out⟩, ⟨by repeat (first | (with_reducible first | exact HB.out | apply below_alloc | apply pw_below_drewN | apply below_drew1) | exact HB.out)⟩⟩
                    · rw [if_neg c19] at H
                      exact absurd H (by simp)
                  · rw [if_neg c18] at H
                    exact absurd H (by simp)
                · rw [if_neg c17] at H
                  exact absurd H (by simp)
              · rw [if_neg c16] at H
                have c16b0 : decide (x44_2 < (t118.length : Int)) = false := decide_eq_false c16
                clear c16
                replace H := Option.bind_eq_some_iff.mp H
                obtain ⟨t122, A200, H⟩ := H
                replace H : ((spec_SameTexts9.f k2 t118 t122).bind fun t125 => (if t125 = true then (some (x8_2.toList == a2.toList)) else (some false))) = some r := H
                have A20 := Aside0.mk A200
                clear A200
                replace H := Option.bind_eq_some_iff.mp H
                obtain ⟨t125, A210, H⟩ := H
                replace H : (if t125 = true then (some (x8_2.toList == a2.toList)) else (some false)) = some r := H
                have A21 := Aside0.mk A210
                clear A210
                by_cases c22 : t125 = true
                · subst c22
                  have H1 : (some (x8_2.toList == a2.toList)) = some r := by rw [if_pos rfl] at H; exact H
                  clear H
                  have H := H1
                  clear H1
                  obtain rfl := Option.some.inj H
                  go_wp2_with (first | ((with_reducible refine gate_callee (f := 21) rfl ?_); refine goesL_ (some 58) rfl rfl Tryd.func21 (by kernel_rfl) rfl #[.int .i64 a0, .int .i64 a1, .string a2] rfl (by (try simp only [List.map_toArray, List.map_cons, List.map_nil]); first | done | rfl | (simp only [List.length_drop, List.length_take]; rfl) | (simp only [Int.toNat_natCast, ByteArray.extract_zero_size]; rfl)) ?_; (with_reducible refine (spec_RowsIn.calls k2 a0 a1 a2 t122 _ A20.out).mono ?_); rintro e w23 ⟨v123, rfl, ho0, hb⟩; refine ⟨_, rfl, ?_⟩; have n0_ := Aside0.mk (Kd.R_elder' (by (with_reducible repeat (first | apply Kd.R_alloc | apply Kd.R_drewN | apply Kd.R_drew)); exact HO_7.out) (Kd.R_base ho0) hb); have n1_ := Aside0.mk (Kd.R_lower (Kd.R_new' ho0 (Kd.R_lt (by (with_reducible repeat (first | apply Kd.R_alloc | apply Kd.R_drewN | apply Kd.R_drew)); exact HO_7.out))) (below_size (by repeat (first | (with_reducible first | exact HB.out | apply below_alloc | apply pw_below_drewN | apply below_drew1) | exact HB.out)))); have n2_ := Aside0.mk (below_step (by repeat (first | (with_reducible first | exact HB.out | apply below_alloc | apply pw_below_drewN | apply below_drew1) | exact HB.out)) hb); clear HO_7; clear HB; have HO_7 := n0_; have HO124 := n1_; have HB := n2_; clear n0_ n1_ n2_; (try clear hb); (try clear hb2); (try clear hk); (try clear hi); (try clear ho0); obtain ⟨Ao24, co24, eo24⟩ := Kd.R_slice HO124.out; subst eo24) | ((with_reducible refine gate_callee (f := 20) rfl ?_); refine goesL_ (some 59) rfl rfl Tryd.func20 (by kernel_rfl) rfl #[.slice Ao15 t118.length co15, .slice Ao24 t122.length co24] rfl (by (try simp only [List.map_toArray, List.map_cons, List.map_nil]); first | done | rfl | (simp only [List.length_drop, List.length_take]; rfl) | (simp only [Int.toNat_natCast, ByteArray.extract_zero_size]; rfl)) ?_; (with_reducible refine (spec_SameTexts9.calls k2 _ _ t118 _ _ t122 true _ ?side1 ?side2 ?side3 ?side4 A21.out).mono ?_); (case side1 => repeat (first | exact (Kd.R_reads' HO_7.out).2.2 | (with_reducible refine Kd.C_alloc ?_ _) | (with_reducible refine Kd.C_drewN ?_ _) | (with_reducible refine Kd.C_drew ?_))); (case side2 => exact (Kd.R_reads' HO_7.out).2.1); (case side3 => repeat (first | exact (Kd.R_reads' HO124.out).2.2 | (with_reducible refine Kd.C_alloc ?_ _) | (with_reducible refine Kd.C_drewN ?_ _) | (with_reducible refine Kd.C_drew ?_))); (case side4 => exact (Kd.R_reads' HO124.out).2.1); rintro e w' ⟨rfl, ⟨nd, rfl⟩⟩; refine ⟨_, rfl, ?_⟩))
                  go_ret
                  exact ⟨by first | rfl | (simp [errW_none, errW_some] <;> rfl) | (simp [*, errW_none, errW_some] <;> rfl), by repeat (first | (with_reducible first | exact HB.out | apply below_alloc | apply pw_below_drewN | apply below_drew1) | exact HB.out)⟩
                · replace c22 := Bool.eq_false_iff.mpr c22
                  subst c22
                  have H1 : (some false) = some r := by rw [if_neg (show ¬ (false = true) by decide)] at H; exact H
                  clear H
                  have H := H1
                  clear H1
                  obtain rfl := Option.some.inj H
                  go_wp2_with (first | ((with_reducible refine gate_callee (f := 21) rfl ?_); refine goesL_ (some 58) rfl rfl Tryd.func21 (by kernel_rfl) rfl #[.int .i64 a0, .int .i64 a1, .string a2] rfl (by (try simp only [List.map_toArray, List.map_cons, List.map_nil]); first | done | rfl | (simp only [List.length_drop, List.length_take]; rfl) | (simp only [Int.toNat_natCast, ByteArray.extract_zero_size]; rfl)) ?_; (with_reducible refine (spec_RowsIn.calls k2 a0 a1 a2 t122 _ A20.out).mono ?_); rintro e w25 ⟨v123, rfl, ho0, hb⟩; refine ⟨_, rfl, ?_⟩; have n0_ := Aside0.mk (Kd.R_elder' (by (with_reducible repeat (first | apply Kd.R_alloc | apply Kd.R_drewN | apply Kd.R_drew)); exact HO_7.out) (Kd.R_base ho0) hb); have n1_ := Aside0.mk (Kd.R_lower (Kd.R_new' ho0 (Kd.R_lt (by (with_reducible repeat (first | apply Kd.R_alloc | apply Kd.R_drewN | apply Kd.R_drew)); exact HO_7.out))) (below_size (by repeat (first | (with_reducible first | exact HB.out | apply below_alloc | apply pw_below_drewN | apply below_drew1) | exact HB.out)))); have n2_ := Aside0.mk (below_step (by repeat (first | (with_reducible first | exact HB.out | apply below_alloc | apply pw_below_drewN | apply below_drew1) | exact HB.out)) hb); clear HO_7; clear HB; have HO_7 := n0_; have HO124 := n1_; have HB := n2_; clear n0_ n1_ n2_; (try clear hb); (try clear hb2); (try clear hk); (try clear hi); (try clear ho0); obtain ⟨Ao26, co26, eo26⟩ := Kd.R_slice HO124.out; subst eo26) | ((with_reducible refine gate_callee (f := 20) rfl ?_); refine goesL_ (some 59) rfl rfl Tryd.func20 (by kernel_rfl) rfl #[.slice Ao15 t118.length co15, .slice Ao26 t122.length co26] rfl (by (try simp only [List.map_toArray, List.map_cons, List.map_nil]); first | done | rfl | (simp only [List.length_drop, List.length_take]; rfl) | (simp only [Int.toNat_natCast, ByteArray.extract_zero_size]; rfl)) ?_; (with_reducible refine (spec_SameTexts9.calls k2 _ _ t118 _ _ t122 false _ ?side1 ?side2 ?side3 ?side4 A21.out).mono ?_); (case side1 => repeat (first | exact (Kd.R_reads' HO_7.out).2.2 | (with_reducible refine Kd.C_alloc ?_ _) | (with_reducible refine Kd.C_drewN ?_ _) | (with_reducible refine Kd.C_drew ?_))); (case side2 => exact (Kd.R_reads' HO_7.out).2.1); (case side3 => repeat (first | exact (Kd.R_reads' HO124.out).2.2 | (with_reducible refine Kd.C_alloc ?_ _) | (with_reducible refine Kd.C_drewN ?_ _) | (with_reducible refine Kd.C_drew ?_))); (case side4 => exact (Kd.R_reads' HO124.out).2.1); rintro e w' ⟨rfl, ⟨nd, rfl⟩⟩; refine ⟨_, rfl, ?_⟩))
                  go_ret
                  exact ⟨by first | rfl | (simp [errW_none, errW_some] <;> rfl) | (simp [*, errW_none, errW_some] <;> rfl), by repeat (first | (with_reducible first | exact HB.out | apply below_alloc | apply pw_below_drewN | apply below_drew1) | exact HB.out)⟩
/-- THE ONE PURE STATEMENT of laws_FnSplitRows: yours. -/
def laws_FnSplitRows.Pure : Prop := ∀ (a0 : Int) (a1 : Int) (a2 : ByteArray), (Lit.int .i64 a0).wf = true → (Lit.int .i64 a1).wf = true → a2.size ≤ 140737488351232 → ∃ k, laws_FnSplitRows.f k a0 a1 a2 = some true
theorem laws_FnSplitRows.walk (P : laws_FnSplitRows.Pure) (a0 : Int) (a1 : Int) (a2 : ByteArray) (w : World) (w0 : (Lit.int .i64 a0).wf = true) (w1 : (Lit.int .i64 a1).wf = true) (w2 : a2.size ≤ 140737488351232) :
    Calls Tryd.prog 5 #[.int .i64 a0, .int .i64 a1, .string a2] w fun e w' => e = .returned (.bool true) ∧ Below w.heap.size w w' := by
  obtain ⟨k, h⟩ := P a0 a1 a2 w0 w1 w2
  refine (laws_FnSplitRows.calls k a0 a1 a2 true w h).mono ?_
  rintro e w' ⟨rfl, hd⟩
  exact ⟨rfl, hd⟩
end Go.Proofs.YthbdaoapjnofkaaDoor.PFnSplitRows
