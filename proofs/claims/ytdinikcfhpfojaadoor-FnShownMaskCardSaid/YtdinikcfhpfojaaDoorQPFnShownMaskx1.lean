/- Printed by a program of this seat (xprint) out of the translation: Go functions as plain functions, and the walks that show them; no condition. -/
import Derived.Test.YtdinikcfhpfojaaDoorQPFnShownMaskx0
import Derived.Test.YtdinikcfhpfojaaDoorQHSl
namespace Go.Proofs.YtdinikcfhpfojaaDoor.PFnShownMask
open Go.RowKit Go.Proofs.YtdinikcfhpfojaaDoor.H Go.Proofs.YtdinikcfhpfojaaDoor.R Go.Proofs.YtdinikcfhpfojaaDoorW.PrintWords Go.Proofs.YtdinikcfhpfojaaDoorW.PrintLast Go.Proofs.YtdinikcfhpfojaaDoorW.PrintMore
attribute [local go_sem] max2_int min2_int max_two min_two max_three min_three max_four min_four   -- for this text's walks alone
set_option linter.unusedVariables false
set_option linter.unusedSimpArgs false
/-! ### spec_IsPlain: function 45 -/
def spec_IsPlain.l0 : Nat → ByteArray → Int → Int → Option (Bool)
  | 0, _, _, _ => none
  | k + 1, x0, x5, x6 => if x6 < x5 then (if 0 ≤ x6 then (if x6 < (x0.size : Int) then (if (bt x0 x6) < 32 then (some false) else (if (bt x0 x6) > 126 then (some false) else (spec_IsPlain.l0 k x0 x5 (wrap64 (x6 + 1))))) else (none)) else (none)) else (some true)
def spec_IsPlain.f (k : Nat) (a0 : ByteArray) : Option (Bool) := spec_IsPlain.l0 k a0 (a0.size : Int) 0
theorem spec_IsPlain.mono_l : ∀ k, (∀ y0 y1 y2, LeO (spec_IsPlain.l0 k y0 y1 y2) (spec_IsPlain.l0 (k + 1) y0 y1 y2))
  | 0 => fun _ _ _ r h => by simp [spec_IsPlain.l0] at h
  | k + 1 => by
    have ih0 := spec_IsPlain.mono_l k
    · intro y0 y1 y2
      unfold spec_IsPlain.l0
      repeat' first
      | (with_reducible exact ih0 _ _ _)
      | (with_reducible exact LeO.refl _)
      | (with_reducible exact LeO.none _)
      | (with_reducible refine LeO.ite ?_ ?_)
      | (with_reducible refine LeO.bind ?_ (fun _ => ?_))
      | exact ih0 _ _ _
      | exact LeO.none _
      | refine LeO.ite ?_ ?_
      | refine LeO.bind ?_ (fun _ => ?_)
theorem spec_IsPlain.mono : ∀ a0 k, LeO (spec_IsPlain.f k a0) (spec_IsPlain.f (k + 1) a0) := by
  intro a0 k
  have ih0 := spec_IsPlain.mono_l k
  unfold spec_IsPlain.f
  repeat' first
      | (with_reducible exact ih0 _ _ _)
      | (with_reducible exact LeO.refl _)
      | (with_reducible exact LeO.none _)
      | (with_reducible refine LeO.ite ?_ ?_)
      | (with_reducible refine LeO.bind ?_ (fun _ => ?_))
      | exact ih0 _ _ _
      | exact LeO.none _
      | refine LeO.ite ?_ ?_
      | refine LeO.bind ?_ (fun _ => ?_)
set_option maxHeartbeats 8000000 in
set_option maxRecDepth 100000 in
theorem spec_IsPlain.calls (k : Nat) (a0 : ByteArray) (r : Bool) (w : World) (h : spec_IsPlain.f k a0 = some r) :
    Calls Tryd.prog 45 #[.string a0] w fun e w' => e = .returned (.bool r) ∧ Drawn0 w w' := by
  have H : (spec_IsPlain.l0 k a0 (a0.size : Int) 0) = some r := h
  clear h
  have H' := Aside0.mk H
  clear H
  go_enter Tryd.func45, Tryd.ntmps45
  go_wp2
  go_loopg [6] k (fun kq v6 w' => ∃ (x6_1 : Int), v6 = .int .i64 x6_1 ∧ Aside0 (spec_IsPlain.l0 kq a0 (a0.size : Int) x6_1 = some r) ∧ Aside0 (kq ≤ k) ∧ Drawn0 w w')
  case atStart => exact ⟨(0), (by first | rfl | (simp; done) | (simp [*]; done)), H', ⟨Nat.le_refl _⟩, by repeat (first | exact Drawn0.refl _ | apply Drawn0.step)⟩
  case round =>
    clear H'
    obtain ⟨x6_1, rfl, HA, HK1, ⟨m1, rfl⟩⟩ := hrel
    cases gk with
    | zero => exact absurd HA.out (by simp [spec_IsPlain.l0])
    | succ k1 =>
      have H := HA.out
      clear HA
      simp only [spec_IsPlain.l0] at H
      by_cases c2 : x6_1 < (a0.size : Int)
      · rw [if_pos c2] at H
        have c2b0 : decide (x6_1 < (a0.size : Int)) = true := decide_eq_true c2
        clear c2
        by_cases c3 : 0 ≤ x6_1
        · rw [if_pos c3] at H
          have c3b0 : decide (0 ≤ x6_1) = true := decide_eq_true c3
          clear c3
          by_cases c4 : x6_1 < (a0.size : Int)
          · rw [if_pos c4] at H
            have c4b0 : decide (x6_1 < (a0.size : Int)) = true := decide_eq_true c4
            clear c4
            by_cases c6 : (bt a0 x6_1) < 32
            · rw [if_pos c6] at H
              have c6b0 : decide ((bt a0 x6_1) < 32) = true := decide_eq_true c6
              clear c6
              obtain rfl := Option.some.inj H
              have p5 : 0 ≤ (x6_1 : Int) := of_decide_eq_true (by first | (with_reducible assumption) | assumption)
              have q5 : x6_1 < (a0.size : Int) := of_decide_eq_true (by first | (with_reducible assumption) | assumption)
              have hx5 := bt_at a0 x6_1
              replace p5 := eq_true p5
              replace q5 := eq_true q5
              go_wp2
              go_ret
              exact ⟨by first | rfl | (simp; done) | (simp [*]; done), by repeat (first | exact Drawn0.refl _ | apply Drawn0.step)⟩
            · rw [if_neg c6] at H
              have c6b0 : decide ((bt a0 x6_1) < 32) = false := decide_eq_false c6
              clear c6
              by_cases c8 : (bt a0 x6_1) > 126
              · rw [if_pos c8] at H
                have c8b0 : decide (126 < (bt a0 x6_1)) = true := decide_eq_true c8
                clear c8
                obtain rfl := Option.some.inj H
                have p5 : 0 ≤ (x6_1 : Int) := of_decide_eq_true (by first | (with_reducible assumption) | assumption)
                have q5 : x6_1 < (a0.size : Int) := of_decide_eq_true (by first | (with_reducible assumption) | assumption)
                have hx5 := bt_at a0 x6_1
                replace p5 := eq_true p5
                replace q5 := eq_true q5
                have p7 : 0 ≤ (x6_1 : Int) := of_decide_eq_true (by first | (with_reducible assumption) | assumption)
                have q7 : x6_1 < (a0.size : Int) := of_decide_eq_true (by first | (with_reducible assumption) | assumption)
                have hx7 := bt_at a0 x6_1
                replace p7 := eq_true p7
                replace q7 := eq_true q7
                go_wp2
                go_ret
                exact ⟨by first | rfl | (simp; done) | (simp [*]; done), by repeat (first | exact Drawn0.refl _ | apply Drawn0.step)⟩
              · rw [if_neg c8] at H
                have c8b0 : decide (126 < (bt a0 x6_1)) = false := decide_eq_false c8
                clear c8
                have H' := Aside0.mk H
                clear H
                have p5 : 0 ≤ (x6_1 : Int) := of_decide_eq_true (by first | (with_reducible assumption) | assumption)
                have q5 : x6_1 < (a0.size : Int) := of_decide_eq_true (by first | (with_reducible assumption) | assumption)
                have hx5 := bt_at a0 x6_1
                replace p5 := eq_true p5
                replace q5 := eq_true q5
                have p7 : 0 ≤ (x6_1 : Int) := of_decide_eq_true (by first | (with_reducible assumption) | assumption)
                have q7 : x6_1 < (a0.size : Int) := of_decide_eq_true (by first | (with_reducible assumption) | assumption)
                have hx7 := bt_at a0 x6_1
                replace p7 := eq_true p7
                replace q7 := eq_true q7
                go_wp2
                go_roundg k1
                case measure => have := HK1.out; omega
                case rel => exact ⟨(wrap64 (x6_1 + 1)), (by first | rfl | (simp; done) | (simp [*]; done)), H', ⟨by have := HK1.out; omega⟩, by repeat (first | exact Drawn0.refl _ | apply Drawn0.step)⟩
          · rw [if_neg c4] at H
            exact absurd H (by simp)
        · rw [if_neg c3] at H
          exact absurd H (by simp)
      · rw [if_neg c2] at H
        have c2b0 : decide (x6_1 < (a0.size : Int)) = false := decide_eq_false c2
        clear c2
        obtain rfl := Option.some.inj H
        go_wp2
        go_ret
        exact ⟨by first | rfl | (simp; done) | (simp [*]; done), by repeat (first | exact Drawn0.refl _ | apply Drawn0.step)⟩
/-! ### laws_columns9: function 23 -/
def laws_columns9.f (k : Nat) (a0 : ByteArray) (a1_0 : ByteArray) (a1_1 : Int) (a2 : Int) : Option (Bool) := if (a0.size : Int) ≤ 100 then ((spec_IsPlain.f k a0).bind fun t102 => (if t102 = true then (if (a1_0.size : Int) ≤ 300 then ((spec_IsPlain.f k a1_0).bind fun t103 => (if t103 = true then (if a1_1 ≥ 0 then (if a1_1 ≤ (a1_0.size : Int) then (if a2 ≥ 4 then (if a2 ≤ 200 then (some (decide ((a0.size : Int) < a2))) else (some false)) else (some false)) else (some false)) else (some false)) else (some false))) else (some false)) else (some false))) else (some false)
theorem laws_columns9.mono : ∀ a0 a1 a2 a3 k, LeO (laws_columns9.f k a0 a1 a2 a3) (laws_columns9.f (k + 1) a0 a1 a2 a3) := by
  intro a0 a1 a2 a3 k
  unfold laws_columns9.f
  repeat' first
      | (with_reducible exact spec_IsPlain.mono _ _)
      | (with_reducible exact LeO.refl _)
      | (with_reducible exact LeO.none _)
      | (with_reducible refine LeO.ite ?_ ?_)
      | (with_reducible refine LeO.bind ?_ (fun _ => ?_))
      | exact spec_IsPlain.mono _ _
      | exact LeO.none _
      | refine LeO.ite ?_ ?_
      | refine LeO.bind ?_ (fun _ => ?_)
set_option maxHeartbeats 8000000 in
set_option maxRecDepth 100000 in
theorem laws_columns9.calls (k : Nat) (a0 : ByteArray) (a1_0 : ByteArray) (a1_1 : Int) (a2 : Int) (r : Bool) (w : World) (h : laws_columns9.f k a0 a1_0 a1_1 a2 = some r) :
    Calls Tryd.prog 23 #[.string a0, .agg #[.string a1_0, .int .i64 a1_1], .int .i64 a2] w fun e w' => e = .returned (.bool r) ∧ Below w.heap.size w w' := by
  have hu23 := Tryd.underlying23
  have HB := Aside0.mk (Below.refl w.heap.size w)
  have H : (if (a0.size : Int) ≤ 100 then ((spec_IsPlain.f k a0).bind fun t102 => (if t102 = true then (if (a1_0.size : Int) ≤ 300 then ((spec_IsPlain.f k a1_0).bind fun t103 => (if t103 = true then (if a1_1 ≥ 0 then (if a1_1 ≤ (a1_0.size : Int) then (if a2 ≥ 4 then (if a2 ≤ 200 then (some (decide ((a0.size : Int) < a2))) else (some false)) else (some false)) else (some false)) else (some false)) else (some false))) else (some false)) else (some false))) else (some false)) = some r := h
  clear h
  by_cases c4 : (a0.size : Int) ≤ 100
  · rw [if_pos c4] at H
    have c4b0 : decide ((a0.size : Int) ≤ 100) = true := decide_eq_true c4
    have c4b1 : decide (a0.size ≤ 100) = true := decide_eq_true (by omega)
    clear c4
    replace H := Option.bind_eq_some_iff.mp H
    obtain ⟨t102, A50, H⟩ := H
    replace H : (if t102 = true then (if (a1_0.size : Int) ≤ 300 then ((spec_IsPlain.f k a1_0).bind fun t103 => (if t103 = true then (if a1_1 ≥ 0 then (if a1_1 ≤ (a1_0.size : Int) then (if a2 ≥ 4 then (if a2 ≤ 200 then (some (decide ((a0.size : Int) < a2))) else (some false)) else (some false)) else (some false)) else (some false)) else (some false))) else (some false)) else (some false)) = some r := H
    have A5 := Aside0.mk A50
    clear A50
    by_cases c6 : t102 = true
    · subst c6
      have H1 : (if (a1_0.size : Int) ≤ 300 then ((spec_IsPlain.f k a1_0).bind fun t103 => (if t103 = true then (if a1_1 ≥ 0 then (if a1_1 ≤ (a1_0.size : Int) then (if a2 ≥ 4 then (if a2 ≤ 200 then (some (decide ((a0.size : Int) < a2))) else (some false)) else (some false)) else (some false)) else (some false)) else (some false))) else (some false)) = some r := by rw [if_pos rfl] at H; exact H
      clear H
      have H := H1
      clear H1
      by_cases c7 : (a1_0.size : Int) ≤ 300
      · rw [if_pos c7] at H
        have c7b0 : decide ((a1_0.size : Int) ≤ 300) = true := decide_eq_true c7
        have c7b1 : decide (a1_0.size ≤ 300) = true := decide_eq_true (by omega)
        clear c7
        replace H := Option.bind_eq_some_iff.mp H
        obtain ⟨t103, A80, H⟩ := H
        replace H : (if t103 = true then (if a1_1 ≥ 0 then (if a1_1 ≤ (a1_0.size : Int) then (if a2 ≥ 4 then (if a2 ≤ 200 then (some (decide ((a0.size : Int) < a2))) else (some false)) else (some false)) else (some false)) else (some false)) else (some false)) = some r := H
        have A8 := Aside0.mk A80
        clear A80
        by_cases c9 : t103 = true
        · subst c9
          have H1 : (if a1_1 ≥ 0 then (if a1_1 ≤ (a1_0.size : Int) then (if a2 ≥ 4 then (if a2 ≤ 200 then (some (decide ((a0.size : Int) < a2))) else (some false)) else (some false)) else (some false)) else (some false)) = some r := by rw [if_pos rfl] at H; exact H
          clear H
          have H := H1
          clear H1
          by_cases c10 : a1_1 ≥ 0
          · rw [if_pos c10] at H
            have c10b0 : decide (0 ≤ a1_1) = true := decide_eq_true c10
            clear c10
            by_cases c11 : a1_1 ≤ (a1_0.size : Int)
            · rw [if_pos c11] at H
              have c11b0 : decide (a1_1 ≤ (a1_0.size : Int)) = true := decide_eq_true c11
              clear c11
              by_cases c12 : a2 ≥ 4
              · rw [if_pos c12] at H
                have c12b0 : decide (4 ≤ a2) = true := decide_eq_true c12
                clear c12
                by_cases c13 : a2 ≤ 200
                · rw [if_pos c13] at H
                  have c13b0 : decide (a2 ≤ 200) = true := decide_eq_true c13
                  clear c13
                  obtain rfl := Option.some.inj H
                  go_enter Tryd.func23, Tryd.ntmps23
                  go_wp2_with (first | ((with_reducible refine gate_dst (N := 4) rfl ?_); (try (refine gate_guard (by rfl) ?_; dsimp only)); refine box_event ?hg (N := 4) ?hd (cs := #[.string a1_0, .int .i64 a1_1]) (t := 23) ?hr ?_; (case hd => rfl); (case hg => rfl); (case hr => first | (go_simp; done) | (go_simp; rfl)); intro gb101 hg w14 hbox hb; have n0_ := Aside0.mk (below_step (by repeat (first | (with_reducible first | exact HB.out | apply below_alloc | apply pw_below_drewN | apply below_drew1) | exact HB.out)) hb); have n1_ := Aside0.mk (hbox); have n2_ := Aside0.mk ((by rw [hg]; exact (below_size (by repeat (first | (with_reducible first | exact HB.out | apply below_alloc | apply pw_below_drewN | apply below_drew1) | exact HB.out))) : w.heap.size ≤ gb101)); have n3_ := Aside0.mk ((by rw [hg]; exact (below_size (by repeat (first | (with_reducible first | exact HB.out | apply below_alloc | apply pw_below_drewN | apply below_drew1) | exact HB.out))) : w.heap.size ≤ gb101)); clear HB; have HB := n0_; have BK101 := n1_; have GW101 := n2_; have GE101 := n3_; clear n0_ n1_ n2_ n3_; clear hb hbox hg) | (go_at_call 45; (with_reducible refine (spec_IsPlain.calls k a0 true _ A5.out).mono ?_); rintro e w' ⟨rfl, ⟨nd, rfl⟩⟩; have hcz15_0 : w14.cell? ⟨gb101, 0, none⟩ = some (.string a1_0) := (blk_cell BK101.out 0).trans rfl; have hcz15_1 : w14.cell? ⟨gb101, 1, none⟩ = some (.int .i64 a1_1) := (blk_cell BK101.out 1).trans rfl; have hfz15_0 := blk_frozen BK101.out 0; have hfz15_1 := blk_frozen BK101.out 1) | (go_at_call 45; (with_reducible refine (spec_IsPlain.calls k a1_0 true _ A8.out).mono ?_); rintro e w' ⟨rfl, ⟨nd, rfl⟩⟩))
                  go_ret
                  exact ⟨by first | rfl | (simp [errW_none, errW_some] <;> rfl) | (simp [*, errW_none, errW_some] <;> rfl), by repeat (first | (with_reducible first | exact HB.out | apply below_alloc | apply pw_below_drewN | apply below_drew1 | refine below_set ?_ GE101.out) | exact HB.out)⟩
                · rw [if_neg c13] at H
                  have c13b0 : decide (a2 ≤ 200) = false := decide_eq_false c13
                  clear c13
                  obtain rfl := Option.some.inj H
                  go_enter Tryd.func23, Tryd.ntmps23
                  go_wp2_with (first | ((with_reducible refine gate_dst (N := 4) rfl ?_); (try (refine gate_guard (by rfl) ?_; dsimp only)); refine box_event ?hg (N := 4) ?hd (cs := #[.string a1_0, .int .i64 a1_1]) (t := 23) ?hr ?_; (case hd => rfl); (case hg => rfl); (case hr => first | (go_simp; done) | (go_simp; rfl)); intro gb101 hg w16 hbox hb; have n0_ := Aside0.mk (below_step (by repeat (first | (with_reducible first | exact HB.out | apply below_alloc | apply pw_below_drewN | apply below_drew1) | exact HB.out)) hb); have n1_ := Aside0.mk (hbox); have n2_ := Aside0.mk ((by rw [hg]; exact (below_size (by repeat (first | (with_reducible first | exact HB.out | apply below_alloc | apply pw_below_drewN | apply below_drew1) | exact HB.out))) : w.heap.size ≤ gb101)); have n3_ := Aside0.mk ((by rw [hg]; exact (below_size (by repeat (first | (with_reducible first | exact HB.out | apply below_alloc | apply pw_below_drewN | apply below_drew1) | exact HB.out))) : w.heap.size ≤ gb101)); clear HB; have HB := n0_; have BK101 := n1_; have GW101 := n2_; have GE101 := n3_; clear n0_ n1_ n2_ n3_; clear hb hbox hg) | (go_at_call 45; (with_reducible refine (spec_IsPlain.calls k a0 true _ A5.out).mono ?_); rintro e w' ⟨rfl, ⟨nd, rfl⟩⟩; have hcz17_0 : w16.cell? ⟨gb101, 0, none⟩ = some (.string a1_0) := (blk_cell BK101.out 0).trans rfl; have hcz17_1 : w16.cell? ⟨gb101, 1, none⟩ = some (.int .i64 a1_1) := (blk_cell BK101.out 1).trans rfl; have hfz17_0 := blk_frozen BK101.out 0; have hfz17_1 := blk_frozen BK101.out 1) | (go_at_call 45; (with_reducible refine (spec_IsPlain.calls k a1_0 true _ A8.out).mono ?_); rintro e w' ⟨rfl, ⟨nd, rfl⟩⟩))
                  go_ret
                  exact ⟨by first | rfl | (simp [errW_none, errW_some] <;> rfl) | (simp [*, errW_none, errW_some] <;> rfl), by repeat (first | (with_reducible first | exact HB.out | apply below_alloc | apply pw_below_drewN | apply below_drew1 | refine below_set ?_ GE101.out) | exact HB.out)⟩
              · rw [if_neg c12] at H
                have c12b0 : decide (4 ≤ a2) = false := decide_eq_false c12
                clear c12
                obtain rfl := Option.some.inj H
                go_enter Tryd.func23, Tryd.ntmps23
                go_wp2_with (first | ((with_reducible refine gate_dst (N := 4) rfl ?_); (try (refine gate_guard (by rfl) ?_; dsimp only)); refine box_event ?hg (N := 4) ?hd (cs := #[.string a1_0, .int .i64 a1_1]) (t := 23) ?hr ?_; (case hd => rfl); (case hg => rfl); (case hr => first | (go_simp; done) | (go_simp; rfl)); intro gb101 hg w18 hbox hb; have n0_ := Aside0.mk (below_step (by repeat (first | (with_reducible first | exact HB.out | apply below_alloc | apply pw_below_drewN | apply below_drew1) | exact HB.out)) hb); have n1_ := Aside0.mk (hbox); have n2_ := Aside0.mk ((by rw [hg]; exact (below_size (by repeat (first | (with_reducible first | exact HB.out | apply below_alloc | apply pw_below_drewN | apply below_drew1) | exact HB.out))) : w.heap.size ≤ gb101)); have n3_ := Aside0.mk ((by rw [hg]; exact (below_size (by repeat (first | (with_reducible first | exact HB.out | apply below_alloc | apply pw_below_drewN | apply below_drew1) | exact HB.out))) : w.heap.size ≤ gb101)); clear HB; have HB := n0_; have BK101 := n1_; have GW101 := n2_; have GE101 := n3_; clear n0_ n1_ n2_ n3_; clear hb hbox hg) | (go_at_call 45; (with_reducible refine (spec_IsPlain.calls k a0 true _ A5.out).mono ?_); rintro e w' ⟨rfl, ⟨nd, rfl⟩⟩; have hcz19_0 : w18.cell? ⟨gb101, 0, none⟩ = some (.string a1_0) := (blk_cell BK101.out 0).trans rfl; have hcz19_1 : w18.cell? ⟨gb101, 1, none⟩ = some (.int .i64 a1_1) := (blk_cell BK101.out 1).trans rfl; have hfz19_0 := blk_frozen BK101.out 0; have hfz19_1 := blk_frozen BK101.out 1) | (go_at_call 45; (with_reducible refine (spec_IsPlain.calls k a1_0 true _ A8.out).mono ?_); rintro e w' ⟨rfl, ⟨nd, rfl⟩⟩))
                go_ret
                exact ⟨by first | rfl | (simp [errW_none, errW_some] <;> rfl) | (simp [*, errW_none, errW_some] <;> rfl), by repeat (first | (with_reducible first | exact HB.out | apply below_alloc | apply pw_below_drewN | apply below_drew1 | refine below_set ?_ GE101.out) | exact HB.out)⟩
            · rw [if_neg c11] at H
              have c11b0 : decide (a1_1 ≤ (a1_0.size : Int)) = false := decide_eq_false c11
              clear c11
              obtain rfl := Option.some.inj H
              go_enter Tryd.func23, Tryd.ntmps23
              go_wp2_with (first | ((with_reducible refine gate_dst (N := 4) rfl ?_); (try (refine gate_guard (by rfl) ?_; dsimp only)); refine box_event ?hg (N := 4) ?hd (cs := #[.string a1_0, .int .i64 a1_1]) (t := 23) ?hr ?_; (case hd => rfl); (case hg => rfl); (case hr => first | (go_simp; done) | (go_simp; rfl)); intro gb101 hg w20 hbox hb; have n0_ := Aside0.mk (below_step (by repeat (first | (with_reducible first | exact HB.out | apply below_alloc | apply pw_below_drewN | apply below_drew1) | exact HB.out)) hb); have n1_ := Aside0.mk (hbox); have n2_ := Aside0.mk ((by rw [hg]; exact (below_size (by repeat (first | (with_reducible first | exact HB.out | apply below_alloc | apply pw_below_drewN | apply below_drew1) | exact HB.out))) : w.heap.size ≤ gb101)); have n3_ := Aside0.mk ((by rw [hg]; exact (below_size (by repeat (first | (with_reducible first | exact HB.out | apply below_alloc | apply pw_below_drewN | apply below_drew1) | exact HB.out))) : w.heap.size ≤ gb101)); clear HB; have HB := n0_; have BK101 := n1_; have GW101 := n2_; have GE101 := n3_; clear n0_ n1_ n2_ n3_; clear hb hbox hg) | (go_at_call 45; (with_reducible refine (spec_IsPlain.calls k a0 true _ A5.out).mono ?_); rintro e w' ⟨rfl, ⟨nd, rfl⟩⟩; have hcz21_0 : w20.cell? ⟨gb101, 0, none⟩ = some (.string a1_0) := (blk_cell BK101.out 0).trans rfl; have hcz21_1 : w20.cell? ⟨gb101, 1, none⟩ = some (.int .i64 a1_1) := (blk_cell BK101.out 1).trans rfl; have hfz21_0 := blk_frozen BK101.out 0; have hfz21_1 := blk_frozen BK101.out 1) | (go_at_call 45; (with_reducible refine (spec_IsPlain.calls k a1_0 true _ A8.out).mono ?_); rintro e w' ⟨rfl, ⟨nd, rfl⟩⟩))
              go_ret
              exact ⟨by first | rfl | (simp [errW_none, errW_some] <;> rfl) | (simp [*, errW_none, errW_some] <;> rfl), by repeat (first | (with_reducible first | exact HB.out | apply below_alloc | apply pw_below_drewN | apply below_drew1 | refine below_set ?_ GE101.out) | exact HB.out)⟩
          · rw [if_neg c10] at H
            have c10b0 : decide (0 ≤ a1_1) = false := decide_eq_false c10
            clear c10
            obtain rfl := Option.some.inj H
            go_enter Tryd.func23, Tryd.ntmps23
            go_wp2_with (first | ((with_reducible refine gate_dst (N := 4) rfl ?_); (try (refine gate_guard (by rfl) ?_; dsimp only)); refine box_event ?hg (N := 4) ?hd (cs := #[.string a1_0, .int .i64 a1_1]) (t := 23) ?hr ?_; (case hd => rfl); (case hg => rfl); (case hr => first | (go_simp; done) | (go_simp; rfl)); intro gb101 hg w22 hbox hb; have n0_ := Aside0.mk (below_step (by repeat (first | (with_reducible first | exact HB.out | apply below_alloc | apply pw_below_drewN | apply below_drew1) | exact HB.out)) hb); have n1_ := Aside0.mk (hbox); have n2_ := Aside0.mk ((by rw [hg]; exact (below_size (by repeat (first | (with_reducible first | exact HB.out | apply below_alloc | apply pw_below_drewN | apply below_drew1) | exact HB.out))) : w.heap.size ≤ gb101)); have n3_ := Aside0.mk ((by rw [hg]; exact (below_size (by repeat (first | (with_reducible first | exact HB.out | apply below_alloc | apply pw_below_drewN | apply below_drew1) | exact HB.out))) : w.heap.size ≤ gb101)); clear HB; have HB := n0_; have BK101 := n1_; have GW101 := n2_; have GE101 := n3_; clear n0_ n1_ n2_ n3_; clear hb hbox hg) | (go_at_call 45; (with_reducible refine (spec_IsPlain.calls k a0 true _ A5.out).mono ?_); rintro e w' ⟨rfl, ⟨nd, rfl⟩⟩; have hcz23_0 : w22.cell? ⟨gb101, 0, none⟩ = some (.string a1_0) := (blk_cell BK101.out 0).trans rfl; have hcz23_1 : w22.cell? ⟨gb101, 1, none⟩ = some (.int .i64 a1_1) := (blk_cell BK101.out 1).trans rfl; have hfz23_0 := blk_frozen BK101.out 0; have hfz23_1 := blk_frozen BK101.out 1) | (go_at_call 45; (with_reducible refine (spec_IsPlain.calls k a1_0 true _ A8.out).mono ?_); rintro e w' ⟨rfl, ⟨nd, rfl⟩⟩))
            go_ret
            exact ⟨by first | rfl | (simp [errW_none, errW_some] <;> rfl) | (simp [*, errW_none, errW_some] <;> rfl), by repeat (first | (with_reducible first | exact HB.out | apply below_alloc | apply pw_below_drewN | apply below_drew1 | refine below_set ?_ GE101.out) | exact HB.out)⟩
        · replace c9 := Bool.eq_false_iff.mpr c9
          subst c9
          have H1 : (some false) = some r := by rw [if_neg (show ¬ (false = true) by decide)] at H; exact H
          clear H
          have H := H1
          clear H1
          obtain rfl := Option.some.inj H
          go_enter Tryd.func23, Tryd.ntmps23
          go_wp2_with (first | ((with_reducible refine gate_dst (N := 4) rfl ?_); (try (refine gate_guard (by rfl) ?_; dsimp only)); refine box_event ?hg (N := 4) ?hd (cs := #[.string a1_0, .int .i64 a1_1]) (t := 23) ?hr ?_; (case hd => rfl); (case hg => rfl); (case hr => first | (go_simp; done) | (go_simp; rfl)); intro gb101 hg w24 hbox hb; have n0_ := Aside0.mk (below_step (by repeat (first | (with_reducible first | exact HB.out | apply below_alloc | apply pw_below_drewN | apply below_drew1) | exact HB.out)) hb); have n1_ := Aside0.mk (hbox); have n2_ := Aside0.mk ((by rw [hg]; exact (below_size (by repeat (first | (with_reducible first | exact HB.out | apply below_alloc | apply pw_below_drewN | apply below_drew1) | exact HB.out))) : w.heap.size ≤ gb101)); have n3_ := Aside0.mk ((by rw [hg]; exact (below_size (by repeat (first | (with_reducible first | exact HB.out | apply below_alloc | apply pw_below_drewN | apply below_drew1) | exact HB.out))) : w.heap.size ≤ gb101)); clear HB; have HB := n0_; have BK101 := n1_; have GW101 := n2_; have GE101 := n3_; clear n0_ n1_ n2_ n3_; clear hb hbox hg) | (go_at_call 45; (with_reducible refine (spec_IsPlain.calls k a0 true _ A5.out).mono ?_); rintro e w' ⟨rfl, ⟨nd, rfl⟩⟩; have hcz25_0 : w24.cell? ⟨gb101, 0, none⟩ = some (.string a1_0) := (blk_cell BK101.out 0).trans rfl; have hcz25_1 : w24.cell? ⟨gb101, 1, none⟩ = some (.int .i64 a1_1) := (blk_cell BK101.out 1).trans rfl; have hfz25_0 := blk_frozen BK101.out 0; have hfz25_1 := blk_frozen BK101.out 1) | (go_at_call 45; (with_reducible refine (spec_IsPlain.calls k a1_0 false _ A8.out).mono ?_); rintro e w' ⟨rfl, ⟨nd, rfl⟩⟩))
          go_ret
          exact ⟨by first | rfl | (simp [errW_none, errW_some] <;> rfl) | (simp [*, errW_none, errW_some] <;> rfl), by repeat (first | (with_reducible first | exact HB.out | apply below_alloc | apply pw_below_drewN | apply below_drew1 | refine below_set ?_ GE101.out) | exact HB.out)⟩
      · rw [if_neg c7] at H
        have c7b0 : decide ((a1_0.size : Int) ≤ 300) = false := decide_eq_false c7
        have c7b1 : decide (a1_0.size ≤ 300) = false := decide_eq_false (by omega)
        clear c7
        obtain rfl := Option.some.inj H
        go_enter Tryd.func23, Tryd.ntmps23
        go_wp2_with (first | ((with_reducible refine gate_dst (N := 4) rfl ?_); (try (refine gate_guard (by rfl) ?_; dsimp only)); refine box_event ?hg (N := 4) ?hd (cs := #[.string a1_0, .int .i64 a1_1]) (t := 23) ?hr ?_; (case hd => rfl); (case hg => rfl); (case hr => first | (go_simp; done) | (go_simp; rfl)); intro gb101 hg w26 hbox hb; have n0_ := Aside0.mk (below_step (by repeat (first | (with_reducible first | exact HB.out | apply below_alloc | apply pw_below_drewN | apply below_drew1) | exact HB.out)) hb); have n1_ := Aside0.mk (hbox); have n2_ := Aside0.mk ((by rw [hg]; exact (below_size (by repeat (first | (with_reducible first | exact HB.out | apply below_alloc | apply pw_below_drewN | apply below_drew1) | exact HB.out))) : w.heap.size ≤ gb101)); have n3_ := Aside0.mk ((by rw [hg]; exact (below_size (by repeat (first | (with_reducible first | exact HB.out | apply below_alloc | apply pw_below_drewN | apply below_drew1) | exact HB.out))) : w.heap.size ≤ gb101)); clear HB; have HB := n0_; have BK101 := n1_; have GW101 := n2_; have GE101 := n3_; clear n0_ n1_ n2_ n3_; clear hb hbox hg) | (go_at_call 45; (with_reducible refine (spec_IsPlain.calls k a0 true _ A5.out).mono ?_); rintro e w' ⟨rfl, ⟨nd, rfl⟩⟩; have hcz27_0 : w26.cell? ⟨gb101, 0, none⟩ = some (.string a1_0) := (blk_cell BK101.out 0).trans rfl; have hcz27_1 : w26.cell? ⟨gb101, 1, none⟩ = some (.int .i64 a1_1) := (blk_cell BK101.out 1).trans rfl; have hfz27_0 := blk_frozen BK101.out 0; have hfz27_1 := blk_frozen BK101.out 1))
        go_ret
        exact ⟨by first | rfl | (simp [errW_none, errW_some] <;> rfl) | (simp [*, errW_none, errW_some] <;> rfl), by repeat (first | (with_reducible first | exact HB.out | apply below_alloc | apply pw_below_drewN | apply below_drew1 | refine below_set ?_ GE101.out) | exact HB.out)⟩
    · replace c6 := Bool.eq_false_iff.mpr c6
      subst c6
      have H1 : (some false) = some r := by rw [if_neg (show ¬ (false = true) by decide)] at H; exact H
      clear H
      have H := H1
      clear H1
      obtain rfl := Option.some.inj H
      go_enter Tryd.func23, Tryd.ntmps23
      go_wp2_with (first | ((with_reducible refine gate_dst (N := 4) rfl ?_); (try (refine gate_guard (by rfl) ?_; dsimp only)); refine box_event ?hg (N := 4) ?hd (cs := #[.string a1_0, .int .i64 a1_1]) (t := 23) ?hr ?_; (case hd => rfl); (case hg => rfl); (case hr => first | (go_simp; done) | (go_simp; rfl)); intro gb101 hg w28 hbox hb; have n0_ := Aside0.mk (below_step (by repeat (first | (with_reducible first | exact HB.out | apply below_alloc | apply pw_below_drewN | apply below_drew1) | exact HB.out)) hb); have n1_ := Aside0.mk (hbox); have n2_ := Aside0.mk ((by rw [hg]; exact (below_size (by repeat (first | (with_reducible first | exact HB.out | apply below_alloc | apply pw_below_drewN | apply below_drew1) | exact HB.out))) : w.heap.size ≤ gb101)); have n3_ := Aside0.mk ((by rw [hg]; exact (below_size (by repeat (first | (with_reducible first | exact HB.out | apply below_alloc | apply pw_below_drewN | apply below_drew1) | exact HB.out))) : w.heap.size ≤ gb101)); clear HB; have HB := n0_; have BK101 := n1_; have GW101 := n2_; have GE101 := n3_; clear n0_ n1_ n2_ n3_; clear hb hbox hg) | (go_at_call 45; (with_reducible refine (spec_IsPlain.calls k a0 false _ A5.out).mono ?_); rintro e w' ⟨rfl, ⟨nd, rfl⟩⟩))
      go_ret
      exact ⟨by first | rfl | (simp [errW_none, errW_some] <;> rfl) | (simp [*, errW_none, errW_some] <;> rfl), by repeat (first | (with_reducible first | exact HB.out | apply below_alloc | apply pw_below_drewN | apply below_drew1 | refine below_set ?_ GE101.out) | exact HB.out)⟩
  · rw [if_neg c4] at H
    have c4b0 : decide ((a0.size : Int) ≤ 100) = false := decide_eq_false c4
    have c4b1 : decide (a0.size ≤ 100) = false := decide_eq_false (by omega)
    clear c4
    obtain rfl := Option.some.inj H
    go_enter Tryd.func23, Tryd.ntmps23
    go_wp2_with (first | ((with_reducible refine gate_dst (N := 4) rfl ?_); (try (refine gate_guard (by rfl) ?_; dsimp only)); refine box_event ?hg (N := 4) ?hd (cs := #[.string a1_0, .int .i64 a1_1]) (t := 23) ?hr ?_; (case hd => rfl); (case hg => rfl); (case hr => first | (go_simp; done) | (go_simp; rfl)); intro gb101 hg w29 hbox hb; have n0_ := Aside0.mk (below_step (by repeat (first | (with_reducible first | exact HB.out | apply below_alloc | apply pw_below_drewN | apply below_drew1) | exact HB.out)) hb); have n1_ := Aside0.mk (hbox); have n2_ := Aside0.mk ((by rw [hg]; exact (below_size (by repeat (first | (with_reducible first | exact HB.out | apply below_alloc | apply pw_below_drewN | apply below_drew1) | exact HB.out))) : w.heap.size ≤ gb101)); have n3_ := Aside0.mk ((by rw [hg]; exact (below_size (by repeat (first | (with_reducible first | exact HB.out | apply below_alloc | apply pw_below_drewN | apply below_drew1) | exact HB.out))) : w.heap.size ≤ gb101)); clear HB; have HB := n0_; have BK101 := n1_; have GW101 := n2_; have GE101 := n3_; clear n0_ n1_ n2_ n3_; clear hb hbox hg))
    go_ret
    exact ⟨by first | rfl | (simp [errW_none, errW_some] <;> rfl) | (simp [*, errW_none, errW_some] <;> rfl), by repeat (first | (with_reducible first | exact HB.out | apply below_alloc | apply pw_below_drewN | apply below_drew1 | refine below_set ?_ GE101.out) | exact HB.out)⟩
/-! ### laws_FnShownMask: function 11 -/
mutual
def laws_FnShownMask.j0 : Nat → ByteArray → ByteArray → Int → Int → Bool → Option (Bool)
  | 0, _, _, _, _, _ => none
  | k + 1, x0, x1, x2, x3, x19 => if x19 = true then (some true) else ((laws_columns9.f k x0 x1 0 x2).bind fun t104 => (if t104 = true then (if x1.toList = ([] : List UInt8) then (laws_FnShownMask.j1 k x0 x1 x2 x3 true) else (if x3 ≤ 32 then (laws_FnShownMask.j1 k x0 x1 x2 x3 true) else (laws_FnShownMask.j1 k x0 x1 x2 x3 (decide (x3 > 126))))) else (laws_FnShownMask.j1 k x0 x1 x2 x3 true)))
def laws_FnShownMask.j1 : Nat → ByteArray → ByteArray → Int → Int → Bool → Option (Bool)
  | 0, _, _, _, _, _ => none
  | k + 1, x0, x1, x2, x3, x37 => if x37 = true then (some true) else (laws_FnShownMask.l0 k x0 x1 x2 x3 x0 (x1.size : Int) 0)
def laws_FnShownMask.l0 : Nat → ByteArray → ByteArray → Int → Int → ByteArray → Int → Int → Option (Bool)
  | 0, _, _, _, _, _, _, _ => none
  | k + 1, x0, x1, x2, x3, x9, x40, x41 => if x41 < x40 then ((some (([x3] : List Int) : List Int)).bind fun y105 => (if x9.size + (strOfNums y105).size ≤ 9223372036854775807 then (laws_FnShownMask.l0 k x0 x1 x2 x3 (x9 ++ (strOfNums y105)) x40 (wrap64 (x41 + 1))) else (none))) else ((impl_ShownLine.f x0 x1 (x1.size : Int) x2 (wrap64 (x3))).bind fun bt108 => (if bt108.2 = true then (some (bt108.1.toList == x9.toList)) else (some false)))
end
def laws_FnShownMask.f (k : Nat) (a0 : ByteArray) (a1 : ByteArray) (a2 : Int) (a3 : Int) : Option (Bool) := if (a0.size : Int) > 2147483647 then (laws_FnShownMask.j0 k a0 a1 a2 a3 true) else (laws_FnShownMask.j0 k a0 a1 a2 a3 (decide ((a1.size : Int) > 2147483647)))
theorem laws_FnShownMask.mono_l : ∀ k, (∀ y0 y1 y2 y3 y4, LeO (laws_FnShownMask.j0 k y0 y1 y2 y3 y4) (laws_FnShownMask.j0 (k + 1) y0 y1 y2 y3 y4)) ∧ (∀ y0 y1 y2 y3 y4, LeO (laws_FnShownMask.j1 k y0 y1 y2 y3 y4) (laws_FnShownMask.j1 (k + 1) y0 y1 y2 y3 y4)) ∧ (∀ y0 y1 y2 y3 y4 y5 y6, LeO (laws_FnShownMask.l0 k y0 y1 y2 y3 y4 y5 y6) (laws_FnShownMask.l0 (k + 1) y0 y1 y2 y3 y4 y5 y6))
  | 0 => ⟨fun _ _ _ _ _ r h => by simp [laws_FnShownMask.j0] at h, fun _ _ _ _ _ r h => by simp [laws_FnShownMask.j1] at h, fun _ _ _ _ _ _ _ r h => by simp [laws_FnShownMask.l0] at h⟩
  | k + 1 => by
    obtain ⟨ih0, ih1, ih2⟩ := laws_FnShownMask.mono_l k
    refine ⟨?_, ?_, ?_⟩
    · intro y0 y1 y2 y3 y4
      unfold laws_FnShownMask.j0
      repeat' first
      | (with_reducible exact ih0 _ _ _ _ _)
      | (with_reducible exact ih1 _ _ _ _ _)
      | (with_reducible exact ih2 _ _ _ _ _ _ _)
      | (with_reducible exact laws_columns9.mono _ _ _ _ _)
      | (with_reducible exact LeO.refl _)
      | (with_reducible exact LeO.none _)
      | (with_reducible refine LeO.ite ?_ ?_)
      | (with_reducible refine LeO.bind ?_ (fun _ => ?_))
      | exact ih0 _ _ _ _ _
      | exact ih1 _ _ _ _ _
      | exact ih2 _ _ _ _ _ _ _
      | exact laws_columns9.mono _ _ _ _ _
      | exact LeO.none _
      | refine LeO.ite ?_ ?_
      | refine LeO.bind ?_ (fun _ => ?_)
    · intro y0 y1 y2 y3 y4
      unfold laws_FnShownMask.j1
      repeat' first
      | (with_reducible exact ih0 _ _ _ _ _)
      | (with_reducible exact ih1 _ _ _ _ _)
      | (with_reducible exact ih2 _ _ _ _ _ _ _)
      | (with_reducible exact laws_columns9.mono _ _ _ _ _)
      | (with_reducible exact LeO.refl _)
      | (with_reducible exact LeO.none _)
      | (with_reducible refine LeO.ite ?_ ?_)
      | (with_reducible refine LeO.bind ?_ (fun _ => ?_))
      | exact ih0 _ _ _ _ _
      | exact ih1 _ _ _ _ _
      | exact ih2 _ _ _ _ _ _ _
      | exact laws_columns9.mono _ _ _ _ _
      | exact LeO.none _
      | refine LeO.ite ?_ ?_
      | refine LeO.bind ?_ (fun _ => ?_)
    · intro y0 y1 y2 y3 y4 y5 y6
      unfold laws_FnShownMask.l0
      repeat' first
      | (with_reducible exact ih0 _ _ _ _ _)
      | (with_reducible exact ih1 _ _ _ _ _)
      | (with_reducible exact ih2 _ _ _ _ _ _ _)
      | (with_reducible exact laws_columns9.mono _ _ _ _ _)
      | (with_reducible exact LeO.refl _)
      | (with_reducible exact LeO.none _)
      | (with_reducible refine LeO.ite ?_ ?_)
      | (with_reducible refine LeO.bind ?_ (fun _ => ?_))
      | exact ih0 _ _ _ _ _
      | exact ih1 _ _ _ _ _
      | exact ih2 _ _ _ _ _ _ _
      | exact laws_columns9.mono _ _ _ _ _
      | exact LeO.none _
      | refine LeO.ite ?_ ?_
      | refine LeO.bind ?_ (fun _ => ?_)
theorem laws_FnShownMask.mono : ∀ a0 a1 a2 a3 k, LeO (laws_FnShownMask.f k a0 a1 a2 a3) (laws_FnShownMask.f (k + 1) a0 a1 a2 a3) := by
  intro a0 a1 a2 a3 k
  obtain ⟨ih0, ih1, ih2⟩ := laws_FnShownMask.mono_l k
  unfold laws_FnShownMask.f
  repeat' first
      | (with_reducible exact ih0 _ _ _ _ _)
      | (with_reducible exact ih1 _ _ _ _ _)
      | (with_reducible exact ih2 _ _ _ _ _ _ _)
      | (with_reducible exact laws_columns9.mono _ _ _ _ _)
      | (with_reducible exact LeO.refl _)
      | (with_reducible exact LeO.none _)
      | (with_reducible refine LeO.ite ?_ ?_)
      | (with_reducible refine LeO.bind ?_ (fun _ => ?_))
      | exact ih0 _ _ _ _ _
      | exact ih1 _ _ _ _ _
      | exact ih2 _ _ _ _ _ _ _
      | exact laws_columns9.mono _ _ _ _ _
      | exact LeO.none _
      | refine LeO.ite ?_ ?_
      | refine LeO.bind ?_ (fun _ => ?_)
set_option maxHeartbeats 8000000 in
set_option maxRecDepth 100000 in
theorem laws_FnShownMask.calls (k : Nat) (a0 : ByteArray) (a1 : ByteArray) (a2 : Int) (a3 : Int) (r : Bool) (w : World) (h : laws_FnShownMask.f k a0 a1 a2 a3 = some r) :
    Calls Tryd.prog 11 #[.string a0, .string a1, .int .i64 a2, .int .u8 a3] w fun e w' => e = .returned (.bool r) ∧ Below w.heap.size w w' := by
  have hu23 := Tryd.underlying23
  have HB := Aside0.mk (Below.refl w.heap.size w)
  have H : (if (a0.size : Int) > 2147483647 then (laws_FnShownMask.j0 k a0 a1 a2 a3 true) else (laws_FnShownMask.j0 k a0 a1 a2 a3 (decide ((a1.size : Int) > 2147483647)))) = some r := h
  clear h
  have HC5 := Aside0.mk H
  clear H
  go_enter Tryd.func11, Tryd.ntmps11
  go_upto_region 1 with (fail)
  go_cut [19] (fun v19 wc => ∃ (kq : Nat) (x19_4 : Bool), v19 = .bool x19_4 ∧ Aside0 (laws_FnShownMask.j0 kq a0 a1 a2 a3 x19_4 = some r) ∧ Aside0 (kq ≤ k) ∧ Aside0 (Below w.heap.size w wc))
  case first =>
    have H := HC5.out
    clear HC5
    by_cases c6 : (a0.size : Int) > 2147483647
    · rw [if_pos c6] at H
      have c6b0 : decide (2147483647 < (a0.size : Int)) = true := decide_eq_true c6
      have c6b1 : decide (2147483647 < a0.size) = true := decide_eq_true (by omega)
      clear c6
      (first | rw [c6b0] | (simp only [i64_w, i32_w]; rw [c6b0]) | skip)
      have H' := Aside0.mk H
      clear H
      go_wp2
      go_meet
      case rel => exact ⟨_, (true), (by first | rfl | (simp; done) | (simp [*]; done)), H', ⟨by first | omega | exact Nat.le_refl _⟩, ⟨by repeat (first | (with_reducible first | exact HB.out | apply below_alloc | apply pw_below_drewN | apply below_drew1) | exact HB.out)⟩⟩
    · rw [if_neg c6] at H
      have c6b0 : decide (2147483647 < (a0.size : Int)) = false := decide_eq_false c6
      have c6b1 : decide (2147483647 < a0.size) = false := decide_eq_false (by omega)
      clear c6
      (first | rw [c6b0] | (simp only [i64_w, i32_w]; rw [c6b0]) | skip)
      have H' := Aside0.mk H
      clear H
      go_wp2
      go_meet
      case rel => exact ⟨_, (decide ((a1.size : Int) > 2147483647)), (by first | rfl | (simp; done) | (simp [*]; done)), H', ⟨by first | omega | exact Nat.le_refl _⟩, ⟨by repeat (first | (with_reducible first | exact HB.out | apply below_alloc | apply pw_below_drewN | apply below_drew1) | exact HB.out)⟩⟩
  case rest =>
    clear HC5
    try clear c1
    try clear p2
    try clear c6
    try clear c6b0
    try clear c6b1
    obtain ⟨kq, x19_4, rfl, HA, HJ4, HB⟩ := hcut
    cases kq with
    | zero => exact absurd HA.out (by simp [laws_FnShownMask.j0])
    | succ kj4 =>
      have H := HA.out
      clear HA
      simp only [laws_FnShownMask.j0] at H
      by_cases c7 : x19_4 = true
      · subst c7
        have H1 : (some true) = some r := by rw [if_pos rfl] at H; exact H
        clear H
        have H := H1
        clear H1
        obtain rfl := Option.some.inj H
        go_wp2
        go_ret
        exact ⟨by first | rfl | (simp [errW_none, errW_some] <;> rfl) | (simp [*, errW_none, errW_some] <;> rfl), by repeat (first | (with_reducible first | exact HB.out | apply below_alloc | apply pw_below_drewN | apply below_drew1) | exact HB.out)⟩
      · replace c7 := Bool.eq_false_iff.mpr c7
        subst c7
        have H1 : ((laws_columns9.f kj4 a0 a1 0 a2).bind fun t104 => (if t104 = true then (if a1.toList = ([] : List UInt8) then (laws_FnShownMask.j1 kj4 a0 a1 a2 a3 true) else (if a3 ≤ 32 then (laws_FnShownMask.j1 kj4 a0 a1 a2 a3 true) else (laws_FnShownMask.j1 kj4 a0 a1 a2 a3 (decide (a3 > 126))))) else (laws_FnShownMask.j1 kj4 a0 a1 a2 a3 true))) = some r := by rw [if_neg (show ¬ (false = true) by decide)] at H; exact H
        clear H
        have H := H1
        clear H1
        have HC8 := Aside0.mk H
        clear H
        go_upto_region 3 with (fail)
        go_cut [37] (fun v37 wc => ∃ (kq : Nat) (x37_7 : Bool), v37 = .bool x37_7 ∧ Aside0 (laws_FnShownMask.j1 kq a0 a1 a2 a3 x37_7 = some r) ∧ Aside0 (kq ≤ kj4) ∧ Aside0 (Below w.heap.size w wc))
        case first =>
          have H := HC8.out
          clear HC8
          replace H := Option.bind_eq_some_iff.mp H
          obtain ⟨t104, A90, H⟩ := H
          replace H : (if t104 = true then (if a1.toList = ([] : List UInt8) then (laws_FnShownMask.j1 kj4 a0 a1 a2 a3 true) else (if a3 ≤ 32 then (laws_FnShownMask.j1 kj4 a0 a1 a2 a3 true) else (laws_FnShownMask.j1 kj4 a0 a1 a2 a3 (decide (a3 > 126))))) else (laws_FnShownMask.j1 kj4 a0 a1 a2 a3 true)) = some r := H
          have A9 := Aside0.mk A90
          clear A90
          by_cases c10 : t104 = true
          · subst c10
            have H1 : (if a1.toList = ([] : List UInt8) then (laws_FnShownMask.j1 kj4 a0 a1 a2 a3 true) else (if a3 ≤ 32 then (laws_FnShownMask.j1 kj4 a0 a1 a2 a3 true) else (laws_FnShownMask.j1 kj4 a0 a1 a2 a3 (decide (a3 > 126))))) = some r := by rw [if_pos rfl] at H; exact H
            clear H
            have H := H1
            clear H1
            by_cases c11 : a1.toList = ([] : List UInt8)
            · rw [if_pos c11] at H
              have c11b0 : (a1.toList == ([] : List UInt8)) = true := beq_iff_eq.mpr c11
              have c11b1 : (a1.toList != ([] : List UInt8)) = false := bne_eq_false_iff_eq.mpr c11
              clear c11
              (first | rw [c11b0] | (simp only [i64_w, i32_w]; rw [c11b0]) | skip)
              have H' := Aside0.mk H
              clear H
              go_wp2_with (first | ((with_reducible refine gate_callee (f := 23) rfl ?_); refine goesL_ (some 24) rfl rfl Tryd.func23 (by kernel_rfl) rfl #[.string a0, .agg #[.string a1, .int .i64 0], .int .i64 a2] rfl (by (try simp only [List.map_toArray, List.map_cons, List.map_nil]); first | done | rfl | (simp only [List.length_drop, List.length_take]; rfl) | (simp only [Int.toNat_natCast, ByteArray.extract_zero_size]; rfl)) ?_; (with_reducible refine (laws_columns9.calls kj4 a0 a1 0 a2 true _ A9.out).mono ?_); rintro e w12 ⟨rfl, hb⟩; refine ⟨_, rfl, ?_⟩; have n0_ := Aside0.mk (below_step (by repeat (first | (with_reducible first | exact HB.out | apply below_alloc | apply pw_below_drewN | apply below_drew1) | exact HB.out)) hb); clear HB; have HB := n0_; clear n0_; (try clear hb); (try clear hb2); (try clear hk); (try clear hi)))
              go_meet
              case rel => exact ⟨_, (true), (by first | rfl | (simp; done) | (simp [*]; done)), H', ⟨by have := HJ4.out; first | omega | exact Nat.le_refl _⟩, ⟨by repeat (first | (with_reducible first | exact HB.out | apply below_alloc | apply pw_below_drewN | apply below_drew1) | exact HB.out)⟩⟩
            · rw [if_neg c11] at H
              have c11b0 : (a1.toList == ([] : List UInt8)) = false := beq_eq_false_iff_ne.mpr c11
              have c11b1 : (a1.toList != ([] : List UInt8)) = true := bne_iff_ne.mpr c11
              (first | rw [c11b0] | (simp only [i64_w, i32_w]; rw [c11b0]) | skip)
              by_cases c13 : a3 ≤ 32
              · rw [if_pos c13] at H
                have c13b0 : decide (a3 ≤ 32) = true := decide_eq_true c13
                clear c13
                have H' := Aside0.mk H
                clear H
                go_wp2_with (first | ((with_reducible refine gate_callee (f := 23) rfl ?_); refine goesL_ (some 24) rfl rfl Tryd.func23 (by kernel_rfl) rfl #[.string a0, .agg #[.string a1, .int .i64 0], .int .i64 a2] rfl (by (try simp only [List.map_toArray, List.map_cons, List.map_nil]); first | done | rfl | (simp only [List.length_drop, List.length_take]; rfl) | (simp only [Int.toNat_natCast, ByteArray.extract_zero_size]; rfl)) ?_; (with_reducible refine (laws_columns9.calls kj4 a0 a1 0 a2 true _ A9.out).mono ?_); rintro e w14 ⟨rfl, hb⟩; refine ⟨_, rfl, ?_⟩; have n0_ := Aside0.mk (below_step (by repeat (first | (with_reducible first | exact HB.out | apply below_alloc | apply pw_below_drewN | apply below_drew1) | exact HB.out)) hb); clear HB; have HB := n0_; clear n0_; (try clear hb); (try clear hb2); (try clear hk); (try clear hi)))
                go_meet
                case rel => exact ⟨_, (true), (by first | rfl | (simp; done) | (simp [*]; done)), H', ⟨by have := HJ4.out; first | omega | exact Nat.le_refl _⟩, ⟨by repeat (first | (with_reducible first | exact HB.out | apply below_alloc | apply pw_below_drewN | apply below_drew1) | exact HB.out)⟩⟩
              · rw [if_neg c13] at H
                have c13b0 : decide (a3 ≤ 32) = false := decide_eq_false c13
                clear c13
                have H' := Aside0.mk H
                clear H
                go_wp2_with (first | ((with_reducible refine gate_callee (f := 23) rfl ?_); refine goesL_ (some 24) rfl rfl Tryd.func23 (by kernel_rfl) rfl #[.string a0, .agg #[.string a1, .int .i64 0], .int .i64 a2] rfl (by (try simp only [List.map_toArray, List.map_cons, List.map_nil]); first | done | rfl | (simp only [List.length_drop, List.length_take]; rfl) | (simp only [Int.toNat_natCast, ByteArray.extract_zero_size]; rfl)) ?_; (with_reducible refine (laws_columns9.calls kj4 a0 a1 0 a2 true _ A9.out).mono ?_); rintro e w15 ⟨rfl, hb⟩; refine ⟨_, rfl, ?_⟩; have n0_ := Aside0.mk (below_step (by repeat (first | (with_reducible first | exact HB.out | apply below_alloc | apply pw_below_drewN | apply below_drew1) | exact HB.out)) hb); clear HB; have HB := n0_; clear n0_; (try clear hb); (try clear hb2); (try clear hk); (try clear hi)))
                go_meet
                case rel => exact ⟨_, (decide (a3 > 126)), (by first | rfl | (simp; done) | (simp [*]; done)), H', ⟨by have := HJ4.out; first | omega | exact Nat.le_refl _⟩, ⟨by repeat (first | (with_reducible first | exact HB.out | apply below_alloc | apply pw_below_drewN | apply below_drew1) | exact HB.out)⟩⟩
          · replace c10 := Bool.eq_false_iff.mpr c10
            subst c10
            have H1 : (laws_FnShownMask.j1 kj4 a0 a1 a2 a3 true) = some r := by rw [if_neg (show ¬ (false = true) by decide)] at H; exact H
            clear H
            have H := H1
            clear H1
            have H' := Aside0.mk H
            clear H
            go_wp2_with (first | ((with_reducible refine gate_callee (f := 23) rfl ?_); refine goesL_ (some 24) rfl rfl Tryd.func23 (by kernel_rfl) rfl #[.string a0, .agg #[.string a1, .int .i64 0], .int .i64 a2] rfl (by (try simp only [List.map_toArray, List.map_cons, List.map_nil]); first | done | rfl | (simp only [List.length_drop, List.length_take]; rfl) | (simp only [Int.toNat_natCast, ByteArray.extract_zero_size]; rfl)) ?_; (with_reducible refine (laws_columns9.calls kj4 a0 a1 0 a2 false _ A9.out).mono ?_); rintro e w16 ⟨rfl, hb⟩; refine ⟨_, rfl, ?_⟩; have n0_ := Aside0.mk (below_step (by repeat (first | (with_reducible first | exact HB.out | apply below_alloc | apply pw_below_drewN | apply below_drew1) | exact HB.out)) hb); clear HB; have HB := n0_; clear n0_; (try clear hb); (try clear hb2); (try clear hk); (try clear hi)))
            go_meet
            case rel => exact ⟨_, (true), (by first | rfl | (simp; done) | (simp [*]; done)), H', ⟨by have := HJ4.out; first | omega | exact Nat.le_refl _⟩, ⟨by repeat (first | (with_reducible first | exact HB.out | apply below_alloc | apply pw_below_drewN | apply below_drew1) | exact HB.out)⟩⟩
        case rest =>
          clear HC8
          try clear c1
          try clear c2
          try clear p2
          try clear c6
          try clear c6b0
          try clear c6b1
          try clear c7
          try clear c10
          try clear c11
          try clear c11b0
          try clear c11b1
          try clear c13
          try clear c13b0
          try clear p2
          obtain ⟨kq, x37_7, rfl, HA, HJ7, HB⟩ := hcut
          cases kq with
          | zero => exact absurd HA.out (by simp [laws_FnShownMask.j1])
          | succ kj7 =>
            have H := HA.out
            clear HA
            simp only [laws_FnShownMask.j1] at H
            by_cases c17 : x37_7 = true
            · subst c17
              have H1 : (some true) = some r := by rw [if_pos rfl] at H; exact H
              clear H
              have H := H1
              clear H1
              obtain rfl := Option.some.inj H
              go_wp2
              go_ret
              exact ⟨by first | rfl | (simp [errW_none, errW_some] <;> rfl) | (simp [*, errW_none, errW_some] <;> rfl), by repeat (first | (with_reducible first | exact HB.out | apply below_alloc | apply pw_below_drewN | apply below_drew1) | exact HB.out)⟩
            · replace c17 := Bool.eq_false_iff.mpr c17
              subst c17
              have H1 : (laws_FnShownMask.l0 kj7 a0 a1 a2 a3 a0 (a1.size : Int) 0) = some r := by rw [if_neg (show ¬ (false = true) by decide)] at H; exact H
              clear H
              have H := H1
              clear H1
              have H' := Aside0.mk H
              clear H
              go_wp2
              go_loopg [9, 41] kj7 (fun kq v9 v41 w' => ∃ (x9_3 : ByteArray) (x41_3 : Int), v9 = .string x9_3 ∧ v41 = .int .i64 x41_3 ∧ Aside0 (laws_FnShownMask.l0 kq a0 a1 a2 a3 x9_3 (a1.size : Int) x41_3 = some r) ∧ Aside0 (kq ≤ kj7) ∧ Aside0 (Below w.heap.size w w'))
              case atStart => exact ⟨(a0), (0), (by first | rfl | (simp; done) | (simp [*]; done)), (by first | rfl | (simp; done) | (simp [*]; done)), H', ⟨Nat.le_refl _⟩, ⟨by repeat (first | (with_reducible first | exact HB.out | apply below_alloc | apply pw_below_drewN | apply below_drew1) | exact HB.out)⟩⟩
              case round =>
                clear H'
                try clear c1
                try clear c2
                try clear p2
                try clear c6
                try clear c6b0
                try clear c6b1
                try clear c7
                try clear c10
                try clear c11
                try clear c11b0
                try clear c11b1
                try clear c13
                try clear c13b0
                try clear c17
                try clear p2
                obtain ⟨x9_3, x41_3, rfl, rfl, HA, HK3, HB⟩ := hrel
                cases gk with
                | zero => exact absurd HA.out (by simp [laws_FnShownMask.l0])
                | succ k3 =>
                  have H := HA.out
                  clear HA
                  simp only [laws_FnShownMask.l0] at H
                  by_cases c18 : x41_3 < (a1.size : Int)
                  · rw [if_pos c18] at H
                    have c18b0 : decide (x41_3 < (a1.size : Int)) = true := decide_eq_true c18
                    clear c18
                    obtain ⟨y105, hy105⟩ : ∃ y_ : List Int, y_ = (([a3] : List Int)) := ⟨_, rfl⟩
                    replace H : (if x9_3.size + (strOfNums y105).size ≤ 9223372036854775807 then (laws_FnShownMask.l0 k3 a0 a1 a2 a3 (x9_3 ++ (strOfNums y105)) (a1.size : Int) (wrap64 (x41_3 + 1))) else (none)) = some r := by first | (rw [hy105]; with_reducible exact H) | (have H2_ := (Option.bind_some _ _).symm.trans H; rw [hy105]; with_reducible exact H2_) | (have H2_ := (Option.bind_some _ _).symm.trans H; with_reducible exact H2_) | with_reducible exact H | (rw [hy105]; exact H) | exact H
                    have Ny105 := Aside0.mk hy105
                    clear hy105
                    by_cases c19 : x9_3.size + (strOfNums y105).size ≤ 9223372036854775807
                    · rw [if_pos c19] at H
                      have c19b0 := eq_true c19
                      have c19b1 : decide (x9_3.size + (strOfNums y105).size ≤ 9223372036854775807) = true := decide_eq_true c19
                      try have c19b2 : (9223372036854775807 < x9_3.size + (strOfNums y105).size) = False := eq_false (Nat.not_lt.2 c19)
                      have H' := Aside0.mk H
                      clear H
                      go_wp2_with (first | ((with_reducible refine gate_dst (N := 45) rfl ?_); (try (refine gate_guard (by rfl) ?_; dsimp only)); refine Kd.R_lit (Kd.int .u8) _ 5 ?hg (N := 45) ?hd (xs := ([a3] : List Int)) (inner := [.int .u8 a3]) (ok := fun _ => True) (okp := fun _ => True) ?hr ?hp (fun _ hk => hk) trivial (Below.refl _ _) (Nat.le_refl _) (by simp) ?_; (case hd => rfl); (case hg => rfl); (case hr => first | (go_simp; done) | (go_simp; rfl)); (case hp => exact (Reps.one (show Kd.M (Kd.int .u8) _ _ _ a3 [.int .u8 a3] from rfl) (Reps.none _ _))); intro v106 w20 ho21 hb hg_ hnew_; clear hg_ hnew_; (first | rw [← Ny105.out] at ho21 | (simp only [Int.reduceToNat] at ho21; rw [← Ny105.out] at ho21)); have n0_ := Aside0.mk (Kd.R_lower ho21 (below_size (by repeat (first | (with_reducible first | exact HB.out | apply below_alloc | apply pw_below_drewN | apply below_drew1) | exact HB.out)))); have n1_ := Aside0.mk (below_step (by repeat (first | (with_reducible first | exact HB.out | apply below_alloc | apply pw_below_drewN | apply below_drew1) | exact HB.out)) hb); clear HB; have HO107 := n0_; have HB := n1_; clear n0_ n1_; clear hb ho21; have hcv22 := own_string (P := Tryd.prog) Tryd.underlying24 Tryd.underlying5 Tryd.underlying9 (Kd.own_of_R HO107.out); have hcv22n := fun n_ => own_string (P := Tryd.prog) Tryd.underlying24 Tryd.underlying5 Tryd.underlying9 (Kd.own_of_R (Kd.R_drewN HO107.out n_))))
                      go_roundg k3
                      case measure => have := HJ4.out; have := HJ7.out; have := HK3.out; omega
                      case rel => exact ⟨(x9_3 ++ (strOfNums y105)), (wrap64 (x41_3 + 1)), (by first | rfl | (simp; done) | (simp [*]; done)), (by first | rfl | (simp; done) | (simp [*]; done)), H', ⟨by have := HJ4.out; have := HJ7.out; have := HK3.out; omega⟩, ⟨by repeat (first | (with_reducible first | exact HB.out | apply below_alloc | apply pw_below_drewN | apply below_drew1) | exact HB.out)⟩⟩
                    · rw [if_neg c19] at H
                      exact absurd H (by simp)
                  · rw [if_neg c18] at H
                    have c18b0 : decide (x41_3 < (a1.size : Int)) = false := decide_eq_false c18
                    clear c18
                    replace H := Option.bind_eq_some_iff.mp H
                    obtain ⟨⟨t108, t109⟩, A230, H⟩ := H
                    replace H : (if t109 = true then (some (t108.toList == x9_3.toList)) else (some false)) = some r := H
                    have A23 := Aside0.mk A230
                    clear A230
                    by_cases c24 : t109 = true
                    · subst c24
                      have H1 : (some (t108.toList == x9_3.toList)) = some r := by rw [if_pos rfl] at H; exact H
                      clear H
                      have H := H1
                      clear H1
                      obtain rfl := Option.some.inj H
                      go_wp2_with (first | ((with_reducible refine gate_callee (f := 24) rfl ?_); refine goesL_ (some 58) rfl rfl Tryd.func24 (by kernel_rfl) rfl #[.string a0, .agg #[.string a1, .int .i64 (a1.size : Int)], .int .i64 a2, .int .i64 (wrap64 (a3))] rfl (by (try simp only [List.map_toArray, List.map_cons, List.map_nil]); first | done | rfl | (simp only [List.length_drop, List.length_take]; rfl) | (simp only [Int.toNat_natCast, ByteArray.extract_zero_size]; rfl)) ?_; (with_reducible refine (impl_ShownLine.calls a0 a1 (a1.size : Int) a2 (wrap64 (a3)) t108 true _ A23.out).mono ?_); rintro e w25 ⟨rfl, hb⟩; refine ⟨_, rfl, ?_⟩; have n0_ := Aside0.mk (below_step (by repeat (first | (with_reducible first | exact HB.out | apply below_alloc | apply pw_below_drewN | apply below_drew1) | exact HB.out)) hb); clear HB; have HB := n0_; clear n0_; (try clear hb); (try clear hb2); (try clear hk); (try clear hi)))
                      go_ret
                      exact ⟨by first | rfl | (simp [errW_none, errW_some] <;> rfl) | (simp [*, errW_none, errW_some] <;> rfl), by repeat (first | (with_reducible first | exact HB.out | apply below_alloc | apply pw_below_drewN | apply below_drew1) | exact HB.out)⟩
                    · replace c24 := Bool.eq_false_iff.mpr c24
                      subst c24
                      have H1 : (some false) = some r := by rw [if_neg (show ¬ (false = true) by decide)] at H; exact H
                      clear H
                      have H := H1
                      clear H1
                      obtain rfl := Option.some.inj H
                      go_wp2_with (first | ((with_reducible refine gate_callee (f := 24) rfl ?_); refine goesL_ (some 58) rfl rfl Tryd.func24 (by kernel_rfl) rfl #[.string a0, .agg #[.string a1, .int .i64 (a1.size : Int)], .int .i64 a2, .int .i64 (wrap64 (a3))] rfl (by (try simp only [List.map_toArray, List.map_cons, List.map_nil]); first | done | rfl | (simp only [List.length_drop, List.length_take]; rfl) | (simp only [Int.toNat_natCast, ByteArray.extract_zero_size]; rfl)) ?_; (with_reducible refine (impl_ShownLine.calls a0 a1 (a1.size : Int) a2 (wrap64 (a3)) t108 false _ A23.out).mono ?_); rintro e w26 ⟨rfl, hb⟩; refine ⟨_, rfl, ?_⟩; have n0_ := Aside0.mk (below_step (by repeat (first | (with_reducible first | exact HB.out | apply below_alloc | apply pw_below_drewN | apply below_drew1) | exact HB.out)) hb); clear HB; have HB := n0_; clear n0_; (try clear hb); (try clear hb2); (try clear hk); (try clear hi)))
                      go_ret
                      exact ⟨by first | rfl | (simp [errW_none, errW_some] <;> rfl) | (simp [*, errW_none, errW_some] <;> rfl), by repeat (first | (with_reducible first | exact HB.out | apply below_alloc | apply pw_below_drewN | apply below_drew1) | exact HB.out)⟩
/-- THE ONE PURE STATEMENT of laws_FnShownMask: yours. -/
def laws_FnShownMask.Pure : Prop := ∀ (a0 : ByteArray) (a1 : ByteArray) (a2 : Int) (a3 : Int), a0.size ≤ 140737488351232 → a1.size ≤ 140737488351232 → (Lit.int .i64 a2).wf = true → (Lit.int .u8 a3).wf = true → ∃ k, laws_FnShownMask.f k a0 a1 a2 a3 = some true
theorem laws_FnShownMask.walk (P : laws_FnShownMask.Pure) (a0 : ByteArray) (a1 : ByteArray) (a2 : Int) (a3 : Int) (w : World) (w0 : a0.size ≤ 140737488351232) (w1 : a1.size ≤ 140737488351232) (w2 : (Lit.int .i64 a2).wf = true) (w3 : (Lit.int .u8 a3).wf = true) :
    Calls Tryd.prog 11 #[.string a0, .string a1, .int .i64 a2, .int .u8 a3] w fun e w' => e = .returned (.bool true) ∧ Below w.heap.size w w' := by
  obtain ⟨k, h⟩ := P a0 a1 a2 a3 w0 w1 w2 w3
  refine (laws_FnShownMask.calls k a0 a1 a2 a3 true w h).mono ?_
  rintro e w' ⟨rfl, hd⟩
  exact ⟨rfl, hd⟩
end Go.Proofs.YtdinikcfhpfojaaDoor.PFnShownMask
