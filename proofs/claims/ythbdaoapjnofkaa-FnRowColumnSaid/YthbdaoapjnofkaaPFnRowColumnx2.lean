/- Printed by a program of this seat (xprint) out of the translation: Go functions as plain functions, and the walks that show them; no condition. -/
import Derived.Test.YthbdaoapjnofkaaPFnRowColumnx0
import Derived.Test.YthbdaoapjnofkaaHRowColumn
import Derived.Test.YthbdaoapjnofkaaPFnRowColumnx1
namespace Go.Proofs.Ythbdaoapjnofkaa.PFnRowColumn
open Go.RowKit Go.Proofs.Ythbdaoapjnofkaa.H Go.Proofs.Ythbdaoapjnofkaa.R Go.Proofs.YthbdaoapjnofkaaW.PrintWords Go.Proofs.YthbdaoapjnofkaaW.PrintLast Go.Proofs.YthbdaoapjnofkaaW.PrintMore
attribute [local go_sem] max2_int min2_int max_two min_two max_three min_three max_four min_four   -- for this text's walks alone
set_option linter.unusedVariables false
set_option linter.unusedSimpArgs false

/-! ### spec_last: function 49 -/
def spec_last.l0 : Nat → ByteArray → ByteArray → Bool → Int → Option (Int)
  | 0, _, _, _, _ => none
  | k + 1, x0, x1, x2, x7 => if x7 ≥ 0 then (if 0 ≤ x7 then (if x7 < (x0.size : Int) then ((spec_hasByte.f k x1 (bt x0 x7)).bind fun t128 => (if (t128 != x2) = true then (some x7) else (spec_last.l0 k x0 x1 x2 (wrap64 (x7 - 1))))) else (none)) else (none)) else (some (-1))
def spec_last.f (k : Nat) (a0 : ByteArray) (a1 : ByteArray) (a2 : Bool) : Option (Int) := spec_last.l0 k a0 a1 a2 (wrap64 ((a0.size : Int) - 1))
theorem spec_last.mono_l : ∀ k, (∀ y0 y1 y2 y3, LeO (spec_last.l0 k y0 y1 y2 y3) (spec_last.l0 (k + 1) y0 y1 y2 y3))
  | 0 => fun _ _ _ _ r h => by simp [spec_last.l0] at h
  | k + 1 => by
    have ih0 := spec_last.mono_l k
    · intro y0 y1 y2 y3
      unfold spec_last.l0
      repeat' first
      | (with_reducible exact ih0 _ _ _ _)
      | (with_reducible exact spec_hasByte.mono _ _ _)
      | (with_reducible exact LeO.refl _)
      | (with_reducible exact LeO.none _)
      | (with_reducible refine LeO.ite ?_ ?_)
      | (with_reducible refine LeO.bind ?_ (fun _ => ?_))
      | exact ih0 _ _ _ _
      | exact spec_hasByte.mono _ _ _
      | exact LeO.none _
      | refine LeO.ite ?_ ?_
      | refine LeO.bind ?_ (fun _ => ?_)
theorem spec_last.mono : ∀ a0 a1 a2 k, LeO (spec_last.f k a0 a1 a2) (spec_last.f (k + 1) a0 a1 a2) := by
  intro a0 a1 a2 k
  have ih0 := spec_last.mono_l k
  unfold spec_last.f
  repeat' first
      | (with_reducible exact ih0 _ _ _ _)
      | (with_reducible exact spec_hasByte.mono _ _ _)
      | (with_reducible exact LeO.refl _)
      | (with_reducible exact LeO.none _)
      | (with_reducible refine LeO.ite ?_ ?_)
      | (with_reducible refine LeO.bind ?_ (fun _ => ?_))
      | exact ih0 _ _ _ _
      | exact spec_hasByte.mono _ _ _
      | exact LeO.none _
      | refine LeO.ite ?_ ?_
      | refine LeO.bind ?_ (fun _ => ?_)
set_option maxHeartbeats 8000000 in
set_option maxRecDepth 100000 in
theorem spec_last.calls (k : Nat) (a0 : ByteArray) (a1 : ByteArray) (a2 : Bool) (r : Int) (w : World) (h : spec_last.f k a0 a1 a2 = some r) :
    Calls Try.prog 49 #[.string a0, .string a1, .bool a2] w fun e w' => e = .returned (.int .i64 r) ∧ Drawn0 w w' := by
  have H : (spec_last.l0 k a0 a1 a2 (wrap64 ((a0.size : Int) - 1))) = some r := h
  clear h
  have H' := Aside0.mk H
  clear H
  go_enter Try.func49, Try.ntmps49
  go_wp2
  go_loopg [7] k (fun kq v7 w' => ∃ (x7_1 : Int), v7 = .int .i64 x7_1 ∧ Aside0 (spec_last.l0 kq a0 a1 a2 x7_1 = some r) ∧ Aside0 (kq ≤ k) ∧ Drawn0 w w')
  case atStart => exact ⟨(wrap64 ((a0.size : Int) - 1)), (by first | rfl | (simp; done) | (simp [*]; done)), H', ⟨Nat.le_refl _⟩, by repeat (first | exact Drawn0.refl _ | apply Drawn0.step)⟩
  case round =>
    clear H'
    try clear p2
    obtain ⟨x7_1, rfl, HA, HK1, ⟨m1, rfl⟩⟩ := hrel
    cases gk with
    | zero => exact absurd HA.out (by simp [spec_last.l0])
    | succ k1 =>
      have H := HA.out
      clear HA
      simp only [spec_last.l0] at H
      by_cases c4 : x7_1 ≥ 0
      · rw [if_pos c4] at H
        have c4b0 : decide (0 ≤ x7_1) = true := decide_eq_true c4
        clear c4
        by_cases c5 : 0 ≤ x7_1
        · rw [if_pos c5] at H
          have c5b0 : decide (0 ≤ x7_1) = true := decide_eq_true c5
          clear c5
          by_cases c6 : x7_1 < (a0.size : Int)
          · rw [if_pos c6] at H
            have c6b0 : decide (x7_1 < (a0.size : Int)) = true := decide_eq_true c6
            clear c6
            replace H := Option.bind_eq_some_iff.mp H
            obtain ⟨t128, A80, H⟩ := H
            replace H : (if (t128 != a2) = true then (some x7_1) else (spec_last.l0 k1 a0 a1 a2 (wrap64 (x7_1 - 1)))) = some r := H
            have A8 := Aside0.mk A80
            clear A80
            by_cases c9 : (t128 != a2) = true
            · rw [if_pos c9] at H
              have c9b0 : (t128 != a2) = true := c9
              (try (have c9b1 : decide (t128 = a2) = false := by simpa using c9))
              (try (have c9b2 : (t128 == a2) = false := by simpa using c9))
              (try (have c9b3 : ¬ (t128 = a2) := by simpa using c9))
              clear c9
              obtain rfl := Option.some.inj H
              have p7 : 0 ≤ (x7_1 : Int) := of_decide_eq_true (by first | (with_reducible assumption) | assumption)
              have q7 : x7_1 < (a0.size : Int) := of_decide_eq_true (by first | (with_reducible assumption) | assumption)
              have hx7 := bt_at a0 x7_1
              replace p7 := eq_true p7
              replace q7 := eq_true q7
              go_wp2_with (first | ((with_reducible refine gate_callee (f := 61) rfl ?_); refine goesL_ (some 19) rfl rfl Try.func61 (by kernel_rfl) rfl #[.string a1, .int .u8 (bt a0 x7_1)] rfl (by (try simp only [List.map_toArray, List.map_cons, List.map_nil]); first | done | rfl | (simp only [List.length_drop, List.length_take]; rfl) | (simp only [Int.toNat_natCast, ByteArray.extract_zero_size]; rfl)) ?_; (with_reducible refine (spec_hasByte.calls k1 a1 (bt a0 x7_1) t128 _ A8.out).mono ?_); rintro e w' ⟨rfl, ⟨nd, rfl⟩⟩; refine ⟨_, rfl, ?_⟩))
              go_ret
              exact ⟨by first | rfl | (simp; done) | (simp [*]; done), by repeat (first | exact Drawn0.refl _ | apply Drawn0.step)⟩
            · rw [if_neg c9] at H
              have c9b0 : (t128 != a2) = false := by simpa using c9
              (try (have c9b1 : decide (t128 = a2) = true := by simpa using c9))
              (try (have c9b2 : (t128 == a2) = true := by simpa using c9))
              clear c9
              have H' := Aside0.mk H
              clear H
              have p7 : 0 ≤ (x7_1 : Int) := of_decide_eq_true (by first | (with_reducible assumption) | assumption)
              have q7 : x7_1 < (a0.size : Int) := of_decide_eq_true (by first | (with_reducible assumption) | assumption)
              have hx7 := bt_at a0 x7_1
              replace p7 := eq_true p7
              replace q7 := eq_true q7
              go_wp2_with (first | ((with_reducible refine gate_callee (f := 61) rfl ?_); refine goesL_ (some 19) rfl rfl Try.func61 (by kernel_rfl) rfl #[.string a1, .int .u8 (bt a0 x7_1)] rfl (by (try simp only [List.map_toArray, List.map_cons, List.map_nil]); first | done | rfl | (simp only [List.length_drop, List.length_take]; rfl) | (simp only [Int.toNat_natCast, ByteArray.extract_zero_size]; rfl)) ?_; (with_reducible refine (spec_hasByte.calls k1 a1 (bt a0 x7_1) t128 _ A8.out).mono ?_); rintro e w' ⟨rfl, ⟨nd, rfl⟩⟩; refine ⟨_, rfl, ?_⟩))
              go_roundg k1
              case measure => have := HK1.out; omega
              case rel => exact ⟨(wrap64 (x7_1 - 1)), (by first | rfl | (simp; done) | (simp [*]; done)), H', ⟨by have := HK1.out; omega⟩, by repeat (first | exact Drawn0.refl _ | apply Drawn0.step)⟩
          · rw [if_neg c6] at H
            exact absurd H (by simp)
        · rw [if_neg c5] at H
          exact absurd H (by simp)
      · rw [if_neg c4] at H
        have c4b0 : decide (0 ≤ x7_1) = false := decide_eq_false c4
        clear c4
        obtain rfl := Option.some.inj H
        go_wp2
        go_ret
        exact ⟨by first | rfl | (simp; done) | (simp [*]; done), by repeat (first | exact Drawn0.refl _ | apply Drawn0.step)⟩

/-! ### spec_LineBefore: function 36 -/
def spec_LineBefore.f (k : Nat) (a0_0 : ByteArray) (a0_1 : Int) : Option (ByteArray) := (spec_Before.f a0_0 a0_1).bind fun t130 => ((spec_last.f k t130 (⟨#[10]⟩ : ByteArray) false).bind fun t131 => (if 0 ≤ (wrap64 (t131 + 1)) then (if (wrap64 (t131 + 1)) ≤ (t130.size : Int) then (some (t130.extract ((wrap64 (t131 + 1)) : Int).toNat t130.size)) else (none)) else (none)))
theorem spec_LineBefore.mono : ∀ a0 a1 k, LeO (spec_LineBefore.f k a0 a1) (spec_LineBefore.f (k + 1) a0 a1) := by
  intro a0 a1 k
  unfold spec_LineBefore.f
  repeat' first
      | (with_reducible exact spec_last.mono _ _ _ _)
      | (with_reducible exact LeO.refl _)
      | (with_reducible exact LeO.none _)
      | (with_reducible refine LeO.ite ?_ ?_)
      | (with_reducible refine LeO.bind ?_ (fun _ => ?_))
      | exact spec_last.mono _ _ _ _
      | exact LeO.none _
      | refine LeO.ite ?_ ?_
      | refine LeO.bind ?_ (fun _ => ?_)
set_option maxHeartbeats 8000000 in
set_option maxRecDepth 100000 in
theorem spec_LineBefore.calls (k : Nat) (a0_0 : ByteArray) (a0_1 : Int) (r : ByteArray) (w : World) (h : spec_LineBefore.f k a0_0 a0_1 = some r) :
    Calls Try.prog 36 #[.agg #[.string a0_0, .int .i64 a0_1]] w fun e w' => e = .returned (.string r) ∧ Below w.heap.size w w' := by
  have hu33 := Try.underlying33
  have HB := Aside0.mk (Below.refl w.heap.size w)
  have H : ((spec_Before.f a0_0 a0_1).bind fun t130 => ((spec_last.f k t130 (⟨#[10]⟩ : ByteArray) false).bind fun t131 => (if 0 ≤ (wrap64 (t131 + 1)) then (if (wrap64 (t131 + 1)) ≤ (t130.size : Int) then (some (t130.extract ((wrap64 (t131 + 1)) : Int).toNat t130.size)) else (none)) else (none)))) = some r := h
  clear h
  replace H := Option.bind_eq_some_iff.mp H
  obtain ⟨t130, A20, H⟩ := H
  replace H : ((spec_last.f k t130 (⟨#[10]⟩ : ByteArray) false).bind fun t131 => (if 0 ≤ (wrap64 (t131 + 1)) then (if (wrap64 (t131 + 1)) ≤ (t130.size : Int) then (some (t130.extract ((wrap64 (t131 + 1)) : Int).toNat t130.size)) else (none)) else (none))) = some r := H
  have A2 := Aside0.mk A20
  clear A20
  replace H := Option.bind_eq_some_iff.mp H
  obtain ⟨t131, A30, H⟩ := H
  replace H : (if 0 ≤ (wrap64 (t131 + 1)) then (if (wrap64 (t131 + 1)) ≤ (t130.size : Int) then (some (t130.extract ((wrap64 (t131 + 1)) : Int).toNat t130.size)) else (none)) else (none)) = some r := H
  have A3 := Aside0.mk A30
  clear A30
  obtain ⟨ji4, hji4⟩ : ∃ j_ : Int, (wrap64 (t131 + 1)) = j_ := ⟨_, rfl⟩
  replace H : (if 0 ≤ (ji4) then (if (ji4) ≤ (t130.size : Int) then (some (t130.extract ((ji4) : Int).toNat t130.size)) else (none)) else (none)) = some r := by first | (rw [hji4] at H; exact H) | (simp only [hji4] at H ⊢; exact H)
  (try rw [hji4] at A2)
  (try rw [hji4] at A3)
  have hji4w : (IntKind.i64.wrap (t131 + 1)) = ji4 := (i64_w _).trans hji4
  by_cases c5 : 0 ≤ (ji4)
  · rw [if_pos c5] at H
    have c5b0 := eq_true c5
    have c5b1 : decide (0 ≤ (ji4)) = true := decide_eq_true c5
    clear c5
    by_cases c6 : (ji4) ≤ (t130.size : Int)
    · rw [if_pos c6] at H
      have c6b0 := eq_true c6
      have c6b1 : decide ((ji4) ≤ (t130.size : Int)) = true := decide_eq_true c6
      clear c6
      obtain rfl := Option.some.inj H
      go_enter Try.func36, Try.ntmps36
      go_wp2_with (first | ((with_reducible refine gate_dst (N := 1) rfl ?_); refine box_event ?hg (N := 1) ?hd (cs := #[.string a0_0, .int .i64 a0_1]) (t := 33) ?hr ?_; (case hd => rfl); (case hg => rfl); (case hr => first | (go_simp; done) | (go_simp; rfl)); intro gb129 hg w7 hbox hb; have n0_ := Aside0.mk (below_step (by repeat (first | (with_reducible first | exact HB.out | apply below_alloc | apply pw_below_drewN | apply below_drew1) | exact HB.out)) hb); have n1_ := Aside0.mk (hbox); have n2_ := Aside0.mk ((by rw [hg]; exact (below_size (by repeat (first | (with_reducible first | exact HB.out | apply below_alloc | apply pw_below_drewN | apply below_drew1) | exact HB.out))) : w.heap.size ≤ gb129)); have n3_ := Aside0.mk ((by rw [hg]; exact (below_size (by repeat (first | (with_reducible first | exact HB.out | apply below_alloc | apply pw_below_drewN | apply below_drew1) | exact HB.out))) : w.heap.size ≤ gb129)); clear HB; have HB := n0_; have BK129 := n1_; have GW129 := n2_; have GE129 := n3_; clear n0_ n1_ n2_ n3_; clear hb hbox hg; have hcz8_0 : w7.cell? ⟨gb129, 0, none⟩ = some (.string a0_0) := (blk_cell BK129.out 0).trans rfl; have hcz8_1 : w7.cell? ⟨gb129, 1, none⟩ = some (.int .i64 a0_1) := (blk_cell BK129.out 1).trans rfl; have hfz8_0 := blk_frozen BK129.out 0; have hfz8_1 := blk_frozen BK129.out 1) | ((with_reducible refine gate_callee (f := 34) rfl ?_); refine goesL_ (some 5) rfl rfl Try.func34 (by kernel_rfl) rfl #[.agg #[.string a0_0, .int .i64 a0_1]] rfl (by (try simp only [List.map_toArray, List.map_cons, List.map_nil]); first | done | rfl | (simp only [List.length_drop, List.length_take]; rfl) | (simp only [Int.toNat_natCast, ByteArray.extract_zero_size]; rfl)) ?_; (with_reducible refine (spec_Before.calls a0_0 a0_1 t130 _ A2.out).mono ?_); rintro e w9 ⟨rfl, hb⟩; refine ⟨_, rfl, ?_⟩; have n0_ := Aside0.mk (blk_below (g := gb129) (o := .cells #[.string a0_0, .int .i64 a0_1] 33 (0, 0)) (by (with_reducible repeat (first | refine blk_drewN ?_ _ | refine blk_drew ?_ | refine blk_alloc ?_ _)); exact BK129.out) hb); have n1_ := Aside0.mk (below_step (by repeat (first | (with_reducible first | exact HB.out | apply below_alloc | apply pw_below_drewN | apply below_drew1 | refine below_set ?_ GE129.out) | exact HB.out)) hb); clear BK129; clear HB; have BK129 := n0_; have HB := n1_; clear n0_ n1_; (try clear hb); (try clear hb2); (try clear hk); (try clear hi)) | ((with_reducible refine gate_callee (f := 49) rfl ?_); refine goesL_ (some 8) rfl rfl Try.func49 (by kernel_rfl) rfl #[.string t130, .string (⟨#[10]⟩ : ByteArray), .bool false] rfl (by (try simp only [List.map_toArray, List.map_cons, List.map_nil]); first | done | rfl | (simp only [List.length_drop, List.length_take]; rfl) | (simp only [Int.toNat_natCast, ByteArray.extract_zero_size]; rfl)) ?_; (with_reducible refine (spec_last.calls k t130 (⟨#[10]⟩ : ByteArray) false t131 _ A3.out).mono ?_); rintro e w' ⟨rfl, ⟨nd, rfl⟩⟩; refine ⟨_, rfl, ?_⟩))
      go_ret
      exact ⟨by first | rfl | (simp [errW_none, errW_some] <;> rfl) | (simp only [← hji4]; first | rfl | (simp [errW_none, errW_some] <;> rfl)) | (simp [*, errW_none, errW_some] <;> rfl), by repeat (first | (with_reducible first | exact HB.out | apply below_alloc | apply pw_below_drewN | apply below_drew1 | refine below_set ?_ GE129.out) | exact HB.out)⟩
    · rw [if_neg c6] at H
      exact absurd H (by simp)
  · rw [if_neg c5] at H
    exact absurd H (by simp)

/-! ### spec_Column: function 15 -/
def spec_Column.f (k : Nat) (a0_0 : ByteArray) (a0_1 : Int) : Option (Int) := (spec_LineBefore.f k a0_0 a0_1).bind fun t133 => ((spec_count.f t133).bind fun t134 => (some t134))
theorem spec_Column.mono : ∀ a0 a1 k, LeO (spec_Column.f k a0 a1) (spec_Column.f (k + 1) a0 a1) := by
  intro a0 a1 k
  unfold spec_Column.f
  repeat' first
      | (with_reducible exact spec_LineBefore.mono _ _ _)
      | (with_reducible exact LeO.refl _)
      | (with_reducible exact LeO.none _)
      | (with_reducible refine LeO.ite ?_ ?_)
      | (with_reducible refine LeO.bind ?_ (fun _ => ?_))
      | exact spec_LineBefore.mono _ _ _
      | exact LeO.none _
      | refine LeO.ite ?_ ?_
      | refine LeO.bind ?_ (fun _ => ?_)
set_option maxHeartbeats 8000000 in
set_option maxRecDepth 100000 in
theorem spec_Column.calls (k : Nat) (a0_0 : ByteArray) (a0_1 : Int) (r : Int) (w : World) (h : spec_Column.f k a0_0 a0_1 = some r) :
    Calls Try.prog 15 #[.agg #[.string a0_0, .int .i64 a0_1]] w fun e w' => e = .returned (.int .i64 r) ∧ Below w.heap.size w w' := by
  have hu33 := Try.underlying33
  have HB := Aside0.mk (Below.refl w.heap.size w)
  have H : ((spec_LineBefore.f k a0_0 a0_1).bind fun t133 => ((spec_count.f t133).bind fun t134 => (some t134))) = some r := h
  clear h
  replace H := Option.bind_eq_some_iff.mp H
  obtain ⟨t133, A20, H⟩ := H
  replace H : ((spec_count.f t133).bind fun t134 => (some t134)) = some r := H
  have A2 := Aside0.mk A20
  clear A20
  replace H := Option.bind_eq_some_iff.mp H
  obtain ⟨t134, A30, H⟩ := H
  replace H : (some t134) = some r := H
  have A3 := Aside0.mk A30
  clear A30
  obtain rfl := Option.some.inj H
  go_enter Try.func15, Try.ntmps15
  go_wp2_with (first | ((with_reducible refine gate_dst (N := 1) rfl ?_); refine box_event ?hg (N := 1) ?hd (cs := #[.string a0_0, .int .i64 a0_1]) (t := 33) ?hr ?_; (case hd => rfl); (case hg => rfl); (case hr => first | (go_simp; done) | (go_simp; rfl)); intro gb132 hg w4 hbox hb; have n0_ := Aside0.mk (below_step (by repeat (first | (with_reducible first | exact HB.out | apply below_alloc | apply pw_below_drewN | apply below_drew1) | exact HB.out)) hb); have n1_ := Aside0.mk (hbox); have n2_ := Aside0.mk ((by rw [hg]; exact (below_size (by repeat (first | (with_reducible first | exact HB.out | apply below_alloc | apply pw_below_drewN | apply below_drew1) | exact HB.out))) : w.heap.size ≤ gb132)); have n3_ := Aside0.mk ((by rw [hg]; exact (below_size (by repeat (first | (with_reducible first | exact HB.out | apply below_alloc | apply pw_below_drewN | apply below_drew1) | exact HB.out))) : w.heap.size ≤ gb132)); clear HB; have HB := n0_; have BK132 := n1_; have GW132 := n2_; have GE132 := n3_; clear n0_ n1_ n2_ n3_; clear hb hbox hg; have hcz5_0 : w4.cell? ⟨gb132, 0, none⟩ = some (.string a0_0) := (blk_cell BK132.out 0).trans rfl; have hcz5_1 : w4.cell? ⟨gb132, 1, none⟩ = some (.int .i64 a0_1) := (blk_cell BK132.out 1).trans rfl; have hfz5_0 := blk_frozen BK132.out 0; have hfz5_1 := blk_frozen BK132.out 1) | ((with_reducible refine gate_callee (f := 36) rfl ?_); refine goesL_ (some 4) rfl rfl Try.func36 (by kernel_rfl) rfl #[.agg #[.string a0_0, .int .i64 a0_1]] rfl (by (try simp only [List.map_toArray, List.map_cons, List.map_nil]); first | done | rfl | (simp only [List.length_drop, List.length_take]; rfl) | (simp only [Int.toNat_natCast, ByteArray.extract_zero_size]; rfl)) ?_; (with_reducible refine (spec_LineBefore.calls k a0_0 a0_1 t133 _ A2.out).mono ?_); rintro e w6 ⟨rfl, hb⟩; refine ⟨_, rfl, ?_⟩; have n0_ := Aside0.mk (blk_below (g := gb132) (o := .cells #[.string a0_0, .int .i64 a0_1] 33 (0, 0)) (by (with_reducible repeat (first | refine blk_drewN ?_ _ | refine blk_drew ?_ | refine blk_alloc ?_ _)); exact BK132.out) hb); have n1_ := Aside0.mk (below_step (by repeat (first | (with_reducible first | exact HB.out | apply below_alloc | apply pw_below_drewN | apply below_drew1 | refine below_set ?_ GE132.out) | exact HB.out)) hb); clear BK132; clear HB; have BK132 := n0_; have HB := n1_; clear n0_ n1_; (try clear hb); (try clear hb2); (try clear hk); (try clear hi)) | ((with_reducible refine gate_callee (f := 35) rfl ?_); refine goesL_ (some 5) rfl rfl Try.func35 (by kernel_rfl) rfl #[.string t133] rfl (by (try simp only [List.map_toArray, List.map_cons, List.map_nil]); first | done | rfl | (simp only [List.length_drop, List.length_take]; rfl) | (simp only [Int.toNat_natCast, ByteArray.extract_zero_size]; rfl)) ?_; (with_reducible refine (spec_count.calls t133 t134 _ A3.out).mono ?_); rintro e w7 ⟨rfl, hb⟩; refine ⟨_, rfl, ?_⟩; have n0_ := Aside0.mk (blk_below (g := gb132) (o := .cells #[.string a0_0, .int .i64 a0_1] 33 (0, 0)) (by (with_reducible repeat (first | refine blk_drewN ?_ _ | refine blk_drew ?_ | refine blk_alloc ?_ _)); exact BK132.out) hb); have n1_ := Aside0.mk (below_step (by repeat (first | (with_reducible first | exact HB.out | apply below_alloc | apply pw_below_drewN | apply below_drew1 | refine below_set ?_ GE132.out) | exact HB.out)) hb); clear BK132; clear HB; have BK132 := n0_; have HB := n1_; clear n0_ n1_; (try clear hb); (try clear hb2); (try clear hk); (try clear hi)))
  go_ret
  exact ⟨by first | rfl | (simp [errW_none, errW_some] <;> rfl) | (simp [*, errW_none, errW_some] <;> rfl), by repeat (first | (with_reducible first | exact HB.out | apply below_alloc | apply pw_below_drewN | apply below_drew1 | refine below_set ?_ GE132.out) | exact HB.out)⟩

/-! ### laws_FnRowColumn: function 5 -/
def laws_FnRowColumn.f (k : Nat) (a0_0 : ByteArray) (a0_1 : Int) : Option (Bool) := (laws_zzFits2.f a0_0 a0_1).bind fun t136 => (if t136 = true then ((spec_DocRight.f k a0_0 a0_1).bind fun t137 => (if t137 = true then ((impl_RowColumn.f k a0_0 a0_1).bind fun bt138 => ((impl_Index.f k a0_0 bt138.1 bt138.2.1).bind fun bt141 => (if bt138.2.2 = true then (if bt141.2 = true then ((spec_Row.f k a0_0 a0_1).bind fun t143 => (if bt138.1 = t143 then ((spec_Column.f k a0_0 a0_1).bind fun t144 => (if bt138.2.1 = t144 then (some (bt141.1 == a0_1)) else (some false))) else (some false))) else (some false)) else (some false)))) else (some true))) else (some true))
theorem laws_FnRowColumn.mono : ∀ a0 a1 k, LeO (laws_FnRowColumn.f k a0 a1) (laws_FnRowColumn.f (k + 1) a0 a1) := by
  intro a0 a1 k
  unfold laws_FnRowColumn.f
  repeat' first
      | (with_reducible exact impl_Index.mono _ _ _ _)
      | (with_reducible exact impl_RowColumn.mono _ _ _)
      | (with_reducible exact spec_Column.mono _ _ _)
      | (with_reducible exact spec_DocRight.mono _ _ _)
      | (with_reducible exact spec_Row.mono _ _ _)
      | (with_reducible exact LeO.refl _)
      | (with_reducible exact LeO.none _)
      | (with_reducible refine LeO.ite ?_ ?_)
      | (with_reducible refine LeO.bind ?_ (fun _ => ?_))
      | exact impl_Index.mono _ _ _ _
      | exact impl_RowColumn.mono _ _ _
      | exact spec_Column.mono _ _ _
      | exact spec_DocRight.mono _ _ _
      | exact spec_Row.mono _ _ _
      | exact LeO.none _
      | refine LeO.ite ?_ ?_
      | refine LeO.bind ?_ (fun _ => ?_)
set_option maxHeartbeats 8000000 in
set_option maxRecDepth 100000 in
theorem laws_FnRowColumn.calls (k : Nat) (a0_0 : ByteArray) (a0_1 : Int) (r : Bool) (w : World) (h : laws_FnRowColumn.f k a0_0 a0_1 = some r) :
    Calls Try.prog 5 #[.agg #[.string a0_0, .int .i64 a0_1]] w fun e w' => e = .returned (.bool r) ∧ Below w.heap.size w w' := by
  have hu33 := Try.underlying33
  have HB := Aside0.mk (Below.refl w.heap.size w)
  have H : ((laws_zzFits2.f a0_0 a0_1).bind fun t136 => (if t136 = true then ((spec_DocRight.f k a0_0 a0_1).bind fun t137 => (if t137 = true then ((impl_RowColumn.f k a0_0 a0_1).bind fun bt138 => ((impl_Index.f k a0_0 bt138.1 bt138.2.1).bind fun bt141 => (if bt138.2.2 = true then (if bt141.2 = true then ((spec_Row.f k a0_0 a0_1).bind fun t143 => (if bt138.1 = t143 then ((spec_Column.f k a0_0 a0_1).bind fun t144 => (if bt138.2.1 = t144 then (some (bt141.1 == a0_1)) else (some false))) else (some false))) else (some false)) else (some false)))) else (some true))) else (some true))) = some r := h
  clear h
  replace H := Option.bind_eq_some_iff.mp H
  obtain ⟨t136, A20, H⟩ := H
  replace H : (if t136 = true then ((spec_DocRight.f k a0_0 a0_1).bind fun t137 => (if t137 = true then ((impl_RowColumn.f k a0_0 a0_1).bind fun bt138 => ((impl_Index.f k a0_0 bt138.1 bt138.2.1).bind fun bt141 => (if bt138.2.2 = true then (if bt141.2 = true then ((spec_Row.f k a0_0 a0_1).bind fun t143 => (if bt138.1 = t143 then ((spec_Column.f k a0_0 a0_1).bind fun t144 => (if bt138.2.1 = t144 then (some (bt141.1 == a0_1)) else (some false))) else (some false))) else (some false)) else (some false)))) else (some true))) else (some true)) = some r := H
  have A2 := Aside0.mk A20
  clear A20
  by_cases c3 : t136 = true
  · subst c3
    have H1 : ((spec_DocRight.f k a0_0 a0_1).bind fun t137 => (if t137 = true then ((impl_RowColumn.f k a0_0 a0_1).bind fun bt138 => ((impl_Index.f k a0_0 bt138.1 bt138.2.1).bind fun bt141 => (if bt138.2.2 = true then (if bt141.2 = true then ((spec_Row.f k a0_0 a0_1).bind fun t143 => (if bt138.1 = t143 then ((spec_Column.f k a0_0 a0_1).bind fun t144 => (if bt138.2.1 = t144 then (some (bt141.1 == a0_1)) else (some false))) else (some false))) else (some false)) else (some false)))) else (some true))) = some r := by rw [if_pos rfl] at H; exact H
    clear H
    have H := H1
    clear H1
    replace H := Option.bind_eq_some_iff.mp H
    obtain ⟨t137, A40, H⟩ := H
    replace H : (if t137 = true then ((impl_RowColumn.f k a0_0 a0_1).bind fun bt138 => ((impl_Index.f k a0_0 bt138.1 bt138.2.1).bind fun bt141 => (if bt138.2.2 = true then (if bt141.2 = true then ((spec_Row.f k a0_0 a0_1).bind fun t143 => (if bt138.1 = t143 then ((spec_Column.f k a0_0 a0_1).bind fun t144 => (if bt138.2.1 = t144 then (some (bt141.1 == a0_1)) else (some false))) else (some false))) else (some false)) else (some false)))) else (some true)) = some r := H
    have A4 := Aside0.mk A40
    clear A40
    by_cases c5 : t137 = true
    · subst c5
      have H1 : ((impl_RowColumn.f k a0_0 a0_1).bind fun bt138 => ((impl_Index.f k a0_0 bt138.1 bt138.2.1).bind fun bt141 => (if bt138.2.2 = true then (if bt141.2 = true then ((spec_Row.f k a0_0 a0_1).bind fun t143 => (if bt138.1 = t143 then ((spec_Column.f k a0_0 a0_1).bind fun t144 => (if bt138.2.1 = t144 then (some (bt141.1 == a0_1)) else (some false))) else (some false))) else (some false)) else (some false)))) = some r := by rw [if_pos rfl] at H; exact H
      clear H
      have H := H1
      clear H1
      replace H := Option.bind_eq_some_iff.mp H
      obtain ⟨⟨t138, t139, t140⟩, A60, H⟩ := H
      replace H : ((impl_Index.f k a0_0 t138 t139).bind fun bt141 => (if t140 = true then (if bt141.2 = true then ((spec_Row.f k a0_0 a0_1).bind fun t143 => (if t138 = t143 then ((spec_Column.f k a0_0 a0_1).bind fun t144 => (if t139 = t144 then (some (bt141.1 == a0_1)) else (some false))) else (some false))) else (some false)) else (some false))) = some r := H
      have A6 := Aside0.mk A60
      clear A60
      replace H := Option.bind_eq_some_iff.mp H
      obtain ⟨⟨t141, t142⟩, A70, H⟩ := H
      replace H : (if t140 = true then (if t142 = true then ((spec_Row.f k a0_0 a0_1).bind fun t143 => (if t138 = t143 then ((spec_Column.f k a0_0 a0_1).bind fun t144 => (if t139 = t144 then (some (t141 == a0_1)) else (some false))) else (some false))) else (some false)) else (some false)) = some r := H
      have A7 := Aside0.mk A70
      clear A70
      by_cases c8 : t140 = true
      · subst c8
        have H1 : (if t142 = true then ((spec_Row.f k a0_0 a0_1).bind fun t143 => (if t138 = t143 then ((spec_Column.f k a0_0 a0_1).bind fun t144 => (if t139 = t144 then (some (t141 == a0_1)) else (some false))) else (some false))) else (some false)) = some r := by rw [if_pos rfl] at H; exact H
        clear H
        have H := H1
        clear H1
        by_cases c9 : t142 = true
        · subst c9
          have H1 : ((spec_Row.f k a0_0 a0_1).bind fun t143 => (if t138 = t143 then ((spec_Column.f k a0_0 a0_1).bind fun t144 => (if t139 = t144 then (some (t141 == a0_1)) else (some false))) else (some false))) = some r := by rw [if_pos rfl] at H; exact H
          clear H
          have H := H1
          clear H1
          replace H := Option.bind_eq_some_iff.mp H
          obtain ⟨t143, A100, H⟩ := H
          replace H : (if t138 = t143 then ((spec_Column.f k a0_0 a0_1).bind fun t144 => (if t139 = t144 then (some (t141 == a0_1)) else (some false))) else (some false)) = some r := H
          have A10 := Aside0.mk A100
          clear A100
          by_cases c11 : t138 = t143
          · rw [if_pos c11] at H
            have c11b0 : (t138 == t143) = true := beq_iff_eq.mpr c11
            have c11b1 : (t138 != t143) = false := bne_eq_false_iff_eq.mpr c11
            clear c11
            replace H := Option.bind_eq_some_iff.mp H
            obtain ⟨t144, A120, H⟩ := H
            replace H : (if t139 = t144 then (some (t141 == a0_1)) else (some false)) = some r := H
            have A12 := Aside0.mk A120
            clear A120
            by_cases c13 : t139 = t144
            · rw [if_pos c13] at H
              have c13b0 : (t139 == t144) = true := beq_iff_eq.mpr c13
              have c13b1 : (t139 != t144) = false := bne_eq_false_iff_eq.mpr c13
              clear c13
              obtain rfl := Option.some.inj H
              go_enter Try.func5, Try.ntmps5
              go_wp2_with (first | ((with_reducible refine gate_dst (N := 1) rfl ?_); refine box_event ?hg (N := 1) ?hd (cs := #[.string a0_0, .int .i64 a0_1]) (t := 33) ?hr ?_; (case hd => rfl); (case hg => rfl); (case hr => first | (go_simp; done) | (go_simp; rfl)); intro gb135 hg w14 hbox hb; have n0_ := Aside0.mk (below_step (by repeat (first | (with_reducible first | exact HB.out | apply below_alloc | apply pw_below_drewN | apply below_drew1) | exact HB.out)) hb); have n1_ := Aside0.mk (hbox); have n2_ := Aside0.mk ((by rw [hg]; exact (below_size (by repeat (first | (with_reducible first | exact HB.out | apply below_alloc | apply pw_below_drewN | apply below_drew1) | exact HB.out))) : w.heap.size ≤ gb135)); have n3_ := Aside0.mk ((by rw [hg]; exact (below_size (by repeat (first | (with_reducible first | exact HB.out | apply below_alloc | apply pw_below_drewN | apply below_drew1) | exact HB.out))) : w.heap.size ≤ gb135)); clear HB; have HB := n0_; have BK135 := n1_; have GW135 := n2_; have GE135 := n3_; clear n0_ n1_ n2_ n3_; clear hb hbox hg; have hcz15_0 : w14.cell? ⟨gb135, 0, none⟩ = some (.string a0_0) := (blk_cell BK135.out 0).trans rfl; have hcz15_1 : w14.cell? ⟨gb135, 1, none⟩ = some (.int .i64 a0_1) := (blk_cell BK135.out 1).trans rfl; have hfz15_0 := blk_frozen BK135.out 0; have hfz15_1 := blk_frozen BK135.out 1) | ((with_reducible refine gate_callee (f := 10) rfl ?_); refine goesL_ (some 9) rfl rfl Try.func10 (by kernel_rfl) rfl #[.agg #[.string a0_0, .int .i64 a0_1]] rfl (by (try simp only [List.map_toArray, List.map_cons, List.map_nil]); first | done | rfl | (simp only [List.length_drop, List.length_take]; rfl) | (simp only [Int.toNat_natCast, ByteArray.extract_zero_size]; rfl)) ?_; (with_reducible refine (laws_zzFits2.calls a0_0 a0_1 true _ A2.out).mono ?_); rintro e w16 ⟨rfl, hb⟩; refine ⟨_, rfl, ?_⟩; have n0_ := Aside0.mk (blk_below (g := gb135) (o := .cells #[.string a0_0, .int .i64 a0_1] 33 (0, 0)) (by (with_reducible repeat (first | refine blk_drewN ?_ _ | refine blk_drew ?_ | refine blk_alloc ?_ _)); exact BK135.out) hb); have n1_ := Aside0.mk (below_step (by repeat (first | (with_reducible first | exact HB.out | apply below_alloc | apply pw_below_drewN | apply below_drew1 | refine below_set ?_ GE135.out) | exact HB.out)) hb); clear BK135; clear HB; have BK135 := n0_; have HB := n1_; clear n0_ n1_; (try clear hb); (try clear hb2); (try clear hk); (try clear hi); have hcz17_0 : w16.cell? ⟨gb135, 0, none⟩ = some (.string a0_0) := (blk_cell BK135.out 0).trans rfl; have hcz17_1 : w16.cell? ⟨gb135, 1, none⟩ = some (.int .i64 a0_1) := (blk_cell BK135.out 1).trans rfl; have hfz17_0 := blk_frozen BK135.out 0; have hfz17_1 := blk_frozen BK135.out 1) | ((with_reducible refine gate_callee (f := 11) rfl ?_); refine goesL_ (some 12) rfl rfl Try.func11 (by kernel_rfl) rfl #[.agg #[.string a0_0, .int .i64 a0_1]] rfl (by (try simp only [List.map_toArray, List.map_cons, List.map_nil]); first | done | rfl | (simp only [List.length_drop, List.length_take]; rfl) | (simp only [Int.toNat_natCast, ByteArray.extract_zero_size]; rfl)) ?_; (with_reducible refine (spec_DocRight.calls k a0_0 a0_1 true _ A4.out).mono ?_); rintro e w18 ⟨rfl, hb⟩; refine ⟨_, rfl, ?_⟩; have n0_ := Aside0.mk (blk_below (g := gb135) (o := .cells #[.string a0_0, .int .i64 a0_1] 33 (0, 0)) (by (with_reducible repeat (first | refine blk_drewN ?_ _ | refine blk_drew ?_ | refine blk_alloc ?_ _)); exact BK135.out) hb); have n1_ := Aside0.mk (below_step (by repeat (first | (with_reducible first | exact HB.out | apply below_alloc | apply pw_below_drewN | apply below_drew1 | refine below_set ?_ GE135.out) | exact HB.out)) hb); clear BK135; clear HB; have BK135 := n0_; have HB := n1_; clear n0_ n1_; (try clear hb); (try clear hb2); (try clear hk); (try clear hi); have hcz19_0 : w18.cell? ⟨gb135, 0, none⟩ = some (.string a0_0) := (blk_cell BK135.out 0).trans rfl; have hcz19_1 : w18.cell? ⟨gb135, 1, none⟩ = some (.int .i64 a0_1) := (blk_cell BK135.out 1).trans rfl; have hfz19_0 := blk_frozen BK135.out 0; have hfz19_1 := blk_frozen BK135.out 1) | ((with_reducible refine gate_callee (f := 12) rfl ?_); refine goesL_ (some 19) rfl rfl Try.func12 (by kernel_rfl) rfl #[.string a0_0, .int .i64 a0_1] rfl (by (try simp only [List.map_toArray, List.map_cons, List.map_nil]); first | done | rfl | (simp only [List.length_drop, List.length_take]; rfl) | (simp only [Int.toNat_natCast, ByteArray.extract_zero_size]; rfl)) ?_; (with_reducible refine (impl_RowColumn.calls k a0_0 a0_1 t138 t139 true _ A6.out).mono ?_); rintro e w20 ⟨rfl, hb⟩; refine ⟨_, rfl, ?_⟩; have n0_ := Aside0.mk (blk_below (g := gb135) (o := .cells #[.string a0_0, .int .i64 a0_1] 33 (0, 0)) (by (with_reducible repeat (first | refine blk_drewN ?_ _ | refine blk_drew ?_ | refine blk_alloc ?_ _)); exact BK135.out) hb); have n1_ := Aside0.mk (below_step (by repeat (first | (with_reducible first | exact HB.out | apply below_alloc | apply pw_below_drewN | apply below_drew1 | refine below_set ?_ GE135.out) | exact HB.out)) hb); clear BK135; clear HB; have BK135 := n0_; have HB := n1_; clear n0_ n1_; (try clear hb); (try clear hb2); (try clear hk); (try clear hi); have hcz21_0 : w20.cell? ⟨gb135, 0, none⟩ = some (.string a0_0) := (blk_cell BK135.out 0).trans rfl; have hcz21_1 : w20.cell? ⟨gb135, 1, none⟩ = some (.int .i64 a0_1) := (blk_cell BK135.out 1).trans rfl; have hfz21_0 := blk_frozen BK135.out 0; have hfz21_1 := blk_frozen BK135.out 1) | ((with_reducible refine gate_callee (f := 13) rfl ?_); refine goesL_ (some 28) rfl rfl Try.func13 (by kernel_rfl) rfl #[.string a0_0, .int .i64 t138, .int .i64 t139] rfl (by (try simp only [List.map_toArray, List.map_cons, List.map_nil]); first | done | rfl | (simp only [List.length_drop, List.length_take]; rfl) | (simp only [Int.toNat_natCast, ByteArray.extract_zero_size]; rfl)) ?_; (with_reducible refine (impl_Index.calls k a0_0 t138 t139 t141 true _ A7.out).mono ?_); rintro e w22 ⟨rfl, hb⟩; refine ⟨_, rfl, ?_⟩; have n0_ := Aside0.mk (blk_below (g := gb135) (o := .cells #[.string a0_0, .int .i64 a0_1] 33 (0, 0)) (by (with_reducible repeat (first | refine blk_drewN ?_ _ | refine blk_drew ?_ | refine blk_alloc ?_ _)); exact BK135.out) hb); have n1_ := Aside0.mk (below_step (by repeat (first | (with_reducible first | exact HB.out | apply below_alloc | apply pw_below_drewN | apply below_drew1 | refine below_set ?_ GE135.out) | exact HB.out)) hb); clear BK135; clear HB; have BK135 := n0_; have HB := n1_; clear n0_ n1_; (try clear hb); (try clear hb2); (try clear hk); (try clear hi); have hcz23_0 : w22.cell? ⟨gb135, 0, none⟩ = some (.string a0_0) := (blk_cell BK135.out 0).trans rfl; have hcz23_1 : w22.cell? ⟨gb135, 1, none⟩ = some (.int .i64 a0_1) := (blk_cell BK135.out 1).trans rfl; have hfz23_0 := blk_frozen BK135.out 0; have hfz23_1 := blk_frozen BK135.out 1) | (go_at_call 14; (with_reducible refine (spec_Row.calls k a0_0 a0_1 t143 _ A10.out).mono ?_); rintro e w24 ⟨rfl, hb⟩; have n0_ := Aside0.mk (blk_below (g := gb135) (o := .cells #[.string a0_0, .int .i64 a0_1] 33 (0, 0)) (by (with_reducible repeat (first | refine blk_drewN ?_ _ | refine blk_drew ?_ | refine blk_alloc ?_ _)); exact BK135.out) hb); have n1_ := Aside0.mk (below_step (by repeat (first | (with_reducible first | exact HB.out | apply below_alloc | apply pw_below_drewN | apply below_drew1 | refine below_set ?_ GE135.out) | exact HB.out)) hb); clear BK135; clear HB; have BK135 := n0_; have HB := n1_; clear n0_ n1_; (try clear hb); (try clear hb2); (try clear hk); (try clear hi); have hcz25_0 : w24.cell? ⟨gb135, 0, none⟩ = some (.string a0_0) := (blk_cell BK135.out 0).trans rfl; have hcz25_1 : w24.cell? ⟨gb135, 1, none⟩ = some (.int .i64 a0_1) := (blk_cell BK135.out 1).trans rfl; have hfz25_0 := blk_frozen BK135.out 0; have hfz25_1 := blk_frozen BK135.out 1) | (go_at_call 15; (with_reducible refine (spec_Column.calls k a0_0 a0_1 t144 _ A12.out).mono ?_); rintro e w26 ⟨rfl, hb⟩; have n0_ := Aside0.mk (blk_below (g := gb135) (o := .cells #[.string a0_0, .int .i64 a0_1] 33 (0, 0)) (by (with_reducible repeat (first | refine blk_drewN ?_ _ | refine blk_drew ?_ | refine blk_alloc ?_ _)); exact BK135.out) hb); have n1_ := Aside0.mk (below_step (by repeat (first | (with_reducible first | exact HB.out | apply below_alloc | apply pw_below_drewN | apply below_drew1 | refine below_set ?_ GE135.out) | exact HB.out)) hb); clear BK135; clear HB; have BK135 := n0_; have HB := n1_; clear n0_ n1_; (try clear hb); (try clear hb2); (try clear hk); (try clear hi); have hcz27_0 : w26.cell? ⟨gb135, 0, none⟩ = some (.string a0_0) := (blk_cell BK135.out 0).trans rfl; have hcz27_1 : w26.cell? ⟨gb135, 1, none⟩ = some (.int .i64 a0_1) := (blk_cell BK135.out 1).trans rfl; have hfz27_0 := blk_frozen BK135.out 0; have hfz27_1 := blk_frozen BK135.out 1))
              go_ret
              exact ⟨by first | rfl | (simp [errW_none, errW_some] <;> rfl) | (simp [*, errW_none, errW_some] <;> rfl), by repeat (first | (with_reducible first | exact HB.out | apply below_alloc | apply pw_below_drewN | apply below_drew1 | refine below_set ?_ GE135.out) | exact HB.out)⟩
            · rw [if_neg c13] at H
              have c13b0 : (t139 == t144) = false := beq_eq_false_iff_ne.mpr c13
              have c13b1 : (t139 != t144) = true := bne_iff_ne.mpr c13
              obtain rfl := Option.some.inj H
              go_enter Try.func5, Try.ntmps5
              go_wp2_with (first | ((with_reducible refine gate_dst (N := 1) rfl ?_); refine box_event ?hg (N := 1) ?hd (cs := #[.string a0_0, .int .i64 a0_1]) (t := 33) ?hr ?_; (case hd => rfl); (case hg => rfl); (case hr => first | (go_simp; done) | (go_simp; rfl)); intro gb135 hg w28 hbox hb; have n0_ := Aside0.mk (below_step (by repeat (first | (with_reducible first | exact HB.out | apply below_alloc | apply pw_below_drewN | apply below_drew1) | exact HB.out)) hb); have n1_ := Aside0.mk (hbox); have n2_ := Aside0.mk ((by rw [hg]; exact (below_size (by repeat (first | (with_reducible first | exact HB.out | apply below_alloc | apply pw_below_drewN | apply below_drew1) | exact HB.out))) : w.heap.size ≤ gb135)); have n3_ := Aside0.mk ((by rw [hg]; exact (below_size (by repeat (first | (with_reducible first | exact HB.out | apply below_alloc | apply pw_below_drewN | apply below_drew1) | exact HB.out))) : w.heap.size ≤ gb135)); clear HB; have HB := n0_; have BK135 := n1_; have GW135 := n2_; have GE135 := n3_; clear n0_ n1_ n2_ n3_; clear hb hbox hg; have hcz29_0 : w28.cell? ⟨gb135, 0, none⟩ = some (.string a0_0) := (blk_cell BK135.out 0).trans rfl; have hcz29_1 : w28.cell? ⟨gb135, 1, none⟩ = some (.int .i64 a0_1) := (blk_cell BK135.out 1).trans rfl; have hfz29_0 := blk_frozen BK135.out 0; have hfz29_1 := blk_frozen BK135.out 1) | ((with_reducible refine gate_callee (f := 10) rfl ?_); refine goesL_ (some 9) rfl rfl Try.func10 (by kernel_rfl) rfl #[.agg #[.string a0_0, .int .i64 a0_1]] rfl (by (try simp only [List.map_toArray, List.map_cons, List.map_nil]); first | done | rfl | (simp only [List.length_drop, List.length_take]; rfl) | (simp only [Int.toNat_natCast, ByteArray.extract_zero_size]; rfl)) ?_; (with_reducible refine (laws_zzFits2.calls a0_0 a0_1 true _ A2.out).mono ?_); rintro e w30 ⟨rfl, hb⟩; refine ⟨_, rfl, ?_⟩; have n0_ := Aside0.mk (blk_below (g := gb135) (o := .cells #[.string a0_0, .int .i64 a0_1] 33 (0, 0)) (by (with_reducible repeat (first | refine blk_drewN ?_ _ | refine blk_drew ?_ | refine blk_alloc ?_ _)); exact BK135.out) hb); have n1_ := Aside0.mk (below_step (by repeat (first | (with_reducible first | exact HB.out | apply below_alloc | apply pw_below_drewN | apply below_drew1 | refine below_set ?_ GE135.out) | exact HB.out)) hb); clear BK135; clear HB; have BK135 := n0_; have HB := n1_; clear n0_ n1_; (try clear hb); (try clear hb2); (try clear hk); (try clear hi); have hcz31_0 : w30.cell? ⟨gb135, 0, none⟩ = some (.string a0_0) := (blk_cell BK135.out 0).trans rfl; have hcz31_1 : w30.cell? ⟨gb135, 1, none⟩ = some (.int .i64 a0_1) := (blk_cell BK135.out 1).trans rfl; have hfz31_0 := blk_frozen BK135.out 0; have hfz31_1 := blk_frozen BK135.out 1) | ((with_reducible refine gate_callee (f := 11) rfl ?_); refine goesL_ (some 12) rfl rfl Try.func11 (by kernel_rfl) rfl #[.agg #[.string a0_0, .int .i64 a0_1]] rfl (by (try simp only [List.map_toArray, List.map_cons, List.map_nil]); first | done | rfl | (simp only [List.length_drop, List.length_take]; rfl) | (simp only [Int.toNat_natCast, ByteArray.extract_zero_size]; rfl)) ?_; (with_reducible refine (spec_DocRight.calls k a0_0 a0_1 true _ A4.out).mono ?_); rintro e w32 ⟨rfl, hb⟩; refine ⟨_, rfl, ?_⟩; have n0_ := Aside0.mk (blk_below (g := gb135) (o := .cells #[.string a0_0, .int .i64 a0_1] 33 (0, 0)) (by (with_reducible repeat (first | refine blk_drewN ?_ _ | refine blk_drew ?_ | refine blk_alloc ?_ _)); exact BK135.out) hb); have n1_ := Aside0.mk (below_step (by repeat (first | (with_reducible first | exact HB.out | apply below_alloc | apply pw_below_drewN | apply below_drew1 | refine below_set ?_ GE135.out) | exact HB.out)) hb); clear BK135; clear HB; have BK135 := n0_; have HB := n1_; clear n0_ n1_; (try clear hb); (try clear hb2); (try clear hk); (try clear hi); have hcz33_0 : w32.cell? ⟨gb135, 0, none⟩ = some (.string a0_0) := (blk_cell BK135.out 0).trans rfl; have hcz33_1 : w32.cell? ⟨gb135, 1, none⟩ = some (.int .i64 a0_1) := (blk_cell BK135.out 1).trans rfl; have hfz33_0 := blk_frozen BK135.out 0; have hfz33_1 := blk_frozen BK135.out 1) | ((with_reducible refine gate_callee (f := 12) rfl ?_); refine goesL_ (some 19) rfl rfl Try.func12 (by kernel_rfl) rfl #[.string a0_0, .int .i64 a0_1] rfl (by (try simp only [List.map_toArray, List.map_cons, List.map_nil]); first | done | rfl | (simp only [List.length_drop, List.length_take]; rfl) | (simp only [Int.toNat_natCast, ByteArray.extract_zero_size]; rfl)) ?_; (with_reducible refine (impl_RowColumn.calls k a0_0 a0_1 t138 t139 true _ A6.out).mono ?_); rintro e w34 ⟨rfl, hb⟩; refine ⟨_, rfl, ?_⟩; have n0_ := Aside0.mk (blk_below (g := gb135) (o := .cells #[.string a0_0, .int .i64 a0_1] 33 (0, 0)) (by (with_reducible repeat (first | refine blk_drewN ?_ _ | refine blk_drew ?_ | refine blk_alloc ?_ _)); exact BK135.out) hb); have n1_ := Aside0.mk (below_step (by repeat (first | (with_reducible first | exact HB.out | apply below_alloc | apply pw_below_drewN | apply below_drew1 | refine below_set ?_ GE135.out) | exact HB.out)) hb); clear BK135; clear HB; have BK135 := n0_; have HB := n1_; clear n0_ n1_; (try clear hb); (try clear hb2); (try clear hk); (try clear hi); have hcz35_0 : w34.cell? ⟨gb135, 0, none⟩ = some (.string a0_0) := (blk_cell BK135.out 0).trans rfl; have hcz35_1 : w34.cell? ⟨gb135, 1, none⟩ = some (.int .i64 a0_1) := (blk_cell BK135.out 1).trans rfl; have hfz35_0 := blk_frozen BK135.out 0; have hfz35_1 := blk_frozen BK135.out 1) | ((with_reducible refine gate_callee (f := 13) rfl ?_); refine goesL_ (some 28) rfl rfl Try.func13 (by kernel_rfl) rfl #[.string a0_0, .int .i64 t138, .int .i64 t139] rfl (by (try simp only [List.map_toArray, List.map_cons, List.map_nil]); first | done | rfl | (simp only [List.length_drop, List.length_take]; rfl) | (simp only [Int.toNat_natCast, ByteArray.extract_zero_size]; rfl)) ?_; (with_reducible refine (impl_Index.calls k a0_0 t138 t139 t141 true _ A7.out).mono ?_); rintro e w36 ⟨rfl, hb⟩; refine ⟨_, rfl, ?_⟩; have n0_ := Aside0.mk (blk_below (g := gb135) (o := .cells #[.string a0_0, .int .i64 a0_1] 33 (0, 0)) (by (with_reducible repeat (first | refine blk_drewN ?_ _ | refine blk_drew ?_ | refine blk_alloc ?_ _)); exact BK135.out) hb); have n1_ := Aside0.mk (below_step (by repeat (first | (with_reducible first | exact HB.out | apply below_alloc | apply pw_below_drewN | apply below_drew1 | refine below_set ?_ GE135.out) | exact HB.out)) hb); clear BK135; clear HB; have BK135 := n0_; have HB := n1_; clear n0_ n1_; (try clear hb); (try clear hb2); (try clear hk); (try clear hi); have hcz37_0 : w36.cell? ⟨gb135, 0, none⟩ = some (.string a0_0) := (blk_cell BK135.out 0).trans rfl; have hcz37_1 : w36.cell? ⟨gb135, 1, none⟩ = some (.int .i64 a0_1) := (blk_cell BK135.out 1).trans rfl; have hfz37_0 := blk_frozen BK135.out 0; have hfz37_1 := blk_frozen BK135.out 1) | (go_at_call 14; (with_reducible refine (spec_Row.calls k a0_0 a0_1 t143 _ A10.out).mono ?_); rintro e w38 ⟨rfl, hb⟩; have n0_ := Aside0.mk (blk_below (g := gb135) (o := .cells #[.string a0_0, .int .i64 a0_1] 33 (0, 0)) (by (with_reducible repeat (first | refine blk_drewN ?_ _ | refine blk_drew ?_ | refine blk_alloc ?_ _)); exact BK135.out) hb); have n1_ := Aside0.mk (below_step (by repeat (first | (with_reducible first | exact HB.out | apply below_alloc | apply pw_below_drewN | apply below_drew1 | refine below_set ?_ GE135.out) | exact HB.out)) hb); clear BK135; clear HB; have BK135 := n0_; have HB := n1_; clear n0_ n1_; (try clear hb); (try clear hb2); (try clear hk); (try clear hi); have hcz39_0 : w38.cell? ⟨gb135, 0, none⟩ = some (.string a0_0) := (blk_cell BK135.out 0).trans rfl; have hcz39_1 : w38.cell? ⟨gb135, 1, none⟩ = some (.int .i64 a0_1) := (blk_cell BK135.out 1).trans rfl; have hfz39_0 := blk_frozen BK135.out 0; have hfz39_1 := blk_frozen BK135.out 1) | (go_at_call 15; (with_reducible refine (spec_Column.calls k a0_0 a0_1 t144 _ A12.out).mono ?_); rintro e w40 ⟨rfl, hb⟩; have n0_ := Aside0.mk (blk_below (g := gb135) (o := .cells #[.string a0_0, .int .i64 a0_1] 33 (0, 0)) (by (with_reducible repeat (first | refine blk_drewN ?_ _ | refine blk_drew ?_ | refine blk_alloc ?_ _)); exact BK135.out) hb); have n1_ := Aside0.mk (below_step (by repeat (first | (with_reducible first | exact HB.out | apply below_alloc | apply pw_below_drewN | apply below_drew1 | refine below_set ?_ GE135.out) | exact HB.out)) hb); clear BK135; clear HB; have BK135 := n0_; have HB := n1_; clear n0_ n1_; (try clear hb); (try clear hb2); (try clear hk); (try clear hi)))
              go_ret
              exact ⟨by first | rfl | (simp [errW_none, errW_some] <;> rfl) | (simp [*, errW_none, errW_some] <;> rfl), by repeat (first | (with_reducible first | exact HB.out | apply below_alloc | apply pw_below_drewN | apply below_drew1 | refine below_set ?_ GE135.out) | exact HB.out)⟩
          · rw [if_neg c11] at H
            have c11b0 : (t138 == t143) = false := beq_eq_false_iff_ne.mpr c11
            have c11b1 : (t138 != t143) = true := bne_iff_ne.mpr c11
            obtain rfl := Option.some.inj H
            go_enter Try.func5, Try.ntmps5
            go_wp2_with (first | ((with_reducible refine gate_dst (N := 1) rfl ?_); refine box_event ?hg (N := 1) ?hd (cs := #[.string a0_0, .int .i64 a0_1]) (t := 33) ?hr ?_; (case hd => rfl); (case hg => rfl); (case hr => first | (go_simp; done) | (go_simp; rfl)); intro gb135 hg w41 hbox hb; have n0_ := Aside0.mk (below_step (by repeat (first | (with_reducible first | exact HB.out | apply below_alloc | apply pw_below_drewN | apply below_drew1) | exact HB.out)) hb); have n1_ := Aside0.mk (hbox); have n2_ := Aside0.mk ((by rw [hg]; exact (below_size (by repeat (first | (with_reducible first | exact HB.out | apply below_alloc | apply pw_below_drewN | apply below_drew1) | exact HB.out))) : w.heap.size ≤ gb135)); have n3_ := Aside0.mk ((by rw [hg]; exact (below_size (by repeat (first | (with_reducible first | exact HB.out | apply below_alloc | apply pw_below_drewN | apply below_drew1) | exact HB.out))) : w.heap.size ≤ gb135)); clear HB; have HB := n0_; have BK135 := n1_; have GW135 := n2_; have GE135 := n3_; clear n0_ n1_ n2_ n3_; clear hb hbox hg; have hcz42_0 : w41.cell? ⟨gb135, 0, none⟩ = some (.string a0_0) := (blk_cell BK135.out 0).trans rfl; have hcz42_1 : w41.cell? ⟨gb135, 1, none⟩ = some (.int .i64 a0_1) := (blk_cell BK135.out 1).trans rfl; have hfz42_0 := blk_frozen BK135.out 0; have hfz42_1 := blk_frozen BK135.out 1) | ((with_reducible refine gate_callee (f := 10) rfl ?_); refine goesL_ (some 9) rfl rfl Try.func10 (by kernel_rfl) rfl #[.agg #[.string a0_0, .int .i64 a0_1]] rfl (by (try simp only [List.map_toArray, List.map_cons, List.map_nil]); first | done | rfl | (simp only [List.length_drop, List.length_take]; rfl) | (simp only [Int.toNat_natCast, ByteArray.extract_zero_size]; rfl)) ?_; (with_reducible refine (laws_zzFits2.calls a0_0 a0_1 true _ A2.out).mono ?_); rintro e w43 ⟨rfl, hb⟩; refine ⟨_, rfl, ?_⟩; have n0_ := Aside0.mk (blk_below (g := gb135) (o := .cells #[.string a0_0, .int .i64 a0_1] 33 (0, 0)) (by (with_reducible repeat (first | refine blk_drewN ?_ _ | refine blk_drew ?_ | refine blk_alloc ?_ _)); exact BK135.out) hb); have n1_ := Aside0.mk (below_step (by repeat (first | (with_reducible first | exact HB.out | apply below_alloc | apply pw_below_drewN | apply below_drew1 | refine below_set ?_ GE135.out) | exact HB.out)) hb); clear BK135; clear HB; have BK135 := n0_; have HB := n1_; clear n0_ n1_; (try clear hb); (try clear hb2); (try clear hk); (try clear hi); have hcz44_0 : w43.cell? ⟨gb135, 0, none⟩ = some (.string a0_0) := (blk_cell BK135.out 0).trans rfl; have hcz44_1 : w43.cell? ⟨gb135, 1, none⟩ = some (.int .i64 a0_1) := (blk_cell BK135.out 1).trans rfl; have hfz44_0 := blk_frozen BK135.out 0; have hfz44_1 := blk_frozen BK135.out 1) | ((with_reducible refine gate_callee (f := 11) rfl ?_); refine goesL_ (some 12) rfl rfl Try.func11 (by kernel_rfl) rfl #[.agg #[.string a0_0, .int .i64 a0_1]] rfl (by (try simp only [List.map_toArray, List.map_cons, List.map_nil]); first | done | rfl | (simp only [List.length_drop, List.length_take]; rfl) | (simp only [Int.toNat_natCast, ByteArray.extract_zero_size]; rfl)) ?_; (with_reducible refine (spec_DocRight.calls k a0_0 a0_1 true _ A4.out).mono ?_); rintro e w45 ⟨rfl, hb⟩; refine ⟨_, rfl, ?_⟩; have n0_ := Aside0.mk (blk_below (g := gb135) (o := .cells #[.string a0_0, .int .i64 a0_1] 33 (0, 0)) (by (with_reducible repeat (first | refine blk_drewN ?_ _ | refine blk_drew ?_ | refine blk_alloc ?_ _)); exact BK135.out) hb); have n1_ := Aside0.mk (below_step (by repeat (first | (with_reducible first | exact HB.out | apply below_alloc | apply pw_below_drewN | apply below_drew1 | refine below_set ?_ GE135.out) | exact HB.out)) hb); clear BK135; clear HB; have BK135 := n0_; have HB := n1_; clear n0_ n1_; (try clear hb); (try clear hb2); (try clear hk); (try clear hi); have hcz46_0 : w45.cell? ⟨gb135, 0, none⟩ = some (.string a0_0) := (blk_cell BK135.out 0).trans rfl; have hcz46_1 : w45.cell? ⟨gb135, 1, none⟩ = some (.int .i64 a0_1) := (blk_cell BK135.out 1).trans rfl; have hfz46_0 := blk_frozen BK135.out 0; have hfz46_1 := blk_frozen BK135.out 1) | ((with_reducible refine gate_callee (f := 12) rfl ?_); refine goesL_ (some 19) rfl rfl Try.func12 (by kernel_rfl) rfl #[.string a0_0, .int .i64 a0_1] rfl (by (try simp only [List.map_toArray, List.map_cons, List.map_nil]); first | done | rfl | (simp only [List.length_drop, List.length_take]; rfl) | (simp only [Int.toNat_natCast, ByteArray.extract_zero_size]; rfl)) ?_; (with_reducible refine (impl_RowColumn.calls k a0_0 a0_1 t138 t139 true _ A6.out).mono ?_); rintro e w47 ⟨rfl, hb⟩; refine ⟨_, rfl, ?_⟩; have n0_ := Aside0.mk (blk_below (g := gb135) (o := .cells #[.string a0_0, .int .i64 a0_1] 33 (0, 0)) (by (with_reducible repeat (first | refine blk_drewN ?_ _ | refine blk_drew ?_ | refine blk_alloc ?_ _)); exact BK135.out) hb); have n1_ := Aside0.mk (below_step (by repeat (first | (with_reducible first | exact HB.out | apply below_alloc | apply pw_below_drewN | apply below_drew1 | refine below_set ?_ GE135.out) | exact HB.out)) hb); clear BK135; clear HB; have BK135 := n0_; have HB := n1_; clear n0_ n1_; (try clear hb); (try clear hb2); (try clear hk); (try clear hi); have hcz48_0 : w47.cell? ⟨gb135, 0, none⟩ = some (.string a0_0) := (blk_cell BK135.out 0).trans rfl; have hcz48_1 : w47.cell? ⟨gb135, 1, none⟩ = some (.int .i64 a0_1) := (blk_cell BK135.out 1).trans rfl; have hfz48_0 := blk_frozen BK135.out 0; have hfz48_1 := blk_frozen BK135.out 1) | ((with_reducible refine gate_callee (f := 13) rfl ?_); refine goesL_ (some 28) rfl rfl Try.func13 (by kernel_rfl) rfl #[.string a0_0, .int .i64 t138, .int .i64 t139] rfl (by (try simp only [List.map_toArray, List.map_cons, List.map_nil]); first | done | rfl | (simp only [List.length_drop, List.length_take]; rfl) | (simp only [Int.toNat_natCast, ByteArray.extract_zero_size]; rfl)) ?_; (with_reducible refine (impl_Index.calls k a0_0 t138 t139 t141 true _ A7.out).mono ?_); rintro e w49 ⟨rfl, hb⟩; refine ⟨_, rfl, ?_⟩; have n0_ := Aside0.mk (blk_below (g := gb135) (o := .cells #[.string a0_0, .int .i64 a0_1] 33 (0, 0)) (by (with_reducible repeat (first | refine blk_drewN ?_ _ | refine blk_drew ?_ | refine blk_alloc ?_ _)); exact BK135.out) hb); have n1_ := Aside0.mk (below_step (by repeat (first | (with_reducible first | exact HB.out | apply below_alloc | apply pw_below_drewN | apply below_drew1 | refine below_set ?_ GE135.out) | exact HB.out)) hb); clear BK135; clear HB; have BK135 := n0_; have HB := n1_; clear n0_ n1_; (try clear hb); (try clear hb2); (try clear hk); (try clear hi); have hcz50_0 : w49.cell? ⟨gb135, 0, none⟩ = some (.string a0_0) := (blk_cell BK135.out 0).trans rfl; have hcz50_1 : w49.cell? ⟨gb135, 1, none⟩ = some (.int .i64 a0_1) := (blk_cell BK135.out 1).trans rfl; have hfz50_0 := blk_frozen BK135.out 0; have hfz50_1 := blk_frozen BK135.out 1) | (go_at_call 14; (with_reducible refine (spec_Row.calls k a0_0 a0_1 t143 _ A10.out).mono ?_); rintro e w51 ⟨rfl, hb⟩; have n0_ := Aside0.mk (blk_below (g := gb135) (o := .cells #[.string a0_0, .int .i64 a0_1] 33 (0, 0)) (by (with_reducible repeat (first | refine blk_drewN ?_ _ | refine blk_drew ?_ | refine blk_alloc ?_ _)); exact BK135.out) hb); have n1_ := Aside0.mk (below_step (by repeat (first | (with_reducible first | exact HB.out | apply below_alloc | apply pw_below_drewN | apply below_drew1 | refine below_set ?_ GE135.out) | exact HB.out)) hb); clear BK135; clear HB; have BK135 := n0_; have HB := n1_; clear n0_ n1_; (try clear hb); (try clear hb2); (try clear hk); (try clear hi)))
            go_ret
            exact ⟨by first | rfl | (simp [errW_none, errW_some] <;> rfl) | (simp [*, errW_none, errW_some] <;> rfl), by repeat (first | (with_reducible first | exact HB.out | apply below_alloc | apply pw_below_drewN | apply below_drew1 | refine below_set ?_ GE135.out) | exact HB.out)⟩
        · replace c9 := Bool.eq_false_iff.mpr c9
          subst c9
          have H1 : (some false) = some r := by rw [if_neg (show ¬ (false = true) by decide)] at H; exact H
          clear H
          have H := H1
          clear H1
          obtain rfl := Option.some.inj H
          go_enter Try.func5, Try.ntmps5
          go_wp2_with (first | ((with_reducible refine gate_dst (N := 1) rfl ?_); refine box_event ?hg (N := 1) ?hd (cs := #[.string a0_0, .int .i64 a0_1]) (t := 33) ?hr ?_; (case hd => rfl); (case hg => rfl); (case hr => first | (go_simp; done) | (go_simp; rfl)); intro gb135 hg w52 hbox hb; have n0_ := Aside0.mk (below_step (by repeat (first | (with_reducible first | exact HB.out | apply below_alloc | apply pw_below_drewN | apply below_drew1) | exact HB.out)) hb); have n1_ := Aside0.mk (hbox); have n2_ := Aside0.mk ((by rw [hg]; exact (below_size (by repeat (first | (with_reducible first | exact HB.out | apply below_alloc | apply pw_below_drewN | apply below_drew1) | exact HB.out))) : w.heap.size ≤ gb135)); have n3_ := Aside0.mk ((by rw [hg]; exact (below_size (by repeat (first | (with_reducible first | exact HB.out | apply below_alloc | apply pw_below_drewN | apply below_drew1) | exact HB.out))) : w.heap.size ≤ gb135)); clear HB; have HB := n0_; have BK135 := n1_; have GW135 := n2_; have GE135 := n3_; clear n0_ n1_ n2_ n3_; clear hb hbox hg; have hcz53_0 : w52.cell? ⟨gb135, 0, none⟩ = some (.string a0_0) := (blk_cell BK135.out 0).trans rfl; have hcz53_1 : w52.cell? ⟨gb135, 1, none⟩ = some (.int .i64 a0_1) := (blk_cell BK135.out 1).trans rfl; have hfz53_0 := blk_frozen BK135.out 0; have hfz53_1 := blk_frozen BK135.out 1) | ((with_reducible refine gate_callee (f := 10) rfl ?_); refine goesL_ (some 9) rfl rfl Try.func10 (by kernel_rfl) rfl #[.agg #[.string a0_0, .int .i64 a0_1]] rfl (by (try simp only [List.map_toArray, List.map_cons, List.map_nil]); first | done | rfl | (simp only [List.length_drop, List.length_take]; rfl) | (simp only [Int.toNat_natCast, ByteArray.extract_zero_size]; rfl)) ?_; (with_reducible refine (laws_zzFits2.calls a0_0 a0_1 true _ A2.out).mono ?_); rintro e w54 ⟨rfl, hb⟩; refine ⟨_, rfl, ?_⟩; have n0_ := Aside0.mk (blk_below (g := gb135) (o := .cells #[.string a0_0, .int .i64 a0_1] 33 (0, 0)) (by (with_reducible repeat (first | refine blk_drewN ?_ _ | refine blk_drew ?_ | refine blk_alloc ?_ _)); exact BK135.out) hb); have n1_ := Aside0.mk (below_step (by repeat (first | (with_reducible first | exact HB.out | apply below_alloc | apply pw_below_drewN | apply below_drew1 | refine below_set ?_ GE135.out) | exact HB.out)) hb); clear BK135; clear HB; have BK135 := n0_; have HB := n1_; clear n0_ n1_; (try clear hb); (try clear hb2); (try clear hk); (try clear hi); have hcz55_0 : w54.cell? ⟨gb135, 0, none⟩ = some (.string a0_0) := (blk_cell BK135.out 0).trans rfl; have hcz55_1 : w54.cell? ⟨gb135, 1, none⟩ = some (.int .i64 a0_1) := (blk_cell BK135.out 1).trans rfl; have hfz55_0 := blk_frozen BK135.out 0; have hfz55_1 := blk_frozen BK135.out 1) | ((with_reducible refine gate_callee (f := 11) rfl ?_); refine goesL_ (some 12) rfl rfl Try.func11 (by kernel_rfl) rfl #[.agg #[.string a0_0, .int .i64 a0_1]] rfl (by (try simp only [List.map_toArray, List.map_cons, List.map_nil]); first | done | rfl | (simp only [List.length_drop, List.length_take]; rfl) | (simp only [Int.toNat_natCast, ByteArray.extract_zero_size]; rfl)) ?_; (with_reducible refine (spec_DocRight.calls k a0_0 a0_1 true _ A4.out).mono ?_); rintro e w56 ⟨rfl, hb⟩; refine ⟨_, rfl, ?_⟩; have n0_ := Aside0.mk (blk_below (g := gb135) (o := .cells #[.string a0_0, .int .i64 a0_1] 33 (0, 0)) (by (with_reducible repeat (first | refine blk_drewN ?_ _ | refine blk_drew ?_ | refine blk_alloc ?_ _)); exact BK135.out) hb); have n1_ := Aside0.mk (below_step (by repeat (first | (with_reducible first | exact HB.out | apply below_alloc | apply pw_below_drewN | apply below_drew1 | refine below_set ?_ GE135.out) | exact HB.out)) hb); clear BK135; clear HB; have BK135 := n0_; have HB := n1_; clear n0_ n1_; (try clear hb); (try clear hb2); (try clear hk); (try clear hi); have hcz57_0 : w56.cell? ⟨gb135, 0, none⟩ = some (.string a0_0) := (blk_cell BK135.out 0).trans rfl; have hcz57_1 : w56.cell? ⟨gb135, 1, none⟩ = some (.int .i64 a0_1) := (blk_cell BK135.out 1).trans rfl; have hfz57_0 := blk_frozen BK135.out 0; have hfz57_1 := blk_frozen BK135.out 1) | ((with_reducible refine gate_callee (f := 12) rfl ?_); refine goesL_ (some 19) rfl rfl Try.func12 (by kernel_rfl) rfl #[.string a0_0, .int .i64 a0_1] rfl (by (try simp only [List.map_toArray, List.map_cons, List.map_nil]); first | done | rfl | (simp only [List.length_drop, List.length_take]; rfl) | (simp only [Int.toNat_natCast, ByteArray.extract_zero_size]; rfl)) ?_; (with_reducible refine (impl_RowColumn.calls k a0_0 a0_1 t138 t139 true _ A6.out).mono ?_); rintro e w58 ⟨rfl, hb⟩; refine ⟨_, rfl, ?_⟩; have n0_ := Aside0.mk (blk_below (g := gb135) (o := .cells #[.string a0_0, .int .i64 a0_1] 33 (0, 0)) (by (with_reducible repeat (first | refine blk_drewN ?_ _ | refine blk_drew ?_ | refine blk_alloc ?_ _)); exact BK135.out) hb); have n1_ := Aside0.mk (below_step (by repeat (first | (with_reducible first | exact HB.out | apply below_alloc | apply pw_below_drewN | apply below_drew1 | refine below_set ?_ GE135.out) | exact HB.out)) hb); clear BK135; clear HB; have BK135 := n0_; have HB := n1_; clear n0_ n1_; (try clear hb); (try clear hb2); (try clear hk); (try clear hi); have hcz59_0 : w58.cell? ⟨gb135, 0, none⟩ = some (.string a0_0) := (blk_cell BK135.out 0).trans rfl; have hcz59_1 : w58.cell? ⟨gb135, 1, none⟩ = some (.int .i64 a0_1) := (blk_cell BK135.out 1).trans rfl; have hfz59_0 := blk_frozen BK135.out 0; have hfz59_1 := blk_frozen BK135.out 1) | ((with_reducible refine gate_callee (f := 13) rfl ?_); refine goesL_ (some 28) rfl rfl Try.func13 (by kernel_rfl) rfl #[.string a0_0, .int .i64 t138, .int .i64 t139] rfl (by (try simp only [List.map_toArray, List.map_cons, List.map_nil]); first | done | rfl | (simp only [List.length_drop, List.length_take]; rfl) | (simp only [Int.toNat_natCast, ByteArray.extract_zero_size]; rfl)) ?_; (with_reducible refine (impl_Index.calls k a0_0 t138 t139 t141 false _ A7.out).mono ?_); rintro e w60 ⟨rfl, hb⟩; refine ⟨_, rfl, ?_⟩; have n0_ := Aside0.mk (blk_below (g := gb135) (o := .cells #[.string a0_0, .int .i64 a0_1] 33 (0, 0)) (by (with_reducible repeat (first | refine blk_drewN ?_ _ | refine blk_drew ?_ | refine blk_alloc ?_ _)); exact BK135.out) hb); have n1_ := Aside0.mk (below_step (by repeat (first | (with_reducible first | exact HB.out | apply below_alloc | apply pw_below_drewN | apply below_drew1 | refine below_set ?_ GE135.out) | exact HB.out)) hb); clear BK135; clear HB; have BK135 := n0_; have HB := n1_; clear n0_ n1_; (try clear hb); (try clear hb2); (try clear hk); (try clear hi)))
          go_ret
          exact ⟨by first | rfl | (simp [errW_none, errW_some] <;> rfl) | (simp [*, errW_none, errW_some] <;> rfl), by repeat (first | (with_reducible first | exact HB.out | apply below_alloc | apply pw_below_drewN | apply below_drew1 | refine below_set ?_ GE135.out) | exact HB.out)⟩
      · replace c8 := Bool.eq_false_iff.mpr c8
        subst c8
        have H1 : (some false) = some r := by rw [if_neg (show ¬ (false = true) by decide)] at H; exact H
        clear H
        have H := H1
        clear H1
        obtain rfl := Option.some.inj H
        go_enter Try.func5, Try.ntmps5
        go_wp2_with (first | ((with_reducible refine gate_dst (N := 1) rfl ?_); refine box_event ?hg (N := 1) ?hd (cs := #[.string a0_0, .int .i64 a0_1]) (t := 33) ?hr ?_; (case hd => rfl); (case hg => rfl); (case hr => first | (go_simp; done) | (go_simp; rfl)); intro gb135 hg w61 hbox hb; have n0_ := Aside0.mk (below_step (by repeat (first | (with_reducible first | exact HB.out | apply below_alloc | apply pw_below_drewN | apply below_drew1) | exact HB.out)) hb); have n1_ := Aside0.mk (hbox); have n2_ := Aside0.mk ((by rw [hg]; exact (below_size (by repeat (first | (with_reducible first | exact HB.out | apply below_alloc | apply pw_below_drewN | apply below_drew1) | exact HB.out))) : w.heap.size ≤ gb135)); have n3_ := Aside0.mk ((by rw [hg]; exact (below_size (by repeat (first | (with_reducible first | exact HB.out | apply below_alloc | apply pw_below_drewN | apply below_drew1) | exact HB.out))) : w.heap.size ≤ gb135)); clear HB; have HB := n0_; have BK135 := n1_; have GW135 := n2_; have GE135 := n3_; clear n0_ n1_ n2_ n3_; clear hb hbox hg; have hcz62_0 : w61.cell? ⟨gb135, 0, none⟩ = some (.string a0_0) := (blk_cell BK135.out 0).trans rfl; have hcz62_1 : w61.cell? ⟨gb135, 1, none⟩ = some (.int .i64 a0_1) := (blk_cell BK135.out 1).trans rfl; have hfz62_0 := blk_frozen BK135.out 0; have hfz62_1 := blk_frozen BK135.out 1) | ((with_reducible refine gate_callee (f := 10) rfl ?_); refine goesL_ (some 9) rfl rfl Try.func10 (by kernel_rfl) rfl #[.agg #[.string a0_0, .int .i64 a0_1]] rfl (by (try simp only [List.map_toArray, List.map_cons, List.map_nil]); first | done | rfl | (simp only [List.length_drop, List.length_take]; rfl) | (simp only [Int.toNat_natCast, ByteArray.extract_zero_size]; rfl)) ?_; (with_reducible refine (laws_zzFits2.calls a0_0 a0_1 true _ A2.out).mono ?_); rintro e w63 ⟨rfl, hb⟩; refine ⟨_, rfl, ?_⟩; have n0_ := Aside0.mk (blk_below (g := gb135) (o := .cells #[.string a0_0, .int .i64 a0_1] 33 (0, 0)) (by (with_reducible repeat (first | refine blk_drewN ?_ _ | refine blk_drew ?_ | refine blk_alloc ?_ _)); exact BK135.out) hb); have n1_ := Aside0.mk (below_step (by repeat (first | (with_reducible first | exact HB.out | apply below_alloc | apply pw_below_drewN | apply below_drew1 | refine below_set ?_ GE135.out) | exact HB.out)) hb); clear BK135; clear HB; have BK135 := n0_; have HB := n1_; clear n0_ n1_; (try clear hb); (try clear hb2); (try clear hk); (try clear hi); have hcz64_0 : w63.cell? ⟨gb135, 0, none⟩ = some (.string a0_0) := (blk_cell BK135.out 0).trans rfl; have hcz64_1 : w63.cell? ⟨gb135, 1, none⟩ = some (.int .i64 a0_1) := (blk_cell BK135.out 1).trans rfl; have hfz64_0 := blk_frozen BK135.out 0; have hfz64_1 := blk_frozen BK135.out 1) | ((with_reducible refine gate_callee (f := 11) rfl ?_); refine goesL_ (some 12) rfl rfl Try.func11 (by kernel_rfl) rfl #[.agg #[.string a0_0, .int .i64 a0_1]] rfl (by (try simp only [List.map_toArray, List.map_cons, List.map_nil]); first | done | rfl | (simp only [List.length_drop, List.length_take]; rfl) | (simp only [Int.toNat_natCast, ByteArray.extract_zero_size]; rfl)) ?_; (with_reducible refine (spec_DocRight.calls k a0_0 a0_1 true _ A4.out).mono ?_); rintro e w65 ⟨rfl, hb⟩; refine ⟨_, rfl, ?_⟩; have n0_ := Aside0.mk (blk_below (g := gb135) (o := .cells #[.string a0_0, .int .i64 a0_1] 33 (0, 0)) (by (with_reducible repeat (first | refine blk_drewN ?_ _ | refine blk_drew ?_ | refine blk_alloc ?_ _)); exact BK135.out) hb); have n1_ := Aside0.mk (below_step (by repeat (first | (with_reducible first | exact HB.out | apply below_alloc | apply pw_below_drewN | apply below_drew1 | refine below_set ?_ GE135.out) | exact HB.out)) hb); clear BK135; clear HB; have BK135 := n0_; have HB := n1_; clear n0_ n1_; (try clear hb); (try clear hb2); (try clear hk); (try clear hi); have hcz66_0 : w65.cell? ⟨gb135, 0, none⟩ = some (.string a0_0) := (blk_cell BK135.out 0).trans rfl; have hcz66_1 : w65.cell? ⟨gb135, 1, none⟩ = some (.int .i64 a0_1) := (blk_cell BK135.out 1).trans rfl; have hfz66_0 := blk_frozen BK135.out 0; have hfz66_1 := blk_frozen BK135.out 1) | ((with_reducible refine gate_callee (f := 12) rfl ?_); refine goesL_ (some 19) rfl rfl Try.func12 (by kernel_rfl) rfl #[.string a0_0, .int .i64 a0_1] rfl (by (try simp only [List.map_toArray, List.map_cons, List.map_nil]); first | done | rfl | (simp only [List.length_drop, List.length_take]; rfl) | (simp only [Int.toNat_natCast, ByteArray.extract_zero_size]; rfl)) ?_; (with_reducible refine (impl_RowColumn.calls k a0_0 a0_1 t138 t139 false _ A6.out).mono ?_); rintro e w67 ⟨rfl, hb⟩; refine ⟨_, rfl, ?_⟩; have n0_ := Aside0.mk (blk_below (g := gb135) (o := .cells #[.string a0_0, .int .i64 a0_1] 33 (0, 0)) (by (with_reducible repeat (first | refine blk_drewN ?_ _ | refine blk_drew ?_ | refine blk_alloc ?_ _)); exact BK135.out) hb); have n1_ := Aside0.mk (below_step (by repeat (first | (with_reducible first | exact HB.out | apply below_alloc | apply pw_below_drewN | apply below_drew1 | refine below_set ?_ GE135.out) | exact HB.out)) hb); clear BK135; clear HB; have BK135 := n0_; have HB := n1_; clear n0_ n1_; (try clear hb); (try clear hb2); (try clear hk); (try clear hi); have hcz68_0 : w67.cell? ⟨gb135, 0, none⟩ = some (.string a0_0) := (blk_cell BK135.out 0).trans rfl; have hcz68_1 : w67.cell? ⟨gb135, 1, none⟩ = some (.int .i64 a0_1) := (blk_cell BK135.out 1).trans rfl; have hfz68_0 := blk_frozen BK135.out 0; have hfz68_1 := blk_frozen BK135.out 1) | ((with_reducible refine gate_callee (f := 13) rfl ?_); refine goesL_ (some 28) rfl rfl Try.func13 (by kernel_rfl) rfl #[.string a0_0, .int .i64 t138, .int .i64 t139] rfl (by (try simp only [List.map_toArray, List.map_cons, List.map_nil]); first | done | rfl | (simp only [List.length_drop, List.length_take]; rfl) | (simp only [Int.toNat_natCast, ByteArray.extract_zero_size]; rfl)) ?_; (with_reducible refine (impl_Index.calls k a0_0 t138 t139 t141 t142 _ A7.out).mono ?_); rintro e w69 ⟨rfl, hb⟩; refine ⟨_, rfl, ?_⟩; have n0_ := Aside0.mk (blk_below (g := gb135) (o := .cells #[.string a0_0, .int .i64 a0_1] 33 (0, 0)) (by (with_reducible repeat (first | refine blk_drewN ?_ _ | refine blk_drew ?_ | refine blk_alloc ?_ _)); exact BK135.out) hb); have n1_ := Aside0.mk (below_step (by repeat (first | (with_reducible first | exact HB.out | apply below_alloc | apply pw_below_drewN | apply below_drew1 | refine below_set ?_ GE135.out) | exact HB.out)) hb); clear BK135; clear HB; have BK135 := n0_; have HB := n1_; clear n0_ n1_; (try clear hb); (try clear hb2); (try clear hk); (try clear hi)))
        go_ret
        exact ⟨by first | rfl | (simp [errW_none, errW_some] <;> rfl) | (simp [*, errW_none, errW_some] <;> rfl), by repeat (first | (with_reducible first | exact HB.out | apply below_alloc | apply pw_below_drewN | apply below_drew1 | refine below_set ?_ GE135.out) | exact HB.out)⟩
    · replace c5 := Bool.eq_false_iff.mpr c5
      subst c5
      have H1 : (some true) = some r := by rw [if_neg (show ¬ (false = true) by decide)] at H; exact H
      clear H
      have H := H1
      clear H1
      obtain rfl := Option.some.inj H
      go_enter Try.func5, Try.ntmps5
      go_wp2_with (first | ((with_reducible refine gate_dst (N := 1) rfl ?_); refine box_event ?hg (N := 1) ?hd (cs := #[.string a0_0, .int .i64 a0_1]) (t := 33) ?hr ?_; (case hd => rfl); (case hg => rfl); (case hr => first | (go_simp; done) | (go_simp; rfl)); intro gb135 hg w70 hbox hb; have n0_ := Aside0.mk (below_step (by repeat (first | (with_reducible first | exact HB.out | apply below_alloc | apply pw_below_drewN | apply below_drew1) | exact HB.out)) hb); have n1_ := Aside0.mk (hbox); have n2_ := Aside0.mk ((by rw [hg]; exact (below_size (by repeat (first | (with_reducible first | exact HB.out | apply below_alloc | apply pw_below_drewN | apply below_drew1) | exact HB.out))) : w.heap.size ≤ gb135)); have n3_ := Aside0.mk ((by rw [hg]; exact (below_size (by repeat (first | (with_reducible first | exact HB.out | apply below_alloc | apply pw_below_drewN | apply below_drew1) | exact HB.out))) : w.heap.size ≤ gb135)); clear HB; have HB := n0_; have BK135 := n1_; have GW135 := n2_; have GE135 := n3_; clear n0_ n1_ n2_ n3_; clear hb hbox hg; have hcz71_0 : w70.cell? ⟨gb135, 0, none⟩ = some (.string a0_0) := (blk_cell BK135.out 0).trans rfl; have hcz71_1 : w70.cell? ⟨gb135, 1, none⟩ = some (.int .i64 a0_1) := (blk_cell BK135.out 1).trans rfl; have hfz71_0 := blk_frozen BK135.out 0; have hfz71_1 := blk_frozen BK135.out 1) | ((with_reducible refine gate_callee (f := 10) rfl ?_); refine goesL_ (some 9) rfl rfl Try.func10 (by kernel_rfl) rfl #[.agg #[.string a0_0, .int .i64 a0_1]] rfl (by (try simp only [List.map_toArray, List.map_cons, List.map_nil]); first | done | rfl | (simp only [List.length_drop, List.length_take]; rfl) | (simp only [Int.toNat_natCast, ByteArray.extract_zero_size]; rfl)) ?_; (with_reducible refine (laws_zzFits2.calls a0_0 a0_1 true _ A2.out).mono ?_); rintro e w72 ⟨rfl, hb⟩; refine ⟨_, rfl, ?_⟩; have n0_ := Aside0.mk (blk_below (g := gb135) (o := .cells #[.string a0_0, .int .i64 a0_1] 33 (0, 0)) (by (with_reducible repeat (first | refine blk_drewN ?_ _ | refine blk_drew ?_ | refine blk_alloc ?_ _)); exact BK135.out) hb); have n1_ := Aside0.mk (below_step (by repeat (first | (with_reducible first | exact HB.out | apply below_alloc | apply pw_below_drewN | apply below_drew1 | refine below_set ?_ GE135.out) | exact HB.out)) hb); clear BK135; clear HB; have BK135 := n0_; have HB := n1_; clear n0_ n1_; (try clear hb); (try clear hb2); (try clear hk); (try clear hi); have hcz73_0 : w72.cell? ⟨gb135, 0, none⟩ = some (.string a0_0) := (blk_cell BK135.out 0).trans rfl; have hcz73_1 : w72.cell? ⟨gb135, 1, none⟩ = some (.int .i64 a0_1) := (blk_cell BK135.out 1).trans rfl; have hfz73_0 := blk_frozen BK135.out 0; have hfz73_1 := blk_frozen BK135.out 1) | ((with_reducible refine gate_callee (f := 11) rfl ?_); refine goesL_ (some 12) rfl rfl Try.func11 (by kernel_rfl) rfl #[.agg #[.string a0_0, .int .i64 a0_1]] rfl (by (try simp only [List.map_toArray, List.map_cons, List.map_nil]); first | done | rfl | (simp only [List.length_drop, List.length_take]; rfl) | (simp only [Int.toNat_natCast, ByteArray.extract_zero_size]; rfl)) ?_; (with_reducible refine (spec_DocRight.calls k a0_0 a0_1 false _ A4.out).mono ?_); rintro e w74 ⟨rfl, hb⟩; refine ⟨_, rfl, ?_⟩; have n0_ := Aside0.mk (blk_below (g := gb135) (o := .cells #[.string a0_0, .int .i64 a0_1] 33 (0, 0)) (by (with_reducible repeat (first | refine blk_drewN ?_ _ | refine blk_drew ?_ | refine blk_alloc ?_ _)); exact BK135.out) hb); have n1_ := Aside0.mk (below_step (by repeat (first | (with_reducible first | exact HB.out | apply below_alloc | apply pw_below_drewN | apply below_drew1 | refine below_set ?_ GE135.out) | exact HB.out)) hb); clear BK135; clear HB; have BK135 := n0_; have HB := n1_; clear n0_ n1_; (try clear hb); (try clear hb2); (try clear hk); (try clear hi)))
      go_ret
      exact ⟨by first | rfl | (simp [errW_none, errW_some] <;> rfl) | (simp [*, errW_none, errW_some] <;> rfl), by repeat (first | (with_reducible first | exact HB.out | apply below_alloc | apply pw_below_drewN | apply below_drew1 | refine below_set ?_ GE135.out) | exact HB.out)⟩
  · replace c3 := Bool.eq_false_iff.mpr c3
    subst c3
    have H1 : (some true) = some r := by rw [if_neg (show ¬ (false = true) by decide)] at H; exact H
    clear H
    have H := H1
    clear H1
    obtain rfl := Option.some.inj H
    go_enter Try.func5, Try.ntmps5
    go_wp2_with (first | ((with_reducible refine gate_dst (N := 1) rfl ?_); refine box_event ?hg (N := 1) ?hd (cs := #[.string a0_0, .int .i64 a0_1]) (t := 33) ?hr ?_; (case hd => rfl); (case hg => rfl); (case hr => first | (go_simp; done) | (go_simp; rfl)); intro gb135 hg w75 hbox hb; have n0_ := Aside0.mk (below_step (by repeat (first | (with_reducible first | exact HB.out | apply below_alloc | apply pw_below_drewN | apply below_drew1) | exact HB.out)) hb); have n1_ := Aside0.mk (hbox); have n2_ := Aside0.mk ((by rw [hg]; exact (below_size (by repeat (first | (with_reducible first | exact HB.out | apply below_alloc | apply pw_below_drewN | apply below_drew1) | exact HB.out))) : w.heap.size ≤ gb135)); have n3_ := Aside0.mk ((by rw [hg]; exact (below_size (by repeat (first | (with_reducible first | exact HB.out | apply below_alloc | apply pw_below_drewN | apply below_drew1) | exact HB.out))) : w.heap.size ≤ gb135)); clear HB; have HB := n0_; have BK135 := n1_; have GW135 := n2_; have GE135 := n3_; clear n0_ n1_ n2_ n3_; clear hb hbox hg; have hcz76_0 : w75.cell? ⟨gb135, 0, none⟩ = some (.string a0_0) := (blk_cell BK135.out 0).trans rfl; have hcz76_1 : w75.cell? ⟨gb135, 1, none⟩ = some (.int .i64 a0_1) := (blk_cell BK135.out 1).trans rfl; have hfz76_0 := blk_frozen BK135.out 0; have hfz76_1 := blk_frozen BK135.out 1) | ((with_reducible refine gate_callee (f := 10) rfl ?_); refine goesL_ (some 9) rfl rfl Try.func10 (by kernel_rfl) rfl #[.agg #[.string a0_0, .int .i64 a0_1]] rfl (by (try simp only [List.map_toArray, List.map_cons, List.map_nil]); first | done | rfl | (simp only [List.length_drop, List.length_take]; rfl) | (simp only [Int.toNat_natCast, ByteArray.extract_zero_size]; rfl)) ?_; (with_reducible refine (laws_zzFits2.calls a0_0 a0_1 false _ A2.out).mono ?_); rintro e w77 ⟨rfl, hb⟩; refine ⟨_, rfl, ?_⟩; have n0_ := Aside0.mk (blk_below (g := gb135) (o := .cells #[.string a0_0, .int .i64 a0_1] 33 (0, 0)) (by (with_reducible repeat (first | refine blk_drewN ?_ _ | refine blk_drew ?_ | refine blk_alloc ?_ _)); exact BK135.out) hb); have n1_ := Aside0.mk (below_step (by repeat (first | (with_reducible first | exact HB.out | apply below_alloc | apply pw_below_drewN | apply below_drew1 | refine below_set ?_ GE135.out) | exact HB.out)) hb); clear BK135; clear HB; have BK135 := n0_; have HB := n1_; clear n0_ n1_; (try clear hb); (try clear hb2); (try clear hk); (try clear hi)))
    go_ret
    exact ⟨by first | rfl | (simp [errW_none, errW_some] <;> rfl) | (simp [*, errW_none, errW_some] <;> rfl), by repeat (first | (with_reducible first | exact HB.out | apply below_alloc | apply pw_below_drewN | apply below_drew1 | refine below_set ?_ GE135.out) | exact HB.out)⟩

/-- THE ONE PURE STATEMENT of laws_FnRowColumn: yours. -/
def laws_FnRowColumn.Pure : Prop := ∀ (a0_0 : ByteArray) (a0_1 : Int), a0_0.size ≤ maxLen → (Lit.int .i64 a0_1).wf = true → ∃ k, laws_FnRowColumn.f k a0_0 a0_1 = some true
theorem laws_FnRowColumn.walk (P : laws_FnRowColumn.Pure) (a0_0 : ByteArray) (a0_1 : Int) (w : World) (hg0_0 : a0_0.size ≤ maxLen) (hg0_1 : (Lit.int .i64 a0_1).wf = true) :
    Calls Try.prog 5 #[.agg #[.string a0_0, .int .i64 a0_1]] w fun e w' => e = .returned (.bool true) ∧ Below w.heap.size w w' := by
  obtain ⟨k, h⟩ := P a0_0 a0_1 hg0_0 hg0_1
  refine (laws_FnRowColumn.calls k a0_0 a0_1 true w h).mono ?_
  rintro e w' ⟨rfl, hd⟩
  exact ⟨rfl, hd⟩

end Go.Proofs.Ythbdaoapjnofkaa.PFnRowColumn
