/- Printed by a program of this seat (xprint) out of the translation: Go functions as plain functions, and the walks that show them; no condition. -/
import Derived.Test.YtkfmjkiefckgoaaGreatDoorQPFnUpDownx0
import Derived.Test.YtkfmjkiefckgoaaGreatDoorQHEdFnUpDown
import Derived.Test.YtkfmjkiefckgoaaGreatDoorQPFnUpDownx2
namespace Go.Proofs.YtkfmjkiefckgoaaGreatDoor.PFnUpDown
open Go.RowKit Go.Proofs.YtkfmjkiefckgoaaGreatDoor.H Go.Proofs.YtkfmjkiefckgoaaGreatDoor.PAroundOf Go.Proofs.YtkfmjkiefckgoaaGreatDoor.R Go.Proofs.YtkfmjkiefckgoaaGreatDoorW.PrintWords Go.Proofs.YtkfmjkiefckgoaaGreatDoorW.PrintLast Go.Proofs.YtkfmjkiefckgoaaGreatDoorW.PrintMore
attribute [local go_sem] max2_int min2_int max_two min_two max_three min_three max_four min_four   -- for this text's walks alone
set_option linter.unusedVariables false
set_option linter.unusedSimpArgs false
/-! ### laws_placed7: function 15 -/
def laws_placed7.j0 : Nat → Int → Bool → ByteArray → Int → ByteArray → Int → Option (Bool)
  | 0, _, _, _, _, _, _ => none
  | k + 1, x2, x25, x150000, x150001, x151000, x151001 => if x25 = true then (some false) else ((impl_AroundOf.f k x150000 x150001).bind fun bt151 => (if bt151.2.2.2.2.2.1 = x2 then ((spec_Column.f k x151000 x151001).bind fun t168 => (if bt151.2.2.2.2.2.2.1 = t168 then (some true) else ((spec_Column.f k x151000 x151001).bind fun t169 => (if bt151.2.2.2.2.2.2.1 < t169 then (some (bt151.2.2.2.1.toList == ([] : List UInt8))) else (some false))))) else (some false)))
def laws_placed7.f (k : Nat) (a0_0 : ByteArray) (a0_1 : Int) (a1_0 : ByteArray) (a1_1 : Int) (a2 : Int) : Option (Bool) := if a0_0.toList = a1_0.toList then (if a0_1 < 0 then (laws_placed7.j0 k a2 true a0_0 a0_1 a1_0 a1_1) else (laws_placed7.j0 k a2 (decide (a0_1 > (a0_0.size : Int))) a0_0 a0_1 a1_0 a1_1)) else (laws_placed7.j0 k a2 true a0_0 a0_1 a1_0 a1_1)
theorem laws_placed7.mono_l : ∀ k, (∀ y0 y1 y2 y3 y4 y5, LeO (laws_placed7.j0 k y0 y1 y2 y3 y4 y5) (laws_placed7.j0 (k + 1) y0 y1 y2 y3 y4 y5))
  | 0 => fun _ _ _ _ _ _ r h => by simp [laws_placed7.j0] at h
  | k + 1 => by
    have ih0 := laws_placed7.mono_l k
    · intro y0 y1 y2 y3 y4 y5
      unfold laws_placed7.j0
      repeat' first
      | (with_reducible exact ih0 _ _ _ _ _ _)
      | (with_reducible exact impl_AroundOf.mono _ _ _)
      | (with_reducible exact spec_Column.mono _ _ _)
      | (with_reducible exact LeO.refl _)
      | (with_reducible exact LeO.none _)
      | (with_reducible refine LeO.ite ?_ ?_)
      | (with_reducible refine LeO.bind ?_ (fun _ => ?_))
      | exact ih0 _ _ _ _ _ _
      | exact impl_AroundOf.mono _ _ _
      | exact spec_Column.mono _ _ _
      | exact LeO.none _
      | refine LeO.ite ?_ ?_
      | refine LeO.bind ?_ (fun _ => ?_)
theorem laws_placed7.mono : ∀ a0 a1 a2 a3 a4 k, LeO (laws_placed7.f k a0 a1 a2 a3 a4) (laws_placed7.f (k + 1) a0 a1 a2 a3 a4) := by
  intro a0 a1 a2 a3 a4 k
  have ih0 := laws_placed7.mono_l k
  unfold laws_placed7.f
  repeat' first
      | (with_reducible exact ih0 _ _ _ _ _ _)
      | (with_reducible exact impl_AroundOf.mono _ _ _)
      | (with_reducible exact spec_Column.mono _ _ _)
      | (with_reducible exact LeO.refl _)
      | (with_reducible exact LeO.none _)
      | (with_reducible refine LeO.ite ?_ ?_)
      | (with_reducible refine LeO.bind ?_ (fun _ => ?_))
      | exact ih0 _ _ _ _ _ _
      | exact impl_AroundOf.mono _ _ _
      | exact spec_Column.mono _ _ _
      | exact LeO.none _
      | refine LeO.ite ?_ ?_
      | refine LeO.bind ?_ (fun _ => ?_)
def laws_placed7.T4 : Bool × List (List Nat × List Nat) := (true, [([], []), ([0], [0]), ([], []), ([1, 2], [1, 2]), ([3], [3]), ([4], [4]), ([5, 4], [4, 5]), ([4], [4]), ([7, 4, 4], [4, 7]), ([6, 8, 4], [4, 6, 8]), ([9, 8, 4], [4, 9]), ([10], [10]), ([11, 10], [10, 11]), ([10], [10]), ([13, 10, 10], [10, 13]), ([12, 14, 10], [10, 12, 14]), ([15, 14, 10], [10, 15]), ([16], [16]), ([17, 16], [16, 17]), ([18, 16], [16, 18]), ([16, 19, 10], [10, 16, 19]), ([10, 20, 4], [4, 10, 20]), ([4, 21], [4, 21]), ([22, 16, 0, 1, 2, 3, 4, 5, 6, 7, 8, 9, 10, 11, 12, 13, 14, 15, 16, 17, 18, 19, 20, 21, 22], [22])])
def laws_placed7.B4 : List Nat := [0, 1, 0, 7, 15, 31, 63, 31, 159, 511, 1023, 2047, 4095, 2047, 10239, 32767, 65535, 131071, 262143, 524287, 1048575, 2097151, 4194303, 8388607]
theorem laws_placed7.tab4 : rtab .any (opsOf Tryz.f15 4) = laws_placed7.T4 := by kernel_rfl
theorem laws_placed7.bits4 : waitsOk laws_placed7.T4.2 laws_placed7.B4 = true := by kernel_rfl
set_option maxHeartbeats 8000000 in
set_option maxRecDepth 100000 in
theorem laws_placed7.calls (k : Nat) (a0_0 : ByteArray) (a0_1 : Int) (a1_0 : ByteArray) (a1_1 : Int) (a2 : Int) (r : Bool) (w : World) (h : laws_placed7.f k a0_0 a0_1 a1_0 a1_1 a2 = some r) :
    Calls Tryz.prog 15 #[.agg #[.string a0_0, .int .i64 a0_1], .agg #[.string a1_0, .int .i64 a1_1], .int .i64 a2] w fun e w' => e = .returned (.bool r) ∧ Below w.heap.size w w' := by
  have hu23 := Tryz.underlying23
  have hu40 := Tryz.underlying40
  have HB := Aside0.mk (Below.refl w.heap.size w)
  have H : (if a0_0.toList = a1_0.toList then (if a0_1 < 0 then (laws_placed7.j0 k a2 true a0_0 a0_1 a1_0 a1_1) else (laws_placed7.j0 k a2 (decide (a0_1 > (a0_0.size : Int))) a0_0 a0_1 a1_0 a1_1)) else (laws_placed7.j0 k a2 true a0_0 a0_1 a1_0 a1_1)) = some r := h
  clear h
  have HC4 := Aside0.mk H
  clear H
  go_enter Tryz.func15, Tryz.ntmps15
  go_upto_region 1 with (first | ((with_reducible refine gate_dst (N := 3) rfl ?_); (try (refine gate_guard (by rfl) ?_; dsimp only)); refine box_event ?hg (N := 3) ?hd (cs := #[.string a0_0, .int .i64 a0_1]) (t := 23) ?hr ?_; (case hd => rfl); (case hg => rfl); (case hr => first | (go_simp; done) | (go_simp; rfl)); intro gb149 hg w5 hbox hb; have n0_ := Aside0.mk (below_step (by repeat (first | (with_reducible first | exact HB.out | apply below_alloc | apply pw_below_drewN | apply below_drew1) | exact HB.out)) hb); have n1_ := Aside0.mk (hbox); have n2_ := Aside0.mk ((by rw [hg]; exact (below_size (by repeat (first | (with_reducible first | exact HB.out | apply below_alloc | apply pw_below_drewN | apply below_drew1) | exact HB.out))) : w.heap.size ≤ gb149)); have n3_ := Aside0.mk ((by rw [hg]; exact (below_size (by repeat (first | (with_reducible first | exact HB.out | apply below_alloc | apply pw_below_drewN | apply below_drew1) | exact HB.out))) : w.heap.size ≤ gb149)); clear HB; have HB := n0_; have BK149 := n1_; have GW149 := n2_; have GE149 := n3_; clear n0_ n1_ n2_ n3_; clear hb hbox hg) | ((with_reducible refine gate_dst (N := 4) rfl ?_); (try (refine gate_guard (by rfl) ?_; dsimp only)); refine box_event ?hg (N := 4) ?hd (cs := #[.string a1_0, .int .i64 a1_1]) (t := 23) ?hr ?_; (case hd => rfl); (case hg => rfl); (case hr => first | (go_simp; done) | (go_simp; rfl)); intro gb150 hg w6 hbox hb; have n0_ := Aside0.mk (blk_below (g := gb149) (o := .cells #[.string a0_0, .int .i64 a0_1] 23 (0, 0)) (by (with_reducible repeat (first | refine blk_drewN ?_ _ | refine blk_drew ?_ | refine blk_alloc ?_ _)); exact BK149.out) hb); have n1_ := Aside0.mk (below_step (by repeat (first | (with_reducible first | exact HB.out | apply below_alloc | apply pw_below_drewN | apply below_drew1 | refine below_set ?_ GE149.out) | exact HB.out)) hb); have n2_ := Aside0.mk (hbox); have n3_ := Aside0.mk ((by rw [hg]; exact (below_size (by repeat (first | (with_reducible first | exact HB.out | apply below_alloc | apply pw_below_drewN | apply below_drew1 | refine below_set ?_ GE149.out) | exact HB.out))) : w.heap.size ≤ gb150)); have n4_ := Aside0.mk ((by rw [hg]; exact (below_size (by repeat (first | (with_reducible first | exact HB.out | apply below_alloc | apply pw_below_drewN | apply below_drew1 | refine below_set ?_ GE149.out) | exact HB.out))) : w.heap.size ≤ gb150)); have n5_ := Aside0.mk ((by rw [hg]; exact Nat.ne_of_lt (blk_lt (g := gb149) (o := .cells #[.string a0_0, .int .i64 a0_1] 23 (0, 0)) (by (with_reducible repeat (first | refine blk_drewN ?_ _ | refine blk_drew ?_ | refine blk_alloc ?_ _)); exact BK149.out)) : gb149 ≠ gb150)); have n6_ := Aside0.mk ((by rw [hg]; exact Nat.ne_of_gt (blk_lt (g := gb149) (o := .cells #[.string a0_0, .int .i64 a0_1] 23 (0, 0)) (by (with_reducible repeat (first | refine blk_drewN ?_ _ | refine blk_drew ?_ | refine blk_alloc ?_ _)); exact BK149.out)) : gb150 ≠ gb149)); clear BK149; clear HB; have BK149 := n0_; have HB := n1_; have BK150 := n2_; have GW150 := n3_; have GE150 := n4_; have NB149_150 := n5_; have NB150_149 := n6_; clear n0_ n1_ n2_ n3_ n4_ n5_ n6_; clear hb hbox hg))
  (try simp only [Act.put, List.setIfInBounds_toArray, List.set_cons_zero, List.set_cons_succ])
  go_cut [25] (fun v25 wc => ∃ (kq : Nat) (x25_3 : Bool), v25 = .bool x25_3 ∧ Aside0 (laws_placed7.j0 kq a2 x25_3 a0_0 a0_1 a1_0 a1_1 = some r) ∧ Aside0 (kq ≤ k) ∧ Aside0 (wc.heap[gb149]? = some (.cells #[.string a0_0, .int .i64 a0_1] 23 (0, 0))) ∧ Aside0 (wc.heap[gb150]? = some (.cells #[.string a1_0, .int .i64 a1_1] 23 (0, 0))) ∧ Aside0 (Below w.heap.size w wc))
  case first =>
    have H := HC4.out
    clear HC4
    by_cases c7 : a0_0.toList = a1_0.toList
    · rw [if_pos c7] at H
      have c7b0 : (a0_0.toList == a1_0.toList) = true := beq_iff_eq.mpr c7
      have c7b1 : (a0_0.toList != a1_0.toList) = false := bne_eq_false_iff_eq.mpr c7
      clear c7
      (first | rw [c7b0] | (simp only [i64_w, i32_w]; rw [c7b0]) | skip)
      by_cases c8 : a0_1 < 0
      · rw [if_pos c8] at H
        have c8b0 : decide (a0_1 < 0) = true := decide_eq_true c8
        clear c8
        have H' := Aside0.mk H
        clear H
        have hnb9 := NB149_150.out
        have hnc9 := NB150_149.out
        have hcz10_0 : w6.cell? ⟨gb149, 0, none⟩ = some (.string a0_0) := (blk_cell BK149.out 0).trans rfl
        have hcz10_1 : w6.cell? ⟨gb149, 1, none⟩ = some (.int .i64 a0_1) := (blk_cell BK149.out 1).trans rfl
        have hfz10_0 := blk_frozen BK149.out 0
        have hfz10_1 := blk_frozen BK149.out 1
        have hcz11_0 : w6.cell? ⟨gb150, 0, none⟩ = some (.string a1_0) := (blk_cell BK150.out 0).trans rfl
        have hcz11_1 : w6.cell? ⟨gb150, 1, none⟩ = some (.int .i64 a1_1) := (blk_cell BK150.out 1).trans rfl
        have hfz11_0 := blk_frozen BK150.out 0
        have hfz11_1 := blk_frozen BK150.out 1
        go_wp2
        go_meet
        case rel => exact ⟨_, (true), (by first | rfl | (simp; done) | (simp [*]; done)), H', ⟨by first | omega | exact Nat.le_refl _⟩, ⟨by (with_reducible repeat (first | refine blk_drewN ?_ _ | refine blk_drew ?_ | refine blk_alloc ?_ _)); exact BK149.out⟩, ⟨by (with_reducible repeat (first | refine blk_drewN ?_ _ | refine blk_drew ?_ | refine blk_alloc ?_ _)); exact BK150.out⟩, ⟨by repeat (first | (with_reducible first | exact HB.out | apply below_alloc | apply pw_below_drewN | apply below_drew1 | refine below_set ?_ GE149.out | refine below_set ?_ GE150.out) | exact HB.out)⟩⟩
      · rw [if_neg c8] at H
        have c8b0 : decide (a0_1 < 0) = false := decide_eq_false c8
        clear c8
        have H' := Aside0.mk H
        clear H
        have hnb12 := NB149_150.out
        have hnc12 := NB150_149.out
        have hcz13_0 : w6.cell? ⟨gb149, 0, none⟩ = some (.string a0_0) := (blk_cell BK149.out 0).trans rfl
        have hcz13_1 : w6.cell? ⟨gb149, 1, none⟩ = some (.int .i64 a0_1) := (blk_cell BK149.out 1).trans rfl
        have hfz13_0 := blk_frozen BK149.out 0
        have hfz13_1 := blk_frozen BK149.out 1
        have hcz14_0 : w6.cell? ⟨gb150, 0, none⟩ = some (.string a1_0) := (blk_cell BK150.out 0).trans rfl
        have hcz14_1 : w6.cell? ⟨gb150, 1, none⟩ = some (.int .i64 a1_1) := (blk_cell BK150.out 1).trans rfl
        have hfz14_0 := blk_frozen BK150.out 0
        have hfz14_1 := blk_frozen BK150.out 1
        go_wp2
        go_meet
        case rel => exact ⟨_, (decide (a0_1 > (a0_0.size : Int))), (by first | rfl | (simp; done) | (simp [*]; done)), H', ⟨by first | omega | exact Nat.le_refl _⟩, ⟨by (with_reducible repeat (first | refine blk_drewN ?_ _ | refine blk_drew ?_ | refine blk_alloc ?_ _)); exact BK149.out⟩, ⟨by (with_reducible repeat (first | refine blk_drewN ?_ _ | refine blk_drew ?_ | refine blk_alloc ?_ _)); exact BK150.out⟩, ⟨by repeat (first | (with_reducible first | exact HB.out | apply below_alloc | apply pw_below_drewN | apply below_drew1 | refine below_set ?_ GE149.out | refine below_set ?_ GE150.out) | exact HB.out)⟩⟩
    · rw [if_neg c7] at H
      have c7b0 : (a0_0.toList == a1_0.toList) = false := beq_eq_false_iff_ne.mpr c7
      have c7b1 : (a0_0.toList != a1_0.toList) = true := bne_iff_ne.mpr c7
      (first | rw [c7b0] | (simp only [i64_w, i32_w]; rw [c7b0]) | skip)
      have H' := Aside0.mk H
      clear H
      have hnb15 := NB149_150.out
      have hnc15 := NB150_149.out
      have hcz16_0 : w6.cell? ⟨gb149, 0, none⟩ = some (.string a0_0) := (blk_cell BK149.out 0).trans rfl
      have hcz16_1 : w6.cell? ⟨gb149, 1, none⟩ = some (.int .i64 a0_1) := (blk_cell BK149.out 1).trans rfl
      have hfz16_0 := blk_frozen BK149.out 0
      have hfz16_1 := blk_frozen BK149.out 1
      have hcz17_0 : w6.cell? ⟨gb150, 0, none⟩ = some (.string a1_0) := (blk_cell BK150.out 0).trans rfl
      have hcz17_1 : w6.cell? ⟨gb150, 1, none⟩ = some (.int .i64 a1_1) := (blk_cell BK150.out 1).trans rfl
      have hfz17_0 := blk_frozen BK150.out 0
      have hfz17_1 := blk_frozen BK150.out 1
      go_wp2
      go_meet
      case rel => exact ⟨_, (true), (by first | rfl | (simp; done) | (simp [*]; done)), H', ⟨by first | omega | exact Nat.le_refl _⟩, ⟨by (with_reducible repeat (first | refine blk_drewN ?_ _ | refine blk_drew ?_ | refine blk_alloc ?_ _)); exact BK149.out⟩, ⟨by (with_reducible repeat (first | refine blk_drewN ?_ _ | refine blk_drew ?_ | refine blk_alloc ?_ _)); exact BK150.out⟩, ⟨by repeat (first | (with_reducible first | exact HB.out | apply below_alloc | apply pw_below_drewN | apply below_drew1 | refine below_set ?_ GE149.out | refine below_set ?_ GE150.out) | exact HB.out)⟩⟩
  case rest =>
    clear HC4
    try clear c1
    try clear p2
    try clear c7
    try clear c7b0
    try clear c7b1
    try clear c8
    try clear c8b0
    try clear c9
    try clear c12
    try clear c15
    try clear hcz10_0
    try clear hcz10_1
    try clear hcz11_0
    try clear hcz11_1
    try clear hcz13_0
    try clear hcz13_1
    try clear hcz14_0
    try clear hcz14_1
    try clear hcz16_0
    try clear hcz16_1
    try clear hcz17_0
    try clear hcz17_1
    try clear hfz10_0
    try clear hfz10_1
    try clear hfz11_0
    try clear hfz11_1
    try clear hfz13_0
    try clear hfz13_1
    try clear hfz14_0
    try clear hfz14_1
    try clear hfz16_0
    try clear hfz16_1
    try clear hfz17_0
    try clear hfz17_1
    obtain ⟨kq, x25_3, rfl, HA, HJ3, BK149, BK150, HB⟩ := hcut
    cases kq with
    | zero => exact absurd HA.out (by simp [laws_placed7.j0])
    | succ kj3 =>
      have H := HA.out
      clear HA
      simp only [laws_placed7.j0] at H
      by_cases c18 : x25_3 = true
      · subst c18
        have H1 : (some false) = some r := by rw [if_pos rfl] at H; exact H
        clear H
        have H := H1
        clear H1
        obtain rfl := Option.some.inj H
        go_wp2
        go_ret
        exact ⟨by first | rfl | (simp [errW_none, errW_some] <;> rfl) | (simp [*, errW_none, errW_some] <;> rfl), by repeat (first | (with_reducible first | exact HB.out | apply below_alloc | apply pw_below_drewN | apply below_drew1 | refine below_set ?_ GE149.out | refine below_set ?_ GE150.out) | exact HB.out)⟩
      · replace c18 := Bool.eq_false_iff.mpr c18
        subst c18
        have H1 : ((impl_AroundOf.f kj3 a0_0 a0_1).bind fun bt151 => (if bt151.2.2.2.2.2.1 = a2 then ((spec_Column.f kj3 a1_0 a1_1).bind fun t168 => (if bt151.2.2.2.2.2.2.1 = t168 then (some true) else ((spec_Column.f kj3 a1_0 a1_1).bind fun t169 => (if bt151.2.2.2.2.2.2.1 < t169 then (some (bt151.2.2.2.1.toList == ([] : List UInt8))) else (some false))))) else (some false))) = some r := by rw [if_neg (show ¬ (false = true) by decide)] at H; exact H
        clear H
        have H := H1
        clear H1
        replace H := Option.bind_eq_some_iff.mp H
        obtain ⟨⟨t151, t152, t153, t154, t155, t156, t157, t158, t161, t162, t163, t164, t165, t166⟩, A190, H⟩ := H
        replace H : (if t156 = a2 then ((spec_Column.f kj3 a1_0 a1_1).bind fun t168 => (if t157 = t168 then (some true) else ((spec_Column.f kj3 a1_0 a1_1).bind fun t169 => (if t157 < t169 then (some (t154.toList == ([] : List UInt8))) else (some false))))) else (some false)) = some r := H
        have A19 := Aside0.mk A190
        clear A190
        by_cases c20 : t156 = a2
        · rw [if_pos c20] at H
          have c20b0 : (t156 == a2) = true := beq_iff_eq.mpr c20
          have c20b1 : (t156 != a2) = false := bne_eq_false_iff_eq.mpr c20
          clear c20
          replace H := Option.bind_eq_some_iff.mp H
          obtain ⟨t168, A210, H⟩ := H
          replace H : (if t157 = t168 then (some true) else ((spec_Column.f kj3 a1_0 a1_1).bind fun t169 => (if t157 < t169 then (some (t154.toList == ([] : List UInt8))) else (some false)))) = some r := H
          have A21 := Aside0.mk A210
          clear A210
          by_cases c22 : t157 = t168
          · rw [if_pos c22] at H
            have c22b0 : (t157 == t168) = true := beq_iff_eq.mpr c22
            have c22b1 : (t157 != t168) = false := bne_eq_false_iff_eq.mpr c22
            clear c22
            obtain rfl := Option.some.inj H
            have hnb23 := NB149_150.out
            have hnc23 := NB150_149.out
            have hcz24_0 : wc.cell? ⟨gb149, 0, none⟩ = some (.string a0_0) := (blk_cell BK149.out 0).trans rfl
            have hcz24_1 : wc.cell? ⟨gb149, 1, none⟩ = some (.int .i64 a0_1) := (blk_cell BK149.out 1).trans rfl
            have hfz24_0 := blk_frozen BK149.out 0
            have hfz24_1 := blk_frozen BK149.out 1
            try go_wp2_with (first | ((with_reducible refine gate_callee (f := 16) rfl ?_); refine goesL_ (some 27) rfl rfl Tryz.func16 (by kernel_rfl) rfl #[.agg #[.string a0_0, .int .i64 a0_1]] rfl (by (try simp only [List.map_toArray, List.map_cons, List.map_nil]); first | done | rfl | (simp only [List.length_drop, List.length_take]; rfl) | (simp only [Int.toNat_natCast, ByteArray.extract_zero_size]; rfl)) ?_; (with_reducible refine (impl_AroundOf.calls kj3 a0_0 a0_1 t151 t152 t153 t154 t155 t156 t157 t158 t161 t162 t163 t164 t165 t166 _ A19.out).mono ?_); rintro e w25 ⟨v159, rfl, ho0, hb⟩; refine ⟨_, rfl, ?_⟩; have n0_ := Aside0.mk (Kd.R_lower ho0 (below_size (by repeat (first | (with_reducible first | exact HB.out | apply below_alloc | apply pw_below_drewN | apply below_drew1 | refine below_set ?_ GE149.out | refine below_set ?_ GE150.out) | exact HB.out)))); have n1_ := Aside0.mk (blk_below (g := gb149) (o := .cells #[.string a0_0, .int .i64 a0_1] 23 (0, 0)) (by (with_reducible repeat (first | refine blk_drewN ?_ _ | refine blk_drew ?_ | refine blk_alloc ?_ _)); exact BK149.out) hb); have n2_ := Aside0.mk (blk_below (g := gb150) (o := .cells #[.string a1_0, .int .i64 a1_1] 23 (0, 0)) (by (with_reducible repeat (first | refine blk_drewN ?_ _ | refine blk_drew ?_ | refine blk_alloc ?_ _)); exact BK150.out) hb); have n3_ := Aside0.mk (below_step (by repeat (first | (with_reducible first | exact HB.out | apply below_alloc | apply pw_below_drewN | apply below_drew1 | refine below_set ?_ GE149.out | refine below_set ?_ GE150.out) | exact HB.out)) hb); clear BK149; clear BK150; clear HB; have HO160 := n0_; have BK149 := n1_; have BK150 := n2_; have HB := n3_; clear n0_ n1_ n2_ n3_; (try clear hb); (try clear hb2); (try clear hk); (try clear hi); (try clear ho0)) | ((with_reducible refine gate_dst (N := 7) rfl ?_); (try (refine gate_guard (by rfl) ?_; dsimp only)); refine box_event ?hg (N := 7) ?hd (cs := #[.string (⟨#[]⟩ : ByteArray), .string (⟨#[]⟩ : ByteArray), .string (⟨#[]⟩ : ByteArray), .string (⟨#[]⟩ : ByteArray), .string (⟨#[]⟩ : ByteArray), .int .i64 0, .int .i64 0, .slice none 0 0, .bool false, .int .i64 0, .string (⟨#[]⟩ : ByteArray), .string (⟨#[]⟩ : ByteArray), .string (⟨#[]⟩ : ByteArray), .string (⟨#[]⟩ : ByteArray)]) (t := 40) ?hr ?_; (case hd => rfl); (case hg => rfl); (case hr => first | (go_simp; done) | (go_simp; rfl)); intro gb167 hg w26 hbox hb; have n0_ := Aside0.mk (Kd.R_below (by (with_reducible repeat (first | apply Kd.R_alloc | apply Kd.R_drewN | apply Kd.R_drew)); exact HO160.out) hb); have n1_ := Aside0.mk (blk_below (g := gb149) (o := .cells #[.string a0_0, .int .i64 a0_1] 23 (0, 0)) (by (with_reducible repeat (first | refine blk_drewN ?_ _ | refine blk_drew ?_ | refine blk_alloc ?_ _)); exact BK149.out) hb); have n2_ := Aside0.mk (blk_below (g := gb150) (o := .cells #[.string a1_0, .int .i64 a1_1] 23 (0, 0)) (by (with_reducible repeat (first | refine blk_drewN ?_ _ | refine blk_drew ?_ | refine blk_alloc ?_ _)); exact BK150.out) hb); have n3_ := Aside0.mk (below_step (by repeat (first | (with_reducible first | exact HB.out | apply below_alloc | apply pw_below_drewN | apply below_drew1 | refine below_set ?_ GE149.out | refine below_set ?_ GE150.out) | exact HB.out)) hb); have n4_ := Aside0.mk (hbox); have n5_ := Aside0.mk ((by rw [hg]; exact (below_size (by repeat (first | (with_reducible first | exact HB.out | apply below_alloc | apply pw_below_drewN | apply below_drew1 | refine below_set ?_ GE149.out | refine below_set ?_ GE150.out) | exact HB.out))) : w.heap.size ≤ gb167)); have n6_ := Aside0.mk ((by rw [hg]; exact (below_size (by repeat (first | (with_reducible first | exact HB.out | apply below_alloc | apply pw_below_drewN | apply below_drew1 | refine below_set ?_ GE149.out | refine below_set ?_ GE150.out) | exact HB.out))) : w.heap.size ≤ gb167)); have n7_ := Aside0.mk ((by rw [hg]; exact Nat.ne_of_lt (blk_lt (g := gb149) (o := .cells #[.string a0_0, .int .i64 a0_1] 23 (0, 0)) (by (with_reducible repeat (first | refine blk_drewN ?_ _ | refine blk_drew ?_ | refine blk_alloc ?_ _)); exact BK149.out)) : gb149 ≠ gb167)); have n8_ := Aside0.mk ((by rw [hg]; exact Nat.ne_of_gt (blk_lt (g := gb149) (o := .cells #[.string a0_0, .int .i64 a0_1] 23 (0, 0)) (by (with_reducible repeat (first | refine blk_drewN ?_ _ | refine blk_drew ?_ | refine blk_alloc ?_ _)); exact BK149.out)) : gb167 ≠ gb149)); have n9_ := Aside0.mk ((by rw [hg]; exact Nat.ne_of_lt (blk_lt (g := gb150) (o := .cells #[.string a1_0, .int .i64 a1_1] 23 (0, 0)) (by (with_reducible repeat (first | refine blk_drewN ?_ _ | refine blk_drew ?_ | refine blk_alloc ?_ _)); exact BK150.out)) : gb150 ≠ gb167)); have n10_ := Aside0.mk ((by rw [hg]; exact Nat.ne_of_gt (blk_lt (g := gb150) (o := .cells #[.string a1_0, .int .i64 a1_1] 23 (0, 0)) (by (with_reducible repeat (first | refine blk_drewN ?_ _ | refine blk_drew ?_ | refine blk_alloc ?_ _)); exact BK150.out)) : gb167 ≠ gb150)); clear HO160; clear BK149; clear BK150; clear HB; have HO160 := n0_; have BK149 := n1_; have BK150 := n2_; have HB := n3_; have BK167 := n4_; have GW167 := n5_; have GE167 := n6_; have NB149_167 := n7_; have NB167_149 := n8_; have NB150_167 := n9_; have NB167_150 := n10_; clear n0_ n1_ n2_ n3_ n4_ n5_ n6_ n7_ n8_ n9_ n10_; clear hb hbox hg; have hnb27 := NB167_149.out; have hnc27 := NB149_167.out; have hnb28 := NB167_150.out; have hnc28 := NB150_167.out; have hcz29_0 : w26.cell? ⟨gb167, 0, none⟩ = some (.string (⟨#[]⟩ : ByteArray)) := (blk_cell BK167.out 0).trans rfl; have hcz29_1 : w26.cell? ⟨gb167, 1, none⟩ = some (.string (⟨#[]⟩ : ByteArray)) := (blk_cell BK167.out 1).trans rfl; have hcz29_2 : w26.cell? ⟨gb167, 2, none⟩ = some (.string (⟨#[]⟩ : ByteArray)) := (blk_cell BK167.out 2).trans rfl; have hcz29_3 : w26.cell? ⟨gb167, 3, none⟩ = some (.string (⟨#[]⟩ : ByteArray)) := (blk_cell BK167.out 3).trans rfl; have hcz29_4 : w26.cell? ⟨gb167, 4, none⟩ = some (.string (⟨#[]⟩ : ByteArray)) := (blk_cell BK167.out 4).trans rfl; have hcz29_5 : w26.cell? ⟨gb167, 5, none⟩ = some (.int .i64 0) := (blk_cell BK167.out 5).trans rfl; have hcz29_6 : w26.cell? ⟨gb167, 6, none⟩ = some (.int .i64 0) := (blk_cell BK167.out 6).trans rfl; have hcz29_7 : w26.cell? ⟨gb167, 7, none⟩ = some (.slice none 0 0) := (blk_cell BK167.out 7).trans rfl; have hcz29_8 : w26.cell? ⟨gb167, 8, none⟩ = some (.bool false) := (blk_cell BK167.out 8).trans rfl; have hcz29_9 : w26.cell? ⟨gb167, 9, none⟩ = some (.int .i64 0) := (blk_cell BK167.out 9).trans rfl; have hcz29_10 : w26.cell? ⟨gb167, 10, none⟩ = some (.string (⟨#[]⟩ : ByteArray)) := (blk_cell BK167.out 10).trans rfl; have hcz29_11 : w26.cell? ⟨gb167, 11, none⟩ = some (.string (⟨#[]⟩ : ByteArray)) := (blk_cell BK167.out 11).trans rfl; have hcz29_12 : w26.cell? ⟨gb167, 12, none⟩ = some (.string (⟨#[]⟩ : ByteArray)) := (blk_cell BK167.out 12).trans rfl; have hcz29_13 : w26.cell? ⟨gb167, 13, none⟩ = some (.string (⟨#[]⟩ : ByteArray)) := (blk_cell BK167.out 13).trans rfl; have hfz29_0 := blk_frozen BK167.out 0; have hfz29_1 := blk_frozen BK167.out 1; have hfz29_2 := blk_frozen BK167.out 2; have hfz29_3 := blk_frozen BK167.out 3; have hfz29_4 := blk_frozen BK167.out 4; have hfz29_5 := blk_frozen BK167.out 5; have hfz29_6 := blk_frozen BK167.out 6; have hfz29_7 := blk_frozen BK167.out 7; have hfz29_8 := blk_frozen BK167.out 8; have hfz29_9 := blk_frozen BK167.out 9; have hfz29_10 := blk_frozen BK167.out 10; have hfz29_11 := blk_frozen BK167.out 11; have hfz29_12 := blk_frozen BK167.out 12; have hfz29_13 := blk_frozen BK167.out 13; obtain ⟨Ao30, co30, eo30⟩ := Kd.R_slice HO160.out; subst eo30))
            have n0_ : Aside0 (Kd.R Kd.string 9 ((((((((((((((w26.setCell ⟨gb167, 0, none⟩ (.string t151)).setCell ⟨gb167, 1, none⟩ (.string t152)).setCell ⟨gb167, 2, none⟩ (.string t153)).setCell ⟨gb167, 3, none⟩ (.string t154)).setCell ⟨gb167, 4, none⟩ (.string t155)).setCell ⟨gb167, 5, none⟩ (.int .i64 t156)).setCell ⟨gb167, 6, none⟩ (.int .i64 t157)).setCell ⟨gb167, 7, none⟩ (.slice Ao30 t158.length co30)).setCell ⟨gb167, 8, none⟩ (.bool t161)).setCell ⟨gb167, 9, none⟩ (.int .i64 t162)).setCell ⟨gb167, 10, none⟩ (.string t163)).setCell ⟨gb167, 11, none⟩ (.string t164)).setCell ⟨gb167, 12, none⟩ (.string t165)).setCell ⟨gb167, 13, none⟩ (.string t166)) w.heap.size (fun _ => True) (.slice Ao30 t158.length co30) t158) := ⟨by (with_reducible repeat (first | apply Kd.R_alloc | apply Kd.R_drewN | apply Kd.R_drew)); exact Kd.R_mono (Kd.R_far (p := ⟨gb167, 13, none⟩) (Kd.R_far (p := ⟨gb167, 12, none⟩) (Kd.R_far (p := ⟨gb167, 11, none⟩) (Kd.R_far (p := ⟨gb167, 10, none⟩) (Kd.R_far (p := ⟨gb167, 9, none⟩) (Kd.R_far (p := ⟨gb167, 8, none⟩) (Kd.R_far (p := ⟨gb167, 7, none⟩) (Kd.R_far (p := ⟨gb167, 6, none⟩) (Kd.R_far (p := ⟨gb167, 5, none⟩) (Kd.R_far (p := ⟨gb167, 4, none⟩) (Kd.R_far (p := ⟨gb167, 3, none⟩) (Kd.R_far (p := ⟨gb167, 2, none⟩) (Kd.R_far (p := ⟨gb167, 1, none⟩) (Kd.R_far (p := ⟨gb167, 0, none⟩) (Kd.R_types HO160.out BK167.out (by decide)) (fun _ hk => hk.2) (.string t151)) (fun _ hk => hk.2) (.string t152)) (fun _ hk => hk.2) (.string t153)) (fun _ hk => hk.2) (.string t154)) (fun _ hk => hk.2) (.string t155)) (fun _ hk => hk.2) (.int .i64 t156)) (fun _ hk => hk.2) (.int .i64 t157)) (fun _ hk => hk.2) (.slice Ao30 t158.length co30)) (fun _ hk => hk.2) (.bool t161)) (fun _ hk => hk.2) (.int .i64 t162)) (fun _ hk => hk.2) (.string t163)) (fun _ hk => hk.2) (.string t164)) (fun _ hk => hk.2) (.string t165)) (fun _ hk => hk.2) (.string t166)) (fun _ hk => trivial)⟩
            have n1_ : Aside0 (((((((((((((((w26.setCell ⟨gb167, 0, none⟩ (.string t151)).setCell ⟨gb167, 1, none⟩ (.string t152)).setCell ⟨gb167, 2, none⟩ (.string t153)).setCell ⟨gb167, 3, none⟩ (.string t154)).setCell ⟨gb167, 4, none⟩ (.string t155)).setCell ⟨gb167, 5, none⟩ (.int .i64 t156)).setCell ⟨gb167, 6, none⟩ (.int .i64 t157)).setCell ⟨gb167, 7, none⟩ (.slice Ao30 t158.length co30)).setCell ⟨gb167, 8, none⟩ (.bool t161)).setCell ⟨gb167, 9, none⟩ (.int .i64 t162)).setCell ⟨gb167, 10, none⟩ (.string t163)).setCell ⟨gb167, 11, none⟩ (.string t164)).setCell ⟨gb167, 12, none⟩ (.string t165)).setCell ⟨gb167, 13, none⟩ (.string t166)).heap[gb149]? = some (.cells #[.string a0_0, .int .i64 a0_1] 23 (0, 0))) := ⟨by (with_reducible repeat (first | refine blk_drewN ?_ _ | refine blk_drew ?_ | refine blk_alloc ?_ _)); refine blk_far ?_ NB149_167.out _; (with_reducible repeat (first | refine blk_drewN ?_ _ | refine blk_drew ?_ | refine blk_alloc ?_ _)); refine blk_far ?_ NB149_167.out _; (with_reducible repeat (first | refine blk_drewN ?_ _ | refine blk_drew ?_ | refine blk_alloc ?_ _)); refine blk_far ?_ NB149_167.out _; (with_reducible repeat (first | refine blk_drewN ?_ _ | refine blk_drew ?_ | refine blk_alloc ?_ _)); refine blk_far ?_ NB149_167.out _; (with_reducible repeat (first | refine blk_drewN ?_ _ | refine blk_drew ?_ | refine blk_alloc ?_ _)); refine blk_far ?_ NB149_167.out _; (with_reducible repeat (first | refine blk_drewN ?_ _ | refine blk_drew ?_ | refine blk_alloc ?_ _)); refine blk_far ?_ NB149_167.out _; (with_reducible repeat (first | refine blk_drewN ?_ _ | refine blk_drew ?_ | refine blk_alloc ?_ _)); refine blk_far ?_ NB149_167.out _; (with_reducible repeat (first | refine blk_drewN ?_ _ | refine blk_drew ?_ | refine blk_alloc ?_ _)); refine blk_far ?_ NB149_167.out _; (with_reducible repeat (first | refine blk_drewN ?_ _ | refine blk_drew ?_ | refine blk_alloc ?_ _)); refine blk_far ?_ NB149_167.out _; (with_reducible repeat (first | refine blk_drewN ?_ _ | refine blk_drew ?_ | refine blk_alloc ?_ _)); refine blk_far ?_ NB149_167.out _; (with_reducible repeat (first | refine blk_drewN ?_ _ | refine blk_drew ?_ | refine blk_alloc ?_ _)); refine blk_far ?_ NB149_167.out _; (with_reducible repeat (first | refine blk_drewN ?_ _ | refine blk_drew ?_ | refine blk_alloc ?_ _)); refine blk_far ?_ NB149_167.out _; (with_reducible repeat (first | refine blk_drewN ?_ _ | refine blk_drew ?_ | refine blk_alloc ?_ _)); refine blk_far ?_ NB149_167.out _; (with_reducible repeat (first | refine blk_drewN ?_ _ | refine blk_drew ?_ | refine blk_alloc ?_ _)); refine blk_far ?_ NB149_167.out _; (with_reducible repeat (first | refine blk_drewN ?_ _ | refine blk_drew ?_ | refine blk_alloc ?_ _)); exact BK149.out⟩
            have n2_ : Aside0 (((((((((((((((w26.setCell ⟨gb167, 0, none⟩ (.string t151)).setCell ⟨gb167, 1, none⟩ (.string t152)).setCell ⟨gb167, 2, none⟩ (.string t153)).setCell ⟨gb167, 3, none⟩ (.string t154)).setCell ⟨gb167, 4, none⟩ (.string t155)).setCell ⟨gb167, 5, none⟩ (.int .i64 t156)).setCell ⟨gb167, 6, none⟩ (.int .i64 t157)).setCell ⟨gb167, 7, none⟩ (.slice Ao30 t158.length co30)).setCell ⟨gb167, 8, none⟩ (.bool t161)).setCell ⟨gb167, 9, none⟩ (.int .i64 t162)).setCell ⟨gb167, 10, none⟩ (.string t163)).setCell ⟨gb167, 11, none⟩ (.string t164)).setCell ⟨gb167, 12, none⟩ (.string t165)).setCell ⟨gb167, 13, none⟩ (.string t166)).heap[gb150]? = some (.cells #[.string a1_0, .int .i64 a1_1] 23 (0, 0))) := ⟨by (with_reducible repeat (first | refine blk_drewN ?_ _ | refine blk_drew ?_ | refine blk_alloc ?_ _)); refine blk_far ?_ NB150_167.out _; (with_reducible repeat (first | refine blk_drewN ?_ _ | refine blk_drew ?_ | refine blk_alloc ?_ _)); refine blk_far ?_ NB150_167.out _; (with_reducible repeat (first | refine blk_drewN ?_ _ | refine blk_drew ?_ | refine blk_alloc ?_ _)); refine blk_far ?_ NB150_167.out _; (with_reducible repeat (first | refine blk_drewN ?_ _ | refine blk_drew ?_ | refine blk_alloc ?_ _)); refine blk_far ?_ NB150_167.out _; (with_reducible repeat (first | refine blk_drewN ?_ _ | refine blk_drew ?_ | refine blk_alloc ?_ _)); refine blk_far ?_ NB150_167.out _; (with_reducible repeat (first | refine blk_drewN ?_ _ | refine blk_drew ?_ | refine blk_alloc ?_ _)); refine blk_far ?_ NB150_167.out _; (with_reducible repeat (first | refine blk_drewN ?_ _ | refine blk_drew ?_ | refine blk_alloc ?_ _)); refine blk_far ?_ NB150_167.out _; (with_reducible repeat (first | refine blk_drewN ?_ _ | refine blk_drew ?_ | refine blk_alloc ?_ _)); refine blk_far ?_ NB150_167.out _; (with_reducible repeat (first | refine blk_drewN ?_ _ | refine blk_drew ?_ | refine blk_alloc ?_ _)); refine blk_far ?_ NB150_167.out _; (with_reducible repeat (first | refine blk_drewN ?_ _ | refine blk_drew ?_ | refine blk_alloc ?_ _)); refine blk_far ?_ NB150_167.out _; (with_reducible repeat (first | refine blk_drewN ?_ _ | refine blk_drew ?_ | refine blk_alloc ?_ _)); refine blk_far ?_ NB150_167.out _; (with_reducible repeat (first | refine blk_drewN ?_ _ | refine blk_drew ?_ | refine blk_alloc ?_ _)); refine blk_far ?_ NB150_167.out _; (with_reducible repeat (first | refine blk_drewN ?_ _ | refine blk_drew ?_ | refine blk_alloc ?_ _)); refine blk_far ?_ NB150_167.out _; (with_reducible repeat (first | refine blk_drewN ?_ _ | refine blk_drew ?_ | refine blk_alloc ?_ _)); refine blk_far ?_ NB150_167.out _; (with_reducible repeat (first | refine blk_drewN ?_ _ | refine blk_drew ?_ | refine blk_alloc ?_ _)); exact BK150.out⟩
            have n3_ : Aside0 (((((((((((((((w26.setCell ⟨gb167, 0, none⟩ (.string t151)).setCell ⟨gb167, 1, none⟩ (.string t152)).setCell ⟨gb167, 2, none⟩ (.string t153)).setCell ⟨gb167, 3, none⟩ (.string t154)).setCell ⟨gb167, 4, none⟩ (.string t155)).setCell ⟨gb167, 5, none⟩ (.int .i64 t156)).setCell ⟨gb167, 6, none⟩ (.int .i64 t157)).setCell ⟨gb167, 7, none⟩ (.slice Ao30 t158.length co30)).setCell ⟨gb167, 8, none⟩ (.bool t161)).setCell ⟨gb167, 9, none⟩ (.int .i64 t162)).setCell ⟨gb167, 10, none⟩ (.string t163)).setCell ⟨gb167, 11, none⟩ (.string t164)).setCell ⟨gb167, 12, none⟩ (.string t165)).setCell ⟨gb167, 13, none⟩ (.string t166)).heap[gb167]? = some (.cells #[.string t151, .string t152, .string t153, .string t154, .string t155, .int .i64 t156, .int .i64 t157, .slice Ao30 t158.length co30, .bool t161, .int .i64 t162, .string t163, .string t164, .string t165, .string t166] 40 (0, 0))) := ⟨by (with_reducible repeat (first | refine blk_drewN ?_ _ | refine blk_drew ?_ | refine blk_alloc ?_ _)); refine blk_put (cs := #[.string t151, .string t152, .string t153, .string t154, .string t155, .int .i64 t156, .int .i64 t157, .slice Ao30 t158.length co30, .bool t161, .int .i64 t162, .string t163, .string t164, .string t165, .string (⟨#[]⟩ : ByteArray)]) ?_ 13 _ rfl; (with_reducible repeat (first | refine blk_drewN ?_ _ | refine blk_drew ?_ | refine blk_alloc ?_ _)); refine blk_put (cs := #[.string t151, .string t152, .string t153, .string t154, .string t155, .int .i64 t156, .int .i64 t157, .slice Ao30 t158.length co30, .bool t161, .int .i64 t162, .string t163, .string t164, .string (⟨#[]⟩ : ByteArray), .string (⟨#[]⟩ : ByteArray)]) ?_ 12 _ rfl; (with_reducible repeat (first | refine blk_drewN ?_ _ | refine blk_drew ?_ | refine blk_alloc ?_ _)); refine blk_put (cs := #[.string t151, .string t152, .string t153, .string t154, .string t155, .int .i64 t156, .int .i64 t157, .slice Ao30 t158.length co30, .bool t161, .int .i64 t162, .string t163, .string (⟨#[]⟩ : ByteArray), .string (⟨#[]⟩ : ByteArray), .string (⟨#[]⟩ : ByteArray)]) ?_ 11 _ rfl; (with_reducible repeat (first | refine blk_drewN ?_ _ | refine blk_drew ?_ | refine blk_alloc ?_ _)); refine blk_put (cs := #[.string t151, .string t152, .string t153, .string t154, .string t155, .int .i64 t156, .int .i64 t157, .slice Ao30 t158.length co30, .bool t161, .int .i64 t162, .string (⟨#[]⟩ : ByteArray), .string (⟨#[]⟩ : ByteArray), .string (⟨#[]⟩ : ByteArray), .string (⟨#[]⟩ : ByteArray)]) ?_ 10 _ rfl; (with_reducible repeat (first | refine blk_drewN ?_ _ | refine blk_drew ?_ | refine blk_alloc ?_ _)); refine blk_put (cs := #[.string t151, .string t152, .string t153, .string t154, .string t155, .int .i64 t156, .int .i64 t157, .slice Ao30 t158.length co30, .bool t161, .int .i64 0, .string (⟨#[]⟩ : ByteArray), .string (⟨#[]⟩ : ByteArray), .string (⟨#[]⟩ : ByteArray), .string (⟨#[]⟩ : ByteArray)]) ?_ 9 _ rfl; (with_reducible repeat (first | refine blk_drewN ?_ _ | refine blk_drew ?_ | refine blk_alloc ?_ _)); refine blk_put (cs := #[.string t151, .string t152, .string t153, .string t154, .string t155, .int .i64 t156, .int .i64 t157, .slice Ao30 t158.length co30, .bool false, .int .i64 0, .string (⟨#[]⟩ : ByteArray), .string (⟨#[]⟩ : ByteArray), .string (⟨#[]⟩ : ByteArray), .string (⟨#[]⟩ : ByteArray)]) ?_ 8 _ rfl; (with_reducible repeat (first | refine blk_drewN ?_ _ | refine blk_drew ?_ | refine blk_alloc ?_ _)); refine blk_put (cs := #[.string t151, .string t152, .string t153, .string t154, .string t155, .int .i64 t156, .int .i64 t157, .slice none 0 0, .bool false, .int .i64 0, .string (⟨#[]⟩ : ByteArray), .string (⟨#[]⟩ : ByteArray), .string (⟨#[]⟩ : ByteArray), .string (⟨#[]⟩ : ByteArray)]) ?_ 7 _ rfl; (with_reducible repeat (first | refine blk_drewN ?_ _ | refine blk_drew ?_ | refine blk_alloc ?_ _)); refine blk_put (cs := #[.string t151, .string t152, .string t153, .string t154, .string t155, .int .i64 t156, .int .i64 0, .slice none 0 0, .bool false, .int .i64 0, .string (⟨#[]⟩ : ByteArray), .string (⟨#[]⟩ : ByteArray), .string (⟨#[]⟩ : ByteArray), .string (⟨#[]⟩ : ByteArray)]) ?_ 6 _ rfl; (with_reducible repeat (first | refine blk_drewN ?_ _ | refine blk_drew ?_ | refine blk_alloc ?_ _)); refine blk_put (cs := #[.string t151, .string t152, .string t153, .string t154, .string t155, .int .i64 0, .int .i64 0, .slice none 0 0, .bool false, .int .i64 0, .string (⟨#[]⟩ : ByteArray), .string (⟨#[]⟩ : ByteArray), .string (⟨#[]⟩ : ByteArray), .string (⟨#[]⟩ : ByteArray)]) ?_ 5 _ rfl; (with_reducible repeat (first | refine blk_drewN ?_ _ | refine blk_drew ?_ | refine blk_alloc ?_ _)); refine blk_put (cs := #[.string t151, .string t152, .string t153, .string t154, .string (⟨#[]⟩ : ByteArray), .int .i64 0, .int .i64 0, .slice none 0 0, .bool false, .int .i64 0, .string (⟨#[]⟩ : ByteArray), .string (⟨#[]⟩ : ByteArray), .string (⟨#[]⟩ : ByteArray), .string (⟨#[]⟩ : ByteArray)]) ?_ 4 _ rfl; (with_reducible repeat (first | refine blk_drewN ?_ _ | refine blk_drew ?_ | refine blk_alloc ?_ _)); refine blk_put (cs := #[.string t151, .string t152, .string t153, .string (⟨#[]⟩ : ByteArray), .string (⟨#[]⟩ : ByteArray), .int .i64 0, .int .i64 0, .slice none 0 0, .bool false, .int .i64 0, .string (⟨#[]⟩ : ByteArray), .string (⟨#[]⟩ : ByteArray), .string (⟨#[]⟩ : ByteArray), .string (⟨#[]⟩ : ByteArray)]) ?_ 3 _ rfl; (with_reducible repeat (first | refine blk_drewN ?_ _ | refine blk_drew ?_ | refine blk_alloc ?_ _)); refine blk_put (cs := #[.string t151, .string t152, .string (⟨#[]⟩ : ByteArray), .string (⟨#[]⟩ : ByteArray), .string (⟨#[]⟩ : ByteArray), .int .i64 0, .int .i64 0, .slice none 0 0, .bool false, .int .i64 0, .string (⟨#[]⟩ : ByteArray), .string (⟨#[]⟩ : ByteArray), .string (⟨#[]⟩ : ByteArray), .string (⟨#[]⟩ : ByteArray)]) ?_ 2 _ rfl; (with_reducible repeat (first | refine blk_drewN ?_ _ | refine blk_drew ?_ | refine blk_alloc ?_ _)); refine blk_put (cs := #[.string t151, .string (⟨#[]⟩ : ByteArray), .string (⟨#[]⟩ : ByteArray), .string (⟨#[]⟩ : ByteArray), .string (⟨#[]⟩ : ByteArray), .int .i64 0, .int .i64 0, .slice none 0 0, .bool false, .int .i64 0, .string (⟨#[]⟩ : ByteArray), .string (⟨#[]⟩ : ByteArray), .string (⟨#[]⟩ : ByteArray), .string (⟨#[]⟩ : ByteArray)]) ?_ 1 _ rfl; (with_reducible repeat (first | refine blk_drewN ?_ _ | refine blk_drew ?_ | refine blk_alloc ?_ _)); refine blk_put (cs := #[.string (⟨#[]⟩ : ByteArray), .string (⟨#[]⟩ : ByteArray), .string (⟨#[]⟩ : ByteArray), .string (⟨#[]⟩ : ByteArray), .string (⟨#[]⟩ : ByteArray), .int .i64 0, .int .i64 0, .slice none 0 0, .bool false, .int .i64 0, .string (⟨#[]⟩ : ByteArray), .string (⟨#[]⟩ : ByteArray), .string (⟨#[]⟩ : ByteArray), .string (⟨#[]⟩ : ByteArray)]) ?_ 0 _ rfl; (with_reducible repeat (first | refine blk_drewN ?_ _ | refine blk_drew ?_ | refine blk_alloc ?_ _)); exact BK167.out⟩
            have n4_ : Aside0 (Below w.heap.size w ((((((((((((((w26.setCell ⟨gb167, 0, none⟩ (.string t151)).setCell ⟨gb167, 1, none⟩ (.string t152)).setCell ⟨gb167, 2, none⟩ (.string t153)).setCell ⟨gb167, 3, none⟩ (.string t154)).setCell ⟨gb167, 4, none⟩ (.string t155)).setCell ⟨gb167, 5, none⟩ (.int .i64 t156)).setCell ⟨gb167, 6, none⟩ (.int .i64 t157)).setCell ⟨gb167, 7, none⟩ (.slice Ao30 t158.length co30)).setCell ⟨gb167, 8, none⟩ (.bool t161)).setCell ⟨gb167, 9, none⟩ (.int .i64 t162)).setCell ⟨gb167, 10, none⟩ (.string t163)).setCell ⟨gb167, 11, none⟩ (.string t164)).setCell ⟨gb167, 12, none⟩ (.string t165)).setCell ⟨gb167, 13, none⟩ (.string t166))) := ⟨by repeat (first | (with_reducible first | exact HB.out | apply below_alloc | apply pw_below_drewN | apply below_drew1 | refine below_set ?_ GE149.out | refine below_set ?_ GE150.out | refine below_set ?_ GE167.out) | exact HB.out)⟩
            (try clear HO160)
            (try clear BK149)
            (try clear BK150)
            (try clear BK167)
            (try clear HB)
            generalize ((((((((((((((w26.setCell ⟨gb167, 0, none⟩ (.string t151)).setCell ⟨gb167, 1, none⟩ (.string t152)).setCell ⟨gb167, 2, none⟩ (.string t153)).setCell ⟨gb167, 3, none⟩ (.string t154)).setCell ⟨gb167, 4, none⟩ (.string t155)).setCell ⟨gb167, 5, none⟩ (.int .i64 t156)).setCell ⟨gb167, 6, none⟩ (.int .i64 t157)).setCell ⟨gb167, 7, none⟩ (.slice Ao30 t158.length co30)).setCell ⟨gb167, 8, none⟩ (.bool t161)).setCell ⟨gb167, 9, none⟩ (.int .i64 t162)).setCell ⟨gb167, 10, none⟩ (.string t163)).setCell ⟨gb167, 11, none⟩ (.string t164)).setCell ⟨gb167, 12, none⟩ (.string t165)).setCell ⟨gb167, 13, none⟩ (.string t166)) = w31 at n0_ n1_ n2_ n3_ n4_ ⊢
            have HO160 := n0_
            have BK149 := n1_
            have BK150 := n2_
            have BK167 := n3_
            have HB := n4_
            clear n0_ n1_ n2_ n3_ n4_
            have n0_ := Aside0.mk (Kd.R_drew HO160.out)
            have n1_ := Aside0.mk (blk_drew BK149.out)
            have n2_ := Aside0.mk (blk_drew BK150.out)
            have n3_ := Aside0.mk (blk_drew BK167.out)
            have n4_ := Aside0.mk (below_drew1 HB.out)
            clear HO160
            clear BK149
            clear BK150
            clear BK167
            clear HB
            have HO160 := n0_
            have BK149 := n1_
            have BK150 := n2_
            have BK167 := n3_
            have HB := n4_
            clear n0_ n1_ n2_ n3_ n4_
            refine start_ (n := 24) (S := fun w' => w'.cell? ⟨gb167, 0, none⟩ = some (.string t151) ∧ w'.cell? ⟨gb167, 1, none⟩ = some (.string t152) ∧ w'.cell? ⟨gb167, 2, none⟩ = some (.string t153) ∧ w'.cell? ⟨gb167, 3, none⟩ = some (.string t154) ∧ w'.cell? ⟨gb167, 4, none⟩ = some (.string t155) ∧ w'.cell? ⟨gb167, 5, none⟩ = some (.int .i64 t156) ∧ w'.cell? ⟨gb167, 6, none⟩ = some (.int .i64 t157) ∧ w'.cell? ⟨gb167, 7, none⟩ = some (.slice Ao30 t158.length co30) ∧ w'.cell? ⟨gb167, 8, none⟩ = some (.bool t161) ∧ w'.cell? ⟨gb167, 9, none⟩ = some (.int .i64 t162) ∧ w'.cell? ⟨gb167, 10, none⟩ = some (.string t163) ∧ w'.cell? ⟨gb167, 11, none⟩ = some (.string t164) ∧ w'.cell? ⟨gb167, 12, none⟩ = some (.string t165) ∧ w'.cell? ⟨gb167, 13, none⟩ = some (.string t166) ∧ w'.cell? ⟨gb150, 0, none⟩ = some (.string a1_0) ∧ w'.cell? ⟨gb150, 1, none⟩ = some (.int .i64 a1_1)) (ds := []) #[false, false, false, false, false, false, false, false, false, false, false, false, false, false, false, false, false, false, false, false, false, false, false, false] (by kernel_rfl) rfl rfl ⟨(blk_cell BK167.out 0).trans rfl, (blk_cell BK167.out 1).trans rfl, (blk_cell BK167.out 2).trans rfl, (blk_cell BK167.out 3).trans rfl, (blk_cell BK167.out 4).trans rfl, (blk_cell BK167.out 5).trans rfl, (blk_cell BK167.out 6).trans rfl, (blk_cell BK167.out 7).trans rfl, (blk_cell BK167.out 8).trans rfl, (blk_cell BK167.out 9).trans rfl, (blk_cell BK167.out 10).trans rfl, (blk_cell BK167.out 11).trans rfl, (blk_cell BK167.out 12).trans rfl, (blk_cell BK167.out 13).trans rfl, (blk_cell BK150.out 0).trans rfl, (blk_cell BK150.out 1).trans rfl⟩ (fun hHeld => ?_); refine with_tabW laws_placed7.tab4 laws_placed7.bits4 (fun HT_ HW_ => ?_)
            generalize w31.drew = w32 at HO160 BK149 BK150 BK167 HB hHeld ⊢
            refine pure_ (i := 0) (N := some 28) (v := ?_) (a' := ?_) #[true, false, false, false, false, false, false, false, false, false, false, false, false, false, false, false, false, false, false, false, false, false, false, false] rfl rfl (any_of HT_.out (by kernel_rfl)) (fun _ _ _ h => h) (Or.inl ⟨by rfl, ?_⟩) ?_ ?_
            rotate_left
            · intro w'
              go_simp
              with_reducible rfl
            rotate_left
            · simp only [Act.put, List.setIfInBounds_toArray, List.set_cons_zero, List.set_cons_succ, i64_w, i32_w]
              rfl
            refine pure_ (i := 2) (N := some 30) (v := ?_) (a' := ?_) #[true, false, true, false, false, false, false, false, false, false, false, false, false, false, false, false, false, false, false, false, false, false, false, false] rfl rfl (any_of HT_.out (by kernel_rfl)) (fun _ _ _ h => h) (Or.inl ⟨by rfl, ?_⟩) ?_ ?_
            rotate_left
            · intro w'
              go_simp
              with_reducible rfl
            rotate_left
            · simp only [Act.put, List.setIfInBounds_toArray, List.set_cons_zero, List.set_cons_succ, i64_w, i32_w]
              rfl
            refine take_ (i := 1) (N := some 29) (v := ?_) (a' := ?_) #[true, true, true, false, false, false, false, false, false, false, false, false, false, false, false, false, false, false, false, false, false, false, false, false] rfl rfl (take_ofW HT_.out HW_.out (by kernel_rfl)) (fun _ _ _ h => h) (Or.inl ⟨by rfl, ?_⟩) hHeld ?_ ?_
            rotate_left
            · rintro w' ⟨s0, s1, s2, s3, s4, s5, s6, s7, s8, s9, s10, s11, s12, s13, s14, s15⟩
              go_simp
              with_reducible rfl
            rotate_left
            · simp only [Act.put, List.setIfInBounds_toArray, List.set_cons_zero, List.set_cons_succ, i64_w, i32_w]
              rfl
            refine pure_ (i := 3) (N := some 31) (v := ?_) (a' := ?_) #[true, true, true, true, false, false, false, false, false, false, false, false, false, false, false, false, false, false, false, false, false, false, false, false] rfl rfl (any_of HT_.out (by kernel_rfl)) (fun _ _ _ h => h) (Or.inl ⟨by rfl, ?_⟩) ?_ ?_
            rotate_left
            · intro w'
              go_simp
              with_reducible rfl
            rotate_left
            · simp only [Act.put, List.setIfInBounds_toArray, List.set_cons_zero, List.set_cons_succ, i64_w, i32_w]
              rfl
            refine pure_ (i := 4) (N := some 32) (v := ?_) (a' := ?_) #[true, true, true, true, true, false, false, false, false, false, false, false, false, false, false, false, false, false, false, false, false, false, false, false] rfl rfl (any_of HT_.out (by kernel_rfl)) (fun _ _ _ h => h) (Or.inl ⟨by rfl, ?_⟩) ?_ ?_
            rotate_left
            · intro w'
              go_simp
              with_reducible rfl
            rotate_left
            · simp only [Act.put, List.setIfInBounds_toArray, List.set_cons_zero, List.set_cons_succ, i64_w, i32_w]
              rfl
            refine pure_ (i := 5) (N := some 33) (v := ?_) (a' := ?_) #[true, true, true, true, true, true, false, false, false, false, false, false, false, false, false, false, false, false, false, false, false, false, false, false] rfl rfl (any_of HT_.out (by kernel_rfl)) (fun _ _ _ h => h) (Or.inl ⟨by rfl, ?_⟩) ?_ ?_
            rotate_left
            · intro w'
              go_simp
              with_reducible rfl
            rotate_left
            · simp only [Act.put, List.setIfInBounds_toArray, List.set_cons_zero, List.set_cons_succ, i64_w, i32_w]
              rfl
            refine take_ (i := 6) (N := some 34) (v := ?_) (a' := ?_) #[true, true, true, true, true, true, true, false, false, false, false, false, false, false, false, false, false, false, false, false, false, false, false, false] rfl rfl (take_ofW HT_.out HW_.out (by kernel_rfl)) (fun _ _ _ h => h) (Or.inl ⟨by rfl, ?_⟩) hHeld ?_ ?_
            rotate_left
            · rintro w' ⟨s0, s1, s2, s3, s4, s5, s6, s7, s8, s9, s10, s11, s12, s13, s14, s15⟩
              go_simp
              with_reducible rfl
            rotate_left
            · simp only [Act.put, List.setIfInBounds_toArray, List.set_cons_zero, List.set_cons_succ, i64_w, i32_w]
              rfl
            refine take_ (i := 7) (N := some 35) (v := ?_) (a' := ?_) #[true, true, true, true, true, true, true, true, false, false, false, false, false, false, false, false, false, false, false, false, false, false, false, false] rfl rfl (take_ofW HT_.out HW_.out (by kernel_rfl)) (fun _ _ _ h => h) (Or.inl ⟨by rfl, ?_⟩) hHeld ?_ ?_
            rotate_left
            · rintro w' ⟨s0, s1, s2, s3, s4, s5, s6, s7, s8, s9, s10, s11, s12, s13, s14, s15⟩
              go_simp
              with_reducible rfl
            rotate_left
            · simp only [Act.put, List.setIfInBounds_toArray, List.set_cons_zero, List.set_cons_succ, i64_w, i32_w]
              rfl
            refine one_ (i := 8) (N := some 36) #[true, true, true, true, true, true, true, true, true, false, false, false, false, false, false, false, false, false, false, false, false, false, false, false] rfl rfl (one_of HT_.out (by kernel_rfl)) (by decide) (fun K hK => ?_)
            refine goes_ Tryz.func28 (by kernel_rfl) rfl #[.agg #[.string a1_0, .int .i64 a1_1]] (by rfl) rfl rfl (by (try simp only [List.map_toArray, List.map_cons, List.map_nil]); first | done | rfl | (simp only [List.length_drop, List.length_take]; rfl) | (simp only [Int.toNat_natCast, ByteArray.extract_zero_size]; rfl)) ?_
            with_reducible refine (spec_Column.calls kj3 a1_0 a1_1 t168 _ A21.out).mono ?_
            rintro e w33 ⟨rfl, hb⟩
            refine ⟨_, rfl, ?_⟩
            have n0_ := Aside0.mk (Kd.R_below (by (with_reducible repeat (first | apply Kd.R_alloc | apply Kd.R_drewN | apply Kd.R_drew)); exact HO160.out) hb)
            have n1_ := Aside0.mk (blk_below (g := gb149) (o := .cells #[.string a0_0, .int .i64 a0_1] 23 (0, 0)) (by (with_reducible repeat (first | refine blk_drewN ?_ _ | refine blk_drew ?_ | refine blk_alloc ?_ _)); exact BK149.out) hb)
            have n2_ := Aside0.mk (blk_below (g := gb150) (o := .cells #[.string a1_0, .int .i64 a1_1] 23 (0, 0)) (by (with_reducible repeat (first | refine blk_drewN ?_ _ | refine blk_drew ?_ | refine blk_alloc ?_ _)); exact BK150.out) hb)
            have n3_ := Aside0.mk (blk_below (g := gb167) (o := .cells #[.string t151, .string t152, .string t153, .string t154, .string t155, .int .i64 t156, .int .i64 t157, .slice Ao30 t158.length co30, .bool t161, .int .i64 t162, .string t163, .string t164, .string t165, .string t166] 40 (0, 0)) (by (with_reducible repeat (first | refine blk_drewN ?_ _ | refine blk_drew ?_ | refine blk_alloc ?_ _)); exact BK167.out) hb)
            have n4_ := Aside0.mk (below_step (by repeat (first | (with_reducible first | exact HB.out | apply below_alloc | apply pw_below_drewN | apply below_drew1 | refine below_set ?_ GE149.out | refine below_set ?_ GE150.out | refine below_set ?_ GE167.out) | exact HB.out)) hb)
            clear HO160
            clear BK149
            clear BK150
            clear BK167
            clear HB
            have HO160 := n0_
            have BK149 := n1_
            have BK150 := n2_
            have BK167 := n3_
            have HB := n4_
            clear n0_ n1_ n2_ n3_ n4_
            (try clear hb)
            (try clear hb2)
            (try clear hk)
            (try clear hi)
            refine hK.out _ _ ⟨(blk_cell BK167.out 0).trans rfl, (blk_cell BK167.out 1).trans rfl, (blk_cell BK167.out 2).trans rfl, (blk_cell BK167.out 3).trans rfl, (blk_cell BK167.out 4).trans rfl, (blk_cell BK167.out 5).trans rfl, (blk_cell BK167.out 6).trans rfl, (blk_cell BK167.out 7).trans rfl, (blk_cell BK167.out 8).trans rfl, (blk_cell BK167.out 9).trans rfl, (blk_cell BK167.out 10).trans rfl, (blk_cell BK167.out 11).trans rfl, (blk_cell BK167.out 12).trans rfl, (blk_cell BK167.out 13).trans rfl, (blk_cell BK150.out 0).trans rfl, (blk_cell BK150.out 1).trans rfl⟩ (fun hHeld => ?_)
            clear hK K
            refine norm_ (a' := ?_) ?_ ?_
            rotate_left
            · show Act.put _ (some 36) _ = _
              simp only [Act.put, List.setIfInBounds_toArray, List.set_cons_zero, List.set_cons_succ, i64_w, i32_w]
              rfl
            refine pure_ (i := 9) (N := some 37) (v := ?_) (a' := ?_) #[true, true, true, true, true, true, true, true, true, true, false, false, false, false, false, false, false, false, false, false, false, false, false, false] rfl rfl (any_of HT_.out (by kernel_rfl)) (fun _ _ _ h => h) (Or.inl ⟨by rfl, ?_⟩) ?_ ?_
            rotate_left
            · intro w'
              go_simp
              with_reducible rfl
            rotate_left
            · simp only [Act.put, List.setIfInBounds_toArray, List.set_cons_zero, List.set_cons_succ, i64_w, i32_w]
              rfl
            refine pure_ (i := 10) (N := some 38) (v := ?_) (a' := ?_) #[true, true, true, true, true, true, true, true, true, true, true, false, false, false, false, false, false, false, false, false, false, false, false, false] rfl rfl (any_of HT_.out (by kernel_rfl)) (fun _ _ _ h => h) (Or.inl ⟨by rfl, ?_⟩) ?_ ?_
            rotate_left
            · intro w'
              go_simp
              with_reducible rfl
            rotate_left
            · simp only [Act.put, List.setIfInBounds_toArray, List.set_cons_zero, List.set_cons_succ, i64_w, i32_w]
              rfl
            refine pure_ (i := 11) (N := some 39) (v := undef) (a' := ?_) #[true, true, true, true, true, true, true, true, true, true, true, true, false, false, false, false, false, false, false, false, false, false, false, false] rfl rfl (any_of HT_.out (by kernel_rfl)) (fun _ _ _ h => h) (Or.inr ⟨by rfl, rfl⟩) ?_ ?_
            rotate_left
            · simp only [Act.put, List.setIfInBounds_toArray, List.set_cons_zero, List.set_cons_succ, i64_w, i32_w]
              rfl
            refine pure_ (i := 12) (N := some 40) (v := undef) (a' := ?_) #[true, true, true, true, true, true, true, true, true, true, true, true, true, false, false, false, false, false, false, false, false, false, false, false] rfl rfl (any_of HT_.out (by kernel_rfl)) (fun _ _ _ h => h) (Or.inr ⟨by rfl, rfl⟩) ?_ ?_
            rotate_left
            · simp only [Act.put, List.setIfInBounds_toArray, List.set_cons_zero, List.set_cons_succ, i64_w, i32_w]
              rfl
            refine pure_ (i := 13) (N := some 41) (v := undef) (a' := ?_) #[true, true, true, true, true, true, true, true, true, true, true, true, true, true, false, false, false, false, false, false, false, false, false, false] rfl rfl (any_of HT_.out (by kernel_rfl)) (fun _ _ _ h => h) (Or.inr ⟨by rfl, rfl⟩) ?_ ?_
            rotate_left
            · simp only [Act.put, List.setIfInBounds_toArray, List.set_cons_zero, List.set_cons_succ, i64_w, i32_w]
              rfl
            refine pure_ (i := 14) (N := some 42) (v := undef) (a' := ?_) #[true, true, true, true, true, true, true, true, true, true, true, true, true, true, true, false, false, false, false, false, false, false, false, false] rfl rfl (any_of HT_.out (by kernel_rfl)) (fun _ _ _ h => h) (Or.inr ⟨by rfl, rfl⟩) ?_ ?_
            rotate_left
            · simp only [Act.put, List.setIfInBounds_toArray, List.set_cons_zero, List.set_cons_succ, i64_w, i32_w]
              rfl
            refine pure_ (i := 15) (N := some 43) (v := undef) (a' := ?_) #[true, true, true, true, true, true, true, true, true, true, true, true, true, true, true, true, false, false, false, false, false, false, false, false] rfl rfl (any_of HT_.out (by kernel_rfl)) (fun _ _ _ h => h) (Or.inr ⟨by rfl, rfl⟩) ?_ ?_
            rotate_left
            · simp only [Act.put, List.setIfInBounds_toArray, List.set_cons_zero, List.set_cons_succ, i64_w, i32_w]
              rfl
            refine pure_ (i := 16) (N := some 44) (v := undef) (a' := ?_) #[true, true, true, true, true, true, true, true, true, true, true, true, true, true, true, true, true, false, false, false, false, false, false, false] rfl rfl (any_of HT_.out (by kernel_rfl)) (fun _ _ _ h => h) (Or.inr ⟨by rfl, rfl⟩) ?_ ?_
            rotate_left
            · simp only [Act.put, List.setIfInBounds_toArray, List.set_cons_zero, List.set_cons_succ, i64_w, i32_w]
              rfl
            refine pure_ (i := 17) (N := some 45) (v := undef) (a' := ?_) #[true, true, true, true, true, true, true, true, true, true, true, true, true, true, true, true, true, true, false, false, false, false, false, false] rfl rfl (any_of HT_.out (by kernel_rfl)) (fun _ _ _ h => h) (Or.inr ⟨by rfl, rfl⟩) ?_ ?_
            rotate_left
            · simp only [Act.put, List.setIfInBounds_toArray, List.set_cons_zero, List.set_cons_succ, i64_w, i32_w]
              rfl
            refine pure_ (i := 18) (N := some 46) (v := undef) (a' := ?_) #[true, true, true, true, true, true, true, true, true, true, true, true, true, true, true, true, true, true, true, false, false, false, false, false] rfl rfl (any_of HT_.out (by kernel_rfl)) (fun _ _ _ h => h) (Or.inr ⟨by rfl, rfl⟩) ?_ ?_
            rotate_left
            · simp only [Act.put, List.setIfInBounds_toArray, List.set_cons_zero, List.set_cons_succ, i64_w, i32_w]
              rfl
            refine pure_ (i := 19) (N := some 47) (v := undef) (a' := ?_) #[true, true, true, true, true, true, true, true, true, true, true, true, true, true, true, true, true, true, true, true, false, false, false, false] rfl rfl (any_of HT_.out (by kernel_rfl)) (fun _ _ _ h => h) (Or.inr ⟨by rfl, rfl⟩) ?_ ?_
            rotate_left
            · simp only [Act.put, List.setIfInBounds_toArray, List.set_cons_zero, List.set_cons_succ, i64_w, i32_w]
              rfl
            refine pure_ (i := 20) (N := some 48) (v := undef) (a' := ?_) #[true, true, true, true, true, true, true, true, true, true, true, true, true, true, true, true, true, true, true, true, true, false, false, false] rfl rfl (any_of HT_.out (by kernel_rfl)) (fun _ _ _ h => h) (Or.inr ⟨by rfl, rfl⟩) ?_ ?_
            rotate_left
            · simp only [Act.put, List.setIfInBounds_toArray, List.set_cons_zero, List.set_cons_succ, i64_w, i32_w]
              rfl
            refine pure_ (i := 21) (N := some 49) (v := ?_) (a' := ?_) #[true, true, true, true, true, true, true, true, true, true, true, true, true, true, true, true, true, true, true, true, true, true, false, false] rfl rfl (any_of HT_.out (by kernel_rfl)) (fun _ _ _ h => h) (Or.inl ⟨by rfl, ?_⟩) ?_ ?_
            rotate_left
            · intro w'
              go_simp
              with_reducible rfl
            rotate_left
            · simp only [Act.put, List.setIfInBounds_toArray, List.set_cons_zero, List.set_cons_succ, i64_w, i32_w]
              rfl
            refine pure_ (i := 22) (N := some 50) (v := ?_) (a' := ?_) #[true, true, true, true, true, true, true, true, true, true, true, true, true, true, true, true, true, true, true, true, true, true, true, false] rfl rfl (any_of HT_.out (by kernel_rfl)) (fun _ _ _ h => h) (Or.inl ⟨by rfl, ?_⟩) ?_ ?_
            rotate_left
            · intro w'
              go_simp
              with_reducible rfl
            rotate_left
            · simp only [Act.put, List.setIfInBounds_toArray, List.set_cons_zero, List.set_cons_succ, i64_w, i32_w]
              rfl
            refine pure_ (i := 23) (N := some 6) (v := ?_) (a' := ?_) #[true, true, true, true, true, true, true, true, true, true, true, true, true, true, true, true, true, true, true, true, true, true, true, true] rfl rfl (any_of HT_.out (by kernel_rfl)) (fun _ _ _ h => h) (Or.inl ⟨by rfl, ?_⟩) ?_ ?_
            rotate_left
            · intro w'
              go_simp
              with_reducible rfl
            rotate_left
            · simp only [Act.put, List.setIfInBounds_toArray, List.set_cons_zero, List.set_cons_succ, i64_w, i32_w]
              rfl
            refine done_ (done_of HT_.out (by kernel_rfl)) ?_
            try go_wp2
            go_ret
            exact ⟨by first | rfl | (simp [errW_none, errW_some] <;> rfl) | (simp [*, errW_none, errW_some] <;> rfl), by repeat (first | (with_reducible first | exact HB.out | apply below_alloc | apply pw_below_drewN | apply below_drew1 | refine below_set ?_ GE149.out | refine below_set ?_ GE150.out | refine below_set ?_ GE167.out) | exact HB.out)⟩
          · rw [if_neg c22] at H
            have c22b0 : (t157 == t168) = false := beq_eq_false_iff_ne.mpr c22
            have c22b1 : (t157 != t168) = true := bne_iff_ne.mpr c22
            replace H := Option.bind_eq_some_iff.mp H
            obtain ⟨t169, A340, H⟩ := H
            replace H : (if t157 < t169 then (some (t154.toList == ([] : List UInt8))) else (some false)) = some r := H
            have A34 := Aside0.mk A340
            clear A340
            by_cases c35 : t157 < t169
            · rw [if_pos c35] at H
              have c35b0 : decide (t157 < t169) = true := decide_eq_true c35
              clear c35
              obtain rfl := Option.some.inj H
              have hnb36 := NB149_150.out
              have hnc36 := NB150_149.out
              have hcz37_0 : wc.cell? ⟨gb149, 0, none⟩ = some (.string a0_0) := (blk_cell BK149.out 0).trans rfl
              have hcz37_1 : wc.cell? ⟨gb149, 1, none⟩ = some (.int .i64 a0_1) := (blk_cell BK149.out 1).trans rfl
              have hfz37_0 := blk_frozen BK149.out 0
              have hfz37_1 := blk_frozen BK149.out 1
              try go_wp2_with (first | ((with_reducible refine gate_callee (f := 16) rfl ?_); refine goesL_ (some 27) rfl rfl Tryz.func16 (by kernel_rfl) rfl #[.agg #[.string a0_0, .int .i64 a0_1]] rfl (by (try simp only [List.map_toArray, List.map_cons, List.map_nil]); first | done | rfl | (simp only [List.length_drop, List.length_take]; rfl) | (simp only [Int.toNat_natCast, ByteArray.extract_zero_size]; rfl)) ?_; (with_reducible refine (impl_AroundOf.calls kj3 a0_0 a0_1 t151 t152 t153 t154 t155 t156 t157 t158 t161 t162 t163 t164 t165 t166 _ A19.out).mono ?_); rintro e w38 ⟨v159, rfl, ho0, hb⟩; refine ⟨_, rfl, ?_⟩; have n0_ := Aside0.mk (Kd.R_lower ho0 (below_size (by repeat (first | (with_reducible first | exact HB.out | apply below_alloc | apply pw_below_drewN | apply below_drew1 | refine below_set ?_ GE149.out | refine below_set ?_ GE150.out) | exact HB.out)))); have n1_ := Aside0.mk (blk_below (g := gb149) (o := .cells #[.string a0_0, .int .i64 a0_1] 23 (0, 0)) (by (with_reducible repeat (first | refine blk_drewN ?_ _ | refine blk_drew ?_ | refine blk_alloc ?_ _)); exact BK149.out) hb); have n2_ := Aside0.mk (blk_below (g := gb150) (o := .cells #[.string a1_0, .int .i64 a1_1] 23 (0, 0)) (by (with_reducible repeat (first | refine blk_drewN ?_ _ | refine blk_drew ?_ | refine blk_alloc ?_ _)); exact BK150.out) hb); have n3_ := Aside0.mk (below_step (by repeat (first | (with_reducible first | exact HB.out | apply below_alloc | apply pw_below_drewN | apply below_drew1 | refine below_set ?_ GE149.out | refine below_set ?_ GE150.out) | exact HB.out)) hb); clear BK149; clear BK150; clear HB; have HO160 := n0_; have BK149 := n1_; have BK150 := n2_; have HB := n3_; clear n0_ n1_ n2_ n3_; (try clear hb); (try clear hb2); (try clear hk); (try clear hi); (try clear ho0)) | ((with_reducible refine gate_dst (N := 7) rfl ?_); (try (refine gate_guard (by rfl) ?_; dsimp only)); refine box_event ?hg (N := 7) ?hd (cs := #[.string (⟨#[]⟩ : ByteArray), .string (⟨#[]⟩ : ByteArray), .string (⟨#[]⟩ : ByteArray), .string (⟨#[]⟩ : ByteArray), .string (⟨#[]⟩ : ByteArray), .int .i64 0, .int .i64 0, .slice none 0 0, .bool false, .int .i64 0, .string (⟨#[]⟩ : ByteArray), .string (⟨#[]⟩ : ByteArray), .string (⟨#[]⟩ : ByteArray), .string (⟨#[]⟩ : ByteArray)]) (t := 40) ?hr ?_; (case hd => rfl); (case hg => rfl); (case hr => first | (go_simp; done) | (go_simp; rfl)); intro gb167 hg w39 hbox hb; have n0_ := Aside0.mk (Kd.R_below (by (with_reducible repeat (first | apply Kd.R_alloc | apply Kd.R_drewN | apply Kd.R_drew)); exact HO160.out) hb); have n1_ := Aside0.mk (blk_below (g := gb149) (o := .cells #[.string a0_0, .int .i64 a0_1] 23 (0, 0)) (by (with_reducible repeat (first | refine blk_drewN ?_ _ | refine blk_drew ?_ | refine blk_alloc ?_ _)); exact BK149.out) hb); have n2_ := Aside0.mk (blk_below (g := gb150) (o := .cells #[.string a1_0, .int .i64 a1_1] 23 (0, 0)) (by (with_reducible repeat (first | refine blk_drewN ?_ _ | refine blk_drew ?_ | refine blk_alloc ?_ _)); exact BK150.out) hb); have n3_ := Aside0.mk (below_step (by repeat (first | (with_reducible first | exact HB.out | apply below_alloc | apply pw_below_drewN | apply below_drew1 | refine below_set ?_ GE149.out | refine below_set ?_ GE150.out) | exact HB.out)) hb); have n4_ := Aside0.mk (hbox); have n5_ := Aside0.mk ((by rw [hg]; exact (below_size (by repeat (first | (with_reducible first | exact HB.out | apply below_alloc | apply pw_below_drewN | apply below_drew1 | refine below_set ?_ GE149.out | refine below_set ?_ GE150.out) | exact HB.out))) : w.heap.size ≤ gb167)); have n6_ := Aside0.mk ((by rw [hg]; exact (below_size (by repeat (first | (with_reducible first | exact HB.out | apply below_alloc | apply pw_below_drewN | apply below_drew1 | refine below_set ?_ GE149.out | refine below_set ?_ GE150.out) | exact HB.out))) : w.heap.size ≤ gb167)); have n7_ := Aside0.mk ((by rw [hg]; exact Nat.ne_of_lt (blk_lt (g := gb149) (o := .cells #[.string a0_0, .int .i64 a0_1] 23 (0, 0)) (by (with_reducible repeat (first | refine blk_drewN ?_ _ | refine blk_drew ?_ | refine blk_alloc ?_ _)); exact BK149.out)) : gb149 ≠ gb167)); have n8_ := Aside0.mk ((by rw [hg]; exact Nat.ne_of_gt (blk_lt (g := gb149) (o := .cells #[.string a0_0, .int .i64 a0_1] 23 (0, 0)) (by (with_reducible repeat (first | refine blk_drewN ?_ _ | refine blk_drew ?_ | refine blk_alloc ?_ _)); exact BK149.out)) : gb167 ≠ gb149)); have n9_ := Aside0.mk ((by rw [hg]; exact Nat.ne_of_lt (blk_lt (g := gb150) (o := .cells #[.string a1_0, .int .i64 a1_1] 23 (0, 0)) (by (with_reducible repeat (first | refine blk_drewN ?_ _ | refine blk_drew ?_ | refine blk_alloc ?_ _)); exact BK150.out)) : gb150 ≠ gb167)); have n10_ := Aside0.mk ((by rw [hg]; exact Nat.ne_of_gt (blk_lt (g := gb150) (o := .cells #[.string a1_0, .int .i64 a1_1] 23 (0, 0)) (by (with_reducible repeat (first | refine blk_drewN ?_ _ | refine blk_drew ?_ | refine blk_alloc ?_ _)); exact BK150.out)) : gb167 ≠ gb150)); clear HO160; clear BK149; clear BK150; clear HB; have HO160 := n0_; have BK149 := n1_; have BK150 := n2_; have HB := n3_; have BK167 := n4_; have GW167 := n5_; have GE167 := n6_; have NB149_167 := n7_; have NB167_149 := n8_; have NB150_167 := n9_; have NB167_150 := n10_; clear n0_ n1_ n2_ n3_ n4_ n5_ n6_ n7_ n8_ n9_ n10_; clear hb hbox hg; have hnb40 := NB167_149.out; have hnc40 := NB149_167.out; have hnb41 := NB167_150.out; have hnc41 := NB150_167.out; have hcz42_0 : w39.cell? ⟨gb167, 0, none⟩ = some (.string (⟨#[]⟩ : ByteArray)) := (blk_cell BK167.out 0).trans rfl; have hcz42_1 : w39.cell? ⟨gb167, 1, none⟩ = some (.string (⟨#[]⟩ : ByteArray)) := (blk_cell BK167.out 1).trans rfl; have hcz42_2 : w39.cell? ⟨gb167, 2, none⟩ = some (.string (⟨#[]⟩ : ByteArray)) := (blk_cell BK167.out 2).trans rfl; have hcz42_3 : w39.cell? ⟨gb167, 3, none⟩ = some (.string (⟨#[]⟩ : ByteArray)) := (blk_cell BK167.out 3).trans rfl; have hcz42_4 : w39.cell? ⟨gb167, 4, none⟩ = some (.string (⟨#[]⟩ : ByteArray)) := (blk_cell BK167.out 4).trans rfl; have hcz42_5 : w39.cell? ⟨gb167, 5, none⟩ = some (.int .i64 0) := (blk_cell BK167.out 5).trans rfl; have hcz42_6 : w39.cell? ⟨gb167, 6, none⟩ = some (.int .i64 0) := (blk_cell BK167.out 6).trans rfl; have hcz42_7 : w39.cell? ⟨gb167, 7, none⟩ = some (.slice none 0 0) := (blk_cell BK167.out 7).trans rfl; have hcz42_8 : w39.cell? ⟨gb167, 8, none⟩ = some (.bool false) := (blk_cell BK167.out 8).trans rfl; have hcz42_9 : w39.cell? ⟨gb167, 9, none⟩ = some (.int .i64 0) := (blk_cell BK167.out 9).trans rfl; have hcz42_10 : w39.cell? ⟨gb167, 10, none⟩ = some (.string (⟨#[]⟩ : ByteArray)) := (blk_cell BK167.out 10).trans rfl; have hcz42_11 : w39.cell? ⟨gb167, 11, none⟩ = some (.string (⟨#[]⟩ : ByteArray)) := (blk_cell BK167.out 11).trans rfl; have hcz42_12 : w39.cell? ⟨gb167, 12, none⟩ = some (.string (⟨#[]⟩ : ByteArray)) := (blk_cell BK167.out 12).trans rfl; have hcz42_13 : w39.cell? ⟨gb167, 13, none⟩ = some (.string (⟨#[]⟩ : ByteArray)) := (blk_cell BK167.out 13).trans rfl; have hfz42_0 := blk_frozen BK167.out 0; have hfz42_1 := blk_frozen BK167.out 1; have hfz42_2 := blk_frozen BK167.out 2; have hfz42_3 := blk_frozen BK167.out 3; have hfz42_4 := blk_frozen BK167.out 4; have hfz42_5 := blk_frozen BK167.out 5; have hfz42_6 := blk_frozen BK167.out 6; have hfz42_7 := blk_frozen BK167.out 7; have hfz42_8 := blk_frozen BK167.out 8; have hfz42_9 := blk_frozen BK167.out 9; have hfz42_10 := blk_frozen BK167.out 10; have hfz42_11 := blk_frozen BK167.out 11; have hfz42_12 := blk_frozen BK167.out 12; have hfz42_13 := blk_frozen BK167.out 13; obtain ⟨Ao43, co43, eo43⟩ := Kd.R_slice HO160.out; subst eo43))
              have n0_ : Aside0 (Kd.R Kd.string 9 ((((((((((((((w39.setCell ⟨gb167, 0, none⟩ (.string t151)).setCell ⟨gb167, 1, none⟩ (.string t152)).setCell ⟨gb167, 2, none⟩ (.string t153)).setCell ⟨gb167, 3, none⟩ (.string t154)).setCell ⟨gb167, 4, none⟩ (.string t155)).setCell ⟨gb167, 5, none⟩ (.int .i64 t156)).setCell ⟨gb167, 6, none⟩ (.int .i64 t157)).setCell ⟨gb167, 7, none⟩ (.slice Ao43 t158.length co43)).setCell ⟨gb167, 8, none⟩ (.bool t161)).setCell ⟨gb167, 9, none⟩ (.int .i64 t162)).setCell ⟨gb167, 10, none⟩ (.string t163)).setCell ⟨gb167, 11, none⟩ (.string t164)).setCell ⟨gb167, 12, none⟩ (.string t165)).setCell ⟨gb167, 13, none⟩ (.string t166)) w.heap.size (fun _ => True) (.slice Ao43 t158.length co43) t158) := ⟨by (with_reducible repeat (first | apply Kd.R_alloc | apply Kd.R_drewN | apply Kd.R_drew)); exact Kd.R_mono (Kd.R_far (p := ⟨gb167, 13, none⟩) (Kd.R_far (p := ⟨gb167, 12, none⟩) (Kd.R_far (p := ⟨gb167, 11, none⟩) (Kd.R_far (p := ⟨gb167, 10, none⟩) (Kd.R_far (p := ⟨gb167, 9, none⟩) (Kd.R_far (p := ⟨gb167, 8, none⟩) (Kd.R_far (p := ⟨gb167, 7, none⟩) (Kd.R_far (p := ⟨gb167, 6, none⟩) (Kd.R_far (p := ⟨gb167, 5, none⟩) (Kd.R_far (p := ⟨gb167, 4, none⟩) (Kd.R_far (p := ⟨gb167, 3, none⟩) (Kd.R_far (p := ⟨gb167, 2, none⟩) (Kd.R_far (p := ⟨gb167, 1, none⟩) (Kd.R_far (p := ⟨gb167, 0, none⟩) (Kd.R_types HO160.out BK167.out (by decide)) (fun _ hk => hk.2) (.string t151)) (fun _ hk => hk.2) (.string t152)) (fun _ hk => hk.2) (.string t153)) (fun _ hk => hk.2) (.string t154)) (fun _ hk => hk.2) (.string t155)) (fun _ hk => hk.2) (.int .i64 t156)) (fun _ hk => hk.2) (.int .i64 t157)) (fun _ hk => hk.2) (.slice Ao43 t158.length co43)) (fun _ hk => hk.2) (.bool t161)) (fun _ hk => hk.2) (.int .i64 t162)) (fun _ hk => hk.2) (.string t163)) (fun _ hk => hk.2) (.string t164)) (fun _ hk => hk.2) (.string t165)) (fun _ hk => hk.2) (.string t166)) (fun _ hk => trivial)⟩
              have n1_ : Aside0 (((((((((((((((w39.setCell ⟨gb167, 0, none⟩ (.string t151)).setCell ⟨gb167, 1, none⟩ (.string t152)).setCell ⟨gb167, 2, none⟩ (.string t153)).setCell ⟨gb167, 3, none⟩ (.string t154)).setCell ⟨gb167, 4, none⟩ (.string t155)).setCell ⟨gb167, 5, none⟩ (.int .i64 t156)).setCell ⟨gb167, 6, none⟩ (.int .i64 t157)).setCell ⟨gb167, 7, none⟩ (.slice Ao43 t158.length co43)).setCell ⟨gb167, 8, none⟩ (.bool t161)).setCell ⟨gb167, 9, none⟩ (.int .i64 t162)).setCell ⟨gb167, 10, none⟩ (.string t163)).setCell ⟨gb167, 11, none⟩ (.string t164)).setCell ⟨gb167, 12, none⟩ (.string t165)).setCell ⟨gb167, 13, none⟩ (.string t166)).heap[gb149]? = some (.cells #[.string a0_0, .int .i64 a0_1] 23 (0, 0))) := ⟨by (with_reducible repeat (first | refine blk_drewN ?_ _ | refine blk_drew ?_ | refine blk_alloc ?_ _)); refine blk_far ?_ NB149_167.out _; (with_reducible repeat (first | refine blk_drewN ?_ _ | refine blk_drew ?_ | refine blk_alloc ?_ _)); refine blk_far ?_ NB149_167.out _; (with_reducible repeat (first | refine blk_drewN ?_ _ | refine blk_drew ?_ | refine blk_alloc ?_ _)); refine blk_far ?_ NB149_167.out _; (with_reducible repeat (first | refine blk_drewN ?_ _ | refine blk_drew ?_ | refine blk_alloc ?_ _)); refine blk_far ?_ NB149_167.out _; (with_reducible repeat (first | refine blk_drewN ?_ _ | refine blk_drew ?_ | refine blk_alloc ?_ _)); refine blk_far ?_ NB149_167.out _; (with_reducible repeat (first | refine blk_drewN ?_ _ | refine blk_drew ?_ | refine blk_alloc ?_ _)); refine blk_far ?_ NB149_167.out _; (with_reducible repeat (first | refine blk_drewN ?_ _ | refine blk_drew ?_ | refine blk_alloc ?_ _)); refine blk_far ?_ NB149_167.out _; (with_reducible repeat (first | refine blk_drewN ?_ _ | refine blk_drew ?_ | refine blk_alloc ?_ _)); refine blk_far ?_ NB149_167.out _; (with_reducible repeat (first | refine blk_drewN ?_ _ | refine blk_drew ?_ | refine blk_alloc ?_ _)); refine blk_far ?_ NB149_167.out _; (with_reducible repeat (first | refine blk_drewN ?_ _ | refine blk_drew ?_ | refine blk_alloc ?_ _)); refine blk_far ?_ NB149_167.out _; (with_reducible repeat (first | refine blk_drewN ?_ _ | refine blk_drew ?_ | refine blk_alloc ?_ _)); refine blk_far ?_ NB149_167.out _; (with_reducible repeat (first | refine blk_drewN ?_ _ | refine blk_drew ?_ | refine blk_alloc ?_ _)); refine blk_far ?_ NB149_167.out _; (with_reducible repeat (first | refine blk_drewN ?_ _ | refine blk_drew ?_ | refine blk_alloc ?_ _)); refine blk_far ?_ NB149_167.out _; (with_reducible repeat (first | refine blk_drewN ?_ _ | refine blk_drew ?_ | refine blk_alloc ?_ _)); refine blk_far ?_ NB149_167.out _; (with_reducible repeat (first | refine blk_drewN ?_ _ | refine blk_drew ?_ | refine blk_alloc ?_ _)); exact BK149.out⟩
              have n2_ : Aside0 (((((((((((((((w39.setCell ⟨gb167, 0, none⟩ (.string t151)).setCell ⟨gb167, 1, none⟩ (.string t152)).setCell ⟨gb167, 2, none⟩ (.string t153)).setCell ⟨gb167, 3, none⟩ (.string t154)).setCell ⟨gb167, 4, none⟩ (.string t155)).setCell ⟨gb167, 5, none⟩ (.int .i64 t156)).setCell ⟨gb167, 6, none⟩ (.int .i64 t157)).setCell ⟨gb167, 7, none⟩ (.slice Ao43 t158.length co43)).setCell ⟨gb167, 8, none⟩ (.bool t161)).setCell ⟨gb167, 9, none⟩ (.int .i64 t162)).setCell ⟨gb167, 10, none⟩ (.string t163)).setCell ⟨gb167, 11, none⟩ (.string t164)).setCell ⟨gb167, 12, none⟩ (.string t165)).setCell ⟨gb167, 13, none⟩ (.string t166)).heap[gb150]? = some (.cells #[.string a1_0, .int .i64 a1_1] 23 (0, 0))) := ⟨by (with_reducible repeat (first | refine blk_drewN ?_ _ | refine blk_drew ?_ | refine blk_alloc ?_ _)); refine blk_far ?_ NB150_167.out _; (with_reducible repeat (first | refine blk_drewN ?_ _ | refine blk_drew ?_ | refine blk_alloc ?_ _)); refine blk_far ?_ NB150_167.out _; (with_reducible repeat (first | refine blk_drewN ?_ _ | refine blk_drew ?_ | refine blk_alloc ?_ _)); refine blk_far ?_ NB150_167.out _; (with_reducible repeat (first | refine blk_drewN ?_ _ | refine blk_drew ?_ | refine blk_alloc ?_ _)); refine blk_far ?_ NB150_167.out _; (with_reducible repeat (first | refine blk_drewN ?_ _ | refine blk_drew ?_ | refine blk_alloc ?_ _)); refine blk_far ?_ NB150_167.out _; (with_reducible repeat (first | refine blk_drewN ?_ _ | refine blk_drew ?_ | refine blk_alloc ?_ _)); refine blk_far ?_ NB150_167.out _; (with_reducible repeat (first | refine blk_drewN ?_ _ | refine blk_drew ?_ | refine blk_alloc ?_ _)); refine blk_far ?_ NB150_167.out _; (with_reducible repeat (first | refine blk_drewN ?_ _ | refine blk_drew ?_ | refine blk_alloc ?_ _)); refine blk_far ?_ NB150_167.out _; (with_reducible repeat (first | refine blk_drewN ?_ _ | refine blk_drew ?_ | refine blk_alloc ?_ _)); refine blk_far ?_ NB150_167.out _; (with_reducible repeat (first | refine blk_drewN ?_ _ | refine blk_drew ?_ | refine blk_alloc ?_ _)); refine blk_far ?_ NB150_167.out _; (with_reducible repeat (first | refine blk_drewN ?_ _ | refine blk_drew ?_ | refine blk_alloc ?_ _)); refine blk_far ?_ NB150_167.out _; (with_reducible repeat (first | refine blk_drewN ?_ _ | refine blk_drew ?_ | refine blk_alloc ?_ _)); refine blk_far ?_ NB150_167.out _; (with_reducible repeat (first | refine blk_drewN ?_ _ | refine blk_drew ?_ | refine blk_alloc ?_ _)); refine blk_far ?_ NB150_167.out _; (with_reducible repeat (first | refine blk_drewN ?_ _ | refine blk_drew ?_ | refine blk_alloc ?_ _)); refine blk_far ?_ NB150_167.out _; (with_reducible repeat (first | refine blk_drewN ?_ _ | refine blk_drew ?_ | refine blk_alloc ?_ _)); exact BK150.out⟩
              have n3_ : Aside0 (((((((((((((((w39.setCell ⟨gb167, 0, none⟩ (.string t151)).setCell ⟨gb167, 1, none⟩ (.string t152)).setCell ⟨gb167, 2, none⟩ (.string t153)).setCell ⟨gb167, 3, none⟩ (.string t154)).setCell ⟨gb167, 4, none⟩ (.string t155)).setCell ⟨gb167, 5, none⟩ (.int .i64 t156)).setCell ⟨gb167, 6, none⟩ (.int .i64 t157)).setCell ⟨gb167, 7, none⟩ (.slice Ao43 t158.length co43)).setCell ⟨gb167, 8, none⟩ (.bool t161)).setCell ⟨gb167, 9, none⟩ (.int .i64 t162)).setCell ⟨gb167, 10, none⟩ (.string t163)).setCell ⟨gb167, 11, none⟩ (.string t164)).setCell ⟨gb167, 12, none⟩ (.string t165)).setCell ⟨gb167, 13, none⟩ (.string t166)).heap[gb167]? = some (.cells #[.string t151, .string t152, .string t153, .string t154, .string t155, .int .i64 t156, .int .i64 t157, .slice Ao43 t158.length co43, .bool t161, .int .i64 t162, .string t163, .string t164, .string t165, .string t166] 40 (0, 0))) := ⟨by (with_reducible repeat (first | refine blk_drewN ?_ _ | refine blk_drew ?_ | refine blk_alloc ?_ _)); refine blk_put (cs := #[.string t151, .string t152, .string t153, .string t154, .string t155, .int .i64 t156, .int .i64 t157, .slice Ao43 t158.length co43, .bool t161, .int .i64 t162, .string t163, .string t164, .string t165, .string (⟨#[]⟩ : ByteArray)]) ?_ 13 _ rfl; (with_reducible repeat (first | refine blk_drewN ?_ _ | refine blk_drew ?_ | refine blk_alloc ?_ _)); refine blk_put (cs := #[.string t151, .string t152, .string t153, .string t154, .string t155, .int .i64 t156, .int .i64 t157, .slice Ao43 t158.length co43, .bool t161, .int .i64 t162, .string t163, .string t164, .string (⟨#[]⟩ : ByteArray), .string (⟨#[]⟩ : ByteArray)]) ?_ 12 _ rfl; (with_reducible repeat (first | refine blk_drewN ?_ _ | refine blk_drew ?_ | refine blk_alloc ?_ _)); refine blk_put (cs := #[.string t151, .string t152, .string t153, .string t154, .string t155, .int .i64 t156, .int .i64 t157, .slice Ao43 t158.length co43, .bool t161, .int .i64 t162, .string t163, .string (⟨#[]⟩ : ByteArray), .string (⟨#[]⟩ : ByteArray), .string (⟨#[]⟩ : ByteArray)]) ?_ 11 _ rfl; (with_reducible repeat (first | refine blk_drewN ?_ _ | refine blk_drew ?_ | refine blk_alloc ?_ _)); refine blk_put (cs := #[.string t151, .string t152, .string t153, .string t154, .string t155, .int .i64 t156, .int .i64 t157, .slice Ao43 t158.length co43, .bool t161, .int .i64 t162, .string (⟨#[]⟩ : ByteArray), .string (⟨#[]⟩ : ByteArray), .string (⟨#[]⟩ : ByteArray), .string (⟨#[]⟩ : ByteArray)]) ?_ 10 _ rfl; (with_reducible repeat (first | refine blk_drewN ?_ _ | refine blk_drew ?_ | refine blk_alloc ?_ _)); refine blk_put (cs := #[.string t151, .string t152, .string t153, .string t154, .string t155, .int .i64 t156, .int .i64 t157, .slice Ao43 t158.length co43, .bool t161, .int .i64 0, .string (⟨#[]⟩ : ByteArray), .string (⟨#[]⟩ : ByteArray), .string (⟨#[]⟩ : ByteArray), .string (⟨#[]⟩ : ByteArray)]) ?_ 9 _ rfl; (with_reducible repeat (first | refine blk_drewN ?_ _ | refine blk_drew ?_ | refine blk_alloc ?_ _)); refine blk_put (cs := #[.string t151, .string t152, .string t153, .string t154, .string t155, .int .i64 t156, .int .i64 t157, .slice Ao43 t158.length co43, .bool false, .int .i64 0, .string (⟨#[]⟩ : ByteArray), .string (⟨#[]⟩ : ByteArray), .string (⟨#[]⟩ : ByteArray), .string (⟨#[]⟩ : ByteArray)]) ?_ 8 _ rfl; (with_reducible repeat (first | refine blk_drewN ?_ _ | refine blk_drew ?_ | refine blk_alloc ?_ _)); refine blk_put (cs := #[.string t151, .string t152, .string t153, .string t154, .string t155, .int .i64 t156, .int .i64 t157, .slice none 0 0, .bool false, .int .i64 0, .string (⟨#[]⟩ : ByteArray), .string (⟨#[]⟩ : ByteArray), .string (⟨#[]⟩ : ByteArray), .string (⟨#[]⟩ : ByteArray)]) ?_ 7 _ rfl; (with_reducible repeat (first | refine blk_drewN ?_ _ | refine blk_drew ?_ | refine blk_alloc ?_ _)); refine blk_put (cs := #[.string t151, .string t152, .string t153, .string t154, .string t155, .int .i64 t156, .int .i64 0, .slice none 0 0, .bool false, .int .i64 0, .string (⟨#[]⟩ : ByteArray), .string (⟨#[]⟩ : ByteArray), .string (⟨#[]⟩ : ByteArray), .string (⟨#[]⟩ : ByteArray)]) ?_ 6 _ rfl; (with_reducible repeat (first | refine blk_drewN ?_ _ | refine blk_drew ?_ | refine blk_alloc ?_ _)); refine blk_put (cs := #[.string t151, .string t152, .string t153, .string t154, .string t155, .int .i64 0, .int .i64 0, .slice none 0 0, .bool false, .int .i64 0, .string (⟨#[]⟩ : ByteArray), .string (⟨#[]⟩ : ByteArray), .string (⟨#[]⟩ : ByteArray), .string (⟨#[]⟩ : ByteArray)]) ?_ 5 _ rfl; (with_reducible repeat (first | refine blk_drewN ?_ _ | refine blk_drew ?_ | refine blk_alloc ?_ _)); refine blk_put (cs := #[.string t151, .string t152, .string t153, .string t154, .string (⟨#[]⟩ : ByteArray), .int .i64 0, .int .i64 0, .slice none 0 0, .bool false, .int .i64 0, .string (⟨#[]⟩ : ByteArray), .string (⟨#[]⟩ : ByteArray), .string (⟨#[]⟩ : ByteArray), .string (⟨#[]⟩ : ByteArray)]) ?_ 4 _ rfl; (with_reducible repeat (first | refine blk_drewN ?_ _ | refine blk_drew ?_ | refine blk_alloc ?_ _)); refine blk_put (cs := #[.string t151, .string t152, .string t153, .string (⟨#[]⟩ : ByteArray), .string (⟨#[]⟩ : ByteArray), .int .i64 0, .int .i64 0, .slice none 0 0, .bool false, .int .i64 0, .string (⟨#[]⟩ : ByteArray), .string (⟨#[]⟩ : ByteArray), .string (⟨#[]⟩ : ByteArray), .string (⟨#[]⟩ : ByteArray)]) ?_ 3 _ rfl; (with_reducible repeat (first | refine blk_drewN ?_ _ | refine blk_drew ?_ | refine blk_alloc ?_ _)); refine blk_put (cs := #[.string t151, .string t152, .string (⟨#[]⟩ : ByteArray), .string (⟨#[]⟩ : ByteArray), .string (⟨#[]⟩ : ByteArray), .int .i64 0, .int .i64 0, .slice none 0 0, .bool false, .int .i64 0, .string (⟨#[]⟩ : ByteArray), .string (⟨#[]⟩ : ByteArray), .string (⟨#[]⟩ : ByteArray), .string (⟨#[]⟩ : ByteArray)]) ?_ 2 _ rfl; (with_reducible repeat (first | refine blk_drewN ?_ _ | refine blk_drew ?_ | refine blk_alloc ?_ _)); refine blk_put (cs := #[.string t151, .string (⟨#[]⟩ : ByteArray), .string (⟨#[]⟩ : ByteArray), .string (⟨#[]⟩ : ByteArray), .string (⟨#[]⟩ : ByteArray), .int .i64 0, .int .i64 0, .slice none 0 0, .bool false, .int .i64 0, .string (⟨#[]⟩ : ByteArray), .string (⟨#[]⟩ : ByteArray), .string (⟨#[]⟩ : ByteArray), .string (⟨#[]⟩ : ByteArray)]) ?_ 1 _ rfl; (with_reducible repeat (first | refine blk_drewN ?_ _ | refine blk_drew ?_ | refine blk_alloc ?_ _)); refine blk_put (cs := #[.string (⟨#[]⟩ : ByteArray), .string (⟨#[]⟩ : ByteArray), .string (⟨#[]⟩ : ByteArray), .string (⟨#[]⟩ : ByteArray), .string (⟨#[]⟩ : ByteArray), .int .i64 0, .int .i64 0, .slice none 0 0, .bool false, .int .i64 0, .string (⟨#[]⟩ : ByteArray), .string (⟨#[]⟩ : ByteArray), .string (⟨#[]⟩ : ByteArray), .string (⟨#[]⟩ : ByteArray)]) ?_ 0 _ rfl; (with_reducible repeat (first | refine blk_drewN ?_ _ | refine blk_drew ?_ | refine blk_alloc ?_ _)); exact BK167.out⟩
              have n4_ : Aside0 (Below w.heap.size w ((((((((((((((w39.setCell ⟨gb167, 0, none⟩ (.string t151)).setCell ⟨gb167, 1, none⟩ (.string t152)).setCell ⟨gb167, 2, none⟩ (.string t153)).setCell ⟨gb167, 3, none⟩ (.string t154)).setCell ⟨gb167, 4, none⟩ (.string t155)).setCell ⟨gb167, 5, none⟩ (.int .i64 t156)).setCell ⟨gb167, 6, none⟩ (.int .i64 t157)).setCell ⟨gb167, 7, none⟩ (.slice Ao43 t158.length co43)).setCell ⟨gb167, 8, none⟩ (.bool t161)).setCell ⟨gb167, 9, none⟩ (.int .i64 t162)).setCell ⟨gb167, 10, none⟩ (.string t163)).setCell ⟨gb167, 11, none⟩ (.string t164)).setCell ⟨gb167, 12, none⟩ (.string t165)).setCell ⟨gb167, 13, none⟩ (.string t166))) := ⟨by repeat (first | (with_reducible first | exact HB.out | apply below_alloc | apply pw_below_drewN | apply below_drew1 | refine below_set ?_ GE149.out | refine below_set ?_ GE150.out | refine below_set ?_ GE167.out) | exact HB.out)⟩
              (try clear HO160)
              (try clear BK149)
              (try clear BK150)
              (try clear BK167)
              (try clear HB)
              generalize ((((((((((((((w39.setCell ⟨gb167, 0, none⟩ (.string t151)).setCell ⟨gb167, 1, none⟩ (.string t152)).setCell ⟨gb167, 2, none⟩ (.string t153)).setCell ⟨gb167, 3, none⟩ (.string t154)).setCell ⟨gb167, 4, none⟩ (.string t155)).setCell ⟨gb167, 5, none⟩ (.int .i64 t156)).setCell ⟨gb167, 6, none⟩ (.int .i64 t157)).setCell ⟨gb167, 7, none⟩ (.slice Ao43 t158.length co43)).setCell ⟨gb167, 8, none⟩ (.bool t161)).setCell ⟨gb167, 9, none⟩ (.int .i64 t162)).setCell ⟨gb167, 10, none⟩ (.string t163)).setCell ⟨gb167, 11, none⟩ (.string t164)).setCell ⟨gb167, 12, none⟩ (.string t165)).setCell ⟨gb167, 13, none⟩ (.string t166)) = w44 at n0_ n1_ n2_ n3_ n4_ ⊢
              have HO160 := n0_
              have BK149 := n1_
              have BK150 := n2_
              have BK167 := n3_
              have HB := n4_
              clear n0_ n1_ n2_ n3_ n4_
              have n0_ := Aside0.mk (Kd.R_drew HO160.out)
              have n1_ := Aside0.mk (blk_drew BK149.out)
              have n2_ := Aside0.mk (blk_drew BK150.out)
              have n3_ := Aside0.mk (blk_drew BK167.out)
              have n4_ := Aside0.mk (below_drew1 HB.out)
              clear HO160
              clear BK149
              clear BK150
              clear BK167
              clear HB
              have HO160 := n0_
              have BK149 := n1_
              have BK150 := n2_
              have BK167 := n3_
              have HB := n4_
              clear n0_ n1_ n2_ n3_ n4_
              refine start_ (n := 24) (S := fun w' => w'.cell? ⟨gb167, 0, none⟩ = some (.string t151) ∧ w'.cell? ⟨gb167, 1, none⟩ = some (.string t152) ∧ w'.cell? ⟨gb167, 2, none⟩ = some (.string t153) ∧ w'.cell? ⟨gb167, 3, none⟩ = some (.string t154) ∧ w'.cell? ⟨gb167, 4, none⟩ = some (.string t155) ∧ w'.cell? ⟨gb167, 5, none⟩ = some (.int .i64 t156) ∧ w'.cell? ⟨gb167, 6, none⟩ = some (.int .i64 t157) ∧ w'.cell? ⟨gb167, 7, none⟩ = some (.slice Ao43 t158.length co43) ∧ w'.cell? ⟨gb167, 8, none⟩ = some (.bool t161) ∧ w'.cell? ⟨gb167, 9, none⟩ = some (.int .i64 t162) ∧ w'.cell? ⟨gb167, 10, none⟩ = some (.string t163) ∧ w'.cell? ⟨gb167, 11, none⟩ = some (.string t164) ∧ w'.cell? ⟨gb167, 12, none⟩ = some (.string t165) ∧ w'.cell? ⟨gb167, 13, none⟩ = some (.string t166) ∧ w'.cell? ⟨gb150, 0, none⟩ = some (.string a1_0) ∧ w'.cell? ⟨gb150, 1, none⟩ = some (.int .i64 a1_1)) (ds := []) #[false, false, false, false, false, false, false, false, false, false, false, false, false, false, false, false, false, false, false, false, false, false, false, false] (by kernel_rfl) rfl rfl ⟨(blk_cell BK167.out 0).trans rfl, (blk_cell BK167.out 1).trans rfl, (blk_cell BK167.out 2).trans rfl, (blk_cell BK167.out 3).trans rfl, (blk_cell BK167.out 4).trans rfl, (blk_cell BK167.out 5).trans rfl, (blk_cell BK167.out 6).trans rfl, (blk_cell BK167.out 7).trans rfl, (blk_cell BK167.out 8).trans rfl, (blk_cell BK167.out 9).trans rfl, (blk_cell BK167.out 10).trans rfl, (blk_cell BK167.out 11).trans rfl, (blk_cell BK167.out 12).trans rfl, (blk_cell BK167.out 13).trans rfl, (blk_cell BK150.out 0).trans rfl, (blk_cell BK150.out 1).trans rfl⟩ (fun hHeld => ?_); refine with_tabW laws_placed7.tab4 laws_placed7.bits4 (fun HT_ HW_ => ?_)
              generalize w44.drew = w45 at HO160 BK149 BK150 BK167 HB hHeld ⊢
              refine pure_ (i := 0) (N := some 28) (v := ?_) (a' := ?_) #[true, false, false, false, false, false, false, false, false, false, false, false, false, false, false, false, false, false, false, false, false, false, false, false] rfl rfl (any_of HT_.out (by kernel_rfl)) (fun _ _ _ h => h) (Or.inl ⟨by rfl, ?_⟩) ?_ ?_
              rotate_left
              · intro w'
                go_simp
                with_reducible rfl
              rotate_left
              · simp only [Act.put, List.setIfInBounds_toArray, List.set_cons_zero, List.set_cons_succ, i64_w, i32_w]
                rfl
              refine pure_ (i := 2) (N := some 30) (v := ?_) (a' := ?_) #[true, false, true, false, false, false, false, false, false, false, false, false, false, false, false, false, false, false, false, false, false, false, false, false] rfl rfl (any_of HT_.out (by kernel_rfl)) (fun _ _ _ h => h) (Or.inl ⟨by rfl, ?_⟩) ?_ ?_
              rotate_left
              · intro w'
                go_simp
                with_reducible rfl
              rotate_left
              · simp only [Act.put, List.setIfInBounds_toArray, List.set_cons_zero, List.set_cons_succ, i64_w, i32_w]
                rfl
              refine take_ (i := 1) (N := some 29) (v := ?_) (a' := ?_) #[true, true, true, false, false, false, false, false, false, false, false, false, false, false, false, false, false, false, false, false, false, false, false, false] rfl rfl (take_ofW HT_.out HW_.out (by kernel_rfl)) (fun _ _ _ h => h) (Or.inl ⟨by rfl, ?_⟩) hHeld ?_ ?_
              rotate_left
              · rintro w' ⟨s0, s1, s2, s3, s4, s5, s6, s7, s8, s9, s10, s11, s12, s13, s14, s15⟩
                go_simp
                with_reducible rfl
              rotate_left
              · simp only [Act.put, List.setIfInBounds_toArray, List.set_cons_zero, List.set_cons_succ, i64_w, i32_w]
                rfl
              refine pure_ (i := 3) (N := some 31) (v := ?_) (a' := ?_) #[true, true, true, true, false, false, false, false, false, false, false, false, false, false, false, false, false, false, false, false, false, false, false, false] rfl rfl (any_of HT_.out (by kernel_rfl)) (fun _ _ _ h => h) (Or.inl ⟨by rfl, ?_⟩) ?_ ?_
              rotate_left
              · intro w'
                go_simp
                with_reducible rfl
              rotate_left
              · simp only [Act.put, List.setIfInBounds_toArray, List.set_cons_zero, List.set_cons_succ, i64_w, i32_w]
                rfl
              refine pure_ (i := 4) (N := some 32) (v := ?_) (a' := ?_) #[true, true, true, true, true, false, false, false, false, false, false, false, false, false, false, false, false, false, false, false, false, false, false, false] rfl rfl (any_of HT_.out (by kernel_rfl)) (fun _ _ _ h => h) (Or.inl ⟨by rfl, ?_⟩) ?_ ?_
              rotate_left
              · intro w'
                go_simp
                with_reducible rfl
              rotate_left
              · simp only [Act.put, List.setIfInBounds_toArray, List.set_cons_zero, List.set_cons_succ, i64_w, i32_w]
                rfl
              refine pure_ (i := 5) (N := some 33) (v := ?_) (a' := ?_) #[true, true, true, true, true, true, false, false, false, false, false, false, false, false, false, false, false, false, false, false, false, false, false, false] rfl rfl (any_of HT_.out (by kernel_rfl)) (fun _ _ _ h => h) (Or.inl ⟨by rfl, ?_⟩) ?_ ?_
              rotate_left
              · intro w'
                go_simp
                with_reducible rfl
              rotate_left
              · simp only [Act.put, List.setIfInBounds_toArray, List.set_cons_zero, List.set_cons_succ, i64_w, i32_w]
                rfl
              refine take_ (i := 6) (N := some 34) (v := ?_) (a' := ?_) #[true, true, true, true, true, true, true, false, false, false, false, false, false, false, false, false, false, false, false, false, false, false, false, false] rfl rfl (take_ofW HT_.out HW_.out (by kernel_rfl)) (fun _ _ _ h => h) (Or.inl ⟨by rfl, ?_⟩) hHeld ?_ ?_
              rotate_left
              · rintro w' ⟨s0, s1, s2, s3, s4, s5, s6, s7, s8, s9, s10, s11, s12, s13, s14, s15⟩
                go_simp
                with_reducible rfl
              rotate_left
              · simp only [Act.put, List.setIfInBounds_toArray, List.set_cons_zero, List.set_cons_succ, i64_w, i32_w]
                rfl
              refine take_ (i := 7) (N := some 35) (v := ?_) (a' := ?_) #[true, true, true, true, true, true, true, true, false, false, false, false, false, false, false, false, false, false, false, false, false, false, false, false] rfl rfl (take_ofW HT_.out HW_.out (by kernel_rfl)) (fun _ _ _ h => h) (Or.inl ⟨by rfl, ?_⟩) hHeld ?_ ?_
              rotate_left
              · rintro w' ⟨s0, s1, s2, s3, s4, s5, s6, s7, s8, s9, s10, s11, s12, s13, s14, s15⟩
                go_simp
                with_reducible rfl
              rotate_left
              · simp only [Act.put, List.setIfInBounds_toArray, List.set_cons_zero, List.set_cons_succ, i64_w, i32_w]
                rfl
              refine one_ (i := 8) (N := some 36) #[true, true, true, true, true, true, true, true, true, false, false, false, false, false, false, false, false, false, false, false, false, false, false, false] rfl rfl (one_of HT_.out (by kernel_rfl)) (by decide) (fun K hK => ?_)
              refine goes_ Tryz.func28 (by kernel_rfl) rfl #[.agg #[.string a1_0, .int .i64 a1_1]] (by rfl) rfl rfl (by (try simp only [List.map_toArray, List.map_cons, List.map_nil]); first | done | rfl | (simp only [List.length_drop, List.length_take]; rfl) | (simp only [Int.toNat_natCast, ByteArray.extract_zero_size]; rfl)) ?_
              with_reducible refine (spec_Column.calls kj3 a1_0 a1_1 t168 _ A21.out).mono ?_
              rintro e w46 ⟨rfl, hb⟩
              refine ⟨_, rfl, ?_⟩
              have n0_ := Aside0.mk (Kd.R_below (by (with_reducible repeat (first | apply Kd.R_alloc | apply Kd.R_drewN | apply Kd.R_drew)); exact HO160.out) hb)
              have n1_ := Aside0.mk (blk_below (g := gb149) (o := .cells #[.string a0_0, .int .i64 a0_1] 23 (0, 0)) (by (with_reducible repeat (first | refine blk_drewN ?_ _ | refine blk_drew ?_ | refine blk_alloc ?_ _)); exact BK149.out) hb)
              have n2_ := Aside0.mk (blk_below (g := gb150) (o := .cells #[.string a1_0, .int .i64 a1_1] 23 (0, 0)) (by (with_reducible repeat (first | refine blk_drewN ?_ _ | refine blk_drew ?_ | refine blk_alloc ?_ _)); exact BK150.out) hb)
              have n3_ := Aside0.mk (blk_below (g := gb167) (o := .cells #[.string t151, .string t152, .string t153, .string t154, .string t155, .int .i64 t156, .int .i64 t157, .slice Ao43 t158.length co43, .bool t161, .int .i64 t162, .string t163, .string t164, .string t165, .string t166] 40 (0, 0)) (by (with_reducible repeat (first | refine blk_drewN ?_ _ | refine blk_drew ?_ | refine blk_alloc ?_ _)); exact BK167.out) hb)
              have n4_ := Aside0.mk (below_step (by repeat (first | (with_reducible first | exact HB.out | apply below_alloc | apply pw_below_drewN | apply below_drew1 | refine below_set ?_ GE149.out | refine below_set ?_ GE150.out | refine below_set ?_ GE167.out) | exact HB.out)) hb)
              clear HO160
              clear BK149
              clear BK150
              clear BK167
              clear HB
              have HO160 := n0_
              have BK149 := n1_
              have BK150 := n2_
              have BK167 := n3_
              have HB := n4_
              clear n0_ n1_ n2_ n3_ n4_
              (try clear hb)
              (try clear hb2)
              (try clear hk)
              (try clear hi)
              refine hK.out _ _ ⟨(blk_cell BK167.out 0).trans rfl, (blk_cell BK167.out 1).trans rfl, (blk_cell BK167.out 2).trans rfl, (blk_cell BK167.out 3).trans rfl, (blk_cell BK167.out 4).trans rfl, (blk_cell BK167.out 5).trans rfl, (blk_cell BK167.out 6).trans rfl, (blk_cell BK167.out 7).trans rfl, (blk_cell BK167.out 8).trans rfl, (blk_cell BK167.out 9).trans rfl, (blk_cell BK167.out 10).trans rfl, (blk_cell BK167.out 11).trans rfl, (blk_cell BK167.out 12).trans rfl, (blk_cell BK167.out 13).trans rfl, (blk_cell BK150.out 0).trans rfl, (blk_cell BK150.out 1).trans rfl⟩ (fun hHeld => ?_)
              clear hK K
              refine norm_ (a' := ?_) ?_ ?_
              rotate_left
              · show Act.put _ (some 36) _ = _
                simp only [Act.put, List.setIfInBounds_toArray, List.set_cons_zero, List.set_cons_succ, i64_w, i32_w]
                rfl
              refine pure_ (i := 9) (N := some 37) (v := ?_) (a' := ?_) #[true, true, true, true, true, true, true, true, true, true, false, false, false, false, false, false, false, false, false, false, false, false, false, false] rfl rfl (any_of HT_.out (by kernel_rfl)) (fun _ _ _ h => h) (Or.inl ⟨by rfl, ?_⟩) ?_ ?_
              rotate_left
              · intro w'
                go_simp
                with_reducible rfl
              rotate_left
              · simp only [Act.put, List.setIfInBounds_toArray, List.set_cons_zero, List.set_cons_succ, i64_w, i32_w]
                rfl
              refine pure_ (i := 10) (N := some 38) (v := ?_) (a' := ?_) #[true, true, true, true, true, true, true, true, true, true, true, false, false, false, false, false, false, false, false, false, false, false, false, false] rfl rfl (any_of HT_.out (by kernel_rfl)) (fun _ _ _ h => h) (Or.inl ⟨by rfl, ?_⟩) ?_ ?_
              rotate_left
              · intro w'
                go_simp
                with_reducible rfl
              rotate_left
              · simp only [Act.put, List.setIfInBounds_toArray, List.set_cons_zero, List.set_cons_succ, i64_w, i32_w]
                rfl
              refine pure_ (i := 11) (N := some 39) (v := ?_) (a' := ?_) #[true, true, true, true, true, true, true, true, true, true, true, true, false, false, false, false, false, false, false, false, false, false, false, false] rfl rfl (any_of HT_.out (by kernel_rfl)) (fun _ _ _ h => h) (Or.inl ⟨by rfl, ?_⟩) ?_ ?_
              rotate_left
              · intro w'
                go_simp
                with_reducible rfl
              rotate_left
              · simp only [Act.put, List.setIfInBounds_toArray, List.set_cons_zero, List.set_cons_succ, i64_w, i32_w]
                rfl
              refine take_ (i := 12) (N := some 40) (v := ?_) (a' := ?_) #[true, true, true, true, true, true, true, true, true, true, true, true, true, false, false, false, false, false, false, false, false, false, false, false] rfl rfl (take_ofW HT_.out HW_.out (by kernel_rfl)) (fun _ _ _ h => h) (Or.inl ⟨by rfl, ?_⟩) hHeld ?_ ?_
              rotate_left
              · rintro w' ⟨s0, s1, s2, s3, s4, s5, s6, s7, s8, s9, s10, s11, s12, s13, s14, s15⟩
                go_simp
                with_reducible rfl
              rotate_left
              · simp only [Act.put, List.setIfInBounds_toArray, List.set_cons_zero, List.set_cons_succ, i64_w, i32_w]
                rfl
              refine take_ (i := 13) (N := some 41) (v := ?_) (a' := ?_) #[true, true, true, true, true, true, true, true, true, true, true, true, true, true, false, false, false, false, false, false, false, false, false, false] rfl rfl (take_ofW HT_.out HW_.out (by kernel_rfl)) (fun _ _ _ h => h) (Or.inl ⟨by rfl, ?_⟩) hHeld ?_ ?_
              rotate_left
              · rintro w' ⟨s0, s1, s2, s3, s4, s5, s6, s7, s8, s9, s10, s11, s12, s13, s14, s15⟩
                go_simp
                with_reducible rfl
              rotate_left
              · simp only [Act.put, List.setIfInBounds_toArray, List.set_cons_zero, List.set_cons_succ, i64_w, i32_w]
                rfl
              refine one_ (i := 14) (N := some 42) #[true, true, true, true, true, true, true, true, true, true, true, true, true, true, true, false, false, false, false, false, false, false, false, false] rfl rfl (one_of HT_.out (by kernel_rfl)) (by decide) (fun K hK => ?_)
              refine goes_ Tryz.func28 (by kernel_rfl) rfl #[.agg #[.string a1_0, .int .i64 a1_1]] (by rfl) rfl rfl (by (try simp only [List.map_toArray, List.map_cons, List.map_nil]); first | done | rfl | (simp only [List.length_drop, List.length_take]; rfl) | (simp only [Int.toNat_natCast, ByteArray.extract_zero_size]; rfl)) ?_
              with_reducible refine (spec_Column.calls kj3 a1_0 a1_1 t169 _ A34.out).mono ?_
              rintro e w47 ⟨rfl, hb⟩
              refine ⟨_, rfl, ?_⟩
              have n0_ := Aside0.mk (Kd.R_below (by (with_reducible repeat (first | apply Kd.R_alloc | apply Kd.R_drewN | apply Kd.R_drew)); exact HO160.out) hb)
              have n1_ := Aside0.mk (blk_below (g := gb149) (o := .cells #[.string a0_0, .int .i64 a0_1] 23 (0, 0)) (by (with_reducible repeat (first | refine blk_drewN ?_ _ | refine blk_drew ?_ | refine blk_alloc ?_ _)); exact BK149.out) hb)
              have n2_ := Aside0.mk (blk_below (g := gb150) (o := .cells #[.string a1_0, .int .i64 a1_1] 23 (0, 0)) (by (with_reducible repeat (first | refine blk_drewN ?_ _ | refine blk_drew ?_ | refine blk_alloc ?_ _)); exact BK150.out) hb)
              have n3_ := Aside0.mk (blk_below (g := gb167) (o := .cells #[.string t151, .string t152, .string t153, .string t154, .string t155, .int .i64 t156, .int .i64 t157, .slice Ao43 t158.length co43, .bool t161, .int .i64 t162, .string t163, .string t164, .string t165, .string t166] 40 (0, 0)) (by (with_reducible repeat (first | refine blk_drewN ?_ _ | refine blk_drew ?_ | refine blk_alloc ?_ _)); exact BK167.out) hb)
              have n4_ := Aside0.mk (below_step (by repeat (first | (with_reducible first | exact HB.out | apply below_alloc | apply pw_below_drewN | apply below_drew1 | refine below_set ?_ GE149.out | refine below_set ?_ GE150.out | refine below_set ?_ GE167.out) | exact HB.out)) hb)
              clear HO160
              clear BK149
              clear BK150
              clear BK167
              clear HB
              have HO160 := n0_
              have BK149 := n1_
              have BK150 := n2_
              have BK167 := n3_
              have HB := n4_
              clear n0_ n1_ n2_ n3_ n4_
              (try clear hb)
              (try clear hb2)
              (try clear hk)
              (try clear hi)
              refine hK.out _ _ ⟨(blk_cell BK167.out 0).trans rfl, (blk_cell BK167.out 1).trans rfl, (blk_cell BK167.out 2).trans rfl, (blk_cell BK167.out 3).trans rfl, (blk_cell BK167.out 4).trans rfl, (blk_cell BK167.out 5).trans rfl, (blk_cell BK167.out 6).trans rfl, (blk_cell BK167.out 7).trans rfl, (blk_cell BK167.out 8).trans rfl, (blk_cell BK167.out 9).trans rfl, (blk_cell BK167.out 10).trans rfl, (blk_cell BK167.out 11).trans rfl, (blk_cell BK167.out 12).trans rfl, (blk_cell BK167.out 13).trans rfl, (blk_cell BK150.out 0).trans rfl, (blk_cell BK150.out 1).trans rfl⟩ (fun hHeld => ?_)
              clear hK K
              refine norm_ (a' := ?_) ?_ ?_
              rotate_left
              · show Act.put _ (some 42) _ = _
                simp only [Act.put, List.setIfInBounds_toArray, List.set_cons_zero, List.set_cons_succ, i64_w, i32_w]
                rfl
              refine pure_ (i := 15) (N := some 43) (v := ?_) (a' := ?_) #[true, true, true, true, true, true, true, true, true, true, true, true, true, true, true, true, false, false, false, false, false, false, false, false] rfl rfl (any_of HT_.out (by kernel_rfl)) (fun _ _ _ h => h) (Or.inl ⟨by rfl, ?_⟩) ?_ ?_
              rotate_left
              · intro w'
                go_simp
                with_reducible rfl
              rotate_left
              · simp only [Act.put, List.setIfInBounds_toArray, List.set_cons_zero, List.set_cons_succ, i64_w, i32_w]
                rfl
              refine pure_ (i := 16) (N := some 44) (v := ?_) (a' := ?_) #[true, true, true, true, true, true, true, true, true, true, true, true, true, true, true, true, true, false, false, false, false, false, false, false] rfl rfl (any_of HT_.out (by kernel_rfl)) (fun _ _ _ h => h) (Or.inl ⟨by rfl, ?_⟩) ?_ ?_
              rotate_left
              · intro w'
                go_simp
                with_reducible rfl
              rotate_left
              · simp only [Act.put, List.setIfInBounds_toArray, List.set_cons_zero, List.set_cons_succ, i64_w, i32_w]
                rfl
              refine pure_ (i := 17) (N := some 45) (v := ?_) (a' := ?_) #[true, true, true, true, true, true, true, true, true, true, true, true, true, true, true, true, true, true, false, false, false, false, false, false] rfl rfl (any_of HT_.out (by kernel_rfl)) (fun _ _ _ h => h) (Or.inl ⟨by rfl, ?_⟩) ?_ ?_
              rotate_left
              · intro w'
                go_simp
                with_reducible rfl
              rotate_left
              · simp only [Act.put, List.setIfInBounds_toArray, List.set_cons_zero, List.set_cons_succ, i64_w, i32_w]
                rfl
              refine take_ (i := 18) (N := some 46) (v := ?_) (a' := ?_) #[true, true, true, true, true, true, true, true, true, true, true, true, true, true, true, true, true, true, true, false, false, false, false, false] rfl rfl (take_ofW HT_.out HW_.out (by kernel_rfl)) (fun _ _ _ h => h) (Or.inl ⟨by rfl, ?_⟩) hHeld ?_ ?_
              rotate_left
              · rintro w' ⟨s0, s1, s2, s3, s4, s5, s6, s7, s8, s9, s10, s11, s12, s13, s14, s15⟩
                go_simp
                with_reducible rfl
              rotate_left
              · simp only [Act.put, List.setIfInBounds_toArray, List.set_cons_zero, List.set_cons_succ, i64_w, i32_w]
                rfl
              refine pure_ (i := 19) (N := some 47) (v := ?_) (a' := ?_) #[true, true, true, true, true, true, true, true, true, true, true, true, true, true, true, true, true, true, true, true, false, false, false, false] rfl rfl (any_of HT_.out (by kernel_rfl)) (fun _ _ _ h => h) (Or.inl ⟨by rfl, ?_⟩) ?_ ?_
              rotate_left
              · intro w'
                go_simp
                with_reducible rfl
              rotate_left
              · simp only [Act.put, List.setIfInBounds_toArray, List.set_cons_zero, List.set_cons_succ, i64_w, i32_w]
                rfl
              refine pure_ (i := 20) (N := some 48) (v := ?_) (a' := ?_) #[true, true, true, true, true, true, true, true, true, true, true, true, true, true, true, true, true, true, true, true, true, false, false, false] rfl rfl (any_of HT_.out (by kernel_rfl)) (fun _ _ _ h => h) (Or.inl ⟨by rfl, ?_⟩) ?_ ?_
              rotate_left
              · intro w'
                go_simp
                with_reducible rfl
              rotate_left
              · simp only [Act.put, List.setIfInBounds_toArray, List.set_cons_zero, List.set_cons_succ, i64_w, i32_w]
                rfl
              refine pure_ (i := 21) (N := some 49) (v := ?_) (a' := ?_) #[true, true, true, true, true, true, true, true, true, true, true, true, true, true, true, true, true, true, true, true, true, true, false, false] rfl rfl (any_of HT_.out (by kernel_rfl)) (fun _ _ _ h => h) (Or.inl ⟨by rfl, ?_⟩) ?_ ?_
              rotate_left
              · intro w'
                go_simp
                with_reducible rfl
              rotate_left
              · simp only [Act.put, List.setIfInBounds_toArray, List.set_cons_zero, List.set_cons_succ, i64_w, i32_w]
                rfl
              refine pure_ (i := 22) (N := some 50) (v := ?_) (a' := ?_) #[true, true, true, true, true, true, true, true, true, true, true, true, true, true, true, true, true, true, true, true, true, true, true, false] rfl rfl (any_of HT_.out (by kernel_rfl)) (fun _ _ _ h => h) (Or.inl ⟨by rfl, ?_⟩) ?_ ?_
              rotate_left
              · intro w'
                go_simp
                with_reducible rfl
              rotate_left
              · simp only [Act.put, List.setIfInBounds_toArray, List.set_cons_zero, List.set_cons_succ, i64_w, i32_w]
                rfl
              refine pure_ (i := 23) (N := some 6) (v := ?_) (a' := ?_) #[true, true, true, true, true, true, true, true, true, true, true, true, true, true, true, true, true, true, true, true, true, true, true, true] rfl rfl (any_of HT_.out (by kernel_rfl)) (fun _ _ _ h => h) (Or.inl ⟨by rfl, ?_⟩) ?_ ?_
              rotate_left
              · intro w'
                go_simp
                with_reducible rfl
              rotate_left
              · simp only [Act.put, List.setIfInBounds_toArray, List.set_cons_zero, List.set_cons_succ, i64_w, i32_w]
                rfl
              refine done_ (done_of HT_.out (by kernel_rfl)) ?_
              try go_wp2
              go_ret
              exact ⟨by first | rfl | (simp [errW_none, errW_some] <;> rfl) | (simp [*, errW_none, errW_some] <;> rfl), by repeat (first | (with_reducible first | exact HB.out | apply below_alloc | apply pw_below_drewN | apply below_drew1 | refine below_set ?_ GE149.out | refine below_set ?_ GE150.out | refine below_set ?_ GE167.out) | exact HB.out)⟩
            · rw [if_neg c35] at H
              have c35b0 : decide (t157 < t169) = false := decide_eq_false c35
              clear c35
              obtain rfl := Option.some.inj H
              have hnb48 := NB149_150.out
              have hnc48 := NB150_149.out
              have hcz49_0 : wc.cell? ⟨gb149, 0, none⟩ = some (.string a0_0) := (blk_cell BK149.out 0).trans rfl
              have hcz49_1 : wc.cell? ⟨gb149, 1, none⟩ = some (.int .i64 a0_1) := (blk_cell BK149.out 1).trans rfl
              have hfz49_0 := blk_frozen BK149.out 0
              have hfz49_1 := blk_frozen BK149.out 1
              try go_wp2_with (first | ((with_reducible refine gate_callee (f := 16) rfl ?_); refine goesL_ (some 27) rfl rfl Tryz.func16 (by kernel_rfl) rfl #[.agg #[.string a0_0, .int .i64 a0_1]] rfl (by (try simp only [List.map_toArray, List.map_cons, List.map_nil]); first | done | rfl | (simp only [List.length_drop, List.length_take]; rfl) | (simp only [Int.toNat_natCast, ByteArray.extract_zero_size]; rfl)) ?_; (with_reducible refine (impl_AroundOf.calls kj3 a0_0 a0_1 t151 t152 t153 t154 t155 t156 t157 t158 t161 t162 t163 t164 t165 t166 _ A19.out).mono ?_); rintro e w50 ⟨v159, rfl, ho0, hb⟩; refine ⟨_, rfl, ?_⟩; have n0_ := Aside0.mk (Kd.R_lower ho0 (below_size (by repeat (first | (with_reducible first | exact HB.out | apply below_alloc | apply pw_below_drewN | apply below_drew1 | refine below_set ?_ GE149.out | refine below_set ?_ GE150.out) | exact HB.out)))); have n1_ := Aside0.mk (blk_below (g := gb149) (o := .cells #[.string a0_0, .int .i64 a0_1] 23 (0, 0)) (by (with_reducible repeat (first | refine blk_drewN ?_ _ | refine blk_drew ?_ | refine blk_alloc ?_ _)); exact BK149.out) hb); have n2_ := Aside0.mk (blk_below (g := gb150) (o := .cells #[.string a1_0, .int .i64 a1_1] 23 (0, 0)) (by (with_reducible repeat (first | refine blk_drewN ?_ _ | refine blk_drew ?_ | refine blk_alloc ?_ _)); exact BK150.out) hb); have n3_ := Aside0.mk (below_step (by repeat (first | (with_reducible first | exact HB.out | apply below_alloc | apply pw_below_drewN | apply below_drew1 | refine below_set ?_ GE149.out | refine below_set ?_ GE150.out) | exact HB.out)) hb); clear BK149; clear BK150; clear HB; have HO160 := n0_; have BK149 := n1_; have BK150 := n2_; have HB := n3_; clear n0_ n1_ n2_ n3_; (try clear hb); (try clear hb2); (try clear hk); (try clear hi); (try clear ho0)) | ((with_reducible refine gate_dst (N := 7) rfl ?_); (try (refine gate_guard (by rfl) ?_; dsimp only)); refine box_event ?hg (N := 7) ?hd (cs := #[.string (⟨#[]⟩ : ByteArray), .string (⟨#[]⟩ : ByteArray), .string (⟨#[]⟩ : ByteArray), .string (⟨#[]⟩ : ByteArray), .string (⟨#[]⟩ : ByteArray), .int .i64 0, .int .i64 0, .slice none 0 0, .bool false, .int .i64 0, .string (⟨#[]⟩ : ByteArray), .string (⟨#[]⟩ : ByteArray), .string (⟨#[]⟩ : ByteArray), .string (⟨#[]⟩ : ByteArray)]) (t := 40) ?hr ?_; (case hd => rfl); (case hg => rfl); (case hr => first | (go_simp; done) | (go_simp; rfl)); intro gb167 hg w51 hbox hb; have n0_ := Aside0.mk (Kd.R_below (by (with_reducible repeat (first | apply Kd.R_alloc | apply Kd.R_drewN | apply Kd.R_drew)); exact HO160.out) hb); have n1_ := Aside0.mk (blk_below (g := gb149) (o := .cells #[.string a0_0, .int .i64 a0_1] 23 (0, 0)) (by (with_reducible repeat (first | refine blk_drewN ?_ _ | refine blk_drew ?_ | refine blk_alloc ?_ _)); exact BK149.out) hb); have n2_ := Aside0.mk (blk_below (g := gb150) (o := .cells #[.string a1_0, .int .i64 a1_1] 23 (0, 0)) (by (with_reducible repeat (first | refine blk_drewN ?_ _ | refine blk_drew ?_ | refine blk_alloc ?_ _)); exact BK150.out) hb); have n3_ := Aside0.mk (below_step (by repeat (first | (with_reducible first | exact HB.out | apply below_alloc | apply pw_below_drewN | apply below_drew1 | refine below_set ?_ GE149.out | refine below_set ?_ GE150.out) | exact HB.out)) hb); have n4_ := Aside0.mk (hbox); have n5_ := Aside0.mk ((by rw [hg]; exact (below_size (by repeat (first | (with_reducible first | exact HB.out | apply below_alloc | apply pw_below_drewN | apply below_drew1 | refine below_set ?_ GE149.out | refine below_set ?_ GE150.out) | exact HB.out))) : w.heap.size ≤ gb167)); have n6_ := Aside0.mk ((by rw [hg]; exact (below_size (by repeat (first | (with_reducible first | exact HB.out | apply below_alloc | apply pw_below_drewN | apply below_drew1 | refine below_set ?_ GE149.out | refine below_set ?_ GE150.out) | exact HB.out))) : w.heap.size ≤ gb167)); have n7_ := Aside0.mk ((by rw [hg]; exact Nat.ne_of_lt (blk_lt (g := gb149) (o := .cells #[.string a0_0, .int .i64 a0_1] 23 (0, 0)) (by (with_reducible repeat (first | refine blk_drewN ?_ _ | refine blk_drew ?_ | refine blk_alloc ?_ _)); exact BK149.out)) : gb149 ≠ gb167)); have n8_ := Aside0.mk ((by rw [hg]; exact Nat.ne_of_gt (blk_lt (g := gb149) (o := .cells #[.string a0_0, .int .i64 a0_1] 23 (0, 0)) (by (with_reducible repeat (first | refine blk_drewN ?_ _ | refine blk_drew ?_ | refine blk_alloc ?_ _)); exact BK149.out)) : gb167 ≠ gb149)); have n9_ := Aside0.mk ((by rw [hg]; exact Nat.ne_of_lt (blk_lt (g := gb150) (o := .cells #[.string a1_0, .int .i64 a1_1] 23 (0, 0)) (by (with_reducible repeat (first | refine blk_drewN ?_ _ | refine blk_drew ?_ | refine blk_alloc ?_ _)); exact BK150.out)) : gb150 ≠ gb167)); have n10_ := Aside0.mk ((by rw [hg]; exact Nat.ne_of_gt (blk_lt (g := gb150) (o := .cells #[.string a1_0, .int .i64 a1_1] 23 (0, 0)) (by (with_reducible repeat (first | refine blk_drewN ?_ _ | refine blk_drew ?_ | refine blk_alloc ?_ _)); exact BK150.out)) : gb167 ≠ gb150)); clear HO160; clear BK149; clear BK150; clear HB; have HO160 := n0_; have BK149 := n1_; have BK150 := n2_; have HB := n3_; have BK167 := n4_; have GW167 := n5_; have GE167 := n6_; have NB149_167 := n7_; have NB167_149 := n8_; have NB150_167 := n9_; have NB167_150 := n10_; clear n0_ n1_ n2_ n3_ n4_ n5_ n6_ n7_ n8_ n9_ n10_; clear hb hbox hg; have hnb52 := NB167_149.out; have hnc52 := NB149_167.out; have hnb53 := NB167_150.out; have hnc53 := NB150_167.out; have hcz54_0 : w51.cell? ⟨gb167, 0, none⟩ = some (.string (⟨#[]⟩ : ByteArray)) := (blk_cell BK167.out 0).trans rfl; have hcz54_1 : w51.cell? ⟨gb167, 1, none⟩ = some (.string (⟨#[]⟩ : ByteArray)) := (blk_cell BK167.out 1).trans rfl; have hcz54_2 : w51.cell? ⟨gb167, 2, none⟩ = some (.string (⟨#[]⟩ : ByteArray)) := (blk_cell BK167.out 2).trans rfl; have hcz54_3 : w51.cell? ⟨gb167, 3, none⟩ = some (.string (⟨#[]⟩ : ByteArray)) := (blk_cell BK167.out 3).trans rfl; have hcz54_4 : w51.cell? ⟨gb167, 4, none⟩ = some (.string (⟨#[]⟩ : ByteArray)) := (blk_cell BK167.out 4).trans rfl; have hcz54_5 : w51.cell? ⟨gb167, 5, none⟩ = some (.int .i64 0) := (blk_cell BK167.out 5).trans rfl; have hcz54_6 : w51.cell? ⟨gb167, 6, none⟩ = some (.int .i64 0) := (blk_cell BK167.out 6).trans rfl; have hcz54_7 : w51.cell? ⟨gb167, 7, none⟩ = some (.slice none 0 0) := (blk_cell BK167.out 7).trans rfl; have hcz54_8 : w51.cell? ⟨gb167, 8, none⟩ = some (.bool false) := (blk_cell BK167.out 8).trans rfl; have hcz54_9 : w51.cell? ⟨gb167, 9, none⟩ = some (.int .i64 0) := (blk_cell BK167.out 9).trans rfl; have hcz54_10 : w51.cell? ⟨gb167, 10, none⟩ = some (.string (⟨#[]⟩ : ByteArray)) := (blk_cell BK167.out 10).trans rfl; have hcz54_11 : w51.cell? ⟨gb167, 11, none⟩ = some (.string (⟨#[]⟩ : ByteArray)) := (blk_cell BK167.out 11).trans rfl; have hcz54_12 : w51.cell? ⟨gb167, 12, none⟩ = some (.string (⟨#[]⟩ : ByteArray)) := (blk_cell BK167.out 12).trans rfl; have hcz54_13 : w51.cell? ⟨gb167, 13, none⟩ = some (.string (⟨#[]⟩ : ByteArray)) := (blk_cell BK167.out 13).trans rfl; have hfz54_0 := blk_frozen BK167.out 0; have hfz54_1 := blk_frozen BK167.out 1; have hfz54_2 := blk_frozen BK167.out 2; have hfz54_3 := blk_frozen BK167.out 3; have hfz54_4 := blk_frozen BK167.out 4; have hfz54_5 := blk_frozen BK167.out 5; have hfz54_6 := blk_frozen BK167.out 6; have hfz54_7 := blk_frozen BK167.out 7; have hfz54_8 := blk_frozen BK167.out 8; have hfz54_9 := blk_frozen BK167.out 9; have hfz54_10 := blk_frozen BK167.out 10; have hfz54_11 := blk_frozen BK167.out 11; have hfz54_12 := blk_frozen BK167.out 12; have hfz54_13 := blk_frozen BK167.out 13; obtain ⟨Ao55, co55, eo55⟩ := Kd.R_slice HO160.out; subst eo55))
              have n0_ : Aside0 (Kd.R Kd.string 9 ((((((((((((((w51.setCell ⟨gb167, 0, none⟩ (.string t151)).setCell ⟨gb167, 1, none⟩ (.string t152)).setCell ⟨gb167, 2, none⟩ (.string t153)).setCell ⟨gb167, 3, none⟩ (.string t154)).setCell ⟨gb167, 4, none⟩ (.string t155)).setCell ⟨gb167, 5, none⟩ (.int .i64 t156)).setCell ⟨gb167, 6, none⟩ (.int .i64 t157)).setCell ⟨gb167, 7, none⟩ (.slice Ao55 t158.length co55)).setCell ⟨gb167, 8, none⟩ (.bool t161)).setCell ⟨gb167, 9, none⟩ (.int .i64 t162)).setCell ⟨gb167, 10, none⟩ (.string t163)).setCell ⟨gb167, 11, none⟩ (.string t164)).setCell ⟨gb167, 12, none⟩ (.string t165)).setCell ⟨gb167, 13, none⟩ (.string t166)) w.heap.size (fun _ => True) (.slice Ao55 t158.length co55) t158) := ⟨by (with_reducible repeat (first | apply Kd.R_alloc | apply Kd.R_drewN | apply Kd.R_drew)); exact Kd.R_mono (Kd.R_far (p := ⟨gb167, 13, none⟩) (Kd.R_far (p := ⟨gb167, 12, none⟩) (Kd.R_far (p := ⟨gb167, 11, none⟩) (Kd.R_far (p := ⟨gb167, 10, none⟩) (Kd.R_far (p := ⟨gb167, 9, none⟩) (Kd.R_far (p := ⟨gb167, 8, none⟩) (Kd.R_far (p := ⟨gb167, 7, none⟩) (Kd.R_far (p := ⟨gb167, 6, none⟩) (Kd.R_far (p := ⟨gb167, 5, none⟩) (Kd.R_far (p := ⟨gb167, 4, none⟩) (Kd.R_far (p := ⟨gb167, 3, none⟩) (Kd.R_far (p := ⟨gb167, 2, none⟩) (Kd.R_far (p := ⟨gb167, 1, none⟩) (Kd.R_far (p := ⟨gb167, 0, none⟩) (Kd.R_types HO160.out BK167.out (by decide)) (fun _ hk => hk.2) (.string t151)) (fun _ hk => hk.2) (.string t152)) (fun _ hk => hk.2) (.string t153)) (fun _ hk => hk.2) (.string t154)) (fun _ hk => hk.2) (.string t155)) (fun _ hk => hk.2) (.int .i64 t156)) (fun _ hk => hk.2) (.int .i64 t157)) (fun _ hk => hk.2) (.slice Ao55 t158.length co55)) (fun _ hk => hk.2) (.bool t161)) (fun _ hk => hk.2) (.int .i64 t162)) (fun _ hk => hk.2) (.string t163)) (fun _ hk => hk.2) (.string t164)) (fun _ hk => hk.2) (.string t165)) (fun _ hk => hk.2) (.string t166)) (fun _ hk => trivial)⟩
              have n1_ : Aside0 (((((((((((((((w51.setCell ⟨gb167, 0, none⟩ (.string t151)).setCell ⟨gb167, 1, none⟩ (.string t152)).setCell ⟨gb167, 2, none⟩ (.string t153)).setCell ⟨gb167, 3, none⟩ (.string t154)).setCell ⟨gb167, 4, none⟩ (.string t155)).setCell ⟨gb167, 5, none⟩ (.int .i64 t156)).setCell ⟨gb167, 6, none⟩ (.int .i64 t157)).setCell ⟨gb167, 7, none⟩ (.slice Ao55 t158.length co55)).setCell ⟨gb167, 8, none⟩ (.bool t161)).setCell ⟨gb167, 9, none⟩ (.int .i64 t162)).setCell ⟨gb167, 10, none⟩ (.string t163)).setCell ⟨gb167, 11, none⟩ (.string t164)).setCell ⟨gb167, 12, none⟩ (.string t165)).setCell ⟨gb167, 13, none⟩ (.string t166)).heap[gb149]? = some (.cells #[.string a0_0, .int .i64 a0_1] 23 (0, 0))) := ⟨by (with_reducible repeat (first | refine blk_drewN ?_ _ | refine blk_drew ?_ | refine blk_alloc ?_ _)); refine blk_far ?_ NB149_167.out _; (with_reducible repeat (first | refine blk_drewN ?_ _ | refine blk_drew ?_ | refine blk_alloc ?_ _)); refine blk_far ?_ NB149_167.out _; (with_reducible repeat (first | refine blk_drewN ?_ _ | refine blk_drew ?_ | refine blk_alloc ?_ _)); refine blk_far ?_ NB149_167.out _; (with_reducible repeat (first | refine blk_drewN ?_ _ | refine blk_drew ?_ | refine blk_alloc ?_ _)); refine blk_far ?_ NB149_167.out _; (with_reducible repeat (first | refine blk_drewN ?_ _ | refine blk_drew ?_ | refine blk_alloc ?_ _)); refine blk_far ?_ NB149_167.out _; (with_reducible repeat (first | refine blk_drewN ?_ _ | refine blk_drew ?_ | refine blk_alloc ?_ _)); refine blk_far ?_ NB149_167.out _; (with_reducible repeat (first | refine blk_drewN ?_ _ | refine blk_drew ?_ | refine blk_alloc ?_ _)); refine blk_far ?_ NB149_167.out _; (with_reducible repeat (first | refine blk_drewN ?_ _ | refine blk_drew ?_ | refine blk_alloc ?_ _)); refine blk_far ?_ NB149_167.out _; (with_reducible repeat (first | refine blk_drewN ?_ _ | refine blk_drew ?_ | refine blk_alloc ?_ _)); refine blk_far ?_ NB149_167.out _; (with_reducible repeat (first | refine blk_drewN ?_ _ | refine blk_drew ?_ | refine blk_alloc ?_ _)); refine blk_far ?_ NB149_167.out _; (with_reducible repeat (first | refine blk_drewN ?_ _ | refine blk_drew ?_ | refine blk_alloc ?_ _)); refine blk_far ?_ NB149_167.out _; (with_reducible repeat (first | refine blk_drewN ?_ _ | refine blk_drew ?_ | refine blk_alloc ?_ _)); refine blk_far ?_ NB149_167.out _; (with_reducible repeat (first | refine blk_drewN ?_ _ | refine blk_drew ?_ | refine blk_alloc ?_ _)); refine blk_far ?_ NB149_167.out _; (with_reducible repeat (first | refine blk_drewN ?_ _ | refine blk_drew ?_ | refine blk_alloc ?_ _)); refine blk_far ?_ NB149_167.out _; (with_reducible repeat (first | refine blk_drewN ?_ _ | refine blk_drew ?_ | refine blk_alloc ?_ _)); exact BK149.out⟩
              have n2_ : Aside0 (((((((((((((((w51.setCell ⟨gb167, 0, none⟩ (.string t151)).setCell ⟨gb167, 1, none⟩ (.string t152)).setCell ⟨gb167, 2, none⟩ (.string t153)).setCell ⟨gb167, 3, none⟩ (.string t154)).setCell ⟨gb167, 4, none⟩ (.string t155)).setCell ⟨gb167, 5, none⟩ (.int .i64 t156)).setCell ⟨gb167, 6, none⟩ (.int .i64 t157)).setCell ⟨gb167, 7, none⟩ (.slice Ao55 t158.length co55)).setCell ⟨gb167, 8, none⟩ (.bool t161)).setCell ⟨gb167, 9, none⟩ (.int .i64 t162)).setCell ⟨gb167, 10, none⟩ (.string t163)).setCell ⟨gb167, 11, none⟩ (.string t164)).setCell ⟨gb167, 12, none⟩ (.string t165)).setCell ⟨gb167, 13, none⟩ (.string t166)).heap[gb150]? = some (.cells #[.string a1_0, .int .i64 a1_1] 23 (0, 0))) := ⟨by (with_reducible repeat (first | refine blk_drewN ?_ _ | refine blk_drew ?_ | refine blk_alloc ?_ _)); refine blk_far ?_ NB150_167.out _; (with_reducible repeat (first | refine blk_drewN ?_ _ | refine blk_drew ?_ | refine blk_alloc ?_ _)); refine blk_far ?_ NB150_167.out _; (with_reducible repeat (first | refine blk_drewN ?_ _ | refine blk_drew ?_ | refine blk_alloc ?_ _)); refine blk_far ?_ NB150_167.out _; (with_reducible repeat (first | refine blk_drewN ?_ _ | refine blk_drew ?_ | refine blk_alloc ?_ _)); refine blk_far ?_ NB150_167.out _; (with_reducible repeat (first | refine blk_drewN ?_ _ | refine blk_drew ?_ | refine blk_alloc ?_ _)); refine blk_far ?_ NB150_167.out _; (with_reducible repeat (first | refine blk_drewN ?_ _ | refine blk_drew ?_ | refine blk_alloc ?_ _)); refine blk_far ?_ NB150_167.out _; (with_reducible repeat (first | refine blk_drewN ?_ _ | refine blk_drew ?_ | refine blk_alloc ?_ _)); refine blk_far ?_ NB150_167.out _; (with_reducible repeat (first | refine blk_drewN ?_ _ | refine blk_drew ?_ | refine blk_alloc ?_ _)); refine blk_far ?_ NB150_167.out _; (with_reducible repeat (first | refine blk_drewN ?_ _ | refine blk_drew ?_ | refine blk_alloc ?_ _)); refine blk_far ?_ NB150_167.out _; (with_reducible repeat (first | refine blk_drewN ?_ _ | refine blk_drew ?_ | refine blk_alloc ?_ _)); refine blk_far ?_ NB150_167.out _; (with_reducible repeat (first | refine blk_drewN ?_ _ | refine blk_drew ?_ | refine blk_alloc ?_ _)); refine blk_far ?_ NB150_167.out _; (with_reducible repeat (first | refine blk_drewN ?_ _ | refine blk_drew ?_ | refine blk_alloc ?_ _)); refine blk_far ?_ NB150_167.out _; (with_reducible repeat (first | refine blk_drewN ?_ _ | refine blk_drew ?_ | refine blk_alloc ?_ _)); refine blk_far ?_ NB150_167.out _; (with_reducible repeat (first | refine blk_drewN ?_ _ | refine blk_drew ?_ | refine blk_alloc ?_ _)); refine blk_far ?_ NB150_167.out _; (with_reducible repeat (first | refine blk_drewN ?_ _ | refine blk_drew ?_ | refine blk_alloc ?_ _)); exact BK150.out⟩
              have n3_ : Aside0 (((((((((((((((w51.setCell ⟨gb167, 0, none⟩ (.string t151)).setCell ⟨gb167, 1, none⟩ (.string t152)).setCell ⟨gb167, 2, none⟩ (.string t153)).setCell ⟨gb167, 3, none⟩ (.string t154)).setCell ⟨gb167, 4, none⟩ (.string t155)).setCell ⟨gb167, 5, none⟩ (.int .i64 t156)).setCell ⟨gb167, 6, none⟩ (.int .i64 t157)).setCell ⟨gb167, 7, none⟩ (.slice Ao55 t158.length co55)).setCell ⟨gb167, 8, none⟩ (.bool t161)).setCell ⟨gb167, 9, none⟩ (.int .i64 t162)).setCell ⟨gb167, 10, none⟩ (.string t163)).setCell ⟨gb167, 11, none⟩ (.string t164)).setCell ⟨gb167, 12, none⟩ (.string t165)).setCell ⟨gb167, 13, none⟩ (.string t166)).heap[gb167]? = some (.cells #[.string t151, .string t152, .string t153, .string t154, .string t155, .int .i64 t156, .int .i64 t157, .slice Ao55 t158.length co55, .bool t161, .int .i64 t162, .string t163, .string t164, .string t165, .string t166] 40 (0, 0))) := ⟨by (with_reducible repeat (first | refine blk_drewN ?_ _ | refine blk_drew ?_ | refine blk_alloc ?_ _)); refine blk_put (cs := #[.string t151, .string t152, .string t153, .string t154, .string t155, .int .i64 t156, .int .i64 t157, .slice Ao55 t158.length co55, .bool t161, .int .i64 t162, .string t163, .string t164, .string t165, .string (⟨#[]⟩ : ByteArray)]) ?_ 13 _ rfl; (with_reducible repeat (first | refine blk_drewN ?_ _ | refine blk_drew ?_ | refine blk_alloc ?_ _)); refine blk_put (cs := #[.string t151, .string t152, .string t153, .string t154, .string t155, .int .i64 t156, .int .i64 t157, .slice Ao55 t158.length co55, .bool t161, .int .i64 t162, .string t163, .string t164, .string (⟨#[]⟩ : ByteArray), .string (⟨#[]⟩ : ByteArray)]) ?_ 12 _ rfl; (with_reducible repeat (first | refine blk_drewN ?_ _ | refine blk_drew ?_ | refine blk_alloc ?_ _)); refine blk_put (cs := #[.string t151, .string t152, .string t153, .string t154, .string t155, .int .i64 t156, .int .i64 t157, .slice Ao55 t158.length co55, .bool t161, .int .i64 t162, .string t163, .string (⟨#[]⟩ : ByteArray), .string (⟨#[]⟩ : ByteArray), .string (⟨#[]⟩ : ByteArray)]) ?_ 11 _ rfl; (with_reducible repeat (first | refine blk_drewN ?_ _ | refine blk_drew ?_ | refine blk_alloc ?_ _)); refine blk_put (cs := #[.string t151, .string t152, .string t153, .string t154, .string t155, .int .i64 t156, .int .i64 t157, .slice Ao55 t158.length co55, .bool t161, .int .i64 t162, .string (⟨#[]⟩ : ByteArray), .string (⟨#[]⟩ : ByteArray), .string (⟨#[]⟩ : ByteArray), .string (⟨#[]⟩ : ByteArray)]) ?_ 10 _ rfl; (with_reducible repeat (first | refine blk_drewN ?_ _ | refine blk_drew ?_ | refine blk_alloc ?_ _)); refine blk_put (cs := #[.string t151, .string t152, .string t153, .string t154, .string t155, .int .i64 t156, .int .i64 t157, .slice Ao55 t158.length co55, .bool t161, .int .i64 0, .string (⟨#[]⟩ : ByteArray), .string (⟨#[]⟩ : ByteArray), .string (⟨#[]⟩ : ByteArray), .string (⟨#[]⟩ : ByteArray)]) ?_ 9 _ rfl; (with_reducible repeat (first | refine blk_drewN ?_ _ | refine blk_drew ?_ | refine blk_alloc ?_ _)); refine blk_put (cs := #[.string t151, .string t152, .string t153, .string t154, .string t155, .int .i64 t156, .int .i64 t157, .slice Ao55 t158.length co55, .bool false, .int .i64 0, .string (⟨#[]⟩ : ByteArray), .string (⟨#[]⟩ : ByteArray), .string (⟨#[]⟩ : ByteArray), .string (⟨#[]⟩ : ByteArray)]) ?_ 8 _ rfl; (with_reducible repeat (first | refine blk_drewN ?_ _ | refine blk_drew ?_ | refine blk_alloc ?_ _)); refine blk_put (cs := #[.string t151, .string t152, .string t153, .string t154, .string t155, .int .i64 t156, .int .i64 t157, .slice none 0 0, .bool false, .int .i64 0, .string (⟨#[]⟩ : ByteArray), .string (⟨#[]⟩ : ByteArray), .string (⟨#[]⟩ : ByteArray), .string (⟨#[]⟩ : ByteArray)]) ?_ 7 _ rfl; (with_reducible repeat (first | refine blk_drewN ?_ _ | refine blk_drew ?_ | refine blk_alloc ?_ _)); refine blk_put (cs := #[.string t151, .string t152, .string t153, .string t154, .string t155, .int .i64 t156, .int .i64 0, .slice none 0 0, .bool false, .int .i64 0, .string (⟨#[]⟩ : ByteArray), .string (⟨#[]⟩ : ByteArray), .string (⟨#[]⟩ : ByteArray), .string (⟨#[]⟩ : ByteArray)]) ?_ 6 _ rfl; (with_reducible repeat (first | refine blk_drewN ?_ _ | refine blk_drew ?_ | refine blk_alloc ?_ _)); refine blk_put (cs := #[.string t151, .string t152, .string t153, .string t154, .string t155, .int .i64 0, .int .i64 0, .slice none 0 0, .bool false, .int .i64 0, .string (⟨#[]⟩ : ByteArray), .string (⟨#[]⟩ : ByteArray), .string (⟨#[]⟩ : ByteArray), .string (⟨#[]⟩ : ByteArray)]) ?_ 5 _ rfl; (with_reducible repeat (first | refine blk_drewN ?_ _ | refine blk_drew ?_ | refine blk_alloc ?_ _)); refine blk_put (cs := #[.string t151, .string t152, .string t153, .string t154, .string (⟨#[]⟩ : ByteArray), .int .i64 0, .int .i64 0, .slice none 0 0, .bool false, .int .i64 0, .string (⟨#[]⟩ : ByteArray), .string (⟨#[]⟩ : ByteArray), .string (⟨#[]⟩ : ByteArray), .string (⟨#[]⟩ : ByteArray)]) ?_ 4 _ rfl; (with_reducible repeat (first | refine blk_drewN ?_ _ | refine blk_drew ?_ | refine blk_alloc ?_ _)); refine blk_put (cs := #[.string t151, .string t152, .string t153, .string (⟨#[]⟩ : ByteArray), .string (⟨#[]⟩ : ByteArray), .int .i64 0, .int .i64 0, .slice none 0 0, .bool false, .int .i64 0, .string (⟨#[]⟩ : ByteArray), .string (⟨#[]⟩ : ByteArray), .string (⟨#[]⟩ : ByteArray), .string (⟨#[]⟩ : ByteArray)]) ?_ 3 _ rfl; (with_reducible repeat (first | refine blk_drewN ?_ _ | refine blk_drew ?_ | refine blk_alloc ?_ _)); refine blk_put (cs := #[.string t151, .string t152, .string (⟨#[]⟩ : ByteArray), .string (⟨#[]⟩ : ByteArray), .string (⟨#[]⟩ : ByteArray), .int .i64 0, .int .i64 0, .slice none 0 0, .bool false, .int .i64 0, .string (⟨#[]⟩ : ByteArray), .string (⟨#[]⟩ : ByteArray), .string (⟨#[]⟩ : ByteArray), .string (⟨#[]⟩ : ByteArray)]) ?_ 2 _ rfl; (with_reducible repeat (first | refine blk_drewN ?_ _ | refine blk_drew ?_ | refine blk_alloc ?_ _)); refine blk_put (cs := #[.string t151, .string (⟨#[]⟩ : ByteArray), .string (⟨#[]⟩ : ByteArray), .string (⟨#[]⟩ : ByteArray), .string (⟨#[]⟩ : ByteArray), .int .i64 0, .int .i64 0, .slice none 0 0, .bool false, .int .i64 0, .string (⟨#[]⟩ : ByteArray), .string (⟨#[]⟩ : ByteArray), .string (⟨#[]⟩ : ByteArray), .string (⟨#[]⟩ : ByteArray)]) ?_ 1 _ rfl; (with_reducible repeat (first | refine blk_drewN ?_ _ | refine blk_drew ?_ | refine blk_alloc ?_ _)); refine blk_put (cs := #[.string (⟨#[]⟩ : ByteArray), .string (⟨#[]⟩ : ByteArray), .string (⟨#[]⟩ : ByteArray), .string (⟨#[]⟩ : ByteArray), .string (⟨#[]⟩ : ByteArray), .int .i64 0, .int .i64 0, .slice none 0 0, .bool false, .int .i64 0, .string (⟨#[]⟩ : ByteArray), .string (⟨#[]⟩ : ByteArray), .string (⟨#[]⟩ : ByteArray), .string (⟨#[]⟩ : ByteArray)]) ?_ 0 _ rfl; (with_reducible repeat (first | refine blk_drewN ?_ _ | refine blk_drew ?_ | refine blk_alloc ?_ _)); exact BK167.out⟩
              have n4_ : Aside0 (Below w.heap.size w ((((((((((((((w51.setCell ⟨gb167, 0, none⟩ (.string t151)).setCell ⟨gb167, 1, none⟩ (.string t152)).setCell ⟨gb167, 2, none⟩ (.string t153)).setCell ⟨gb167, 3, none⟩ (.string t154)).setCell ⟨gb167, 4, none⟩ (.string t155)).setCell ⟨gb167, 5, none⟩ (.int .i64 t156)).setCell ⟨gb167, 6, none⟩ (.int .i64 t157)).setCell ⟨gb167, 7, none⟩ (.slice Ao55 t158.length co55)).setCell ⟨gb167, 8, none⟩ (.bool t161)).setCell ⟨gb167, 9, none⟩ (.int .i64 t162)).setCell ⟨gb167, 10, none⟩ (.string t163)).setCell ⟨gb167, 11, none⟩ (.string t164)).setCell ⟨gb167, 12, none⟩ (.string t165)).setCell ⟨gb167, 13, none⟩ (.string t166))) := ⟨by repeat (first | (with_reducible first | exact HB.out | apply below_alloc | apply pw_below_drewN | apply below_drew1 | refine below_set ?_ GE149.out | refine below_set ?_ GE150.out | refine below_set ?_ GE167.out) | exact HB.out)⟩
              (try clear HO160)
              (try clear BK149)
              (try clear BK150)
              (try clear BK167)
              (try clear HB)
              generalize ((((((((((((((w51.setCell ⟨gb167, 0, none⟩ (.string t151)).setCell ⟨gb167, 1, none⟩ (.string t152)).setCell ⟨gb167, 2, none⟩ (.string t153)).setCell ⟨gb167, 3, none⟩ (.string t154)).setCell ⟨gb167, 4, none⟩ (.string t155)).setCell ⟨gb167, 5, none⟩ (.int .i64 t156)).setCell ⟨gb167, 6, none⟩ (.int .i64 t157)).setCell ⟨gb167, 7, none⟩ (.slice Ao55 t158.length co55)).setCell ⟨gb167, 8, none⟩ (.bool t161)).setCell ⟨gb167, 9, none⟩ (.int .i64 t162)).setCell ⟨gb167, 10, none⟩ (.string t163)).setCell ⟨gb167, 11, none⟩ (.string t164)).setCell ⟨gb167, 12, none⟩ (.string t165)).setCell ⟨gb167, 13, none⟩ (.string t166)) = w56 at n0_ n1_ n2_ n3_ n4_ ⊢
              have HO160 := n0_
              have BK149 := n1_
              have BK150 := n2_
              have BK167 := n3_
              have HB := n4_
              clear n0_ n1_ n2_ n3_ n4_
              have n0_ := Aside0.mk (Kd.R_drew HO160.out)
              have n1_ := Aside0.mk (blk_drew BK149.out)
              have n2_ := Aside0.mk (blk_drew BK150.out)
              have n3_ := Aside0.mk (blk_drew BK167.out)
              have n4_ := Aside0.mk (below_drew1 HB.out)
              clear HO160
              clear BK149
              clear BK150
              clear BK167
              clear HB
              have HO160 := n0_
              have BK149 := n1_
              have BK150 := n2_
              have BK167 := n3_
              have HB := n4_
              clear n0_ n1_ n2_ n3_ n4_
              refine start_ (n := 24) (S := fun w' => w'.cell? ⟨gb167, 0, none⟩ = some (.string t151) ∧ w'.cell? ⟨gb167, 1, none⟩ = some (.string t152) ∧ w'.cell? ⟨gb167, 2, none⟩ = some (.string t153) ∧ w'.cell? ⟨gb167, 3, none⟩ = some (.string t154) ∧ w'.cell? ⟨gb167, 4, none⟩ = some (.string t155) ∧ w'.cell? ⟨gb167, 5, none⟩ = some (.int .i64 t156) ∧ w'.cell? ⟨gb167, 6, none⟩ = some (.int .i64 t157) ∧ w'.cell? ⟨gb167, 7, none⟩ = some (.slice Ao55 t158.length co55) ∧ w'.cell? ⟨gb167, 8, none⟩ = some (.bool t161) ∧ w'.cell? ⟨gb167, 9, none⟩ = some (.int .i64 t162) ∧ w'.cell? ⟨gb167, 10, none⟩ = some (.string t163) ∧ w'.cell? ⟨gb167, 11, none⟩ = some (.string t164) ∧ w'.cell? ⟨gb167, 12, none⟩ = some (.string t165) ∧ w'.cell? ⟨gb167, 13, none⟩ = some (.string t166) ∧ w'.cell? ⟨gb150, 0, none⟩ = some (.string a1_0) ∧ w'.cell? ⟨gb150, 1, none⟩ = some (.int .i64 a1_1)) (ds := []) #[false, false, false, false, false, false, false, false, false, false, false, false, false, false, false, false, false, false, false, false, false, false, false, false] (by kernel_rfl) rfl rfl ⟨(blk_cell BK167.out 0).trans rfl, (blk_cell BK167.out 1).trans rfl, (blk_cell BK167.out 2).trans rfl, (blk_cell BK167.out 3).trans rfl, (blk_cell BK167.out 4).trans rfl, (blk_cell BK167.out 5).trans rfl, (blk_cell BK167.out 6).trans rfl, (blk_cell BK167.out 7).trans rfl, (blk_cell BK167.out 8).trans rfl, (blk_cell BK167.out 9).trans rfl, (blk_cell BK167.out 10).trans rfl, (blk_cell BK167.out 11).trans rfl, (blk_cell BK167.out 12).trans rfl, (blk_cell BK167.out 13).trans rfl, (blk_cell BK150.out 0).trans rfl, (blk_cell BK150.out 1).trans rfl⟩ (fun hHeld => ?_); refine with_tabW laws_placed7.tab4 laws_placed7.bits4 (fun HT_ HW_ => ?_)
              generalize w56.drew = w57 at HO160 BK149 BK150 BK167 HB hHeld ⊢
              refine pure_ (i := 0) (N := some 28) (v := ?_) (a' := ?_) #[true, false, false, false, false, false, false, false, false, false, false, false, false, false, false, false, false, false, false, false, false, false, false, false] rfl rfl (any_of HT_.out (by kernel_rfl)) (fun _ _ _ h => h) (Or.inl ⟨by rfl, ?_⟩) ?_ ?_
              rotate_left
              · intro w'
                go_simp
                with_reducible rfl
              rotate_left
              · simp only [Act.put, List.setIfInBounds_toArray, List.set_cons_zero, List.set_cons_succ, i64_w, i32_w]
                rfl
              refine pure_ (i := 2) (N := some 30) (v := ?_) (a' := ?_) #[true, false, true, false, false, false, false, false, false, false, false, false, false, false, false, false, false, false, false, false, false, false, false, false] rfl rfl (any_of HT_.out (by kernel_rfl)) (fun _ _ _ h => h) (Or.inl ⟨by rfl, ?_⟩) ?_ ?_
              rotate_left
              · intro w'
                go_simp
                with_reducible rfl
              rotate_left
              · simp only [Act.put, List.setIfInBounds_toArray, List.set_cons_zero, List.set_cons_succ, i64_w, i32_w]
                rfl
              refine take_ (i := 1) (N := some 29) (v := ?_) (a' := ?_) #[true, true, true, false, false, false, false, false, false, false, false, false, false, false, false, false, false, false, false, false, false, false, false, false] rfl rfl (take_ofW HT_.out HW_.out (by kernel_rfl)) (fun _ _ _ h => h) (Or.inl ⟨by rfl, ?_⟩) hHeld ?_ ?_
              rotate_left
              · rintro w' ⟨s0, s1, s2, s3, s4, s5, s6, s7, s8, s9, s10, s11, s12, s13, s14, s15⟩
                go_simp
                with_reducible rfl
              rotate_left
              · simp only [Act.put, List.setIfInBounds_toArray, List.set_cons_zero, List.set_cons_succ, i64_w, i32_w]
                rfl
              refine pure_ (i := 3) (N := some 31) (v := ?_) (a' := ?_) #[true, true, true, true, false, false, false, false, false, false, false, false, false, false, false, false, false, false, false, false, false, false, false, false] rfl rfl (any_of HT_.out (by kernel_rfl)) (fun _ _ _ h => h) (Or.inl ⟨by rfl, ?_⟩) ?_ ?_
              rotate_left
              · intro w'
                go_simp
                with_reducible rfl
              rotate_left
              · simp only [Act.put, List.setIfInBounds_toArray, List.set_cons_zero, List.set_cons_succ, i64_w, i32_w]
                rfl
              refine pure_ (i := 4) (N := some 32) (v := ?_) (a' := ?_) #[true, true, true, true, true, false, false, false, false, false, false, false, false, false, false, false, false, false, false, false, false, false, false, false] rfl rfl (any_of HT_.out (by kernel_rfl)) (fun _ _ _ h => h) (Or.inl ⟨by rfl, ?_⟩) ?_ ?_
              rotate_left
              · intro w'
                go_simp
                with_reducible rfl
              rotate_left
              · simp only [Act.put, List.setIfInBounds_toArray, List.set_cons_zero, List.set_cons_succ, i64_w, i32_w]
                rfl
              refine pure_ (i := 5) (N := some 33) (v := ?_) (a' := ?_) #[true, true, true, true, true, true, false, false, false, false, false, false, false, false, false, false, false, false, false, false, false, false, false, false] rfl rfl (any_of HT_.out (by kernel_rfl)) (fun _ _ _ h => h) (Or.inl ⟨by rfl, ?_⟩) ?_ ?_
              rotate_left
              · intro w'
                go_simp
                with_reducible rfl
              rotate_left
              · simp only [Act.put, List.setIfInBounds_toArray, List.set_cons_zero, List.set_cons_succ, i64_w, i32_w]
                rfl
              refine take_ (i := 6) (N := some 34) (v := ?_) (a' := ?_) #[true, true, true, true, true, true, true, false, false, false, false, false, false, false, false, false, false, false, false, false, false, false, false, false] rfl rfl (take_ofW HT_.out HW_.out (by kernel_rfl)) (fun _ _ _ h => h) (Or.inl ⟨by rfl, ?_⟩) hHeld ?_ ?_
              rotate_left
              · rintro w' ⟨s0, s1, s2, s3, s4, s5, s6, s7, s8, s9, s10, s11, s12, s13, s14, s15⟩
                go_simp
                with_reducible rfl
              rotate_left
              · simp only [Act.put, List.setIfInBounds_toArray, List.set_cons_zero, List.set_cons_succ, i64_w, i32_w]
                rfl
              refine take_ (i := 7) (N := some 35) (v := ?_) (a' := ?_) #[true, true, true, true, true, true, true, true, false, false, false, false, false, false, false, false, false, false, false, false, false, false, false, false] rfl rfl (take_ofW HT_.out HW_.out (by kernel_rfl)) (fun _ _ _ h => h) (Or.inl ⟨by rfl, ?_⟩) hHeld ?_ ?_
              rotate_left
              · rintro w' ⟨s0, s1, s2, s3, s4, s5, s6, s7, s8, s9, s10, s11, s12, s13, s14, s15⟩
                go_simp
                with_reducible rfl
              rotate_left
              · simp only [Act.put, List.setIfInBounds_toArray, List.set_cons_zero, List.set_cons_succ, i64_w, i32_w]
                rfl
              refine one_ (i := 8) (N := some 36) #[true, true, true, true, true, true, true, true, true, false, false, false, false, false, false, false, false, false, false, false, false, false, false, false] rfl rfl (one_of HT_.out (by kernel_rfl)) (by decide) (fun K hK => ?_)
              refine goes_ Tryz.func28 (by kernel_rfl) rfl #[.agg #[.string a1_0, .int .i64 a1_1]] (by rfl) rfl rfl (by (try simp only [List.map_toArray, List.map_cons, List.map_nil]); first | done | rfl | (simp only [List.length_drop, List.length_take]; rfl) | (simp only [Int.toNat_natCast, ByteArray.extract_zero_size]; rfl)) ?_
              with_reducible refine (spec_Column.calls kj3 a1_0 a1_1 t168 _ A21.out).mono ?_
              rintro e w58 ⟨rfl, hb⟩
              refine ⟨_, rfl, ?_⟩
              have n0_ := Aside0.mk (Kd.R_below (by (with_reducible repeat (first | apply Kd.R_alloc | apply Kd.R_drewN | apply Kd.R_drew)); exact HO160.out) hb)
              have n1_ := Aside0.mk (blk_below (g := gb149) (o := .cells #[.string a0_0, .int .i64 a0_1] 23 (0, 0)) (by (with_reducible repeat (first | refine blk_drewN ?_ _ | refine blk_drew ?_ | refine blk_alloc ?_ _)); exact BK149.out) hb)
              have n2_ := Aside0.mk (blk_below (g := gb150) (o := .cells #[.string a1_0, .int .i64 a1_1] 23 (0, 0)) (by (with_reducible repeat (first | refine blk_drewN ?_ _ | refine blk_drew ?_ | refine blk_alloc ?_ _)); exact BK150.out) hb)
              have n3_ := Aside0.mk (blk_below (g := gb167) (o := .cells #[.string t151, .string t152, .string t153, .string t154, .string t155, .int .i64 t156, .int .i64 t157, .slice Ao55 t158.length co55, .bool t161, .int .i64 t162, .string t163, .string t164, .string t165, .string t166] 40 (0, 0)) (by (with_reducible repeat (first | refine blk_drewN ?_ _ | refine blk_drew ?_ | refine blk_alloc ?_ _)); exact BK167.out) hb)
              have n4_ := Aside0.mk (below_step (by repeat (first | (with_reducible first | exact HB.out | apply below_alloc | apply pw_below_drewN | apply below_drew1 | refine below_set ?_ GE149.out | refine below_set ?_ GE150.out | refine below_set ?_ GE167.out) | exact HB.out)) hb)
              clear HO160
              clear BK149
              clear BK150
              clear BK167
              clear HB
              have HO160 := n0_
              have BK149 := n1_
              have BK150 := n2_
              have BK167 := n3_
              have HB := n4_
              clear n0_ n1_ n2_ n3_ n4_
              (try clear hb)
              (try clear hb2)
              (try clear hk)
              (try clear hi)
              refine hK.out _ _ ⟨(blk_cell BK167.out 0).trans rfl, (blk_cell BK167.out 1).trans rfl, (blk_cell BK167.out 2).trans rfl, (blk_cell BK167.out 3).trans rfl, (blk_cell BK167.out 4).trans rfl, (blk_cell BK167.out 5).trans rfl, (blk_cell BK167.out 6).trans rfl, (blk_cell BK167.out 7).trans rfl, (blk_cell BK167.out 8).trans rfl, (blk_cell BK167.out 9).trans rfl, (blk_cell BK167.out 10).trans rfl, (blk_cell BK167.out 11).trans rfl, (blk_cell BK167.out 12).trans rfl, (blk_cell BK167.out 13).trans rfl, (blk_cell BK150.out 0).trans rfl, (blk_cell BK150.out 1).trans rfl⟩ (fun hHeld => ?_)
              clear hK K
              refine norm_ (a' := ?_) ?_ ?_
              rotate_left
              · show Act.put _ (some 36) _ = _
                simp only [Act.put, List.setIfInBounds_toArray, List.set_cons_zero, List.set_cons_succ, i64_w, i32_w]
                rfl
              refine pure_ (i := 9) (N := some 37) (v := ?_) (a' := ?_) #[true, true, true, true, true, true, true, true, true, true, false, false, false, false, false, false, false, false, false, false, false, false, false, false] rfl rfl (any_of HT_.out (by kernel_rfl)) (fun _ _ _ h => h) (Or.inl ⟨by rfl, ?_⟩) ?_ ?_
              rotate_left
              · intro w'
                go_simp
                with_reducible rfl
              rotate_left
              · simp only [Act.put, List.setIfInBounds_toArray, List.set_cons_zero, List.set_cons_succ, i64_w, i32_w]
                rfl
              refine pure_ (i := 10) (N := some 38) (v := ?_) (a' := ?_) #[true, true, true, true, true, true, true, true, true, true, true, false, false, false, false, false, false, false, false, false, false, false, false, false] rfl rfl (any_of HT_.out (by kernel_rfl)) (fun _ _ _ h => h) (Or.inl ⟨by rfl, ?_⟩) ?_ ?_
              rotate_left
              · intro w'
                go_simp
                with_reducible rfl
              rotate_left
              · simp only [Act.put, List.setIfInBounds_toArray, List.set_cons_zero, List.set_cons_succ, i64_w, i32_w]
                rfl
              refine pure_ (i := 11) (N := some 39) (v := ?_) (a' := ?_) #[true, true, true, true, true, true, true, true, true, true, true, true, false, false, false, false, false, false, false, false, false, false, false, false] rfl rfl (any_of HT_.out (by kernel_rfl)) (fun _ _ _ h => h) (Or.inl ⟨by rfl, ?_⟩) ?_ ?_
              rotate_left
              · intro w'
                go_simp
                with_reducible rfl
              rotate_left
              · simp only [Act.put, List.setIfInBounds_toArray, List.set_cons_zero, List.set_cons_succ, i64_w, i32_w]
                rfl
              refine take_ (i := 12) (N := some 40) (v := ?_) (a' := ?_) #[true, true, true, true, true, true, true, true, true, true, true, true, true, false, false, false, false, false, false, false, false, false, false, false] rfl rfl (take_ofW HT_.out HW_.out (by kernel_rfl)) (fun _ _ _ h => h) (Or.inl ⟨by rfl, ?_⟩) hHeld ?_ ?_
              rotate_left
              · rintro w' ⟨s0, s1, s2, s3, s4, s5, s6, s7, s8, s9, s10, s11, s12, s13, s14, s15⟩
                go_simp
                with_reducible rfl
              rotate_left
              · simp only [Act.put, List.setIfInBounds_toArray, List.set_cons_zero, List.set_cons_succ, i64_w, i32_w]
                rfl
              refine take_ (i := 13) (N := some 41) (v := ?_) (a' := ?_) #[true, true, true, true, true, true, true, true, true, true, true, true, true, true, false, false, false, false, false, false, false, false, false, false] rfl rfl (take_ofW HT_.out HW_.out (by kernel_rfl)) (fun _ _ _ h => h) (Or.inl ⟨by rfl, ?_⟩) hHeld ?_ ?_
              rotate_left
              · rintro w' ⟨s0, s1, s2, s3, s4, s5, s6, s7, s8, s9, s10, s11, s12, s13, s14, s15⟩
                go_simp
                with_reducible rfl
              rotate_left
              · simp only [Act.put, List.setIfInBounds_toArray, List.set_cons_zero, List.set_cons_succ, i64_w, i32_w]
                rfl
              refine one_ (i := 14) (N := some 42) #[true, true, true, true, true, true, true, true, true, true, true, true, true, true, true, false, false, false, false, false, false, false, false, false] rfl rfl (one_of HT_.out (by kernel_rfl)) (by decide) (fun K hK => ?_)
              refine goes_ Tryz.func28 (by kernel_rfl) rfl #[.agg #[.string a1_0, .int .i64 a1_1]] (by rfl) rfl rfl (by (try simp only [List.map_toArray, List.map_cons, List.map_nil]); first | done | rfl | (simp only [List.length_drop, List.length_take]; rfl) | (simp only [Int.toNat_natCast, ByteArray.extract_zero_size]; rfl)) ?_
              with_reducible refine (spec_Column.calls kj3 a1_0 a1_1 t169 _ A34.out).mono ?_
              rintro e w59 ⟨rfl, hb⟩
              refine ⟨_, rfl, ?_⟩
              have n0_ := Aside0.mk (Kd.R_below (by (with_reducible repeat (first | apply Kd.R_alloc | apply Kd.R_drewN | apply Kd.R_drew)); exact HO160.out) hb)
              have n1_ := Aside0.mk (blk_below (g := gb149) (o := .cells #[.string a0_0, .int .i64 a0_1] 23 (0, 0)) (by (with_reducible repeat (first | refine blk_drewN ?_ _ | refine blk_drew ?_ | refine blk_alloc ?_ _)); exact BK149.out) hb)
              have n2_ := Aside0.mk (blk_below (g := gb150) (o := .cells #[.string a1_0, .int .i64 a1_1] 23 (0, 0)) (by (with_reducible repeat (first | refine blk_drewN ?_ _ | refine blk_drew ?_ | refine blk_alloc ?_ _)); exact BK150.out) hb)
              have n3_ := Aside0.mk (blk_below (g := gb167) (o := .cells #[.string t151, .string t152, .string t153, .string t154, .string t155, .int .i64 t156, .int .i64 t157, .slice Ao55 t158.length co55, .bool t161, .int .i64 t162, .string t163, .string t164, .string t165, .string t166] 40 (0, 0)) (by (with_reducible repeat (first | refine blk_drewN ?_ _ | refine blk_drew ?_ | refine blk_alloc ?_ _)); exact BK167.out) hb)
              have n4_ := Aside0.mk (below_step (by repeat (first | (with_reducible first | exact HB.out | apply below_alloc | apply pw_below_drewN | apply below_drew1 | refine below_set ?_ GE149.out | refine below_set ?_ GE150.out | refine below_set ?_ GE167.out) | exact HB.out)) hb)
              clear HO160
              clear BK149
              clear BK150
              clear BK167
              clear HB
              have HO160 := n0_
              have BK149 := n1_
              have BK150 := n2_
              have BK167 := n3_
              have HB := n4_
              clear n0_ n1_ n2_ n3_ n4_
              (try clear hb)
              (try clear hb2)
              (try clear hk)
              (try clear hi)
              refine hK.out _ _ ⟨(blk_cell BK167.out 0).trans rfl, (blk_cell BK167.out 1).trans rfl, (blk_cell BK167.out 2).trans rfl, (blk_cell BK167.out 3).trans rfl, (blk_cell BK167.out 4).trans rfl, (blk_cell BK167.out 5).trans rfl, (blk_cell BK167.out 6).trans rfl, (blk_cell BK167.out 7).trans rfl, (blk_cell BK167.out 8).trans rfl, (blk_cell BK167.out 9).trans rfl, (blk_cell BK167.out 10).trans rfl, (blk_cell BK167.out 11).trans rfl, (blk_cell BK167.out 12).trans rfl, (blk_cell BK167.out 13).trans rfl, (blk_cell BK150.out 0).trans rfl, (blk_cell BK150.out 1).trans rfl⟩ (fun hHeld => ?_)
              clear hK K
              refine norm_ (a' := ?_) ?_ ?_
              rotate_left
              · show Act.put _ (some 42) _ = _
                simp only [Act.put, List.setIfInBounds_toArray, List.set_cons_zero, List.set_cons_succ, i64_w, i32_w]
                rfl
              refine pure_ (i := 15) (N := some 43) (v := ?_) (a' := ?_) #[true, true, true, true, true, true, true, true, true, true, true, true, true, true, true, true, false, false, false, false, false, false, false, false] rfl rfl (any_of HT_.out (by kernel_rfl)) (fun _ _ _ h => h) (Or.inl ⟨by rfl, ?_⟩) ?_ ?_
              rotate_left
              · intro w'
                go_simp
                with_reducible rfl
              rotate_left
              · simp only [Act.put, List.setIfInBounds_toArray, List.set_cons_zero, List.set_cons_succ, i64_w, i32_w]
                rfl
              refine pure_ (i := 16) (N := some 44) (v := ?_) (a' := ?_) #[true, true, true, true, true, true, true, true, true, true, true, true, true, true, true, true, true, false, false, false, false, false, false, false] rfl rfl (any_of HT_.out (by kernel_rfl)) (fun _ _ _ h => h) (Or.inl ⟨by rfl, ?_⟩) ?_ ?_
              rotate_left
              · intro w'
                go_simp
                with_reducible rfl
              rotate_left
              · simp only [Act.put, List.setIfInBounds_toArray, List.set_cons_zero, List.set_cons_succ, i64_w, i32_w]
                rfl
              refine pure_ (i := 17) (N := some 45) (v := undef) (a' := ?_) #[true, true, true, true, true, true, true, true, true, true, true, true, true, true, true, true, true, true, false, false, false, false, false, false] rfl rfl (any_of HT_.out (by kernel_rfl)) (fun _ _ _ h => h) (Or.inr ⟨by rfl, rfl⟩) ?_ ?_
              rotate_left
              · simp only [Act.put, List.setIfInBounds_toArray, List.set_cons_zero, List.set_cons_succ, i64_w, i32_w]
                rfl
              refine pure_ (i := 18) (N := some 46) (v := undef) (a' := ?_) #[true, true, true, true, true, true, true, true, true, true, true, true, true, true, true, true, true, true, true, false, false, false, false, false] rfl rfl (any_of HT_.out (by kernel_rfl)) (fun _ _ _ h => h) (Or.inr ⟨by rfl, rfl⟩) ?_ ?_
              rotate_left
              · simp only [Act.put, List.setIfInBounds_toArray, List.set_cons_zero, List.set_cons_succ, i64_w, i32_w]
                rfl
              refine pure_ (i := 19) (N := some 47) (v := undef) (a' := ?_) #[true, true, true, true, true, true, true, true, true, true, true, true, true, true, true, true, true, true, true, true, false, false, false, false] rfl rfl (any_of HT_.out (by kernel_rfl)) (fun _ _ _ h => h) (Or.inr ⟨by rfl, rfl⟩) ?_ ?_
              rotate_left
              · simp only [Act.put, List.setIfInBounds_toArray, List.set_cons_zero, List.set_cons_succ, i64_w, i32_w]
                rfl
              refine pure_ (i := 20) (N := some 48) (v := ?_) (a' := ?_) #[true, true, true, true, true, true, true, true, true, true, true, true, true, true, true, true, true, true, true, true, true, false, false, false] rfl rfl (any_of HT_.out (by kernel_rfl)) (fun _ _ _ h => h) (Or.inl ⟨by rfl, ?_⟩) ?_ ?_
              rotate_left
              · intro w'
                go_simp
                with_reducible rfl
              rotate_left
              · simp only [Act.put, List.setIfInBounds_toArray, List.set_cons_zero, List.set_cons_succ, i64_w, i32_w]
                rfl
              refine pure_ (i := 21) (N := some 49) (v := ?_) (a' := ?_) #[true, true, true, true, true, true, true, true, true, true, true, true, true, true, true, true, true, true, true, true, true, true, false, false] rfl rfl (any_of HT_.out (by kernel_rfl)) (fun _ _ _ h => h) (Or.inl ⟨by rfl, ?_⟩) ?_ ?_
              rotate_left
              · intro w'
                go_simp
                with_reducible rfl
              rotate_left
              · simp only [Act.put, List.setIfInBounds_toArray, List.set_cons_zero, List.set_cons_succ, i64_w, i32_w]
                rfl
              refine pure_ (i := 22) (N := some 50) (v := ?_) (a' := ?_) #[true, true, true, true, true, true, true, true, true, true, true, true, true, true, true, true, true, true, true, true, true, true, true, false] rfl rfl (any_of HT_.out (by kernel_rfl)) (fun _ _ _ h => h) (Or.inl ⟨by rfl, ?_⟩) ?_ ?_
              rotate_left
              · intro w'
                go_simp
                with_reducible rfl
              rotate_left
              · simp only [Act.put, List.setIfInBounds_toArray, List.set_cons_zero, List.set_cons_succ, i64_w, i32_w]
                rfl
              refine pure_ (i := 23) (N := some 6) (v := ?_) (a' := ?_) #[true, true, true, true, true, true, true, true, true, true, true, true, true, true, true, true, true, true, true, true, true, true, true, true] rfl rfl (any_of HT_.out (by kernel_rfl)) (fun _ _ _ h => h) (Or.inl ⟨by rfl, ?_⟩) ?_ ?_
              rotate_left
              · intro w'
                go_simp
                with_reducible rfl
              rotate_left
              · simp only [Act.put, List.setIfInBounds_toArray, List.set_cons_zero, List.set_cons_succ, i64_w, i32_w]
                rfl
              refine done_ (done_of HT_.out (by kernel_rfl)) ?_
              try go_wp2
              go_ret
              exact ⟨by first | rfl | (simp [errW_none, errW_some] <;> rfl) | (simp [*, errW_none, errW_some] <;> rfl), by repeat (first | (with_reducible first | exact HB.out | apply below_alloc | apply pw_below_drewN | apply below_drew1 | refine below_set ?_ GE149.out | refine below_set ?_ GE150.out | refine below_set ?_ GE167.out) | exact HB.out)⟩
        · rw [if_neg c20] at H
          have c20b0 : (t156 == a2) = false := beq_eq_false_iff_ne.mpr c20
          have c20b1 : (t156 != a2) = true := bne_iff_ne.mpr c20
          obtain rfl := Option.some.inj H
          have hnb60 := NB149_150.out
          have hnc60 := NB150_149.out
          have hcz61_0 : wc.cell? ⟨gb149, 0, none⟩ = some (.string a0_0) := (blk_cell BK149.out 0).trans rfl
          have hcz61_1 : wc.cell? ⟨gb149, 1, none⟩ = some (.int .i64 a0_1) := (blk_cell BK149.out 1).trans rfl
          have hfz61_0 := blk_frozen BK149.out 0
          have hfz61_1 := blk_frozen BK149.out 1
          try go_wp2_with (first | ((with_reducible refine gate_callee (f := 16) rfl ?_); refine goesL_ (some 27) rfl rfl Tryz.func16 (by kernel_rfl) rfl #[.agg #[.string a0_0, .int .i64 a0_1]] rfl (by (try simp only [List.map_toArray, List.map_cons, List.map_nil]); first | done | rfl | (simp only [List.length_drop, List.length_take]; rfl) | (simp only [Int.toNat_natCast, ByteArray.extract_zero_size]; rfl)) ?_; (with_reducible refine (impl_AroundOf.calls kj3 a0_0 a0_1 t151 t152 t153 t154 t155 t156 t157 t158 t161 t162 t163 t164 t165 t166 _ A19.out).mono ?_); rintro e w62 ⟨v159, rfl, ho0, hb⟩; refine ⟨_, rfl, ?_⟩; have n0_ := Aside0.mk (Kd.R_lower ho0 (below_size (by repeat (first | (with_reducible first | exact HB.out | apply below_alloc | apply pw_below_drewN | apply below_drew1 | refine below_set ?_ GE149.out | refine below_set ?_ GE150.out) | exact HB.out)))); have n1_ := Aside0.mk (blk_below (g := gb149) (o := .cells #[.string a0_0, .int .i64 a0_1] 23 (0, 0)) (by (with_reducible repeat (first | refine blk_drewN ?_ _ | refine blk_drew ?_ | refine blk_alloc ?_ _)); exact BK149.out) hb); have n2_ := Aside0.mk (blk_below (g := gb150) (o := .cells #[.string a1_0, .int .i64 a1_1] 23 (0, 0)) (by (with_reducible repeat (first | refine blk_drewN ?_ _ | refine blk_drew ?_ | refine blk_alloc ?_ _)); exact BK150.out) hb); have n3_ := Aside0.mk (below_step (by repeat (first | (with_reducible first | exact HB.out | apply below_alloc | apply pw_below_drewN | apply below_drew1 | refine below_set ?_ GE149.out | refine below_set ?_ GE150.out) | exact HB.out)) hb); clear BK149; clear BK150; clear HB; have HO160 := n0_; have BK149 := n1_; have BK150 := n2_; have HB := n3_; clear n0_ n1_ n2_ n3_; (try clear hb); (try clear hb2); (try clear hk); (try clear hi); (try clear ho0)) | ((with_reducible refine gate_dst (N := 7) rfl ?_); (try (refine gate_guard (by rfl) ?_; dsimp only)); refine box_event ?hg (N := 7) ?hd (cs := #[.string (⟨#[]⟩ : ByteArray), .string (⟨#[]⟩ : ByteArray), .string (⟨#[]⟩ : ByteArray), .string (⟨#[]⟩ : ByteArray), .string (⟨#[]⟩ : ByteArray), .int .i64 0, .int .i64 0, .slice none 0 0, .bool false, .int .i64 0, .string (⟨#[]⟩ : ByteArray), .string (⟨#[]⟩ : ByteArray), .string (⟨#[]⟩ : ByteArray), .string (⟨#[]⟩ : ByteArray)]) (t := 40) ?hr ?_; (case hd => rfl); (case hg => rfl); (case hr => first | (go_simp; done) | (go_simp; rfl)); intro gb167 hg w63 hbox hb; have n0_ := Aside0.mk (Kd.R_below (by (with_reducible repeat (first | apply Kd.R_alloc | apply Kd.R_drewN | apply Kd.R_drew)); exact HO160.out) hb); have n1_ := Aside0.mk (blk_below (g := gb149) (o := .cells #[.string a0_0, .int .i64 a0_1] 23 (0, 0)) (by (with_reducible repeat (first | refine blk_drewN ?_ _ | refine blk_drew ?_ | refine blk_alloc ?_ _)); exact BK149.out) hb); have n2_ := Aside0.mk (blk_below (g := gb150) (o := .cells #[.string a1_0, .int .i64 a1_1] 23 (0, 0)) (by (with_reducible repeat (first | refine blk_drewN ?_ _ | refine blk_drew ?_ | refine blk_alloc ?_ _)); exact BK150.out) hb); have n3_ := Aside0.mk (below_step (by repeat (first | (with_reducible first | exact HB.out | apply below_alloc | apply pw_below_drewN | apply below_drew1 | refine below_set ?_ GE149.out | refine below_set ?_ GE150.out) | exact HB.out)) hb); have n4_ := Aside0.mk (hbox); have n5_ := Aside0.mk ((by rw [hg]; exact (below_size (by repeat (first | (with_reducible first | exact HB.out | apply below_alloc | apply pw_below_drewN | apply below_drew1 | refine below_set ?_ GE149.out | refine below_set ?_ GE150.out) | exact HB.out))) : w.heap.size ≤ gb167)); have n6_ := Aside0.mk ((by rw [hg]; exact (below_size (by repeat (first | (with_reducible first | exact HB.out | apply below_alloc | apply pw_below_drewN | apply below_drew1 | refine below_set ?_ GE149.out | refine below_set ?_ GE150.out) | exact HB.out))) : w.heap.size ≤ gb167)); have n7_ := Aside0.mk ((by rw [hg]; exact Nat.ne_of_lt (blk_lt (g := gb149) (o := .cells #[.string a0_0, .int .i64 a0_1] 23 (0, 0)) (by (with_reducible repeat (first | refine blk_drewN ?_ _ | refine blk_drew ?_ | refine blk_alloc ?_ _)); exact BK149.out)) : gb149 ≠ gb167)); have n8_ := Aside0.mk ((by rw [hg]; exact Nat.ne_of_gt (blk_lt (g := gb149) (o := .cells #[.string a0_0, .int .i64 a0_1] 23 (0, 0)) (by (with_reducible repeat (first | refine blk_drewN ?_ _ | refine blk_drew ?_ | refine blk_alloc ?_ _)); exact BK149.out)) : gb167 ≠ gb149)); have n9_ := Aside0.mk ((by rw [hg]; exact Nat.ne_of_lt (blk_lt (g := gb150) (o := .cells #[.string a1_0, .int .i64 a1_1] 23 (0, 0)) (by (with_reducible repeat (first | refine blk_drewN ?_ _ | refine blk_drew ?_ | refine blk_alloc ?_ _)); exact BK150.out)) : gb150 ≠ gb167)); have n10_ := Aside0.mk ((by rw [hg]; exact Nat.ne_of_gt (blk_lt (g := gb150) (o := .cells #[.string a1_0, .int .i64 a1_1] 23 (0, 0)) (by (with_reducible repeat (first | refine blk_drewN ?_ _ | refine blk_drew ?_ | refine blk_alloc ?_ _)); exact BK150.out)) : gb167 ≠ gb150)); clear HO160; clear BK149; clear BK150; clear HB; have HO160 := n0_; have BK149 := n1_; have BK150 := n2_; have HB := n3_; have BK167 := n4_; have GW167 := n5_; have GE167 := n6_; have NB149_167 := n7_; have NB167_149 := n8_; have NB150_167 := n9_; have NB167_150 := n10_; clear n0_ n1_ n2_ n3_ n4_ n5_ n6_ n7_ n8_ n9_ n10_; clear hb hbox hg; have hnb64 := NB167_149.out; have hnc64 := NB149_167.out; have hnb65 := NB167_150.out; have hnc65 := NB150_167.out; have hcz66_0 : w63.cell? ⟨gb167, 0, none⟩ = some (.string (⟨#[]⟩ : ByteArray)) := (blk_cell BK167.out 0).trans rfl; have hcz66_1 : w63.cell? ⟨gb167, 1, none⟩ = some (.string (⟨#[]⟩ : ByteArray)) := (blk_cell BK167.out 1).trans rfl; have hcz66_2 : w63.cell? ⟨gb167, 2, none⟩ = some (.string (⟨#[]⟩ : ByteArray)) := (blk_cell BK167.out 2).trans rfl; have hcz66_3 : w63.cell? ⟨gb167, 3, none⟩ = some (.string (⟨#[]⟩ : ByteArray)) := (blk_cell BK167.out 3).trans rfl; have hcz66_4 : w63.cell? ⟨gb167, 4, none⟩ = some (.string (⟨#[]⟩ : ByteArray)) := (blk_cell BK167.out 4).trans rfl; have hcz66_5 : w63.cell? ⟨gb167, 5, none⟩ = some (.int .i64 0) := (blk_cell BK167.out 5).trans rfl; have hcz66_6 : w63.cell? ⟨gb167, 6, none⟩ = some (.int .i64 0) := (blk_cell BK167.out 6).trans rfl; have hcz66_7 : w63.cell? ⟨gb167, 7, none⟩ = some (.slice none 0 0) := (blk_cell BK167.out 7).trans rfl; have hcz66_8 : w63.cell? ⟨gb167, 8, none⟩ = some (.bool false) := (blk_cell BK167.out 8).trans rfl; have hcz66_9 : w63.cell? ⟨gb167, 9, none⟩ = some (.int .i64 0) := (blk_cell BK167.out 9).trans rfl; have hcz66_10 : w63.cell? ⟨gb167, 10, none⟩ = some (.string (⟨#[]⟩ : ByteArray)) := (blk_cell BK167.out 10).trans rfl; have hcz66_11 : w63.cell? ⟨gb167, 11, none⟩ = some (.string (⟨#[]⟩ : ByteArray)) := (blk_cell BK167.out 11).trans rfl; have hcz66_12 : w63.cell? ⟨gb167, 12, none⟩ = some (.string (⟨#[]⟩ : ByteArray)) := (blk_cell BK167.out 12).trans rfl; have hcz66_13 : w63.cell? ⟨gb167, 13, none⟩ = some (.string (⟨#[]⟩ : ByteArray)) := (blk_cell BK167.out 13).trans rfl; have hfz66_0 := blk_frozen BK167.out 0; have hfz66_1 := blk_frozen BK167.out 1; have hfz66_2 := blk_frozen BK167.out 2; have hfz66_3 := blk_frozen BK167.out 3; have hfz66_4 := blk_frozen BK167.out 4; have hfz66_5 := blk_frozen BK167.out 5; have hfz66_6 := blk_frozen BK167.out 6; have hfz66_7 := blk_frozen BK167.out 7; have hfz66_8 := blk_frozen BK167.out 8; have hfz66_9 := blk_frozen BK167.out 9; have hfz66_10 := blk_frozen BK167.out 10; have hfz66_11 := blk_frozen BK167.out 11; have hfz66_12 := blk_frozen BK167.out 12; have hfz66_13 := blk_frozen BK167.out 13; obtain ⟨Ao67, co67, eo67⟩ := Kd.R_slice HO160.out; subst eo67))
          have n0_ : Aside0 (Kd.R Kd.string 9 ((((((((((((((w63.setCell ⟨gb167, 0, none⟩ (.string t151)).setCell ⟨gb167, 1, none⟩ (.string t152)).setCell ⟨gb167, 2, none⟩ (.string t153)).setCell ⟨gb167, 3, none⟩ (.string t154)).setCell ⟨gb167, 4, none⟩ (.string t155)).setCell ⟨gb167, 5, none⟩ (.int .i64 t156)).setCell ⟨gb167, 6, none⟩ (.int .i64 t157)).setCell ⟨gb167, 7, none⟩ (.slice Ao67 t158.length co67)).setCell ⟨gb167, 8, none⟩ (.bool t161)).setCell ⟨gb167, 9, none⟩ (.int .i64 t162)).setCell ⟨gb167, 10, none⟩ (.string t163)).setCell ⟨gb167, 11, none⟩ (.string t164)).setCell ⟨gb167, 12, none⟩ (.string t165)).setCell ⟨gb167, 13, none⟩ (.string t166)) w.heap.size (fun _ => True) (.slice Ao67 t158.length co67) t158) := ⟨by (with_reducible repeat (first | apply Kd.R_alloc | apply Kd.R_drewN | apply Kd.R_drew)); exact Kd.R_mono (Kd.R_far (p := ⟨gb167, 13, none⟩) (Kd.R_far (p := ⟨gb167, 12, none⟩) (Kd.R_far (p := ⟨gb167, 11, none⟩) (Kd.R_far (p := ⟨gb167, 10, none⟩) (Kd.R_far (p := ⟨gb167, 9, none⟩) (Kd.R_far (p := ⟨gb167, 8, none⟩) (Kd.R_far (p := ⟨gb167, 7, none⟩) (Kd.R_far (p := ⟨gb167, 6, none⟩) (Kd.R_far (p := ⟨gb167, 5, none⟩) (Kd.R_far (p := ⟨gb167, 4, none⟩) (Kd.R_far (p := ⟨gb167, 3, none⟩) (Kd.R_far (p := ⟨gb167, 2, none⟩) (Kd.R_far (p := ⟨gb167, 1, none⟩) (Kd.R_far (p := ⟨gb167, 0, none⟩) (Kd.R_types HO160.out BK167.out (by decide)) (fun _ hk => hk.2) (.string t151)) (fun _ hk => hk.2) (.string t152)) (fun _ hk => hk.2) (.string t153)) (fun _ hk => hk.2) (.string t154)) (fun _ hk => hk.2) (.string t155)) (fun _ hk => hk.2) (.int .i64 t156)) (fun _ hk => hk.2) (.int .i64 t157)) (fun _ hk => hk.2) (.slice Ao67 t158.length co67)) (fun _ hk => hk.2) (.bool t161)) (fun _ hk => hk.2) (.int .i64 t162)) (fun _ hk => hk.2) (.string t163)) (fun _ hk => hk.2) (.string t164)) (fun _ hk => hk.2) (.string t165)) (fun _ hk => hk.2) (.string t166)) (fun _ hk => trivial)⟩
          have n1_ : Aside0 (((((((((((((((w63.setCell ⟨gb167, 0, none⟩ (.string t151)).setCell ⟨gb167, 1, none⟩ (.string t152)).setCell ⟨gb167, 2, none⟩ (.string t153)).setCell ⟨gb167, 3, none⟩ (.string t154)).setCell ⟨gb167, 4, none⟩ (.string t155)).setCell ⟨gb167, 5, none⟩ (.int .i64 t156)).setCell ⟨gb167, 6, none⟩ (.int .i64 t157)).setCell ⟨gb167, 7, none⟩ (.slice Ao67 t158.length co67)).setCell ⟨gb167, 8, none⟩ (.bool t161)).setCell ⟨gb167, 9, none⟩ (.int .i64 t162)).setCell ⟨gb167, 10, none⟩ (.string t163)).setCell ⟨gb167, 11, none⟩ (.string t164)).setCell ⟨gb167, 12, none⟩ (.string t165)).setCell ⟨gb167, 13, none⟩ (.string t166)).heap[gb149]? = some (.cells #[.string a0_0, .int .i64 a0_1] 23 (0, 0))) := ⟨by (with_reducible repeat (first | refine blk_drewN ?_ _ | refine blk_drew ?_ | refine blk_alloc ?_ _)); refine blk_far ?_ NB149_167.out _; (with_reducible repeat (first | refine blk_drewN ?_ _ | refine blk_drew ?_ | refine blk_alloc ?_ _)); refine blk_far ?_ NB149_167.out _; (with_reducible repeat (first | refine blk_drewN ?_ _ | refine blk_drew ?_ | refine blk_alloc ?_ _)); refine blk_far ?_ NB149_167.out _; (with_reducible repeat (first | refine blk_drewN ?_ _ | refine blk_drew ?_ | refine blk_alloc ?_ _)); refine blk_far ?_ NB149_167.out _; (with_reducible repeat (first | refine blk_drewN ?_ _ | refine blk_drew ?_ | refine blk_alloc ?_ _)); refine blk_far ?_ NB149_167.out _; (with_reducible repeat (first | refine blk_drewN ?_ _ | refine blk_drew ?_ | refine blk_alloc ?_ _)); refine blk_far ?_ NB149_167.out _; (with_reducible repeat (first | refine blk_drewN ?_ _ | refine blk_drew ?_ | refine blk_alloc ?_ _)); refine blk_far ?_ NB149_167.out _; (with_reducible repeat (first | refine blk_drewN ?_ _ | refine blk_drew ?_ | refine blk_alloc ?_ _)); refine blk_far ?_ NB149_167.out _; (with_reducible repeat (first | refine blk_drewN ?_ _ | refine blk_drew ?_ | refine blk_alloc ?_ _)); refine blk_far ?_ NB149_167.out _; (with_reducible repeat (first | refine blk_drewN ?_ _ | refine blk_drew ?_ | refine blk_alloc ?_ _)); refine blk_far ?_ NB149_167.out _; (with_reducible repeat (first | refine blk_drewN ?_ _ | refine blk_drew ?_ | refine blk_alloc ?_ _)); refine blk_far ?_ NB149_167.out _; (with_reducible repeat (first | refine blk_drewN ?_ _ | refine blk_drew ?_ | refine blk_alloc ?_ _)); refine blk_far ?_ NB149_167.out _; (with_reducible repeat (first | refine blk_drewN ?_ _ | refine blk_drew ?_ | refine blk_alloc ?_ _)); refine blk_far ?_ NB149_167.out _; (with_reducible repeat (first | refine blk_drewN ?_ _ | refine blk_drew ?_ | refine blk_alloc ?_ _)); refine blk_far ?_ NB149_167.out _; (with_reducible repeat (first | refine blk_drewN ?_ _ | refine blk_drew ?_ | refine blk_alloc ?_ _)); exact BK149.out⟩
          have n2_ : Aside0 (((((((((((((((w63.setCell ⟨gb167, 0, none⟩ (.string t151)).setCell ⟨gb167, 1, none⟩ (.string t152)).setCell ⟨gb167, 2, none⟩ (.string t153)).setCell ⟨gb167, 3, none⟩ (.string t154)).setCell ⟨gb167, 4, none⟩ (.string t155)).setCell ⟨gb167, 5, none⟩ (.int .i64 t156)).setCell ⟨gb167, 6, none⟩ (.int .i64 t157)).setCell ⟨gb167, 7, none⟩ (.slice Ao67 t158.length co67)).setCell ⟨gb167, 8, none⟩ (.bool t161)).setCell ⟨gb167, 9, none⟩ (.int .i64 t162)).setCell ⟨gb167, 10, none⟩ (.string t163)).setCell ⟨gb167, 11, none⟩ (.string t164)).setCell ⟨gb167, 12, none⟩ (.string t165)).setCell ⟨gb167, 13, none⟩ (.string t166)).heap[gb150]? = some (.cells #[.string a1_0, .int .i64 a1_1] 23 (0, 0))) := ⟨by (with_reducible repeat (first | refine blk_drewN ?_ _ | refine blk_drew ?_ | refine blk_alloc ?_ _)); refine blk_far ?_ NB150_167.out _; (with_reducible repeat (first | refine blk_drewN ?_ _ | refine blk_drew ?_ | refine blk_alloc ?_ _)); refine blk_far ?_ NB150_167.out _; (with_reducible repeat (first | refine blk_drewN ?_ _ | refine blk_drew ?_ | refine blk_alloc ?_ _)); refine blk_far ?_ NB150_167.out _; (with_reducible repeat (first | refine blk_drewN ?_ _ | refine blk_drew ?_ | refine blk_alloc ?_ _)); refine blk_far ?_ NB150_167.out _; (with_reducible repeat (first | refine blk_drewN ?_ _ | refine blk_drew ?_ | refine blk_alloc ?_ _)); refine blk_far ?_ NB150_167.out _; (with_reducible repeat (first | refine blk_drewN ?_ _ | refine blk_drew ?_ | refine blk_alloc ?_ _)); refine blk_far ?_ NB150_167.out _; (with_reducible repeat (first | refine blk_drewN ?_ _ | refine blk_drew ?_ | refine blk_alloc ?_ _)); refine blk_far ?_ NB150_167.out _; (with_reducible repeat (first | refine blk_drewN ?_ _ | refine blk_drew ?_ | refine blk_alloc ?_ _)); refine blk_far ?_ NB150_167.out _; (with_reducible repeat (first | refine blk_drewN ?_ _ | refine blk_drew ?_ | refine blk_alloc ?_ _)); refine blk_far ?_ NB150_167.out _; (with_reducible repeat (first | refine blk_drewN ?_ _ | refine blk_drew ?_ | refine blk_alloc ?_ _)); refine blk_far ?_ NB150_167.out _; (with_reducible repeat (first | refine blk_drewN ?_ _ | refine blk_drew ?_ | refine blk_alloc ?_ _)); refine blk_far ?_ NB150_167.out _; (with_reducible repeat (first | refine blk_drewN ?_ _ | refine blk_drew ?_ | refine blk_alloc ?_ _)); refine blk_far ?_ NB150_167.out _; (with_reducible repeat (first | refine blk_drewN ?_ _ | refine blk_drew ?_ | refine blk_alloc ?_ _)); refine blk_far ?_ NB150_167.out _; (with_reducible repeat (first | refine blk_drewN ?_ _ | refine blk_drew ?_ | refine blk_alloc ?_ _)); refine blk_far ?_ NB150_167.out _; (with_reducible repeat (first | refine blk_drewN ?_ _ | refine blk_drew ?_ | refine blk_alloc ?_ _)); exact BK150.out⟩
          have n3_ : Aside0 (((((((((((((((w63.setCell ⟨gb167, 0, none⟩ (.string t151)).setCell ⟨gb167, 1, none⟩ (.string t152)).setCell ⟨gb167, 2, none⟩ (.string t153)).setCell ⟨gb167, 3, none⟩ (.string t154)).setCell ⟨gb167, 4, none⟩ (.string t155)).setCell ⟨gb167, 5, none⟩ (.int .i64 t156)).setCell ⟨gb167, 6, none⟩ (.int .i64 t157)).setCell ⟨gb167, 7, none⟩ (.slice Ao67 t158.length co67)).setCell ⟨gb167, 8, none⟩ (.bool t161)).setCell ⟨gb167, 9, none⟩ (.int .i64 t162)).setCell ⟨gb167, 10, none⟩ (.string t163)).setCell ⟨gb167, 11, none⟩ (.string t164)).setCell ⟨gb167, 12, none⟩ (.string t165)).setCell ⟨gb167, 13, none⟩ (.string t166)).heap[gb167]? = some (.cells #[.string t151, .string t152, .string t153, .string t154, .string t155, .int .i64 t156, .int .i64 t157, .slice Ao67 t158.length co67, .bool t161, .int .i64 t162, .string t163, .string t164, .string t165, .string t166] 40 (0, 0))) := ⟨by (with_reducible repeat (first | refine blk_drewN ?_ _ | refine blk_drew ?_ | refine blk_alloc ?_ _)); refine blk_put (cs := #[.string t151, .string t152, .string t153, .string t154, .string t155, .int .i64 t156, .int .i64 t157, .slice Ao67 t158.length co67, .bool t161, .int .i64 t162, .string t163, .string t164, .string t165, .string (⟨#[]⟩ : ByteArray)]) ?_ 13 _ rfl; (with_reducible repeat (first | refine blk_drewN ?_ _ | refine blk_drew ?_ | refine blk_alloc ?_ _)); refine blk_put (cs := #[.string t151, .string t152, .string t153, .string t154, .string t155, .int .i64 t156, .int .i64 t157, .slice Ao67 t158.length co67, .bool t161, .int .i64 t162, .string t163, .string t164, .string (⟨#[]⟩ : ByteArray), .string (⟨#[]⟩ : ByteArray)]) ?_ 12 _ rfl; (with_reducible repeat (first | refine blk_drewN ?_ _ | refine blk_drew ?_ | refine blk_alloc ?_ _)); refine blk_put (cs := #[.string t151, .string t152, .string t153, .string t154, .string t155, .int .i64 t156, .int .i64 t157, .slice Ao67 t158.length co67, .bool t161, .int .i64 t162, .string t163, .string (⟨#[]⟩ : ByteArray), .string (⟨#[]⟩ : ByteArray), .string (⟨#[]⟩ : ByteArray)]) ?_ 11 _ rfl; (with_reducible repeat (first | refine blk_drewN ?_ _ | refine blk_drew ?_ | refine blk_alloc ?_ _)); refine blk_put (cs := #[.string t151, .string t152, .string t153, .string t154, .string t155, .int .i64 t156, .int .i64 t157, .slice Ao67 t158.length co67, .bool t161, .int .i64 t162, .string (⟨#[]⟩ : ByteArray), .string (⟨#[]⟩ : ByteArray), .string (⟨#[]⟩ : ByteArray), .string (⟨#[]⟩ : ByteArray)]) ?_ 10 _ rfl; (with_reducible repeat (first | refine blk_drewN ?_ _ | refine blk_drew ?_ | refine blk_alloc ?_ _)); refine blk_put (cs := #[.string t151, .string t152, .string t153, .string t154, .string t155, .int .i64 t156, .int .i64 t157, .slice Ao67 t158.length co67, .bool t161, .int .i64 0, .string (⟨#[]⟩ : ByteArray), .string (⟨#[]⟩ : ByteArray), .string (⟨#[]⟩ : ByteArray), .string (⟨#[]⟩ : ByteArray)]) ?_ 9 _ rfl; (with_reducible repeat (first | refine blk_drewN ?_ _ | refine blk_drew ?_ | refine blk_alloc ?_ _)); refine blk_put (cs := #[.string t151, .string t152, .string t153, .string t154, .string t155, .int .i64 t156, .int .i64 t157, .slice Ao67 t158.length co67, .bool false, .int .i64 0, .string (⟨#[]⟩ : ByteArray), .string (⟨#[]⟩ : ByteArray), .string (⟨#[]⟩ : ByteArray), .string (⟨#[]⟩ : ByteArray)]) ?_ 8 _ rfl; (with_reducible repeat (first | refine blk_drewN ?_ _ | refine blk_drew ?_ | refine blk_alloc ?_ _)); refine blk_put (cs := #[.string t151, .string t152, .string t153, .string t154, .string t155, .int .i64 t156, .int .i64 t157, .slice none 0 0, .bool false, .int .i64 0, .string (⟨#[]⟩ : ByteArray), .string (⟨#[]⟩ : ByteArray), .string (⟨#[]⟩ : ByteArray), .string (⟨#[]⟩ : ByteArray)]) ?_ 7 _ rfl; (with_reducible repeat (first | refine blk_drewN ?_ _ | refine blk_drew ?_ | refine blk_alloc ?_ _)); refine blk_put (cs := #[.string t151, .string t152, .string t153, .string t154, .string t155, .int .i64 t156, .int .i64 0, .slice none 0 0, .bool false, .int .i64 0, .string (⟨#[]⟩ : ByteArray), .string (⟨#[]⟩ : ByteArray), .string (⟨#[]⟩ : ByteArray), .string (⟨#[]⟩ : ByteArray)]) ?_ 6 _ rfl; (with_reducible repeat (first | refine blk_drewN ?_ _ | refine blk_drew ?_ | refine blk_alloc ?_ _)); refine blk_put (cs := #[.string t151, .string t152, .string t153, .string t154, .string t155, .int .i64 0, .int .i64 0, .slice none 0 0, .bool false, .int .i64 0, .string (⟨#[]⟩ : ByteArray), .string (⟨#[]⟩ : ByteArray), .string (⟨#[]⟩ : ByteArray), .string (⟨#[]⟩ : ByteArray)]) ?_ 5 _ rfl; (with_reducible repeat (first | refine blk_drewN ?_ _ | refine blk_drew ?_ | refine blk_alloc ?_ _)); refine blk_put (cs := #[.string t151, .string t152, .string t153, .string t154, .string (⟨#[]⟩ : ByteArray), .int .i64 0, .int .i64 0, .slice none 0 0, .bool false, .int .i64 0, .string (⟨#[]⟩ : ByteArray), .string (⟨#[]⟩ : ByteArray), .string (⟨#[]⟩ : ByteArray), .string (⟨#[]⟩ : ByteArray)]) ?_ 4 _ rfl; (with_reducible repeat (first | refine blk_drewN ?_ _ | refine blk_drew ?_ | refine blk_alloc ?_ _)); refine blk_put (cs := #[.string t151, .string t152, .string t153, .string (⟨#[]⟩ : ByteArray), .string (⟨#[]⟩ : ByteArray), .int .i64 0, .int .i64 0, .slice none 0 0, .bool false, .int .i64 0, .string (⟨#[]⟩ : ByteArray), .string (⟨#[]⟩ : ByteArray), .string (⟨#[]⟩ : ByteArray), .string (⟨#[]⟩ : ByteArray)]) ?_ 3 _ rfl; (with_reducible repeat (first | refine blk_drewN ?_ _ | refine blk_drew ?_ | refine blk_alloc ?_ _)); refine blk_put (cs := #[.string t151, .string t152, .string (⟨#[]⟩ : ByteArray), .string (⟨#[]⟩ : ByteArray), .string (⟨#[]⟩ : ByteArray), .int .i64 0, .int .i64 0, .slice none 0 0, .bool false, .int .i64 0, .string (⟨#[]⟩ : ByteArray), .string (⟨#[]⟩ : ByteArray), .string (⟨#[]⟩ : ByteArray), .string (⟨#[]⟩ : ByteArray)]) ?_ 2 _ rfl; (with_reducible repeat (first | refine blk_drewN ?_ _ | refine blk_drew ?_ | refine blk_alloc ?_ _)); refine blk_put (cs := #[.string t151, .string (⟨#[]⟩ : ByteArray), .string (⟨#[]⟩ : ByteArray), .string (⟨#[]⟩ : ByteArray), .string (⟨#[]⟩ : ByteArray), .int .i64 0, .int .i64 0, .slice none 0 0, .bool false, .int .i64 0, .string (⟨#[]⟩ : ByteArray), .string (⟨#[]⟩ : ByteArray), .string (⟨#[]⟩ : ByteArray), .string (⟨#[]⟩ : ByteArray)]) ?_ 1 _ rfl; (with_reducible repeat (first | refine blk_drewN ?_ _ | refine blk_drew ?_ | refine blk_alloc ?_ _)); refine blk_put (cs := #[.string (⟨#[]⟩ : ByteArray), .string (⟨#[]⟩ : ByteArray), .string (⟨#[]⟩ : ByteArray), .string (⟨#[]⟩ : ByteArray), .string (⟨#[]⟩ : ByteArray), .int .i64 0, .int .i64 0, .slice none 0 0, .bool false, .int .i64 0, .string (⟨#[]⟩ : ByteArray), .string (⟨#[]⟩ : ByteArray), .string (⟨#[]⟩ : ByteArray), .string (⟨#[]⟩ : ByteArray)]) ?_ 0 _ rfl; (with_reducible repeat (first | refine blk_drewN ?_ _ | refine blk_drew ?_ | refine blk_alloc ?_ _)); exact BK167.out⟩
          have n4_ : Aside0 (Below w.heap.size w ((((((((((((((w63.setCell ⟨gb167, 0, none⟩ (.string t151)).setCell ⟨gb167, 1, none⟩ (.string t152)).setCell ⟨gb167, 2, none⟩ (.string t153)).setCell ⟨gb167, 3, none⟩ (.string t154)).setCell ⟨gb167, 4, none⟩ (.string t155)).setCell ⟨gb167, 5, none⟩ (.int .i64 t156)).setCell ⟨gb167, 6, none⟩ (.int .i64 t157)).setCell ⟨gb167, 7, none⟩ (.slice Ao67 t158.length co67)).setCell ⟨gb167, 8, none⟩ (.bool t161)).setCell ⟨gb167, 9, none⟩ (.int .i64 t162)).setCell ⟨gb167, 10, none⟩ (.string t163)).setCell ⟨gb167, 11, none⟩ (.string t164)).setCell ⟨gb167, 12, none⟩ (.string t165)).setCell ⟨gb167, 13, none⟩ (.string t166))) := ⟨by repeat (first | (with_reducible first | exact HB.out | apply below_alloc | apply pw_below_drewN | apply below_drew1 | refine below_set ?_ GE149.out | refine below_set ?_ GE150.out | refine below_set ?_ GE167.out) | exact HB.out)⟩
          (try clear HO160)
          (try clear BK149)
          (try clear BK150)
          (try clear BK167)
          (try clear HB)
          generalize ((((((((((((((w63.setCell ⟨gb167, 0, none⟩ (.string t151)).setCell ⟨gb167, 1, none⟩ (.string t152)).setCell ⟨gb167, 2, none⟩ (.string t153)).setCell ⟨gb167, 3, none⟩ (.string t154)).setCell ⟨gb167, 4, none⟩ (.string t155)).setCell ⟨gb167, 5, none⟩ (.int .i64 t156)).setCell ⟨gb167, 6, none⟩ (.int .i64 t157)).setCell ⟨gb167, 7, none⟩ (.slice Ao67 t158.length co67)).setCell ⟨gb167, 8, none⟩ (.bool t161)).setCell ⟨gb167, 9, none⟩ (.int .i64 t162)).setCell ⟨gb167, 10, none⟩ (.string t163)).setCell ⟨gb167, 11, none⟩ (.string t164)).setCell ⟨gb167, 12, none⟩ (.string t165)).setCell ⟨gb167, 13, none⟩ (.string t166)) = w68 at n0_ n1_ n2_ n3_ n4_ ⊢
          have HO160 := n0_
          have BK149 := n1_
          have BK150 := n2_
          have BK167 := n3_
          have HB := n4_
          clear n0_ n1_ n2_ n3_ n4_
          have n0_ := Aside0.mk (Kd.R_drew HO160.out)
          have n1_ := Aside0.mk (blk_drew BK149.out)
          have n2_ := Aside0.mk (blk_drew BK150.out)
          have n3_ := Aside0.mk (blk_drew BK167.out)
          have n4_ := Aside0.mk (below_drew1 HB.out)
          clear HO160
          clear BK149
          clear BK150
          clear BK167
          clear HB
          have HO160 := n0_
          have BK149 := n1_
          have BK150 := n2_
          have BK167 := n3_
          have HB := n4_
          clear n0_ n1_ n2_ n3_ n4_
          refine start_ (n := 24) (S := fun w' => w'.cell? ⟨gb167, 0, none⟩ = some (.string t151) ∧ w'.cell? ⟨gb167, 1, none⟩ = some (.string t152) ∧ w'.cell? ⟨gb167, 2, none⟩ = some (.string t153) ∧ w'.cell? ⟨gb167, 3, none⟩ = some (.string t154) ∧ w'.cell? ⟨gb167, 4, none⟩ = some (.string t155) ∧ w'.cell? ⟨gb167, 5, none⟩ = some (.int .i64 t156) ∧ w'.cell? ⟨gb167, 6, none⟩ = some (.int .i64 t157) ∧ w'.cell? ⟨gb167, 7, none⟩ = some (.slice Ao67 t158.length co67) ∧ w'.cell? ⟨gb167, 8, none⟩ = some (.bool t161) ∧ w'.cell? ⟨gb167, 9, none⟩ = some (.int .i64 t162) ∧ w'.cell? ⟨gb167, 10, none⟩ = some (.string t163) ∧ w'.cell? ⟨gb167, 11, none⟩ = some (.string t164) ∧ w'.cell? ⟨gb167, 12, none⟩ = some (.string t165) ∧ w'.cell? ⟨gb167, 13, none⟩ = some (.string t166)) (ds := []) #[false, false, false, false, false, false, false, false, false, false, false, false, false, false, false, false, false, false, false, false, false, false, false, false] (by kernel_rfl) rfl rfl ⟨(blk_cell BK167.out 0).trans rfl, (blk_cell BK167.out 1).trans rfl, (blk_cell BK167.out 2).trans rfl, (blk_cell BK167.out 3).trans rfl, (blk_cell BK167.out 4).trans rfl, (blk_cell BK167.out 5).trans rfl, (blk_cell BK167.out 6).trans rfl, (blk_cell BK167.out 7).trans rfl, (blk_cell BK167.out 8).trans rfl, (blk_cell BK167.out 9).trans rfl, (blk_cell BK167.out 10).trans rfl, (blk_cell BK167.out 11).trans rfl, (blk_cell BK167.out 12).trans rfl, (blk_cell BK167.out 13).trans rfl⟩ (fun hHeld => ?_); refine with_tabW laws_placed7.tab4 laws_placed7.bits4 (fun HT_ HW_ => ?_)
          generalize w68.drew = w69 at HO160 BK149 BK150 BK167 HB hHeld ⊢
          refine pure_ (i := 0) (N := some 28) (v := ?_) (a' := ?_) #[true, false, false, false, false, false, false, false, false, false, false, false, false, false, false, false, false, false, false, false, false, false, false, false] rfl rfl (any_of HT_.out (by kernel_rfl)) (fun _ _ _ h => h) (Or.inl ⟨by rfl, ?_⟩) ?_ ?_
          rotate_left
          · intro w'
            go_simp
            with_reducible rfl
          rotate_left
          · simp only [Act.put, List.setIfInBounds_toArray, List.set_cons_zero, List.set_cons_succ, i64_w, i32_w]
            rfl
          refine pure_ (i := 2) (N := some 30) (v := ?_) (a' := ?_) #[true, false, true, false, false, false, false, false, false, false, false, false, false, false, false, false, false, false, false, false, false, false, false, false] rfl rfl (any_of HT_.out (by kernel_rfl)) (fun _ _ _ h => h) (Or.inl ⟨by rfl, ?_⟩) ?_ ?_
          rotate_left
          · intro w'
            go_simp
            with_reducible rfl
          rotate_left
          · simp only [Act.put, List.setIfInBounds_toArray, List.set_cons_zero, List.set_cons_succ, i64_w, i32_w]
            rfl
          refine take_ (i := 1) (N := some 29) (v := ?_) (a' := ?_) #[true, true, true, false, false, false, false, false, false, false, false, false, false, false, false, false, false, false, false, false, false, false, false, false] rfl rfl (take_ofW HT_.out HW_.out (by kernel_rfl)) (fun _ _ _ h => h) (Or.inl ⟨by rfl, ?_⟩) hHeld ?_ ?_
          rotate_left
          · rintro w' ⟨s0, s1, s2, s3, s4, s5, s6, s7, s8, s9, s10, s11, s12, s13⟩
            go_simp
            with_reducible rfl
          rotate_left
          · simp only [Act.put, List.setIfInBounds_toArray, List.set_cons_zero, List.set_cons_succ, i64_w, i32_w]
            rfl
          refine pure_ (i := 3) (N := some 31) (v := ?_) (a' := ?_) #[true, true, true, true, false, false, false, false, false, false, false, false, false, false, false, false, false, false, false, false, false, false, false, false] rfl rfl (any_of HT_.out (by kernel_rfl)) (fun _ _ _ h => h) (Or.inl ⟨by rfl, ?_⟩) ?_ ?_
          rotate_left
          · intro w'
            go_simp
            with_reducible rfl
          rotate_left
          · simp only [Act.put, List.setIfInBounds_toArray, List.set_cons_zero, List.set_cons_succ, i64_w, i32_w]
            rfl
          refine pure_ (i := 4) (N := some 32) (v := ?_) (a' := ?_) #[true, true, true, true, true, false, false, false, false, false, false, false, false, false, false, false, false, false, false, false, false, false, false, false] rfl rfl (any_of HT_.out (by kernel_rfl)) (fun _ _ _ h => h) (Or.inl ⟨by rfl, ?_⟩) ?_ ?_
          rotate_left
          · intro w'
            go_simp
            with_reducible rfl
          rotate_left
          · simp only [Act.put, List.setIfInBounds_toArray, List.set_cons_zero, List.set_cons_succ, i64_w, i32_w]
            rfl
          refine pure_ (i := 5) (N := some 33) (v := undef) (a' := ?_) #[true, true, true, true, true, true, false, false, false, false, false, false, false, false, false, false, false, false, false, false, false, false, false, false] rfl rfl (any_of HT_.out (by kernel_rfl)) (fun _ _ _ h => h) (Or.inr ⟨by rfl, rfl⟩) ?_ ?_
          rotate_left
          · simp only [Act.put, List.setIfInBounds_toArray, List.set_cons_zero, List.set_cons_succ, i64_w, i32_w]
            rfl
          refine pure_ (i := 6) (N := some 34) (v := undef) (a' := ?_) #[true, true, true, true, true, true, true, false, false, false, false, false, false, false, false, false, false, false, false, false, false, false, false, false] rfl rfl (any_of HT_.out (by kernel_rfl)) (fun _ _ _ h => h) (Or.inr ⟨by rfl, rfl⟩) ?_ ?_
          rotate_left
          · simp only [Act.put, List.setIfInBounds_toArray, List.set_cons_zero, List.set_cons_succ, i64_w, i32_w]
            rfl
          refine pure_ (i := 7) (N := some 35) (v := undef) (a' := ?_) #[true, true, true, true, true, true, true, true, false, false, false, false, false, false, false, false, false, false, false, false, false, false, false, false] rfl rfl (any_of HT_.out (by kernel_rfl)) (fun _ _ _ h => h) (Or.inr ⟨by rfl, rfl⟩) ?_ ?_
          rotate_left
          · simp only [Act.put, List.setIfInBounds_toArray, List.set_cons_zero, List.set_cons_succ, i64_w, i32_w]
            rfl
          refine pure_ (i := 8) (N := some 36) (v := undef) (a' := ?_) #[true, true, true, true, true, true, true, true, true, false, false, false, false, false, false, false, false, false, false, false, false, false, false, false] rfl rfl (any_of HT_.out (by kernel_rfl)) (fun _ _ _ h => h) (Or.inr ⟨by rfl, rfl⟩) ?_ ?_
          rotate_left
          · simp only [Act.put, List.setIfInBounds_toArray, List.set_cons_zero, List.set_cons_succ, i64_w, i32_w]
            rfl
          refine pure_ (i := 9) (N := some 37) (v := undef) (a' := ?_) #[true, true, true, true, true, true, true, true, true, true, false, false, false, false, false, false, false, false, false, false, false, false, false, false] rfl rfl (any_of HT_.out (by kernel_rfl)) (fun _ _ _ h => h) (Or.inr ⟨by rfl, rfl⟩) ?_ ?_
          rotate_left
          · simp only [Act.put, List.setIfInBounds_toArray, List.set_cons_zero, List.set_cons_succ, i64_w, i32_w]
            rfl
          refine pure_ (i := 10) (N := some 38) (v := undef) (a' := ?_) #[true, true, true, true, true, true, true, true, true, true, true, false, false, false, false, false, false, false, false, false, false, false, false, false] rfl rfl (any_of HT_.out (by kernel_rfl)) (fun _ _ _ h => h) (Or.inr ⟨by rfl, rfl⟩) ?_ ?_
          rotate_left
          · simp only [Act.put, List.setIfInBounds_toArray, List.set_cons_zero, List.set_cons_succ, i64_w, i32_w]
            rfl
          refine pure_ (i := 11) (N := some 39) (v := undef) (a' := ?_) #[true, true, true, true, true, true, true, true, true, true, true, true, false, false, false, false, false, false, false, false, false, false, false, false] rfl rfl (any_of HT_.out (by kernel_rfl)) (fun _ _ _ h => h) (Or.inr ⟨by rfl, rfl⟩) ?_ ?_
          rotate_left
          · simp only [Act.put, List.setIfInBounds_toArray, List.set_cons_zero, List.set_cons_succ, i64_w, i32_w]
            rfl
          refine pure_ (i := 12) (N := some 40) (v := undef) (a' := ?_) #[true, true, true, true, true, true, true, true, true, true, true, true, true, false, false, false, false, false, false, false, false, false, false, false] rfl rfl (any_of HT_.out (by kernel_rfl)) (fun _ _ _ h => h) (Or.inr ⟨by rfl, rfl⟩) ?_ ?_
          rotate_left
          · simp only [Act.put, List.setIfInBounds_toArray, List.set_cons_zero, List.set_cons_succ, i64_w, i32_w]
            rfl
          refine pure_ (i := 13) (N := some 41) (v := undef) (a' := ?_) #[true, true, true, true, true, true, true, true, true, true, true, true, true, true, false, false, false, false, false, false, false, false, false, false] rfl rfl (any_of HT_.out (by kernel_rfl)) (fun _ _ _ h => h) (Or.inr ⟨by rfl, rfl⟩) ?_ ?_
          rotate_left
          · simp only [Act.put, List.setIfInBounds_toArray, List.set_cons_zero, List.set_cons_succ, i64_w, i32_w]
            rfl
          refine pure_ (i := 14) (N := some 42) (v := undef) (a' := ?_) #[true, true, true, true, true, true, true, true, true, true, true, true, true, true, true, false, false, false, false, false, false, false, false, false] rfl rfl (any_of HT_.out (by kernel_rfl)) (fun _ _ _ h => h) (Or.inr ⟨by rfl, rfl⟩) ?_ ?_
          rotate_left
          · simp only [Act.put, List.setIfInBounds_toArray, List.set_cons_zero, List.set_cons_succ, i64_w, i32_w]
            rfl
          refine pure_ (i := 15) (N := some 43) (v := undef) (a' := ?_) #[true, true, true, true, true, true, true, true, true, true, true, true, true, true, true, true, false, false, false, false, false, false, false, false] rfl rfl (any_of HT_.out (by kernel_rfl)) (fun _ _ _ h => h) (Or.inr ⟨by rfl, rfl⟩) ?_ ?_
          rotate_left
          · simp only [Act.put, List.setIfInBounds_toArray, List.set_cons_zero, List.set_cons_succ, i64_w, i32_w]
            rfl
          refine pure_ (i := 16) (N := some 44) (v := undef) (a' := ?_) #[true, true, true, true, true, true, true, true, true, true, true, true, true, true, true, true, true, false, false, false, false, false, false, false] rfl rfl (any_of HT_.out (by kernel_rfl)) (fun _ _ _ h => h) (Or.inr ⟨by rfl, rfl⟩) ?_ ?_
          rotate_left
          · simp only [Act.put, List.setIfInBounds_toArray, List.set_cons_zero, List.set_cons_succ, i64_w, i32_w]
            rfl
          refine pure_ (i := 17) (N := some 45) (v := undef) (a' := ?_) #[true, true, true, true, true, true, true, true, true, true, true, true, true, true, true, true, true, true, false, false, false, false, false, false] rfl rfl (any_of HT_.out (by kernel_rfl)) (fun _ _ _ h => h) (Or.inr ⟨by rfl, rfl⟩) ?_ ?_
          rotate_left
          · simp only [Act.put, List.setIfInBounds_toArray, List.set_cons_zero, List.set_cons_succ, i64_w, i32_w]
            rfl
          refine pure_ (i := 18) (N := some 46) (v := undef) (a' := ?_) #[true, true, true, true, true, true, true, true, true, true, true, true, true, true, true, true, true, true, true, false, false, false, false, false] rfl rfl (any_of HT_.out (by kernel_rfl)) (fun _ _ _ h => h) (Or.inr ⟨by rfl, rfl⟩) ?_ ?_
          rotate_left
          · simp only [Act.put, List.setIfInBounds_toArray, List.set_cons_zero, List.set_cons_succ, i64_w, i32_w]
            rfl
          refine pure_ (i := 19) (N := some 47) (v := undef) (a' := ?_) #[true, true, true, true, true, true, true, true, true, true, true, true, true, true, true, true, true, true, true, true, false, false, false, false] rfl rfl (any_of HT_.out (by kernel_rfl)) (fun _ _ _ h => h) (Or.inr ⟨by rfl, rfl⟩) ?_ ?_
          rotate_left
          · simp only [Act.put, List.setIfInBounds_toArray, List.set_cons_zero, List.set_cons_succ, i64_w, i32_w]
            rfl
          refine pure_ (i := 20) (N := some 48) (v := undef) (a' := ?_) #[true, true, true, true, true, true, true, true, true, true, true, true, true, true, true, true, true, true, true, true, true, false, false, false] rfl rfl (any_of HT_.out (by kernel_rfl)) (fun _ _ _ h => h) (Or.inr ⟨by rfl, rfl⟩) ?_ ?_
          rotate_left
          · simp only [Act.put, List.setIfInBounds_toArray, List.set_cons_zero, List.set_cons_succ, i64_w, i32_w]
            rfl
          refine pure_ (i := 21) (N := some 49) (v := undef) (a' := ?_) #[true, true, true, true, true, true, true, true, true, true, true, true, true, true, true, true, true, true, true, true, true, true, false, false] rfl rfl (any_of HT_.out (by kernel_rfl)) (fun _ _ _ h => h) (Or.inr ⟨by rfl, rfl⟩) ?_ ?_
          rotate_left
          · simp only [Act.put, List.setIfInBounds_toArray, List.set_cons_zero, List.set_cons_succ, i64_w, i32_w]
            rfl
          refine pure_ (i := 22) (N := some 50) (v := ?_) (a' := ?_) #[true, true, true, true, true, true, true, true, true, true, true, true, true, true, true, true, true, true, true, true, true, true, true, false] rfl rfl (any_of HT_.out (by kernel_rfl)) (fun _ _ _ h => h) (Or.inl ⟨by rfl, ?_⟩) ?_ ?_
          rotate_left
          · intro w'
            go_simp
            with_reducible rfl
          rotate_left
          · simp only [Act.put, List.setIfInBounds_toArray, List.set_cons_zero, List.set_cons_succ, i64_w, i32_w]
            rfl
          refine pure_ (i := 23) (N := some 6) (v := ?_) (a' := ?_) #[true, true, true, true, true, true, true, true, true, true, true, true, true, true, true, true, true, true, true, true, true, true, true, true] rfl rfl (any_of HT_.out (by kernel_rfl)) (fun _ _ _ h => h) (Or.inl ⟨by rfl, ?_⟩) ?_ ?_
          rotate_left
          · intro w'
            go_simp
            with_reducible rfl
          rotate_left
          · simp only [Act.put, List.setIfInBounds_toArray, List.set_cons_zero, List.set_cons_succ, i64_w, i32_w]
            rfl
          refine done_ (done_of HT_.out (by kernel_rfl)) ?_
          try go_wp2
          go_ret
          exact ⟨by first | rfl | (simp [errW_none, errW_some] <;> rfl) | (simp [*, errW_none, errW_some] <;> rfl), by repeat (first | (with_reducible first | exact HB.out | apply below_alloc | apply pw_below_drewN | apply below_drew1 | refine below_set ?_ GE149.out | refine below_set ?_ GE150.out | refine below_set ?_ GE167.out) | exact HB.out)⟩
end Go.Proofs.YtkfmjkiefckgoaaGreatDoor.PFnUpDown
