/- Printed by a program of this seat (xprint) out of the translation: Go functions as plain functions, and the walks that show them; no condition. -/
import Derived.Test.YtkfmjkiefckgoaaDoorPFnTakenBackx0
import Derived.Test.YtkfmjkiefckgoaaDoorHEdFnTakenBack
import Derived.Test.YtkfmjkiefckgoaaDoorPFnTakenBackx1
import Derived.Test.YtkfmjkiefckgoaaDoorPFnTakenBackx2
namespace Go.Proofs.YtkfmjkiefckgoaaDoor.PFnTakenBack
open Go.RowKit Go.Proofs.YtkfmjkiefckgoaaDoor.H Go.Proofs.YtkfmjkiefckgoaaDoor.R Go.Proofs.YtkfmjkiefckgoaaDoorW.PrintWords Go.Proofs.YtkfmjkiefckgoaaDoorW.PrintLast Go.Proofs.YtkfmjkiefckgoaaDoorW.PrintMore
attribute [local go_sem] max2_int min2_int max_two min_two max_three min_three max_four min_four   -- for this text's walks alone
set_option linter.unusedVariables false
set_option linter.unusedSimpArgs false
attribute [local go_sem high] eqA26
/-! ### laws_FnTakenBack: function 4 -/
def laws_FnTakenBack.j0 : Nat → Int → Bool → ByteArray → Int → Option (Bool)
 | 0, _, _, _, _ => none
 | k + 1, x1, x30, x113000, x113001 => if x30 = true then (some true) else ((impl_EditedFrom.f x113000 x113001 (([(⟨7, x1, (⟨#[]⟩ : ByteArray), false⟩ : S30)] : List (S30)))).bind fun bt118 => (if bt118.2.2.2 = true then ((spec_After.f x113000 x113001).bind fun t125 => ((impl_EditedFrom.f x113000 x113001 (([(⟨8, mn x1 (t125.size : Int), (⟨#[]⟩ : ByteArray), false⟩ : S30)] : List (S30)))).bind fun bt129 => (if bt129.2.2.2 = true then (if (bt118.2.2.1.length : Int) = 1 then (if (bt129.2.2.1.length : Int) = 1 then (if 0 < (bt118.2.2.1.length : Int) then ((impl_EditedFrom.f bt118.1 bt118.2.1 (([(⟨1, 0, rdOf ByteArray.empty bt118.2.2.1 0, false⟩ : S30)] : List (S30)))).bind fun bt140 => (if bt140.2.2.2 = true then (if 0 < (bt129.2.2.1.length : Int) then ((impl_EditedFrom.f bt129.1 bt129.2.1 (([(⟨2, 0, rdOf ByteArray.empty bt129.2.2.1 0, false⟩ : S30)] : List (S30)))).bind fun bt151 => (if bt151.2.2.2 = true then (if (bt140.1.toList == x113000.toList && (bt140.2.1 == x113001)) = true then (some (bt151.1.toList == x113000.toList && (bt151.2.1 == x113001))) else (some false)) else (none))) else (none)) else (none))) else (none)) else (none)) else (none)) else (none)))) else (none)))
def laws_FnTakenBack.f (k : Nat) (a0_0 : ByteArray) (a0_1 : Int) (a1 : Int) : Option (Bool) := (laws_zzFits2.f a0_0 a0_1).bind fun t113 => (if t113 = true then ((spec_DocRight.f k a0_0 a0_1).bind fun t114 => (if t114 = true then (if a1 < 0 then (laws_FnTakenBack.j0 k a1 true a0_0 a0_1) else (laws_FnTakenBack.j0 k a1 (decide (a1 > 2000)) a0_0 a0_1)) else (laws_FnTakenBack.j0 k a1 true a0_0 a0_1))) else (some true))
theorem laws_FnTakenBack.mono_l : ∀ k, (∀ y0 y1 y2 y3, LeO (laws_FnTakenBack.j0 k y0 y1 y2 y3) (laws_FnTakenBack.j0 (k + 1) y0 y1 y2 y3))
 | 0 => fun _ _ _ _ r h => by simp [laws_FnTakenBack.j0] at h
 | k + 1 => by
  have ih0 := laws_FnTakenBack.mono_l k
  ·intro y0 y1 y2 y3
   unfold laws_FnTakenBack.j0
   repeat' first
   | (with_reducible exact ih0 _ _ _ _)
   | (with_reducible exact spec_DocRight.mono _ _ _)
   | (with_reducible exact LeO.refl _)
   | (with_reducible exact LeO.none _)
   | (with_reducible refine LeO.ite ?_ ?_)
   | (with_reducible refine LeO.bind ?_ (fun _ => ?_))
   | exact ih0 _ _ _ _
   | exact spec_DocRight.mono _ _ _
   | exact LeO.none _
   | refine LeO.ite ?_ ?_
   | refine LeO.bind ?_ (fun _ => ?_)
theorem laws_FnTakenBack.mono : ∀ a0 a1 a2 k, LeO (laws_FnTakenBack.f k a0 a1 a2) (laws_FnTakenBack.f (k + 1) a0 a1 a2) := by
 intro a0 a1 a2 k
 have ih0 := laws_FnTakenBack.mono_l k
 unfold laws_FnTakenBack.f
 repeat' first
   | (with_reducible exact ih0 _ _ _ _)
   | (with_reducible exact spec_DocRight.mono _ _ _)
   | (with_reducible exact LeO.refl _)
   | (with_reducible exact LeO.none _)
   | (with_reducible refine LeO.ite ?_ ?_)
   | (with_reducible refine LeO.bind ?_ (fun _ => ?_))
   | exact ih0 _ _ _ _
   | exact spec_DocRight.mono _ _ _
   | exact LeO.none _
   | refine LeO.ite ?_ ?_
   | refine LeO.bind ?_ (fun _ => ?_)
def laws_FnTakenBack.T6 : Bool × List (List Nat × List Nat) := (true, [([], []), ([], []), ([], []), ([2], [2]), ([3], [3]), ([1, 4], [1, 4]), ([5], [5]), ([6], [6]), ([0, 7, 3], [0, 7]), ([8], [8]), ([9], [9]), ([9], [9]), ([9], [9]), ([], []), ([13, 10, 8, 0, 1, 2, 3, 4, 5, 6, 7, 8, 9, 10, 13], [10, 13]), ([11, 14, 0, 1, 2, 3, 4, 5, 6, 7, 8, 9, 10, 11, 13, 14], [11]), ([12, 15, 0, 1, 2, 3, 4, 5, 6, 7, 8, 9, 10, 11, 12, 13, 14, 15], [12])])
def laws_FnTakenBack.B6 : List Nat := [0, 0, 0, 4, 12, 30, 62, 126, 255, 511, 1023, 1023, 1023, 0, 10239, 28671, 65535]
theorem laws_FnTakenBack.tab6 : rtab .any (opsOf Tryd.f4 6) = laws_FnTakenBack.T6 := by kernel_rfl
theorem laws_FnTakenBack.bits6 : waitsOk laws_FnTakenBack.T6.2 laws_FnTakenBack.B6 = true := by kernel_rfl
def laws_FnTakenBack.T9 : Bool × List (List Nat × List Nat) := (true, [([], []), ([], []), ([1], [1]), ([2], [2]), ([3], [3]), ([4], [4]), ([0, 5], [0, 5]), ([6], [6]), ([7], [7]), ([7], [7]), ([7], [7]), ([], []), ([11, 8, 6, 0, 1, 2, 3, 4, 5, 6, 7, 8, 11], [8, 11]), ([9, 12, 0, 1, 2, 3, 4, 5, 6, 7, 8, 9, 11, 12], [9]), ([10, 13, 0, 1, 2, 3, 4, 5, 6, 7, 8, 9, 10, 11, 12, 13], [10])])
def laws_FnTakenBack.B9 : List Nat := [0, 0, 2, 6, 14, 30, 63, 127, 255, 255, 255, 0, 2559, 7167, 16383]
theorem laws_FnTakenBack.tab9 : rtab .any (opsOf Tryd.f4 9) = laws_FnTakenBack.T9 := by kernel_rfl
theorem laws_FnTakenBack.bits9 : waitsOk laws_FnTakenBack.T9.2 laws_FnTakenBack.B9 = true := by kernel_rfl
def laws_FnTakenBack.T10 : Bool × List (List Nat × List Nat) := (true, [([], []), ([], []), ([1], [1]), ([2], [2]), ([3], [3]), ([4], [4]), ([0, 5], [0, 5]), ([6], [6]), ([7], [7]), ([7], [7]), ([7], [7]), ([], []), ([11, 8, 6, 0, 1, 2, 3, 4, 5, 6, 7, 8, 11], [8, 11]), ([9, 12, 0, 1, 2, 3, 4, 5, 6, 7, 8, 9, 11, 12], [9]), ([10, 13, 0, 1, 2, 3, 4, 5, 6, 7, 8, 9, 10, 11, 12, 13], [10])])
def laws_FnTakenBack.B10 : List Nat := [0, 0, 2, 6, 14, 30, 63, 127, 255, 255, 255, 0, 2559, 7167, 16383]
theorem laws_FnTakenBack.tab10 : rtab .any (opsOf Tryd.f4 10) = laws_FnTakenBack.T10 := by kernel_rfl
theorem laws_FnTakenBack.bits10 : waitsOk laws_FnTakenBack.T10.2 laws_FnTakenBack.B10 = true := by kernel_rfl
set_option maxHeartbeats 8000000 in
set_option maxRecDepth 100000 in
theorem laws_FnTakenBack.calls (k : Nat) (a0_0 : ByteArray) (a0_1 : Int) (a1 : Int) (r : Bool) (hr_ : r = true) (w : World) (h : laws_FnTakenBack.f k a0_0 a0_1 a1 = some r) :
  Calls Tryd.prog 4 #[.agg #[.string a0_0, .int .i64 a0_1], .int .i64 a1] w fun e w' => e = .returned (.bool r) ∧ Below w.heap.size w w' := by
 have hu26 := Tryd.underlying26
 have hu30 := Tryd.underlying30
 have HB := Aside0.mk (Below.refl w.heap.size w)
 have H : ((laws_zzFits2.f a0_0 a0_1).bind fun t113 => (if t113 = true then ((spec_DocRight.f k a0_0 a0_1).bind fun t114 => (if t114 = true then (if a1 < 0 then (laws_FnTakenBack.j0 k a1 true a0_0 a0_1) else (laws_FnTakenBack.j0 k a1 (decide (a1 > 2000)) a0_0 a0_1)) else (laws_FnTakenBack.j0 k a1 true a0_0 a0_1))) else (some true))) = some r := h
 clear h
 replace H := Option.bind_eq_some_iff.mp H
 obtain ⟨t113, A30, H⟩ := H
 replace H : (if t113 = true then ((spec_DocRight.f k a0_0 a0_1).bind fun t114 => (if t114 = true then (if a1 < 0 then (laws_FnTakenBack.j0 k a1 true a0_0 a0_1) else (laws_FnTakenBack.j0 k a1 (decide (a1 > 2000)) a0_0 a0_1)) else (laws_FnTakenBack.j0 k a1 true a0_0 a0_1))) else (some true)) = some r := H
 have A3 := Aside0.mk A30
 clear A30
 by_cases c4 : t113 = true
 ·subst c4
  have H1 : ((spec_DocRight.f k a0_0 a0_1).bind fun t114 => (if t114 = true then (if a1 < 0 then (laws_FnTakenBack.j0 k a1 true a0_0 a0_1) else (laws_FnTakenBack.j0 k a1 (decide (a1 > 2000)) a0_0 a0_1)) else (laws_FnTakenBack.j0 k a1 true a0_0 a0_1))) = some r := by rw [if_pos rfl] at H; exact H
  clear H; have H := H1; clear H1
  have HC5 := Aside0.mk H
  clear H
  go_enter Tryd.func4, Tryd.ntmps4
  go_upto_region 3 with (first | ((with_reducible refine gate_dst (N := 2) rfl ?_); (try (refine gate_guard (by rfl) ?_; dsimp only)); refine box_event ?hg (N := 2) ?hd (cs := #[.string a0_0, .int .i64 a0_1]) (t := 26) ?hr ?_; (case hd => rfl); (case hg => rfl); (case hr => first | (go_simp; done) | (go_simp; rfl)); intro gb112 hg w6 hbox hb; have n0_ := Aside0.mk (below_step (by repeat (first | (with_reducible first | exact HB.out | apply below_alloc | apply pw_below_drewN | apply below_drew1) | exact HB.out)) hb); have n1_ := Aside0.mk (hbox); have n2_ := Aside0.mk ((by rw [hg]; exact (below_size (by repeat (first | (with_reducible first | exact HB.out | apply below_alloc | apply pw_below_drewN | apply below_drew1) | exact HB.out))) : w.heap.size ≤ gb112)); have n3_ := Aside0.mk ((by rw [hg]; exact (below_size (by repeat (first | (with_reducible first | exact HB.out | apply below_alloc | apply pw_below_drewN | apply below_drew1) | exact HB.out))) : w.heap.size ≤ gb112)); clear HB; have HB := n0_; have BK112 := n1_; have GW112 := n2_; have GE112 := n3_; clear n0_ n1_ n2_ n3_; clear hb hbox hg; have hcz7_0 : w6.cell? ⟨gb112, 0, none⟩ = some (.string a0_0) := (blk_cell BK112.out 0).trans rfl; have hcz7_1 : w6.cell? ⟨gb112, 1, none⟩ = some (.int .i64 a0_1) := (blk_cell BK112.out 1).trans rfl; have hfz7_0 := blk_frozen BK112.out 0; have hfz7_1 := blk_frozen BK112.out 1) | ((with_reducible refine gate_callee (f := 9) rfl ?_); refine goesL_ (some 18) rfl rfl Tryd.func9 (by kernel_rfl) rfl #[.agg #[.string a0_0, .int .i64 a0_1]] rfl (by (try simp only [List.map_toArray, List.map_cons, List.map_nil]); first | done | rfl | (simp only [List.length_drop, List.length_take]; rfl) | (simp only [Int.toNat_natCast, ByteArray.extract_zero_size]; rfl)) ?_; (with_reducible refine (laws_zzFits2.calls a0_0 a0_1 true _ A3.out).mono ?_); rintro e w8 ⟨rfl, hb⟩; refine ⟨_, rfl, ?_⟩; have n0_ := Aside0.mk (blk_below (g := gb112) (o := .cells #[.string a0_0, .int .i64 a0_1] 26 (0, 0)) (by (with_reducible repeat (first | refine blk_drewN ?_ _ | refine blk_drew ?_ | refine blk_alloc ?_ _)); exact BK112.out) hb); have n1_ := Aside0.mk (below_step (by repeat (first | (with_reducible first | exact HB.out | apply below_alloc | apply pw_below_drewN | apply below_drew1 | refine below_set ?_ GE112.out) | exact HB.out)) hb); clear BK112; clear HB; have BK112 := n0_; have HB := n1_; clear n0_ n1_; (try clear hb); (try clear hb2); (try clear hk); (try clear hi)))
  (try simp only [Act.put, List.setIfInBounds_toArray, List.set_cons_zero, List.set_cons_succ])
  go_cut [30] (fun v30 wc => ∃ (kq : Nat) (x30_4 : Bool), v30 = .bool x30_4 ∧ Aside0 (laws_FnTakenBack.j0 kq a1 x30_4 a0_0 a0_1 = some r) ∧ Aside0 (kq ≤ k) ∧ Aside0 (wc.heap[gb112]? = some (.cells #[.string a0_0, .int .i64 a0_1] 26 (0, 0))) ∧ Aside0 (Below w.heap.size w wc))
  case first =>
   have H := HC5.out
   clear HC5
   replace H := Option.bind_eq_some_iff.mp H
   obtain ⟨t114, A90, H⟩ := H
   replace H : (if t114 = true then (if a1 < 0 then (laws_FnTakenBack.j0 k a1 true a0_0 a0_1) else (laws_FnTakenBack.j0 k a1 (decide (a1 > 2000)) a0_0 a0_1)) else (laws_FnTakenBack.j0 k a1 true a0_0 a0_1)) = some r := H
   have A9 := Aside0.mk A90
   clear A90
   by_cases c10 : t114 = true
   ·subst c10
    have H1 : (if a1 < 0 then (laws_FnTakenBack.j0 k a1 true a0_0 a0_1) else (laws_FnTakenBack.j0 k a1 (decide (a1 > 2000)) a0_0 a0_1)) = some r := by rw [if_pos rfl] at H; exact H
    clear H; have H := H1; clear H1
    by_cases c11 : a1 < 0
    ·rw [if_pos c11] at H
     have c11b0 : decide (a1 < 0) = true := decide_eq_true c11
     clear c11
     (first | rw [c11b0] | (simp only [i64_w, i32_w]; rw [c11b0]) | skip)
     have H' := Aside0.mk H
     clear H
     have hcz12_0 : w8.cell? ⟨gb112, 0, none⟩ = some (.string a0_0) := (blk_cell BK112.out 0).trans rfl
     have hcz12_1 : w8.cell? ⟨gb112, 1, none⟩ = some (.int .i64 a0_1) := (blk_cell BK112.out 1).trans rfl
     have hfz12_0 := blk_frozen BK112.out 0
     have hfz12_1 := blk_frozen BK112.out 1
     go_wp2_with (first | ((with_reducible refine gate_callee (f := 10) rfl ?_); refine goesL_ (some 21) rfl rfl Tryd.func10 (by kernel_rfl) rfl #[.agg #[.string a0_0, .int .i64 a0_1]] rfl (by (try simp only [List.map_toArray, List.map_cons, List.map_nil]); first | done | rfl | (simp only [List.length_drop, List.length_take]; rfl) | (simp only [Int.toNat_natCast, ByteArray.extract_zero_size]; rfl)) ?_; (with_reducible refine (spec_DocRight.calls k a0_0 a0_1 true _ A9.out).mono ?_); rintro e w13 ⟨rfl, hb⟩; refine ⟨_, rfl, ?_⟩; have n0_ := Aside0.mk (blk_below (g := gb112) (o := .cells #[.string a0_0, .int .i64 a0_1] 26 (0, 0)) (by (with_reducible repeat (first | refine blk_drewN ?_ _ | refine blk_drew ?_ | refine blk_alloc ?_ _)); exact BK112.out) hb); have n1_ := Aside0.mk (below_step (by repeat (first | (with_reducible first | exact HB.out | apply below_alloc | apply pw_below_drewN | apply below_drew1 | refine below_set ?_ GE112.out) | exact HB.out)) hb); clear BK112; clear HB; have BK112 := n0_; have HB := n1_; clear n0_ n1_; (try clear hb); (try clear hb2); (try clear hk); (try clear hi)))
     go_meet
     case rel => exact ⟨_, (true), (by first | rfl | (simp; done) | (simp [*]; done)), H', ⟨by first | omega | exact Nat.le_refl _⟩, ⟨by (with_reducible repeat (first | refine blk_drewN ?_ _ | refine blk_drew ?_ | refine blk_alloc ?_ _)); exact BK112.out⟩, ⟨by repeat (first | (with_reducible first | exact HB.out | apply below_alloc | apply pw_below_drewN | apply below_drew1 | refine below_set ?_ GE112.out) | exact HB.out)⟩⟩
    ·rw [if_neg c11] at H
     have c11b0 : decide (a1 < 0) = false := decide_eq_false c11
     clear c11
     (first | rw [c11b0] | (simp only [i64_w, i32_w]; rw [c11b0]) | skip)
     have H' := Aside0.mk H
     clear H
     have hcz14_0 : w8.cell? ⟨gb112, 0, none⟩ = some (.string a0_0) := (blk_cell BK112.out 0).trans rfl
     have hcz14_1 : w8.cell? ⟨gb112, 1, none⟩ = some (.int .i64 a0_1) := (blk_cell BK112.out 1).trans rfl
     have hfz14_0 := blk_frozen BK112.out 0
     have hfz14_1 := blk_frozen BK112.out 1
     go_wp2_with (first | ((with_reducible refine gate_callee (f := 10) rfl ?_); refine goesL_ (some 21) rfl rfl Tryd.func10 (by kernel_rfl) rfl #[.agg #[.string a0_0, .int .i64 a0_1]] rfl (by (try simp only [List.map_toArray, List.map_cons, List.map_nil]); first | done | rfl | (simp only [List.length_drop, List.length_take]; rfl) | (simp only [Int.toNat_natCast, ByteArray.extract_zero_size]; rfl)) ?_; (with_reducible refine (spec_DocRight.calls k a0_0 a0_1 true _ A9.out).mono ?_); rintro e w15 ⟨rfl, hb⟩; refine ⟨_, rfl, ?_⟩; have n0_ := Aside0.mk (blk_below (g := gb112) (o := .cells #[.string a0_0, .int .i64 a0_1] 26 (0, 0)) (by (with_reducible repeat (first | refine blk_drewN ?_ _ | refine blk_drew ?_ | refine blk_alloc ?_ _)); exact BK112.out) hb); have n1_ := Aside0.mk (below_step (by repeat (first | (with_reducible first | exact HB.out | apply below_alloc | apply pw_below_drewN | apply below_drew1 | refine below_set ?_ GE112.out) | exact HB.out)) hb); clear BK112; clear HB; have BK112 := n0_; have HB := n1_; clear n0_ n1_; (try clear hb); (try clear hb2); (try clear hk); (try clear hi)))
     go_meet
     case rel => exact ⟨_, (decide (a1 > 2000)), (by first | rfl | (simp; done) | (simp [*]; done)), H', ⟨by first | omega | exact Nat.le_refl _⟩, ⟨by (with_reducible repeat (first | refine blk_drewN ?_ _ | refine blk_drew ?_ | refine blk_alloc ?_ _)); exact BK112.out⟩, ⟨by repeat (first | (with_reducible first | exact HB.out | apply below_alloc | apply pw_below_drewN | apply below_drew1 | refine below_set ?_ GE112.out) | exact HB.out)⟩⟩
   ·replace c10 := Bool.eq_false_iff.mpr c10
    subst c10
    have H1 : (laws_FnTakenBack.j0 k a1 true a0_0 a0_1) = some r := by rw [if_neg (show ¬ (false = true) by decide)] at H; exact H
    clear H; have H := H1; clear H1
    have H' := Aside0.mk H
    clear H
    have hcz16_0 : w8.cell? ⟨gb112, 0, none⟩ = some (.string a0_0) := (blk_cell BK112.out 0).trans rfl
    have hcz16_1 : w8.cell? ⟨gb112, 1, none⟩ = some (.int .i64 a0_1) := (blk_cell BK112.out 1).trans rfl
    have hfz16_0 := blk_frozen BK112.out 0
    have hfz16_1 := blk_frozen BK112.out 1
    go_wp2_with (first | ((with_reducible refine gate_callee (f := 10) rfl ?_); refine goesL_ (some 21) rfl rfl Tryd.func10 (by kernel_rfl) rfl #[.agg #[.string a0_0, .int .i64 a0_1]] rfl (by (try simp only [List.map_toArray, List.map_cons, List.map_nil]); first | done | rfl | (simp only [List.length_drop, List.length_take]; rfl) | (simp only [Int.toNat_natCast, ByteArray.extract_zero_size]; rfl)) ?_; (with_reducible refine (spec_DocRight.calls k a0_0 a0_1 false _ A9.out).mono ?_); rintro e w17 ⟨rfl, hb⟩; refine ⟨_, rfl, ?_⟩; have n0_ := Aside0.mk (blk_below (g := gb112) (o := .cells #[.string a0_0, .int .i64 a0_1] 26 (0, 0)) (by (with_reducible repeat (first | refine blk_drewN ?_ _ | refine blk_drew ?_ | refine blk_alloc ?_ _)); exact BK112.out) hb); have n1_ := Aside0.mk (below_step (by repeat (first | (with_reducible first | exact HB.out | apply below_alloc | apply pw_below_drewN | apply below_drew1 | refine below_set ?_ GE112.out) | exact HB.out)) hb); clear BK112; clear HB; have BK112 := n0_; have HB := n1_; clear n0_ n1_; (try clear hb); (try clear hb2); (try clear hk); (try clear hi)))
    go_meet
    case rel => exact ⟨_, (true), (by first | rfl | (simp; done) | (simp [*]; done)), H', ⟨by first | omega | exact Nat.le_refl _⟩, ⟨by (with_reducible repeat (first | refine blk_drewN ?_ _ | refine blk_drew ?_ | refine blk_alloc ?_ _)); exact BK112.out⟩, ⟨by repeat (first | (with_reducible first | exact HB.out | apply below_alloc | apply pw_below_drewN | apply below_drew1 | refine below_set ?_ GE112.out) | exact HB.out)⟩⟩
  case rest =>
   clear HC5
   try clear c1
   try clear p2
   try clear c4
   try clear c9
   try clear c10
   try clear c11
   try clear c11b0
   try clear hcz12_0
   try clear hcz12_1
   try clear hcz14_0
   try clear hcz14_1
   try clear hcz16_0
   try clear hcz16_1
   try clear hcz7_0
   try clear hcz7_1
   try clear hfz12_0
   try clear hfz12_1
   try clear hfz14_0
   try clear hfz14_1
   try clear hfz16_0
   try clear hfz16_1
   try clear hfz7_0
   try clear hfz7_1
   obtain ⟨kq, x30_4, rfl, HA, HJ4, BK112, HB⟩ := hcut
   cases kq with
   | zero => exact absurd HA.out (by simp [laws_FnTakenBack.j0])
   | succ kj4 =>
    have H := HA.out
    clear HA
    simp only [laws_FnTakenBack.j0] at H
    by_cases c18 : x30_4 = true
    ·subst c18
     have H1 : (some true) = some r := by rw [if_pos rfl] at H; exact H
     clear H; have H := H1; clear H1
     obtain rfl := Option.some.inj H
     go_wp2
     go_ret
     exact ⟨by first | rfl | (simp [errW_none, errW_some] <;> rfl) | (simp [*, errW_none, errW_some] <;> rfl), by repeat (first | (with_reducible first | exact HB.out | apply below_alloc | apply pw_below_drewN | apply below_drew1 | refine below_set ?_ GE112.out) | exact HB.out)⟩
    ·replace c18 := Bool.eq_false_iff.mpr c18
     subst c18
     have H1 : ((impl_EditedFrom.f a0_0 a0_1 (([(⟨7, a1, (⟨#[]⟩ : ByteArray), false⟩ : S30)] : List (S30)))).bind fun bt118 => (if bt118.2.2.2 = true then ((spec_After.f a0_0 a0_1).bind fun t125 => ((impl_EditedFrom.f a0_0 a0_1 (([(⟨8, mn a1 (t125.size : Int), (⟨#[]⟩ : ByteArray), false⟩ : S30)] : List (S30)))).bind fun bt129 => (if bt129.2.2.2 = true then (if (bt118.2.2.1.length : Int) = 1 then (if (bt129.2.2.1.length : Int) = 1 then (if 0 < (bt118.2.2.1.length : Int) then ((impl_EditedFrom.f bt118.1 bt118.2.1 (([(⟨1, 0, rdOf ByteArray.empty bt118.2.2.1 0, false⟩ : S30)] : List (S30)))).bind fun bt140 => (if bt140.2.2.2 = true then (if 0 < (bt129.2.2.1.length : Int) then ((impl_EditedFrom.f bt129.1 bt129.2.1 (([(⟨2, 0, rdOf ByteArray.empty bt129.2.2.1 0, false⟩ : S30)] : List (S30)))).bind fun bt151 => (if bt151.2.2.2 = true then (if (bt140.1.toList == a0_0.toList && (bt140.2.1 == a0_1)) = true then (some (bt151.1.toList == a0_0.toList && (bt151.2.1 == a0_1))) else (some false)) else (none))) else (none)) else (none))) else (none)) else (none)) else (none)) else (none)))) else (none))) = some r := by rw [if_neg (show ¬ (false = true) by decide)] at H; exact H
     clear H; have H := H1; clear H1
     obtain ⟨y115, hy115⟩ : ∃ y_ : List (S30), y_ = (([(⟨7, a1, (⟨#[]⟩ : ByteArray), false⟩ : S30)] : List (S30))) := ⟨_, rfl⟩
     replace H : ((impl_EditedFrom.f a0_0 a0_1 y115).bind fun bt118 => (if bt118.2.2.2 = true then ((spec_After.f a0_0 a0_1).bind fun t125 => ((impl_EditedFrom.f a0_0 a0_1 (([(⟨8, mn a1 (t125.size : Int), (⟨#[]⟩ : ByteArray), false⟩ : S30)] : List (S30)))).bind fun bt129 => (if bt129.2.2.2 = true then (if (bt118.2.2.1.length : Int) = 1 then (if (bt129.2.2.1.length : Int) = 1 then (if 0 < (bt118.2.2.1.length : Int) then ((impl_EditedFrom.f bt118.1 bt118.2.1 (([(⟨1, 0, rdOf ByteArray.empty bt118.2.2.1 0, false⟩ : S30)] : List (S30)))).bind fun bt140 => (if bt140.2.2.2 = true then (if 0 < (bt129.2.2.1.length : Int) then ((impl_EditedFrom.f bt129.1 bt129.2.1 (([(⟨2, 0, rdOf ByteArray.empty bt129.2.2.1 0, false⟩ : S30)] : List (S30)))).bind fun bt151 => (if bt151.2.2.2 = true then (if (bt140.1.toList == a0_0.toList && (bt140.2.1 == a0_1)) = true then (some (bt151.1.toList == a0_0.toList && (bt151.2.1 == a0_1))) else (some false)) else (none))) else (none)) else (none))) else (none)) else (none)) else (none)) else (none)))) else (none))) = some r := by first | (rw [hy115]; with_reducible exact H) | (have H2_ := (Option.bind_some _ _).symm.trans H; rw [hy115]; with_reducible exact H2_) | (have H2_ := (Option.bind_some _ _).symm.trans H; with_reducible exact H2_) | with_reducible exact H | (rw [hy115]; exact H) | exact H
     have Ny115 := Aside0.mk hy115
     clear hy115
     replace H := Option.bind_eq_some_iff.mp H
     obtain ⟨⟨t118, t119, t120, t123⟩, A190, H⟩ := H
     replace H : (if t123 = true then ((spec_After.f a0_0 a0_1).bind fun t125 => ((impl_EditedFrom.f a0_0 a0_1 (([(⟨8, mn a1 (t125.size : Int), (⟨#[]⟩ : ByteArray), false⟩ : S30)] : List (S30)))).bind fun bt129 => (if bt129.2.2.2 = true then (if (t120.length : Int) = 1 then (if (bt129.2.2.1.length : Int) = 1 then (if 0 < (t120.length : Int) then ((impl_EditedFrom.f t118 t119 (([(⟨1, 0, rdOf ByteArray.empty t120 0, false⟩ : S30)] : List (S30)))).bind fun bt140 => (if bt140.2.2.2 = true then (if 0 < (bt129.2.2.1.length : Int) then ((impl_EditedFrom.f bt129.1 bt129.2.1 (([(⟨2, 0, rdOf ByteArray.empty bt129.2.2.1 0, false⟩ : S30)] : List (S30)))).bind fun bt151 => (if bt151.2.2.2 = true then (if (bt140.1.toList == a0_0.toList && (bt140.2.1 == a0_1)) = true then (some (bt151.1.toList == a0_0.toList && (bt151.2.1 == a0_1))) else (some false)) else (none))) else (none)) else (none))) else (none)) else (none)) else (none)) else (none)))) else (none)) = some r := H
     have A19 := Aside0.mk A190
     clear A190
     by_cases c20 : t123 = true
     ·subst c20
      have H1 : ((spec_After.f a0_0 a0_1).bind fun t125 => ((impl_EditedFrom.f a0_0 a0_1 (([(⟨8, mn a1 (t125.size : Int), (⟨#[]⟩ : ByteArray), false⟩ : S30)] : List (S30)))).bind fun bt129 => (if bt129.2.2.2 = true then (if (t120.length : Int) = 1 then (if (bt129.2.2.1.length : Int) = 1 then (if 0 < (t120.length : Int) then ((impl_EditedFrom.f t118 t119 (([(⟨1, 0, rdOf ByteArray.empty t120 0, false⟩ : S30)] : List (S30)))).bind fun bt140 => (if bt140.2.2.2 = true then (if 0 < (bt129.2.2.1.length : Int) then ((impl_EditedFrom.f bt129.1 bt129.2.1 (([(⟨2, 0, rdOf ByteArray.empty bt129.2.2.1 0, false⟩ : S30)] : List (S30)))).bind fun bt151 => (if bt151.2.2.2 = true then (if (bt140.1.toList == a0_0.toList && (bt140.2.1 == a0_1)) = true then (some (bt151.1.toList == a0_0.toList && (bt151.2.1 == a0_1))) else (some false)) else (none))) else (none)) else (none))) else (none)) else (none)) else (none)) else (none)))) = some r := by rw [if_pos rfl] at H; exact H
      clear H; have H := H1; clear H1
      replace H := Option.bind_eq_some_iff.mp H
      obtain ⟨t125, A210, H⟩ := H
      replace H : ((impl_EditedFrom.f a0_0 a0_1 (([(⟨8, mn a1 (t125.size : Int), (⟨#[]⟩ : ByteArray), false⟩ : S30)] : List (S30)))).bind fun bt129 => (if bt129.2.2.2 = true then (if (t120.length : Int) = 1 then (if (bt129.2.2.1.length : Int) = 1 then (if 0 < (t120.length : Int) then ((impl_EditedFrom.f t118 t119 (([(⟨1, 0, rdOf ByteArray.empty t120 0, false⟩ : S30)] : List (S30)))).bind fun bt140 => (if bt140.2.2.2 = true then (if 0 < (bt129.2.2.1.length : Int) then ((impl_EditedFrom.f bt129.1 bt129.2.1 (([(⟨2, 0, rdOf ByteArray.empty bt129.2.2.1 0, false⟩ : S30)] : List (S30)))).bind fun bt151 => (if bt151.2.2.2 = true then (if (bt140.1.toList == a0_0.toList && (bt140.2.1 == a0_1)) = true then (some (bt151.1.toList == a0_0.toList && (bt151.2.1 == a0_1))) else (some false)) else (none))) else (none)) else (none))) else (none)) else (none)) else (none)) else (none))) = some r := H
      have A21 := Aside0.mk A210
      clear A210
      obtain ⟨ji22, hji22⟩ : ∃ j_ : Int, (mn a1 (t125.size : Int)) = j_ := ⟨_, rfl⟩
      replace H : ((impl_EditedFrom.f a0_0 a0_1 (([(⟨8, ji22, (⟨#[]⟩ : ByteArray), false⟩ : S30)] : List (S30)))).bind fun bt129 => (if bt129.2.2.2 = true then (if (t120.length : Int) = 1 then (if (bt129.2.2.1.length : Int) = 1 then (if 0 < (t120.length : Int) then ((impl_EditedFrom.f t118 t119 (([(⟨1, 0, rdOf ByteArray.empty t120 0, false⟩ : S30)] : List (S30)))).bind fun bt140 => (if bt140.2.2.2 = true then (if 0 < (bt129.2.2.1.length : Int) then ((impl_EditedFrom.f bt129.1 bt129.2.1 (([(⟨2, 0, rdOf ByteArray.empty bt129.2.2.1 0, false⟩ : S30)] : List (S30)))).bind fun bt151 => (if bt151.2.2.2 = true then (if (bt140.1.toList == a0_0.toList && (bt140.2.1 == a0_1)) = true then (some (bt151.1.toList == a0_0.toList && (bt151.2.1 == a0_1))) else (some false)) else (none))) else (none)) else (none))) else (none)) else (none)) else (none)) else (none))) = some r := by first | (rw [hji22] at H; exact H) | (simp only [hji22] at H ⊢; exact H)
      (try rw [hji22] at A19)
      (try rw [hji22] at A21)
      have hji22_ : (if (t125.size : Int) < a1 then (t125.size : Int) else a1) = ji22 := hji22
      obtain ⟨y126, hy126⟩ : ∃ y_ : List (S30), y_ = (([(⟨8, ji22, (⟨#[]⟩ : ByteArray), false⟩ : S30)] : List (S30))) := ⟨_, rfl⟩
      replace H : ((impl_EditedFrom.f a0_0 a0_1 y126).bind fun bt129 => (if bt129.2.2.2 = true then (if (t120.length : Int) = 1 then (if (bt129.2.2.1.length : Int) = 1 then (if 0 < (t120.length : Int) then ((impl_EditedFrom.f t118 t119 (([(⟨1, 0, rdOf ByteArray.empty t120 0, false⟩ : S30)] : List (S30)))).bind fun bt140 => (if bt140.2.2.2 = true then (if 0 < (bt129.2.2.1.length : Int) then ((impl_EditedFrom.f bt129.1 bt129.2.1 (([(⟨2, 0, rdOf ByteArray.empty bt129.2.2.1 0, false⟩ : S30)] : List (S30)))).bind fun bt151 => (if bt151.2.2.2 = true then (if (bt140.1.toList == a0_0.toList && (bt140.2.1 == a0_1)) = true then (some (bt151.1.toList == a0_0.toList && (bt151.2.1 == a0_1))) else (some false)) else (none))) else (none)) else (none))) else (none)) else (none)) else (none)) else (none))) = some r := by first | (rw [hy126]; with_reducible exact H) | (have H2_ := (Option.bind_some _ _).symm.trans H; rw [hy126]; with_reducible exact H2_) | (have H2_ := (Option.bind_some _ _).symm.trans H; with_reducible exact H2_) | with_reducible exact H | (rw [hy126]; exact H) | exact H
      have Ny126 := Aside0.mk hy126
      clear hy126
      replace H := Option.bind_eq_some_iff.mp H
      obtain ⟨⟨t129, t130, t131, t134⟩, A230, H⟩ := H
      replace H : (if t134 = true then (if (t120.length : Int) = 1 then (if (t131.length : Int) = 1 then (if 0 < (t120.length : Int) then ((impl_EditedFrom.f t118 t119 (([(⟨1, 0, rdOf ByteArray.empty t120 0, false⟩ : S30)] : List (S30)))).bind fun bt140 => (if bt140.2.2.2 = true then (if 0 < (t131.length : Int) then ((impl_EditedFrom.f t129 t130 (([(⟨2, 0, rdOf ByteArray.empty t131 0, false⟩ : S30)] : List (S30)))).bind fun bt151 => (if bt151.2.2.2 = true then (if (bt140.1.toList == a0_0.toList && (bt140.2.1 == a0_1)) = true then (some (bt151.1.toList == a0_0.toList && (bt151.2.1 == a0_1))) else (some false)) else (none))) else (none)) else (none))) else (none)) else (none)) else (none)) else (none)) = some r := H
      have A23 := Aside0.mk A230
      clear A230
      by_cases c24 : t134 = true
      ·subst c24
       have H1 : (if (t120.length : Int) = 1 then (if (t131.length : Int) = 1 then (if 0 < (t120.length : Int) then ((impl_EditedFrom.f t118 t119 (([(⟨1, 0, rdOf ByteArray.empty t120 0, false⟩ : S30)] : List (S30)))).bind fun bt140 => (if bt140.2.2.2 = true then (if 0 < (t131.length : Int) then ((impl_EditedFrom.f t129 t130 (([(⟨2, 0, rdOf ByteArray.empty t131 0, false⟩ : S30)] : List (S30)))).bind fun bt151 => (if bt151.2.2.2 = true then (if (bt140.1.toList == a0_0.toList && (bt140.2.1 == a0_1)) = true then (some (bt151.1.toList == a0_0.toList && (bt151.2.1 == a0_1))) else (some false)) else (none))) else (none)) else (none))) else (none)) else (none)) else (none)) = some r := by rw [if_pos rfl] at H; exact H
       clear H; have H := H1; clear H1
       by_cases c25 : (t120.length : Int) = 1
       ·rw [if_pos c25] at H
        have c25b0 : ((t120.length : Int) == 1) = true := beq_iff_eq.mpr c25
        have c25b1 : ((t120.length : Int) != 1) = false := bne_eq_false_iff_eq.mpr c25
        clear c25
        by_cases c26 : (t131.length : Int) = 1
        ·rw [if_pos c26] at H
         have c26b0 : ((t131.length : Int) == 1) = true := beq_iff_eq.mpr c26
         have c26b1 : ((t131.length : Int) != 1) = false := bne_eq_false_iff_eq.mpr c26
         clear c26
         by_cases c27 : 0 < (t120.length : Int)
         ·rw [if_pos c27] at H
          have c27b0 : decide (0 < (t120.length : Int)) = true := decide_eq_true c27
          have c27b1 : decide (0 < t120.length) = true := decide_eq_true (by omega)
          clear c27
          obtain ⟨y137, hy137⟩ : ∃ y_ : List (S30), y_ = (([(⟨1, 0, rdOf ByteArray.empty t120 0, false⟩ : S30)] : List (S30))) := ⟨_, rfl⟩
          replace H : ((impl_EditedFrom.f t118 t119 y137).bind fun bt140 => (if bt140.2.2.2 = true then (if 0 < (t131.length : Int) then ((impl_EditedFrom.f t129 t130 (([(⟨2, 0, rdOf ByteArray.empty t131 0, false⟩ : S30)] : List (S30)))).bind fun bt151 => (if bt151.2.2.2 = true then (if (bt140.1.toList == a0_0.toList && (bt140.2.1 == a0_1)) = true then (some (bt151.1.toList == a0_0.toList && (bt151.2.1 == a0_1))) else (some false)) else (none))) else (none)) else (none))) = some r := by first | (rw [hy137]; with_reducible exact H) | (have H2_ := (Option.bind_some _ _).symm.trans H; rw [hy137]; with_reducible exact H2_) | (have H2_ := (Option.bind_some _ _).symm.trans H; with_reducible exact H2_) | with_reducible exact H | (rw [hy137]; exact H) | exact H
          have Ny137 := Aside0.mk hy137
          clear hy137
          replace H := Option.bind_eq_some_iff.mp H
          obtain ⟨⟨t140, t141, t142, t145⟩, A280, H⟩ := H
          replace H : (if t145 = true then (if 0 < (t131.length : Int) then ((impl_EditedFrom.f t129 t130 (([(⟨2, 0, rdOf ByteArray.empty t131 0, false⟩ : S30)] : List (S30)))).bind fun bt151 => (if bt151.2.2.2 = true then (if (t140.toList == a0_0.toList && (t141 == a0_1)) = true then (some (bt151.1.toList == a0_0.toList && (bt151.2.1 == a0_1))) else (some false)) else (none))) else (none)) else (none)) = some r := H
          have A28 := Aside0.mk A280
          clear A280
          by_cases c29 : t145 = true
          ·subst c29
           have H1 : (if 0 < (t131.length : Int) then ((impl_EditedFrom.f t129 t130 (([(⟨2, 0, rdOf ByteArray.empty t131 0, false⟩ : S30)] : List (S30)))).bind fun bt151 => (if bt151.2.2.2 = true then (if (t140.toList == a0_0.toList && (t141 == a0_1)) = true then (some (bt151.1.toList == a0_0.toList && (bt151.2.1 == a0_1))) else (some false)) else (none))) else (none)) = some r := by rw [if_pos rfl] at H; exact H
           clear H; have H := H1; clear H1
           by_cases c30 : 0 < (t131.length : Int)
           ·rw [if_pos c30] at H
            have c30b0 : decide (0 < (t131.length : Int)) = true := decide_eq_true c30
            have c30b1 : decide (0 < t131.length) = true := decide_eq_true (by omega)
            clear c30
            obtain ⟨y148, hy148⟩ : ∃ y_ : List (S30), y_ = (([(⟨2, 0, rdOf ByteArray.empty t131 0, false⟩ : S30)] : List (S30))) := ⟨_, rfl⟩
            replace H : ((impl_EditedFrom.f t129 t130 y148).bind fun bt151 => (if bt151.2.2.2 = true then (if (t140.toList == a0_0.toList && (t141 == a0_1)) = true then (some (bt151.1.toList == a0_0.toList && (bt151.2.1 == a0_1))) else (some false)) else (none))) = some r := by first | (rw [hy148]; with_reducible exact H) | (have H2_ := (Option.bind_some _ _).symm.trans H; rw [hy148]; with_reducible exact H2_) | (have H2_ := (Option.bind_some _ _).symm.trans H; with_reducible exact H2_) | with_reducible exact H | (rw [hy148]; exact H) | exact H
            have Ny148 := Aside0.mk hy148
            clear hy148
            replace H := Option.bind_eq_some_iff.mp H
            obtain ⟨⟨t151, t152, t153, t156⟩, A310, H⟩ := H
            replace H : (if t156 = true then (if (t140.toList == a0_0.toList && (t141 == a0_1)) = true then (some (t151.toList == a0_0.toList && (t152 == a0_1))) else (some false)) else (none)) = some r := H
            have A31 := Aside0.mk A310
            clear A310
            by_cases c32 : t156 = true
            ·subst c32
             have H1 : (if (t140.toList == a0_0.toList && (t141 == a0_1)) = true then (some (t151.toList == a0_0.toList && (t152 == a0_1))) else (some false)) = some r := by rw [if_pos rfl] at H; exact H
             clear H; have H := H1; clear H1
             by_cases c33 : (t140.toList == a0_0.toList && (t141 == a0_1)) = true
             ·rw [if_pos c33] at H
              have c33b0 : (t140.toList == a0_0.toList && (t141 == a0_1)) = true := c33
              (try (have c33b1 : decide (t140.toList = a0_0.toList && (t141 == a0_1)) = true := by simpa using c33))
              (try (have c33b2 : (t140.toList == a0_0.toList && (t141 == a0_1)) = true := by simpa using c33))
              clear c33
              obtain rfl := Option.some.inj H
              have hcz34_0 : wc.cell? ⟨gb112, 0, none⟩ = some (.string a0_0) := (blk_cell BK112.out 0).trans rfl
              have hcz34_1 : wc.cell? ⟨gb112, 1, none⟩ = some (.int .i64 a0_1) := (blk_cell BK112.out 1).trans rfl
              have hfz34_0 := blk_frozen BK112.out 0
              have hfz34_1 := blk_frozen BK112.out 1
              try go_wp2_with (first | ((with_reducible refine gate_dst (N := 35) rfl ?_); (try (refine gate_guard (by rfl) ?_; dsimp only)); refine Kd.R_lit k30 _ 30 ?hg (N := 35) ?hd (xs := ([(⟨7, a1, (⟨#[]⟩ : ByteArray), false⟩ : S30)] : List (S30))) (inner := [.int .i64 7, .int .i64 a1, .string (⟨#[]⟩ : ByteArray), .bool false]) (ok := fun _ => True) (okp := fun _ => True) ?hr ?hp (fun _ hk => hk) trivial (Below.refl _ _) (Nat.le_refl _) (by simp) ?_; (case hd => rfl); (case hg => rfl); (case hr => first | (go_simp; done) | (go_simp; rfl)); (case hp => exact (Reps.c4 (show Kd.M k30 _ _ _ (⟨7, a1, (⟨#[]⟩ : ByteArray), false⟩ : S30) [.int .i64 7, .int .i64 a1, .string (⟨#[]⟩ : ByteArray), .bool false] from (k30_mkM _ _ _ (⟨7, a1, (⟨#[]⟩ : ByteArray), false⟩ : S30) )) (Reps.none _ _))); intro v116 w35 ho36 hb hg_ hnew_; clear hg_ hnew_; (first | rw [← Ny115.out] at ho36 | (simp only [Int.reduceToNat] at ho36; rw [← Ny115.out] at ho36)); have n0_ := Aside0.mk (Kd.R_lower ho36 (below_size (by repeat (first | (with_reducible first | exact HB.out | apply below_alloc | apply pw_below_drewN | apply below_drew1 | refine below_set ?_ GE112.out) | exact HB.out)))); have n1_ := Aside0.mk (blk_below (g := gb112) (o := .cells #[.string a0_0, .int .i64 a0_1] 26 (0, 0)) (by (with_reducible repeat (first | refine blk_drewN ?_ _ | refine blk_drew ?_ | refine blk_alloc ?_ _)); exact BK112.out) hb); have n2_ := Aside0.mk (below_step (by repeat (first | (with_reducible first | exact HB.out | apply below_alloc | apply pw_below_drewN | apply below_drew1 | refine below_set ?_ GE112.out) | exact HB.out)) hb); clear BK112; clear HB; have HO117 := n0_; have BK112 := n1_; have HB := n2_; clear n0_ n1_ n2_; clear hb ho36; obtain ⟨Ao37, co37, eo37⟩ := Kd.R_slice HO117.out; subst eo37) | ((with_reducible refine gate_callee (f := 11) rfl ?_); refine goesL_ (some 36) rfl rfl Tryd.func11 (by kernel_rfl) rfl #[.agg #[.string a0_0, .int .i64 a0_1], .slice Ao37 y115.length co37] rfl (by (try simp only [List.map_toArray, List.map_cons, List.map_nil]); first | done | rfl | (simp only [List.length_drop, List.length_take]; rfl) | (simp only [Int.toNat_natCast, ByteArray.extract_zero_size]; rfl)) ?_; (with_reducible refine (impl_EditedFrom.calls a0_0 a0_1 _ _ y115 t118 t119 t120 true _ ?side1 ?side2 A19.out).mono ?_); (case side1 => repeat (first | exact (Kd.R_reads' HO117.out).2.2 | (with_reducible refine Kd.C_alloc ?_ _) | (with_reducible refine Kd.C_drewN ?_ _) | (with_reducible refine Kd.C_drew ?_))); (case side2 => exact (Kd.R_reads' HO117.out).2.1); rintro e w38 ⟨v121, rfl, ho0, hb⟩; refine ⟨_, rfl, ?_⟩; have n0_ := Aside0.mk (Kd.R_below (by (with_reducible repeat (first | apply Kd.R_alloc | apply Kd.R_drewN | apply Kd.R_drew)); exact HO117.out) hb); have n1_ := Aside0.mk (Kd.R_lower ho0 (below_size (by repeat (first | (with_reducible first | exact HB.out | apply below_alloc | apply pw_below_drewN | apply below_drew1 | refine below_set ?_ GE112.out) | exact HB.out)))); have n2_ := Aside0.mk (blk_below (g := gb112) (o := .cells #[.string a0_0, .int .i64 a0_1] 26 (0, 0)) (by (with_reducible repeat (first | refine blk_drewN ?_ _ | refine blk_drew ?_ | refine blk_alloc ?_ _)); exact BK112.out) hb); have n3_ := Aside0.mk (below_step (by repeat (first | (with_reducible first | exact HB.out | apply below_alloc | apply pw_below_drewN | apply below_drew1 | refine below_set ?_ GE112.out) | exact HB.out)) hb); clear HO117; clear BK112; clear HB; have HO117 := n0_; have HO122 := n1_; have BK112 := n2_; have HB := n3_; clear n0_ n1_ n2_ n3_; (try clear hb); (try clear hb2); (try clear hk); (try clear hi); (try clear ho0)) | ((with_reducible refine gate_dst (N := 5) rfl ?_); (try (refine gate_guard (by rfl) ?_; dsimp only)); refine box_event ?hg (N := 5) ?hd (cs := #[.string (⟨#[]⟩ : ByteArray), .int .i64 0]) (t := 26) ?hr ?_; (case hd => rfl); (case hg => rfl); (case hr => first | (go_simp; done) | (go_simp; rfl)); intro gb124 hg w39 hbox hb; have n0_ := Aside0.mk (Kd.R_below (by (with_reducible repeat (first | apply Kd.R_alloc | apply Kd.R_drewN | apply Kd.R_drew)); exact HO117.out) hb); have n1_ := Aside0.mk (Kd.R_below (by (with_reducible repeat (first | apply Kd.R_alloc | apply Kd.R_drewN | apply Kd.R_drew)); exact HO122.out) hb); have n2_ := Aside0.mk (blk_below (g := gb112) (o := .cells #[.string a0_0, .int .i64 a0_1] 26 (0, 0)) (by (with_reducible repeat (first | refine blk_drewN ?_ _ | refine blk_drew ?_ | refine blk_alloc ?_ _)); exact BK112.out) hb); have n3_ := Aside0.mk (below_step (by repeat (first | (with_reducible first | exact HB.out | apply below_alloc | apply pw_below_drewN | apply below_drew1 | refine below_set ?_ GE112.out) | exact HB.out)) hb); have n4_ := Aside0.mk (hbox); have n5_ := Aside0.mk ((by rw [hg]; exact (below_size (by repeat (first | (with_reducible first | exact HB.out | apply below_alloc | apply pw_below_drewN | apply below_drew1 | refine below_set ?_ GE112.out) | exact HB.out))) : w.heap.size ≤ gb124)); have n6_ := Aside0.mk ((by rw [hg]; exact (below_size (by repeat (first | (with_reducible first | exact HB.out | apply below_alloc | apply pw_below_drewN | apply below_drew1 | refine below_set ?_ GE112.out) | exact HB.out))) : w.heap.size ≤ gb124)); have n7_ := Aside0.mk ((by rw [hg]; exact Nat.ne_of_lt (blk_lt (g := gb112) (o := .cells #[.string a0_0, .int .i64 a0_1] 26 (0, 0)) (by (with_reducible repeat (first | refine blk_drewN ?_ _ | refine blk_drew ?_ | refine blk_alloc ?_ _)); exact BK112.out)) : gb112 ≠ gb124)); have n8_ := Aside0.mk ((by rw [hg]; exact Nat.ne_of_gt (blk_lt (g := gb112) (o := .cells #[.string a0_0, .int .i64 a0_1] 26 (0, 0)) (by (with_reducible repeat (first | refine blk_drewN ?_ _ | refine blk_drew ?_ | refine blk_alloc ?_ _)); exact BK112.out)) : gb124 ≠ gb112)); clear HO117; clear HO122; clear BK112; clear HB; have HO117 := n0_; have HO122 := n1_; have BK112 := n2_; have HB := n3_; have BK124 := n4_; have GW124 := n5_; have GE124 := n6_; have NB112_124 := n7_; have NB124_112 := n8_; clear n0_ n1_ n2_ n3_ n4_ n5_ n6_ n7_ n8_; clear hb hbox hg; have hnb40 := NB124_112.out; have hnc40 := NB112_124.out; have hcz41_0 : w39.cell? ⟨gb124, 0, none⟩ = some (.string (⟨#[]⟩ : ByteArray)) := (blk_cell BK124.out 0).trans rfl; have hcz41_1 : w39.cell? ⟨gb124, 1, none⟩ = some (.int .i64 0) := (blk_cell BK124.out 1).trans rfl; have hfz41_0 := blk_frozen BK124.out 0; have hfz41_1 := blk_frozen BK124.out 1))
              have n0_ : Aside0 (Kd.R k30 30 ((w39.setCell ⟨gb124, 0, none⟩ (.string t118)).setCell ⟨gb124, 1, none⟩ (.int .i64 t119)) w.heap.size (fun _ => True) (.slice Ao37 y115.length co37) y115) := ⟨by (with_reducible repeat (first | apply Kd.R_alloc | apply Kd.R_drewN | apply Kd.R_drew)); exact Kd.R_mono (Kd.R_far (p := ⟨gb124, 1, none⟩) (Kd.R_far (p := ⟨gb124, 0, none⟩) (Kd.R_types HO117.out BK124.out (by decide)) (fun _ hk => hk.2) (.string t118)) (fun _ hk => hk.2) (.int .i64 t119)) (fun _ hk => trivial)⟩
              have n1_ : Aside0 (Kd.R Kd.string 9 ((w39.setCell ⟨gb124, 0, none⟩ (.string t118)).setCell ⟨gb124, 1, none⟩ (.int .i64 t119)) w.heap.size (fun _ => True) v121 t120) := ⟨by (with_reducible repeat (first | apply Kd.R_alloc | apply Kd.R_drewN | apply Kd.R_drew)); exact Kd.R_mono (Kd.R_far (p := ⟨gb124, 1, none⟩) (Kd.R_far (p := ⟨gb124, 0, none⟩) (Kd.R_types HO122.out BK124.out (by decide)) (fun _ hk => hk.2) (.string t118)) (fun _ hk => hk.2) (.int .i64 t119)) (fun _ hk => trivial)⟩
              have n2_ : Aside0 (((w39.setCell ⟨gb124, 0, none⟩ (.string t118)).setCell ⟨gb124, 1, none⟩ (.int .i64 t119)).heap[gb112]? = some (.cells #[.string a0_0, .int .i64 a0_1] 26 (0, 0))) := ⟨by (with_reducible repeat (first | refine blk_drewN ?_ _ | refine blk_drew ?_ | refine blk_alloc ?_ _)); refine blk_far ?_ NB112_124.out _; (with_reducible repeat (first | refine blk_drewN ?_ _ | refine blk_drew ?_ | refine blk_alloc ?_ _)); refine blk_far ?_ NB112_124.out _; (with_reducible repeat (first | refine blk_drewN ?_ _ | refine blk_drew ?_ | refine blk_alloc ?_ _)); exact BK112.out⟩
              have n3_ : Aside0 (((w39.setCell ⟨gb124, 0, none⟩ (.string t118)).setCell ⟨gb124, 1, none⟩ (.int .i64 t119)).heap[gb124]? = some (.cells #[.string t118, .int .i64 t119] 26 (0, 0))) := ⟨by (with_reducible repeat (first | refine blk_drewN ?_ _ | refine blk_drew ?_ | refine blk_alloc ?_ _)); refine blk_put (cs := #[.string t118, .int .i64 0]) ?_ 1 _ rfl; (with_reducible repeat (first | refine blk_drewN ?_ _ | refine blk_drew ?_ | refine blk_alloc ?_ _)); refine blk_put (cs := #[.string (⟨#[]⟩ : ByteArray), .int .i64 0]) ?_ 0 _ rfl; (with_reducible repeat (first | refine blk_drewN ?_ _ | refine blk_drew ?_ | refine blk_alloc ?_ _)); exact BK124.out⟩
              have n4_ : Aside0 (Below w.heap.size w ((w39.setCell ⟨gb124, 0, none⟩ (.string t118)).setCell ⟨gb124, 1, none⟩ (.int .i64 t119))) := ⟨by repeat (first | (with_reducible first | exact HB.out | apply below_alloc | apply pw_below_drewN | apply below_drew1 | refine below_set ?_ GE112.out | refine below_set ?_ GE124.out) | exact HB.out)⟩
              (try clear HO117); (try clear HO122); (try clear BK112); (try clear BK124); (try clear HB)
              generalize ((w39.setCell ⟨gb124, 0, none⟩ (.string t118)).setCell ⟨gb124, 1, none⟩ (.int .i64 t119)) = w42 at n0_ n1_ n2_ n3_ n4_ ⊢
              have HO117 := n0_; have HO122 := n1_; have BK112 := n2_; have BK124 := n3_; have HB := n4_; clear n0_ n1_ n2_ n3_ n4_; have n0_ := Aside0.mk (Kd.R_drew HO117.out); have n1_ := Aside0.mk (Kd.R_drew HO122.out); have n2_ := Aside0.mk (blk_drew BK112.out); have n3_ := Aside0.mk (blk_drew BK124.out); have n4_ := Aside0.mk (below_drew1 HB.out); clear HO117; clear HO122; clear BK112; clear BK124; clear HB; have HO117 := n0_; have HO122 := n1_; have BK112 := n2_; have BK124 := n3_; have HB := n4_; clear n0_ n1_ n2_ n3_ n4_
              refine start_ (n := 17) (S := fun w' => w'.cell? ⟨gb112, 0, none⟩ = some (.string a0_0) ∧ w'.cell? ⟨gb112, 1, none⟩ = some (.int .i64 a0_1)) (ds := []) #[false, false, false, false, false, false, false, false, false, false, false, false, false, false, false, false, false] (by kernel_rfl) rfl rfl ⟨(blk_cell BK112.out 0).trans rfl, (blk_cell BK112.out 1).trans rfl⟩ (fun hHeld => ?_); refine with_tabW laws_FnTakenBack.tab6 laws_FnTakenBack.bits6 (fun HT_ HW_ => ?_)
              generalize w42.drew = w43 at HO117 HO122 BK112 BK124 HB hHeld ⊢
              refine pure_ (i := 1) (N := some 42) (v := ?_) (a' := ?_) #[false, true, false, false, false, false, false, false, false, false, false, false, false, false, false, false, false] rfl rfl (any_of HT_.out (by kernel_rfl)) (fun _ _ _ h => h) (Or.inl ⟨by rfl, ?_⟩) ?_ ?_
              rotate_left
              ·intro w'
               go_simp
               with_reducible rfl
              rotate_left
              ·simp only [Act.put, List.setIfInBounds_toArray, List.set_cons_zero, List.set_cons_succ, i64_w, i32_w]
               rfl
              refine take_ (i := 0) (N := some 41) (v := ?_) (a' := ?_) #[true, true, false, false, false, false, false, false, false, false, false, false, false, false, false, false, false] rfl rfl (take_ofW HT_.out HW_.out (by kernel_rfl)) (fun _ _ _ h => h) (Or.inl ⟨by rfl, ?_⟩) hHeld ?_ ?_
              rotate_left
              ·rintro w' ⟨s0, s1⟩
               go_simp
               with_reducible rfl
              rotate_left
              ·simp only [Act.put, List.setIfInBounds_toArray, List.set_cons_zero, List.set_cons_succ, i64_w, i32_w]
               rfl
              refine take_ (i := 2) (N := some 43) (v := ?_) (a' := ?_) #[true, true, true, false, false, false, false, false, false, false, false, false, false, false, false, false, false] rfl rfl (take_ofW HT_.out HW_.out (by kernel_rfl)) (fun _ _ _ h => h) (Or.inl ⟨by rfl, ?_⟩) hHeld ?_ ?_
              rotate_left
              ·rintro w' ⟨s0, s1⟩
               go_simp
               with_reducible rfl
              rotate_left
              ·simp only [Act.put, List.setIfInBounds_toArray, List.set_cons_zero, List.set_cons_succ, i64_w, i32_w]
               rfl
              refine join_ (σ := Value × Value × Nat) 3 #[true, true, true, true, true, true, true, true, true, true, true, true, true, true, false, false, false] (fun s_ => [(44, .string t125), (48, s_.1), (49, .tuple #[.agg #[.string t129, .int .i64 t130], s_.2.1, .bool true]), (8, .pointer (some ⟨s_.2.2, 0, none⟩)), (45, .int .i64 (t125.size : Int)), (46, .int .i64 ji22), (47, .agg #[.int .i64 8, .int .i64 ji22, .string (⟨#[]⟩ : ByteArray), .bool false]), (40, .tuple #[.agg #[.string t129, .int .i64 t130], s_.2.1, .bool true]), (50, .agg #[.string t129, .int .i64 t130]), (51, s_.2.1), (52, .bool true)]) (fun s_ w' => (w'.cell? ⟨gb112, 0, none⟩ = some (.string a0_0) ∧ w'.cell? ⟨gb112, 1, none⟩ = some (.int .i64 a0_1)) ∧ (Kd.R k30 30 w' w.heap.size (fun k_ => some k_ ≠ (s_.1 : Value).ownBlock) (.slice Ao37 y115.length co37) y115) ∧ (Kd.R Kd.string 9 w' w.heap.size (fun k_ => some k_ ≠ (s_.2.1 : Value).ownBlock) v121 t120) ∧ (Kd.R k30 30 w' w.heap.size (fun k_ => some k_ ≠ (.slice Ao37 y115.length co37 : Value).ownBlock) s_.1 y126) ∧ (Kd.R Kd.string 9 w' w.heap.size (fun k_ => some k_ ≠ (v121 : Value).ownBlock) s_.2.1 t131) ∧ (w'.heap[gb112]? = some (.cells #[.string a0_0, .int .i64 a0_1] 26 (0, 0))) ∧ (w'.heap[gb124]? = some (.cells #[.string t118, .int .i64 t119] 26 (0, 0))) ∧ (w'.heap[s_.2.2]? = some (.cells #[.string (⟨#[]⟩ : ByteArray), .int .i64 0] 26 (0, 0))) ∧ (w.heap.size ≤ s_.2.2) ∧ (w.heap.size ≤ s_.2.2) ∧ (gb112 ≠ s_.2.2) ∧ (s_.2.2 ≠ gb112) ∧ (gb124 ≠ s_.2.2) ∧ (s_.2.2 ≠ gb124) ∧ (Below w.heap.size w w')) ?_ ?_
              rotate_left
              ·intro hCont
               refine two_ (i := 3) (j := 13) (Ni := some 44) (Nj := some 8) #[true, true, true, true, false, false, false, false, false, false, false, false, false, false, false, false, false] #[true, true, true, false, false, false, false, false, false, false, false, false, false, true, false, false, false] rfl rfl rfl rfl (two_of HT_.out (by kernel_rfl)) (by decide) (by decide) (fun K hK => ?_) (fun K hK => ?_)
               ·skip
                refine goes_ Tryd.func12 (by kernel_rfl) rfl #[.agg #[.string a0_0, .int .i64 a0_1]] (by rfl) rfl rfl (by (try simp only [List.map_toArray, List.map_cons, List.map_nil]); first | done | rfl | (simp only [List.length_drop, List.length_take]; rfl) | (simp only [Int.toNat_natCast, ByteArray.extract_zero_size]; rfl)) ?_
                with_reducible refine (spec_After.calls a0_0 a0_1 t125 _ A21.out).mono ?_
                rintro e w44 ⟨rfl, hb⟩
                refine ⟨_, rfl, ?_⟩
                have n0_ := Aside0.mk (Kd.R_below (by (with_reducible repeat (first | apply Kd.R_alloc | apply Kd.R_drewN | apply Kd.R_drew)); exact HO117.out) hb); have n1_ := Aside0.mk (Kd.R_below (by (with_reducible repeat (first | apply Kd.R_alloc | apply Kd.R_drewN | apply Kd.R_drew)); exact HO122.out) hb); have n2_ := Aside0.mk (blk_below (g := gb112) (o := .cells #[.string a0_0, .int .i64 a0_1] 26 (0, 0)) (by (with_reducible repeat (first | refine blk_drewN ?_ _ | refine blk_drew ?_ | refine blk_alloc ?_ _)); exact BK112.out) hb); have n3_ := Aside0.mk (blk_below (g := gb124) (o := .cells #[.string t118, .int .i64 t119] 26 (0, 0)) (by (with_reducible repeat (first | refine blk_drewN ?_ _ | refine blk_drew ?_ | refine blk_alloc ?_ _)); exact BK124.out) hb); have n4_ := Aside0.mk (below_step (by repeat (first | (with_reducible first | exact HB.out | apply below_alloc | apply pw_below_drewN | apply below_drew1 | refine below_set ?_ GE112.out | refine below_set ?_ GE124.out) | exact HB.out)) hb); clear HO117; clear HO122; clear BK112; clear BK124; clear HB; have HO117 := n0_; have HO122 := n1_; have BK112 := n2_; have BK124 := n3_; have HB := n4_; clear n0_ n1_ n2_ n3_ n4_; (try clear hb); (try clear hb2); (try clear hk); (try clear hi)
                refine hK.out _ _ ⟨(blk_cell BK112.out 0).trans rfl, (blk_cell BK112.out 1).trans rfl⟩ (fun hHeld => ?_)
                clear hK K
                refine norm_ (a' := ?_) ?_ ?_
                rotate_left
                ·show Act.put _ (some 44) _ = _
                 simp only [Act.put, List.setIfInBounds_toArray, List.set_cons_zero, List.set_cons_succ, i64_w, i32_w]
                 rfl
                refine pure_ (i := 4) (N := some 45) (v := ?_) (a' := ?_) #[true, true, true, true, true, false, false, false, false, false, false, false, false, false, false, false, false] rfl rfl (any_of HT_.out (by kernel_rfl)) (fun _ _ _ h => h) (Or.inl ⟨by rfl, ?_⟩) ?_ ?_
                rotate_left
                ·intro w'
                 go_simp
                 with_reducible rfl
                rotate_left
                ·simp only [Act.put, List.setIfInBounds_toArray, List.set_cons_zero, List.set_cons_succ, i64_w, i32_w]
                 rfl
                refine pure_ (i := 5) (N := some 46) (v := ?_) (a' := ?_) #[true, true, true, true, true, true, false, false, false, false, false, false, false, false, false, false, false] rfl rfl (any_of HT_.out (by kernel_rfl)) (fun _ _ _ h => h) (Or.inl ⟨by rfl, ?_⟩) ?_ ?_
                rotate_left
                ·intro w'
                 go_simp
                 with_reducible rfl
                rotate_left
                ·simp only [Act.put, List.setIfInBounds_toArray, List.set_cons_zero, List.set_cons_succ, i64_w, i32_w]
                 rfl
                refine pure_ (i := 6) (N := some 47) (v := ?_) (a' := ?_) #[true, true, true, true, true, true, true, false, false, false, false, false, false, false, false, false, false] rfl rfl (any_of HT_.out (by kernel_rfl)) (fun _ _ _ h => h) (Or.inl ⟨by rfl, ?_⟩) ?_ ?_
                rotate_left
                ·intro w'
                 go_simp
                 with_reducible rfl
                rotate_left
                ·simp only [Act.put, List.setIfInBounds_toArray, List.set_cons_zero, List.set_cons_succ, i64_w, i32_w]
                 rfl
                refine two_ (i := 7) (j := 13) (Ni := some 48) (Nj := some 8) #[true, true, true, true, true, true, true, true, false, false, false, false, false, false, false, false, false] #[true, true, true, true, true, true, true, false, false, false, false, false, false, true, false, false, false] rfl rfl rfl rfl (two_of HT_.out (by kernel_rfl)) (by decide) (by decide) (fun K hK => ?_) (fun K hK => ?_)
                ·skip
                 refine Kd.R_lit_step k30 _ 30 ?hg (N := 48) ?hd (xs := ([(⟨8, ji22, (⟨#[]⟩ : ByteArray), false⟩ : S30)] : List (S30))) (inner := [.int .i64 8, .int .i64 ji22, .string (⟨#[]⟩ : ByteArray), .bool false]) (ok := fun _ => True) (okp := fun _ => True) ?hr ?hp (fun _ hk => hk) trivial (Below.refl _ _) (Nat.le_refl _) (by simp) ?_; (case hd => rfl); (case hg => rfl); (case hr => first | (go_simp; done) | (go_simp; rfl)); (case hp => exact (Reps.c4 (show Kd.M k30 _ _ _ (⟨8, ji22, (⟨#[]⟩ : ByteArray), false⟩ : S30) [.int .i64 8, .int .i64 ji22, .string (⟨#[]⟩ : ByteArray), .bool false] from (k30_mkM _ _ _ (⟨8, ji22, (⟨#[]⟩ : ByteArray), false⟩ : S30) )) (Reps.none _ _)))
                 intro v127 w45 ho46 hb hg_ hnew_
                 clear hg_ hnew_
                 (first | rw [← Ny126.out] at ho46 | (simp only [Int.reduceToNat] at ho46; rw [← Ny126.out] at ho46))
                 have n0_ := Aside0.mk (Kd.R_elder' (by (with_reducible repeat (first | apply Kd.R_alloc | apply Kd.R_drewN | apply Kd.R_drew)); exact HO117.out) (Kd.R_base ho46) hb); have n1_ := Aside0.mk (Kd.R_below (by (with_reducible repeat (first | apply Kd.R_alloc | apply Kd.R_drewN | apply Kd.R_drew)); exact HO122.out) hb); have n2_ := Aside0.mk (Kd.R_lower (Kd.R_new' ho46 (Kd.R_lt (by (with_reducible repeat (first | apply Kd.R_alloc | apply Kd.R_drewN | apply Kd.R_drew)); exact HO117.out))) (below_size (by repeat (first | (with_reducible first | exact HB.out | apply below_alloc | apply pw_below_drewN | apply below_drew1 | refine below_set ?_ GE112.out | refine below_set ?_ GE124.out) | exact HB.out)))); have n3_ := Aside0.mk (blk_below (g := gb112) (o := .cells #[.string a0_0, .int .i64 a0_1] 26 (0, 0)) (by (with_reducible repeat (first | refine blk_drewN ?_ _ | refine blk_drew ?_ | refine blk_alloc ?_ _)); exact BK112.out) hb); have n4_ := Aside0.mk (blk_below (g := gb124) (o := .cells #[.string t118, .int .i64 t119] 26 (0, 0)) (by (with_reducible repeat (first | refine blk_drewN ?_ _ | refine blk_drew ?_ | refine blk_alloc ?_ _)); exact BK124.out) hb); have n5_ := Aside0.mk (below_step (by repeat (first | (with_reducible first | exact HB.out | apply below_alloc | apply pw_below_drewN | apply below_drew1 | refine below_set ?_ GE112.out | refine below_set ?_ GE124.out) | exact HB.out)) hb); clear HO117; clear HO122; clear BK112; clear BK124; clear HB; have HO117 := n0_; have HO122 := n1_; have HO128 := n2_; have BK112 := n3_; have BK124 := n4_; have HB := n5_; clear n0_ n1_ n2_ n3_ n4_ n5_; clear hb ho46
                 obtain ⟨Ao47, co47, eo47⟩ := Kd.R_slice HO128.out
                 (first | subst eo47 | (injection eo47 with f1_ f2_ f3_; have f4_ := f1_.symm; have f5_ := f3_.symm; clear f1_ f2_ f3_; subst f4_; subst f5_))
                 refine hK.out _ _ ⟨(blk_cell BK112.out 0).trans rfl, (blk_cell BK112.out 1).trans rfl⟩ (fun hHeld => ?_)
                 clear hK K
                 refine norm_ (a' := ?_) ?_ ?_
                 rotate_left
                 ·show Act.put _ (some 48) _ = _
                  simp only [Act.put, List.setIfInBounds_toArray, List.set_cons_zero, List.set_cons_succ, i64_w, i32_w]
                  rfl
                 refine two_ (i := 8) (j := 13) (Ni := some 49) (Nj := some 8) #[true, true, true, true, true, true, true, true, true, false, false, false, false, false, false, false, false] #[true, true, true, true, true, true, true, true, false, false, false, false, false, true, false, false, false] rfl rfl rfl rfl (two_of HT_.out (by kernel_rfl)) (by decide) (by decide) (fun K hK => ?_) (fun K hK => ?_)
                 ·skip
                  refine goes_ Tryd.func11 (by kernel_rfl) rfl #[.agg #[.string a0_0, .int .i64 a0_1], .slice Ao47 y126.length co47] (by rfl) rfl rfl (by (try simp only [List.map_toArray, List.map_cons, List.map_nil]); first | done | rfl | (simp only [List.length_drop, List.length_take]; rfl) | (simp only [Int.toNat_natCast, ByteArray.extract_zero_size]; rfl)) ?_
                  with_reducible refine (impl_EditedFrom.calls a0_0 a0_1 _ _ y126 t129 t130 t131 true _ ?side1 ?side2 A23.out).mono ?_
                  (case side1 => repeat (first | exact (Kd.R_reads' HO128.out).2.2 | (with_reducible refine Kd.C_alloc ?_ _) | (with_reducible refine Kd.C_drewN ?_ _) | (with_reducible refine Kd.C_drew ?_)))
                  (case side2 => exact (Kd.R_reads' HO128.out).2.1)
                  rintro e w48 ⟨v132, rfl, ho0, hb⟩
                  refine ⟨_, rfl, ?_⟩
                  have n0_ := Aside0.mk (Kd.R_below (by (with_reducible repeat (first | apply Kd.R_alloc | apply Kd.R_drewN | apply Kd.R_drew)); exact HO117.out) hb); have n1_ := Aside0.mk (Kd.R_elder' (by (with_reducible repeat (first | apply Kd.R_alloc | apply Kd.R_drewN | apply Kd.R_drew)); exact HO122.out) (Kd.R_base ho0) hb); have n2_ := Aside0.mk (Kd.R_below (by (with_reducible repeat (first | apply Kd.R_alloc | apply Kd.R_drewN | apply Kd.R_drew)); exact HO128.out) hb); have n3_ := Aside0.mk (Kd.R_lower (Kd.R_new' ho0 (Kd.R_lt (by (with_reducible repeat (first | apply Kd.R_alloc | apply Kd.R_drewN | apply Kd.R_drew)); exact HO122.out))) (below_size (by repeat (first | (with_reducible first | exact HB.out | apply below_alloc | apply pw_below_drewN | apply below_drew1 | refine below_set ?_ GE112.out | refine below_set ?_ GE124.out) | exact HB.out)))); have n4_ := Aside0.mk (blk_below (g := gb112) (o := .cells #[.string a0_0, .int .i64 a0_1] 26 (0, 0)) (by (with_reducible repeat (first | refine blk_drewN ?_ _ | refine blk_drew ?_ | refine blk_alloc ?_ _)); exact BK112.out) hb); have n5_ := Aside0.mk (blk_below (g := gb124) (o := .cells #[.string t118, .int .i64 t119] 26 (0, 0)) (by (with_reducible repeat (first | refine blk_drewN ?_ _ | refine blk_drew ?_ | refine blk_alloc ?_ _)); exact BK124.out) hb); have n6_ := Aside0.mk (below_step (by repeat (first | (with_reducible first | exact HB.out | apply below_alloc | apply pw_below_drewN | apply below_drew1 | refine below_set ?_ GE112.out | refine below_set ?_ GE124.out) | exact HB.out)) hb); clear HO117; clear HO122; clear HO128; clear BK112; clear BK124; clear HB; have HO117 := n0_; have HO122 := n1_; have HO128 := n2_; have HO133 := n3_; have BK112 := n4_; have BK124 := n5_; have HB := n6_; clear n0_ n1_ n2_ n3_ n4_ n5_ n6_; (try clear hb); (try clear hb2); (try clear hk); (try clear hi); (try clear ho0)
                  refine hK.out _ _ ⟨(blk_cell BK112.out 0).trans rfl, (blk_cell BK112.out 1).trans rfl⟩ (fun hHeld => ?_)
                  clear hK K
                  refine norm_ (a' := ?_) ?_ ?_
                  rotate_left
                  ·show Act.put _ (some 49) _ = _
                   simp only [Act.put, List.setIfInBounds_toArray, List.set_cons_zero, List.set_cons_succ, i64_w, i32_w]
                   rfl
                  refine pure_ (i := 9) (N := some 40) (v := ?_) (a' := ?_) #[true, true, true, true, true, true, true, true, true, true, false, false, false, false, false, false, false] rfl rfl (any_of HT_.out (by kernel_rfl)) (fun _ _ _ h => h) (Or.inl ⟨by rfl, ?_⟩) ?_ ?_
                  rotate_left
                  ·intro w'
                   go_simp
                   with_reducible rfl
                  rotate_left
                  ·simp only [Act.put, List.setIfInBounds_toArray, List.set_cons_zero, List.set_cons_succ, i64_w, i32_w]
                   rfl
                  refine pure_ (i := 10) (N := some 50) (v := ?_) (a' := ?_) #[true, true, true, true, true, true, true, true, true, true, true, false, false, false, false, false, false] rfl rfl (any_of HT_.out (by kernel_rfl)) (fun _ _ _ h => h) (Or.inl ⟨by rfl, ?_⟩) ?_ ?_
                  rotate_left
                  ·intro w'
                   go_simp
                   with_reducible rfl
                  rotate_left
                  ·simp only [Act.put, List.setIfInBounds_toArray, List.set_cons_zero, List.set_cons_succ, i64_w, i32_w]
                   rfl
                  refine pure_ (i := 11) (N := some 51) (v := ?_) (a' := ?_) #[true, true, true, true, true, true, true, true, true, true, true, true, false, false, false, false, false] rfl rfl (any_of HT_.out (by kernel_rfl)) (fun _ _ _ h => h) (Or.inl ⟨by rfl, ?_⟩) ?_ ?_
                  rotate_left
                  ·intro w'
                   go_simp
                   with_reducible rfl
                  rotate_left
                  ·simp only [Act.put, List.setIfInBounds_toArray, List.set_cons_zero, List.set_cons_succ, i64_w, i32_w]
                   rfl
                  refine pure_ (i := 12) (N := some 52) (v := ?_) (a' := ?_) #[true, true, true, true, true, true, true, true, true, true, true, true, true, false, false, false, false] rfl rfl (any_of HT_.out (by kernel_rfl)) (fun _ _ _ h => h) (Or.inl ⟨by rfl, ?_⟩) ?_ ?_
                  rotate_left
                  ·intro w'
                   go_simp
                   with_reducible rfl
                  rotate_left
                  ·simp only [Act.put, List.setIfInBounds_toArray, List.set_cons_zero, List.set_cons_succ, i64_w, i32_w]
                   rfl
                  refine one_ (i := 13) (N := some 8) #[true, true, true, true, true, true, true, true, true, true, true, true, true, true, false, false, false] rfl rfl (one_of HT_.out (by kernel_rfl)) (by decide) (fun K hK => ?_)
                  refine box_step ?hg (N := 8) ?hd (cs := #[.string (⟨#[]⟩ : ByteArray), .int .i64 0]) (t := 26) ?hr ?_; (case hd => rfl); (case hg => rfl); (case hr => first | (go_simp; done) | (go_simp; rfl))
                  intro gb135 hg w49 hbox hb
                  have n0_ := Aside0.mk (Kd.R_below (by (with_reducible repeat (first | apply Kd.R_alloc | apply Kd.R_drewN | apply Kd.R_drew)); exact HO117.out) hb); have n1_ := Aside0.mk (Kd.R_below (by (with_reducible repeat (first | apply Kd.R_alloc | apply Kd.R_drewN | apply Kd.R_drew)); exact HO122.out) hb); have n2_ := Aside0.mk (Kd.R_below (by (with_reducible repeat (first | apply Kd.R_alloc | apply Kd.R_drewN | apply Kd.R_drew)); exact HO128.out) hb); have n3_ := Aside0.mk (Kd.R_below (by (with_reducible repeat (first | apply Kd.R_alloc | apply Kd.R_drewN | apply Kd.R_drew)); exact HO133.out) hb); have n4_ := Aside0.mk (blk_below (g := gb112) (o := .cells #[.string a0_0, .int .i64 a0_1] 26 (0, 0)) (by (with_reducible repeat (first | refine blk_drewN ?_ _ | refine blk_drew ?_ | refine blk_alloc ?_ _)); exact BK112.out) hb); have n5_ := Aside0.mk (blk_below (g := gb124) (o := .cells #[.string t118, .int .i64 t119] 26 (0, 0)) (by (with_reducible repeat (first | refine blk_drewN ?_ _ | refine blk_drew ?_ | refine blk_alloc ?_ _)); exact BK124.out) hb); have n6_ := Aside0.mk (below_step (by repeat (first | (with_reducible first | exact HB.out | apply below_alloc | apply pw_below_drewN | apply below_drew1 | refine below_set ?_ GE112.out | refine below_set ?_ GE124.out) | exact HB.out)) hb); have n7_ := Aside0.mk (hbox); have n8_ := Aside0.mk ((by rw [hg]; exact (below_size (by repeat (first | (with_reducible first | exact HB.out | apply below_alloc | apply pw_below_drewN | apply below_drew1 | refine below_set ?_ GE112.out | refine below_set ?_ GE124.out) | exact HB.out))) : w.heap.size ≤ gb135)); have n9_ := Aside0.mk ((by rw [hg]; exact (below_size (by repeat (first | (with_reducible first | exact HB.out | apply below_alloc | apply pw_below_drewN | apply below_drew1 | refine below_set ?_ GE112.out | refine below_set ?_ GE124.out) | exact HB.out))) : w.heap.size ≤ gb135)); have n10_ := Aside0.mk ((by rw [hg]; exact Nat.ne_of_lt (blk_lt (g := gb112) (o := .cells #[.string a0_0, .int .i64 a0_1] 26 (0, 0)) (by (with_reducible repeat (first | refine blk_drewN ?_ _ | refine blk_drew ?_ | refine blk_alloc ?_ _)); exact BK112.out)) : gb112 ≠ gb135)); have n11_ := Aside0.mk ((by rw [hg]; exact Nat.ne_of_gt (blk_lt (g := gb112) (o := .cells #[.string a0_0, .int .i64 a0_1] 26 (0, 0)) (by (with_reducible repeat (first | refine blk_drewN ?_ _ | refine blk_drew ?_ | refine blk_alloc ?_ _)); exact BK112.out)) : gb135 ≠ gb112)); have n12_ := Aside0.mk ((by rw [hg]; exact Nat.ne_of_lt (blk_lt (g := gb124) (o := .cells #[.string t118, .int .i64 t119] 26 (0, 0)) (by (with_reducible repeat (first | refine blk_drewN ?_ _ | refine blk_drew ?_ | refine blk_alloc ?_ _)); exact BK124.out)) : gb124 ≠ gb135)); have n13_ := Aside0.mk ((by rw [hg]; exact Nat.ne_of_gt (blk_lt (g := gb124) (o := .cells #[.string t118, .int .i64 t119] 26 (0, 0)) (by (with_reducible repeat (first | refine blk_drewN ?_ _ | refine blk_drew ?_ | refine blk_alloc ?_ _)); exact BK124.out)) : gb135 ≠ gb124)); clear HO117; clear HO122; clear HO128; clear HO133; clear BK112; clear BK124; clear HB; have HO117 := n0_; have HO122 := n1_; have HO128 := n2_; have HO133 := n3_; have BK112 := n4_; have BK124 := n5_; have HB := n6_; have BK135 := n7_; have GW135 := n8_; have GE135 := n9_; have NB112_135 := n10_; have NB135_112 := n11_; have NB124_135 := n12_; have NB135_124 := n13_; clear n0_ n1_ n2_ n3_ n4_ n5_ n6_ n7_ n8_ n9_ n10_ n11_ n12_ n13_; clear hb hbox hg
                  refine hK.out _ _ ⟨(blk_cell BK112.out 0).trans rfl, (blk_cell BK112.out 1).trans rfl⟩ (fun hHeld => ?_)
                  clear hK K
                  refine norm_ (a' := ?_) ?_ ?_
                  rotate_left
                  ·show Act.put _ (some 8) _ = _
                   simp only [Act.put, List.setIfInBounds_toArray, List.set_cons_zero, List.set_cons_succ, i64_w, i32_w]
                   rfl
                  exact norm_ (by simp only [putAll, Act.put, List.setIfInBounds_toArray, List.set_cons_zero, List.set_cons_succ]) (hCont (.slice Ao47 y126.length co47, v132, gb135) _ ⟨hHeld, (by (with_reducible repeat (first | apply Kd.R_alloc | apply Kd.R_drewN | apply Kd.R_drew)); exact Kd.R_mono HO117.out (fun _ hk => hk.2)), (by (with_reducible repeat (first | apply Kd.R_alloc | apply Kd.R_drewN | apply Kd.R_drew)); exact Kd.R_mono HO122.out (fun _ hk => hk.2)), (by (with_reducible repeat (first | apply Kd.R_alloc | apply Kd.R_drewN | apply Kd.R_drew)); exact Kd.R_mono HO128.out (fun _ hk => hk.2)), (by (with_reducible repeat (first | apply Kd.R_alloc | apply Kd.R_drewN | apply Kd.R_drew)); exact Kd.R_mono HO133.out (fun _ hk => hk.2)), (by (with_reducible repeat (first | refine blk_drewN ?_ _ | refine blk_drew ?_ | refine blk_alloc ?_ _)); exact BK112.out), (by (with_reducible repeat (first | refine blk_drewN ?_ _ | refine blk_drew ?_ | refine blk_alloc ?_ _)); exact BK124.out), (by (with_reducible repeat (first | refine blk_drewN ?_ _ | refine blk_drew ?_ | refine blk_alloc ?_ _)); exact BK135.out), GW135.out, GE135.out, NB112_135.out, NB135_112.out, NB124_135.out, NB135_124.out, (by repeat (first | (with_reducible first | exact HB.out | apply below_alloc | apply pw_below_drewN | apply below_drew1 | refine below_set ?_ GE112.out | refine below_set ?_ GE124.out | refine below_set ?_ GE135.out) | exact HB.out))⟩)
                 ·skip
                  refine box_step ?hg (N := 8) ?hd (cs := #[.string (⟨#[]⟩ : ByteArray), .int .i64 0]) (t := 26) ?hr ?_; (case hd => rfl); (case hg => rfl); (case hr => first | (go_simp; done) | (go_simp; rfl))
                  intro gb135 hg w47 hbox hb
                  have n0_ := Aside0.mk (Kd.R_below (by (with_reducible repeat (first | apply Kd.R_alloc | apply Kd.R_drewN | apply Kd.R_drew)); exact HO117.out) hb); have n1_ := Aside0.mk (Kd.R_below (by (with_reducible repeat (first | apply Kd.R_alloc | apply Kd.R_drewN | apply Kd.R_drew)); exact HO122.out) hb); have n2_ := Aside0.mk (Kd.R_below (by (with_reducible repeat (first | apply Kd.R_alloc | apply Kd.R_drewN | apply Kd.R_drew)); exact HO128.out) hb); have n3_ := Aside0.mk (blk_below (g := gb112) (o := .cells #[.string a0_0, .int .i64 a0_1] 26 (0, 0)) (by (with_reducible repeat (first | refine blk_drewN ?_ _ | refine blk_drew ?_ | refine blk_alloc ?_ _)); exact BK112.out) hb); have n4_ := Aside0.mk (blk_below (g := gb124) (o := .cells #[.string t118, .int .i64 t119] 26 (0, 0)) (by (with_reducible repeat (first | refine blk_drewN ?_ _ | refine blk_drew ?_ | refine blk_alloc ?_ _)); exact BK124.out) hb); have n5_ := Aside0.mk (below_step (by repeat (first | (with_reducible first | exact HB.out | apply below_alloc | apply pw_below_drewN | apply below_drew1 | refine below_set ?_ GE112.out | refine below_set ?_ GE124.out) | exact HB.out)) hb); have n6_ := Aside0.mk (hbox); have n7_ := Aside0.mk ((by rw [hg]; exact (below_size (by repeat (first | (with_reducible first | exact HB.out | apply below_alloc | apply pw_below_drewN | apply below_drew1 | refine below_set ?_ GE112.out | refine below_set ?_ GE124.out) | exact HB.out))) : w.heap.size ≤ gb135)); have n8_ := Aside0.mk ((by rw [hg]; exact (below_size (by repeat (first | (with_reducible first | exact HB.out | apply below_alloc | apply pw_below_drewN | apply below_drew1 | refine below_set ?_ GE112.out | refine below_set ?_ GE124.out) | exact HB.out))) : w.heap.size ≤ gb135)); have n9_ := Aside0.mk ((by rw [hg]; exact Nat.ne_of_lt (blk_lt (g := gb112) (o := .cells #[.string a0_0, .int .i64 a0_1] 26 (0, 0)) (by (with_reducible repeat (first | refine blk_drewN ?_ _ | refine blk_drew ?_ | refine blk_alloc ?_ _)); exact BK112.out)) : gb112 ≠ gb135)); have n10_ := Aside0.mk ((by rw [hg]; exact Nat.ne_of_gt (blk_lt (g := gb112) (o := .cells #[.string a0_0, .int .i64 a0_1] 26 (0, 0)) (by (with_reducible repeat (first | refine blk_drewN ?_ _ | refine blk_drew ?_ | refine blk_alloc ?_ _)); exact BK112.out)) : gb135 ≠ gb112)); have n11_ := Aside0.mk ((by rw [hg]; exact Nat.ne_of_lt (blk_lt (g := gb124) (o := .cells #[.string t118, .int .i64 t119] 26 (0, 0)) (by (with_reducible repeat (first | refine blk_drewN ?_ _ | refine blk_drew ?_ | refine blk_alloc ?_ _)); exact BK124.out)) : gb124 ≠ gb135)); have n12_ := Aside0.mk ((by rw [hg]; exact Nat.ne_of_gt (blk_lt (g := gb124) (o := .cells #[.string t118, .int .i64 t119] 26 (0, 0)) (by (with_reducible repeat (first | refine blk_drewN ?_ _ | refine blk_drew ?_ | refine blk_alloc ?_ _)); exact BK124.out)) : gb135 ≠ gb124)); clear HO117; clear HO122; clear HO128; clear BK112; clear BK124; clear HB; have HO117 := n0_; have HO122 := n1_; have HO128 := n2_; have BK112 := n3_; have BK124 := n4_; have HB := n5_; have BK135 := n6_; have GW135 := n7_; have GE135 := n8_; have NB112_135 := n9_; have NB135_112 := n10_; have NB124_135 := n11_; have NB135_124 := n12_; clear n0_ n1_ n2_ n3_ n4_ n5_ n6_ n7_ n8_ n9_ n10_ n11_ n12_; clear hb hbox hg
                  obtain ⟨Ao48, co48, eo48⟩ := Kd.R_slice HO128.out
                  (first | subst eo48 | (injection eo48 with f1_ f2_ f3_; have f4_ := f1_.symm; have f5_ := f3_.symm; clear f1_ f2_ f3_; subst f4_; subst f5_))
                  refine hK.out _ _ ⟨(blk_cell BK112.out 0).trans rfl, (blk_cell BK112.out 1).trans rfl⟩ (fun hHeld => ?_)
                  clear hK K
                  refine norm_ (a' := ?_) ?_ ?_
                  rotate_left
                  ·show Act.put _ (some 8) _ = _
                   simp only [Act.put, List.setIfInBounds_toArray, List.set_cons_zero, List.set_cons_succ, i64_w, i32_w]
                   rfl
                  refine one_ (i := 8) (N := some 49) #[true, true, true, true, true, true, true, true, true, false, false, false, false, true, false, false, false] rfl rfl (one_of HT_.out (by kernel_rfl)) (by decide) (fun K hK => ?_)
                  refine goes_ Tryd.func11 (by kernel_rfl) rfl #[.agg #[.string a0_0, .int .i64 a0_1], .slice Ao48 y126.length co48] (by rfl) rfl rfl (by (try simp only [List.map_toArray, List.map_cons, List.map_nil]); first | done | rfl | (simp only [List.length_drop, List.length_take]; rfl) | (simp only [Int.toNat_natCast, ByteArray.extract_zero_size]; rfl)) ?_
                  with_reducible refine (impl_EditedFrom.calls a0_0 a0_1 _ _ y126 t129 t130 t131 true _ ?side1 ?side2 A23.out).mono ?_
                  (case side1 => repeat (first | exact (Kd.R_reads' HO128.out).2.2 | (with_reducible refine Kd.C_alloc ?_ _) | (with_reducible refine Kd.C_drewN ?_ _) | (with_reducible refine Kd.C_drew ?_)))
                  (case side2 => exact (Kd.R_reads' HO128.out).2.1)
                  rintro e w49 ⟨v132, rfl, ho0, hb⟩
                  refine ⟨_, rfl, ?_⟩
                  have n0_ := Aside0.mk (Kd.R_below (by (with_reducible repeat (first | apply Kd.R_alloc | apply Kd.R_drewN | apply Kd.R_drew)); exact HO117.out) hb); have n1_ := Aside0.mk (Kd.R_elder' (by (with_reducible repeat (first | apply Kd.R_alloc | apply Kd.R_drewN | apply Kd.R_drew)); exact HO122.out) (Kd.R_base ho0) hb); have n2_ := Aside0.mk (Kd.R_below (by (with_reducible repeat (first | apply Kd.R_alloc | apply Kd.R_drewN | apply Kd.R_drew)); exact HO128.out) hb); have n3_ := Aside0.mk (Kd.R_lower (Kd.R_new' ho0 (Kd.R_lt (by (with_reducible repeat (first | apply Kd.R_alloc | apply Kd.R_drewN | apply Kd.R_drew)); exact HO122.out))) (below_size (by repeat (first | (with_reducible first | exact HB.out | apply below_alloc | apply pw_below_drewN | apply below_drew1 | refine below_set ?_ GE112.out | refine below_set ?_ GE124.out | refine below_set ?_ GE135.out) | exact HB.out)))); have n4_ := Aside0.mk (blk_below (g := gb112) (o := .cells #[.string a0_0, .int .i64 a0_1] 26 (0, 0)) (by (with_reducible repeat (first | refine blk_drewN ?_ _ | refine blk_drew ?_ | refine blk_alloc ?_ _)); exact BK112.out) hb); have n5_ := Aside0.mk (blk_below (g := gb124) (o := .cells #[.string t118, .int .i64 t119] 26 (0, 0)) (by (with_reducible repeat (first | refine blk_drewN ?_ _ | refine blk_drew ?_ | refine blk_alloc ?_ _)); exact BK124.out) hb); have n6_ := Aside0.mk (blk_below (g := gb135) (o := .cells #[.string (⟨#[]⟩ : ByteArray), .int .i64 0] 26 (0, 0)) (by (with_reducible repeat (first | refine blk_drewN ?_ _ | refine blk_drew ?_ | refine blk_alloc ?_ _)); exact BK135.out) hb); have n7_ := Aside0.mk (below_step (by repeat (first | (with_reducible first | exact HB.out | apply below_alloc | apply pw_below_drewN | apply below_drew1 | refine below_set ?_ GE112.out | refine below_set ?_ GE124.out | refine below_set ?_ GE135.out) | exact HB.out)) hb); clear HO117; clear HO122; clear HO128; clear BK112; clear BK124; clear BK135; clear HB; have HO117 := n0_; have HO122 := n1_; have HO128 := n2_; have HO133 := n3_; have BK112 := n4_; have BK124 := n5_; have BK135 := n6_; have HB := n7_; clear n0_ n1_ n2_ n3_ n4_ n5_ n6_ n7_; (try clear hb); (try clear hb2); (try clear hk); (try clear hi); (try clear ho0)
                  refine hK.out _ _ ⟨(blk_cell BK112.out 0).trans rfl, (blk_cell BK112.out 1).trans rfl⟩ (fun hHeld => ?_)
                  clear hK K
                  refine norm_ (a' := ?_) ?_ ?_
                  rotate_left
                  ·show Act.put _ (some 49) _ = _
                   simp only [Act.put, List.setIfInBounds_toArray, List.set_cons_zero, List.set_cons_succ, i64_w, i32_w]
                   rfl
                  refine pure_ (i := 9) (N := some 40) (v := ?_) (a' := ?_) #[true, true, true, true, true, true, true, true, true, true, false, false, false, true, false, false, false] rfl rfl (any_of HT_.out (by kernel_rfl)) (fun _ _ _ h => h) (Or.inl ⟨by rfl, ?_⟩) ?_ ?_
                  rotate_left
                  ·intro w'
                   go_simp
                   with_reducible rfl
                  rotate_left
                  ·simp only [Act.put, List.setIfInBounds_toArray, List.set_cons_zero, List.set_cons_succ, i64_w, i32_w]
                   rfl
                  refine pure_ (i := 10) (N := some 50) (v := ?_) (a' := ?_) #[true, true, true, true, true, true, true, true, true, true, true, false, false, true, false, false, false] rfl rfl (any_of HT_.out (by kernel_rfl)) (fun _ _ _ h => h) (Or.inl ⟨by rfl, ?_⟩) ?_ ?_
                  rotate_left
                  ·intro w'
                   go_simp
                   with_reducible rfl
                  rotate_left
                  ·simp only [Act.put, List.setIfInBounds_toArray, List.set_cons_zero, List.set_cons_succ, i64_w, i32_w]
                   rfl
                  refine pure_ (i := 11) (N := some 51) (v := ?_) (a' := ?_) #[true, true, true, true, true, true, true, true, true, true, true, true, false, true, false, false, false] rfl rfl (any_of HT_.out (by kernel_rfl)) (fun _ _ _ h => h) (Or.inl ⟨by rfl, ?_⟩) ?_ ?_
                  rotate_left
                  ·intro w'
                   go_simp
                   with_reducible rfl
                  rotate_left
                  ·simp only [Act.put, List.setIfInBounds_toArray, List.set_cons_zero, List.set_cons_succ, i64_w, i32_w]
                   rfl
                  refine pure_ (i := 12) (N := some 52) (v := ?_) (a' := ?_) #[true, true, true, true, true, true, true, true, true, true, true, true, true, true, false, false, false] rfl rfl (any_of HT_.out (by kernel_rfl)) (fun _ _ _ h => h) (Or.inl ⟨by rfl, ?_⟩) ?_ ?_
                  rotate_left
                  ·intro w'
                   go_simp
                   with_reducible rfl
                  rotate_left
                  ·simp only [Act.put, List.setIfInBounds_toArray, List.set_cons_zero, List.set_cons_succ, i64_w, i32_w]
                   rfl
                  exact norm_ (by simp only [putAll, Act.put, List.setIfInBounds_toArray, List.set_cons_zero, List.set_cons_succ]) (hCont (.slice Ao48 y126.length co48, v132, gb135) _ ⟨hHeld, (by (with_reducible repeat (first | apply Kd.R_alloc | apply Kd.R_drewN | apply Kd.R_drew)); exact Kd.R_mono HO117.out (fun _ hk => hk.2)), (by (with_reducible repeat (first | apply Kd.R_alloc | apply Kd.R_drewN | apply Kd.R_drew)); exact Kd.R_mono HO122.out (fun _ hk => hk.2)), (by (with_reducible repeat (first | apply Kd.R_alloc | apply Kd.R_drewN | apply Kd.R_drew)); exact Kd.R_mono HO128.out (fun _ hk => hk.2)), (by (with_reducible repeat (first | apply Kd.R_alloc | apply Kd.R_drewN | apply Kd.R_drew)); exact Kd.R_mono HO133.out (fun _ hk => hk.2)), (by (with_reducible repeat (first | refine blk_drewN ?_ _ | refine blk_drew ?_ | refine blk_alloc ?_ _)); exact BK112.out), (by (with_reducible repeat (first | refine blk_drewN ?_ _ | refine blk_drew ?_ | refine blk_alloc ?_ _)); exact BK124.out), (by (with_reducible repeat (first | refine blk_drewN ?_ _ | refine blk_drew ?_ | refine blk_alloc ?_ _)); exact BK135.out), GW135.out, GE135.out, NB112_135.out, NB135_112.out, NB124_135.out, NB135_124.out, (by repeat (first | (with_reducible first | exact HB.out | apply below_alloc | apply pw_below_drewN | apply below_drew1 | refine below_set ?_ GE112.out | refine below_set ?_ GE124.out | refine below_set ?_ GE135.out) | exact HB.out))⟩)
                ·skip
                 refine box_step ?hg (N := 8) ?hd (cs := #[.string (⟨#[]⟩ : ByteArray), .int .i64 0]) (t := 26) ?hr ?_; (case hd => rfl); (case hg => rfl); (case hr => first | (go_simp; done) | (go_simp; rfl))
                 intro gb135 hg w45 hbox hb
                 have n0_ := Aside0.mk (Kd.R_below (by (with_reducible repeat (first | apply Kd.R_alloc | apply Kd.R_drewN | apply Kd.R_drew)); exact HO117.out) hb); have n1_ := Aside0.mk (Kd.R_below (by (with_reducible repeat (first | apply Kd.R_alloc | apply Kd.R_drewN | apply Kd.R_drew)); exact HO122.out) hb); have n2_ := Aside0.mk (blk_below (g := gb112) (o := .cells #[.string a0_0, .int .i64 a0_1] 26 (0, 0)) (by (with_reducible repeat (first | refine blk_drewN ?_ _ | refine blk_drew ?_ | refine blk_alloc ?_ _)); exact BK112.out) hb); have n3_ := Aside0.mk (blk_below (g := gb124) (o := .cells #[.string t118, .int .i64 t119] 26 (0, 0)) (by (with_reducible repeat (first | refine blk_drewN ?_ _ | refine blk_drew ?_ | refine blk_alloc ?_ _)); exact BK124.out) hb); have n4_ := Aside0.mk (below_step (by repeat (first | (with_reducible first | exact HB.out | apply below_alloc | apply pw_below_drewN | apply below_drew1 | refine below_set ?_ GE112.out | refine below_set ?_ GE124.out) | exact HB.out)) hb); have n5_ := Aside0.mk (hbox); have n6_ := Aside0.mk ((by rw [hg]; exact (below_size (by repeat (first | (with_reducible first | exact HB.out | apply below_alloc | apply pw_below_drewN | apply below_drew1 | refine below_set ?_ GE112.out | refine below_set ?_ GE124.out) | exact HB.out))) : w.heap.size ≤ gb135)); have n7_ := Aside0.mk ((by rw [hg]; exact (below_size (by repeat (first | (with_reducible first | exact HB.out | apply below_alloc | apply pw_below_drewN | apply below_drew1 | refine below_set ?_ GE112.out | refine below_set ?_ GE124.out) | exact HB.out))) : w.heap.size ≤ gb135)); have n8_ := Aside0.mk ((by rw [hg]; exact Nat.ne_of_lt (blk_lt (g := gb112) (o := .cells #[.string a0_0, .int .i64 a0_1] 26 (0, 0)) (by (with_reducible repeat (first | refine blk_drewN ?_ _ | refine blk_drew ?_ | refine blk_alloc ?_ _)); exact BK112.out)) : gb112 ≠ gb135)); have n9_ := Aside0.mk ((by rw [hg]; exact Nat.ne_of_gt (blk_lt (g := gb112) (o := .cells #[.string a0_0, .int .i64 a0_1] 26 (0, 0)) (by (with_reducible repeat (first | refine blk_drewN ?_ _ | refine blk_drew ?_ | refine blk_alloc ?_ _)); exact BK112.out)) : gb135 ≠ gb112)); have n10_ := Aside0.mk ((by rw [hg]; exact Nat.ne_of_lt (blk_lt (g := gb124) (o := .cells #[.string t118, .int .i64 t119] 26 (0, 0)) (by (with_reducible repeat (first | refine blk_drewN ?_ _ | refine blk_drew ?_ | refine blk_alloc ?_ _)); exact BK124.out)) : gb124 ≠ gb135)); have n11_ := Aside0.mk ((by rw [hg]; exact Nat.ne_of_gt (blk_lt (g := gb124) (o := .cells #[.string t118, .int .i64 t119] 26 (0, 0)) (by (with_reducible repeat (first | refine blk_drewN ?_ _ | refine blk_drew ?_ | refine blk_alloc ?_ _)); exact BK124.out)) : gb135 ≠ gb124)); clear HO117; clear HO122; clear BK112; clear BK124; clear HB; have HO117 := n0_; have HO122 := n1_; have BK112 := n2_; have BK124 := n3_; have HB := n4_; have BK135 := n5_; have GW135 := n6_; have GE135 := n7_; have NB112_135 := n8_; have NB135_112 := n9_; have NB124_135 := n10_; have NB135_124 := n11_; clear n0_ n1_ n2_ n3_ n4_ n5_ n6_ n7_ n8_ n9_ n10_ n11_; clear hb hbox hg
                 refine hK.out _ _ ⟨(blk_cell BK112.out 0).trans rfl, (blk_cell BK112.out 1).trans rfl⟩ (fun hHeld => ?_)
                 clear hK K
                 refine norm_ (a' := ?_) ?_ ?_
                 rotate_left
                 ·show Act.put _ (some 8) _ = _
                  simp only [Act.put, List.setIfInBounds_toArray, List.set_cons_zero, List.set_cons_succ, i64_w, i32_w]
                  rfl
                 refine one_ (i := 7) (N := some 48) #[true, true, true, true, true, true, true, true, false, false, false, false, false, true, false, false, false] rfl rfl (one_of HT_.out (by kernel_rfl)) (by decide) (fun K hK => ?_)
                 refine Kd.R_lit_step k30 _ 30 ?hg (N := 48) ?hd (xs := ([(⟨8, ji22, (⟨#[]⟩ : ByteArray), false⟩ : S30)] : List (S30))) (inner := [.int .i64 8, .int .i64 ji22, .string (⟨#[]⟩ : ByteArray), .bool false]) (ok := fun _ => True) (okp := fun _ => True) ?hr ?hp (fun _ hk => hk) trivial (Below.refl _ _) (Nat.le_refl _) (by simp) ?_; (case hd => rfl); (case hg => rfl); (case hr => first | (go_simp; done) | (go_simp; rfl)); (case hp => exact (Reps.c4 (show Kd.M k30 _ _ _ (⟨8, ji22, (⟨#[]⟩ : ByteArray), false⟩ : S30) [.int .i64 8, .int .i64 ji22, .string (⟨#[]⟩ : ByteArray), .bool false] from (k30_mkM _ _ _ (⟨8, ji22, (⟨#[]⟩ : ByteArray), false⟩ : S30) )) (Reps.none _ _)))
                 intro v127 w46 ho47 hb hg_ hnew_
                 clear hg_ hnew_
                 (first | rw [← Ny126.out] at ho47 | (simp only [Int.reduceToNat] at ho47; rw [← Ny126.out] at ho47))
                 have n0_ := Aside0.mk (Kd.R_elder' (by (with_reducible repeat (first | apply Kd.R_alloc | apply Kd.R_drewN | apply Kd.R_drew)); exact HO117.out) (Kd.R_base ho47) hb); have n1_ := Aside0.mk (Kd.R_below (by (with_reducible repeat (first | apply Kd.R_alloc | apply Kd.R_drewN | apply Kd.R_drew)); exact HO122.out) hb); have n2_ := Aside0.mk (Kd.R_lower (Kd.R_new' ho47 (Kd.R_lt (by (with_reducible repeat (first | apply Kd.R_alloc | apply Kd.R_drewN | apply Kd.R_drew)); exact HO117.out))) (below_size (by repeat (first | (with_reducible first | exact HB.out | apply below_alloc | apply pw_below_drewN | apply below_drew1 | refine below_set ?_ GE112.out | refine below_set ?_ GE124.out | refine below_set ?_ GE135.out) | exact HB.out)))); have n3_ := Aside0.mk (blk_below (g := gb112) (o := .cells #[.string a0_0, .int .i64 a0_1] 26 (0, 0)) (by (with_reducible repeat (first | refine blk_drewN ?_ _ | refine blk_drew ?_ | refine blk_alloc ?_ _)); exact BK112.out) hb); have n4_ := Aside0.mk (blk_below (g := gb124) (o := .cells #[.string t118, .int .i64 t119] 26 (0, 0)) (by (with_reducible repeat (first | refine blk_drewN ?_ _ | refine blk_drew ?_ | refine blk_alloc ?_ _)); exact BK124.out) hb); have n5_ := Aside0.mk (blk_below (g := gb135) (o := .cells #[.string (⟨#[]⟩ : ByteArray), .int .i64 0] 26 (0, 0)) (by (with_reducible repeat (first | refine blk_drewN ?_ _ | refine blk_drew ?_ | refine blk_alloc ?_ _)); exact BK135.out) hb); have n6_ := Aside0.mk (below_step (by repeat (first | (with_reducible first | exact HB.out | apply below_alloc | apply pw_below_drewN | apply below_drew1 | refine below_set ?_ GE112.out | refine below_set ?_ GE124.out | refine below_set ?_ GE135.out) | exact HB.out)) hb); clear HO117; clear HO122; clear BK112; clear BK124; clear BK135; clear HB; have HO117 := n0_; have HO122 := n1_; have HO128 := n2_; have BK112 := n3_; have BK124 := n4_; have BK135 := n5_; have HB := n6_; clear n0_ n1_ n2_ n3_ n4_ n5_ n6_; clear hb ho47
                 obtain ⟨Ao48, co48, eo48⟩ := Kd.R_slice HO128.out
                 (first | subst eo48 | (injection eo48 with f1_ f2_ f3_; have f4_ := f1_.symm; have f5_ := f3_.symm; clear f1_ f2_ f3_; subst f4_; subst f5_))
                 refine hK.out _ _ ⟨(blk_cell BK112.out 0).trans rfl, (blk_cell BK112.out 1).trans rfl⟩ (fun hHeld => ?_)
                 clear hK K
                 refine norm_ (a' := ?_) ?_ ?_
                 rotate_left
                 ·show Act.put _ (some 48) _ = _
                  simp only [Act.put, List.setIfInBounds_toArray, List.set_cons_zero, List.set_cons_succ, i64_w, i32_w]
                  rfl
                 refine one_ (i := 8) (N := some 49) #[true, true, true, true, true, true, true, true, true, false, false, false, false, true, false, false, false] rfl rfl (one_of HT_.out (by kernel_rfl)) (by decide) (fun K hK => ?_)
                 refine goes_ Tryd.func11 (by kernel_rfl) rfl #[.agg #[.string a0_0, .int .i64 a0_1], .slice Ao48 y126.length co48] (by rfl) rfl rfl (by (try simp only [List.map_toArray, List.map_cons, List.map_nil]); first | done | rfl | (simp only [List.length_drop, List.length_take]; rfl) | (simp only [Int.toNat_natCast, ByteArray.extract_zero_size]; rfl)) ?_
                 with_reducible refine (impl_EditedFrom.calls a0_0 a0_1 _ _ y126 t129 t130 t131 true _ ?side1 ?side2 A23.out).mono ?_
                 (case side1 => repeat (first | exact (Kd.R_reads' HO128.out).2.2 | (with_reducible refine Kd.C_alloc ?_ _) | (with_reducible refine Kd.C_drewN ?_ _) | (with_reducible refine Kd.C_drew ?_)))
                 (case side2 => exact (Kd.R_reads' HO128.out).2.1)
                 rintro e w49 ⟨v132, rfl, ho0, hb⟩
                 refine ⟨_, rfl, ?_⟩
                 have n0_ := Aside0.mk (Kd.R_below (by (with_reducible repeat (first | apply Kd.R_alloc | apply Kd.R_drewN | apply Kd.R_drew)); exact HO117.out) hb); have n1_ := Aside0.mk (Kd.R_elder' (by (with_reducible repeat (first | apply Kd.R_alloc | apply Kd.R_drewN | apply Kd.R_drew)); exact HO122.out) (Kd.R_base ho0) hb); have n2_ := Aside0.mk (Kd.R_below (by (with_reducible repeat (first | apply Kd.R_alloc | apply Kd.R_drewN | apply Kd.R_drew)); exact HO128.out) hb); have n3_ := Aside0.mk (Kd.R_lower (Kd.R_new' ho0 (Kd.R_lt (by (with_reducible repeat (first | apply Kd.R_alloc | apply Kd.R_drewN | apply Kd.R_drew)); exact HO122.out))) (below_size (by repeat (first | (with_reducible first | exact HB.out | apply below_alloc | apply pw_below_drewN | apply below_drew1 | refine below_set ?_ GE112.out | refine below_set ?_ GE124.out | refine below_set ?_ GE135.out) | exact HB.out)))); have n4_ := Aside0.mk (blk_below (g := gb112) (o := .cells #[.string a0_0, .int .i64 a0_1] 26 (0, 0)) (by (with_reducible repeat (first | refine blk_drewN ?_ _ | refine blk_drew ?_ | refine blk_alloc ?_ _)); exact BK112.out) hb); have n5_ := Aside0.mk (blk_below (g := gb124) (o := .cells #[.string t118, .int .i64 t119] 26 (0, 0)) (by (with_reducible repeat (first | refine blk_drewN ?_ _ | refine blk_drew ?_ | refine blk_alloc ?_ _)); exact BK124.out) hb); have n6_ := Aside0.mk (blk_below (g := gb135) (o := .cells #[.string (⟨#[]⟩ : ByteArray), .int .i64 0] 26 (0, 0)) (by (with_reducible repeat (first | refine blk_drewN ?_ _ | refine blk_drew ?_ | refine blk_alloc ?_ _)); exact BK135.out) hb); have n7_ := Aside0.mk (below_step (by repeat (first | (with_reducible first | exact HB.out | apply below_alloc | apply pw_below_drewN | apply below_drew1 | refine below_set ?_ GE112.out | refine below_set ?_ GE124.out | refine below_set ?_ GE135.out) | exact HB.out)) hb); clear HO117; clear HO122; clear HO128; clear BK112; clear BK124; clear BK135; clear HB; have HO117 := n0_; have HO122 := n1_; have HO128 := n2_; have HO133 := n3_; have BK112 := n4_; have BK124 := n5_; have BK135 := n6_; have HB := n7_; clear n0_ n1_ n2_ n3_ n4_ n5_ n6_ n7_; (try clear hb); (try clear hb2); (try clear hk); (try clear hi); (try clear ho0)
                 refine hK.out _ _ ⟨(blk_cell BK112.out 0).trans rfl, (blk_cell BK112.out 1).trans rfl⟩ (fun hHeld => ?_)
                 clear hK K
                 refine norm_ (a' := ?_) ?_ ?_
                 rotate_left
                 ·show Act.put _ (some 49) _ = _
                  simp only [Act.put, List.setIfInBounds_toArray, List.set_cons_zero, List.set_cons_succ, i64_w, i32_w]
                  rfl
                 refine pure_ (i := 9) (N := some 40) (v := ?_) (a' := ?_) #[true, true, true, true, true, true, true, true, true, true, false, false, false, true, false, false, false] rfl rfl (any_of HT_.out (by kernel_rfl)) (fun _ _ _ h => h) (Or.inl ⟨by rfl, ?_⟩) ?_ ?_
                 rotate_left
                 ·intro w'
                  go_simp
                  with_reducible rfl
                 rotate_left
                 ·simp only [Act.put, List.setIfInBounds_toArray, List.set_cons_zero, List.set_cons_succ, i64_w, i32_w]
                  rfl
                 refine pure_ (i := 10) (N := some 50) (v := ?_) (a' := ?_) #[true, true, true, true, true, true, true, true, true, true, true, false, false, true, false, false, false] rfl rfl (any_of HT_.out (by kernel_rfl)) (fun _ _ _ h => h) (Or.inl ⟨by rfl, ?_⟩) ?_ ?_
                 rotate_left
                 ·intro w'
                  go_simp
                  with_reducible rfl
                 rotate_left
                 ·simp only [Act.put, List.setIfInBounds_toArray, List.set_cons_zero, List.set_cons_succ, i64_w, i32_w]
                  rfl
                 refine pure_ (i := 11) (N := some 51) (v := ?_) (a' := ?_) #[true, true, true, true, true, true, true, true, true, true, true, true, false, true, false, false, false] rfl rfl (any_of HT_.out (by kernel_rfl)) (fun _ _ _ h => h) (Or.inl ⟨by rfl, ?_⟩) ?_ ?_
                 rotate_left
                 ·intro w'
                  go_simp
                  with_reducible rfl
                 rotate_left
                 ·simp only [Act.put, List.setIfInBounds_toArray, List.set_cons_zero, List.set_cons_succ, i64_w, i32_w]
                  rfl
                 refine pure_ (i := 12) (N := some 52) (v := ?_) (a' := ?_) #[true, true, true, true, true, true, true, true, true, true, true, true, true, true, false, false, false] rfl rfl (any_of HT_.out (by kernel_rfl)) (fun _ _ _ h => h) (Or.inl ⟨by rfl, ?_⟩) ?_ ?_
                 rotate_left
                 ·intro w'
                  go_simp
                  with_reducible rfl
                 rotate_left
                 ·simp only [Act.put, List.setIfInBounds_toArray, List.set_cons_zero, List.set_cons_succ, i64_w, i32_w]
                  rfl
                 exact norm_ (by simp only [putAll, Act.put, List.setIfInBounds_toArray, List.set_cons_zero, List.set_cons_succ]) (hCont (.slice Ao48 y126.length co48, v132, gb135) _ ⟨hHeld, (by (with_reducible repeat (first | apply Kd.R_alloc | apply Kd.R_drewN | apply Kd.R_drew)); exact Kd.R_mono HO117.out (fun _ hk => hk.2)), (by (with_reducible repeat (first | apply Kd.R_alloc | apply Kd.R_drewN | apply Kd.R_drew)); exact Kd.R_mono HO122.out (fun _ hk => hk.2)), (by (with_reducible repeat (first | apply Kd.R_alloc | apply Kd.R_drewN | apply Kd.R_drew)); exact Kd.R_mono HO128.out (fun _ hk => hk.2)), (by (with_reducible repeat (first | apply Kd.R_alloc | apply Kd.R_drewN | apply Kd.R_drew)); exact Kd.R_mono HO133.out (fun _ hk => hk.2)), (by (with_reducible repeat (first | refine blk_drewN ?_ _ | refine blk_drew ?_ | refine blk_alloc ?_ _)); exact BK112.out), (by (with_reducible repeat (first | refine blk_drewN ?_ _ | refine blk_drew ?_ | refine blk_alloc ?_ _)); exact BK124.out), (by (with_reducible repeat (first | refine blk_drewN ?_ _ | refine blk_drew ?_ | refine blk_alloc ?_ _)); exact BK135.out), GW135.out, GE135.out, NB112_135.out, NB135_112.out, NB124_135.out, NB135_124.out, (by repeat (first | (with_reducible first | exact HB.out | apply below_alloc | apply pw_below_drewN | apply below_drew1 | refine below_set ?_ GE112.out | refine below_set ?_ GE124.out | refine below_set ?_ GE135.out) | exact HB.out))⟩)
               ·skip
                refine box_step ?hg (N := 8) ?hd (cs := #[.string (⟨#[]⟩ : ByteArray), .int .i64 0]) (t := 26) ?hr ?_; (case hd => rfl); (case hg => rfl); (case hr => first | (go_simp; done) | (go_simp; rfl))
                intro gb135 hg w44 hbox hb
                have n0_ := Aside0.mk (Kd.R_below (by (with_reducible repeat (first | apply Kd.R_alloc | apply Kd.R_drewN | apply Kd.R_drew)); exact HO117.out) hb); have n1_ := Aside0.mk (Kd.R_below (by (with_reducible repeat (first | apply Kd.R_alloc | apply Kd.R_drewN | apply Kd.R_drew)); exact HO122.out) hb); have n2_ := Aside0.mk (blk_below (g := gb112) (o := .cells #[.string a0_0, .int .i64 a0_1] 26 (0, 0)) (by (with_reducible repeat (first | refine blk_drewN ?_ _ | refine blk_drew ?_ | refine blk_alloc ?_ _)); exact BK112.out) hb); have n3_ := Aside0.mk (blk_below (g := gb124) (o := .cells #[.string t118, .int .i64 t119] 26 (0, 0)) (by (with_reducible repeat (first | refine blk_drewN ?_ _ | refine blk_drew ?_ | refine blk_alloc ?_ _)); exact BK124.out) hb); have n4_ := Aside0.mk (below_step (by repeat (first | (with_reducible first | exact HB.out | apply below_alloc | apply pw_below_drewN | apply below_drew1 | refine below_set ?_ GE112.out | refine below_set ?_ GE124.out) | exact HB.out)) hb); have n5_ := Aside0.mk (hbox); have n6_ := Aside0.mk ((by rw [hg]; exact (below_size (by repeat (first | (with_reducible first | exact HB.out | apply below_alloc | apply pw_below_drewN | apply below_drew1 | refine below_set ?_ GE112.out | refine below_set ?_ GE124.out) | exact HB.out))) : w.heap.size ≤ gb135)); have n7_ := Aside0.mk ((by rw [hg]; exact (below_size (by repeat (first | (with_reducible first | exact HB.out | apply below_alloc | apply pw_below_drewN | apply below_drew1 | refine below_set ?_ GE112.out | refine below_set ?_ GE124.out) | exact HB.out))) : w.heap.size ≤ gb135)); have n8_ := Aside0.mk ((by rw [hg]; exact Nat.ne_of_lt (blk_lt (g := gb112) (o := .cells #[.string a0_0, .int .i64 a0_1] 26 (0, 0)) (by (with_reducible repeat (first | refine blk_drewN ?_ _ | refine blk_drew ?_ | refine blk_alloc ?_ _)); exact BK112.out)) : gb112 ≠ gb135)); have n9_ := Aside0.mk ((by rw [hg]; exact Nat.ne_of_gt (blk_lt (g := gb112) (o := .cells #[.string a0_0, .int .i64 a0_1] 26 (0, 0)) (by (with_reducible repeat (first | refine blk_drewN ?_ _ | refine blk_drew ?_ | refine blk_alloc ?_ _)); exact BK112.out)) : gb135 ≠ gb112)); have n10_ := Aside0.mk ((by rw [hg]; exact Nat.ne_of_lt (blk_lt (g := gb124) (o := .cells #[.string t118, .int .i64 t119] 26 (0, 0)) (by (with_reducible repeat (first | refine blk_drewN ?_ _ | refine blk_drew ?_ | refine blk_alloc ?_ _)); exact BK124.out)) : gb124 ≠ gb135)); have n11_ := Aside0.mk ((by rw [hg]; exact Nat.ne_of_gt (blk_lt (g := gb124) (o := .cells #[.string t118, .int .i64 t119] 26 (0, 0)) (by (with_reducible repeat (first | refine blk_drewN ?_ _ | refine blk_drew ?_ | refine blk_alloc ?_ _)); exact BK124.out)) : gb135 ≠ gb124)); clear HO117; clear HO122; clear BK112; clear BK124; clear HB; have HO117 := n0_; have HO122 := n1_; have BK112 := n2_; have BK124 := n3_; have HB := n4_; have BK135 := n5_; have GW135 := n6_; have GE135 := n7_; have NB112_135 := n8_; have NB135_112 := n9_; have NB124_135 := n10_; have NB135_124 := n11_; clear n0_ n1_ n2_ n3_ n4_ n5_ n6_ n7_ n8_ n9_ n10_ n11_; clear hb hbox hg
                refine hK.out _ _ ⟨(blk_cell BK112.out 0).trans rfl, (blk_cell BK112.out 1).trans rfl⟩ (fun hHeld => ?_)
                clear hK K
                refine norm_ (a' := ?_) ?_ ?_
                rotate_left
                ·show Act.put _ (some 8) _ = _
                 simp only [Act.put, List.setIfInBounds_toArray, List.set_cons_zero, List.set_cons_succ, i64_w, i32_w]
                 rfl
                refine one_ (i := 3) (N := some 44) #[true, true, true, true, false, false, false, false, false, false, false, false, false, true, false, false, false] rfl rfl (one_of HT_.out (by kernel_rfl)) (by decide) (fun K hK => ?_)
                refine goes_ Tryd.func12 (by kernel_rfl) rfl #[.agg #[.string a0_0, .int .i64 a0_1]] (by rfl) rfl rfl (by (try simp only [List.map_toArray, List.map_cons, List.map_nil]); first | done | rfl | (simp only [List.length_drop, List.length_take]; rfl) | (simp only [Int.toNat_natCast, ByteArray.extract_zero_size]; rfl)) ?_
                with_reducible refine (spec_After.calls a0_0 a0_1 t125 _ A21.out).mono ?_
                rintro e w45 ⟨rfl, hb⟩
                refine ⟨_, rfl, ?_⟩
                have n0_ := Aside0.mk (Kd.R_below (by (with_reducible repeat (first | apply Kd.R_alloc | apply Kd.R_drewN | apply Kd.R_drew)); exact HO117.out) hb); have n1_ := Aside0.mk (Kd.R_below (by (with_reducible repeat (first | apply Kd.R_alloc | apply Kd.R_drewN | apply Kd.R_drew)); exact HO122.out) hb); have n2_ := Aside0.mk (blk_below (g := gb112) (o := .cells #[.string a0_0, .int .i64 a0_1] 26 (0, 0)) (by (with_reducible repeat (first | refine blk_drewN ?_ _ | refine blk_drew ?_ | refine blk_alloc ?_ _)); exact BK112.out) hb); have n3_ := Aside0.mk (blk_below (g := gb124) (o := .cells #[.string t118, .int .i64 t119] 26 (0, 0)) (by (with_reducible repeat (first | refine blk_drewN ?_ _ | refine blk_drew ?_ | refine blk_alloc ?_ _)); exact BK124.out) hb); have n4_ := Aside0.mk (blk_below (g := gb135) (o := .cells #[.string (⟨#[]⟩ : ByteArray), .int .i64 0] 26 (0, 0)) (by (with_reducible repeat (first | refine blk_drewN ?_ _ | refine blk_drew ?_ | refine blk_alloc ?_ _)); exact BK135.out) hb); have n5_ := Aside0.mk (below_step (by repeat (first | (with_reducible first | exact HB.out | apply below_alloc | apply pw_below_drewN | apply below_drew1 | refine below_set ?_ GE112.out | refine below_set ?_ GE124.out | refine below_set ?_ GE135.out) | exact HB.out)) hb); clear HO117; clear HO122; clear BK112; clear BK124; clear BK135; clear HB; have HO117 := n0_; have HO122 := n1_; have BK112 := n2_; have BK124 := n3_; have BK135 := n4_; have HB := n5_; clear n0_ n1_ n2_ n3_ n4_ n5_; (try clear hb); (try clear hb2); (try clear hk); (try clear hi)
                refine hK.out _ _ ⟨(blk_cell BK112.out 0).trans rfl, (blk_cell BK112.out 1).trans rfl⟩ (fun hHeld => ?_)
                clear hK K
                refine norm_ (a' := ?_) ?_ ?_
                rotate_left
                ·show Act.put _ (some 44) _ = _
                 simp only [Act.put, List.setIfInBounds_toArray, List.set_cons_zero, List.set_cons_succ, i64_w, i32_w]
                 rfl
                refine pure_ (i := 4) (N := some 45) (v := ?_) (a' := ?_) #[true, true, true, true, true, false, false, false, false, false, false, false, false, true, false, false, false] rfl rfl (any_of HT_.out (by kernel_rfl)) (fun _ _ _ h => h) (Or.inl ⟨by rfl, ?_⟩) ?_ ?_
                rotate_left
                ·intro w'
                 go_simp
                 with_reducible rfl
                rotate_left
                ·simp only [Act.put, List.setIfInBounds_toArray, List.set_cons_zero, List.set_cons_succ, i64_w, i32_w]
                 rfl
                refine pure_ (i := 5) (N := some 46) (v := ?_) (a' := ?_) #[true, true, true, true, true, true, false, false, false, false, false, false, false, true, false, false, false] rfl rfl (any_of HT_.out (by kernel_rfl)) (fun _ _ _ h => h) (Or.inl ⟨by rfl, ?_⟩) ?_ ?_
                rotate_left
                ·intro w'
                 go_simp
                 with_reducible rfl
                rotate_left
                ·simp only [Act.put, List.setIfInBounds_toArray, List.set_cons_zero, List.set_cons_succ, i64_w, i32_w]
                 rfl
                refine pure_ (i := 6) (N := some 47) (v := ?_) (a' := ?_) #[true, true, true, true, true, true, true, false, false, false, false, false, false, true, false, false, false] rfl rfl (any_of HT_.out (by kernel_rfl)) (fun _ _ _ h => h) (Or.inl ⟨by rfl, ?_⟩) ?_ ?_
                rotate_left
                ·intro w'
                 go_simp
                 with_reducible rfl
                rotate_left
                ·simp only [Act.put, List.setIfInBounds_toArray, List.set_cons_zero, List.set_cons_succ, i64_w, i32_w]
                 rfl
                refine one_ (i := 7) (N := some 48) #[true, true, true, true, true, true, true, true, false, false, false, false, false, true, false, false, false] rfl rfl (one_of HT_.out (by kernel_rfl)) (by decide) (fun K hK => ?_)
                refine Kd.R_lit_step k30 _ 30 ?hg (N := 48) ?hd (xs := ([(⟨8, ji22, (⟨#[]⟩ : ByteArray), false⟩ : S30)] : List (S30))) (inner := [.int .i64 8, .int .i64 ji22, .string (⟨#[]⟩ : ByteArray), .bool false]) (ok := fun _ => True) (okp := fun _ => True) ?hr ?hp (fun _ hk => hk) trivial (Below.refl _ _) (Nat.le_refl _) (by simp) ?_; (case hd => rfl); (case hg => rfl); (case hr => first | (go_simp; done) | (go_simp; rfl)); (case hp => exact (Reps.c4 (show Kd.M k30 _ _ _ (⟨8, ji22, (⟨#[]⟩ : ByteArray), false⟩ : S30) [.int .i64 8, .int .i64 ji22, .string (⟨#[]⟩ : ByteArray), .bool false] from (k30_mkM _ _ _ (⟨8, ji22, (⟨#[]⟩ : ByteArray), false⟩ : S30) )) (Reps.none _ _)))
                intro v127 w46 ho47 hb hg_ hnew_
                clear hg_ hnew_
                (first | rw [← Ny126.out] at ho47 | (simp only [Int.reduceToNat] at ho47; rw [← Ny126.out] at ho47))
                have n0_ := Aside0.mk (Kd.R_elder' (by (with_reducible repeat (first | apply Kd.R_alloc | apply Kd.R_drewN | apply Kd.R_drew)); exact HO117.out) (Kd.R_base ho47) hb); have n1_ := Aside0.mk (Kd.R_below (by (with_reducible repeat (first | apply Kd.R_alloc | apply Kd.R_drewN | apply Kd.R_drew)); exact HO122.out) hb); have n2_ := Aside0.mk (Kd.R_lower (Kd.R_new' ho47 (Kd.R_lt (by (with_reducible repeat (first | apply Kd.R_alloc | apply Kd.R_drewN | apply Kd.R_drew)); exact HO117.out))) (below_size (by repeat (first | (with_reducible first | exact HB.out | apply below_alloc | apply pw_below_drewN | apply below_drew1 | refine below_set ?_ GE112.out | refine below_set ?_ GE124.out | refine below_set ?_ GE135.out) | exact HB.out)))); have n3_ := Aside0.mk (blk_below (g := gb112) (o := .cells #[.string a0_0, .int .i64 a0_1] 26 (0, 0)) (by (with_reducible repeat (first | refine blk_drewN ?_ _ | refine blk_drew ?_ | refine blk_alloc ?_ _)); exact BK112.out) hb); have n4_ := Aside0.mk (blk_below (g := gb124) (o := .cells #[.string t118, .int .i64 t119] 26 (0, 0)) (by (with_reducible repeat (first | refine blk_drewN ?_ _ | refine blk_drew ?_ | refine blk_alloc ?_ _)); exact BK124.out) hb); have n5_ := Aside0.mk (blk_below (g := gb135) (o := .cells #[.string (⟨#[]⟩ : ByteArray), .int .i64 0] 26 (0, 0)) (by (with_reducible repeat (first | refine blk_drewN ?_ _ | refine blk_drew ?_ | refine blk_alloc ?_ _)); exact BK135.out) hb); have n6_ := Aside0.mk (below_step (by repeat (first | (with_reducible first | exact HB.out | apply below_alloc | apply pw_below_drewN | apply below_drew1 | refine below_set ?_ GE112.out | refine below_set ?_ GE124.out | refine below_set ?_ GE135.out) | exact HB.out)) hb); clear HO117; clear HO122; clear BK112; clear BK124; clear BK135; clear HB; have HO117 := n0_; have HO122 := n1_; have HO128 := n2_; have BK112 := n3_; have BK124 := n4_; have BK135 := n5_; have HB := n6_; clear n0_ n1_ n2_ n3_ n4_ n5_ n6_; clear hb ho47
                obtain ⟨Ao48, co48, eo48⟩ := Kd.R_slice HO128.out
                (first | subst eo48 | (injection eo48 with f1_ f2_ f3_; have f4_ := f1_.symm; have f5_ := f3_.symm; clear f1_ f2_ f3_; subst f4_; subst f5_))
                refine hK.out _ _ ⟨(blk_cell BK112.out 0).trans rfl, (blk_cell BK112.out 1).trans rfl⟩ (fun hHeld => ?_)
                clear hK K
                refine norm_ (a' := ?_) ?_ ?_
                rotate_left
                ·show Act.put _ (some 48) _ = _
                 simp only [Act.put, List.setIfInBounds_toArray, List.set_cons_zero, List.set_cons_succ, i64_w, i32_w]
                 rfl
                refine one_ (i := 8) (N := some 49) #[true, true, true, true, true, true, true, true, true, false, false, false, false, true, false, false, false] rfl rfl (one_of HT_.out (by kernel_rfl)) (by decide) (fun K hK => ?_)
                refine goes_ Tryd.func11 (by kernel_rfl) rfl #[.agg #[.string a0_0, .int .i64 a0_1], .slice Ao48 y126.length co48] (by rfl) rfl rfl (by (try simp only [List.map_toArray, List.map_cons, List.map_nil]); first | done | rfl | (simp only [List.length_drop, List.length_take]; rfl) | (simp only [Int.toNat_natCast, ByteArray.extract_zero_size]; rfl)) ?_
                with_reducible refine (impl_EditedFrom.calls a0_0 a0_1 _ _ y126 t129 t130 t131 true _ ?side1 ?side2 A23.out).mono ?_
                (case side1 => repeat (first | exact (Kd.R_reads' HO128.out).2.2 | (with_reducible refine Kd.C_alloc ?_ _) | (with_reducible refine Kd.C_drewN ?_ _) | (with_reducible refine Kd.C_drew ?_)))
                (case side2 => exact (Kd.R_reads' HO128.out).2.1)
                rintro e w49 ⟨v132, rfl, ho0, hb⟩
                refine ⟨_, rfl, ?_⟩
                have n0_ := Aside0.mk (Kd.R_below (by (with_reducible repeat (first | apply Kd.R_alloc | apply Kd.R_drewN | apply Kd.R_drew)); exact HO117.out) hb); have n1_ := Aside0.mk (Kd.R_elder' (by (with_reducible repeat (first | apply Kd.R_alloc | apply Kd.R_drewN | apply Kd.R_drew)); exact HO122.out) (Kd.R_base ho0) hb); have n2_ := Aside0.mk (Kd.R_below (by (with_reducible repeat (first | apply Kd.R_alloc | apply Kd.R_drewN | apply Kd.R_drew)); exact HO128.out) hb); have n3_ := Aside0.mk (Kd.R_lower (Kd.R_new' ho0 (Kd.R_lt (by (with_reducible repeat (first | apply Kd.R_alloc | apply Kd.R_drewN | apply Kd.R_drew)); exact HO122.out))) (below_size (by repeat (first | (with_reducible first | exact HB.out | apply below_alloc | apply pw_below_drewN | apply below_drew1 | refine below_set ?_ GE112.out | refine below_set ?_ GE124.out | refine below_set ?_ GE135.out) | exact HB.out)))); have n4_ := Aside0.mk (blk_below (g := gb112) (o := .cells #[.string a0_0, .int .i64 a0_1] 26 (0, 0)) (by (with_reducible repeat (first | refine blk_drewN ?_ _ | refine blk_drew ?_ | refine blk_alloc ?_ _)); exact BK112.out) hb); have n5_ := Aside0.mk (blk_below (g := gb124) (o := .cells #[.string t118, .int .i64 t119] 26 (0, 0)) (by (with_reducible repeat (first | refine blk_drewN ?_ _ | refine blk_drew ?_ | refine blk_alloc ?_ _)); exact BK124.out) hb); have n6_ := Aside0.mk (blk_below (g := gb135) (o := .cells #[.string (⟨#[]⟩ : ByteArray), .int .i64 0] 26 (0, 0)) (by (with_reducible repeat (first | refine blk_drewN ?_ _ | refine blk_drew ?_ | refine blk_alloc ?_ _)); exact BK135.out) hb); have n7_ := Aside0.mk (below_step (by repeat (first | (with_reducible first | exact HB.out | apply below_alloc | apply pw_below_drewN | apply below_drew1 | refine below_set ?_ GE112.out | refine below_set ?_ GE124.out | refine below_set ?_ GE135.out) | exact HB.out)) hb); clear HO117; clear HO122; clear HO128; clear BK112; clear BK124; clear BK135; clear HB; have HO117 := n0_; have HO122 := n1_; have HO128 := n2_; have HO133 := n3_; have BK112 := n4_; have BK124 := n5_; have BK135 := n6_; have HB := n7_; clear n0_ n1_ n2_ n3_ n4_ n5_ n6_ n7_; (try clear hb); (try clear hb2); (try clear hk); (try clear hi); (try clear ho0)
                refine hK.out _ _ ⟨(blk_cell BK112.out 0).trans rfl, (blk_cell BK112.out 1).trans rfl⟩ (fun hHeld => ?_)
                clear hK K
                refine norm_ (a' := ?_) ?_ ?_
                rotate_left
                ·show Act.put _ (some 49) _ = _
                 simp only [Act.put, List.setIfInBounds_toArray, List.set_cons_zero, List.set_cons_succ, i64_w, i32_w]
                 rfl
                refine pure_ (i := 9) (N := some 40) (v := ?_) (a' := ?_) #[true, true, true, true, true, true, true, true, true, true, false, false, false, true, false, false, false] rfl rfl (any_of HT_.out (by kernel_rfl)) (fun _ _ _ h => h) (Or.inl ⟨by rfl, ?_⟩) ?_ ?_
                rotate_left
                ·intro w'
                 go_simp
                 with_reducible rfl
                rotate_left
                ·simp only [Act.put, List.setIfInBounds_toArray, List.set_cons_zero, List.set_cons_succ, i64_w, i32_w]
                 rfl
                refine pure_ (i := 10) (N := some 50) (v := ?_) (a' := ?_) #[true, true, true, true, true, true, true, true, true, true, true, false, false, true, false, false, false] rfl rfl (any_of HT_.out (by kernel_rfl)) (fun _ _ _ h => h) (Or.inl ⟨by rfl, ?_⟩) ?_ ?_
                rotate_left
                ·intro w'
                 go_simp
                 with_reducible rfl
                rotate_left
                ·simp only [Act.put, List.setIfInBounds_toArray, List.set_cons_zero, List.set_cons_succ, i64_w, i32_w]
                 rfl
                refine pure_ (i := 11) (N := some 51) (v := ?_) (a' := ?_) #[true, true, true, true, true, true, true, true, true, true, true, true, false, true, false, false, false] rfl rfl (any_of HT_.out (by kernel_rfl)) (fun _ _ _ h => h) (Or.inl ⟨by rfl, ?_⟩) ?_ ?_
                rotate_left
                ·intro w'
                 go_simp
                 with_reducible rfl
                rotate_left
                ·simp only [Act.put, List.setIfInBounds_toArray, List.set_cons_zero, List.set_cons_succ, i64_w, i32_w]
                 rfl
                refine pure_ (i := 12) (N := some 52) (v := ?_) (a' := ?_) #[true, true, true, true, true, true, true, true, true, true, true, true, true, true, false, false, false] rfl rfl (any_of HT_.out (by kernel_rfl)) (fun _ _ _ h => h) (Or.inl ⟨by rfl, ?_⟩) ?_ ?_
                rotate_left
                ·intro w'
                 go_simp
                 with_reducible rfl
                rotate_left
                ·simp only [Act.put, List.setIfInBounds_toArray, List.set_cons_zero, List.set_cons_succ, i64_w, i32_w]
                 rfl
                exact norm_ (by simp only [putAll, Act.put, List.setIfInBounds_toArray, List.set_cons_zero, List.set_cons_succ]) (hCont (.slice Ao48 y126.length co48, v132, gb135) _ ⟨hHeld, (by (with_reducible repeat (first | apply Kd.R_alloc | apply Kd.R_drewN | apply Kd.R_drew)); exact Kd.R_mono HO117.out (fun _ hk => hk.2)), (by (with_reducible repeat (first | apply Kd.R_alloc | apply Kd.R_drewN | apply Kd.R_drew)); exact Kd.R_mono HO122.out (fun _ hk => hk.2)), (by (with_reducible repeat (first | apply Kd.R_alloc | apply Kd.R_drewN | apply Kd.R_drew)); exact Kd.R_mono HO128.out (fun _ hk => hk.2)), (by (with_reducible repeat (first | apply Kd.R_alloc | apply Kd.R_drewN | apply Kd.R_drew)); exact Kd.R_mono HO133.out (fun _ hk => hk.2)), (by (with_reducible repeat (first | refine blk_drewN ?_ _ | refine blk_drew ?_ | refine blk_alloc ?_ _)); exact BK112.out), (by (with_reducible repeat (first | refine blk_drewN ?_ _ | refine blk_drew ?_ | refine blk_alloc ?_ _)); exact BK124.out), (by (with_reducible repeat (first | refine blk_drewN ?_ _ | refine blk_drew ?_ | refine blk_alloc ?_ _)); exact BK135.out), GW135.out, GE135.out, NB112_135.out, NB135_112.out, NB124_135.out, NB135_124.out, (by repeat (first | (with_reducible first | exact HB.out | apply below_alloc | apply pw_below_drewN | apply below_drew1 | refine below_set ?_ GE112.out | refine below_set ?_ GE124.out | refine below_set ?_ GE135.out) | exact HB.out))⟩)
              rintro ⟨v127, v132, gb135⟩ w50 ⟨hS_, h0_, h1_, h2_, h3_, h4_, h5_, h6_, h7_, h8_, h9_, h10_, h11_, h12_, h13_⟩
              have n0_ : Aside0 (Kd.R k30 30 w50 w.heap.size (fun k_ => some k_ ≠ (v127 : Value).ownBlock) (.slice Ao37 y115.length co37) y115) := ⟨h0_⟩
              have n1_ : Aside0 (Kd.R Kd.string 9 w50 w.heap.size (fun k_ => some k_ ≠ (v132 : Value).ownBlock) v121 t120) := ⟨h1_⟩
              have n2_ : Aside0 (Kd.R k30 30 w50 w.heap.size (fun k_ => some k_ ≠ (.slice Ao37 y115.length co37 : Value).ownBlock) v127 y126) := ⟨h2_⟩
              have n3_ : Aside0 (Kd.R Kd.string 9 w50 w.heap.size (fun k_ => some k_ ≠ (v121 : Value).ownBlock) v132 t131) := ⟨h3_⟩
              have n4_ : Aside0 (w50.heap[gb112]? = some (.cells #[.string a0_0, .int .i64 a0_1] 26 (0, 0))) := ⟨h4_⟩
              have n5_ : Aside0 (w50.heap[gb124]? = some (.cells #[.string t118, .int .i64 t119] 26 (0, 0))) := ⟨h5_⟩
              have n6_ : Aside0 (w50.heap[gb135]? = some (.cells #[.string (⟨#[]⟩ : ByteArray), .int .i64 0] 26 (0, 0))) := ⟨h6_⟩
              have n7_ : Aside0 (w.heap.size ≤ gb135) := ⟨h7_⟩
              have n8_ : Aside0 (w.heap.size ≤ gb135) := ⟨h8_⟩
              have n9_ : Aside0 (gb112 ≠ gb135) := ⟨h9_⟩
              have n10_ : Aside0 (gb135 ≠ gb112) := ⟨h10_⟩
              have n11_ : Aside0 (gb124 ≠ gb135) := ⟨h11_⟩
              have n12_ : Aside0 (gb135 ≠ gb124) := ⟨h12_⟩
              have n13_ : Aside0 (Below w.heap.size w w50) := ⟨h13_⟩
              clear HO117; clear HO122; clear BK112; clear BK124; clear HB; clear h0_ h1_ h2_ h3_ h4_ h5_ h6_ h7_ h8_ h9_ h10_ h11_ h12_ h13_; have HO117 := n0_; have HO122 := n1_; have HO128 := n2_; have HO133 := n3_; have BK112 := n4_; have BK124 := n5_; have BK135 := n6_; have GW135 := n7_; have GE135 := n8_; have NB112_135 := n9_; have NB135_112 := n10_; have NB124_135 := n11_; have NB135_124 := n12_; have HB := n13_; clear n0_ n1_ n2_ n3_ n4_ n5_ n6_ n7_ n8_ n9_ n10_ n11_ n12_ n13_
              have hHeld : w50.cell? ⟨gb112, 0, none⟩ = some (.string a0_0) ∧ w50.cell? ⟨gb112, 1, none⟩ = some (.int .i64 a0_1) := hS_
              refine norm_ (a' := ?_) ?_ ?_
              rotate_left
              ·simp only [putAll, Act.put, List.setIfInBounds_toArray, List.set_cons_zero, List.set_cons_succ]
               rfl
              refine one_ (i := 14) (N := none) #[true, true, true, true, true, true, true, true, true, true, true, true, true, true, true, false, false] rfl rfl (one_of HT_.out (by kernel_rfl)) (by decide) (fun K hK => ?_)
              have hs51 : w50.cell? ⟨gb135, 0, none⟩ = some (.string (⟨#[]⟩ : ByteArray)) := (blk_cell BK135.out 0).trans rfl
              have hfs51 := blk_frozen BK135.out 0
              have hns51_0 := NB112_135.out
              have hns51_1 := NB124_135.out
              have hms51_0 := NB135_112.out
              have hms51_1 := NB135_124.out
              have hs52 : w50.cell? ⟨gb135, 1, none⟩ = some (.int .i64 0) := (blk_cell BK135.out 1).trans rfl
              have hfs52 := blk_frozen BK135.out 1
              have hns52_0 := NB112_135.out
              have hns52_1 := NB124_135.out
              have hms52_0 := NB135_112.out
              have hms52_1 := NB135_124.out
              refine skip_ (w1 := ?_) (by rfl) rfl ?_ ?_
              rotate_left
              ·go_simp
               rfl
              refine hK.out _ _ ⟨((cell_far (p := ⟨gb135, _, none⟩) NB112_135.out _).trans (((cell_far (p := ⟨gb135, _, none⟩) NB112_135.out _).trans (hHeld.1)))), ((cell_far (p := ⟨gb135, _, none⟩) NB112_135.out _).trans (((cell_far (p := ⟨gb135, _, none⟩) NB112_135.out _).trans (hHeld.2))))⟩ (fun hHeld => ?_)
              clear hK K
              refine pure_ (i := 15) (N := some 9) (v := ?_) (a' := ?_) #[true, true, true, true, true, true, true, true, true, true, true, true, true, true, true, true, false] rfl rfl (any_of HT_.out (by kernel_rfl)) (fun _ _ _ h => h) (Or.inl ⟨by rfl, ?_⟩) ?_ ?_
              rotate_left
              ·intro w'
               go_simp
               with_reducible rfl
              rotate_left
              ·simp only [Act.put, List.setIfInBounds_toArray, List.set_cons_zero, List.set_cons_succ, i64_w, i32_w]
               rfl
              refine pure_ (i := 16) (N := some 10) (v := ?_) (a' := ?_) #[true, true, true, true, true, true, true, true, true, true, true, true, true, true, true, true, true] rfl rfl (any_of HT_.out (by kernel_rfl)) (fun _ _ _ h => h) (Or.inl ⟨by rfl, ?_⟩) ?_ ?_
              rotate_left
              ·intro w'
               go_simp
               with_reducible rfl
              rotate_left
              ·simp only [Act.put, List.setIfInBounds_toArray, List.set_cons_zero, List.set_cons_succ, i64_w, i32_w]
               rfl
              refine done_ (done_of HT_.out (by kernel_rfl)) ?_
              obtain ⟨Ao53, co53, eo53⟩ := Kd.R_slice HO122.out
              subst eo53
              obtain ⟨Ao54, co54, eo54⟩ := Kd.R_slice HO133.out
              subst eo54
              try go_wp2
              have n0_ : Aside0 (Kd.R k30 30 ((w50.setCell ⟨gb135, 0, none⟩ (.string t129)).setCell ⟨gb135, 1, none⟩ (.int .i64 t130)) w.heap.size (fun k_ => some k_ ≠ (v127 : Value).ownBlock) (.slice Ao37 y115.length co37) y115) := ⟨by (with_reducible repeat (first | apply Kd.R_alloc | apply Kd.R_drewN | apply Kd.R_drew)); exact Kd.R_mono (Kd.R_far (p := ⟨gb135, 1, none⟩) (Kd.R_far (p := ⟨gb135, 0, none⟩) (Kd.R_types HO117.out BK135.out (by decide)) (fun _ hk => hk.2) (.string t129)) (fun _ hk => hk.2) (.int .i64 t130)) (fun _ hk => hk.1)⟩
              have n1_ : Aside0 (Kd.R Kd.string 9 ((w50.setCell ⟨gb135, 0, none⟩ (.string t129)).setCell ⟨gb135, 1, none⟩ (.int .i64 t130)) w.heap.size (fun k_ => some k_ ≠ (.slice Ao54 t131.length co54 : Value).ownBlock) (.slice Ao53 t120.length co53) t120) := ⟨by (with_reducible repeat (first | apply Kd.R_alloc | apply Kd.R_drewN | apply Kd.R_drew)); exact Kd.R_mono (Kd.R_far (p := ⟨gb135, 1, none⟩) (Kd.R_far (p := ⟨gb135, 0, none⟩) (Kd.R_types HO122.out BK135.out (by decide)) (fun _ hk => hk.2) (.string t129)) (fun _ hk => hk.2) (.int .i64 t130)) (fun _ hk => hk.1)⟩
              have n2_ : Aside0 (Kd.R k30 30 ((w50.setCell ⟨gb135, 0, none⟩ (.string t129)).setCell ⟨gb135, 1, none⟩ (.int .i64 t130)) w.heap.size (fun k_ => some k_ ≠ (.slice Ao37 y115.length co37 : Value).ownBlock) v127 y126) := ⟨by (with_reducible repeat (first | apply Kd.R_alloc | apply Kd.R_drewN | apply Kd.R_drew)); exact Kd.R_mono (Kd.R_far (p := ⟨gb135, 1, none⟩) (Kd.R_far (p := ⟨gb135, 0, none⟩) (Kd.R_types HO128.out BK135.out (by decide)) (fun _ hk => hk.2) (.string t129)) (fun _ hk => hk.2) (.int .i64 t130)) (fun _ hk => hk.1)⟩
              have n3_ : Aside0 (Kd.R Kd.string 9 ((w50.setCell ⟨gb135, 0, none⟩ (.string t129)).setCell ⟨gb135, 1, none⟩ (.int .i64 t130)) w.heap.size (fun k_ => some k_ ≠ (.slice Ao53 t120.length co53 : Value).ownBlock) (.slice Ao54 t131.length co54) t131) := ⟨by (with_reducible repeat (first | apply Kd.R_alloc | apply Kd.R_drewN | apply Kd.R_drew)); exact Kd.R_mono (Kd.R_far (p := ⟨gb135, 1, none⟩) (Kd.R_far (p := ⟨gb135, 0, none⟩) (Kd.R_types HO133.out BK135.out (by decide)) (fun _ hk => hk.2) (.string t129)) (fun _ hk => hk.2) (.int .i64 t130)) (fun _ hk => hk.1)⟩
              have n4_ : Aside0 (((w50.setCell ⟨gb135, 0, none⟩ (.string t129)).setCell ⟨gb135, 1, none⟩ (.int .i64 t130)).heap[gb112]? = some (.cells #[.string a0_0, .int .i64 a0_1] 26 (0, 0))) := ⟨by (with_reducible repeat (first | refine blk_drewN ?_ _ | refine blk_drew ?_ | refine blk_alloc ?_ _)); refine blk_far ?_ NB112_135.out _; (with_reducible repeat (first | refine blk_drewN ?_ _ | refine blk_drew ?_ | refine blk_alloc ?_ _)); refine blk_far ?_ NB112_135.out _; (with_reducible repeat (first | refine blk_drewN ?_ _ | refine blk_drew ?_ | refine blk_alloc ?_ _)); exact BK112.out⟩
              have n5_ : Aside0 (((w50.setCell ⟨gb135, 0, none⟩ (.string t129)).setCell ⟨gb135, 1, none⟩ (.int .i64 t130)).heap[gb124]? = some (.cells #[.string t118, .int .i64 t119] 26 (0, 0))) := ⟨by (with_reducible repeat (first | refine blk_drewN ?_ _ | refine blk_drew ?_ | refine blk_alloc ?_ _)); refine blk_far ?_ NB124_135.out _; (with_reducible repeat (first | refine blk_drewN ?_ _ | refine blk_drew ?_ | refine blk_alloc ?_ _)); refine blk_far ?_ NB124_135.out _; (with_reducible repeat (first | refine blk_drewN ?_ _ | refine blk_drew ?_ | refine blk_alloc ?_ _)); exact BK124.out⟩
              have n6_ : Aside0 (((w50.setCell ⟨gb135, 0, none⟩ (.string t129)).setCell ⟨gb135, 1, none⟩ (.int .i64 t130)).heap[gb135]? = some (.cells #[.string t129, .int .i64 t130] 26 (0, 0))) := ⟨by (with_reducible repeat (first | refine blk_drewN ?_ _ | refine blk_drew ?_ | refine blk_alloc ?_ _)); refine blk_put (cs := #[.string t129, .int .i64 0]) ?_ 1 _ rfl; (with_reducible repeat (first | refine blk_drewN ?_ _ | refine blk_drew ?_ | refine blk_alloc ?_ _)); refine blk_put (cs := #[.string (⟨#[]⟩ : ByteArray), .int .i64 0]) ?_ 0 _ rfl; (with_reducible repeat (first | refine blk_drewN ?_ _ | refine blk_drew ?_ | refine blk_alloc ?_ _)); exact BK135.out⟩
              have n7_ : Aside0 (Below w.heap.size w ((w50.setCell ⟨gb135, 0, none⟩ (.string t129)).setCell ⟨gb135, 1, none⟩ (.int .i64 t130))) := ⟨by repeat (first | (with_reducible first | exact HB.out | apply below_alloc | apply pw_below_drewN | apply below_drew1 | refine below_set ?_ GE112.out | refine below_set ?_ GE124.out | refine below_set ?_ GE135.out) | exact HB.out)⟩
              (try clear HO117); (try clear HO122); (try clear HO128); (try clear HO133); (try clear BK112); (try clear BK124); (try clear BK135); (try clear HB)
              generalize ((w50.setCell ⟨gb135, 0, none⟩ (.string t129)).setCell ⟨gb135, 1, none⟩ (.int .i64 t130)) = w55 at n0_ n1_ n2_ n3_ n4_ n5_ n6_ n7_ ⊢
              have HO117 := n0_; have HO122 := n1_; have HO128 := n2_; have HO133 := n3_; have BK112 := n4_; have BK124 := n5_; have BK135 := n6_; have HB := n7_; clear n0_ n1_ n2_ n3_ n4_ n5_ n6_ n7_; have n0_ := Aside0.mk (Kd.R_drew HO117.out); have n1_ := Aside0.mk (Kd.R_drew HO122.out); have n2_ := Aside0.mk (Kd.R_drew HO128.out); have n3_ := Aside0.mk (Kd.R_drew HO133.out); have n4_ := Aside0.mk (blk_drew BK112.out); have n5_ := Aside0.mk (blk_drew BK124.out); have n6_ := Aside0.mk (blk_drew BK135.out); have n7_ := Aside0.mk (below_drew1 HB.out); clear HO117; clear HO122; clear HO128; clear HO133; clear BK112; clear BK124; clear BK135; clear HB; have HO117 := n0_; have HO122 := n1_; have HO128 := n2_; have HO133 := n3_; have BK112 := n4_; have BK124 := n5_; have BK135 := n6_; have HB := n7_; clear n0_ n1_ n2_ n3_ n4_ n5_ n6_ n7_
              have p136 : 0 ≤ (0 : Int) := (by omega)
              have q136 : 0 < (t120.length : Int) := of_decide_eq_true (by first | (with_reducible assumption) | assumption)
              obtain ⟨ad136, e136, hx136_0⟩ := Kd.at_string (Kd.R_reads' HO122.out).2.2 0 p136 q136
              cases e136
              have qi136 : (0 < t120.length) = True := eq_true (by omega)
              (try rw [show ((0 : Int)).toNat = 0 from rfl] at hx136_0)
              (try rw [Addr.add_zero'] at hx136_0)
              replace p136 := eq_true p136
              replace q136 := eq_true q136
              refine start_ (n := 15) (S := fun w' => w'.cell? ⟨gb124, 0, none⟩ = some (.string t118) ∧ w'.cell? ⟨gb124, 1, none⟩ = some (.int .i64 t119) ∧ w'.cell? ad136 = some (.string (rdOf ByteArray.empty t120 0))) (ds := []) #[false, false, false, false, false, false, false, false, false, false, false, false, false, false, false] (by kernel_rfl) rfl rfl ⟨(blk_cell BK124.out 0).trans rfl, (blk_cell BK124.out 1).trans rfl, hx136_0⟩ (fun hHeld => ?_); refine with_tabW laws_FnTakenBack.tab9 laws_FnTakenBack.bits9 (fun HT_ HW_ => ?_)
              generalize w55.drew = w56 at HO117 HO122 HO128 HO133 BK112 BK124 BK135 HB hx136_0 hHeld ⊢
              refine pure_ (i := 1) (N := some 71) (v := ?_) (a' := ?_) #[false, true, false, false, false, false, false, false, false, false, false, false, false, false, false] rfl rfl (any_of HT_.out (by kernel_rfl)) (fun _ _ _ h => h) (Or.inl ⟨by rfl, ?_⟩) ?_ ?_
              rotate_left
              ·intro w'
               go_simp
               with_reducible rfl
              rotate_left
              ·simp only [Act.put, List.setIfInBounds_toArray, List.set_cons_zero, List.set_cons_succ, i64_w, i32_w]
               rfl
              refine pure_ (i := 2) (N := some 72) (v := ?_) (a' := ?_) #[false, true, true, false, false, false, false, false, false, false, false, false, false, false, false] rfl rfl (any_of HT_.out (by kernel_rfl)) (fun _ _ _ h => h) (Or.inl ⟨by rfl, ?_⟩) ?_ ?_
              rotate_left
              ·intro w'
               go_simp
               with_reducible rfl
              rotate_left
              ·simp only [Act.put, List.setIfInBounds_toArray, List.set_cons_zero, List.set_cons_succ, i64_w, i32_w]
               rfl
              refine take_ (i := 0) (N := some 70) (v := ?_) (a' := ?_) #[true, true, true, false, false, false, false, false, false, false, false, false, false, false, false] rfl rfl (take_ofW HT_.out HW_.out (by kernel_rfl)) (fun _ _ _ h => h) (Or.inl ⟨by rfl, ?_⟩) hHeld ?_ ?_
              rotate_left
              ·rintro w' ⟨s0, s1, s2⟩
               go_simp
               with_reducible rfl
              rotate_left
              ·simp only [Act.put, List.setIfInBounds_toArray, List.set_cons_zero, List.set_cons_succ, i64_w, i32_w]
               rfl
              refine take_ (i := 3) (N := some 73) (v := ?_) (a' := ?_) #[true, true, true, true, false, false, false, false, false, false, false, false, false, false, false] rfl rfl (take_ofW HT_.out HW_.out (by kernel_rfl)) (fun _ _ _ h => h) (Or.inl ⟨by rfl, ?_⟩) hHeld ?_ ?_
              rotate_left
              ·rintro w' ⟨s0, s1, s2⟩
               go_simp
               with_reducible rfl
              rotate_left
              ·simp only [Act.put, List.setIfInBounds_toArray, List.set_cons_zero, List.set_cons_succ, i64_w, i32_w]
               rfl
              refine pure_ (i := 4) (N := some 74) (v := ?_) (a' := ?_) #[true, true, true, true, true, false, false, false, false, false, false, false, false, false, false] rfl rfl (any_of HT_.out (by kernel_rfl)) (fun _ _ _ h => h) (Or.inl ⟨by rfl, ?_⟩) ?_ ?_
              rotate_left
              ·intro w'
               go_simp
               with_reducible rfl
              rotate_left
              ·simp only [Act.put, List.setIfInBounds_toArray, List.set_cons_zero, List.set_cons_succ, i64_w, i32_w]
               rfl
              refine join_ (σ := Value × Value × Nat) 3 #[true, true, true, true, true, true, true, true, true, true, true, true, false, false, false] (fun s_ => [(75, s_.1), (76, .tuple #[.agg #[.string t140, .int .i64 t141], s_.2.1, .bool true]), (11, .pointer (some ⟨s_.2.2, 0, none⟩)), (69, .tuple #[.agg #[.string t140, .int .i64 t141], s_.2.1, .bool true]), (77, .agg #[.string t140, .int .i64 t141]), (78, s_.2.1), (79, .bool true)]) (fun s_ w' => (w'.cell? ⟨gb124, 0, none⟩ = some (.string t118) ∧ w'.cell? ⟨gb124, 1, none⟩ = some (.int .i64 t119) ∧ w'.cell? ad136 = some (.string (rdOf ByteArray.empty t120 0))) ∧ (Kd.R k30 30 w' w.heap.size (fun k_ => some k_ ≠ (v127 : Value).ownBlock ∧ some k_ ≠ (s_.1 : Value).ownBlock) (.slice Ao37 y115.length co37) y115) ∧ (Kd.R Kd.string 9 w' w.heap.size (fun k_ => some k_ ≠ (.slice Ao54 t131.length co54 : Value).ownBlock ∧ some k_ ≠ (s_.2.1 : Value).ownBlock) (.slice (some ad136) t120.length co53) t120) ∧ (Kd.R k30 30 w' w.heap.size (fun k_ => some k_ ≠ (.slice Ao37 y115.length co37 : Value).ownBlock ∧ some k_ ≠ (s_.1 : Value).ownBlock) v127 y126) ∧ (Kd.R Kd.string 9 w' w.heap.size (fun k_ => some k_ ≠ (.slice (some ad136) t120.length co53 : Value).ownBlock ∧ some k_ ≠ (s_.2.1 : Value).ownBlock) (.slice Ao54 t131.length co54) t131) ∧ (Kd.R k30 30 w' w.heap.size (fun k_ => some k_ ≠ (.slice Ao37 y115.length co37 : Value).ownBlock ∧ some k_ ≠ (v127 : Value).ownBlock) s_.1 y137) ∧ (Kd.R Kd.string 9 w' w.heap.size (fun k_ => some k_ ≠ (.slice (some ad136) t120.length co53 : Value).ownBlock ∧ some k_ ≠ (.slice Ao54 t131.length co54 : Value).ownBlock) s_.2.1 t142) ∧ (w'.heap[gb112]? = some (.cells #[.string a0_0, .int .i64 a0_1] 26 (0, 0))) ∧ (w'.heap[gb124]? = some (.cells #[.string t118, .int .i64 t119] 26 (0, 0))) ∧ (w'.heap[gb135]? = some (.cells #[.string t129, .int .i64 t130] 26 (0, 0))) ∧ (w'.heap[s_.2.2]? = some (.cells #[.string (⟨#[]⟩ : ByteArray), .int .i64 0] 26 (0, 0))) ∧ (w.heap.size ≤ s_.2.2) ∧ (w.heap.size ≤ s_.2.2) ∧ (gb112 ≠ s_.2.2) ∧ (s_.2.2 ≠ gb112) ∧ (gb124 ≠ s_.2.2) ∧ (s_.2.2 ≠ gb124) ∧ (gb135 ≠ s_.2.2) ∧ (s_.2.2 ≠ gb135) ∧ (Below w.heap.size w w')) ?_ ?_
              rotate_left
              ·intro hCont
               refine two_ (i := 5) (j := 11) (Ni := some 75) (Nj := some 11) #[true, true, true, true, true, true, false, false, false, false, false, false, false, false, false] #[true, true, true, true, true, false, false, false, false, false, false, true, false, false, false] rfl rfl rfl rfl (two_of HT_.out (by kernel_rfl)) (by decide) (by decide) (fun K hK => ?_) (fun K hK => ?_)
               ·skip
                refine Kd.R_lit_step k30 _ 30 ?hg (N := 75) ?hd (xs := ([(⟨1, 0, rdOf ByteArray.empty t120 0, false⟩ : S30)] : List (S30))) (inner := [.int .i64 1, .int .i64 0, .string (rdOf ByteArray.empty t120 0), .bool false]) (ok := fun _ => True) (okp := fun _ => True) ?hr ?hp (fun _ hk => hk) trivial (Below.refl _ _) (Nat.le_refl _) (by simp) ?_; (case hd => rfl); (case hg => rfl); (case hr => first | (go_simp; done) | (go_simp; rfl)); (case hp => exact (Reps.c4 (show Kd.M k30 _ _ _ (⟨1, 0, rdOf ByteArray.empty t120 0, false⟩ : S30) [.int .i64 1, .int .i64 0, .string (rdOf ByteArray.empty t120 0), .bool false] from (k30_mkM _ _ _ (⟨1, 0, rdOf ByteArray.empty t120 0, false⟩ : S30) )) (Reps.none _ _)))
                intro v138 w57 ho58 hb hg_ hnew_
                have HS2_ := (hb.cell (World.block_lt_of_cell? _ _ (hHeld.2.2))).trans (hHeld.2.2)
                clear hg_ hnew_
                (first | rw [← Ny137.out] at ho58 | (simp only [Int.reduceToNat] at ho58; rw [← Ny137.out] at ho58))
                have n0_ := Aside0.mk (Kd.R_elder' (by (with_reducible repeat (first | apply Kd.R_alloc | apply Kd.R_drewN | apply Kd.R_drew)); exact HO117.out) (Kd.R_base ho58) hb); have n1_ := Aside0.mk (Kd.R_below (by (with_reducible repeat (first | apply Kd.R_alloc | apply Kd.R_drewN | apply Kd.R_drew)); exact HO122.out) hb); have n2_ := Aside0.mk (Kd.R_elder' (by (with_reducible repeat (first | apply Kd.R_alloc | apply Kd.R_drewN | apply Kd.R_drew)); exact HO128.out) (Kd.R_base ho58) hb); have n3_ := Aside0.mk (Kd.R_below (by (with_reducible repeat (first | apply Kd.R_alloc | apply Kd.R_drewN | apply Kd.R_drew)); exact HO133.out) hb); have n4_ := Aside0.mk (Kd.R_lower (Kd.R_new' (Kd.R_new' ho58 (Kd.R_lt (by (with_reducible repeat (first | apply Kd.R_alloc | apply Kd.R_drewN | apply Kd.R_drew)); exact HO117.out))) (Kd.R_lt (by (with_reducible repeat (first | apply Kd.R_alloc | apply Kd.R_drewN | apply Kd.R_drew)); exact HO128.out))) (below_size (by repeat (first | (with_reducible first | exact HB.out | apply below_alloc | apply pw_below_drewN | apply below_drew1 | refine below_set ?_ GE112.out | refine below_set ?_ GE124.out | refine below_set ?_ GE135.out) | exact HB.out)))); have n5_ := Aside0.mk (blk_below (g := gb112) (o := .cells #[.string a0_0, .int .i64 a0_1] 26 (0, 0)) (by (with_reducible repeat (first | refine blk_drewN ?_ _ | refine blk_drew ?_ | refine blk_alloc ?_ _)); exact BK112.out) hb); have n6_ := Aside0.mk (blk_below (g := gb124) (o := .cells #[.string t118, .int .i64 t119] 26 (0, 0)) (by (with_reducible repeat (first | refine blk_drewN ?_ _ | refine blk_drew ?_ | refine blk_alloc ?_ _)); exact BK124.out) hb); have n7_ := Aside0.mk (blk_below (g := gb135) (o := .cells #[.string t129, .int .i64 t130] 26 (0, 0)) (by (with_reducible repeat (first | refine blk_drewN ?_ _ | refine blk_drew ?_ | refine blk_alloc ?_ _)); exact BK135.out) hb); have n8_ := Aside0.mk (below_step (by repeat (first | (with_reducible first | exact HB.out | apply below_alloc | apply pw_below_drewN | apply below_drew1 | refine below_set ?_ GE112.out | refine below_set ?_ GE124.out | refine below_set ?_ GE135.out) | exact HB.out)) hb); clear HO117; clear HO122; clear HO128; clear HO133; clear BK112; clear BK124; clear BK135; clear HB; have HO117 := n0_; have HO122 := n1_; have HO128 := n2_; have HO133 := n3_; have HO139 := n4_; have BK112 := n5_; have BK124 := n6_; have BK135 := n7_; have HB := n8_; clear n0_ n1_ n2_ n3_ n4_ n5_ n6_ n7_ n8_; clear hb ho58
                obtain ⟨Ao59, co59, eo59⟩ := Kd.R_slice HO139.out
                (first | subst eo59 | (injection eo59 with f1_ f2_ f3_; have f4_ := f1_.symm; have f5_ := f3_.symm; clear f1_ f2_ f3_; subst f4_; subst f5_))
                refine hK.out _ _ ⟨(blk_cell BK124.out 0).trans rfl, (blk_cell BK124.out 1).trans rfl, HS2_⟩ (fun hHeld => ?_)
                clear hK K
                refine norm_ (a' := ?_) ?_ ?_
                rotate_left
                ·show Act.put _ (some 75) _ = _
                 simp only [Act.put, List.setIfInBounds_toArray, List.set_cons_zero, List.set_cons_succ, i64_w, i32_w]
                 rfl
                refine two_ (i := 6) (j := 11) (Ni := some 76) (Nj := some 11) #[true, true, true, true, true, true, true, false, false, false, false, false, false, false, false] #[true, true, true, true, true, true, false, false, false, false, false, true, false, false, false] rfl rfl rfl rfl (two_of HT_.out (by kernel_rfl)) (by decide) (by decide) (fun K hK => ?_) (fun K hK => ?_)
                ·skip
                 refine goes_ Tryd.func11 (by kernel_rfl) rfl #[.agg #[.string t118, .int .i64 t119], .slice Ao59 y137.length co59] (by rfl) rfl rfl (by (try simp only [List.map_toArray, List.map_cons, List.map_nil]); first | done | rfl | (simp only [List.length_drop, List.length_take]; rfl) | (simp only [Int.toNat_natCast, ByteArray.extract_zero_size]; rfl)) ?_
                 with_reducible refine (impl_EditedFrom.calls t118 t119 _ _ y137 t140 t141 t142 true _ ?side1 ?side2 A28.out).mono ?_
                 (case side1 => repeat (first | exact (Kd.R_reads' HO139.out).2.2 | (with_reducible refine Kd.C_alloc ?_ _) | (with_reducible refine Kd.C_drewN ?_ _) | (with_reducible refine Kd.C_drew ?_)))
                 (case side2 => exact (Kd.R_reads' HO139.out).2.1)
                 rintro e w60 ⟨v143, rfl, ho0, hb⟩
                 have HS2_ := (hb.cell (World.block_lt_of_cell? _ _ (hHeld.2.2))).trans (hHeld.2.2)
                 refine ⟨_, rfl, ?_⟩
                 have n0_ := Aside0.mk (Kd.R_below (by (with_reducible repeat (first | apply Kd.R_alloc | apply Kd.R_drewN | apply Kd.R_drew)); exact HO117.out) hb); have n1_ := Aside0.mk (Kd.R_elder' (by (with_reducible repeat (first | apply Kd.R_alloc | apply Kd.R_drewN | apply Kd.R_drew)); exact HO122.out) (Kd.R_base ho0) hb); have n2_ := Aside0.mk (Kd.R_below (by (with_reducible repeat (first | apply Kd.R_alloc | apply Kd.R_drewN | apply Kd.R_drew)); exact HO128.out) hb); have n3_ := Aside0.mk (Kd.R_elder' (by (with_reducible repeat (first | apply Kd.R_alloc | apply Kd.R_drewN | apply Kd.R_drew)); exact HO133.out) (Kd.R_base ho0) hb); have n4_ := Aside0.mk (Kd.R_below (by (with_reducible repeat (first | apply Kd.R_alloc | apply Kd.R_drewN | apply Kd.R_drew)); exact HO139.out) hb); have n5_ := Aside0.mk (Kd.R_lower (Kd.R_new' (Kd.R_new' ho0 (Kd.R_lt (by (with_reducible repeat (first | apply Kd.R_alloc | apply Kd.R_drewN | apply Kd.R_drew)); exact HO122.out))) (Kd.R_lt (by (with_reducible repeat (first | apply Kd.R_alloc | apply Kd.R_drewN | apply Kd.R_drew)); exact HO133.out))) (below_size (by repeat (first | (with_reducible first | exact HB.out | apply below_alloc | apply pw_below_drewN | apply below_drew1 | refine below_set ?_ GE112.out | refine below_set ?_ GE124.out | refine below_set ?_ GE135.out) | exact HB.out)))); have n6_ := Aside0.mk (blk_below (g := gb112) (o := .cells #[.string a0_0, .int .i64 a0_1] 26 (0, 0)) (by (with_reducible repeat (first | refine blk_drewN ?_ _ | refine blk_drew ?_ | refine blk_alloc ?_ _)); exact BK112.out) hb); have n7_ := Aside0.mk (blk_below (g := gb124) (o := .cells #[.string t118, .int .i64 t119] 26 (0, 0)) (by (with_reducible repeat (first | refine blk_drewN ?_ _ | refine blk_drew ?_ | refine blk_alloc ?_ _)); exact BK124.out) hb); have n8_ := Aside0.mk (blk_below (g := gb135) (o := .cells #[.string t129, .int .i64 t130] 26 (0, 0)) (by (with_reducible repeat (first | refine blk_drewN ?_ _ | refine blk_drew ?_ | refine blk_alloc ?_ _)); exact BK135.out) hb); have n9_ := Aside0.mk (below_step (by repeat (first | (with_reducible first | exact HB.out | apply below_alloc | apply pw_below_drewN | apply below_drew1 | refine below_set ?_ GE112.out | refine below_set ?_ GE124.out | refine below_set ?_ GE135.out) | exact HB.out)) hb); clear HO117; clear HO122; clear HO128; clear HO133; clear HO139; clear BK112; clear BK124; clear BK135; clear HB; have HO117 := n0_; have HO122 := n1_; have HO128 := n2_; have HO133 := n3_; have HO139 := n4_; have HO144 := n5_; have BK112 := n6_; have BK124 := n7_; have BK135 := n8_; have HB := n9_; clear n0_ n1_ n2_ n3_ n4_ n5_ n6_ n7_ n8_ n9_; (try clear hb); (try clear hb2); (try clear hk); (try clear hi); (try clear ho0)
                 refine hK.out _ _ ⟨(blk_cell BK124.out 0).trans rfl, (blk_cell BK124.out 1).trans rfl, HS2_⟩ (fun hHeld => ?_)
                 clear hK K
                 refine norm_ (a' := ?_) ?_ ?_
                 rotate_left
                 ·show Act.put _ (some 76) _ = _
                  simp only [Act.put, List.setIfInBounds_toArray, List.set_cons_zero, List.set_cons_succ, i64_w, i32_w]
                  rfl
                 refine pure_ (i := 7) (N := some 69) (v := ?_) (a' := ?_) #[true, true, true, true, true, true, true, true, false, false, false, false, false, false, false] rfl rfl (any_of HT_.out (by kernel_rfl)) (fun _ _ _ h => h) (Or.inl ⟨by rfl, ?_⟩) ?_ ?_
                 rotate_left
                 ·intro w'
                  go_simp
                  with_reducible rfl
                 rotate_left
                 ·simp only [Act.put, List.setIfInBounds_toArray, List.set_cons_zero, List.set_cons_succ, i64_w, i32_w]
                  rfl
                 refine pure_ (i := 8) (N := some 77) (v := ?_) (a' := ?_) #[true, true, true, true, true, true, true, true, true, false, false, false, false, false, false] rfl rfl (any_of HT_.out (by kernel_rfl)) (fun _ _ _ h => h) (Or.inl ⟨by rfl, ?_⟩) ?_ ?_
                 rotate_left
                 ·intro w'
                  go_simp
                  with_reducible rfl
                 rotate_left
                 ·simp only [Act.put, List.setIfInBounds_toArray, List.set_cons_zero, List.set_cons_succ, i64_w, i32_w]
                  rfl
                 refine pure_ (i := 9) (N := some 78) (v := ?_) (a' := ?_) #[true, true, true, true, true, true, true, true, true, true, false, false, false, false, false] rfl rfl (any_of HT_.out (by kernel_rfl)) (fun _ _ _ h => h) (Or.inl ⟨by rfl, ?_⟩) ?_ ?_
                 rotate_left
                 ·intro w'
                  go_simp
                  with_reducible rfl
                 rotate_left
                 ·simp only [Act.put, List.setIfInBounds_toArray, List.set_cons_zero, List.set_cons_succ, i64_w, i32_w]
                  rfl
                 refine pure_ (i := 10) (N := some 79) (v := ?_) (a' := ?_) #[true, true, true, true, true, true, true, true, true, true, true, false, false, false, false] rfl rfl (any_of HT_.out (by kernel_rfl)) (fun _ _ _ h => h) (Or.inl ⟨by rfl, ?_⟩) ?_ ?_
                 rotate_left
                 ·intro w'
                  go_simp
                  with_reducible rfl
                 rotate_left
                 ·simp only [Act.put, List.setIfInBounds_toArray, List.set_cons_zero, List.set_cons_succ, i64_w, i32_w]
                  rfl
                 refine one_ (i := 11) (N := some 11) #[true, true, true, true, true, true, true, true, true, true, true, true, false, false, false] rfl rfl (one_of HT_.out (by kernel_rfl)) (by decide) (fun K hK => ?_)
                 refine box_step ?hg (N := 11) ?hd (cs := #[.string (⟨#[]⟩ : ByteArray), .int .i64 0]) (t := 26) ?hr ?_; (case hd => rfl); (case hg => rfl); (case hr => first | (go_simp; done) | (go_simp; rfl))
                 intro gb146 hg w61 hbox hb
                 have HS2_ := (hb.cell (World.block_lt_of_cell? _ _ (hHeld.2.2))).trans (hHeld.2.2)
                 have n0_ := Aside0.mk (Kd.R_below (by (with_reducible repeat (first | apply Kd.R_alloc | apply Kd.R_drewN | apply Kd.R_drew)); exact HO117.out) hb); have n1_ := Aside0.mk (Kd.R_below (by (with_reducible repeat (first | apply Kd.R_alloc | apply Kd.R_drewN | apply Kd.R_drew)); exact HO122.out) hb); have n2_ := Aside0.mk (Kd.R_below (by (with_reducible repeat (first | apply Kd.R_alloc | apply Kd.R_drewN | apply Kd.R_drew)); exact HO128.out) hb); have n3_ := Aside0.mk (Kd.R_below (by (with_reducible repeat (first | apply Kd.R_alloc | apply Kd.R_drewN | apply Kd.R_drew)); exact HO133.out) hb); have n4_ := Aside0.mk (Kd.R_below (by (with_reducible repeat (first | apply Kd.R_alloc | apply Kd.R_drewN | apply Kd.R_drew)); exact HO139.out) hb); have n5_ := Aside0.mk (Kd.R_below (by (with_reducible repeat (first | apply Kd.R_alloc | apply Kd.R_drewN | apply Kd.R_drew)); exact HO144.out) hb); have n6_ := Aside0.mk (blk_below (g := gb112) (o := .cells #[.string a0_0, .int .i64 a0_1] 26 (0, 0)) (by (with_reducible repeat (first | refine blk_drewN ?_ _ | refine blk_drew ?_ | refine blk_alloc ?_ _)); exact BK112.out) hb); have n7_ := Aside0.mk (blk_below (g := gb124) (o := .cells #[.string t118, .int .i64 t119] 26 (0, 0)) (by (with_reducible repeat (first | refine blk_drewN ?_ _ | refine blk_drew ?_ | refine blk_alloc ?_ _)); exact BK124.out) hb); have n8_ := Aside0.mk (blk_below (g := gb135) (o := .cells #[.string t129, .int .i64 t130] 26 (0, 0)) (by (with_reducible repeat (first | refine blk_drewN ?_ _ | refine blk_drew ?_ | refine blk_alloc ?_ _)); exact BK135.out) hb); have n9_ := Aside0.mk (below_step (by repeat (first | (with_reducible first | exact HB.out | apply below_alloc | apply pw_below_drewN | apply below_drew1 | refine below_set ?_ GE112.out | refine below_set ?_ GE124.out | refine below_set ?_ GE135.out) | exact HB.out)) hb); have n10_ := Aside0.mk (hbox); have n11_ := Aside0.mk ((by rw [hg]; exact (below_size (by repeat (first | (with_reducible first | exact HB.out | apply below_alloc | apply pw_below_drewN | apply below_drew1 | refine below_set ?_ GE112.out | refine below_set ?_ GE124.out | refine below_set ?_ GE135.out) | exact HB.out))) : w.heap.size ≤ gb146)); have n12_ := Aside0.mk ((by rw [hg]; exact (below_size (by repeat (first | (with_reducible first | exact HB.out | apply below_alloc | apply pw_below_drewN | apply below_drew1 | refine below_set ?_ GE112.out | refine below_set ?_ GE124.out | refine below_set ?_ GE135.out) | exact HB.out))) : w.heap.size ≤ gb146)); have n13_ := Aside0.mk ((by rw [hg]; exact Nat.ne_of_lt (blk_lt (g := gb112) (o := .cells #[.string a0_0, .int .i64 a0_1] 26 (0, 0)) (by (with_reducible repeat (first | refine blk_drewN ?_ _ | refine blk_drew ?_ | refine blk_alloc ?_ _)); exact BK112.out)) : gb112 ≠ gb146)); have n14_ := Aside0.mk ((by rw [hg]; exact Nat.ne_of_gt (blk_lt (g := gb112) (o := .cells #[.string a0_0, .int .i64 a0_1] 26 (0, 0)) (by (with_reducible repeat (first | refine blk_drewN ?_ _ | refine blk_drew ?_ | refine blk_alloc ?_ _)); exact BK112.out)) : gb146 ≠ gb112)); have n15_ := Aside0.mk ((by rw [hg]; exact Nat.ne_of_lt (blk_lt (g := gb124) (o := .cells #[.string t118, .int .i64 t119] 26 (0, 0)) (by (with_reducible repeat (first | refine blk_drewN ?_ _ | refine blk_drew ?_ | refine blk_alloc ?_ _)); exact BK124.out)) : gb124 ≠ gb146)); have n16_ := Aside0.mk ((by rw [hg]; exact Nat.ne_of_gt (blk_lt (g := gb124) (o := .cells #[.string t118, .int .i64 t119] 26 (0, 0)) (by (with_reducible repeat (first | refine blk_drewN ?_ _ | refine blk_drew ?_ | refine blk_alloc ?_ _)); exact BK124.out)) : gb146 ≠ gb124)); have n17_ := Aside0.mk ((by rw [hg]; exact Nat.ne_of_lt (blk_lt (g := gb135) (o := .cells #[.string t129, .int .i64 t130] 26 (0, 0)) (by (with_reducible repeat (first | refine blk_drewN ?_ _ | refine blk_drew ?_ | refine blk_alloc ?_ _)); exact BK135.out)) : gb135 ≠ gb146)); have n18_ := Aside0.mk ((by rw [hg]; exact Nat.ne_of_gt (blk_lt (g := gb135) (o := .cells #[.string t129, .int .i64 t130] 26 (0, 0)) (by (with_reducible repeat (first | refine blk_drewN ?_ _ | refine blk_drew ?_ | refine blk_alloc ?_ _)); exact BK135.out)) : gb146 ≠ gb135))
                 clear HO117; clear HO122; clear HO128; clear HO133; clear HO139; clear HO144; clear BK112; clear BK124; clear BK135; clear HB; have HO117 := n0_; have HO122 := n1_; have HO128 := n2_; have HO133 := n3_; have HO139 := n4_; have HO144 := n5_; have BK112 := n6_; have BK124 := n7_; have BK135 := n8_; have HB := n9_; have BK146 := n10_; have GW146 := n11_; have GE146 := n12_; have NB112_146 := n13_; have NB146_112 := n14_; have NB124_146 := n15_; have NB146_124 := n16_; have NB135_146 := n17_; have NB146_135 := n18_; clear n0_ n1_ n2_ n3_ n4_ n5_ n6_ n7_ n8_ n9_ n10_ n11_ n12_ n13_ n14_ n15_ n16_ n17_ n18_; clear hb hbox hg
                 refine hK.out _ _ ⟨(blk_cell BK124.out 0).trans rfl, (blk_cell BK124.out 1).trans rfl, HS2_⟩ (fun hHeld => ?_)
                 clear hK K
                 refine norm_ (a' := ?_) ?_ ?_
                 rotate_left
                 ·show Act.put _ (some 11) _ = _
                  simp only [Act.put, List.setIfInBounds_toArray, List.set_cons_zero, List.set_cons_succ, i64_w, i32_w]
                  rfl
                 exact norm_ (by simp only [putAll, Act.put, List.setIfInBounds_toArray, List.set_cons_zero, List.set_cons_succ]) (hCont (.slice Ao59 y137.length co59, v143, gb146) _ ⟨hHeld, (by (with_reducible repeat (first | apply Kd.R_alloc | apply Kd.R_drewN | apply Kd.R_drew)); exact HO117.out), (by (with_reducible repeat (first | apply Kd.R_alloc | apply Kd.R_drewN | apply Kd.R_drew)); exact HO122.out), (by (with_reducible repeat (first | apply Kd.R_alloc | apply Kd.R_drewN | apply Kd.R_drew)); exact HO128.out), (by (with_reducible repeat (first | apply Kd.R_alloc | apply Kd.R_drewN | apply Kd.R_drew)); exact HO133.out), (by (with_reducible repeat (first | apply Kd.R_alloc | apply Kd.R_drewN | apply Kd.R_drew)); exact Kd.R_mono HO139.out (fun _ hk => ⟨hk.1.2, hk.2⟩)), (by (with_reducible repeat (first | apply Kd.R_alloc | apply Kd.R_drewN | apply Kd.R_drew)); exact Kd.R_mono HO144.out (fun _ hk => ⟨hk.1.2, hk.2⟩)), (by (with_reducible repeat (first | refine blk_drewN ?_ _ | refine blk_drew ?_ | refine blk_alloc ?_ _)); exact BK112.out), (by (with_reducible repeat (first | refine blk_drewN ?_ _ | refine blk_drew ?_ | refine blk_alloc ?_ _)); exact BK124.out), (by (with_reducible repeat (first | refine blk_drewN ?_ _ | refine blk_drew ?_ | refine blk_alloc ?_ _)); exact BK135.out), (by (with_reducible repeat (first | refine blk_drewN ?_ _ | refine blk_drew ?_ | refine blk_alloc ?_ _)); exact BK146.out), GW146.out, GE146.out, NB112_146.out, NB146_112.out, NB124_146.out, NB146_124.out, NB135_146.out, NB146_135.out, (by repeat (first | (with_reducible first | exact HB.out | apply below_alloc | apply pw_below_drewN | apply below_drew1 | refine below_set ?_ GE112.out | refine below_set ?_ GE124.out | refine below_set ?_ GE135.out | refine below_set ?_ GE146.out) | exact HB.out))⟩)
                ·skip
                 refine box_step ?hg (N := 11) ?hd (cs := #[.string (⟨#[]⟩ : ByteArray), .int .i64 0]) (t := 26) ?hr ?_; (case hd => rfl); (case hg => rfl); (case hr => first | (go_simp; done) | (go_simp; rfl))
                 intro gb146 hg w59 hbox hb
                 have HS2_ := (hb.cell (World.block_lt_of_cell? _ _ (hHeld.2.2))).trans (hHeld.2.2)
                 have n0_ := Aside0.mk (Kd.R_below (by (with_reducible repeat (first | apply Kd.R_alloc | apply Kd.R_drewN | apply Kd.R_drew)); exact HO117.out) hb); have n1_ := Aside0.mk (Kd.R_below (by (with_reducible repeat (first | apply Kd.R_alloc | apply Kd.R_drewN | apply Kd.R_drew)); exact HO122.out) hb); have n2_ := Aside0.mk (Kd.R_below (by (with_reducible repeat (first | apply Kd.R_alloc | apply Kd.R_drewN | apply Kd.R_drew)); exact HO128.out) hb); have n3_ := Aside0.mk (Kd.R_below (by (with_reducible repeat (first | apply Kd.R_alloc | apply Kd.R_drewN | apply Kd.R_drew)); exact HO133.out) hb); have n4_ := Aside0.mk (Kd.R_below (by (with_reducible repeat (first | apply Kd.R_alloc | apply Kd.R_drewN | apply Kd.R_drew)); exact HO139.out) hb); have n5_ := Aside0.mk (blk_below (g := gb112) (o := .cells #[.string a0_0, .int .i64 a0_1] 26 (0, 0)) (by (with_reducible repeat (first | refine blk_drewN ?_ _ | refine blk_drew ?_ | refine blk_alloc ?_ _)); exact BK112.out) hb); have n6_ := Aside0.mk (blk_below (g := gb124) (o := .cells #[.string t118, .int .i64 t119] 26 (0, 0)) (by (with_reducible repeat (first | refine blk_drewN ?_ _ | refine blk_drew ?_ | refine blk_alloc ?_ _)); exact BK124.out) hb); have n7_ := Aside0.mk (blk_below (g := gb135) (o := .cells #[.string t129, .int .i64 t130] 26 (0, 0)) (by (with_reducible repeat (first | refine blk_drewN ?_ _ | refine blk_drew ?_ | refine blk_alloc ?_ _)); exact BK135.out) hb); have n8_ := Aside0.mk (below_step (by repeat (first | (with_reducible first | exact HB.out | apply below_alloc | apply pw_below_drewN | apply below_drew1 | refine below_set ?_ GE112.out | refine below_set ?_ GE124.out | refine below_set ?_ GE135.out) | exact HB.out)) hb); have n9_ := Aside0.mk (hbox); have n10_ := Aside0.mk ((by rw [hg]; exact (below_size (by repeat (first | (with_reducible first | exact HB.out | apply below_alloc | apply pw_below_drewN | apply below_drew1 | refine below_set ?_ GE112.out | refine below_set ?_ GE124.out | refine below_set ?_ GE135.out) | exact HB.out))) : w.heap.size ≤ gb146)); have n11_ := Aside0.mk ((by rw [hg]; exact (below_size (by repeat (first | (with_reducible first | exact HB.out | apply below_alloc | apply pw_below_drewN | apply below_drew1 | refine below_set ?_ GE112.out | refine below_set ?_ GE124.out | refine below_set ?_ GE135.out) | exact HB.out))) : w.heap.size ≤ gb146)); have n12_ := Aside0.mk ((by rw [hg]; exact Nat.ne_of_lt (blk_lt (g := gb112) (o := .cells #[.string a0_0, .int .i64 a0_1] 26 (0, 0)) (by (with_reducible repeat (first | refine blk_drewN ?_ _ | refine blk_drew ?_ | refine blk_alloc ?_ _)); exact BK112.out)) : gb112 ≠ gb146)); have n13_ := Aside0.mk ((by rw [hg]; exact Nat.ne_of_gt (blk_lt (g := gb112) (o := .cells #[.string a0_0, .int .i64 a0_1] 26 (0, 0)) (by (with_reducible repeat (first | refine blk_drewN ?_ _ | refine blk_drew ?_ | refine blk_alloc ?_ _)); exact BK112.out)) : gb146 ≠ gb112)); have n14_ := Aside0.mk ((by rw [hg]; exact Nat.ne_of_lt (blk_lt (g := gb124) (o := .cells #[.string t118, .int .i64 t119] 26 (0, 0)) (by (with_reducible repeat (first | refine blk_drewN ?_ _ | refine blk_drew ?_ | refine blk_alloc ?_ _)); exact BK124.out)) : gb124 ≠ gb146)); have n15_ := Aside0.mk ((by rw [hg]; exact Nat.ne_of_gt (blk_lt (g := gb124) (o := .cells #[.string t118, .int .i64 t119] 26 (0, 0)) (by (with_reducible repeat (first | refine blk_drewN ?_ _ | refine blk_drew ?_ | refine blk_alloc ?_ _)); exact BK124.out)) : gb146 ≠ gb124)); have n16_ := Aside0.mk ((by rw [hg]; exact Nat.ne_of_lt (blk_lt (g := gb135) (o := .cells #[.string t129, .int .i64 t130] 26 (0, 0)) (by (with_reducible repeat (first | refine blk_drewN ?_ _ | refine blk_drew ?_ | refine blk_alloc ?_ _)); exact BK135.out)) : gb135 ≠ gb146)); have n17_ := Aside0.mk ((by rw [hg]; exact Nat.ne_of_gt (blk_lt (g := gb135) (o := .cells #[.string t129, .int .i64 t130] 26 (0, 0)) (by (with_reducible repeat (first | refine blk_drewN ?_ _ | refine blk_drew ?_ | refine blk_alloc ?_ _)); exact BK135.out)) : gb146 ≠ gb135))
                 clear HO117; clear HO122; clear HO128; clear HO133; clear HO139; clear BK112; clear BK124; clear BK135; clear HB; have HO117 := n0_; have HO122 := n1_; have HO128 := n2_; have HO133 := n3_; have HO139 := n4_; have BK112 := n5_; have BK124 := n6_; have BK135 := n7_; have HB := n8_; have BK146 := n9_; have GW146 := n10_; have GE146 := n11_; have NB112_146 := n12_; have NB146_112 := n13_; have NB124_146 := n14_; have NB146_124 := n15_; have NB135_146 := n16_; have NB146_135 := n17_; clear n0_ n1_ n2_ n3_ n4_ n5_ n6_ n7_ n8_ n9_ n10_ n11_ n12_ n13_ n14_ n15_ n16_ n17_; clear hb hbox hg
                 obtain ⟨Ao60, co60, eo60⟩ := Kd.R_slice HO139.out
                 (first | subst eo60 | (injection eo60 with f1_ f2_ f3_; have f4_ := f1_.symm; have f5_ := f3_.symm; clear f1_ f2_ f3_; subst f4_; subst f5_))
                 refine hK.out _ _ ⟨(blk_cell BK124.out 0).trans rfl, (blk_cell BK124.out 1).trans rfl, HS2_⟩ (fun hHeld => ?_)
                 clear hK K
                 refine norm_ (a' := ?_) ?_ ?_
                 rotate_left
                 ·show Act.put _ (some 11) _ = _
                  simp only [Act.put, List.setIfInBounds_toArray, List.set_cons_zero, List.set_cons_succ, i64_w, i32_w]
                  rfl
                 refine one_ (i := 6) (N := some 76) #[true, true, true, true, true, true, true, false, false, false, false, true, false, false, false] rfl rfl (one_of HT_.out (by kernel_rfl)) (by decide) (fun K hK => ?_)
                 refine goes_ Tryd.func11 (by kernel_rfl) rfl #[.agg #[.string t118, .int .i64 t119], .slice Ao60 y137.length co60] (by rfl) rfl rfl (by (try simp only [List.map_toArray, List.map_cons, List.map_nil]); first | done | rfl | (simp only [List.length_drop, List.length_take]; rfl) | (simp only [Int.toNat_natCast, ByteArray.extract_zero_size]; rfl)) ?_
                 with_reducible refine (impl_EditedFrom.calls t118 t119 _ _ y137 t140 t141 t142 true _ ?side1 ?side2 A28.out).mono ?_
                 (case side1 => repeat (first | exact (Kd.R_reads' HO139.out).2.2 | (with_reducible refine Kd.C_alloc ?_ _) | (with_reducible refine Kd.C_drewN ?_ _) | (with_reducible refine Kd.C_drew ?_)))
                 (case side2 => exact (Kd.R_reads' HO139.out).2.1)
                 rintro e w61 ⟨v143, rfl, ho0, hb⟩
                 have HS2_ := (hb.cell (World.block_lt_of_cell? _ _ (hHeld.2.2))).trans (hHeld.2.2)
                 refine ⟨_, rfl, ?_⟩
                 have n0_ := Aside0.mk (Kd.R_below (by (with_reducible repeat (first | apply Kd.R_alloc | apply Kd.R_drewN | apply Kd.R_drew)); exact HO117.out) hb); have n1_ := Aside0.mk (Kd.R_elder' (by (with_reducible repeat (first | apply Kd.R_alloc | apply Kd.R_drewN | apply Kd.R_drew)); exact HO122.out) (Kd.R_base ho0) hb); have n2_ := Aside0.mk (Kd.R_below (by (with_reducible repeat (first | apply Kd.R_alloc | apply Kd.R_drewN | apply Kd.R_drew)); exact HO128.out) hb); have n3_ := Aside0.mk (Kd.R_elder' (by (with_reducible repeat (first | apply Kd.R_alloc | apply Kd.R_drewN | apply Kd.R_drew)); exact HO133.out) (Kd.R_base ho0) hb); have n4_ := Aside0.mk (Kd.R_below (by (with_reducible repeat (first | apply Kd.R_alloc | apply Kd.R_drewN | apply Kd.R_drew)); exact HO139.out) hb); have n5_ := Aside0.mk (Kd.R_lower (Kd.R_new' (Kd.R_new' ho0 (Kd.R_lt (by (with_reducible repeat (first | apply Kd.R_alloc | apply Kd.R_drewN | apply Kd.R_drew)); exact HO122.out))) (Kd.R_lt (by (with_reducible repeat (first | apply Kd.R_alloc | apply Kd.R_drewN | apply Kd.R_drew)); exact HO133.out))) (below_size (by repeat (first | (with_reducible first | exact HB.out | apply below_alloc | apply pw_below_drewN | apply below_drew1 | refine below_set ?_ GE112.out | refine below_set ?_ GE124.out | refine below_set ?_ GE135.out | refine below_set ?_ GE146.out) | exact HB.out)))); have n6_ := Aside0.mk (blk_below (g := gb112) (o := .cells #[.string a0_0, .int .i64 a0_1] 26 (0, 0)) (by (with_reducible repeat (first | refine blk_drewN ?_ _ | refine blk_drew ?_ | refine blk_alloc ?_ _)); exact BK112.out) hb); have n7_ := Aside0.mk (blk_below (g := gb124) (o := .cells #[.string t118, .int .i64 t119] 26 (0, 0)) (by (with_reducible repeat (first | refine blk_drewN ?_ _ | refine blk_drew ?_ | refine blk_alloc ?_ _)); exact BK124.out) hb); have n8_ := Aside0.mk (blk_below (g := gb135) (o := .cells #[.string t129, .int .i64 t130] 26 (0, 0)) (by (with_reducible repeat (first | refine blk_drewN ?_ _ | refine blk_drew ?_ | refine blk_alloc ?_ _)); exact BK135.out) hb); have n9_ := Aside0.mk (blk_below (g := gb146) (o := .cells #[.string (⟨#[]⟩ : ByteArray), .int .i64 0] 26 (0, 0)) (by (with_reducible repeat (first | refine blk_drewN ?_ _ | refine blk_drew ?_ | refine blk_alloc ?_ _)); exact BK146.out) hb); have n10_ := Aside0.mk (below_step (by repeat (first | (with_reducible first | exact HB.out | apply below_alloc | apply pw_below_drewN | apply below_drew1 | refine below_set ?_ GE112.out | refine below_set ?_ GE124.out | refine below_set ?_ GE135.out | refine below_set ?_ GE146.out) | exact HB.out)) hb); clear HO117; clear HO122; clear HO128; clear HO133; clear HO139; clear BK112; clear BK124; clear BK135; clear BK146; clear HB; have HO117 := n0_; have HO122 := n1_; have HO128 := n2_; have HO133 := n3_; have HO139 := n4_; have HO144 := n5_; have BK112 := n6_; have BK124 := n7_; have BK135 := n8_; have BK146 := n9_; have HB := n10_; clear n0_ n1_ n2_ n3_ n4_ n5_ n6_ n7_ n8_ n9_ n10_; (try clear hb); (try clear hb2); (try clear hk); (try clear hi); (try clear ho0)
                 refine hK.out _ _ ⟨(blk_cell BK124.out 0).trans rfl, (blk_cell BK124.out 1).trans rfl, HS2_⟩ (fun hHeld => ?_)
                 clear hK K
                 refine norm_ (a' := ?_) ?_ ?_
                 rotate_left
                 ·show Act.put _ (some 76) _ = _
                  simp only [Act.put, List.setIfInBounds_toArray, List.set_cons_zero, List.set_cons_succ, i64_w, i32_w]
                  rfl
                 refine pure_ (i := 7) (N := some 69) (v := ?_) (a' := ?_) #[true, true, true, true, true, true, true, true, false, false, false, true, false, false, false] rfl rfl (any_of HT_.out (by kernel_rfl)) (fun _ _ _ h => h) (Or.inl ⟨by rfl, ?_⟩) ?_ ?_
                 rotate_left
                 ·intro w'
                  go_simp
                  with_reducible rfl
                 rotate_left
                 ·simp only [Act.put, List.setIfInBounds_toArray, List.set_cons_zero, List.set_cons_succ, i64_w, i32_w]
                  rfl
                 refine pure_ (i := 8) (N := some 77) (v := ?_) (a' := ?_) #[true, true, true, true, true, true, true, true, true, false, false, true, false, false, false] rfl rfl (any_of HT_.out (by kernel_rfl)) (fun _ _ _ h => h) (Or.inl ⟨by rfl, ?_⟩) ?_ ?_
                 rotate_left
                 ·intro w'
                  go_simp
                  with_reducible rfl
                 rotate_left
                 ·simp only [Act.put, List.setIfInBounds_toArray, List.set_cons_zero, List.set_cons_succ, i64_w, i32_w]
                  rfl
                 refine pure_ (i := 9) (N := some 78) (v := ?_) (a' := ?_) #[true, true, true, true, true, true, true, true, true, true, false, true, false, false, false] rfl rfl (any_of HT_.out (by kernel_rfl)) (fun _ _ _ h => h) (Or.inl ⟨by rfl, ?_⟩) ?_ ?_
                 rotate_left
                 ·intro w'
                  go_simp
                  with_reducible rfl
                 rotate_left
                 ·simp only [Act.put, List.setIfInBounds_toArray, List.set_cons_zero, List.set_cons_succ, i64_w, i32_w]
                  rfl
                 refine pure_ (i := 10) (N := some 79) (v := ?_) (a' := ?_) #[true, true, true, true, true, true, true, true, true, true, true, true, false, false, false] rfl rfl (any_of HT_.out (by kernel_rfl)) (fun _ _ _ h => h) (Or.inl ⟨by rfl, ?_⟩) ?_ ?_
                 rotate_left
                 ·intro w'
                  go_simp
                  with_reducible rfl
                 rotate_left
                 ·simp only [Act.put, List.setIfInBounds_toArray, List.set_cons_zero, List.set_cons_succ, i64_w, i32_w]
                  rfl
                 exact norm_ (by simp only [putAll, Act.put, List.setIfInBounds_toArray, List.set_cons_zero, List.set_cons_succ]) (hCont (.slice Ao60 y137.length co60, v143, gb146) _ ⟨hHeld, (by (with_reducible repeat (first | apply Kd.R_alloc | apply Kd.R_drewN | apply Kd.R_drew)); exact HO117.out), (by (with_reducible repeat (first | apply Kd.R_alloc | apply Kd.R_drewN | apply Kd.R_drew)); exact HO122.out), (by (with_reducible repeat (first | apply Kd.R_alloc | apply Kd.R_drewN | apply Kd.R_drew)); exact HO128.out), (by (with_reducible repeat (first | apply Kd.R_alloc | apply Kd.R_drewN | apply Kd.R_drew)); exact HO133.out), (by (with_reducible repeat (first | apply Kd.R_alloc | apply Kd.R_drewN | apply Kd.R_drew)); exact Kd.R_mono HO139.out (fun _ hk => ⟨hk.1.2, hk.2⟩)), (by (with_reducible repeat (first | apply Kd.R_alloc | apply Kd.R_drewN | apply Kd.R_drew)); exact Kd.R_mono HO144.out (fun _ hk => ⟨hk.1.2, hk.2⟩)), (by (with_reducible repeat (first | refine blk_drewN ?_ _ | refine blk_drew ?_ | refine blk_alloc ?_ _)); exact BK112.out), (by (with_reducible repeat (first | refine blk_drewN ?_ _ | refine blk_drew ?_ | refine blk_alloc ?_ _)); exact BK124.out), (by (with_reducible repeat (first | refine blk_drewN ?_ _ | refine blk_drew ?_ | refine blk_alloc ?_ _)); exact BK135.out), (by (with_reducible repeat (first | refine blk_drewN ?_ _ | refine blk_drew ?_ | refine blk_alloc ?_ _)); exact BK146.out), GW146.out, GE146.out, NB112_146.out, NB146_112.out, NB124_146.out, NB146_124.out, NB135_146.out, NB146_135.out, (by repeat (first | (with_reducible first | exact HB.out | apply below_alloc | apply pw_below_drewN | apply below_drew1 | refine below_set ?_ GE112.out | refine below_set ?_ GE124.out | refine below_set ?_ GE135.out | refine below_set ?_ GE146.out) | exact HB.out))⟩)
               ·skip
                refine box_step ?hg (N := 11) ?hd (cs := #[.string (⟨#[]⟩ : ByteArray), .int .i64 0]) (t := 26) ?hr ?_; (case hd => rfl); (case hg => rfl); (case hr => first | (go_simp; done) | (go_simp; rfl))
                intro gb146 hg w57 hbox hb
                have HS2_ := (hb.cell (World.block_lt_of_cell? _ _ (hHeld.2.2))).trans (hHeld.2.2)
                have n0_ := Aside0.mk (Kd.R_below (by (with_reducible repeat (first | apply Kd.R_alloc | apply Kd.R_drewN | apply Kd.R_drew)); exact HO117.out) hb); have n1_ := Aside0.mk (Kd.R_below (by (with_reducible repeat (first | apply Kd.R_alloc | apply Kd.R_drewN | apply Kd.R_drew)); exact HO122.out) hb); have n2_ := Aside0.mk (Kd.R_below (by (with_reducible repeat (first | apply Kd.R_alloc | apply Kd.R_drewN | apply Kd.R_drew)); exact HO128.out) hb); have n3_ := Aside0.mk (Kd.R_below (by (with_reducible repeat (first | apply Kd.R_alloc | apply Kd.R_drewN | apply Kd.R_drew)); exact HO133.out) hb); have n4_ := Aside0.mk (blk_below (g := gb112) (o := .cells #[.string a0_0, .int .i64 a0_1] 26 (0, 0)) (by (with_reducible repeat (first | refine blk_drewN ?_ _ | refine blk_drew ?_ | refine blk_alloc ?_ _)); exact BK112.out) hb); have n5_ := Aside0.mk (blk_below (g := gb124) (o := .cells #[.string t118, .int .i64 t119] 26 (0, 0)) (by (with_reducible repeat (first | refine blk_drewN ?_ _ | refine blk_drew ?_ | refine blk_alloc ?_ _)); exact BK124.out) hb); have n6_ := Aside0.mk (blk_below (g := gb135) (o := .cells #[.string t129, .int .i64 t130] 26 (0, 0)) (by (with_reducible repeat (first | refine blk_drewN ?_ _ | refine blk_drew ?_ | refine blk_alloc ?_ _)); exact BK135.out) hb); have n7_ := Aside0.mk (below_step (by repeat (first | (with_reducible first | exact HB.out | apply below_alloc | apply pw_below_drewN | apply below_drew1 | refine below_set ?_ GE112.out | refine below_set ?_ GE124.out | refine below_set ?_ GE135.out) | exact HB.out)) hb); have n8_ := Aside0.mk (hbox); have n9_ := Aside0.mk ((by rw [hg]; exact (below_size (by repeat (first | (with_reducible first | exact HB.out | apply below_alloc | apply pw_below_drewN | apply below_drew1 | refine below_set ?_ GE112.out | refine below_set ?_ GE124.out | refine below_set ?_ GE135.out) | exact HB.out))) : w.heap.size ≤ gb146)); have n10_ := Aside0.mk ((by rw [hg]; exact (below_size (by repeat (first | (with_reducible first | exact HB.out | apply below_alloc | apply pw_below_drewN | apply below_drew1 | refine below_set ?_ GE112.out | refine below_set ?_ GE124.out | refine below_set ?_ GE135.out) | exact HB.out))) : w.heap.size ≤ gb146)); have n11_ := Aside0.mk ((by rw [hg]; exact Nat.ne_of_lt (blk_lt (g := gb112) (o := .cells #[.string a0_0, .int .i64 a0_1] 26 (0, 0)) (by (with_reducible repeat (first | refine blk_drewN ?_ _ | refine blk_drew ?_ | refine blk_alloc ?_ _)); exact BK112.out)) : gb112 ≠ gb146)); have n12_ := Aside0.mk ((by rw [hg]; exact Nat.ne_of_gt (blk_lt (g := gb112) (o := .cells #[.string a0_0, .int .i64 a0_1] 26 (0, 0)) (by (with_reducible repeat (first | refine blk_drewN ?_ _ | refine blk_drew ?_ | refine blk_alloc ?_ _)); exact BK112.out)) : gb146 ≠ gb112)); have n13_ := Aside0.mk ((by rw [hg]; exact Nat.ne_of_lt (blk_lt (g := gb124) (o := .cells #[.string t118, .int .i64 t119] 26 (0, 0)) (by (with_reducible repeat (first | refine blk_drewN ?_ _ | refine blk_drew ?_ | refine blk_alloc ?_ _)); exact BK124.out)) : gb124 ≠ gb146)); have n14_ := Aside0.mk ((by rw [hg]; exact Nat.ne_of_gt (blk_lt (g := gb124) (o := .cells #[.string t118, .int .i64 t119] 26 (0, 0)) (by (with_reducible repeat (first | refine blk_drewN ?_ _ | refine blk_drew ?_ | refine blk_alloc ?_ _)); exact BK124.out)) : gb146 ≠ gb124)); have n15_ := Aside0.mk ((by rw [hg]; exact Nat.ne_of_lt (blk_lt (g := gb135) (o := .cells #[.string t129, .int .i64 t130] 26 (0, 0)) (by (with_reducible repeat (first | refine blk_drewN ?_ _ | refine blk_drew ?_ | refine blk_alloc ?_ _)); exact BK135.out)) : gb135 ≠ gb146)); have n16_ := Aside0.mk ((by rw [hg]; exact Nat.ne_of_gt (blk_lt (g := gb135) (o := .cells #[.string t129, .int .i64 t130] 26 (0, 0)) (by (with_reducible repeat (first | refine blk_drewN ?_ _ | refine blk_drew ?_ | refine blk_alloc ?_ _)); exact BK135.out)) : gb146 ≠ gb135)); clear HO117; clear HO122; clear HO128; clear HO133; clear BK112; clear BK124; clear BK135; clear HB
                have HO117 := n0_; have HO122 := n1_; have HO128 := n2_; have HO133 := n3_; have BK112 := n4_; have BK124 := n5_; have BK135 := n6_; have HB := n7_; have BK146 := n8_; have GW146 := n9_; have GE146 := n10_; have NB112_146 := n11_; have NB146_112 := n12_; have NB124_146 := n13_; have NB146_124 := n14_; have NB135_146 := n15_; have NB146_135 := n16_; clear n0_ n1_ n2_ n3_ n4_ n5_ n6_ n7_ n8_ n9_ n10_ n11_ n12_ n13_ n14_ n15_ n16_; clear hb hbox hg
                refine hK.out _ _ ⟨(blk_cell BK124.out 0).trans rfl, (blk_cell BK124.out 1).trans rfl, HS2_⟩ (fun hHeld => ?_)
                clear hK K
                refine norm_ (a' := ?_) ?_ ?_
                rotate_left
                ·show Act.put _ (some 11) _ = _
                 simp only [Act.put, List.setIfInBounds_toArray, List.set_cons_zero, List.set_cons_succ, i64_w, i32_w]
                 rfl
                refine one_ (i := 5) (N := some 75) #[true, true, true, true, true, true, false, false, false, false, false, true, false, false, false] rfl rfl (one_of HT_.out (by kernel_rfl)) (by decide) (fun K hK => ?_)
                refine Kd.R_lit_step k30 _ 30 ?hg (N := 75) ?hd (xs := ([(⟨1, 0, rdOf ByteArray.empty t120 0, false⟩ : S30)] : List (S30))) (inner := [.int .i64 1, .int .i64 0, .string (rdOf ByteArray.empty t120 0), .bool false]) (ok := fun _ => True) (okp := fun _ => True) ?hr ?hp (fun _ hk => hk) trivial (Below.refl _ _) (Nat.le_refl _) (by simp) ?_; (case hd => rfl); (case hg => rfl); (case hr => first | (go_simp; done) | (go_simp; rfl)); (case hp => exact (Reps.c4 (show Kd.M k30 _ _ _ (⟨1, 0, rdOf ByteArray.empty t120 0, false⟩ : S30) [.int .i64 1, .int .i64 0, .string (rdOf ByteArray.empty t120 0), .bool false] from (k30_mkM _ _ _ (⟨1, 0, rdOf ByteArray.empty t120 0, false⟩ : S30) )) (Reps.none _ _)))
                intro v138 w58 ho59 hb hg_ hnew_
                have HS2_ := (hb.cell (World.block_lt_of_cell? _ _ (hHeld.2.2))).trans (hHeld.2.2)
                clear hg_ hnew_
                (first | rw [← Ny137.out] at ho59 | (simp only [Int.reduceToNat] at ho59; rw [← Ny137.out] at ho59))
                have n0_ := Aside0.mk (Kd.R_elder' (by (with_reducible repeat (first | apply Kd.R_alloc | apply Kd.R_drewN | apply Kd.R_drew)); exact HO117.out) (Kd.R_base ho59) hb); have n1_ := Aside0.mk (Kd.R_below (by (with_reducible repeat (first | apply Kd.R_alloc | apply Kd.R_drewN | apply Kd.R_drew)); exact HO122.out) hb); have n2_ := Aside0.mk (Kd.R_elder' (by (with_reducible repeat (first | apply Kd.R_alloc | apply Kd.R_drewN | apply Kd.R_drew)); exact HO128.out) (Kd.R_base ho59) hb); have n3_ := Aside0.mk (Kd.R_below (by (with_reducible repeat (first | apply Kd.R_alloc | apply Kd.R_drewN | apply Kd.R_drew)); exact HO133.out) hb); have n4_ := Aside0.mk (Kd.R_lower (Kd.R_new' (Kd.R_new' ho59 (Kd.R_lt (by (with_reducible repeat (first | apply Kd.R_alloc | apply Kd.R_drewN | apply Kd.R_drew)); exact HO117.out))) (Kd.R_lt (by (with_reducible repeat (first | apply Kd.R_alloc | apply Kd.R_drewN | apply Kd.R_drew)); exact HO128.out))) (below_size (by repeat (first | (with_reducible first | exact HB.out | apply below_alloc | apply pw_below_drewN | apply below_drew1 | refine below_set ?_ GE112.out | refine below_set ?_ GE124.out | refine below_set ?_ GE135.out | refine below_set ?_ GE146.out) | exact HB.out)))); have n5_ := Aside0.mk (blk_below (g := gb112) (o := .cells #[.string a0_0, .int .i64 a0_1] 26 (0, 0)) (by (with_reducible repeat (first | refine blk_drewN ?_ _ | refine blk_drew ?_ | refine blk_alloc ?_ _)); exact BK112.out) hb); have n6_ := Aside0.mk (blk_below (g := gb124) (o := .cells #[.string t118, .int .i64 t119] 26 (0, 0)) (by (with_reducible repeat (first | refine blk_drewN ?_ _ | refine blk_drew ?_ | refine blk_alloc ?_ _)); exact BK124.out) hb); have n7_ := Aside0.mk (blk_below (g := gb135) (o := .cells #[.string t129, .int .i64 t130] 26 (0, 0)) (by (with_reducible repeat (first | refine blk_drewN ?_ _ | refine blk_drew ?_ | refine blk_alloc ?_ _)); exact BK135.out) hb); have n8_ := Aside0.mk (blk_below (g := gb146) (o := .cells #[.string (⟨#[]⟩ : ByteArray), .int .i64 0] 26 (0, 0)) (by (with_reducible repeat (first | refine blk_drewN ?_ _ | refine blk_drew ?_ | refine blk_alloc ?_ _)); exact BK146.out) hb); have n9_ := Aside0.mk (below_step (by repeat (first | (with_reducible first | exact HB.out | apply below_alloc | apply pw_below_drewN | apply below_drew1 | refine below_set ?_ GE112.out | refine below_set ?_ GE124.out | refine below_set ?_ GE135.out | refine below_set ?_ GE146.out) | exact HB.out)) hb); clear HO117; clear HO122; clear HO128; clear HO133; clear BK112; clear BK124; clear BK135; clear BK146; clear HB; have HO117 := n0_; have HO122 := n1_; have HO128 := n2_; have HO133 := n3_; have HO139 := n4_; have BK112 := n5_; have BK124 := n6_; have BK135 := n7_; have BK146 := n8_; have HB := n9_; clear n0_ n1_ n2_ n3_ n4_ n5_ n6_ n7_ n8_ n9_; clear hb ho59
                obtain ⟨Ao60, co60, eo60⟩ := Kd.R_slice HO139.out
                (first | subst eo60 | (injection eo60 with f1_ f2_ f3_; have f4_ := f1_.symm; have f5_ := f3_.symm; clear f1_ f2_ f3_; subst f4_; subst f5_))
                refine hK.out _ _ ⟨(blk_cell BK124.out 0).trans rfl, (blk_cell BK124.out 1).trans rfl, HS2_⟩ (fun hHeld => ?_)
                clear hK K
                refine norm_ (a' := ?_) ?_ ?_
                rotate_left
                ·show Act.put _ (some 75) _ = _
                 simp only [Act.put, List.setIfInBounds_toArray, List.set_cons_zero, List.set_cons_succ, i64_w, i32_w]
                 rfl
                refine one_ (i := 6) (N := some 76) #[true, true, true, true, true, true, true, false, false, false, false, true, false, false, false] rfl rfl (one_of HT_.out (by kernel_rfl)) (by decide) (fun K hK => ?_)
                refine goes_ Tryd.func11 (by kernel_rfl) rfl #[.agg #[.string t118, .int .i64 t119], .slice Ao60 y137.length co60] (by rfl) rfl rfl (by (try simp only [List.map_toArray, List.map_cons, List.map_nil]); first | done | rfl | (simp only [List.length_drop, List.length_take]; rfl) | (simp only [Int.toNat_natCast, ByteArray.extract_zero_size]; rfl)) ?_
                with_reducible refine (impl_EditedFrom.calls t118 t119 _ _ y137 t140 t141 t142 true _ ?side1 ?side2 A28.out).mono ?_
                (case side1 => repeat (first | exact (Kd.R_reads' HO139.out).2.2 | (with_reducible refine Kd.C_alloc ?_ _) | (with_reducible refine Kd.C_drewN ?_ _) | (with_reducible refine Kd.C_drew ?_)))
                (case side2 => exact (Kd.R_reads' HO139.out).2.1)
                rintro e w61 ⟨v143, rfl, ho0, hb⟩
                have HS2_ := (hb.cell (World.block_lt_of_cell? _ _ (hHeld.2.2))).trans (hHeld.2.2)
                refine ⟨_, rfl, ?_⟩
                have n0_ := Aside0.mk (Kd.R_below (by (with_reducible repeat (first | apply Kd.R_alloc | apply Kd.R_drewN | apply Kd.R_drew)); exact HO117.out) hb); have n1_ := Aside0.mk (Kd.R_elder' (by (with_reducible repeat (first | apply Kd.R_alloc | apply Kd.R_drewN | apply Kd.R_drew)); exact HO122.out) (Kd.R_base ho0) hb); have n2_ := Aside0.mk (Kd.R_below (by (with_reducible repeat (first | apply Kd.R_alloc | apply Kd.R_drewN | apply Kd.R_drew)); exact HO128.out) hb); have n3_ := Aside0.mk (Kd.R_elder' (by (with_reducible repeat (first | apply Kd.R_alloc | apply Kd.R_drewN | apply Kd.R_drew)); exact HO133.out) (Kd.R_base ho0) hb); have n4_ := Aside0.mk (Kd.R_below (by (with_reducible repeat (first | apply Kd.R_alloc | apply Kd.R_drewN | apply Kd.R_drew)); exact HO139.out) hb); have n5_ := Aside0.mk (Kd.R_lower (Kd.R_new' (Kd.R_new' ho0 (Kd.R_lt (by (with_reducible repeat (first | apply Kd.R_alloc | apply Kd.R_drewN | apply Kd.R_drew)); exact HO122.out))) (Kd.R_lt (by (with_reducible repeat (first | apply Kd.R_alloc | apply Kd.R_drewN | apply Kd.R_drew)); exact HO133.out))) (below_size (by repeat (first | (with_reducible first | exact HB.out | apply below_alloc | apply pw_below_drewN | apply below_drew1 | refine below_set ?_ GE112.out | refine below_set ?_ GE124.out | refine below_set ?_ GE135.out | refine below_set ?_ GE146.out) | exact HB.out)))); have n6_ := Aside0.mk (blk_below (g := gb112) (o := .cells #[.string a0_0, .int .i64 a0_1] 26 (0, 0)) (by (with_reducible repeat (first | refine blk_drewN ?_ _ | refine blk_drew ?_ | refine blk_alloc ?_ _)); exact BK112.out) hb); have n7_ := Aside0.mk (blk_below (g := gb124) (o := .cells #[.string t118, .int .i64 t119] 26 (0, 0)) (by (with_reducible repeat (first | refine blk_drewN ?_ _ | refine blk_drew ?_ | refine blk_alloc ?_ _)); exact BK124.out) hb); have n8_ := Aside0.mk (blk_below (g := gb135) (o := .cells #[.string t129, .int .i64 t130] 26 (0, 0)) (by (with_reducible repeat (first | refine blk_drewN ?_ _ | refine blk_drew ?_ | refine blk_alloc ?_ _)); exact BK135.out) hb); have n9_ := Aside0.mk (blk_below (g := gb146) (o := .cells #[.string (⟨#[]⟩ : ByteArray), .int .i64 0] 26 (0, 0)) (by (with_reducible repeat (first | refine blk_drewN ?_ _ | refine blk_drew ?_ | refine blk_alloc ?_ _)); exact BK146.out) hb); have n10_ := Aside0.mk (below_step (by repeat (first | (with_reducible first | exact HB.out | apply below_alloc | apply pw_below_drewN | apply below_drew1 | refine below_set ?_ GE112.out | refine below_set ?_ GE124.out | refine below_set ?_ GE135.out | refine below_set ?_ GE146.out) | exact HB.out)) hb); clear HO117; clear HO122; clear HO128; clear HO133; clear HO139; clear BK112; clear BK124; clear BK135; clear BK146; clear HB; have HO117 := n0_; have HO122 := n1_; have HO128 := n2_; have HO133 := n3_; have HO139 := n4_; have HO144 := n5_; have BK112 := n6_; have BK124 := n7_; have BK135 := n8_; have BK146 := n9_; have HB := n10_; clear n0_ n1_ n2_ n3_ n4_ n5_ n6_ n7_ n8_ n9_ n10_; (try clear hb); (try clear hb2); (try clear hk); (try clear hi); (try clear ho0)
                refine hK.out _ _ ⟨(blk_cell BK124.out 0).trans rfl, (blk_cell BK124.out 1).trans rfl, HS2_⟩ (fun hHeld => ?_)
                clear hK K
                refine norm_ (a' := ?_) ?_ ?_
                rotate_left
                ·show Act.put _ (some 76) _ = _
                 simp only [Act.put, List.setIfInBounds_toArray, List.set_cons_zero, List.set_cons_succ, i64_w, i32_w]
                 rfl
                refine pure_ (i := 7) (N := some 69) (v := ?_) (a' := ?_) #[true, true, true, true, true, true, true, true, false, false, false, true, false, false, false] rfl rfl (any_of HT_.out (by kernel_rfl)) (fun _ _ _ h => h) (Or.inl ⟨by rfl, ?_⟩) ?_ ?_
                rotate_left
                ·intro w'
                 go_simp
                 with_reducible rfl
                rotate_left
                ·simp only [Act.put, List.setIfInBounds_toArray, List.set_cons_zero, List.set_cons_succ, i64_w, i32_w]
                 rfl
                refine pure_ (i := 8) (N := some 77) (v := ?_) (a' := ?_) #[true, true, true, true, true, true, true, true, true, false, false, true, false, false, false] rfl rfl (any_of HT_.out (by kernel_rfl)) (fun _ _ _ h => h) (Or.inl ⟨by rfl, ?_⟩) ?_ ?_
                rotate_left
                ·intro w'
                 go_simp
                 with_reducible rfl
                rotate_left
                ·simp only [Act.put, List.setIfInBounds_toArray, List.set_cons_zero, List.set_cons_succ, i64_w, i32_w]
                 rfl
                refine pure_ (i := 9) (N := some 78) (v := ?_) (a' := ?_) #[true, true, true, true, true, true, true, true, true, true, false, true, false, false, false] rfl rfl (any_of HT_.out (by kernel_rfl)) (fun _ _ _ h => h) (Or.inl ⟨by rfl, ?_⟩) ?_ ?_
                rotate_left
                ·intro w'
                 go_simp
                 with_reducible rfl
                rotate_left
                ·simp only [Act.put, List.setIfInBounds_toArray, List.set_cons_zero, List.set_cons_succ, i64_w, i32_w]
                 rfl
                refine pure_ (i := 10) (N := some 79) (v := ?_) (a' := ?_) #[true, true, true, true, true, true, true, true, true, true, true, true, false, false, false] rfl rfl (any_of HT_.out (by kernel_rfl)) (fun _ _ _ h => h) (Or.inl ⟨by rfl, ?_⟩) ?_ ?_
                rotate_left
                ·intro w'
                 go_simp
                 with_reducible rfl
                rotate_left
                ·simp only [Act.put, List.setIfInBounds_toArray, List.set_cons_zero, List.set_cons_succ, i64_w, i32_w]
                 rfl
                exact norm_ (by simp only [putAll, Act.put, List.setIfInBounds_toArray, List.set_cons_zero, List.set_cons_succ]) (hCont (.slice Ao60 y137.length co60, v143, gb146) _ ⟨hHeld, (by (with_reducible repeat (first | apply Kd.R_alloc | apply Kd.R_drewN | apply Kd.R_drew)); exact HO117.out), (by (with_reducible repeat (first | apply Kd.R_alloc | apply Kd.R_drewN | apply Kd.R_drew)); exact HO122.out), (by (with_reducible repeat (first | apply Kd.R_alloc | apply Kd.R_drewN | apply Kd.R_drew)); exact HO128.out), (by (with_reducible repeat (first | apply Kd.R_alloc | apply Kd.R_drewN | apply Kd.R_drew)); exact HO133.out), (by (with_reducible repeat (first | apply Kd.R_alloc | apply Kd.R_drewN | apply Kd.R_drew)); exact Kd.R_mono HO139.out (fun _ hk => ⟨hk.1.2, hk.2⟩)), (by (with_reducible repeat (first | apply Kd.R_alloc | apply Kd.R_drewN | apply Kd.R_drew)); exact Kd.R_mono HO144.out (fun _ hk => ⟨hk.1.2, hk.2⟩)), (by (with_reducible repeat (first | refine blk_drewN ?_ _ | refine blk_drew ?_ | refine blk_alloc ?_ _)); exact BK112.out), (by (with_reducible repeat (first | refine blk_drewN ?_ _ | refine blk_drew ?_ | refine blk_alloc ?_ _)); exact BK124.out), (by (with_reducible repeat (first | refine blk_drewN ?_ _ | refine blk_drew ?_ | refine blk_alloc ?_ _)); exact BK135.out), (by (with_reducible repeat (first | refine blk_drewN ?_ _ | refine blk_drew ?_ | refine blk_alloc ?_ _)); exact BK146.out), GW146.out, GE146.out, NB112_146.out, NB146_112.out, NB124_146.out, NB146_124.out, NB135_146.out, NB146_135.out, (by repeat (first | (with_reducible first | exact HB.out | apply below_alloc | apply pw_below_drewN | apply below_drew1 | refine below_set ?_ GE112.out | refine below_set ?_ GE124.out | refine below_set ?_ GE135.out | refine below_set ?_ GE146.out) | exact HB.out))⟩)
              rintro ⟨v138, v143, gb146⟩ w62 ⟨hS_, h0_, h1_, h2_, h3_, h4_, h5_, h6_, h7_, h8_, h9_, h10_, h11_, h12_, h13_, h14_, h15_, h16_, h17_, h18_⟩
              have n0_ : Aside0 (Kd.R k30 30 w62 w.heap.size (fun k_ => some k_ ≠ (v127 : Value).ownBlock ∧ some k_ ≠ (v138 : Value).ownBlock) (.slice Ao37 y115.length co37) y115) := ⟨h0_⟩
              have n1_ : Aside0 (Kd.R Kd.string 9 w62 w.heap.size (fun k_ => some k_ ≠ (.slice Ao54 t131.length co54 : Value).ownBlock ∧ some k_ ≠ (v143 : Value).ownBlock) (.slice (some ad136) t120.length co53) t120) := ⟨h1_⟩
              have n2_ : Aside0 (Kd.R k30 30 w62 w.heap.size (fun k_ => some k_ ≠ (.slice Ao37 y115.length co37 : Value).ownBlock ∧ some k_ ≠ (v138 : Value).ownBlock) v127 y126) := ⟨h2_⟩
              have n3_ : Aside0 (Kd.R Kd.string 9 w62 w.heap.size (fun k_ => some k_ ≠ (.slice (some ad136) t120.length co53 : Value).ownBlock ∧ some k_ ≠ (v143 : Value).ownBlock) (.slice Ao54 t131.length co54) t131) := ⟨h3_⟩
              have n4_ : Aside0 (Kd.R k30 30 w62 w.heap.size (fun k_ => some k_ ≠ (.slice Ao37 y115.length co37 : Value).ownBlock ∧ some k_ ≠ (v127 : Value).ownBlock) v138 y137) := ⟨h4_⟩
              have n5_ : Aside0 (Kd.R Kd.string 9 w62 w.heap.size (fun k_ => some k_ ≠ (.slice (some ad136) t120.length co53 : Value).ownBlock ∧ some k_ ≠ (.slice Ao54 t131.length co54 : Value).ownBlock) v143 t142) := ⟨h5_⟩
              have n6_ : Aside0 (w62.heap[gb112]? = some (.cells #[.string a0_0, .int .i64 a0_1] 26 (0, 0))) := ⟨h6_⟩
              have n7_ : Aside0 (w62.heap[gb124]? = some (.cells #[.string t118, .int .i64 t119] 26 (0, 0))) := ⟨h7_⟩
              have n8_ : Aside0 (w62.heap[gb135]? = some (.cells #[.string t129, .int .i64 t130] 26 (0, 0))) := ⟨h8_⟩
              have n9_ : Aside0 (w62.heap[gb146]? = some (.cells #[.string (⟨#[]⟩ : ByteArray), .int .i64 0] 26 (0, 0))) := ⟨h9_⟩
              have n10_ : Aside0 (w.heap.size ≤ gb146) := ⟨h10_⟩
              have n11_ : Aside0 (w.heap.size ≤ gb146) := ⟨h11_⟩
              have n12_ : Aside0 (gb112 ≠ gb146) := ⟨h12_⟩
              have n13_ : Aside0 (gb146 ≠ gb112) := ⟨h13_⟩
              have n14_ : Aside0 (gb124 ≠ gb146) := ⟨h14_⟩
              have n15_ : Aside0 (gb146 ≠ gb124) := ⟨h15_⟩
              have n16_ : Aside0 (gb135 ≠ gb146) := ⟨h16_⟩
              have n17_ : Aside0 (gb146 ≠ gb135) := ⟨h17_⟩
              have n18_ : Aside0 (Below w.heap.size w w62) := ⟨h18_⟩
              clear HO117; clear HO122; clear HO128; clear HO133; clear BK112; clear BK124; clear BK135; clear HB; clear h0_ h1_ h2_ h3_ h4_ h5_ h6_ h7_ h8_ h9_ h10_ h11_ h12_ h13_ h14_ h15_ h16_ h17_ h18_; have HO117 := n0_; have HO122 := n1_; have HO128 := n2_; have HO133 := n3_; have HO139 := n4_; have HO144 := n5_; have BK112 := n6_; have BK124 := n7_; have BK135 := n8_; have BK146 := n9_; have GW146 := n10_; have GE146 := n11_; have NB112_146 := n12_; have NB146_112 := n13_; have NB124_146 := n14_; have NB146_124 := n15_; have NB135_146 := n16_; have NB146_135 := n17_; have HB := n18_; clear n0_ n1_ n2_ n3_ n4_ n5_ n6_ n7_ n8_ n9_ n10_ n11_ n12_ n13_ n14_ n15_ n16_ n17_ n18_
              have hHeld : w62.cell? ⟨gb124, 0, none⟩ = some (.string t118) ∧ w62.cell? ⟨gb124, 1, none⟩ = some (.int .i64 t119) ∧ w62.cell? ad136 = some (.string (rdOf ByteArray.empty t120 0)) := hS_
              refine norm_ (a' := ?_) ?_ ?_
              rotate_left
              ·simp only [putAll, Act.put, List.setIfInBounds_toArray, List.set_cons_zero, List.set_cons_succ]
               rfl
              refine one_ (i := 12) (N := none) #[true, true, true, true, true, true, true, true, true, true, true, true, true, false, false] rfl rfl (one_of HT_.out (by kernel_rfl)) (by decide) (fun K hK => ?_)
              have hs63 : w62.cell? ⟨gb146, 0, none⟩ = some (.string (⟨#[]⟩ : ByteArray)) := (blk_cell BK146.out 0).trans rfl
              have hfs63 := blk_frozen BK146.out 0
              have hns63_0 := NB112_146.out
              have hns63_1 := NB124_146.out
              have hns63_2 := NB135_146.out
              have hms63_0 := NB146_112.out
              have hms63_1 := NB146_124.out
              have hms63_2 := NB146_135.out
              have hs64 : w62.cell? ⟨gb146, 1, none⟩ = some (.int .i64 0) := (blk_cell BK146.out 1).trans rfl
              have hfs64 := blk_frozen BK146.out 1
              have hns64_0 := NB112_146.out
              have hns64_1 := NB124_146.out
              have hns64_2 := NB135_146.out
              have hms64_0 := NB146_112.out
              have hms64_1 := NB146_124.out
              have hms64_2 := NB146_135.out
              refine skip_ (w1 := ?_) (by rfl) rfl ?_ ?_
              rotate_left
              ·go_simp
               rfl
              refine hK.out _ _ ⟨((cell_far (p := ⟨gb146, _, none⟩) NB124_146.out _).trans (((cell_far (p := ⟨gb146, _, none⟩) NB124_146.out _).trans (hHeld.1)))), ((cell_far (p := ⟨gb146, _, none⟩) NB124_146.out _).trans (((cell_far (p := ⟨gb146, _, none⟩) NB124_146.out _).trans (hHeld.2.1)))), ((cell_far (p := ⟨gb146, _, none⟩) (by first | exact Kd.own_blk (Kd.R_ne HO122.out BK146.out (by decide)) | (rw [Go.Proofs.YtkfmjkiefckgoaaDoorW.PrintWords.add_block]; exact Kd.own_blk (Kd.R_ne HO122.out BK146.out (by decide))) | (show (Addr.add _ _).block ≠ _; rw [Go.Proofs.YtkfmjkiefckgoaaDoorW.PrintWords.add_block]; exact Kd.own_blk (Kd.R_ne HO122.out BK146.out (by decide))) | (dsimp only; exact Kd.own_blk (Kd.R_ne HO122.out BK146.out (by decide)))) _).trans (((cell_far (p := ⟨gb146, _, none⟩) (by first | exact Kd.own_blk (Kd.R_ne HO122.out BK146.out (by decide)) | (rw [Go.Proofs.YtkfmjkiefckgoaaDoorW.PrintWords.add_block]; exact Kd.own_blk (Kd.R_ne HO122.out BK146.out (by decide))) | (show (Addr.add _ _).block ≠ _; rw [Go.Proofs.YtkfmjkiefckgoaaDoorW.PrintWords.add_block]; exact Kd.own_blk (Kd.R_ne HO122.out BK146.out (by decide))) | (dsimp only; exact Kd.own_blk (Kd.R_ne HO122.out BK146.out (by decide)))) _).trans (hHeld.2.2))))⟩ (fun hHeld => ?_)
              clear hK K
              refine pure_ (i := 13) (N := some 12) (v := ?_) (a' := ?_) #[true, true, true, true, true, true, true, true, true, true, true, true, true, true, false] rfl rfl (any_of HT_.out (by kernel_rfl)) (fun _ _ _ h => h) (Or.inl ⟨by rfl, ?_⟩) ?_ ?_
              rotate_left
              ·intro w'
               go_simp
               with_reducible rfl
              rotate_left
              ·simp only [Act.put, List.setIfInBounds_toArray, List.set_cons_zero, List.set_cons_succ, i64_w, i32_w]
               rfl
              refine pure_ (i := 14) (N := some 13) (v := ?_) (a' := ?_) #[true, true, true, true, true, true, true, true, true, true, true, true, true, true, true] rfl rfl (any_of HT_.out (by kernel_rfl)) (fun _ _ _ h => h) (Or.inl ⟨by rfl, ?_⟩) ?_ ?_
              rotate_left
              ·intro w'
               go_simp
               with_reducible rfl
              rotate_left
              ·simp only [Act.put, List.setIfInBounds_toArray, List.set_cons_zero, List.set_cons_succ, i64_w, i32_w]
               rfl
              refine done_ (done_of HT_.out (by kernel_rfl)) ?_
              try go_wp2
              have n0_ : Aside0 (Kd.R k30 30 ((w62.setCell ⟨gb146, 0, none⟩ (.string t140)).setCell ⟨gb146, 1, none⟩ (.int .i64 t141)) w.heap.size (fun k_ => some k_ ≠ (v127 : Value).ownBlock ∧ some k_ ≠ (v138 : Value).ownBlock) (.slice Ao37 y115.length co37) y115) := ⟨by (with_reducible repeat (first | apply Kd.R_alloc | apply Kd.R_drewN | apply Kd.R_drew)); exact Kd.R_mono (Kd.R_far (p := ⟨gb146, 1, none⟩) (Kd.R_far (p := ⟨gb146, 0, none⟩) (Kd.R_types HO117.out BK146.out (by decide)) (fun _ hk => hk.2) (.string t140)) (fun _ hk => hk.2) (.int .i64 t141)) (fun _ hk => ⟨hk.1.1, hk.1.2⟩)⟩
              have n1_ : Aside0 (Kd.R Kd.string 9 ((w62.setCell ⟨gb146, 0, none⟩ (.string t140)).setCell ⟨gb146, 1, none⟩ (.int .i64 t141)) w.heap.size (fun k_ => some k_ ≠ (.slice Ao54 t131.length co54 : Value).ownBlock ∧ some k_ ≠ (v143 : Value).ownBlock) (.slice (some ad136) t120.length co53) t120) := ⟨by (with_reducible repeat (first | apply Kd.R_alloc | apply Kd.R_drewN | apply Kd.R_drew)); exact Kd.R_mono (Kd.R_far (p := ⟨gb146, 1, none⟩) (Kd.R_far (p := ⟨gb146, 0, none⟩) (Kd.R_types HO122.out BK146.out (by decide)) (fun _ hk => hk.2) (.string t140)) (fun _ hk => hk.2) (.int .i64 t141)) (fun _ hk => ⟨hk.1.1, hk.1.2⟩)⟩
              have n2_ : Aside0 (Kd.R k30 30 ((w62.setCell ⟨gb146, 0, none⟩ (.string t140)).setCell ⟨gb146, 1, none⟩ (.int .i64 t141)) w.heap.size (fun k_ => some k_ ≠ (.slice Ao37 y115.length co37 : Value).ownBlock ∧ some k_ ≠ (v138 : Value).ownBlock) v127 y126) := ⟨by (with_reducible repeat (first | apply Kd.R_alloc | apply Kd.R_drewN | apply Kd.R_drew)); exact Kd.R_mono (Kd.R_far (p := ⟨gb146, 1, none⟩) (Kd.R_far (p := ⟨gb146, 0, none⟩) (Kd.R_types HO128.out BK146.out (by decide)) (fun _ hk => hk.2) (.string t140)) (fun _ hk => hk.2) (.int .i64 t141)) (fun _ hk => ⟨hk.1.1, hk.1.2⟩)⟩
              have n3_ : Aside0 (Kd.R Kd.string 9 ((w62.setCell ⟨gb146, 0, none⟩ (.string t140)).setCell ⟨gb146, 1, none⟩ (.int .i64 t141)) w.heap.size (fun k_ => some k_ ≠ (.slice (some ad136) t120.length co53 : Value).ownBlock ∧ some k_ ≠ (v143 : Value).ownBlock) (.slice Ao54 t131.length co54) t131) := ⟨by (with_reducible repeat (first | apply Kd.R_alloc | apply Kd.R_drewN | apply Kd.R_drew)); exact Kd.R_mono (Kd.R_far (p := ⟨gb146, 1, none⟩) (Kd.R_far (p := ⟨gb146, 0, none⟩) (Kd.R_types HO133.out BK146.out (by decide)) (fun _ hk => hk.2) (.string t140)) (fun _ hk => hk.2) (.int .i64 t141)) (fun _ hk => ⟨hk.1.1, hk.1.2⟩)⟩
              have n4_ : Aside0 (Kd.R k30 30 ((w62.setCell ⟨gb146, 0, none⟩ (.string t140)).setCell ⟨gb146, 1, none⟩ (.int .i64 t141)) w.heap.size (fun k_ => some k_ ≠ (.slice Ao37 y115.length co37 : Value).ownBlock ∧ some k_ ≠ (v127 : Value).ownBlock) v138 y137) := ⟨by (with_reducible repeat (first | apply Kd.R_alloc | apply Kd.R_drewN | apply Kd.R_drew)); exact Kd.R_mono (Kd.R_far (p := ⟨gb146, 1, none⟩) (Kd.R_far (p := ⟨gb146, 0, none⟩) (Kd.R_types HO139.out BK146.out (by decide)) (fun _ hk => hk.2) (.string t140)) (fun _ hk => hk.2) (.int .i64 t141)) (fun _ hk => ⟨hk.1.1, hk.1.2⟩)⟩
              have n5_ : Aside0 (Kd.R Kd.string 9 ((w62.setCell ⟨gb146, 0, none⟩ (.string t140)).setCell ⟨gb146, 1, none⟩ (.int .i64 t141)) w.heap.size (fun k_ => some k_ ≠ (.slice (some ad136) t120.length co53 : Value).ownBlock ∧ some k_ ≠ (.slice Ao54 t131.length co54 : Value).ownBlock) v143 t142) := ⟨by (with_reducible repeat (first | apply Kd.R_alloc | apply Kd.R_drewN | apply Kd.R_drew)); exact Kd.R_mono (Kd.R_far (p := ⟨gb146, 1, none⟩) (Kd.R_far (p := ⟨gb146, 0, none⟩) (Kd.R_types HO144.out BK146.out (by decide)) (fun _ hk => hk.2) (.string t140)) (fun _ hk => hk.2) (.int .i64 t141)) (fun _ hk => ⟨hk.1.1, hk.1.2⟩)⟩
              have n6_ : Aside0 (((w62.setCell ⟨gb146, 0, none⟩ (.string t140)).setCell ⟨gb146, 1, none⟩ (.int .i64 t141)).heap[gb112]? = some (.cells #[.string a0_0, .int .i64 a0_1] 26 (0, 0))) := ⟨by (with_reducible repeat (first | refine blk_drewN ?_ _ | refine blk_drew ?_ | refine blk_alloc ?_ _)); refine blk_far ?_ NB112_146.out _; (with_reducible repeat (first | refine blk_drewN ?_ _ | refine blk_drew ?_ | refine blk_alloc ?_ _)); refine blk_far ?_ NB112_146.out _; (with_reducible repeat (first | refine blk_drewN ?_ _ | refine blk_drew ?_ | refine blk_alloc ?_ _)); exact BK112.out⟩
              have n7_ : Aside0 (((w62.setCell ⟨gb146, 0, none⟩ (.string t140)).setCell ⟨gb146, 1, none⟩ (.int .i64 t141)).heap[gb124]? = some (.cells #[.string t118, .int .i64 t119] 26 (0, 0))) := ⟨by (with_reducible repeat (first | refine blk_drewN ?_ _ | refine blk_drew ?_ | refine blk_alloc ?_ _)); refine blk_far ?_ NB124_146.out _; (with_reducible repeat (first | refine blk_drewN ?_ _ | refine blk_drew ?_ | refine blk_alloc ?_ _)); refine blk_far ?_ NB124_146.out _; (with_reducible repeat (first | refine blk_drewN ?_ _ | refine blk_drew ?_ | refine blk_alloc ?_ _)); exact BK124.out⟩
              have n8_ : Aside0 (((w62.setCell ⟨gb146, 0, none⟩ (.string t140)).setCell ⟨gb146, 1, none⟩ (.int .i64 t141)).heap[gb135]? = some (.cells #[.string t129, .int .i64 t130] 26 (0, 0))) := ⟨by (with_reducible repeat (first | refine blk_drewN ?_ _ | refine blk_drew ?_ | refine blk_alloc ?_ _)); refine blk_far ?_ NB135_146.out _; (with_reducible repeat (first | refine blk_drewN ?_ _ | refine blk_drew ?_ | refine blk_alloc ?_ _)); refine blk_far ?_ NB135_146.out _; (with_reducible repeat (first | refine blk_drewN ?_ _ | refine blk_drew ?_ | refine blk_alloc ?_ _)); exact BK135.out⟩
              have n9_ : Aside0 (((w62.setCell ⟨gb146, 0, none⟩ (.string t140)).setCell ⟨gb146, 1, none⟩ (.int .i64 t141)).heap[gb146]? = some (.cells #[.string t140, .int .i64 t141] 26 (0, 0))) := ⟨by (with_reducible repeat (first | refine blk_drewN ?_ _ | refine blk_drew ?_ | refine blk_alloc ?_ _)); refine blk_put (cs := #[.string t140, .int .i64 0]) ?_ 1 _ rfl; (with_reducible repeat (first | refine blk_drewN ?_ _ | refine blk_drew ?_ | refine blk_alloc ?_ _)); refine blk_put (cs := #[.string (⟨#[]⟩ : ByteArray), .int .i64 0]) ?_ 0 _ rfl; (with_reducible repeat (first | refine blk_drewN ?_ _ | refine blk_drew ?_ | refine blk_alloc ?_ _)); exact BK146.out⟩
              have n10_ : Aside0 (Below w.heap.size w ((w62.setCell ⟨gb146, 0, none⟩ (.string t140)).setCell ⟨gb146, 1, none⟩ (.int .i64 t141))) := ⟨by repeat (first | (with_reducible first | exact HB.out | apply below_alloc | apply pw_below_drewN | apply below_drew1 | refine below_set ?_ GE112.out | refine below_set ?_ GE124.out | refine below_set ?_ GE135.out | refine below_set ?_ GE146.out) | exact HB.out)⟩
              (try clear HO117); (try clear HO122); (try clear HO128); (try clear HO133); (try clear HO139); (try clear HO144); (try clear BK112); (try clear BK124); (try clear BK135); (try clear BK146); (try clear HB)
              generalize ((w62.setCell ⟨gb146, 0, none⟩ (.string t140)).setCell ⟨gb146, 1, none⟩ (.int .i64 t141)) = w65 at n0_ n1_ n2_ n3_ n4_ n5_ n6_ n7_ n8_ n9_ n10_ ⊢
              have HO117 := n0_; have HO122 := n1_; have HO128 := n2_; have HO133 := n3_; have HO139 := n4_; have HO144 := n5_; have BK112 := n6_; have BK124 := n7_; have BK135 := n8_; have BK146 := n9_; have HB := n10_; clear n0_ n1_ n2_ n3_ n4_ n5_ n6_ n7_ n8_ n9_ n10_; have n0_ := Aside0.mk (Kd.R_drew HO117.out); have n1_ := Aside0.mk (Kd.R_drew HO122.out); have n2_ := Aside0.mk (Kd.R_drew HO128.out); have n3_ := Aside0.mk (Kd.R_drew HO133.out); have n4_ := Aside0.mk (Kd.R_drew HO139.out); have n5_ := Aside0.mk (Kd.R_drew HO144.out); have n6_ := Aside0.mk (blk_drew BK112.out); have n7_ := Aside0.mk (blk_drew BK124.out); have n8_ := Aside0.mk (blk_drew BK135.out); have n9_ := Aside0.mk (blk_drew BK146.out); have n10_ := Aside0.mk (below_drew1 HB.out); clear HO117; clear HO122; clear HO128; clear HO133; clear HO139; clear HO144; clear BK112; clear BK124; clear BK135; clear BK146; clear HB; have HO117 := n0_; have HO122 := n1_; have HO128 := n2_; have HO133 := n3_; have HO139 := n4_; have HO144 := n5_; have BK112 := n6_; have BK124 := n7_; have BK135 := n8_; have BK146 := n9_; have HB := n10_; clear n0_ n1_ n2_ n3_ n4_ n5_ n6_ n7_ n8_ n9_ n10_
              have p147 : 0 ≤ (0 : Int) := (by omega)
              have q147 : 0 < (t131.length : Int) := of_decide_eq_true (by first | (with_reducible assumption) | assumption)
              obtain ⟨ad147, e147, hx147_0⟩ := Kd.at_string (Kd.R_reads' HO133.out).2.2 0 p147 q147
              cases e147
              have qi147 : (0 < t131.length) = True := eq_true (by omega)
              (try rw [show ((0 : Int)).toNat = 0 from rfl] at hx147_0)
              (try rw [Addr.add_zero'] at hx147_0)
              replace p147 := eq_true p147
              replace q147 := eq_true q147
              refine start_ (n := 15) (S := fun w' => w'.cell? ⟨gb135, 0, none⟩ = some (.string t129) ∧ w'.cell? ⟨gb135, 1, none⟩ = some (.int .i64 t130) ∧ w'.cell? ad147 = some (.string (rdOf ByteArray.empty t131 0))) (ds := []) #[false, false, false, false, false, false, false, false, false, false, false, false, false, false, false] (by kernel_rfl) rfl rfl ⟨(blk_cell BK135.out 0).trans rfl, (blk_cell BK135.out 1).trans rfl, hx147_0⟩ (fun hHeld => ?_); refine with_tabW laws_FnTakenBack.tab10 laws_FnTakenBack.bits10 (fun HT_ HW_ => ?_)
              generalize w65.drew = w66 at HO117 HO122 HO128 HO133 HO139 HO144 BK112 BK124 BK135 BK146 HB hx147_0 hHeld ⊢
              refine pure_ (i := 1) (N := some 82) (v := ?_) (a' := ?_) #[false, true, false, false, false, false, false, false, false, false, false, false, false, false, false] rfl rfl (any_of HT_.out (by kernel_rfl)) (fun _ _ _ h => h) (Or.inl ⟨by rfl, ?_⟩) ?_ ?_
              rotate_left
              ·intro w'
               go_simp
               with_reducible rfl
              rotate_left
              ·simp only [Act.put, List.setIfInBounds_toArray, List.set_cons_zero, List.set_cons_succ, i64_w, i32_w]
               rfl
              refine pure_ (i := 2) (N := some 83) (v := ?_) (a' := ?_) #[false, true, true, false, false, false, false, false, false, false, false, false, false, false, false] rfl rfl (any_of HT_.out (by kernel_rfl)) (fun _ _ _ h => h) (Or.inl ⟨by rfl, ?_⟩) ?_ ?_
              rotate_left
              ·intro w'
               go_simp
               with_reducible rfl
              rotate_left
              ·simp only [Act.put, List.setIfInBounds_toArray, List.set_cons_zero, List.set_cons_succ, i64_w, i32_w]
               rfl
              refine take_ (i := 0) (N := some 81) (v := ?_) (a' := ?_) #[true, true, true, false, false, false, false, false, false, false, false, false, false, false, false] rfl rfl (take_ofW HT_.out HW_.out (by kernel_rfl)) (fun _ _ _ h => h) (Or.inl ⟨by rfl, ?_⟩) hHeld ?_ ?_
              rotate_left
              ·rintro w' ⟨s0, s1, s2⟩
               go_simp
               with_reducible rfl
              rotate_left
              ·simp only [Act.put, List.setIfInBounds_toArray, List.set_cons_zero, List.set_cons_succ, i64_w, i32_w]
               rfl
              refine take_ (i := 3) (N := some 84) (v := ?_) (a' := ?_) #[true, true, true, true, false, false, false, false, false, false, false, false, false, false, false] rfl rfl (take_ofW HT_.out HW_.out (by kernel_rfl)) (fun _ _ _ h => h) (Or.inl ⟨by rfl, ?_⟩) hHeld ?_ ?_
              rotate_left
              ·rintro w' ⟨s0, s1, s2⟩
               go_simp
               with_reducible rfl
              rotate_left
              ·simp only [Act.put, List.setIfInBounds_toArray, List.set_cons_zero, List.set_cons_succ, i64_w, i32_w]
               rfl
              refine pure_ (i := 4) (N := some 85) (v := ?_) (a' := ?_) #[true, true, true, true, true, false, false, false, false, false, false, false, false, false, false] rfl rfl (any_of HT_.out (by kernel_rfl)) (fun _ _ _ h => h) (Or.inl ⟨by rfl, ?_⟩) ?_ ?_
              rotate_left
              ·intro w'
               go_simp
               with_reducible rfl
              rotate_left
              ·simp only [Act.put, List.setIfInBounds_toArray, List.set_cons_zero, List.set_cons_succ, i64_w, i32_w]
               rfl
              refine join_ (σ := Value × Value × Nat) 3 #[true, true, true, true, true, true, true, true, true, true, true, true, false, false, false] (fun s_ => [(86, s_.1), (87, .tuple #[.agg #[.string t151, .int .i64 t152], s_.2.1, .bool true]), (14, .pointer (some ⟨s_.2.2, 0, none⟩)), (80, .tuple #[.agg #[.string t151, .int .i64 t152], s_.2.1, .bool true]), (88, .agg #[.string t151, .int .i64 t152]), (89, s_.2.1), (90, .bool true)]) (fun s_ w' => (w'.cell? ⟨gb135, 0, none⟩ = some (.string t129) ∧ w'.cell? ⟨gb135, 1, none⟩ = some (.int .i64 t130) ∧ w'.cell? ad147 = some (.string (rdOf ByteArray.empty t131 0))) ∧ (Kd.R k30 30 w' w.heap.size (fun k_ => some k_ ≠ (v127 : Value).ownBlock ∧ some k_ ≠ (v138 : Value).ownBlock ∧ some k_ ≠ (s_.1 : Value).ownBlock) (.slice Ao37 y115.length co37) y115) ∧ (Kd.R Kd.string 9 w' w.heap.size (fun k_ => some k_ ≠ (.slice (some ad147) t131.length co54 : Value).ownBlock ∧ some k_ ≠ (v143 : Value).ownBlock ∧ some k_ ≠ (s_.2.1 : Value).ownBlock) (.slice (some ad136) t120.length co53) t120) ∧ (Kd.R k30 30 w' w.heap.size (fun k_ => some k_ ≠ (.slice Ao37 y115.length co37 : Value).ownBlock ∧ some k_ ≠ (v138 : Value).ownBlock ∧ some k_ ≠ (s_.1 : Value).ownBlock) v127 y126) ∧ (Kd.R Kd.string 9 w' w.heap.size (fun k_ => some k_ ≠ (.slice (some ad136) t120.length co53 : Value).ownBlock ∧ some k_ ≠ (v143 : Value).ownBlock ∧ some k_ ≠ (s_.2.1 : Value).ownBlock) (.slice (some ad147) t131.length co54) t131) ∧ (Kd.R k30 30 w' w.heap.size (fun k_ => some k_ ≠ (.slice Ao37 y115.length co37 : Value).ownBlock ∧ some k_ ≠ (v127 : Value).ownBlock ∧ some k_ ≠ (s_.1 : Value).ownBlock) v138 y137) ∧ (Kd.R Kd.string 9 w' w.heap.size (fun k_ => some k_ ≠ (.slice (some ad136) t120.length co53 : Value).ownBlock ∧ some k_ ≠ (.slice (some ad147) t131.length co54 : Value).ownBlock ∧ some k_ ≠ (s_.2.1 : Value).ownBlock) v143 t142) ∧ (Kd.R k30 30 w' w.heap.size (fun k_ => some k_ ≠ (.slice Ao37 y115.length co37 : Value).ownBlock ∧ some k_ ≠ (v127 : Value).ownBlock ∧ some k_ ≠ (v138 : Value).ownBlock) s_.1 y148) ∧ (Kd.R Kd.string 9 w' w.heap.size (fun k_ => some k_ ≠ (.slice (some ad136) t120.length co53 : Value).ownBlock ∧ some k_ ≠ (.slice (some ad147) t131.length co54 : Value).ownBlock ∧ some k_ ≠ (v143 : Value).ownBlock) s_.2.1 t153) ∧ (w'.heap[gb112]? = some (.cells #[.string a0_0, .int .i64 a0_1] 26 (0, 0))) ∧ (w'.heap[gb124]? = some (.cells #[.string t118, .int .i64 t119] 26 (0, 0))) ∧ (w'.heap[gb135]? = some (.cells #[.string t129, .int .i64 t130] 26 (0, 0))) ∧ (w'.heap[gb146]? = some (.cells #[.string t140, .int .i64 t141] 26 (0, 0))) ∧ (w'.heap[s_.2.2]? = some (.cells #[.string (⟨#[]⟩ : ByteArray), .int .i64 0] 26 (0, 0))) ∧ (w.heap.size ≤ s_.2.2) ∧ (w.heap.size ≤ s_.2.2) ∧ (gb112 ≠ s_.2.2) ∧ (s_.2.2 ≠ gb112) ∧ (gb124 ≠ s_.2.2) ∧ (s_.2.2 ≠ gb124) ∧ (gb135 ≠ s_.2.2) ∧ (s_.2.2 ≠ gb135) ∧ (gb146 ≠ s_.2.2) ∧ (s_.2.2 ≠ gb146) ∧ (Below w.heap.size w w')) ?_ ?_
              rotate_left
              ·intro hCont
               refine two_ (i := 5) (j := 11) (Ni := some 86) (Nj := some 14) #[true, true, true, true, true, true, false, false, false, false, false, false, false, false, false] #[true, true, true, true, true, false, false, false, false, false, false, true, false, false, false] rfl rfl rfl rfl (two_of HT_.out (by kernel_rfl)) (by decide) (by decide) (fun K hK => ?_) (fun K hK => ?_)
               ·skip
                refine Kd.R_lit_step k30 _ 30 ?hg (N := 86) ?hd (xs := ([(⟨2, 0, rdOf ByteArray.empty t131 0, false⟩ : S30)] : List (S30))) (inner := [.int .i64 2, .int .i64 0, .string (rdOf ByteArray.empty t131 0), .bool false]) (ok := fun _ => True) (okp := fun _ => True) ?hr ?hp (fun _ hk => hk) trivial (Below.refl _ _) (Nat.le_refl _) (by simp) ?_; (case hd => rfl); (case hg => rfl); (case hr => first | (go_simp; done) | (go_simp; rfl)); (case hp => exact (Reps.c4 (show Kd.M k30 _ _ _ (⟨2, 0, rdOf ByteArray.empty t131 0, false⟩ : S30) [.int .i64 2, .int .i64 0, .string (rdOf ByteArray.empty t131 0), .bool false] from (k30_mkM _ _ _ (⟨2, 0, rdOf ByteArray.empty t131 0, false⟩ : S30) )) (Reps.none _ _)))
                intro v149 w67 ho68 hb hg_ hnew_
                have HS2_ := (hb.cell (World.block_lt_of_cell? _ _ (hHeld.2.2))).trans (hHeld.2.2)
                clear hg_ hnew_
                (first | rw [← Ny148.out] at ho68 | (simp only [Int.reduceToNat] at ho68; rw [← Ny148.out] at ho68))
                have n0_ := Aside0.mk (Kd.R_elder' (by (with_reducible repeat (first | apply Kd.R_alloc | apply Kd.R_drewN | apply Kd.R_drew)); exact HO117.out) (Kd.R_base ho68) hb); have n1_ := Aside0.mk (Kd.R_below (by (with_reducible repeat (first | apply Kd.R_alloc | apply Kd.R_drewN | apply Kd.R_drew)); exact HO122.out) hb); have n2_ := Aside0.mk (Kd.R_elder' (by (with_reducible repeat (first | apply Kd.R_alloc | apply Kd.R_drewN | apply Kd.R_drew)); exact HO128.out) (Kd.R_base ho68) hb); have n3_ := Aside0.mk (Kd.R_below (by (with_reducible repeat (first | apply Kd.R_alloc | apply Kd.R_drewN | apply Kd.R_drew)); exact HO133.out) hb); have n4_ := Aside0.mk (Kd.R_elder' (by (with_reducible repeat (first | apply Kd.R_alloc | apply Kd.R_drewN | apply Kd.R_drew)); exact HO139.out) (Kd.R_base ho68) hb); have n5_ := Aside0.mk (Kd.R_below (by (with_reducible repeat (first | apply Kd.R_alloc | apply Kd.R_drewN | apply Kd.R_drew)); exact HO144.out) hb); have n6_ := Aside0.mk (Kd.R_lower (Kd.R_new' (Kd.R_new' (Kd.R_new' ho68 (Kd.R_lt (by (with_reducible repeat (first | apply Kd.R_alloc | apply Kd.R_drewN | apply Kd.R_drew)); exact HO117.out))) (Kd.R_lt (by (with_reducible repeat (first | apply Kd.R_alloc | apply Kd.R_drewN | apply Kd.R_drew)); exact HO128.out))) (Kd.R_lt (by (with_reducible repeat (first | apply Kd.R_alloc | apply Kd.R_drewN | apply Kd.R_drew)); exact HO139.out))) (below_size (by repeat (first | (with_reducible first | exact HB.out | apply below_alloc | apply pw_below_drewN | apply below_drew1 | refine below_set ?_ GE112.out | refine below_set ?_ GE124.out | refine below_set ?_ GE135.out | refine below_set ?_ GE146.out) | exact HB.out)))); have n7_ := Aside0.mk (blk_below (g := gb112) (o := .cells #[.string a0_0, .int .i64 a0_1] 26 (0, 0)) (by (with_reducible repeat (first | refine blk_drewN ?_ _ | refine blk_drew ?_ | refine blk_alloc ?_ _)); exact BK112.out) hb); have n8_ := Aside0.mk (blk_below (g := gb124) (o := .cells #[.string t118, .int .i64 t119] 26 (0, 0)) (by (with_reducible repeat (first | refine blk_drewN ?_ _ | refine blk_drew ?_ | refine blk_alloc ?_ _)); exact BK124.out) hb); have n9_ := Aside0.mk (blk_below (g := gb135) (o := .cells #[.string t129, .int .i64 t130] 26 (0, 0)) (by (with_reducible repeat (first | refine blk_drewN ?_ _ | refine blk_drew ?_ | refine blk_alloc ?_ _)); exact BK135.out) hb); have n10_ := Aside0.mk (blk_below (g := gb146) (o := .cells #[.string t140, .int .i64 t141] 26 (0, 0)) (by (with_reducible repeat (first | refine blk_drewN ?_ _ | refine blk_drew ?_ | refine blk_alloc ?_ _)); exact BK146.out) hb); have n11_ := Aside0.mk (below_step (by repeat (first | (with_reducible first | exact HB.out | apply below_alloc | apply pw_below_drewN | apply below_drew1 | refine below_set ?_ GE112.out | refine below_set ?_ GE124.out | refine below_set ?_ GE135.out | refine below_set ?_ GE146.out) | exact HB.out)) hb); clear HO117; clear HO122; clear HO128; clear HO133; clear HO139; clear HO144; clear BK112; clear BK124; clear BK135; clear BK146; clear HB; have HO117 := n0_; have HO122 := n1_; have HO128 := n2_; have HO133 := n3_; have HO139 := n4_; have HO144 := n5_; have HO150 := n6_; have BK112 := n7_; have BK124 := n8_; have BK135 := n9_; have BK146 := n10_; have HB := n11_; clear n0_ n1_ n2_ n3_ n4_ n5_ n6_ n7_ n8_ n9_ n10_ n11_; clear hb ho68
                obtain ⟨Ao69, co69, eo69⟩ := Kd.R_slice HO150.out
                (first | subst eo69 | (injection eo69 with f1_ f2_ f3_; have f4_ := f1_.symm; have f5_ := f3_.symm; clear f1_ f2_ f3_; subst f4_; subst f5_))
                refine hK.out _ _ ⟨(blk_cell BK135.out 0).trans rfl, (blk_cell BK135.out 1).trans rfl, HS2_⟩ (fun hHeld => ?_)
                clear hK K
                refine norm_ (a' := ?_) ?_ ?_
                rotate_left
                ·show Act.put _ (some 86) _ = _
                 simp only [Act.put, List.setIfInBounds_toArray, List.set_cons_zero, List.set_cons_succ, i64_w, i32_w]
                 rfl
                refine two_ (i := 6) (j := 11) (Ni := some 87) (Nj := some 14) #[true, true, true, true, true, true, true, false, false, false, false, false, false, false, false] #[true, true, true, true, true, true, false, false, false, false, false, true, false, false, false] rfl rfl rfl rfl (two_of HT_.out (by kernel_rfl)) (by decide) (by decide) (fun K hK => ?_) (fun K hK => ?_)
                ·skip
                 refine goes_ Tryd.func11 (by kernel_rfl) rfl #[.agg #[.string t129, .int .i64 t130], .slice Ao69 y148.length co69] (by rfl) rfl rfl (by (try simp only [List.map_toArray, List.map_cons, List.map_nil]); first | done | rfl | (simp only [List.length_drop, List.length_take]; rfl) | (simp only [Int.toNat_natCast, ByteArray.extract_zero_size]; rfl)) ?_
                 with_reducible refine (impl_EditedFrom.calls t129 t130 _ _ y148 t151 t152 t153 true _ ?side1 ?side2 A31.out).mono ?_
                 (case side1 => repeat (first | exact (Kd.R_reads' HO150.out).2.2 | (with_reducible refine Kd.C_alloc ?_ _) | (with_reducible refine Kd.C_drewN ?_ _) | (with_reducible refine Kd.C_drew ?_)))
                 (case side2 => exact (Kd.R_reads' HO150.out).2.1)
                 rintro e w70 ⟨v154, rfl, ho0, hb⟩
                 have HS2_ := (hb.cell (World.block_lt_of_cell? _ _ (hHeld.2.2))).trans (hHeld.2.2)
                 refine ⟨_, rfl, ?_⟩
                 have n0_ := Aside0.mk (Kd.R_below (by (with_reducible repeat (first | apply Kd.R_alloc | apply Kd.R_drewN | apply Kd.R_drew)); exact HO117.out) hb); have n1_ := Aside0.mk (Kd.R_elder' (by (with_reducible repeat (first | apply Kd.R_alloc | apply Kd.R_drewN | apply Kd.R_drew)); exact HO122.out) (Kd.R_base ho0) hb); have n2_ := Aside0.mk (Kd.R_below (by (with_reducible repeat (first | apply Kd.R_alloc | apply Kd.R_drewN | apply Kd.R_drew)); exact HO128.out) hb); have n3_ := Aside0.mk (Kd.R_elder' (by (with_reducible repeat (first | apply Kd.R_alloc | apply Kd.R_drewN | apply Kd.R_drew)); exact HO133.out) (Kd.R_base ho0) hb); have n4_ := Aside0.mk (Kd.R_below (by (with_reducible repeat (first | apply Kd.R_alloc | apply Kd.R_drewN | apply Kd.R_drew)); exact HO139.out) hb); have n5_ := Aside0.mk (Kd.R_elder' (by (with_reducible repeat (first | apply Kd.R_alloc | apply Kd.R_drewN | apply Kd.R_drew)); exact HO144.out) (Kd.R_base ho0) hb); have n6_ := Aside0.mk (Kd.R_below (by (with_reducible repeat (first | apply Kd.R_alloc | apply Kd.R_drewN | apply Kd.R_drew)); exact HO150.out) hb); have n7_ := Aside0.mk (Kd.R_lower (Kd.R_new' (Kd.R_new' (Kd.R_new' ho0 (Kd.R_lt (by (with_reducible repeat (first | apply Kd.R_alloc | apply Kd.R_drewN | apply Kd.R_drew)); exact HO122.out))) (Kd.R_lt (by (with_reducible repeat (first | apply Kd.R_alloc | apply Kd.R_drewN | apply Kd.R_drew)); exact HO133.out))) (Kd.R_lt (by (with_reducible repeat (first | apply Kd.R_alloc | apply Kd.R_drewN | apply Kd.R_drew)); exact HO144.out))) (below_size (by repeat (first | (with_reducible first | exact HB.out | apply below_alloc | apply pw_below_drewN | apply below_drew1 | refine below_set ?_ GE112.out | refine below_set ?_ GE124.out | refine below_set ?_ GE135.out | refine below_set ?_ GE146.out) | exact HB.out)))); have n8_ := Aside0.mk (blk_below (g := gb112) (o := .cells #[.string a0_0, .int .i64 a0_1] 26 (0, 0)) (by (with_reducible repeat (first | refine blk_drewN ?_ _ | refine blk_drew ?_ | refine blk_alloc ?_ _)); exact BK112.out) hb); have n9_ := Aside0.mk (blk_below (g := gb124) (o := .cells #[.string t118, .int .i64 t119] 26 (0, 0)) (by (with_reducible repeat (first | refine blk_drewN ?_ _ | refine blk_drew ?_ | refine blk_alloc ?_ _)); exact BK124.out) hb); have n10_ := Aside0.mk (blk_below (g := gb135) (o := .cells #[.string t129, .int .i64 t130] 26 (0, 0)) (by (with_reducible repeat (first | refine blk_drewN ?_ _ | refine blk_drew ?_ | refine blk_alloc ?_ _)); exact BK135.out) hb); have n11_ := Aside0.mk (blk_below (g := gb146) (o := .cells #[.string t140, .int .i64 t141] 26 (0, 0)) (by (with_reducible repeat (first | refine blk_drewN ?_ _ | refine blk_drew ?_ | refine blk_alloc ?_ _)); exact BK146.out) hb); have n12_ := Aside0.mk (below_step (by repeat (first | (with_reducible first | exact HB.out | apply below_alloc | apply pw_below_drewN | apply below_drew1 | refine below_set ?_ GE112.out | refine below_set ?_ GE124.out | refine below_set ?_ GE135.out | refine below_set ?_ GE146.out) | exact HB.out)) hb); clear HO117; clear HO122; clear HO128; clear HO133; clear HO139; clear HO144; clear HO150; clear BK112; clear BK124; clear BK135; clear BK146; clear HB; have HO117 := n0_; have HO122 := n1_; have HO128 := n2_; have HO133 := n3_; have HO139 := n4_; have HO144 := n5_; have HO150 := n6_; have HO155 := n7_; have BK112 := n8_; have BK124 := n9_; have BK135 := n10_; have BK146 := n11_; have HB := n12_; clear n0_ n1_ n2_ n3_ n4_ n5_ n6_ n7_ n8_ n9_ n10_ n11_ n12_; (try clear hb); (try clear hb2); (try clear hk); (try clear hi); (try clear ho0)
                 refine hK.out _ _ ⟨(blk_cell BK135.out 0).trans rfl, (blk_cell BK135.out 1).trans rfl, HS2_⟩ (fun hHeld => ?_)
                 clear hK K
                 refine norm_ (a' := ?_) ?_ ?_
                 rotate_left
                 ·show Act.put _ (some 87) _ = _
                  simp only [Act.put, List.setIfInBounds_toArray, List.set_cons_zero, List.set_cons_succ, i64_w, i32_w]
                  rfl
                 refine pure_ (i := 7) (N := some 80) (v := ?_) (a' := ?_) #[true, true, true, true, true, true, true, true, false, false, false, false, false, false, false] rfl rfl (any_of HT_.out (by kernel_rfl)) (fun _ _ _ h => h) (Or.inl ⟨by rfl, ?_⟩) ?_ ?_
                 rotate_left
                 ·intro w'
                  go_simp
                  with_reducible rfl
                 rotate_left
                 ·simp only [Act.put, List.setIfInBounds_toArray, List.set_cons_zero, List.set_cons_succ, i64_w, i32_w]
                  rfl
                 refine pure_ (i := 8) (N := some 88) (v := ?_) (a' := ?_) #[true, true, true, true, true, true, true, true, true, false, false, false, false, false, false] rfl rfl (any_of HT_.out (by kernel_rfl)) (fun _ _ _ h => h) (Or.inl ⟨by rfl, ?_⟩) ?_ ?_
                 rotate_left
                 ·intro w'
                  go_simp
                  with_reducible rfl
                 rotate_left
                 ·simp only [Act.put, List.setIfInBounds_toArray, List.set_cons_zero, List.set_cons_succ, i64_w, i32_w]
                  rfl
                 refine pure_ (i := 9) (N := some 89) (v := ?_) (a' := ?_) #[true, true, true, true, true, true, true, true, true, true, false, false, false, false, false] rfl rfl (any_of HT_.out (by kernel_rfl)) (fun _ _ _ h => h) (Or.inl ⟨by rfl, ?_⟩) ?_ ?_
                 rotate_left
                 ·intro w'
                  go_simp
                  with_reducible rfl
                 rotate_left
                 ·simp only [Act.put, List.setIfInBounds_toArray, List.set_cons_zero, List.set_cons_succ, i64_w, i32_w]
                  rfl
                 refine pure_ (i := 10) (N := some 90) (v := ?_) (a' := ?_) #[true, true, true, true, true, true, true, true, true, true, true, false, false, false, false] rfl rfl (any_of HT_.out (by kernel_rfl)) (fun _ _ _ h => h) (Or.inl ⟨by rfl, ?_⟩) ?_ ?_
                 rotate_left
                 ·intro w'
                  go_simp
                  with_reducible rfl
                 rotate_left
                 ·simp only [Act.put, List.setIfInBounds_toArray, List.set_cons_zero, List.set_cons_succ, i64_w, i32_w]
                  rfl
                 refine one_ (i := 11) (N := some 14) #[true, true, true, true, true, true, true, true, true, true, true, true, false, false, false] rfl rfl (one_of HT_.out (by kernel_rfl)) (by decide) (fun K hK => ?_)
                 refine box_step ?hg (N := 14) ?hd (cs := #[.string (⟨#[]⟩ : ByteArray), .int .i64 0]) (t := 26) ?hr ?_; (case hd => rfl); (case hg => rfl); (case hr => first | (go_simp; done) | (go_simp; rfl))
                 intro gb157 hg w71 hbox hb
                 have HS2_ := (hb.cell (World.block_lt_of_cell? _ _ (hHeld.2.2))).trans (hHeld.2.2)
                 have n0_ := Aside0.mk (Kd.R_below (by (with_reducible repeat (first | apply Kd.R_alloc | apply Kd.R_drewN | apply Kd.R_drew)); exact HO117.out) hb); have n1_ := Aside0.mk (Kd.R_below (by (with_reducible repeat (first | apply Kd.R_alloc | apply Kd.R_drewN | apply Kd.R_drew)); exact HO122.out) hb); have n2_ := Aside0.mk (Kd.R_below (by (with_reducible repeat (first | apply Kd.R_alloc | apply Kd.R_drewN | apply Kd.R_drew)); exact HO128.out) hb); have n3_ := Aside0.mk (Kd.R_below (by (with_reducible repeat (first | apply Kd.R_alloc | apply Kd.R_drewN | apply Kd.R_drew)); exact HO133.out) hb); have n4_ := Aside0.mk (Kd.R_below (by (with_reducible repeat (first | apply Kd.R_alloc | apply Kd.R_drewN | apply Kd.R_drew)); exact HO139.out) hb); have n5_ := Aside0.mk (Kd.R_below (by (with_reducible repeat (first | apply Kd.R_alloc | apply Kd.R_drewN | apply Kd.R_drew)); exact HO144.out) hb); have n6_ := Aside0.mk (Kd.R_below (by (with_reducible repeat (first | apply Kd.R_alloc | apply Kd.R_drewN | apply Kd.R_drew)); exact HO150.out) hb); have n7_ := Aside0.mk (Kd.R_below (by (with_reducible repeat (first | apply Kd.R_alloc | apply Kd.R_drewN | apply Kd.R_drew)); exact HO155.out) hb); have n8_ := Aside0.mk (blk_below (g := gb112) (o := .cells #[.string a0_0, .int .i64 a0_1] 26 (0, 0)) (by (with_reducible repeat (first | refine blk_drewN ?_ _ | refine blk_drew ?_ | refine blk_alloc ?_ _)); exact BK112.out) hb); have n9_ := Aside0.mk (blk_below (g := gb124) (o := .cells #[.string t118, .int .i64 t119] 26 (0, 0)) (by (with_reducible repeat (first | refine blk_drewN ?_ _ | refine blk_drew ?_ | refine blk_alloc ?_ _)); exact BK124.out) hb); have n10_ := Aside0.mk (blk_below (g := gb135) (o := .cells #[.string t129, .int .i64 t130] 26 (0, 0)) (by (with_reducible repeat (first | refine blk_drewN ?_ _ | refine blk_drew ?_ | refine blk_alloc ?_ _)); exact BK135.out) hb); have n11_ := Aside0.mk (blk_below (g := gb146) (o := .cells #[.string t140, .int .i64 t141] 26 (0, 0)) (by (with_reducible repeat (first | refine blk_drewN ?_ _ | refine blk_drew ?_ | refine blk_alloc ?_ _)); exact BK146.out) hb); have n12_ := Aside0.mk (below_step (by repeat (first | (with_reducible first | exact HB.out | apply below_alloc | apply pw_below_drewN | apply below_drew1 | refine below_set ?_ GE112.out | refine below_set ?_ GE124.out | refine below_set ?_ GE135.out | refine below_set ?_ GE146.out) | exact HB.out)) hb); have n13_ := Aside0.mk (hbox); have n14_ := Aside0.mk ((by rw [hg]; exact (below_size (by repeat (first | (with_reducible first | exact HB.out | apply below_alloc | apply pw_below_drewN | apply below_drew1 | refine below_set ?_ GE112.out | refine below_set ?_ GE124.out | refine below_set ?_ GE135.out | refine below_set ?_ GE146.out) | exact HB.out))) : w.heap.size ≤ gb157)); have n15_ := Aside0.mk ((by rw [hg]; exact (below_size (by repeat (first | (with_reducible first | exact HB.out | apply below_alloc | apply pw_below_drewN | apply below_drew1 | refine below_set ?_ GE112.out | refine below_set ?_ GE124.out | refine below_set ?_ GE135.out | refine below_set ?_ GE146.out) | exact HB.out))) : w.heap.size ≤ gb157)); have n16_ := Aside0.mk ((by rw [hg]; exact Nat.ne_of_lt (blk_lt (g := gb112) (o := .cells #[.string a0_0, .int .i64 a0_1] 26 (0, 0)) (by (with_reducible repeat (first | refine blk_drewN ?_ _ | refine blk_drew ?_ | refine blk_alloc ?_ _)); exact BK112.out)) : gb112 ≠ gb157)); have n17_ := Aside0.mk ((by rw [hg]; exact Nat.ne_of_gt (blk_lt (g := gb112) (o := .cells #[.string a0_0, .int .i64 a0_1] 26 (0, 0)) (by (with_reducible repeat (first | refine blk_drewN ?_ _ | refine blk_drew ?_ | refine blk_alloc ?_ _)); exact BK112.out)) : gb157 ≠ gb112)); have n18_ := Aside0.mk ((by rw [hg]; exact Nat.ne_of_lt (blk_lt (g := gb124) (o := .cells #[.string t118, .int .i64 t119] 26 (0, 0)) (by (with_reducible repeat (first | refine blk_drewN ?_ _ | refine blk_drew ?_ | refine blk_alloc ?_ _)); exact BK124.out)) : gb124 ≠ gb157))
                 have n19_ := Aside0.mk ((by rw [hg]; exact Nat.ne_of_gt (blk_lt (g := gb124) (o := .cells #[.string t118, .int .i64 t119] 26 (0, 0)) (by (with_reducible repeat (first | refine blk_drewN ?_ _ | refine blk_drew ?_ | refine blk_alloc ?_ _)); exact BK124.out)) : gb157 ≠ gb124)); have n20_ := Aside0.mk ((by rw [hg]; exact Nat.ne_of_lt (blk_lt (g := gb135) (o := .cells #[.string t129, .int .i64 t130] 26 (0, 0)) (by (with_reducible repeat (first | refine blk_drewN ?_ _ | refine blk_drew ?_ | refine blk_alloc ?_ _)); exact BK135.out)) : gb135 ≠ gb157)); have n21_ := Aside0.mk ((by rw [hg]; exact Nat.ne_of_gt (blk_lt (g := gb135) (o := .cells #[.string t129, .int .i64 t130] 26 (0, 0)) (by (with_reducible repeat (first | refine blk_drewN ?_ _ | refine blk_drew ?_ | refine blk_alloc ?_ _)); exact BK135.out)) : gb157 ≠ gb135)); have n22_ := Aside0.mk ((by rw [hg]; exact Nat.ne_of_lt (blk_lt (g := gb146) (o := .cells #[.string t140, .int .i64 t141] 26 (0, 0)) (by (with_reducible repeat (first | refine blk_drewN ?_ _ | refine blk_drew ?_ | refine blk_alloc ?_ _)); exact BK146.out)) : gb146 ≠ gb157)); have n23_ := Aside0.mk ((by rw [hg]; exact Nat.ne_of_gt (blk_lt (g := gb146) (o := .cells #[.string t140, .int .i64 t141] 26 (0, 0)) (by (with_reducible repeat (first | refine blk_drewN ?_ _ | refine blk_drew ?_ | refine blk_alloc ?_ _)); exact BK146.out)) : gb157 ≠ gb146)); clear HO117; clear HO122; clear HO128; clear HO133; clear HO139; clear HO144; clear HO150; clear HO155; clear BK112; clear BK124; clear BK135; clear BK146; clear HB; have HO117 := n0_; have HO122 := n1_; have HO128 := n2_; have HO133 := n3_; have HO139 := n4_; have HO144 := n5_; have HO150 := n6_; have HO155 := n7_; have BK112 := n8_; have BK124 := n9_; have BK135 := n10_; have BK146 := n11_; have HB := n12_; have BK157 := n13_; have GW157 := n14_; have GE157 := n15_; have NB112_157 := n16_; have NB157_112 := n17_; have NB124_157 := n18_; have NB157_124 := n19_; have NB135_157 := n20_; have NB157_135 := n21_; have NB146_157 := n22_; have NB157_146 := n23_; clear n0_ n1_ n2_ n3_ n4_ n5_ n6_ n7_ n8_ n9_ n10_ n11_ n12_ n13_ n14_ n15_ n16_ n17_ n18_ n19_ n20_ n21_ n22_ n23_; clear hb hbox hg
                 refine hK.out _ _ ⟨(blk_cell BK135.out 0).trans rfl, (blk_cell BK135.out 1).trans rfl, HS2_⟩ (fun hHeld => ?_)
                 clear hK K
                 refine norm_ (a' := ?_) ?_ ?_
                 rotate_left
                 ·show Act.put _ (some 14) _ = _
                  simp only [Act.put, List.setIfInBounds_toArray, List.set_cons_zero, List.set_cons_succ, i64_w, i32_w]
                  rfl
                 exact norm_ (by simp only [putAll, Act.put, List.setIfInBounds_toArray, List.set_cons_zero, List.set_cons_succ]) (hCont (.slice Ao69 y148.length co69, v154, gb157) _ ⟨hHeld, (by (with_reducible repeat (first | apply Kd.R_alloc | apply Kd.R_drewN | apply Kd.R_drew)); exact Kd.R_mono HO117.out (fun _ hk => ⟨hk.1.1, ⟨hk.1.2, hk.2⟩⟩)), (by (with_reducible repeat (first | apply Kd.R_alloc | apply Kd.R_drewN | apply Kd.R_drew)); exact Kd.R_mono HO122.out (fun _ hk => ⟨hk.1.1, ⟨hk.1.2, hk.2⟩⟩)), (by (with_reducible repeat (first | apply Kd.R_alloc | apply Kd.R_drewN | apply Kd.R_drew)); exact Kd.R_mono HO128.out (fun _ hk => ⟨hk.1.1, ⟨hk.1.2, hk.2⟩⟩)), (by (with_reducible repeat (first | apply Kd.R_alloc | apply Kd.R_drewN | apply Kd.R_drew)); exact Kd.R_mono HO133.out (fun _ hk => ⟨hk.1.1, ⟨hk.1.2, hk.2⟩⟩)), (by (with_reducible repeat (first | apply Kd.R_alloc | apply Kd.R_drewN | apply Kd.R_drew)); exact Kd.R_mono HO139.out (fun _ hk => ⟨hk.1.1, ⟨hk.1.2, hk.2⟩⟩)), (by (with_reducible repeat (first | apply Kd.R_alloc | apply Kd.R_drewN | apply Kd.R_drew)); exact Kd.R_mono HO144.out (fun _ hk => ⟨hk.1.1, ⟨hk.1.2, hk.2⟩⟩)), (by (with_reducible repeat (first | apply Kd.R_alloc | apply Kd.R_drewN | apply Kd.R_drew)); exact Kd.R_mono HO150.out (fun _ hk => ⟨hk.1.1.2, ⟨hk.1.2, hk.2⟩⟩)), (by (with_reducible repeat (first | apply Kd.R_alloc | apply Kd.R_drewN | apply Kd.R_drew)); exact Kd.R_mono HO155.out (fun _ hk => ⟨hk.1.1.2, ⟨hk.1.2, hk.2⟩⟩)), (by (with_reducible repeat (first | refine blk_drewN ?_ _ | refine blk_drew ?_ | refine blk_alloc ?_ _)); exact BK112.out), (by (with_reducible repeat (first | refine blk_drewN ?_ _ | refine blk_drew ?_ | refine blk_alloc ?_ _)); exact BK124.out), (by (with_reducible repeat (first | refine blk_drewN ?_ _ | refine blk_drew ?_ | refine blk_alloc ?_ _)); exact BK135.out), (by (with_reducible repeat (first | refine blk_drewN ?_ _ | refine blk_drew ?_ | refine blk_alloc ?_ _)); exact BK146.out), (by (with_reducible repeat (first | refine blk_drewN ?_ _ | refine blk_drew ?_ | refine blk_alloc ?_ _)); exact BK157.out), GW157.out, GE157.out, NB112_157.out, NB157_112.out, NB124_157.out, NB157_124.out, NB135_157.out, NB157_135.out, NB146_157.out, NB157_146.out, (by repeat (first | (with_reducible first | exact HB.out | apply below_alloc | apply pw_below_drewN | apply below_drew1 | refine below_set ?_ GE112.out | refine below_set ?_ GE124.out | refine below_set ?_ GE135.out | refine below_set ?_ GE146.out | refine below_set ?_ GE157.out) | exact HB.out))⟩)
                ·skip
                 refine box_step ?hg (N := 14) ?hd (cs := #[.string (⟨#[]⟩ : ByteArray), .int .i64 0]) (t := 26) ?hr ?_; (case hd => rfl); (case hg => rfl); (case hr => first | (go_simp; done) | (go_simp; rfl))
                 intro gb157 hg w69 hbox hb
                 have HS2_ := (hb.cell (World.block_lt_of_cell? _ _ (hHeld.2.2))).trans (hHeld.2.2)
                 have n0_ := Aside0.mk (Kd.R_below (by (with_reducible repeat (first | apply Kd.R_alloc | apply Kd.R_drewN | apply Kd.R_drew)); exact HO117.out) hb); have n1_ := Aside0.mk (Kd.R_below (by (with_reducible repeat (first | apply Kd.R_alloc | apply Kd.R_drewN | apply Kd.R_drew)); exact HO122.out) hb); have n2_ := Aside0.mk (Kd.R_below (by (with_reducible repeat (first | apply Kd.R_alloc | apply Kd.R_drewN | apply Kd.R_drew)); exact HO128.out) hb); have n3_ := Aside0.mk (Kd.R_below (by (with_reducible repeat (first | apply Kd.R_alloc | apply Kd.R_drewN | apply Kd.R_drew)); exact HO133.out) hb); have n4_ := Aside0.mk (Kd.R_below (by (with_reducible repeat (first | apply Kd.R_alloc | apply Kd.R_drewN | apply Kd.R_drew)); exact HO139.out) hb); have n5_ := Aside0.mk (Kd.R_below (by (with_reducible repeat (first | apply Kd.R_alloc | apply Kd.R_drewN | apply Kd.R_drew)); exact HO144.out) hb); have n6_ := Aside0.mk (Kd.R_below (by (with_reducible repeat (first | apply Kd.R_alloc | apply Kd.R_drewN | apply Kd.R_drew)); exact HO150.out) hb); have n7_ := Aside0.mk (blk_below (g := gb112) (o := .cells #[.string a0_0, .int .i64 a0_1] 26 (0, 0)) (by (with_reducible repeat (first | refine blk_drewN ?_ _ | refine blk_drew ?_ | refine blk_alloc ?_ _)); exact BK112.out) hb); have n8_ := Aside0.mk (blk_below (g := gb124) (o := .cells #[.string t118, .int .i64 t119] 26 (0, 0)) (by (with_reducible repeat (first | refine blk_drewN ?_ _ | refine blk_drew ?_ | refine blk_alloc ?_ _)); exact BK124.out) hb); have n9_ := Aside0.mk (blk_below (g := gb135) (o := .cells #[.string t129, .int .i64 t130] 26 (0, 0)) (by (with_reducible repeat (first | refine blk_drewN ?_ _ | refine blk_drew ?_ | refine blk_alloc ?_ _)); exact BK135.out) hb); have n10_ := Aside0.mk (blk_below (g := gb146) (o := .cells #[.string t140, .int .i64 t141] 26 (0, 0)) (by (with_reducible repeat (first | refine blk_drewN ?_ _ | refine blk_drew ?_ | refine blk_alloc ?_ _)); exact BK146.out) hb); have n11_ := Aside0.mk (below_step (by repeat (first | (with_reducible first | exact HB.out | apply below_alloc | apply pw_below_drewN | apply below_drew1 | refine below_set ?_ GE112.out | refine below_set ?_ GE124.out | refine below_set ?_ GE135.out | refine below_set ?_ GE146.out) | exact HB.out)) hb); have n12_ := Aside0.mk (hbox); have n13_ := Aside0.mk ((by rw [hg]; exact (below_size (by repeat (first | (with_reducible first | exact HB.out | apply below_alloc | apply pw_below_drewN | apply below_drew1 | refine below_set ?_ GE112.out | refine below_set ?_ GE124.out | refine below_set ?_ GE135.out | refine below_set ?_ GE146.out) | exact HB.out))) : w.heap.size ≤ gb157)); have n14_ := Aside0.mk ((by rw [hg]; exact (below_size (by repeat (first | (with_reducible first | exact HB.out | apply below_alloc | apply pw_below_drewN | apply below_drew1 | refine below_set ?_ GE112.out | refine below_set ?_ GE124.out | refine below_set ?_ GE135.out | refine below_set ?_ GE146.out) | exact HB.out))) : w.heap.size ≤ gb157)); have n15_ := Aside0.mk ((by rw [hg]; exact Nat.ne_of_lt (blk_lt (g := gb112) (o := .cells #[.string a0_0, .int .i64 a0_1] 26 (0, 0)) (by (with_reducible repeat (first | refine blk_drewN ?_ _ | refine blk_drew ?_ | refine blk_alloc ?_ _)); exact BK112.out)) : gb112 ≠ gb157)); have n16_ := Aside0.mk ((by rw [hg]; exact Nat.ne_of_gt (blk_lt (g := gb112) (o := .cells #[.string a0_0, .int .i64 a0_1] 26 (0, 0)) (by (with_reducible repeat (first | refine blk_drewN ?_ _ | refine blk_drew ?_ | refine blk_alloc ?_ _)); exact BK112.out)) : gb157 ≠ gb112)); have n17_ := Aside0.mk ((by rw [hg]; exact Nat.ne_of_lt (blk_lt (g := gb124) (o := .cells #[.string t118, .int .i64 t119] 26 (0, 0)) (by (with_reducible repeat (first | refine blk_drewN ?_ _ | refine blk_drew ?_ | refine blk_alloc ?_ _)); exact BK124.out)) : gb124 ≠ gb157)); have n18_ := Aside0.mk ((by rw [hg]; exact Nat.ne_of_gt (blk_lt (g := gb124) (o := .cells #[.string t118, .int .i64 t119] 26 (0, 0)) (by (with_reducible repeat (first | refine blk_drewN ?_ _ | refine blk_drew ?_ | refine blk_alloc ?_ _)); exact BK124.out)) : gb157 ≠ gb124))
                 have n19_ := Aside0.mk ((by rw [hg]; exact Nat.ne_of_lt (blk_lt (g := gb135) (o := .cells #[.string t129, .int .i64 t130] 26 (0, 0)) (by (with_reducible repeat (first | refine blk_drewN ?_ _ | refine blk_drew ?_ | refine blk_alloc ?_ _)); exact BK135.out)) : gb135 ≠ gb157)); have n20_ := Aside0.mk ((by rw [hg]; exact Nat.ne_of_gt (blk_lt (g := gb135) (o := .cells #[.string t129, .int .i64 t130] 26 (0, 0)) (by (with_reducible repeat (first | refine blk_drewN ?_ _ | refine blk_drew ?_ | refine blk_alloc ?_ _)); exact BK135.out)) : gb157 ≠ gb135)); have n21_ := Aside0.mk ((by rw [hg]; exact Nat.ne_of_lt (blk_lt (g := gb146) (o := .cells #[.string t140, .int .i64 t141] 26 (0, 0)) (by (with_reducible repeat (first | refine blk_drewN ?_ _ | refine blk_drew ?_ | refine blk_alloc ?_ _)); exact BK146.out)) : gb146 ≠ gb157)); have n22_ := Aside0.mk ((by rw [hg]; exact Nat.ne_of_gt (blk_lt (g := gb146) (o := .cells #[.string t140, .int .i64 t141] 26 (0, 0)) (by (with_reducible repeat (first | refine blk_drewN ?_ _ | refine blk_drew ?_ | refine blk_alloc ?_ _)); exact BK146.out)) : gb157 ≠ gb146)); clear HO117; clear HO122; clear HO128; clear HO133; clear HO139; clear HO144; clear HO150; clear BK112; clear BK124; clear BK135; clear BK146; clear HB; have HO117 := n0_; have HO122 := n1_; have HO128 := n2_; have HO133 := n3_; have HO139 := n4_; have HO144 := n5_; have HO150 := n6_; have BK112 := n7_; have BK124 := n8_; have BK135 := n9_; have BK146 := n10_; have HB := n11_; have BK157 := n12_; have GW157 := n13_; have GE157 := n14_; have NB112_157 := n15_; have NB157_112 := n16_; have NB124_157 := n17_; have NB157_124 := n18_; have NB135_157 := n19_; have NB157_135 := n20_; have NB146_157 := n21_; have NB157_146 := n22_; clear n0_ n1_ n2_ n3_ n4_ n5_ n6_ n7_ n8_ n9_ n10_ n11_ n12_ n13_ n14_ n15_ n16_ n17_ n18_ n19_ n20_ n21_ n22_; clear hb hbox hg
                 obtain ⟨Ao70, co70, eo70⟩ := Kd.R_slice HO150.out
                 (first | subst eo70 | (injection eo70 with f1_ f2_ f3_; have f4_ := f1_.symm; have f5_ := f3_.symm; clear f1_ f2_ f3_; subst f4_; subst f5_))
                 refine hK.out _ _ ⟨(blk_cell BK135.out 0).trans rfl, (blk_cell BK135.out 1).trans rfl, HS2_⟩ (fun hHeld => ?_)
                 clear hK K
                 refine norm_ (a' := ?_) ?_ ?_
                 rotate_left
                 ·show Act.put _ (some 14) _ = _
                  simp only [Act.put, List.setIfInBounds_toArray, List.set_cons_zero, List.set_cons_succ, i64_w, i32_w]
                  rfl
                 refine one_ (i := 6) (N := some 87) #[true, true, true, true, true, true, true, false, false, false, false, true, false, false, false] rfl rfl (one_of HT_.out (by kernel_rfl)) (by decide) (fun K hK => ?_)
                 refine goes_ Tryd.func11 (by kernel_rfl) rfl #[.agg #[.string t129, .int .i64 t130], .slice Ao70 y148.length co70] (by rfl) rfl rfl (by (try simp only [List.map_toArray, List.map_cons, List.map_nil]); first | done | rfl | (simp only [List.length_drop, List.length_take]; rfl) | (simp only [Int.toNat_natCast, ByteArray.extract_zero_size]; rfl)) ?_
                 with_reducible refine (impl_EditedFrom.calls t129 t130 _ _ y148 t151 t152 t153 true _ ?side1 ?side2 A31.out).mono ?_
                 (case side1 => repeat (first | exact (Kd.R_reads' HO150.out).2.2 | (with_reducible refine Kd.C_alloc ?_ _) | (with_reducible refine Kd.C_drewN ?_ _) | (with_reducible refine Kd.C_drew ?_)))
                 (case side2 => exact (Kd.R_reads' HO150.out).2.1)
                 rintro e w71 ⟨v154, rfl, ho0, hb⟩
                 have HS2_ := (hb.cell (World.block_lt_of_cell? _ _ (hHeld.2.2))).trans (hHeld.2.2)
                 refine ⟨_, rfl, ?_⟩
                 have n0_ := Aside0.mk (Kd.R_below (by (with_reducible repeat (first | apply Kd.R_alloc | apply Kd.R_drewN | apply Kd.R_drew)); exact HO117.out) hb); have n1_ := Aside0.mk (Kd.R_elder' (by (with_reducible repeat (first | apply Kd.R_alloc | apply Kd.R_drewN | apply Kd.R_drew)); exact HO122.out) (Kd.R_base ho0) hb); have n2_ := Aside0.mk (Kd.R_below (by (with_reducible repeat (first | apply Kd.R_alloc | apply Kd.R_drewN | apply Kd.R_drew)); exact HO128.out) hb); have n3_ := Aside0.mk (Kd.R_elder' (by (with_reducible repeat (first | apply Kd.R_alloc | apply Kd.R_drewN | apply Kd.R_drew)); exact HO133.out) (Kd.R_base ho0) hb); have n4_ := Aside0.mk (Kd.R_below (by (with_reducible repeat (first | apply Kd.R_alloc | apply Kd.R_drewN | apply Kd.R_drew)); exact HO139.out) hb); have n5_ := Aside0.mk (Kd.R_elder' (by (with_reducible repeat (first | apply Kd.R_alloc | apply Kd.R_drewN | apply Kd.R_drew)); exact HO144.out) (Kd.R_base ho0) hb); have n6_ := Aside0.mk (Kd.R_below (by (with_reducible repeat (first | apply Kd.R_alloc | apply Kd.R_drewN | apply Kd.R_drew)); exact HO150.out) hb); have n7_ := Aside0.mk (Kd.R_lower (Kd.R_new' (Kd.R_new' (Kd.R_new' ho0 (Kd.R_lt (by (with_reducible repeat (first | apply Kd.R_alloc | apply Kd.R_drewN | apply Kd.R_drew)); exact HO122.out))) (Kd.R_lt (by (with_reducible repeat (first | apply Kd.R_alloc | apply Kd.R_drewN | apply Kd.R_drew)); exact HO133.out))) (Kd.R_lt (by (with_reducible repeat (first | apply Kd.R_alloc | apply Kd.R_drewN | apply Kd.R_drew)); exact HO144.out))) (below_size (by repeat (first | (with_reducible first | exact HB.out | apply below_alloc | apply pw_below_drewN | apply below_drew1 | refine below_set ?_ GE112.out | refine below_set ?_ GE124.out | refine below_set ?_ GE135.out | refine below_set ?_ GE146.out | refine below_set ?_ GE157.out) | exact HB.out)))); have n8_ := Aside0.mk (blk_below (g := gb112) (o := .cells #[.string a0_0, .int .i64 a0_1] 26 (0, 0)) (by (with_reducible repeat (first | refine blk_drewN ?_ _ | refine blk_drew ?_ | refine blk_alloc ?_ _)); exact BK112.out) hb); have n9_ := Aside0.mk (blk_below (g := gb124) (o := .cells #[.string t118, .int .i64 t119] 26 (0, 0)) (by (with_reducible repeat (first | refine blk_drewN ?_ _ | refine blk_drew ?_ | refine blk_alloc ?_ _)); exact BK124.out) hb); have n10_ := Aside0.mk (blk_below (g := gb135) (o := .cells #[.string t129, .int .i64 t130] 26 (0, 0)) (by (with_reducible repeat (first | refine blk_drewN ?_ _ | refine blk_drew ?_ | refine blk_alloc ?_ _)); exact BK135.out) hb); have n11_ := Aside0.mk (blk_below (g := gb146) (o := .cells #[.string t140, .int .i64 t141] 26 (0, 0)) (by (with_reducible repeat (first | refine blk_drewN ?_ _ | refine blk_drew ?_ | refine blk_alloc ?_ _)); exact BK146.out) hb); have n12_ := Aside0.mk (blk_below (g := gb157) (o := .cells #[.string (⟨#[]⟩ : ByteArray), .int .i64 0] 26 (0, 0)) (by (with_reducible repeat (first | refine blk_drewN ?_ _ | refine blk_drew ?_ | refine blk_alloc ?_ _)); exact BK157.out) hb); have n13_ := Aside0.mk (below_step (by repeat (first | (with_reducible first | exact HB.out | apply below_alloc | apply pw_below_drewN | apply below_drew1 | refine below_set ?_ GE112.out | refine below_set ?_ GE124.out | refine below_set ?_ GE135.out | refine below_set ?_ GE146.out | refine below_set ?_ GE157.out) | exact HB.out)) hb); clear HO117; clear HO122; clear HO128; clear HO133; clear HO139; clear HO144; clear HO150; clear BK112; clear BK124; clear BK135; clear BK146; clear BK157; clear HB; have HO117 := n0_; have HO122 := n1_; have HO128 := n2_; have HO133 := n3_; have HO139 := n4_; have HO144 := n5_; have HO150 := n6_; have HO155 := n7_; have BK112 := n8_; have BK124 := n9_; have BK135 := n10_; have BK146 := n11_; have BK157 := n12_; have HB := n13_; clear n0_ n1_ n2_ n3_ n4_ n5_ n6_ n7_ n8_ n9_ n10_ n11_ n12_ n13_; (try clear hb); (try clear hb2); (try clear hk); (try clear hi); (try clear ho0)
                 refine hK.out _ _ ⟨(blk_cell BK135.out 0).trans rfl, (blk_cell BK135.out 1).trans rfl, HS2_⟩ (fun hHeld => ?_)
                 clear hK K
                 refine norm_ (a' := ?_) ?_ ?_
                 rotate_left
                 ·show Act.put _ (some 87) _ = _
                  simp only [Act.put, List.setIfInBounds_toArray, List.set_cons_zero, List.set_cons_succ, i64_w, i32_w]
                  rfl
                 refine pure_ (i := 7) (N := some 80) (v := ?_) (a' := ?_) #[true, true, true, true, true, true, true, true, false, false, false, true, false, false, false] rfl rfl (any_of HT_.out (by kernel_rfl)) (fun _ _ _ h => h) (Or.inl ⟨by rfl, ?_⟩) ?_ ?_
                 rotate_left
                 ·intro w'
                  go_simp
                  with_reducible rfl
                 rotate_left
                 ·simp only [Act.put, List.setIfInBounds_toArray, List.set_cons_zero, List.set_cons_succ, i64_w, i32_w]
                  rfl
                 refine pure_ (i := 8) (N := some 88) (v := ?_) (a' := ?_) #[true, true, true, true, true, true, true, true, true, false, false, true, false, false, false] rfl rfl (any_of HT_.out (by kernel_rfl)) (fun _ _ _ h => h) (Or.inl ⟨by rfl, ?_⟩) ?_ ?_
                 rotate_left
                 ·intro w'
                  go_simp
                  with_reducible rfl
                 rotate_left
                 ·simp only [Act.put, List.setIfInBounds_toArray, List.set_cons_zero, List.set_cons_succ, i64_w, i32_w]
                  rfl
                 refine pure_ (i := 9) (N := some 89) (v := ?_) (a' := ?_) #[true, true, true, true, true, true, true, true, true, true, false, true, false, false, false] rfl rfl (any_of HT_.out (by kernel_rfl)) (fun _ _ _ h => h) (Or.inl ⟨by rfl, ?_⟩) ?_ ?_
                 rotate_left
                 ·intro w'
                  go_simp
                  with_reducible rfl
                 rotate_left
                 ·simp only [Act.put, List.setIfInBounds_toArray, List.set_cons_zero, List.set_cons_succ, i64_w, i32_w]
                  rfl
                 refine pure_ (i := 10) (N := some 90) (v := ?_) (a' := ?_) #[true, true, true, true, true, true, true, true, true, true, true, true, false, false, false] rfl rfl (any_of HT_.out (by kernel_rfl)) (fun _ _ _ h => h) (Or.inl ⟨by rfl, ?_⟩) ?_ ?_
                 rotate_left
                 ·intro w'
                  go_simp
                  with_reducible rfl
                 rotate_left
                 ·simp only [Act.put, List.setIfInBounds_toArray, List.set_cons_zero, List.set_cons_succ, i64_w, i32_w]
                  rfl
                 exact norm_ (by simp only [putAll, Act.put, List.setIfInBounds_toArray, List.set_cons_zero, List.set_cons_succ]) (hCont (.slice Ao70 y148.length co70, v154, gb157) _ ⟨hHeld, (by (with_reducible repeat (first | apply Kd.R_alloc | apply Kd.R_drewN | apply Kd.R_drew)); exact Kd.R_mono HO117.out (fun _ hk => ⟨hk.1.1, ⟨hk.1.2, hk.2⟩⟩)), (by (with_reducible repeat (first | apply Kd.R_alloc | apply Kd.R_drewN | apply Kd.R_drew)); exact Kd.R_mono HO122.out (fun _ hk => ⟨hk.1.1, ⟨hk.1.2, hk.2⟩⟩)), (by (with_reducible repeat (first | apply Kd.R_alloc | apply Kd.R_drewN | apply Kd.R_drew)); exact Kd.R_mono HO128.out (fun _ hk => ⟨hk.1.1, ⟨hk.1.2, hk.2⟩⟩)), (by (with_reducible repeat (first | apply Kd.R_alloc | apply Kd.R_drewN | apply Kd.R_drew)); exact Kd.R_mono HO133.out (fun _ hk => ⟨hk.1.1, ⟨hk.1.2, hk.2⟩⟩)), (by (with_reducible repeat (first | apply Kd.R_alloc | apply Kd.R_drewN | apply Kd.R_drew)); exact Kd.R_mono HO139.out (fun _ hk => ⟨hk.1.1, ⟨hk.1.2, hk.2⟩⟩)), (by (with_reducible repeat (first | apply Kd.R_alloc | apply Kd.R_drewN | apply Kd.R_drew)); exact Kd.R_mono HO144.out (fun _ hk => ⟨hk.1.1, ⟨hk.1.2, hk.2⟩⟩)), (by (with_reducible repeat (first | apply Kd.R_alloc | apply Kd.R_drewN | apply Kd.R_drew)); exact Kd.R_mono HO150.out (fun _ hk => ⟨hk.1.1.2, ⟨hk.1.2, hk.2⟩⟩)), (by (with_reducible repeat (first | apply Kd.R_alloc | apply Kd.R_drewN | apply Kd.R_drew)); exact Kd.R_mono HO155.out (fun _ hk => ⟨hk.1.1.2, ⟨hk.1.2, hk.2⟩⟩)), (by (with_reducible repeat (first | refine blk_drewN ?_ _ | refine blk_drew ?_ | refine blk_alloc ?_ _)); exact BK112.out), (by (with_reducible repeat (first | refine blk_drewN ?_ _ | refine blk_drew ?_ | refine blk_alloc ?_ _)); exact BK124.out), (by (with_reducible repeat (first | refine blk_drewN ?_ _ | refine blk_drew ?_ | refine blk_alloc ?_ _)); exact BK135.out), (by (with_reducible repeat (first | refine blk_drewN ?_ _ | refine blk_drew ?_ | refine blk_alloc ?_ _)); exact BK146.out), (by (with_reducible repeat (first | refine blk_drewN ?_ _ | refine blk_drew ?_ | refine blk_alloc ?_ _)); exact BK157.out), GW157.out, GE157.out, NB112_157.out, NB157_112.out, NB124_157.out, NB157_124.out, NB135_157.out, NB157_135.out, NB146_157.out, NB157_146.out, (by repeat (first | (with_reducible first | exact HB.out | apply below_alloc | apply pw_below_drewN | apply below_drew1 | refine below_set ?_ GE112.out | refine below_set ?_ GE124.out | refine below_set ?_ GE135.out | refine below_set ?_ GE146.out | refine below_set ?_ GE157.out) | exact HB.out))⟩)
               ·skip
                refine box_step ?hg (N := 14) ?hd (cs := #[.string (⟨#[]⟩ : ByteArray), .int .i64 0]) (t := 26) ?hr ?_; (case hd => rfl); (case hg => rfl); (case hr => first | (go_simp; done) | (go_simp; rfl))
                intro gb157 hg w67 hbox hb
                have HS2_ := (hb.cell (World.block_lt_of_cell? _ _ (hHeld.2.2))).trans (hHeld.2.2)
                have n0_ := Aside0.mk (Kd.R_below (by (with_reducible repeat (first | apply Kd.R_alloc | apply Kd.R_drewN | apply Kd.R_drew)); exact HO117.out) hb); have n1_ := Aside0.mk (Kd.R_below (by (with_reducible repeat (first | apply Kd.R_alloc | apply Kd.R_drewN | apply Kd.R_drew)); exact HO122.out) hb); have n2_ := Aside0.mk (Kd.R_below (by (with_reducible repeat (first | apply Kd.R_alloc | apply Kd.R_drewN | apply Kd.R_drew)); exact HO128.out) hb); have n3_ := Aside0.mk (Kd.R_below (by (with_reducible repeat (first | apply Kd.R_alloc | apply Kd.R_drewN | apply Kd.R_drew)); exact HO133.out) hb); have n4_ := Aside0.mk (Kd.R_below (by (with_reducible repeat (first | apply Kd.R_alloc | apply Kd.R_drewN | apply Kd.R_drew)); exact HO139.out) hb); have n5_ := Aside0.mk (Kd.R_below (by (with_reducible repeat (first | apply Kd.R_alloc | apply Kd.R_drewN | apply Kd.R_drew)); exact HO144.out) hb); have n6_ := Aside0.mk (blk_below (g := gb112) (o := .cells #[.string a0_0, .int .i64 a0_1] 26 (0, 0)) (by (with_reducible repeat (first | refine blk_drewN ?_ _ | refine blk_drew ?_ | refine blk_alloc ?_ _)); exact BK112.out) hb); have n7_ := Aside0.mk (blk_below (g := gb124) (o := .cells #[.string t118, .int .i64 t119] 26 (0, 0)) (by (with_reducible repeat (first | refine blk_drewN ?_ _ | refine blk_drew ?_ | refine blk_alloc ?_ _)); exact BK124.out) hb); have n8_ := Aside0.mk (blk_below (g := gb135) (o := .cells #[.string t129, .int .i64 t130] 26 (0, 0)) (by (with_reducible repeat (first | refine blk_drewN ?_ _ | refine blk_drew ?_ | refine blk_alloc ?_ _)); exact BK135.out) hb); have n9_ := Aside0.mk (blk_below (g := gb146) (o := .cells #[.string t140, .int .i64 t141] 26 (0, 0)) (by (with_reducible repeat (first | refine blk_drewN ?_ _ | refine blk_drew ?_ | refine blk_alloc ?_ _)); exact BK146.out) hb); have n10_ := Aside0.mk (below_step (by repeat (first | (with_reducible first | exact HB.out | apply below_alloc | apply pw_below_drewN | apply below_drew1 | refine below_set ?_ GE112.out | refine below_set ?_ GE124.out | refine below_set ?_ GE135.out | refine below_set ?_ GE146.out) | exact HB.out)) hb); have n11_ := Aside0.mk (hbox); have n12_ := Aside0.mk ((by rw [hg]; exact (below_size (by repeat (first | (with_reducible first | exact HB.out | apply below_alloc | apply pw_below_drewN | apply below_drew1 | refine below_set ?_ GE112.out | refine below_set ?_ GE124.out | refine below_set ?_ GE135.out | refine below_set ?_ GE146.out) | exact HB.out))) : w.heap.size ≤ gb157)); have n13_ := Aside0.mk ((by rw [hg]; exact (below_size (by repeat (first | (with_reducible first | exact HB.out | apply below_alloc | apply pw_below_drewN | apply below_drew1 | refine below_set ?_ GE112.out | refine below_set ?_ GE124.out | refine below_set ?_ GE135.out | refine below_set ?_ GE146.out) | exact HB.out))) : w.heap.size ≤ gb157)); have n14_ := Aside0.mk ((by rw [hg]; exact Nat.ne_of_lt (blk_lt (g := gb112) (o := .cells #[.string a0_0, .int .i64 a0_1] 26 (0, 0)) (by (with_reducible repeat (first | refine blk_drewN ?_ _ | refine blk_drew ?_ | refine blk_alloc ?_ _)); exact BK112.out)) : gb112 ≠ gb157)); have n15_ := Aside0.mk ((by rw [hg]; exact Nat.ne_of_gt (blk_lt (g := gb112) (o := .cells #[.string a0_0, .int .i64 a0_1] 26 (0, 0)) (by (with_reducible repeat (first | refine blk_drewN ?_ _ | refine blk_drew ?_ | refine blk_alloc ?_ _)); exact BK112.out)) : gb157 ≠ gb112)); have n16_ := Aside0.mk ((by rw [hg]; exact Nat.ne_of_lt (blk_lt (g := gb124) (o := .cells #[.string t118, .int .i64 t119] 26 (0, 0)) (by (with_reducible repeat (first | refine blk_drewN ?_ _ | refine blk_drew ?_ | refine blk_alloc ?_ _)); exact BK124.out)) : gb124 ≠ gb157)); have n17_ := Aside0.mk ((by rw [hg]; exact Nat.ne_of_gt (blk_lt (g := gb124) (o := .cells #[.string t118, .int .i64 t119] 26 (0, 0)) (by (with_reducible repeat (first | refine blk_drewN ?_ _ | refine blk_drew ?_ | refine blk_alloc ?_ _)); exact BK124.out)) : gb157 ≠ gb124)); have n18_ := Aside0.mk ((by rw [hg]; exact Nat.ne_of_lt (blk_lt (g := gb135) (o := .cells #[.string t129, .int .i64 t130] 26 (0, 0)) (by (with_reducible repeat (first | refine blk_drewN ?_ _ | refine blk_drew ?_ | refine blk_alloc ?_ _)); exact BK135.out)) : gb135 ≠ gb157))
                have n19_ := Aside0.mk ((by rw [hg]; exact Nat.ne_of_gt (blk_lt (g := gb135) (o := .cells #[.string t129, .int .i64 t130] 26 (0, 0)) (by (with_reducible repeat (first | refine blk_drewN ?_ _ | refine blk_drew ?_ | refine blk_alloc ?_ _)); exact BK135.out)) : gb157 ≠ gb135)); have n20_ := Aside0.mk ((by rw [hg]; exact Nat.ne_of_lt (blk_lt (g := gb146) (o := .cells #[.string t140, .int .i64 t141] 26 (0, 0)) (by (with_reducible repeat (first | refine blk_drewN ?_ _ | refine blk_drew ?_ | refine blk_alloc ?_ _)); exact BK146.out)) : gb146 ≠ gb157)); have n21_ := Aside0.mk ((by rw [hg]; exact Nat.ne_of_gt (blk_lt (g := gb146) (o := .cells #[.string t140, .int .i64 t141] 26 (0, 0)) (by (with_reducible repeat (first | refine blk_drewN ?_ _ | refine blk_drew ?_ | refine blk_alloc ?_ _)); exact BK146.out)) : gb157 ≠ gb146)); clear HO117; clear HO122; clear HO128; clear HO133; clear HO139; clear HO144; clear BK112; clear BK124; clear BK135; clear BK146; clear HB; have HO117 := n0_; have HO122 := n1_; have HO128 := n2_; have HO133 := n3_; have HO139 := n4_; have HO144 := n5_; have BK112 := n6_; have BK124 := n7_; have BK135 := n8_; have BK146 := n9_; have HB := n10_; have BK157 := n11_; have GW157 := n12_; have GE157 := n13_; have NB112_157 := n14_; have NB157_112 := n15_; have NB124_157 := n16_; have NB157_124 := n17_; have NB135_157 := n18_; have NB157_135 := n19_; have NB146_157 := n20_; have NB157_146 := n21_; clear n0_ n1_ n2_ n3_ n4_ n5_ n6_ n7_ n8_ n9_ n10_ n11_ n12_ n13_ n14_ n15_ n16_ n17_ n18_ n19_ n20_ n21_; clear hb hbox hg
                refine hK.out _ _ ⟨(blk_cell BK135.out 0).trans rfl, (blk_cell BK135.out 1).trans rfl, HS2_⟩ (fun hHeld => ?_)
                clear hK K
                refine norm_ (a' := ?_) ?_ ?_
                rotate_left
                ·show Act.put _ (some 14) _ = _
                 simp only [Act.put, List.setIfInBounds_toArray, List.set_cons_zero, List.set_cons_succ, i64_w, i32_w]
                 rfl
                refine one_ (i := 5) (N := some 86) #[true, true, true, true, true, true, false, false, false, false, false, true, false, false, false] rfl rfl (one_of HT_.out (by kernel_rfl)) (by decide) (fun K hK => ?_)
                refine Kd.R_lit_step k30 _ 30 ?hg (N := 86) ?hd (xs := ([(⟨2, 0, rdOf ByteArray.empty t131 0, false⟩ : S30)] : List (S30))) (inner := [.int .i64 2, .int .i64 0, .string (rdOf ByteArray.empty t131 0), .bool false]) (ok := fun _ => True) (okp := fun _ => True) ?hr ?hp (fun _ hk => hk) trivial (Below.refl _ _) (Nat.le_refl _) (by simp) ?_; (case hd => rfl); (case hg => rfl); (case hr => first | (go_simp; done) | (go_simp; rfl)); (case hp => exact (Reps.c4 (show Kd.M k30 _ _ _ (⟨2, 0, rdOf ByteArray.empty t131 0, false⟩ : S30) [.int .i64 2, .int .i64 0, .string (rdOf ByteArray.empty t131 0), .bool false] from (k30_mkM _ _ _ (⟨2, 0, rdOf ByteArray.empty t131 0, false⟩ : S30) )) (Reps.none _ _)))
                intro v149 w68 ho69 hb hg_ hnew_
                have HS2_ := (hb.cell (World.block_lt_of_cell? _ _ (hHeld.2.2))).trans (hHeld.2.2)
                clear hg_ hnew_
                (first | rw [← Ny148.out] at ho69 | (simp only [Int.reduceToNat] at ho69; rw [← Ny148.out] at ho69))
                have n0_ := Aside0.mk (Kd.R_elder' (by (with_reducible repeat (first | apply Kd.R_alloc | apply Kd.R_drewN | apply Kd.R_drew)); exact HO117.out) (Kd.R_base ho69) hb); have n1_ := Aside0.mk (Kd.R_below (by (with_reducible repeat (first | apply Kd.R_alloc | apply Kd.R_drewN | apply Kd.R_drew)); exact HO122.out) hb); have n2_ := Aside0.mk (Kd.R_elder' (by (with_reducible repeat (first | apply Kd.R_alloc | apply Kd.R_drewN | apply Kd.R_drew)); exact HO128.out) (Kd.R_base ho69) hb); have n3_ := Aside0.mk (Kd.R_below (by (with_reducible repeat (first | apply Kd.R_alloc | apply Kd.R_drewN | apply Kd.R_drew)); exact HO133.out) hb); have n4_ := Aside0.mk (Kd.R_elder' (by (with_reducible repeat (first | apply Kd.R_alloc | apply Kd.R_drewN | apply Kd.R_drew)); exact HO139.out) (Kd.R_base ho69) hb); have n5_ := Aside0.mk (Kd.R_below (by (with_reducible repeat (first | apply Kd.R_alloc | apply Kd.R_drewN | apply Kd.R_drew)); exact HO144.out) hb); have n6_ := Aside0.mk (Kd.R_lower (Kd.R_new' (Kd.R_new' (Kd.R_new' ho69 (Kd.R_lt (by (with_reducible repeat (first | apply Kd.R_alloc | apply Kd.R_drewN | apply Kd.R_drew)); exact HO117.out))) (Kd.R_lt (by (with_reducible repeat (first | apply Kd.R_alloc | apply Kd.R_drewN | apply Kd.R_drew)); exact HO128.out))) (Kd.R_lt (by (with_reducible repeat (first | apply Kd.R_alloc | apply Kd.R_drewN | apply Kd.R_drew)); exact HO139.out))) (below_size (by repeat (first | (with_reducible first | exact HB.out | apply below_alloc | apply pw_below_drewN | apply below_drew1 | refine below_set ?_ GE112.out | refine below_set ?_ GE124.out | refine below_set ?_ GE135.out | refine below_set ?_ GE146.out | refine below_set ?_ GE157.out) | exact HB.out)))); have n7_ := Aside0.mk (blk_below (g := gb112) (o := .cells #[.string a0_0, .int .i64 a0_1] 26 (0, 0)) (by (with_reducible repeat (first | refine blk_drewN ?_ _ | refine blk_drew ?_ | refine blk_alloc ?_ _)); exact BK112.out) hb); have n8_ := Aside0.mk (blk_below (g := gb124) (o := .cells #[.string t118, .int .i64 t119] 26 (0, 0)) (by (with_reducible repeat (first | refine blk_drewN ?_ _ | refine blk_drew ?_ | refine blk_alloc ?_ _)); exact BK124.out) hb); have n9_ := Aside0.mk (blk_below (g := gb135) (o := .cells #[.string t129, .int .i64 t130] 26 (0, 0)) (by (with_reducible repeat (first | refine blk_drewN ?_ _ | refine blk_drew ?_ | refine blk_alloc ?_ _)); exact BK135.out) hb); have n10_ := Aside0.mk (blk_below (g := gb146) (o := .cells #[.string t140, .int .i64 t141] 26 (0, 0)) (by (with_reducible repeat (first | refine blk_drewN ?_ _ | refine blk_drew ?_ | refine blk_alloc ?_ _)); exact BK146.out) hb); have n11_ := Aside0.mk (blk_below (g := gb157) (o := .cells #[.string (⟨#[]⟩ : ByteArray), .int .i64 0] 26 (0, 0)) (by (with_reducible repeat (first | refine blk_drewN ?_ _ | refine blk_drew ?_ | refine blk_alloc ?_ _)); exact BK157.out) hb); have n12_ := Aside0.mk (below_step (by repeat (first | (with_reducible first | exact HB.out | apply below_alloc | apply pw_below_drewN | apply below_drew1 | refine below_set ?_ GE112.out | refine below_set ?_ GE124.out | refine below_set ?_ GE135.out | refine below_set ?_ GE146.out | refine below_set ?_ GE157.out) | exact HB.out)) hb); clear HO117; clear HO122; clear HO128; clear HO133; clear HO139; clear HO144; clear BK112; clear BK124; clear BK135; clear BK146; clear BK157; clear HB; have HO117 := n0_; have HO122 := n1_; have HO128 := n2_; have HO133 := n3_; have HO139 := n4_; have HO144 := n5_; have HO150 := n6_; have BK112 := n7_; have BK124 := n8_; have BK135 := n9_; have BK146 := n10_; have BK157 := n11_; have HB := n12_; clear n0_ n1_ n2_ n3_ n4_ n5_ n6_ n7_ n8_ n9_ n10_ n11_ n12_; clear hb ho69
                obtain ⟨Ao70, co70, eo70⟩ := Kd.R_slice HO150.out
                (first | subst eo70 | (injection eo70 with f1_ f2_ f3_; have f4_ := f1_.symm; have f5_ := f3_.symm; clear f1_ f2_ f3_; subst f4_; subst f5_))
                refine hK.out _ _ ⟨(blk_cell BK135.out 0).trans rfl, (blk_cell BK135.out 1).trans rfl, HS2_⟩ (fun hHeld => ?_)
                clear hK K
                refine norm_ (a' := ?_) ?_ ?_
                rotate_left
                ·show Act.put _ (some 86) _ = _
                 simp only [Act.put, List.setIfInBounds_toArray, List.set_cons_zero, List.set_cons_succ, i64_w, i32_w]
                 rfl
                refine one_ (i := 6) (N := some 87) #[true, true, true, true, true, true, true, false, false, false, false, true, false, false, false] rfl rfl (one_of HT_.out (by kernel_rfl)) (by decide) (fun K hK => ?_)
                refine goes_ Tryd.func11 (by kernel_rfl) rfl #[.agg #[.string t129, .int .i64 t130], .slice Ao70 y148.length co70] (by rfl) rfl rfl (by (try simp only [List.map_toArray, List.map_cons, List.map_nil]); first | done | rfl | (simp only [List.length_drop, List.length_take]; rfl) | (simp only [Int.toNat_natCast, ByteArray.extract_zero_size]; rfl)) ?_
                with_reducible refine (impl_EditedFrom.calls t129 t130 _ _ y148 t151 t152 t153 true _ ?side1 ?side2 A31.out).mono ?_
                (case side1 => repeat (first | exact (Kd.R_reads' HO150.out).2.2 | (with_reducible refine Kd.C_alloc ?_ _) | (with_reducible refine Kd.C_drewN ?_ _) | (with_reducible refine Kd.C_drew ?_)))
                (case side2 => exact (Kd.R_reads' HO150.out).2.1)
                rintro e w71 ⟨v154, rfl, ho0, hb⟩
                have HS2_ := (hb.cell (World.block_lt_of_cell? _ _ (hHeld.2.2))).trans (hHeld.2.2)
                refine ⟨_, rfl, ?_⟩
                have n0_ := Aside0.mk (Kd.R_below (by (with_reducible repeat (first | apply Kd.R_alloc | apply Kd.R_drewN | apply Kd.R_drew)); exact HO117.out) hb); have n1_ := Aside0.mk (Kd.R_elder' (by (with_reducible repeat (first | apply Kd.R_alloc | apply Kd.R_drewN | apply Kd.R_drew)); exact HO122.out) (Kd.R_base ho0) hb); have n2_ := Aside0.mk (Kd.R_below (by (with_reducible repeat (first | apply Kd.R_alloc | apply Kd.R_drewN | apply Kd.R_drew)); exact HO128.out) hb); have n3_ := Aside0.mk (Kd.R_elder' (by (with_reducible repeat (first | apply Kd.R_alloc | apply Kd.R_drewN | apply Kd.R_drew)); exact HO133.out) (Kd.R_base ho0) hb); have n4_ := Aside0.mk (Kd.R_below (by (with_reducible repeat (first | apply Kd.R_alloc | apply Kd.R_drewN | apply Kd.R_drew)); exact HO139.out) hb); have n5_ := Aside0.mk (Kd.R_elder' (by (with_reducible repeat (first | apply Kd.R_alloc | apply Kd.R_drewN | apply Kd.R_drew)); exact HO144.out) (Kd.R_base ho0) hb); have n6_ := Aside0.mk (Kd.R_below (by (with_reducible repeat (first | apply Kd.R_alloc | apply Kd.R_drewN | apply Kd.R_drew)); exact HO150.out) hb); have n7_ := Aside0.mk (Kd.R_lower (Kd.R_new' (Kd.R_new' (Kd.R_new' ho0 (Kd.R_lt (by (with_reducible repeat (first | apply Kd.R_alloc | apply Kd.R_drewN | apply Kd.R_drew)); exact HO122.out))) (Kd.R_lt (by (with_reducible repeat (first | apply Kd.R_alloc | apply Kd.R_drewN | apply Kd.R_drew)); exact HO133.out))) (Kd.R_lt (by (with_reducible repeat (first | apply Kd.R_alloc | apply Kd.R_drewN | apply Kd.R_drew)); exact HO144.out))) (below_size (by repeat (first | (with_reducible first | exact HB.out | apply below_alloc | apply pw_below_drewN | apply below_drew1 | refine below_set ?_ GE112.out | refine below_set ?_ GE124.out | refine below_set ?_ GE135.out | refine below_set ?_ GE146.out | refine below_set ?_ GE157.out) | exact HB.out)))); have n8_ := Aside0.mk (blk_below (g := gb112) (o := .cells #[.string a0_0, .int .i64 a0_1] 26 (0, 0)) (by (with_reducible repeat (first | refine blk_drewN ?_ _ | refine blk_drew ?_ | refine blk_alloc ?_ _)); exact BK112.out) hb); have n9_ := Aside0.mk (blk_below (g := gb124) (o := .cells #[.string t118, .int .i64 t119] 26 (0, 0)) (by (with_reducible repeat (first | refine blk_drewN ?_ _ | refine blk_drew ?_ | refine blk_alloc ?_ _)); exact BK124.out) hb); have n10_ := Aside0.mk (blk_below (g := gb135) (o := .cells #[.string t129, .int .i64 t130] 26 (0, 0)) (by (with_reducible repeat (first | refine blk_drewN ?_ _ | refine blk_drew ?_ | refine blk_alloc ?_ _)); exact BK135.out) hb); have n11_ := Aside0.mk (blk_below (g := gb146) (o := .cells #[.string t140, .int .i64 t141] 26 (0, 0)) (by (with_reducible repeat (first | refine blk_drewN ?_ _ | refine blk_drew ?_ | refine blk_alloc ?_ _)); exact BK146.out) hb); have n12_ := Aside0.mk (blk_below (g := gb157) (o := .cells #[.string (⟨#[]⟩ : ByteArray), .int .i64 0] 26 (0, 0)) (by (with_reducible repeat (first | refine blk_drewN ?_ _ | refine blk_drew ?_ | refine blk_alloc ?_ _)); exact BK157.out) hb); have n13_ := Aside0.mk (below_step (by repeat (first | (with_reducible first | exact HB.out | apply below_alloc | apply pw_below_drewN | apply below_drew1 | refine below_set ?_ GE112.out | refine below_set ?_ GE124.out | refine below_set ?_ GE135.out | refine below_set ?_ GE146.out | refine below_set ?_ GE157.out) | exact HB.out)) hb); clear HO117; clear HO122; clear HO128; clear HO133; clear HO139; clear HO144; clear HO150; clear BK112; clear BK124; clear BK135; clear BK146; clear BK157; clear HB; have HO117 := n0_; have HO122 := n1_; have HO128 := n2_; have HO133 := n3_; have HO139 := n4_; have HO144 := n5_; have HO150 := n6_; have HO155 := n7_; have BK112 := n8_; have BK124 := n9_; have BK135 := n10_; have BK146 := n11_; have BK157 := n12_; have HB := n13_; clear n0_ n1_ n2_ n3_ n4_ n5_ n6_ n7_ n8_ n9_ n10_ n11_ n12_ n13_; (try clear hb); (try clear hb2); (try clear hk); (try clear hi); (try clear ho0)
                refine hK.out _ _ ⟨(blk_cell BK135.out 0).trans rfl, (blk_cell BK135.out 1).trans rfl, HS2_⟩ (fun hHeld => ?_)
                clear hK K
                refine norm_ (a' := ?_) ?_ ?_
                rotate_left
                ·show Act.put _ (some 87) _ = _
                 simp only [Act.put, List.setIfInBounds_toArray, List.set_cons_zero, List.set_cons_succ, i64_w, i32_w]
                 rfl
                refine pure_ (i := 7) (N := some 80) (v := ?_) (a' := ?_) #[true, true, true, true, true, true, true, true, false, false, false, true, false, false, false] rfl rfl (any_of HT_.out (by kernel_rfl)) (fun _ _ _ h => h) (Or.inl ⟨by rfl, ?_⟩) ?_ ?_
                rotate_left
                ·intro w'
                 go_simp
                 with_reducible rfl
                rotate_left
                ·simp only [Act.put, List.setIfInBounds_toArray, List.set_cons_zero, List.set_cons_succ, i64_w, i32_w]
                 rfl
                refine pure_ (i := 8) (N := some 88) (v := ?_) (a' := ?_) #[true, true, true, true, true, true, true, true, true, false, false, true, false, false, false] rfl rfl (any_of HT_.out (by kernel_rfl)) (fun _ _ _ h => h) (Or.inl ⟨by rfl, ?_⟩) ?_ ?_
                rotate_left
                ·intro w'
                 go_simp
                 with_reducible rfl
                rotate_left
                ·simp only [Act.put, List.setIfInBounds_toArray, List.set_cons_zero, List.set_cons_succ, i64_w, i32_w]
                 rfl
                refine pure_ (i := 9) (N := some 89) (v := ?_) (a' := ?_) #[true, true, true, true, true, true, true, true, true, true, false, true, false, false, false] rfl rfl (any_of HT_.out (by kernel_rfl)) (fun _ _ _ h => h) (Or.inl ⟨by rfl, ?_⟩) ?_ ?_
                rotate_left
                ·intro w'
                 go_simp
                 with_reducible rfl
                rotate_left
                ·simp only [Act.put, List.setIfInBounds_toArray, List.set_cons_zero, List.set_cons_succ, i64_w, i32_w]
                 rfl
                refine pure_ (i := 10) (N := some 90) (v := ?_) (a' := ?_) #[true, true, true, true, true, true, true, true, true, true, true, true, false, false, false] rfl rfl (any_of HT_.out (by kernel_rfl)) (fun _ _ _ h => h) (Or.inl ⟨by rfl, ?_⟩) ?_ ?_
                rotate_left
                ·intro w'
                 go_simp
                 with_reducible rfl
                rotate_left
                ·simp only [Act.put, List.setIfInBounds_toArray, List.set_cons_zero, List.set_cons_succ, i64_w, i32_w]
                 rfl
                exact norm_ (by simp only [putAll, Act.put, List.setIfInBounds_toArray, List.set_cons_zero, List.set_cons_succ]) (hCont (.slice Ao70 y148.length co70, v154, gb157) _ ⟨hHeld, (by (with_reducible repeat (first | apply Kd.R_alloc | apply Kd.R_drewN | apply Kd.R_drew)); exact Kd.R_mono HO117.out (fun _ hk => ⟨hk.1.1, ⟨hk.1.2, hk.2⟩⟩)), (by (with_reducible repeat (first | apply Kd.R_alloc | apply Kd.R_drewN | apply Kd.R_drew)); exact Kd.R_mono HO122.out (fun _ hk => ⟨hk.1.1, ⟨hk.1.2, hk.2⟩⟩)), (by (with_reducible repeat (first | apply Kd.R_alloc | apply Kd.R_drewN | apply Kd.R_drew)); exact Kd.R_mono HO128.out (fun _ hk => ⟨hk.1.1, ⟨hk.1.2, hk.2⟩⟩)), (by (with_reducible repeat (first | apply Kd.R_alloc | apply Kd.R_drewN | apply Kd.R_drew)); exact Kd.R_mono HO133.out (fun _ hk => ⟨hk.1.1, ⟨hk.1.2, hk.2⟩⟩)), (by (with_reducible repeat (first | apply Kd.R_alloc | apply Kd.R_drewN | apply Kd.R_drew)); exact Kd.R_mono HO139.out (fun _ hk => ⟨hk.1.1, ⟨hk.1.2, hk.2⟩⟩)), (by (with_reducible repeat (first | apply Kd.R_alloc | apply Kd.R_drewN | apply Kd.R_drew)); exact Kd.R_mono HO144.out (fun _ hk => ⟨hk.1.1, ⟨hk.1.2, hk.2⟩⟩)), (by (with_reducible repeat (first | apply Kd.R_alloc | apply Kd.R_drewN | apply Kd.R_drew)); exact Kd.R_mono HO150.out (fun _ hk => ⟨hk.1.1.2, ⟨hk.1.2, hk.2⟩⟩)), (by (with_reducible repeat (first | apply Kd.R_alloc | apply Kd.R_drewN | apply Kd.R_drew)); exact Kd.R_mono HO155.out (fun _ hk => ⟨hk.1.1.2, ⟨hk.1.2, hk.2⟩⟩)), (by (with_reducible repeat (first | refine blk_drewN ?_ _ | refine blk_drew ?_ | refine blk_alloc ?_ _)); exact BK112.out), (by (with_reducible repeat (first | refine blk_drewN ?_ _ | refine blk_drew ?_ | refine blk_alloc ?_ _)); exact BK124.out), (by (with_reducible repeat (first | refine blk_drewN ?_ _ | refine blk_drew ?_ | refine blk_alloc ?_ _)); exact BK135.out), (by (with_reducible repeat (first | refine blk_drewN ?_ _ | refine blk_drew ?_ | refine blk_alloc ?_ _)); exact BK146.out), (by (with_reducible repeat (first | refine blk_drewN ?_ _ | refine blk_drew ?_ | refine blk_alloc ?_ _)); exact BK157.out), GW157.out, GE157.out, NB112_157.out, NB157_112.out, NB124_157.out, NB157_124.out, NB135_157.out, NB157_135.out, NB146_157.out, NB157_146.out, (by repeat (first | (with_reducible first | exact HB.out | apply below_alloc | apply pw_below_drewN | apply below_drew1 | refine below_set ?_ GE112.out | refine below_set ?_ GE124.out | refine below_set ?_ GE135.out | refine below_set ?_ GE146.out | refine below_set ?_ GE157.out) | exact HB.out))⟩)
              rintro ⟨v149, v154, gb157⟩ w72 ⟨hS_, h0_, h1_, h2_, h3_, h4_, h5_, h6_, h7_, h8_, h9_, h10_, h11_, h12_, h13_, h14_, h15_, h16_, h17_, h18_, h19_, h20_, h21_, h22_, h23_⟩
              have n0_ : Aside0 (Kd.R k30 30 w72 w.heap.size (fun k_ => some k_ ≠ (v127 : Value).ownBlock ∧ some k_ ≠ (v138 : Value).ownBlock ∧ some k_ ≠ (v149 : Value).ownBlock) (.slice Ao37 y115.length co37) y115) := ⟨h0_⟩
              have n1_ : Aside0 (Kd.R Kd.string 9 w72 w.heap.size (fun k_ => some k_ ≠ (.slice (some ad147) t131.length co54 : Value).ownBlock ∧ some k_ ≠ (v143 : Value).ownBlock ∧ some k_ ≠ (v154 : Value).ownBlock) (.slice (some ad136) t120.length co53) t120) := ⟨h1_⟩
              have n2_ : Aside0 (Kd.R k30 30 w72 w.heap.size (fun k_ => some k_ ≠ (.slice Ao37 y115.length co37 : Value).ownBlock ∧ some k_ ≠ (v138 : Value).ownBlock ∧ some k_ ≠ (v149 : Value).ownBlock) v127 y126) := ⟨h2_⟩
              have n3_ : Aside0 (Kd.R Kd.string 9 w72 w.heap.size (fun k_ => some k_ ≠ (.slice (some ad136) t120.length co53 : Value).ownBlock ∧ some k_ ≠ (v143 : Value).ownBlock ∧ some k_ ≠ (v154 : Value).ownBlock) (.slice (some ad147) t131.length co54) t131) := ⟨h3_⟩
              have n4_ : Aside0 (Kd.R k30 30 w72 w.heap.size (fun k_ => some k_ ≠ (.slice Ao37 y115.length co37 : Value).ownBlock ∧ some k_ ≠ (v127 : Value).ownBlock ∧ some k_ ≠ (v149 : Value).ownBlock) v138 y137) := ⟨h4_⟩
              have n5_ : Aside0 (Kd.R Kd.string 9 w72 w.heap.size (fun k_ => some k_ ≠ (.slice (some ad136) t120.length co53 : Value).ownBlock ∧ some k_ ≠ (.slice (some ad147) t131.length co54 : Value).ownBlock ∧ some k_ ≠ (v154 : Value).ownBlock) v143 t142) := ⟨h5_⟩
              have n6_ : Aside0 (Kd.R k30 30 w72 w.heap.size (fun k_ => some k_ ≠ (.slice Ao37 y115.length co37 : Value).ownBlock ∧ some k_ ≠ (v127 : Value).ownBlock ∧ some k_ ≠ (v138 : Value).ownBlock) v149 y148) := ⟨h6_⟩
              have n7_ : Aside0 (Kd.R Kd.string 9 w72 w.heap.size (fun k_ => some k_ ≠ (.slice (some ad136) t120.length co53 : Value).ownBlock ∧ some k_ ≠ (.slice (some ad147) t131.length co54 : Value).ownBlock ∧ some k_ ≠ (v143 : Value).ownBlock) v154 t153) := ⟨h7_⟩
              have n8_ : Aside0 (w72.heap[gb112]? = some (.cells #[.string a0_0, .int .i64 a0_1] 26 (0, 0))) := ⟨h8_⟩
              have n9_ : Aside0 (w72.heap[gb124]? = some (.cells #[.string t118, .int .i64 t119] 26 (0, 0))) := ⟨h9_⟩
              have n10_ : Aside0 (w72.heap[gb135]? = some (.cells #[.string t129, .int .i64 t130] 26 (0, 0))) := ⟨h10_⟩
              have n11_ : Aside0 (w72.heap[gb146]? = some (.cells #[.string t140, .int .i64 t141] 26 (0, 0))) := ⟨h11_⟩
              have n12_ : Aside0 (w72.heap[gb157]? = some (.cells #[.string (⟨#[]⟩ : ByteArray), .int .i64 0] 26 (0, 0))) := ⟨h12_⟩
              have n13_ : Aside0 (w.heap.size ≤ gb157) := ⟨h13_⟩
              have n14_ : Aside0 (w.heap.size ≤ gb157) := ⟨h14_⟩
              have n15_ : Aside0 (gb112 ≠ gb157) := ⟨h15_⟩
              have n16_ : Aside0 (gb157 ≠ gb112) := ⟨h16_⟩
              have n17_ : Aside0 (gb124 ≠ gb157) := ⟨h17_⟩
              have n18_ : Aside0 (gb157 ≠ gb124) := ⟨h18_⟩
              have n19_ : Aside0 (gb135 ≠ gb157) := ⟨h19_⟩
              have n20_ : Aside0 (gb157 ≠ gb135) := ⟨h20_⟩
              have n21_ : Aside0 (gb146 ≠ gb157) := ⟨h21_⟩
              have n22_ : Aside0 (gb157 ≠ gb146) := ⟨h22_⟩
              have n23_ : Aside0 (Below w.heap.size w w72) := ⟨h23_⟩
              clear HO117; clear HO122; clear HO128; clear HO133; clear HO139; clear HO144; clear BK112; clear BK124; clear BK135; clear BK146; clear HB; clear h0_ h1_ h2_ h3_ h4_ h5_ h6_ h7_ h8_ h9_ h10_ h11_ h12_ h13_ h14_ h15_ h16_ h17_ h18_ h19_ h20_ h21_ h22_ h23_; have HO117 := n0_; have HO122 := n1_; have HO128 := n2_; have HO133 := n3_; have HO139 := n4_; have HO144 := n5_; have HO150 := n6_; have HO155 := n7_; have BK112 := n8_; have BK124 := n9_; have BK135 := n10_; have BK146 := n11_; have BK157 := n12_; have GW157 := n13_; have GE157 := n14_; have NB112_157 := n15_; have NB157_112 := n16_; have NB124_157 := n17_; have NB157_124 := n18_; have NB135_157 := n19_; have NB157_135 := n20_; have NB146_157 := n21_; have NB157_146 := n22_; have HB := n23_; clear n0_ n1_ n2_ n3_ n4_ n5_ n6_ n7_ n8_ n9_ n10_ n11_ n12_ n13_ n14_ n15_ n16_ n17_ n18_ n19_ n20_ n21_ n22_ n23_
              have hHeld : w72.cell? ⟨gb135, 0, none⟩ = some (.string t129) ∧ w72.cell? ⟨gb135, 1, none⟩ = some (.int .i64 t130) ∧ w72.cell? ad147 = some (.string (rdOf ByteArray.empty t131 0)) := hS_
              refine norm_ (a' := ?_) ?_ ?_
              rotate_left
              ·simp only [putAll, Act.put, List.setIfInBounds_toArray, List.set_cons_zero, List.set_cons_succ]
               rfl
              refine one_ (i := 12) (N := none) #[true, true, true, true, true, true, true, true, true, true, true, true, true, false, false] rfl rfl (one_of HT_.out (by kernel_rfl)) (by decide) (fun K hK => ?_)
              have hs73 : w72.cell? ⟨gb157, 0, none⟩ = some (.string (⟨#[]⟩ : ByteArray)) := (blk_cell BK157.out 0).trans rfl
              have hfs73 := blk_frozen BK157.out 0
              have hns73_0 := NB112_157.out
              have hns73_1 := NB124_157.out
              have hns73_2 := NB135_157.out
              have hns73_3 := NB146_157.out
              have hms73_0 := NB157_112.out
              have hms73_1 := NB157_124.out
              have hms73_2 := NB157_135.out
              have hms73_3 := NB157_146.out
              have hs74 : w72.cell? ⟨gb157, 1, none⟩ = some (.int .i64 0) := (blk_cell BK157.out 1).trans rfl
              have hfs74 := blk_frozen BK157.out 1
              have hns74_0 := NB112_157.out
              have hns74_1 := NB124_157.out
              have hns74_2 := NB135_157.out
              have hns74_3 := NB146_157.out
              have hms74_0 := NB157_112.out
              have hms74_1 := NB157_124.out
              have hms74_2 := NB157_135.out
              have hms74_3 := NB157_146.out
              refine skip_ (w1 := ?_) (by rfl) rfl ?_ ?_
              rotate_left
              ·go_simp
               rfl
              refine hK.out _ _ ⟨((cell_far (p := ⟨gb157, _, none⟩) NB135_157.out _).trans (((cell_far (p := ⟨gb157, _, none⟩) NB135_157.out _).trans (hHeld.1)))), ((cell_far (p := ⟨gb157, _, none⟩) NB135_157.out _).trans (((cell_far (p := ⟨gb157, _, none⟩) NB135_157.out _).trans (hHeld.2.1)))), ((cell_far (p := ⟨gb157, _, none⟩) (by first | exact Kd.own_blk (Kd.R_ne HO133.out BK157.out (by decide)) | (rw [Go.Proofs.YtkfmjkiefckgoaaDoorW.PrintWords.add_block]; exact Kd.own_blk (Kd.R_ne HO133.out BK157.out (by decide))) | (show (Addr.add _ _).block ≠ _; rw [Go.Proofs.YtkfmjkiefckgoaaDoorW.PrintWords.add_block]; exact Kd.own_blk (Kd.R_ne HO133.out BK157.out (by decide))) | (dsimp only; exact Kd.own_blk (Kd.R_ne HO133.out BK157.out (by decide)))) _).trans (((cell_far (p := ⟨gb157, _, none⟩) (by first | exact Kd.own_blk (Kd.R_ne HO133.out BK157.out (by decide)) | (rw [Go.Proofs.YtkfmjkiefckgoaaDoorW.PrintWords.add_block]; exact Kd.own_blk (Kd.R_ne HO133.out BK157.out (by decide))) | (show (Addr.add _ _).block ≠ _; rw [Go.Proofs.YtkfmjkiefckgoaaDoorW.PrintWords.add_block]; exact Kd.own_blk (Kd.R_ne HO133.out BK157.out (by decide))) | (dsimp only; exact Kd.own_blk (Kd.R_ne HO133.out BK157.out (by decide)))) _).trans (hHeld.2.2))))⟩ (fun hHeld => ?_)
              clear hK K
              refine pure_ (i := 13) (N := some 15) (v := ?_) (a' := ?_) #[true, true, true, true, true, true, true, true, true, true, true, true, true, true, false] rfl rfl (any_of HT_.out (by kernel_rfl)) (fun _ _ _ h => h) (Or.inl ⟨by rfl, ?_⟩) ?_ ?_
              rotate_left
              ·intro w'
               go_simp
               with_reducible rfl
              rotate_left
              ·simp only [Act.put, List.setIfInBounds_toArray, List.set_cons_zero, List.set_cons_succ, i64_w, i32_w]
               rfl
              refine pure_ (i := 14) (N := some 16) (v := ?_) (a' := ?_) #[true, true, true, true, true, true, true, true, true, true, true, true, true, true, true] rfl rfl (any_of HT_.out (by kernel_rfl)) (fun _ _ _ h => h) (Or.inl ⟨by rfl, ?_⟩) ?_ ?_
              rotate_left
              ·intro w'
               go_simp
               with_reducible rfl
              rotate_left
              ·simp only [Act.put, List.setIfInBounds_toArray, List.set_cons_zero, List.set_cons_succ, i64_w, i32_w]
               rfl
              refine done_ (done_of HT_.out (by kernel_rfl)) ?_
              have hnb75 := NB146_112.out
              have hnc75 := NB112_146.out
              have hnb76 := NB146_124.out
              have hnc76 := NB124_146.out
              have hnb77 := NB146_135.out
              have hnc77 := NB135_146.out
              have hnb78 := NB146_157.out
              have hnc78 := NB157_146.out
              have hcz79_0 : w72.cell? ⟨gb146, 0, none⟩ = some (.string t140) := (blk_cell BK146.out 0).trans rfl
              have hcz79_1 : w72.cell? ⟨gb146, 1, none⟩ = some (.int .i64 t141) := (blk_cell BK146.out 1).trans rfl
              have hfz79_0 := blk_frozen BK146.out 0
              have hfz79_1 := blk_frozen BK146.out 1
              have hnb80 := NB112_135.out
              have hnc80 := NB135_112.out
              have hnb81 := NB112_157.out
              have hnc81 := NB157_112.out
              have hcz82_0 : w72.cell? ⟨gb112, 0, none⟩ = some (.string a0_0) := (blk_cell BK112.out 0).trans rfl
              have hcz82_1 : w72.cell? ⟨gb112, 1, none⟩ = some (.int .i64 a0_1) := (blk_cell BK112.out 1).trans rfl
              have hfz82_0 := blk_frozen BK112.out 0
              have hfz82_1 := blk_frozen BK112.out 1
              have hnb83 := NB157_124.out
              have hnc83 := NB124_157.out
              have hnb84 := NB157_135.out
              have hnc84 := NB135_157.out
              have hcz85_0 : w72.cell? ⟨gb157, 0, none⟩ = some (.string (⟨#[]⟩ : ByteArray)) := (blk_cell BK157.out 0).trans rfl
              have hcz85_1 : w72.cell? ⟨gb157, 1, none⟩ = some (.int .i64 0) := (blk_cell BK157.out 1).trans rfl
              have hfz85_0 := blk_frozen BK157.out 0
              have hfz85_1 := blk_frozen BK157.out 1
              try go_wp2
              go_ret
              exact ⟨by first | rfl | (simp [errW_none, errW_some] <;> rfl) | (simp only [← hji22]; first | rfl | (simp [errW_none, errW_some] <;> rfl)) | (simp [*, errW_none, errW_some] <;> rfl), by repeat (first | (with_reducible first | exact HB.out | apply below_alloc | apply pw_below_drewN | apply below_drew1 | refine below_set ?_ GE112.out | refine below_set ?_ GE124.out | refine below_set ?_ GE135.out | refine below_set ?_ GE146.out | refine below_set ?_ GE157.out) | exact HB.out)⟩
             ·rw [if_neg c33] at H
              exact absurd ((Option.some.inj H).trans hr_) (by decide)
            ·replace c32 := Bool.eq_false_iff.mpr c32
             subst c32
             have H1 : (none) = some r := by rw [if_neg (show ¬ (false = true) by decide)] at H; exact H
             clear H; have H := H1; clear H1
             exact absurd H (by simp)
           ·rw [if_neg c30] at H
            exact absurd H (by simp)
          ·replace c29 := Bool.eq_false_iff.mpr c29
           subst c29
           have H1 : (none) = some r := by rw [if_neg (show ¬ (false = true) by decide)] at H; exact H
           clear H; have H := H1; clear H1
           exact absurd H (by simp)
         ·rw [if_neg c27] at H
          exact absurd H (by simp)
        ·rw [if_neg c26] at H
         exact absurd H (by simp)
       ·rw [if_neg c25] at H
        exact absurd H (by simp)
      ·replace c24 := Bool.eq_false_iff.mpr c24
       subst c24
       have H1 : (none) = some r := by rw [if_neg (show ¬ (false = true) by decide)] at H; exact H
       clear H; have H := H1; clear H1
       exact absurd H (by simp)
     ·replace c20 := Bool.eq_false_iff.mpr c20
      subst c20
      have H1 : (none) = some r := by rw [if_neg (show ¬ (false = true) by decide)] at H; exact H
      clear H; have H := H1; clear H1
      exact absurd H (by simp)
 ·replace c4 := Bool.eq_false_iff.mpr c4
  subst c4
  have H1 : (some true) = some r := by rw [if_neg (show ¬ (false = true) by decide)] at H; exact H
  clear H; have H := H1; clear H1
  obtain rfl := Option.some.inj H
  go_enter Tryd.func4, Tryd.ntmps4
  go_wp2_with (first | ((with_reducible refine gate_dst (N := 2) rfl ?_); (try (refine gate_guard (by rfl) ?_; dsimp only)); refine box_event ?hg (N := 2) ?hd (cs := #[.string a0_0, .int .i64 a0_1]) (t := 26) ?hr ?_; (case hd => rfl); (case hg => rfl); (case hr => first | (go_simp; done) | (go_simp; rfl)); intro gb112 hg w135 hbox hb; have n0_ := Aside0.mk (below_step (by repeat (first | (with_reducible first | exact HB.out | apply below_alloc | apply pw_below_drewN | apply below_drew1) | exact HB.out)) hb); have n1_ := Aside0.mk (hbox); have n2_ := Aside0.mk ((by rw [hg]; exact (below_size (by repeat (first | (with_reducible first | exact HB.out | apply below_alloc | apply pw_below_drewN | apply below_drew1) | exact HB.out))) : w.heap.size ≤ gb112)); have n3_ := Aside0.mk ((by rw [hg]; exact (below_size (by repeat (first | (with_reducible first | exact HB.out | apply below_alloc | apply pw_below_drewN | apply below_drew1) | exact HB.out))) : w.heap.size ≤ gb112)); clear HB; have HB := n0_; have BK112 := n1_; have GW112 := n2_; have GE112 := n3_; clear n0_ n1_ n2_ n3_; clear hb hbox hg; have hcz136_0 : w135.cell? ⟨gb112, 0, none⟩ = some (.string a0_0) := (blk_cell BK112.out 0).trans rfl; have hcz136_1 : w135.cell? ⟨gb112, 1, none⟩ = some (.int .i64 a0_1) := (blk_cell BK112.out 1).trans rfl; have hfz136_0 := blk_frozen BK112.out 0; have hfz136_1 := blk_frozen BK112.out 1) | ((with_reducible refine gate_callee (f := 9) rfl ?_); refine goesL_ (some 18) rfl rfl Tryd.func9 (by kernel_rfl) rfl #[.agg #[.string a0_0, .int .i64 a0_1]] rfl (by (try simp only [List.map_toArray, List.map_cons, List.map_nil]); first | done | rfl | (simp only [List.length_drop, List.length_take]; rfl) | (simp only [Int.toNat_natCast, ByteArray.extract_zero_size]; rfl)) ?_; (with_reducible refine (laws_zzFits2.calls a0_0 a0_1 false _ A3.out).mono ?_); rintro e w137 ⟨rfl, hb⟩; refine ⟨_, rfl, ?_⟩; have n0_ := Aside0.mk (blk_below (g := gb112) (o := .cells #[.string a0_0, .int .i64 a0_1] 26 (0, 0)) (by (with_reducible repeat (first | refine blk_drewN ?_ _ | refine blk_drew ?_ | refine blk_alloc ?_ _)); exact BK112.out) hb); have n1_ := Aside0.mk (below_step (by repeat (first | (with_reducible first | exact HB.out | apply below_alloc | apply pw_below_drewN | apply below_drew1 | refine below_set ?_ GE112.out) | exact HB.out)) hb); clear BK112; clear HB; have BK112 := n0_; have HB := n1_; clear n0_ n1_; (try clear hb); (try clear hb2); (try clear hk); (try clear hi)))
  go_ret
  exact ⟨by first | rfl | (simp [errW_none, errW_some] <;> rfl) | (simp [*, errW_none, errW_some] <;> rfl), by repeat (first | (with_reducible first | exact HB.out | apply below_alloc | apply pw_below_drewN | apply below_drew1 | refine below_set ?_ GE112.out) | exact HB.out)⟩
/-- THE ONE PURE STATEMENT of laws_FnTakenBack: yours. -/
def laws_FnTakenBack.Pure : Prop := ∀ (a0_0 : ByteArray) (a0_1 : Int) (a1 : Int), a0_0.size ≤ maxLen → (Lit.int .i64 a0_1).wf = true → (Lit.int .i64 a1).wf = true → ∃ k, laws_FnTakenBack.f k a0_0 a0_1 a1 = some true
theorem laws_FnTakenBack.walk (P : laws_FnTakenBack.Pure) (a0_0 : ByteArray) (a0_1 : Int) (a1 : Int) (w : World) (hg0_0 : a0_0.size ≤ maxLen) (hg0_1 : (Lit.int .i64 a0_1).wf = true) (hg1 : (Lit.int .i64 a1).wf = true) :
  Calls Tryd.prog 4 #[.agg #[.string a0_0, .int .i64 a0_1], .int .i64 a1] w fun e w' => e = .returned (.bool true) ∧ Below w.heap.size w w' := by
 obtain ⟨k, h⟩ := P a0_0 a0_1 a1 hg0_0 hg0_1 hg1
 refine (laws_FnTakenBack.calls k a0_0 a0_1 a1 true rfl w h).mono ?_
 rintro e w' ⟨rfl, hd⟩
 exact ⟨rfl, hd⟩
end Go.Proofs.YtkfmjkiefckgoaaDoor.PFnTakenBack
