/- Printed by a program of this seat (xprint) out of the translation: Go functions as plain functions, and the walks that show them; no condition. -/
import Derived.Test.YtdinikcfhpfojaaDoorPFnReplaceBackx0
import Derived.Test.YtdinikcfhpfojaaDoorHAfterFnReplaceBack
import Derived.Test.YtdinikcfhpfojaaDoorPFnReplaceBackx1
import Derived.Test.YtdinikcfhpfojaaDoorPFnReplaceBackx2
namespace Go.Proofs.YtdinikcfhpfojaaDoor.PFnReplaceBack
open Go.RowKit Go.Proofs.YtdinikcfhpfojaaDoor.H Go.Proofs.YtdinikcfhpfojaaDoor.R Go.Proofs.YtdinikcfhpfojaaDoorW.PrintWords Go.Proofs.YtdinikcfhpfojaaDoorW.PrintLast Go.Proofs.YtdinikcfhpfojaaDoorW.PrintMore
attribute [local go_sem] max2_int min2_int max_two min_two max_three min_three max_four min_four   -- for this text's walks alone
set_option linter.unusedVariables false
set_option linter.unusedSimpArgs false

attribute [local go_sem high] eqA23
/-! ### laws_FnReplaceBack: function 4 -/
def laws_FnReplaceBack.j0 : Nat → Int → Bool → ByteArray → Int → Option (Bool)
  | 0, _, _, _, _ => none
  | k + 1, x1, x39, x107000, x107001 => if x39 = true then (some true) else ((laws_after9.f x107000 x107001 (([(⟨8, (⟨#[]⟩ : ByteArray), wrap64 (x1), false, false⟩ : S29)] : List (S29)))).bind fun bt113 => (if 0 ≤ x107001 then (if x107001 < (x107000.size : Int) then ((laws_after9.f x107000 x107001 (([(⟨8, (⟨#[]⟩ : ByteArray), wrap64 (x1), false, false⟩ : S29), (⟨8, (⟨#[]⟩ : ByteArray), wrap64 (bt x107000 x107001), false, false⟩ : S29)] : List (S29)))).bind fun bt120 => (if bt113.2.2 = true then (if bt120.2.2 = true then (if x107001 ≤ (x107000.size : Int) then ((some (([x1] : List Int) : List Int)).bind fun y124 => (if (x107000.extract 0 (x107001 : Int).toNat).size + (strOfNums y124).size ≤ 9223372036854775807 then (if 0 ≤ (wrap64 (x107001 + 1)) then (if (wrap64 (x107001 + 1)) ≤ (x107000.size : Int) then (if ((x107000.extract 0 (x107001 : Int).toNat) ++ (strOfNums y124)).size + (x107000.extract ((wrap64 (x107001 + 1)) : Int).toNat x107000.size).size ≤ 9223372036854775807 then (if (bt113.1.toList == ((((x107000.extract 0 (x107001 : Int).toNat) ++ (strOfNums y124)) ++ (x107000.extract ((wrap64 (x107001 + 1)) : Int).toNat x107000.size)).toList) && (bt113.2.1 == x107001)) = true then (some (bt120.1.toList == x107000.toList && (bt120.2.1 == x107001))) else (some false)) else (none)) else (none)) else (none)) else (none))) else (none)) else (some false)) else (some false))) else (none)) else (none)))
def laws_FnReplaceBack.f (k : Nat) (a0_0 : ByteArray) (a0_1 : Int) (a1 : Int) : Option (Bool) := (laws_zzFits11.f a0_0 a0_1).bind fun t107 => (if t107 = true then ((laws_short9.f k a0_0 a0_1).bind fun t108 => (if t108 = true then (if a0_1 = (a0_0.size : Int) then (laws_FnReplaceBack.j0 k a1 true a0_0 a0_1) else (if a1 = 0 then (laws_FnReplaceBack.j0 k a1 true a0_0 a0_1) else (if a1 ≥ 128 then (laws_FnReplaceBack.j0 k a1 true a0_0 a0_1) else (if 0 ≤ a0_1 then (if a0_1 < (a0_0.size : Int) then (laws_FnReplaceBack.j0 k a1 ((bt a0_0 a0_1) == 0) a0_0 a0_1) else (none)) else (none))))) else (laws_FnReplaceBack.j0 k a1 true a0_0 a0_1))) else (some true))
theorem laws_FnReplaceBack.mono_l : ∀ k, (∀ y0 y1 y2 y3, LeO (laws_FnReplaceBack.j0 k y0 y1 y2 y3) (laws_FnReplaceBack.j0 (k + 1) y0 y1 y2 y3))
  | 0 => fun _ _ _ _ r h => by simp [laws_FnReplaceBack.j0] at h
  | k + 1 => by
    have ih0 := laws_FnReplaceBack.mono_l k
    · intro y0 y1 y2 y3
      unfold laws_FnReplaceBack.j0
      repeat' first
      | (with_reducible exact ih0 _ _ _ _)
      | (with_reducible exact laws_short9.mono _ _ _)
      | (with_reducible exact LeO.refl _)
      | (with_reducible exact LeO.none _)
      | (with_reducible refine LeO.ite ?_ ?_)
      | (with_reducible refine LeO.bind ?_ (fun _ => ?_))
      | exact ih0 _ _ _ _
      | exact laws_short9.mono _ _ _
      | exact LeO.none _
      | refine LeO.ite ?_ ?_
      | refine LeO.bind ?_ (fun _ => ?_)
theorem laws_FnReplaceBack.mono : ∀ a0 a1 a2 k, LeO (laws_FnReplaceBack.f k a0 a1 a2) (laws_FnReplaceBack.f (k + 1) a0 a1 a2) := by
  intro a0 a1 a2 k
  have ih0 := laws_FnReplaceBack.mono_l k
  unfold laws_FnReplaceBack.f
  repeat' first
      | (with_reducible exact ih0 _ _ _ _)
      | (with_reducible exact laws_short9.mono _ _ _)
      | (with_reducible exact LeO.refl _)
      | (with_reducible exact LeO.none _)
      | (with_reducible refine LeO.ite ?_ ?_)
      | (with_reducible refine LeO.bind ?_ (fun _ => ?_))
      | exact ih0 _ _ _ _
      | exact laws_short9.mono _ _ _
      | exact LeO.none _
      | refine LeO.ite ?_ ?_
      | refine LeO.bind ?_ (fun _ => ?_)
def laws_FnReplaceBack.T7 : Bool × List (List Nat × List Nat) := (true, [([], []), ([], []), ([], []), ([2], [2]), ([], []), ([4], [4]), ([3, 5], [3, 5]), ([6], [6]), ([7], [7]), ([1, 8], [1, 8]), ([0, 9], [0, 9]), ([10], [10]), ([11], [11]), ([11], [11]), ([], []), ([14, 12, 10, 0, 1, 2, 3, 4, 5, 6, 7, 8, 9, 10, 11, 12, 14], [12, 14]), ([13, 15, 0, 1, 2, 3, 4, 5, 6, 7, 8, 9, 10, 11, 12, 13, 14, 15], [13])])
def laws_FnReplaceBack.B7 : List Nat := [0, 0, 0, 4, 0, 16, 60, 124, 252, 510, 1023, 2047, 4095, 4095, 0, 24575, 65535]
theorem laws_FnReplaceBack.tab7 : rtab .any (opsOf Tryd.f4 7) = laws_FnReplaceBack.T7 := by kernel_rfl
theorem laws_FnReplaceBack.bits7 : waitsOk laws_FnReplaceBack.T7.2 laws_FnReplaceBack.B7 = true := by kernel_rfl
def laws_FnReplaceBack.T8 : Bool × List (List Nat × List Nat) := (true, [([], []), ([0], [0]), ([1], [1]), ([1, 2], [1, 2]), ([3, 1], [3]), ([4], [4]), ([4], [4]), ([6, 4], [4, 6]), ([4], [4]), ([8, 4], [4, 8]), ([7, 9, 4], [4, 7, 9]), ([4], [4]), ([11, 4], [4, 11]), ([12, 4], [4, 12]), ([10, 13, 4], [4, 10, 13]), ([4], [4]), ([15, 4], [4, 15]), ([4], [4]), ([17, 4], [4, 17]), ([18, 4], [4, 18]), ([16, 19, 4], [4, 16, 19]), ([14, 20, 4], [4, 14, 20]), ([4], [4]), ([22, 4], [4, 22]), ([21, 23, 4], [4, 21, 23]), ([5, 24, 4], [4, 5, 24]), ([4, 25], [4, 25]), ([26, 4], [26]), ([27], [27]), ([27], [27]), ([28, 29, 27], [27, 28, 29]), ([27, 30], [27, 30]), ([31, 27, 0, 1, 2, 3, 4, 5, 6, 7, 8, 9, 10, 11, 12, 13, 14, 15, 16, 17, 18, 19, 20, 21, 22, 23, 24, 25, 26, 27, 28, 29, 30, 31], [31])])
def laws_FnReplaceBack.B8 : List Nat := [0, 1, 3, 7, 15, 31, 31, 95, 31, 287, 991, 31, 2079, 6175, 16351, 31, 32799, 31, 131103, 393247, 1015839, 2097119, 31, 4194335, 16777183, 33554431, 67108863, 134217727, 268435455, 268435455, 1073741823, 2147483647, 4294967295]
theorem laws_FnReplaceBack.tab8 : rtab .any (opsOf Tryd.f4 8) = laws_FnReplaceBack.T8 := by kernel_rfl
theorem laws_FnReplaceBack.bits8 : waitsOk laws_FnReplaceBack.T8.2 laws_FnReplaceBack.B8 = true := by kernel_rfl
set_option maxHeartbeats 8000000 in
set_option maxRecDepth 100000 in
theorem laws_FnReplaceBack.calls (k : Nat) (a0_0 : ByteArray) (a0_1 : Int) (a1 : Int) (r : Bool) (hr_ : r = true) (w : World) (h : laws_FnReplaceBack.f k a0_0 a0_1 a1 = some r) :
    Calls Tryd.prog 4 #[.agg #[.string a0_0, .int .i64 a0_1], .int .u8 a1] w fun e w' => e = .returned (.bool r) ∧ Below w.heap.size w w' := by
  have hu23 := Tryd.underlying23
  have hu29 := Tryd.underlying29
  have HB := Aside0.mk (Below.refl w.heap.size w)
  have H : ((laws_zzFits11.f a0_0 a0_1).bind fun t107 => (if t107 = true then ((laws_short9.f k a0_0 a0_1).bind fun t108 => (if t108 = true then (if a0_1 = (a0_0.size : Int) then (laws_FnReplaceBack.j0 k a1 true a0_0 a0_1) else (if a1 = 0 then (laws_FnReplaceBack.j0 k a1 true a0_0 a0_1) else (if a1 ≥ 128 then (laws_FnReplaceBack.j0 k a1 true a0_0 a0_1) else (if 0 ≤ a0_1 then (if a0_1 < (a0_0.size : Int) then (laws_FnReplaceBack.j0 k a1 ((bt a0_0 a0_1) == 0) a0_0 a0_1) else (none)) else (none))))) else (laws_FnReplaceBack.j0 k a1 true a0_0 a0_1))) else (some true))) = some r := h
  clear h
  replace H := Option.bind_eq_some_iff.mp H
  obtain ⟨t107, A30, H⟩ := H
  replace H : (if t107 = true then ((laws_short9.f k a0_0 a0_1).bind fun t108 => (if t108 = true then (if a0_1 = (a0_0.size : Int) then (laws_FnReplaceBack.j0 k a1 true a0_0 a0_1) else (if a1 = 0 then (laws_FnReplaceBack.j0 k a1 true a0_0 a0_1) else (if a1 ≥ 128 then (laws_FnReplaceBack.j0 k a1 true a0_0 a0_1) else (if 0 ≤ a0_1 then (if a0_1 < (a0_0.size : Int) then (laws_FnReplaceBack.j0 k a1 ((bt a0_0 a0_1) == 0) a0_0 a0_1) else (none)) else (none))))) else (laws_FnReplaceBack.j0 k a1 true a0_0 a0_1))) else (some true)) = some r := H
  have A3 := Aside0.mk A30
  clear A30
  by_cases c4 : t107 = true
  · subst c4
    have H1 : ((laws_short9.f k a0_0 a0_1).bind fun t108 => (if t108 = true then (if a0_1 = (a0_0.size : Int) then (laws_FnReplaceBack.j0 k a1 true a0_0 a0_1) else (if a1 = 0 then (laws_FnReplaceBack.j0 k a1 true a0_0 a0_1) else (if a1 ≥ 128 then (laws_FnReplaceBack.j0 k a1 true a0_0 a0_1) else (if 0 ≤ a0_1 then (if a0_1 < (a0_0.size : Int) then (laws_FnReplaceBack.j0 k a1 ((bt a0_0 a0_1) == 0) a0_0 a0_1) else (none)) else (none))))) else (laws_FnReplaceBack.j0 k a1 true a0_0 a0_1))) = some r := by rw [if_pos rfl] at H; exact H
    clear H
    have H := H1
    clear H1
    have HC5 := Aside0.mk H
    clear H
    go_enter Tryd.func4, Tryd.ntmps4
    go_upto_region 3 with (first | ((with_reducible refine gate_dst (N := 2) rfl ?_); (try (refine gate_guard (by rfl) ?_; dsimp only)); refine box_event ?hg (N := 2) ?hd (cs := #[.string a0_0, .int .i64 a0_1]) (t := 23) ?hr ?_; (case hd => rfl); (case hg => rfl); (case hr => first | (go_simp; done) | (go_simp; rfl)); intro gb106 hg w6 hbox hb; have n0_ := Aside0.mk (below_step (by repeat (first | (with_reducible first | exact HB.out | apply below_alloc | apply pw_below_drewN | apply below_drew1) | exact HB.out)) hb); have n1_ := Aside0.mk (hbox); have n2_ := Aside0.mk ((by rw [hg]; exact (below_size (by repeat (first | (with_reducible first | exact HB.out | apply below_alloc | apply pw_below_drewN | apply below_drew1) | exact HB.out))) : w.heap.size ≤ gb106)); have n3_ := Aside0.mk ((by rw [hg]; exact (below_size (by repeat (first | (with_reducible first | exact HB.out | apply below_alloc | apply pw_below_drewN | apply below_drew1) | exact HB.out))) : w.heap.size ≤ gb106)); clear HB; have HB := n0_; have BK106 := n1_; have GW106 := n2_; have GE106 := n3_; clear n0_ n1_ n2_ n3_; clear hb hbox hg; have hcz7_0 : w6.cell? ⟨gb106, 0, none⟩ = some (.string a0_0) := (blk_cell BK106.out 0).trans rfl; have hcz7_1 : w6.cell? ⟨gb106, 1, none⟩ = some (.int .i64 a0_1) := (blk_cell BK106.out 1).trans rfl; have hfz7_0 := blk_frozen BK106.out 0; have hfz7_1 := blk_frozen BK106.out 1) | ((with_reducible refine gate_callee (f := 13) rfl ?_); refine goesL_ (some 11) rfl rfl Tryd.func13 (by kernel_rfl) rfl #[.agg #[.string a0_0, .int .i64 a0_1]] rfl (by (try simp only [List.map_toArray, List.map_cons, List.map_nil]); first | done | rfl | (simp only [List.length_drop, List.length_take]; rfl) | (simp only [Int.toNat_natCast, ByteArray.extract_zero_size]; rfl)) ?_; (with_reducible refine (laws_zzFits11.calls a0_0 a0_1 true _ A3.out).mono ?_); rintro e w8 ⟨rfl, hb⟩; refine ⟨_, rfl, ?_⟩; have n0_ := Aside0.mk (blk_below (g := gb106) (o := .cells #[.string a0_0, .int .i64 a0_1] 23 (0, 0)) (by (with_reducible repeat (first | refine blk_drewN ?_ _ | refine blk_drew ?_ | refine blk_alloc ?_ _)); exact BK106.out) hb); have n1_ := Aside0.mk (below_step (by repeat (first | (with_reducible first | exact HB.out | apply below_alloc | apply pw_below_drewN | apply below_drew1 | refine below_set ?_ GE106.out) | exact HB.out)) hb); clear BK106; clear HB; have BK106 := n0_; have HB := n1_; clear n0_ n1_; (try clear hb); (try clear hb2); (try clear hk); (try clear hi)))
    (try simp only [Act.put, List.setIfInBounds_toArray, List.set_cons_zero, List.set_cons_succ])
    go_cut [39] (fun v39 wc => ∃ (kq : Nat) (x39_4 : Bool), v39 = .bool x39_4 ∧ Aside0 (laws_FnReplaceBack.j0 kq a1 x39_4 a0_0 a0_1 = some r) ∧ Aside0 (kq ≤ k) ∧ Aside0 (wc.heap[gb106]? = some (.cells #[.string a0_0, .int .i64 a0_1] 23 (0, 0))) ∧ Aside0 (Below w.heap.size w wc))
    case first =>
      have H := HC5.out
      clear HC5
      replace H := Option.bind_eq_some_iff.mp H
      obtain ⟨t108, A90, H⟩ := H
      replace H : (if t108 = true then (if a0_1 = (a0_0.size : Int) then (laws_FnReplaceBack.j0 k a1 true a0_0 a0_1) else (if a1 = 0 then (laws_FnReplaceBack.j0 k a1 true a0_0 a0_1) else (if a1 ≥ 128 then (laws_FnReplaceBack.j0 k a1 true a0_0 a0_1) else (if 0 ≤ a0_1 then (if a0_1 < (a0_0.size : Int) then (laws_FnReplaceBack.j0 k a1 ((bt a0_0 a0_1) == 0) a0_0 a0_1) else (none)) else (none))))) else (laws_FnReplaceBack.j0 k a1 true a0_0 a0_1)) = some r := H
      have A9 := Aside0.mk A90
      clear A90
      by_cases c10 : t108 = true
      · subst c10
        have H1 : (if a0_1 = (a0_0.size : Int) then (laws_FnReplaceBack.j0 k a1 true a0_0 a0_1) else (if a1 = 0 then (laws_FnReplaceBack.j0 k a1 true a0_0 a0_1) else (if a1 ≥ 128 then (laws_FnReplaceBack.j0 k a1 true a0_0 a0_1) else (if 0 ≤ a0_1 then (if a0_1 < (a0_0.size : Int) then (laws_FnReplaceBack.j0 k a1 ((bt a0_0 a0_1) == 0) a0_0 a0_1) else (none)) else (none))))) = some r := by rw [if_pos rfl] at H; exact H
        clear H
        have H := H1
        clear H1
        by_cases c11 : a0_1 = (a0_0.size : Int)
        · rw [if_pos c11] at H
          have c11b0 : (a0_1 == (a0_0.size : Int)) = true := beq_iff_eq.mpr c11
          have c11b1 : (a0_1 != (a0_0.size : Int)) = false := bne_eq_false_iff_eq.mpr c11
          clear c11
          (first | rw [c11b0] | (simp only [i64_w, i32_w]; rw [c11b0]) | skip)
          have H' := Aside0.mk H
          clear H
          have hcz12_0 : w8.cell? ⟨gb106, 0, none⟩ = some (.string a0_0) := (blk_cell BK106.out 0).trans rfl
          have hcz12_1 : w8.cell? ⟨gb106, 1, none⟩ = some (.int .i64 a0_1) := (blk_cell BK106.out 1).trans rfl
          have hfz12_0 := blk_frozen BK106.out 0
          have hfz12_1 := blk_frozen BK106.out 1
          go_wp2_with (first | ((with_reducible refine gate_callee (f := 14) rfl ?_); refine goesL_ (some 14) rfl rfl Tryd.func14 (by kernel_rfl) rfl #[.agg #[.string a0_0, .int .i64 a0_1]] rfl (by (try simp only [List.map_toArray, List.map_cons, List.map_nil]); first | done | rfl | (simp only [List.length_drop, List.length_take]; rfl) | (simp only [Int.toNat_natCast, ByteArray.extract_zero_size]; rfl)) ?_; (with_reducible refine (laws_short9.calls k a0_0 a0_1 true _ A9.out).mono ?_); rintro e w13 ⟨rfl, hb⟩; refine ⟨_, rfl, ?_⟩; have n0_ := Aside0.mk (blk_below (g := gb106) (o := .cells #[.string a0_0, .int .i64 a0_1] 23 (0, 0)) (by (with_reducible repeat (first | refine blk_drewN ?_ _ | refine blk_drew ?_ | refine blk_alloc ?_ _)); exact BK106.out) hb); have n1_ := Aside0.mk (below_step (by repeat (first | (with_reducible first | exact HB.out | apply below_alloc | apply pw_below_drewN | apply below_drew1 | refine below_set ?_ GE106.out) | exact HB.out)) hb); clear BK106; clear HB; have BK106 := n0_; have HB := n1_; clear n0_ n1_; (try clear hb); (try clear hb2); (try clear hk); (try clear hi); have hcz14_0 : w13.cell? ⟨gb106, 0, none⟩ = some (.string a0_0) := (blk_cell BK106.out 0).trans rfl; have hcz14_1 : w13.cell? ⟨gb106, 1, none⟩ = some (.int .i64 a0_1) := (blk_cell BK106.out 1).trans rfl; have hfz14_0 := blk_frozen BK106.out 0; have hfz14_1 := blk_frozen BK106.out 1))
          go_meet
          case rel => exact ⟨_, (true), (by first | rfl | (simp; done) | (simp [*]; done)), H', ⟨by first | omega | exact Nat.le_refl _⟩, ⟨by (with_reducible repeat (first | refine blk_drewN ?_ _ | refine blk_drew ?_ | refine blk_alloc ?_ _)); exact BK106.out⟩, ⟨by repeat (first | (with_reducible first | exact HB.out | apply below_alloc | apply pw_below_drewN | apply below_drew1 | refine below_set ?_ GE106.out) | exact HB.out)⟩⟩
        · rw [if_neg c11] at H
          have c11b0 : (a0_1 == (a0_0.size : Int)) = false := beq_eq_false_iff_ne.mpr c11
          have c11b1 : (a0_1 != (a0_0.size : Int)) = true := bne_iff_ne.mpr c11
          (first | rw [c11b0] | (simp only [i64_w, i32_w]; rw [c11b0]) | skip)
          by_cases c15 : a1 = 0
          · rw [if_pos c15] at H
            have c15b0 : (a1 == 0) = true := beq_iff_eq.mpr c15
            have c15b1 : (a1 != 0) = false := bne_eq_false_iff_eq.mpr c15
            clear c15
            have H' := Aside0.mk H
            clear H
            have hcz16_0 : w8.cell? ⟨gb106, 0, none⟩ = some (.string a0_0) := (blk_cell BK106.out 0).trans rfl
            have hcz16_1 : w8.cell? ⟨gb106, 1, none⟩ = some (.int .i64 a0_1) := (blk_cell BK106.out 1).trans rfl
            have hfz16_0 := blk_frozen BK106.out 0
            have hfz16_1 := blk_frozen BK106.out 1
            go_wp2_with (first | ((with_reducible refine gate_callee (f := 14) rfl ?_); refine goesL_ (some 14) rfl rfl Tryd.func14 (by kernel_rfl) rfl #[.agg #[.string a0_0, .int .i64 a0_1]] rfl (by (try simp only [List.map_toArray, List.map_cons, List.map_nil]); first | done | rfl | (simp only [List.length_drop, List.length_take]; rfl) | (simp only [Int.toNat_natCast, ByteArray.extract_zero_size]; rfl)) ?_; (with_reducible refine (laws_short9.calls k a0_0 a0_1 true _ A9.out).mono ?_); rintro e w17 ⟨rfl, hb⟩; refine ⟨_, rfl, ?_⟩; have n0_ := Aside0.mk (blk_below (g := gb106) (o := .cells #[.string a0_0, .int .i64 a0_1] 23 (0, 0)) (by (with_reducible repeat (first | refine blk_drewN ?_ _ | refine blk_drew ?_ | refine blk_alloc ?_ _)); exact BK106.out) hb); have n1_ := Aside0.mk (below_step (by repeat (first | (with_reducible first | exact HB.out | apply below_alloc | apply pw_below_drewN | apply below_drew1 | refine below_set ?_ GE106.out) | exact HB.out)) hb); clear BK106; clear HB; have BK106 := n0_; have HB := n1_; clear n0_ n1_; (try clear hb); (try clear hb2); (try clear hk); (try clear hi); have hcz18_0 : w17.cell? ⟨gb106, 0, none⟩ = some (.string a0_0) := (blk_cell BK106.out 0).trans rfl; have hcz18_1 : w17.cell? ⟨gb106, 1, none⟩ = some (.int .i64 a0_1) := (blk_cell BK106.out 1).trans rfl; have hfz18_0 := blk_frozen BK106.out 0; have hfz18_1 := blk_frozen BK106.out 1))
            go_meet
            case rel => exact ⟨_, (true), (by first | rfl | (simp; done) | (simp [*]; done)), H', ⟨by first | omega | exact Nat.le_refl _⟩, ⟨by (with_reducible repeat (first | refine blk_drewN ?_ _ | refine blk_drew ?_ | refine blk_alloc ?_ _)); exact BK106.out⟩, ⟨by repeat (first | (with_reducible first | exact HB.out | apply below_alloc | apply pw_below_drewN | apply below_drew1 | refine below_set ?_ GE106.out) | exact HB.out)⟩⟩
          · rw [if_neg c15] at H
            have c15b0 : (a1 == 0) = false := beq_eq_false_iff_ne.mpr c15
            have c15b1 : (a1 != 0) = true := bne_iff_ne.mpr c15
            by_cases c19 : a1 ≥ 128
            · rw [if_pos c19] at H
              have c19b0 : decide (128 ≤ a1) = true := decide_eq_true c19
              clear c19
              have H' := Aside0.mk H
              clear H
              have hcz20_0 : w8.cell? ⟨gb106, 0, none⟩ = some (.string a0_0) := (blk_cell BK106.out 0).trans rfl
              have hcz20_1 : w8.cell? ⟨gb106, 1, none⟩ = some (.int .i64 a0_1) := (blk_cell BK106.out 1).trans rfl
              have hfz20_0 := blk_frozen BK106.out 0
              have hfz20_1 := blk_frozen BK106.out 1
              go_wp2_with (first | ((with_reducible refine gate_callee (f := 14) rfl ?_); refine goesL_ (some 14) rfl rfl Tryd.func14 (by kernel_rfl) rfl #[.agg #[.string a0_0, .int .i64 a0_1]] rfl (by (try simp only [List.map_toArray, List.map_cons, List.map_nil]); first | done | rfl | (simp only [List.length_drop, List.length_take]; rfl) | (simp only [Int.toNat_natCast, ByteArray.extract_zero_size]; rfl)) ?_; (with_reducible refine (laws_short9.calls k a0_0 a0_1 true _ A9.out).mono ?_); rintro e w21 ⟨rfl, hb⟩; refine ⟨_, rfl, ?_⟩; have n0_ := Aside0.mk (blk_below (g := gb106) (o := .cells #[.string a0_0, .int .i64 a0_1] 23 (0, 0)) (by (with_reducible repeat (first | refine blk_drewN ?_ _ | refine blk_drew ?_ | refine blk_alloc ?_ _)); exact BK106.out) hb); have n1_ := Aside0.mk (below_step (by repeat (first | (with_reducible first | exact HB.out | apply below_alloc | apply pw_below_drewN | apply below_drew1 | refine below_set ?_ GE106.out) | exact HB.out)) hb); clear BK106; clear HB; have BK106 := n0_; have HB := n1_; clear n0_ n1_; (try clear hb); (try clear hb2); (try clear hk); (try clear hi); have hcz22_0 : w21.cell? ⟨gb106, 0, none⟩ = some (.string a0_0) := (blk_cell BK106.out 0).trans rfl; have hcz22_1 : w21.cell? ⟨gb106, 1, none⟩ = some (.int .i64 a0_1) := (blk_cell BK106.out 1).trans rfl; have hfz22_0 := blk_frozen BK106.out 0; have hfz22_1 := blk_frozen BK106.out 1))
              go_meet
              case rel => exact ⟨_, (true), (by first | rfl | (simp; done) | (simp [*]; done)), H', ⟨by first | omega | exact Nat.le_refl _⟩, ⟨by (with_reducible repeat (first | refine blk_drewN ?_ _ | refine blk_drew ?_ | refine blk_alloc ?_ _)); exact BK106.out⟩, ⟨by repeat (first | (with_reducible first | exact HB.out | apply below_alloc | apply pw_below_drewN | apply below_drew1 | refine below_set ?_ GE106.out) | exact HB.out)⟩⟩
            · rw [if_neg c19] at H
              have c19b0 : decide (128 ≤ a1) = false := decide_eq_false c19
              clear c19
              by_cases c23 : 0 ≤ a0_1
              · rw [if_pos c23] at H
                have c23b0 : decide (0 ≤ a0_1) = true := decide_eq_true c23
                clear c23
                by_cases c24 : a0_1 < (a0_0.size : Int)
                · rw [if_pos c24] at H
                  have c24b0 : decide (a0_1 < (a0_0.size : Int)) = true := decide_eq_true c24
                  clear c24
                  have H' := Aside0.mk H
                  clear H
                  have hcz26_0 : w8.cell? ⟨gb106, 0, none⟩ = some (.string a0_0) := (blk_cell BK106.out 0).trans rfl
                  have hcz26_1 : w8.cell? ⟨gb106, 1, none⟩ = some (.int .i64 a0_1) := (blk_cell BK106.out 1).trans rfl
                  have hfz26_0 := blk_frozen BK106.out 0
                  have hfz26_1 := blk_frozen BK106.out 1
                  go_wp2_with (first | ((with_reducible refine gate_callee (f := 14) rfl ?_); refine goesL_ (some 14) rfl rfl Tryd.func14 (by kernel_rfl) rfl #[.agg #[.string a0_0, .int .i64 a0_1]] rfl (by (try simp only [List.map_toArray, List.map_cons, List.map_nil]); first | done | rfl | (simp only [List.length_drop, List.length_take]; rfl) | (simp only [Int.toNat_natCast, ByteArray.extract_zero_size]; rfl)) ?_; (with_reducible refine (laws_short9.calls k a0_0 a0_1 true _ A9.out).mono ?_); rintro e w27 ⟨rfl, hb⟩; refine ⟨_, rfl, ?_⟩; have n0_ := Aside0.mk (blk_below (g := gb106) (o := .cells #[.string a0_0, .int .i64 a0_1] 23 (0, 0)) (by (with_reducible repeat (first | refine blk_drewN ?_ _ | refine blk_drew ?_ | refine blk_alloc ?_ _)); exact BK106.out) hb); have n1_ := Aside0.mk (below_step (by repeat (first | (with_reducible first | exact HB.out | apply below_alloc | apply pw_below_drewN | apply below_drew1 | refine below_set ?_ GE106.out) | exact HB.out)) hb); clear BK106; clear HB; have BK106 := n0_; have HB := n1_; clear n0_ n1_; (try clear hb); (try clear hb2); (try clear hk); (try clear hi); have hcz28_0 : w27.cell? ⟨gb106, 0, none⟩ = some (.string a0_0) := (blk_cell BK106.out 0).trans rfl; have hcz28_1 : w27.cell? ⟨gb106, 1, none⟩ = some (.int .i64 a0_1) := (blk_cell BK106.out 1).trans rfl; have hfz28_0 := blk_frozen BK106.out 0; have hfz28_1 := blk_frozen BK106.out 1; have p25 : 0 ≤ (a0_1 : Int) := of_decide_eq_true (by first | (with_reducible assumption) | assumption); have q25 : a0_1 < (a0_0.size : Int) := of_decide_eq_true (by first | (with_reducible assumption) | assumption); have hx25 := bt_at a0_0 a0_1; replace p25 := eq_true p25; replace q25 := eq_true q25))
                  go_meet
                  case rel => exact ⟨_, (((bt a0_0 a0_1) == 0)), (by first | rfl | (simp; done) | (simp [*]; done)), H', ⟨by first | omega | exact Nat.le_refl _⟩, ⟨by (with_reducible repeat (first | refine blk_drewN ?_ _ | refine blk_drew ?_ | refine blk_alloc ?_ _)); exact BK106.out⟩, ⟨by repeat (first | (with_reducible first | exact HB.out | apply below_alloc | apply pw_below_drewN | apply below_drew1 | refine below_set ?_ GE106.out) | exact HB.out)⟩⟩
                · rw [if_neg c24] at H
                  exact absurd H (by simp)
              · rw [if_neg c23] at H
                exact absurd H (by simp)
      · replace c10 := Bool.eq_false_iff.mpr c10
        subst c10
        have H1 : (laws_FnReplaceBack.j0 k a1 true a0_0 a0_1) = some r := by rw [if_neg (show ¬ (false = true) by decide)] at H; exact H
        clear H
        have H := H1
        clear H1
        have H' := Aside0.mk H
        clear H
        have hcz29_0 : w8.cell? ⟨gb106, 0, none⟩ = some (.string a0_0) := (blk_cell BK106.out 0).trans rfl
        have hcz29_1 : w8.cell? ⟨gb106, 1, none⟩ = some (.int .i64 a0_1) := (blk_cell BK106.out 1).trans rfl
        have hfz29_0 := blk_frozen BK106.out 0
        have hfz29_1 := blk_frozen BK106.out 1
        go_wp2_with (first | ((with_reducible refine gate_callee (f := 14) rfl ?_); refine goesL_ (some 14) rfl rfl Tryd.func14 (by kernel_rfl) rfl #[.agg #[.string a0_0, .int .i64 a0_1]] rfl (by (try simp only [List.map_toArray, List.map_cons, List.map_nil]); first | done | rfl | (simp only [List.length_drop, List.length_take]; rfl) | (simp only [Int.toNat_natCast, ByteArray.extract_zero_size]; rfl)) ?_; (with_reducible refine (laws_short9.calls k a0_0 a0_1 false _ A9.out).mono ?_); rintro e w30 ⟨rfl, hb⟩; refine ⟨_, rfl, ?_⟩; have n0_ := Aside0.mk (blk_below (g := gb106) (o := .cells #[.string a0_0, .int .i64 a0_1] 23 (0, 0)) (by (with_reducible repeat (first | refine blk_drewN ?_ _ | refine blk_drew ?_ | refine blk_alloc ?_ _)); exact BK106.out) hb); have n1_ := Aside0.mk (below_step (by repeat (first | (with_reducible first | exact HB.out | apply below_alloc | apply pw_below_drewN | apply below_drew1 | refine below_set ?_ GE106.out) | exact HB.out)) hb); clear BK106; clear HB; have BK106 := n0_; have HB := n1_; clear n0_ n1_; (try clear hb); (try clear hb2); (try clear hk); (try clear hi)))
        go_meet
        case rel => exact ⟨_, (true), (by first | rfl | (simp; done) | (simp [*]; done)), H', ⟨by first | omega | exact Nat.le_refl _⟩, ⟨by (with_reducible repeat (first | refine blk_drewN ?_ _ | refine blk_drew ?_ | refine blk_alloc ?_ _)); exact BK106.out⟩, ⟨by repeat (first | (with_reducible first | exact HB.out | apply below_alloc | apply pw_below_drewN | apply below_drew1 | refine below_set ?_ GE106.out) | exact HB.out)⟩⟩
    case rest =>
      clear HC5
      try clear c1
      try clear c2
      try clear p2
      try clear q2
      try clear hx2
      try clear c4
      try clear c10
      try clear c11
      try clear c11b0
      try clear c11b1
      try clear c13
      try clear c14
      try clear c15
      try clear c15b0
      try clear c15b1
      try clear c19
      try clear c19b0
      try clear c23
      try clear c23b0
      try clear c24
      try clear c24b0
      try clear p25
      try clear q25
      try clear hx25
      try clear hcz12_0
      try clear hcz12_1
      try clear hcz14_0
      try clear hcz14_1
      try clear hcz16_0
      try clear hcz16_1
      try clear hcz18_0
      try clear hcz18_1
      try clear hcz20_0
      try clear hcz20_1
      try clear hcz22_0
      try clear hcz22_1
      try clear hcz26_0
      try clear hcz26_1
      try clear hcz28_0
      try clear hcz28_1
      try clear hcz29_0
      try clear hcz29_1
      try clear hcz7_0
      try clear hcz7_1
      try clear hfz12_0
      try clear hfz12_1
      try clear hfz14_0
      try clear hfz14_1
      try clear hfz16_0
      try clear hfz16_1
      try clear hfz18_0
      try clear hfz18_1
      try clear hfz20_0
      try clear hfz20_1
      try clear hfz22_0
      try clear hfz22_1
      try clear hfz26_0
      try clear hfz26_1
      try clear hfz28_0
      try clear hfz28_1
      try clear hfz29_0
      try clear hfz29_1
      try clear hfz7_0
      try clear hfz7_1
      try clear p25
      try clear q25
      obtain ⟨kq, x39_4, rfl, HA, HJ4, BK106, HB⟩ := hcut
      cases kq with
      | zero => exact absurd HA.out (by simp [laws_FnReplaceBack.j0])
      | succ kj4 =>
        have H := HA.out
        clear HA
        simp only [laws_FnReplaceBack.j0] at H
        by_cases c31 : x39_4 = true
        · subst c31
          have H1 : (some true) = some r := by rw [if_pos rfl] at H; exact H
          clear H
          have H := H1
          clear H1
          obtain rfl := Option.some.inj H
          go_wp2
          go_ret
          exact ⟨by first | rfl | (simp [errW_none, errW_some] <;> rfl) | (simp [*, errW_none, errW_some] <;> rfl), by repeat (first | (with_reducible first | exact HB.out | apply below_alloc | apply pw_below_drewN | apply below_drew1 | refine below_set ?_ GE106.out) | exact HB.out)⟩
        · replace c31 := Bool.eq_false_iff.mpr c31
          subst c31
          have H1 : ((laws_after9.f a0_0 a0_1 (([(⟨8, (⟨#[]⟩ : ByteArray), wrap64 (a1), false, false⟩ : S29)] : List (S29)))).bind fun bt113 => (if 0 ≤ a0_1 then (if a0_1 < (a0_0.size : Int) then ((laws_after9.f a0_0 a0_1 (([(⟨8, (⟨#[]⟩ : ByteArray), wrap64 (a1), false, false⟩ : S29), (⟨8, (⟨#[]⟩ : ByteArray), wrap64 (bt a0_0 a0_1), false, false⟩ : S29)] : List (S29)))).bind fun bt120 => (if bt113.2.2 = true then (if bt120.2.2 = true then (if a0_1 ≤ (a0_0.size : Int) then ((some (([a1] : List Int) : List Int)).bind fun y124 => (if (a0_0.extract 0 (a0_1 : Int).toNat).size + (strOfNums y124).size ≤ 9223372036854775807 then (if 0 ≤ (wrap64 (a0_1 + 1)) then (if (wrap64 (a0_1 + 1)) ≤ (a0_0.size : Int) then (if ((a0_0.extract 0 (a0_1 : Int).toNat) ++ (strOfNums y124)).size + (a0_0.extract ((wrap64 (a0_1 + 1)) : Int).toNat a0_0.size).size ≤ 9223372036854775807 then (if (bt113.1.toList == ((((a0_0.extract 0 (a0_1 : Int).toNat) ++ (strOfNums y124)) ++ (a0_0.extract ((wrap64 (a0_1 + 1)) : Int).toNat a0_0.size)).toList) && (bt113.2.1 == a0_1)) = true then (some (bt120.1.toList == a0_0.toList && (bt120.2.1 == a0_1))) else (some false)) else (none)) else (none)) else (none)) else (none))) else (none)) else (some false)) else (some false))) else (none)) else (none))) = some r := by rw [if_neg (show ¬ (false = true) by decide)] at H; exact H
          clear H
          have H := H1
          clear H1
          obtain ⟨y110, hy110⟩ : ∃ y_ : List (S29), y_ = (([(⟨8, (⟨#[]⟩ : ByteArray), wrap64 (a1), false, false⟩ : S29)] : List (S29))) := ⟨_, rfl⟩
          replace H : ((laws_after9.f a0_0 a0_1 y110).bind fun bt113 => (if 0 ≤ a0_1 then (if a0_1 < (a0_0.size : Int) then ((laws_after9.f a0_0 a0_1 (([(⟨8, (⟨#[]⟩ : ByteArray), wrap64 (a1), false, false⟩ : S29), (⟨8, (⟨#[]⟩ : ByteArray), wrap64 (bt a0_0 a0_1), false, false⟩ : S29)] : List (S29)))).bind fun bt120 => (if bt113.2.2 = true then (if bt120.2.2 = true then (if a0_1 ≤ (a0_0.size : Int) then ((some (([a1] : List Int) : List Int)).bind fun y124 => (if (a0_0.extract 0 (a0_1 : Int).toNat).size + (strOfNums y124).size ≤ 9223372036854775807 then (if 0 ≤ (wrap64 (a0_1 + 1)) then (if (wrap64 (a0_1 + 1)) ≤ (a0_0.size : Int) then (if ((a0_0.extract 0 (a0_1 : Int).toNat) ++ (strOfNums y124)).size + (a0_0.extract ((wrap64 (a0_1 + 1)) : Int).toNat a0_0.size).size ≤ 9223372036854775807 then (if (bt113.1.toList == ((((a0_0.extract 0 (a0_1 : Int).toNat) ++ (strOfNums y124)) ++ (a0_0.extract ((wrap64 (a0_1 + 1)) : Int).toNat a0_0.size)).toList) && (bt113.2.1 == a0_1)) = true then (some (bt120.1.toList == a0_0.toList && (bt120.2.1 == a0_1))) else (some false)) else (none)) else (none)) else (none)) else (none))) else (none)) else (some false)) else (some false))) else (none)) else (none))) = some r := by first | (rw [hy110]; with_reducible exact H) | (have H2_ := (Option.bind_some _ _).symm.trans H; rw [hy110]; with_reducible exact H2_) | (have H2_ := (Option.bind_some _ _).symm.trans H; with_reducible exact H2_) | with_reducible exact H | (rw [hy110]; exact H) | exact H
          have Ny110 := Aside0.mk hy110
          clear hy110
          replace H := Option.bind_eq_some_iff.mp H
          obtain ⟨⟨t113, t114, t115⟩, A320, H⟩ := H
          replace H : (if 0 ≤ a0_1 then (if a0_1 < (a0_0.size : Int) then ((laws_after9.f a0_0 a0_1 (([(⟨8, (⟨#[]⟩ : ByteArray), wrap64 (a1), false, false⟩ : S29), (⟨8, (⟨#[]⟩ : ByteArray), wrap64 (bt a0_0 a0_1), false, false⟩ : S29)] : List (S29)))).bind fun bt120 => (if t115 = true then (if bt120.2.2 = true then (if a0_1 ≤ (a0_0.size : Int) then ((some (([a1] : List Int) : List Int)).bind fun y124 => (if (a0_0.extract 0 (a0_1 : Int).toNat).size + (strOfNums y124).size ≤ 9223372036854775807 then (if 0 ≤ (wrap64 (a0_1 + 1)) then (if (wrap64 (a0_1 + 1)) ≤ (a0_0.size : Int) then (if ((a0_0.extract 0 (a0_1 : Int).toNat) ++ (strOfNums y124)).size + (a0_0.extract ((wrap64 (a0_1 + 1)) : Int).toNat a0_0.size).size ≤ 9223372036854775807 then (if (t113.toList == ((((a0_0.extract 0 (a0_1 : Int).toNat) ++ (strOfNums y124)) ++ (a0_0.extract ((wrap64 (a0_1 + 1)) : Int).toNat a0_0.size)).toList) && (t114 == a0_1)) = true then (some (bt120.1.toList == a0_0.toList && (bt120.2.1 == a0_1))) else (some false)) else (none)) else (none)) else (none)) else (none))) else (none)) else (some false)) else (some false))) else (none)) else (none)) = some r := H
          have A32 := Aside0.mk A320
          clear A320
          by_cases c33 : 0 ≤ a0_1
          · rw [if_pos c33] at H
            have c33b0 : decide (0 ≤ a0_1) = true := decide_eq_true c33
            clear c33
            by_cases c34 : a0_1 < (a0_0.size : Int)
            · rw [if_pos c34] at H
              have c34b0 : decide (a0_1 < (a0_0.size : Int)) = true := decide_eq_true c34
              clear c34
              obtain ⟨y117, hy117⟩ : ∃ y_ : List (S29), y_ = (([(⟨8, (⟨#[]⟩ : ByteArray), wrap64 (a1), false, false⟩ : S29), (⟨8, (⟨#[]⟩ : ByteArray), wrap64 (bt a0_0 a0_1), false, false⟩ : S29)] : List (S29))) := ⟨_, rfl⟩
              replace H : ((laws_after9.f a0_0 a0_1 y117).bind fun bt120 => (if t115 = true then (if bt120.2.2 = true then (if a0_1 ≤ (a0_0.size : Int) then ((some (([a1] : List Int) : List Int)).bind fun y124 => (if (a0_0.extract 0 (a0_1 : Int).toNat).size + (strOfNums y124).size ≤ 9223372036854775807 then (if 0 ≤ (wrap64 (a0_1 + 1)) then (if (wrap64 (a0_1 + 1)) ≤ (a0_0.size : Int) then (if ((a0_0.extract 0 (a0_1 : Int).toNat) ++ (strOfNums y124)).size + (a0_0.extract ((wrap64 (a0_1 + 1)) : Int).toNat a0_0.size).size ≤ 9223372036854775807 then (if (t113.toList == ((((a0_0.extract 0 (a0_1 : Int).toNat) ++ (strOfNums y124)) ++ (a0_0.extract ((wrap64 (a0_1 + 1)) : Int).toNat a0_0.size)).toList) && (t114 == a0_1)) = true then (some (bt120.1.toList == a0_0.toList && (bt120.2.1 == a0_1))) else (some false)) else (none)) else (none)) else (none)) else (none))) else (none)) else (some false)) else (some false))) = some r := by first | (rw [hy117]; with_reducible exact H) | (have H2_ := (Option.bind_some _ _).symm.trans H; rw [hy117]; with_reducible exact H2_) | (have H2_ := (Option.bind_some _ _).symm.trans H; with_reducible exact H2_) | with_reducible exact H | (rw [hy117]; exact H) | exact H
              have Ny117 := Aside0.mk hy117
              clear hy117
              replace H := Option.bind_eq_some_iff.mp H
              obtain ⟨⟨t120, t121, t122⟩, A360, H⟩ := H
              replace H : (if t115 = true then (if t122 = true then (if a0_1 ≤ (a0_0.size : Int) then ((some (([a1] : List Int) : List Int)).bind fun y124 => (if (a0_0.extract 0 (a0_1 : Int).toNat).size + (strOfNums y124).size ≤ 9223372036854775807 then (if 0 ≤ (wrap64 (a0_1 + 1)) then (if (wrap64 (a0_1 + 1)) ≤ (a0_0.size : Int) then (if ((a0_0.extract 0 (a0_1 : Int).toNat) ++ (strOfNums y124)).size + (a0_0.extract ((wrap64 (a0_1 + 1)) : Int).toNat a0_0.size).size ≤ 9223372036854775807 then (if (t113.toList == ((((a0_0.extract 0 (a0_1 : Int).toNat) ++ (strOfNums y124)) ++ (a0_0.extract ((wrap64 (a0_1 + 1)) : Int).toNat a0_0.size)).toList) && (t114 == a0_1)) = true then (some (t120.toList == a0_0.toList && (t121 == a0_1))) else (some false)) else (none)) else (none)) else (none)) else (none))) else (none)) else (some false)) else (some false)) = some r := H
              have A36 := Aside0.mk A360
              clear A360
              by_cases c37 : t115 = true
              · subst c37
                have H1 : (if t122 = true then (if a0_1 ≤ (a0_0.size : Int) then ((some (([a1] : List Int) : List Int)).bind fun y124 => (if (a0_0.extract 0 (a0_1 : Int).toNat).size + (strOfNums y124).size ≤ 9223372036854775807 then (if 0 ≤ (wrap64 (a0_1 + 1)) then (if (wrap64 (a0_1 + 1)) ≤ (a0_0.size : Int) then (if ((a0_0.extract 0 (a0_1 : Int).toNat) ++ (strOfNums y124)).size + (a0_0.extract ((wrap64 (a0_1 + 1)) : Int).toNat a0_0.size).size ≤ 9223372036854775807 then (if (t113.toList == ((((a0_0.extract 0 (a0_1 : Int).toNat) ++ (strOfNums y124)) ++ (a0_0.extract ((wrap64 (a0_1 + 1)) : Int).toNat a0_0.size)).toList) && (t114 == a0_1)) = true then (some (t120.toList == a0_0.toList && (t121 == a0_1))) else (some false)) else (none)) else (none)) else (none)) else (none))) else (none)) else (some false)) = some r := by rw [if_pos rfl] at H; exact H
                clear H
                have H := H1
                clear H1
                by_cases c38 : t122 = true
                · subst c38
                  have H1 : (if a0_1 ≤ (a0_0.size : Int) then ((some (([a1] : List Int) : List Int)).bind fun y124 => (if (a0_0.extract 0 (a0_1 : Int).toNat).size + (strOfNums y124).size ≤ 9223372036854775807 then (if 0 ≤ (wrap64 (a0_1 + 1)) then (if (wrap64 (a0_1 + 1)) ≤ (a0_0.size : Int) then (if ((a0_0.extract 0 (a0_1 : Int).toNat) ++ (strOfNums y124)).size + (a0_0.extract ((wrap64 (a0_1 + 1)) : Int).toNat a0_0.size).size ≤ 9223372036854775807 then (if (t113.toList == ((((a0_0.extract 0 (a0_1 : Int).toNat) ++ (strOfNums y124)) ++ (a0_0.extract ((wrap64 (a0_1 + 1)) : Int).toNat a0_0.size)).toList) && (t114 == a0_1)) = true then (some (t120.toList == a0_0.toList && (t121 == a0_1))) else (some false)) else (none)) else (none)) else (none)) else (none))) else (none)) = some r := by rw [if_pos rfl] at H; exact H
                  clear H
                  have H := H1
                  clear H1
                  have c39b0 := eq_true (of_decide_eq_true (by first | (with_reducible assumption) | assumption) : 0 ≤ a0_1)
                  by_cases c40 : a0_1 ≤ (a0_0.size : Int)
                  · rw [if_pos c40] at H
                    have c40b0 := eq_true c40
                    have c40b1 : decide (a0_1 ≤ (a0_0.size : Int)) = true := decide_eq_true c40
                    clear c40
                    obtain ⟨y124, hy124⟩ : ∃ y_ : List Int, y_ = (([a1] : List Int)) := ⟨_, rfl⟩
                    replace H : (if (a0_0.extract 0 (a0_1 : Int).toNat).size + (strOfNums y124).size ≤ 9223372036854775807 then (if 0 ≤ (wrap64 (a0_1 + 1)) then (if (wrap64 (a0_1 + 1)) ≤ (a0_0.size : Int) then (if ((a0_0.extract 0 (a0_1 : Int).toNat) ++ (strOfNums y124)).size + (a0_0.extract ((wrap64 (a0_1 + 1)) : Int).toNat a0_0.size).size ≤ 9223372036854775807 then (if (t113.toList == ((((a0_0.extract 0 (a0_1 : Int).toNat) ++ (strOfNums y124)) ++ (a0_0.extract ((wrap64 (a0_1 + 1)) : Int).toNat a0_0.size)).toList) && (t114 == a0_1)) = true then (some (t120.toList == a0_0.toList && (t121 == a0_1))) else (some false)) else (none)) else (none)) else (none)) else (none)) = some r := by first | (rw [hy124]; with_reducible exact H) | (have H2_ := (Option.bind_some _ _).symm.trans H; rw [hy124]; with_reducible exact H2_) | (have H2_ := (Option.bind_some _ _).symm.trans H; with_reducible exact H2_) | with_reducible exact H | (rw [hy124]; exact H) | exact H
                    have Ny124 := Aside0.mk hy124
                    clear hy124
                    by_cases c41 : (a0_0.extract 0 (a0_1 : Int).toNat).size + (strOfNums y124).size ≤ 9223372036854775807
                    · rw [if_pos c41] at H
                      have c41b0 := eq_true c41
                      have c41b1 : decide ((a0_0.extract 0 (a0_1 : Int).toNat).size + (strOfNums y124).size ≤ 9223372036854775807) = true := decide_eq_true c41
                      try have c41b2 : (9223372036854775807 < (a0_0.extract 0 (a0_1 : Int).toNat).size + (strOfNums y124).size) = False := eq_false (Nat.not_lt.2 c41)
                      have c41b3 : (9223372036854775807 < a0_1.toNat + (strOfNums y124).size) = False := eq_false (by have h_ := of_decide_eq_true c40b1; have g_ : (a0_0.extract 0 (a0_1 : Int).toNat).size = a0_1.toNat := (ByteArray.size_extract).trans (by omega); rw [g_] at c41; omega)
                      obtain ⟨ji42, hji42⟩ : ∃ j_ : Int, (wrap64 (a0_1 + 1)) = j_ := ⟨_, rfl⟩
                      replace H : (if 0 ≤ (ji42) then (if (ji42) ≤ (a0_0.size : Int) then (if ((a0_0.extract 0 (a0_1 : Int).toNat) ++ (strOfNums y124)).size + (a0_0.extract ((ji42) : Int).toNat a0_0.size).size ≤ 9223372036854775807 then (if (t113.toList == ((((a0_0.extract 0 (a0_1 : Int).toNat) ++ (strOfNums y124)) ++ (a0_0.extract ((ji42) : Int).toNat a0_0.size)).toList) && (t114 == a0_1)) = true then (some (t120.toList == a0_0.toList && (t121 == a0_1))) else (some false)) else (none)) else (none)) else (none)) = some r := by first | (rw [hji42] at H; exact H) | (simp only [hji42] at H ⊢; exact H)
                      (try rw [hji42] at A32)
                      (try rw [hji42] at A36)
                      have hji42w : (IntKind.i64.wrap (a0_1 + 1)) = ji42 := (i64_w _).trans hji42
                      by_cases c43 : 0 ≤ (ji42)
                      · rw [if_pos c43] at H
                        have c43b0 := eq_true c43
                        have c43b1 : decide (0 ≤ (ji42)) = true := decide_eq_true c43
                        clear c43
                        by_cases c44 : (ji42) ≤ (a0_0.size : Int)
                        · rw [if_pos c44] at H
                          have c44b0 := eq_true c44
                          have c44b1 : decide ((ji42) ≤ (a0_0.size : Int)) = true := decide_eq_true c44
                          clear c44
                          by_cases c45 : ((a0_0.extract 0 (a0_1 : Int).toNat) ++ (strOfNums y124)).size + (a0_0.extract ((ji42) : Int).toNat a0_0.size).size ≤ 9223372036854775807
                          · rw [if_pos c45] at H
                            have c45b0 := eq_true c45
                            have c45b1 : decide (((a0_0.extract 0 (a0_1 : Int).toNat) ++ (strOfNums y124)).size + (a0_0.extract ((ji42) : Int).toNat a0_0.size).size ≤ 9223372036854775807) = true := decide_eq_true c45
                            try have c45b2 : (9223372036854775807 < ((a0_0.extract 0 (a0_1 : Int).toNat) ++ (strOfNums y124)).size + (a0_0.extract ((ji42) : Int).toNat a0_0.size).size) = False := eq_false (Nat.not_lt.2 c45)
                            have c45b3 : (9223372036854775807 < a0_1.toNat + (strOfNums y124).size + (a0_0.size - ji42.toNat)) = False := eq_false (by have h_ := of_decide_eq_true c40b1; have q_ := c45; rw [ByteArray.size_append, ByteArray.size_extract, ByteArray.size_extract] at q_; omega)
                            by_cases c46 : (t113.toList == ((((a0_0.extract 0 (a0_1 : Int).toNat) ++ (strOfNums y124)) ++ (a0_0.extract ((ji42) : Int).toNat a0_0.size)).toList) && (t114 == a0_1)) = true
                            · rw [if_pos c46] at H
                              have c46b0 : (t113.toList == ((((a0_0.extract 0 (a0_1 : Int).toNat) ++ (strOfNums y124)) ++ (a0_0.extract ((ji42) : Int).toNat a0_0.size)).toList) && (t114 == a0_1)) = true := c46
                              (try (have c46b1 : decide (t113.toList = ((((a0_0.extract 0 (a0_1 : Int).toNat) ++ (strOfNums y124)) ++ (a0_0.extract ((ji42) : Int).toNat a0_0.size)).toList) && (t114 == a0_1)) = true := by simpa using c46))
                              (try (have c46b2 : (t113.toList == ((((a0_0.extract 0 (a0_1 : Int).toNat) ++ (strOfNums y124)) ++ (a0_0.extract ((ji42) : Int).toNat a0_0.size)).toList) && (t114 == a0_1)) = true := by simpa using c46))
                              clear c46
                              obtain rfl := Option.some.inj H
                              try go_wp2_with (first | ((with_reducible refine gate_dst (N := 5) rfl ?_); (try (refine gate_guard (by rfl) ?_; dsimp only)); refine box_event ?hg (N := 5) ?hd (cs := #[.int .i64 0, .string (⟨#[]⟩ : ByteArray), .int .i64 0, .bool false, .bool false]) (t := 29) ?hr ?_; (case hd => rfl); (case hg => rfl); (case hr => first | (go_simp; done) | (go_simp; rfl)); intro gb109 hg w47 hbox hb; have n0_ := Aside0.mk (blk_below (g := gb106) (o := .cells #[.string a0_0, .int .i64 a0_1] 23 (0, 0)) (by (with_reducible repeat (first | refine blk_drewN ?_ _ | refine blk_drew ?_ | refine blk_alloc ?_ _)); exact BK106.out) hb); have n1_ := Aside0.mk (below_step (by repeat (first | (with_reducible first | exact HB.out | apply below_alloc | apply pw_below_drewN | apply below_drew1 | refine below_set ?_ GE106.out) | exact HB.out)) hb); have n2_ := Aside0.mk (hbox); have n3_ := Aside0.mk ((by rw [hg]; exact (below_size (by repeat (first | (with_reducible first | exact HB.out | apply below_alloc | apply pw_below_drewN | apply below_drew1 | refine below_set ?_ GE106.out) | exact HB.out))) : w.heap.size ≤ gb109)); have n4_ := Aside0.mk ((by rw [hg]; exact (below_size (by repeat (first | (with_reducible first | exact HB.out | apply below_alloc | apply pw_below_drewN | apply below_drew1 | refine below_set ?_ GE106.out) | exact HB.out))) : w.heap.size ≤ gb109)); have n5_ := Aside0.mk ((by rw [hg]; exact Nat.ne_of_lt (blk_lt (g := gb106) (o := .cells #[.string a0_0, .int .i64 a0_1] 23 (0, 0)) (by (with_reducible repeat (first | refine blk_drewN ?_ _ | refine blk_drew ?_ | refine blk_alloc ?_ _)); exact BK106.out)) : gb106 ≠ gb109)); have n6_ := Aside0.mk ((by rw [hg]; exact Nat.ne_of_gt (blk_lt (g := gb106) (o := .cells #[.string a0_0, .int .i64 a0_1] 23 (0, 0)) (by (with_reducible repeat (first | refine blk_drewN ?_ _ | refine blk_drew ?_ | refine blk_alloc ?_ _)); exact BK106.out)) : gb109 ≠ gb106)); clear BK106; clear HB; have BK106 := n0_; have HB := n1_; have BK109 := n2_; have GW109 := n3_; have GE109 := n4_; have NB106_109 := n5_; have NB109_106 := n6_; clear n0_ n1_ n2_ n3_ n4_ n5_ n6_; clear hb hbox hg; have hnb48 := NB109_106.out; have hnc48 := NB106_109.out; have hcz49_0 : w47.cell? ⟨gb109, 0, none⟩ = some (.int .i64 0) := (blk_cell BK109.out 0).trans rfl; have hcz49_1 : w47.cell? ⟨gb109, 1, none⟩ = some (.string (⟨#[]⟩ : ByteArray)) := (blk_cell BK109.out 1).trans rfl; have hcz49_2 : w47.cell? ⟨gb109, 2, none⟩ = some (.int .i64 0) := (blk_cell BK109.out 2).trans rfl; have hcz49_3 : w47.cell? ⟨gb109, 3, none⟩ = some (.bool false) := (blk_cell BK109.out 3).trans rfl; have hcz49_4 : w47.cell? ⟨gb109, 4, none⟩ = some (.bool false) := (blk_cell BK109.out 4).trans rfl; have hfz49_0 := blk_frozen BK109.out 0; have hfz49_1 := blk_frozen BK109.out 1; have hfz49_2 := blk_frozen BK109.out 2; have hfz49_3 := blk_frozen BK109.out 3; have hfz49_4 := blk_frozen BK109.out 4; have hcz50_0 : w47.cell? ⟨gb106, 0, none⟩ = some (.string a0_0) := (blk_cell BK106.out 0).trans rfl; have hcz50_1 : w47.cell? ⟨gb106, 1, none⟩ = some (.int .i64 a0_1) := (blk_cell BK106.out 1).trans rfl; have hfz50_0 := blk_frozen BK106.out 0; have hfz50_1 := blk_frozen BK106.out 1) | ((with_reducible refine gate_dst (N := 46) rfl ?_); (try (refine gate_guard (by rfl) ?_; dsimp only)); refine Kd.R_lit k29 _ 29 ?hg (N := 46) ?hd (xs := ([(⟨8, (⟨#[]⟩ : ByteArray), wrap64 (a1), false, false⟩ : S29)] : List (S29))) (inner := [.int .i64 8, .string (⟨#[]⟩ : ByteArray), .int .i64 (wrap64 (a1)), .bool false, .bool false]) (ok := fun _ => True) (okp := fun _ => True) ?hr ?hp (fun _ hk => hk) trivial (Below.refl _ _) (Nat.le_refl _) (by simp) ?_; (case hd => rfl); (case hg => rfl); (case hr => first | (go_simp; done) | (go_simp; rfl)); (case hp => exact (Reps.c5 (show Kd.M k29 _ _ _ (⟨8, (⟨#[]⟩ : ByteArray), wrap64 (a1), false, false⟩ : S29) [.int .i64 8, .string (⟨#[]⟩ : ByteArray), .int .i64 (wrap64 (a1)), .bool false, .bool false] from (k29_mkM _ _ _ (⟨8, (⟨#[]⟩ : ByteArray), wrap64 (a1), false, false⟩ : S29) )) (Reps.none _ _))); intro v111 w51 ho52 hb hg_ hnew_; clear hg_ hnew_; (first | rw [← Ny110.out] at ho52 | (simp only [Int.reduceToNat] at ho52; rw [← Ny110.out] at ho52)); have n0_ := Aside0.mk (Kd.R_lower (Kd.R_newB ho52 (g := gb109) (o := .cells #[.int .i64 8, .string (⟨#[]⟩ : ByteArray), .int .i64 (wrap64 (a1)), .bool false, .bool false] 29 (0, 0)) (by (with_reducible repeat (first | refine blk_drewN ?_ _ | refine blk_drew ?_ | refine blk_alloc ?_ _)); refine blk_put (cs := #[.int .i64 8, .string (⟨#[]⟩ : ByteArray), .int .i64 (wrap64 (a1)), .bool false, .bool false]) ?_ 4 _ rfl; (with_reducible repeat (first | refine blk_drewN ?_ _ | refine blk_drew ?_ | refine blk_alloc ?_ _)); refine blk_put (cs := #[.int .i64 8, .string (⟨#[]⟩ : ByteArray), .int .i64 (wrap64 (a1)), .bool false, .bool false]) ?_ 3 _ rfl; (with_reducible repeat (first | refine blk_drewN ?_ _ | refine blk_drew ?_ | refine blk_alloc ?_ _)); refine blk_put (cs := #[.int .i64 8, .string (⟨#[]⟩ : ByteArray), .int .i64 0, .bool false, .bool false]) ?_ 2 _ rfl; (with_reducible repeat (first | refine blk_drewN ?_ _ | refine blk_drew ?_ | refine blk_alloc ?_ _)); refine blk_put (cs := #[.int .i64 8, .string (⟨#[]⟩ : ByteArray), .int .i64 0, .bool false, .bool false]) ?_ 1 _ rfl; (with_reducible repeat (first | refine blk_drewN ?_ _ | refine blk_drew ?_ | refine blk_alloc ?_ _)); refine blk_put (cs := #[.int .i64 0, .string (⟨#[]⟩ : ByteArray), .int .i64 0, .bool false, .bool false]) ?_ 0 _ rfl; (with_reducible repeat (first | refine blk_drewN ?_ _ | refine blk_drew ?_ | refine blk_alloc ?_ _)); exact BK109.out)) (below_size (by repeat (first | (with_reducible first | exact HB.out | apply below_alloc | apply pw_below_drewN | apply below_drew1 | refine below_set ?_ GE106.out | refine below_set ?_ GE109.out) | exact HB.out)))); have n1_ := Aside0.mk (blk_below (g := gb106) (o := .cells #[.string a0_0, .int .i64 a0_1] 23 (0, 0)) (by (with_reducible repeat (first | refine blk_drewN ?_ _ | refine blk_drew ?_ | refine blk_alloc ?_ _)); refine blk_far ?_ NB106_109.out _; (with_reducible repeat (first | refine blk_drewN ?_ _ | refine blk_drew ?_ | refine blk_alloc ?_ _)); refine blk_far ?_ NB106_109.out _; (with_reducible repeat (first | refine blk_drewN ?_ _ | refine blk_drew ?_ | refine blk_alloc ?_ _)); refine blk_far ?_ NB106_109.out _; (with_reducible repeat (first | refine blk_drewN ?_ _ | refine blk_drew ?_ | refine blk_alloc ?_ _)); refine blk_far ?_ NB106_109.out _; (with_reducible repeat (first | refine blk_drewN ?_ _ | refine blk_drew ?_ | refine blk_alloc ?_ _)); refine blk_far ?_ NB106_109.out _; (with_reducible repeat (first | refine blk_drewN ?_ _ | refine blk_drew ?_ | refine blk_alloc ?_ _)); exact BK106.out) hb); have n2_ := Aside0.mk (blk_below (g := gb109) (o := .cells #[.int .i64 8, .string (⟨#[]⟩ : ByteArray), .int .i64 (wrap64 (a1)), .bool false, .bool false] 29 (0, 0)) (by (with_reducible repeat (first | refine blk_drewN ?_ _ | refine blk_drew ?_ | refine blk_alloc ?_ _)); refine blk_put (cs := #[.int .i64 8, .string (⟨#[]⟩ : ByteArray), .int .i64 (wrap64 (a1)), .bool false, .bool false]) ?_ 4 _ rfl; (with_reducible repeat (first | refine blk_drewN ?_ _ | refine blk_drew ?_ | refine blk_alloc ?_ _)); refine blk_put (cs := #[.int .i64 8, .string (⟨#[]⟩ : ByteArray), .int .i64 (wrap64 (a1)), .bool false, .bool false]) ?_ 3 _ rfl; (with_reducible repeat (first | refine blk_drewN ?_ _ | refine blk_drew ?_ | refine blk_alloc ?_ _)); refine blk_put (cs := #[.int .i64 8, .string (⟨#[]⟩ : ByteArray), .int .i64 0, .bool false, .bool false]) ?_ 2 _ rfl; (with_reducible repeat (first | refine blk_drewN ?_ _ | refine blk_drew ?_ | refine blk_alloc ?_ _)); refine blk_put (cs := #[.int .i64 8, .string (⟨#[]⟩ : ByteArray), .int .i64 0, .bool false, .bool false]) ?_ 1 _ rfl; (with_reducible repeat (first | refine blk_drewN ?_ _ | refine blk_drew ?_ | refine blk_alloc ?_ _)); refine blk_put (cs := #[.int .i64 0, .string (⟨#[]⟩ : ByteArray), .int .i64 0, .bool false, .bool false]) ?_ 0 _ rfl; (with_reducible repeat (first | refine blk_drewN ?_ _ | refine blk_drew ?_ | refine blk_alloc ?_ _)); exact BK109.out) hb); have n3_ := Aside0.mk (below_step (by repeat (first | (with_reducible first | exact HB.out | apply below_alloc | apply pw_below_drewN | apply below_drew1 | refine below_set ?_ GE106.out | refine below_set ?_ GE109.out) | exact HB.out)) hb); clear BK106; clear BK109; clear HB; have HO112 := n0_; have BK106 := n1_; have BK109 := n2_; have HB := n3_; clear n0_ n1_ n2_ n3_; clear hb ho52; obtain ⟨Ao53, co53, eo53⟩ := Kd.R_slice HO112.out; subst eo53) | ((with_reducible refine gate_callee (f := 15) rfl ?_); refine goesL_ (some 47) rfl rfl Tryd.func15 (by kernel_rfl) rfl #[.agg #[.string a0_0, .int .i64 a0_1], .slice Ao53 y110.length co53] rfl (by (try simp only [List.map_toArray, List.map_cons, List.map_nil]); first | done | rfl | (simp only [List.length_drop, List.length_take]; rfl) | (simp only [Int.toNat_natCast, ByteArray.extract_zero_size]; rfl)) ?_; (with_reducible refine (laws_after9.calls a0_0 a0_1 _ _ y110 t113 t114 true _ ?side1 ?side2 A32.out).mono ?_); (case side1 => repeat (first | exact (Kd.R_reads' HO112.out).2.2 | (with_reducible refine Kd.C_alloc ?_ _) | (with_reducible refine Kd.C_drewN ?_ _) | (with_reducible refine Kd.C_drew ?_))); (case side2 => exact (Kd.R_reads' HO112.out).2.1); rintro e w54 ⟨rfl, hb⟩; refine ⟨_, rfl, ?_⟩; have n0_ := Aside0.mk (Kd.R_below (by (with_reducible repeat (first | apply Kd.R_alloc | apply Kd.R_drewN | apply Kd.R_drew)); exact HO112.out) hb); have n1_ := Aside0.mk (blk_below (g := gb106) (o := .cells #[.string a0_0, .int .i64 a0_1] 23 (0, 0)) (by (with_reducible repeat (first | refine blk_drewN ?_ _ | refine blk_drew ?_ | refine blk_alloc ?_ _)); exact BK106.out) hb); have n2_ := Aside0.mk (blk_below (g := gb109) (o := .cells #[.int .i64 8, .string (⟨#[]⟩ : ByteArray), .int .i64 (wrap64 (a1)), .bool false, .bool false] 29 (0, 0)) (by (with_reducible repeat (first | refine blk_drewN ?_ _ | refine blk_drew ?_ | refine blk_alloc ?_ _)); exact BK109.out) hb); have n3_ := Aside0.mk (below_step (by repeat (first | (with_reducible first | exact HB.out | apply below_alloc | apply pw_below_drewN | apply below_drew1 | refine below_set ?_ GE106.out | refine below_set ?_ GE109.out) | exact HB.out)) hb); clear HO112; clear BK106; clear BK109; clear HB; have HO112 := n0_; have BK106 := n1_; have BK109 := n2_; have HB := n3_; clear n0_ n1_ n2_ n3_; (try clear hb); (try clear hb2); (try clear hk); (try clear hi)) | ((with_reducible refine gate_dst (N := 6) rfl ?_); (try (refine gate_guard (by rfl) ?_; dsimp only)); refine box_event ?hg (N := 6) ?hd (cs := #[.string (⟨#[]⟩ : ByteArray), .int .i64 0]) (t := 23) ?hr ?_; (case hd => rfl); (case hg => rfl); (case hr => first | (go_simp; done) | (go_simp; rfl)); intro gb116 hg w55 hbox hb; have n0_ := Aside0.mk (Kd.R_below (by (with_reducible repeat (first | apply Kd.R_alloc | apply Kd.R_drewN | apply Kd.R_drew)); exact HO112.out) hb); have n1_ := Aside0.mk (blk_below (g := gb106) (o := .cells #[.string a0_0, .int .i64 a0_1] 23 (0, 0)) (by (with_reducible repeat (first | refine blk_drewN ?_ _ | refine blk_drew ?_ | refine blk_alloc ?_ _)); exact BK106.out) hb); have n2_ := Aside0.mk (blk_below (g := gb109) (o := .cells #[.int .i64 8, .string (⟨#[]⟩ : ByteArray), .int .i64 (wrap64 (a1)), .bool false, .bool false] 29 (0, 0)) (by (with_reducible repeat (first | refine blk_drewN ?_ _ | refine blk_drew ?_ | refine blk_alloc ?_ _)); exact BK109.out) hb); have n3_ := Aside0.mk (below_step (by repeat (first | (with_reducible first | exact HB.out | apply below_alloc | apply pw_below_drewN | apply below_drew1 | refine below_set ?_ GE106.out | refine below_set ?_ GE109.out) | exact HB.out)) hb); have n4_ := Aside0.mk (hbox); have n5_ := Aside0.mk ((by rw [hg]; exact (below_size (by repeat (first | (with_reducible first | exact HB.out | apply below_alloc | apply pw_below_drewN | apply below_drew1 | refine below_set ?_ GE106.out | refine below_set ?_ GE109.out) | exact HB.out))) : w.heap.size ≤ gb116)); have n6_ := Aside0.mk ((by rw [hg]; exact (below_size (by repeat (first | (with_reducible first | exact HB.out | apply below_alloc | apply pw_below_drewN | apply below_drew1 | refine below_set ?_ GE106.out | refine below_set ?_ GE109.out) | exact HB.out))) : w.heap.size ≤ gb116)); have n7_ := Aside0.mk ((by rw [hg]; exact Nat.ne_of_lt (blk_lt (g := gb106) (o := .cells #[.string a0_0, .int .i64 a0_1] 23 (0, 0)) (by (with_reducible repeat (first | refine blk_drewN ?_ _ | refine blk_drew ?_ | refine blk_alloc ?_ _)); exact BK106.out)) : gb106 ≠ gb116)); have n8_ := Aside0.mk ((by rw [hg]; exact Nat.ne_of_gt (blk_lt (g := gb106) (o := .cells #[.string a0_0, .int .i64 a0_1] 23 (0, 0)) (by (with_reducible repeat (first | refine blk_drewN ?_ _ | refine blk_drew ?_ | refine blk_alloc ?_ _)); exact BK106.out)) : gb116 ≠ gb106)); have n9_ := Aside0.mk ((by rw [hg]; exact Nat.ne_of_lt (blk_lt (g := gb109) (o := .cells #[.int .i64 8, .string (⟨#[]⟩ : ByteArray), .int .i64 (wrap64 (a1)), .bool false, .bool false] 29 (0, 0)) (by (with_reducible repeat (first | refine blk_drewN ?_ _ | refine blk_drew ?_ | refine blk_alloc ?_ _)); exact BK109.out)) : gb109 ≠ gb116)); have n10_ := Aside0.mk ((by rw [hg]; exact Nat.ne_of_gt (blk_lt (g := gb109) (o := .cells #[.int .i64 8, .string (⟨#[]⟩ : ByteArray), .int .i64 (wrap64 (a1)), .bool false, .bool false] 29 (0, 0)) (by (with_reducible repeat (first | refine blk_drewN ?_ _ | refine blk_drew ?_ | refine blk_alloc ?_ _)); exact BK109.out)) : gb116 ≠ gb109)); clear HO112; clear BK106; clear BK109; clear HB; have HO112 := n0_; have BK106 := n1_; have BK109 := n2_; have HB := n3_; have BK116 := n4_; have GW116 := n5_; have GE116 := n6_; have NB106_116 := n7_; have NB116_106 := n8_; have NB109_116 := n9_; have NB116_109 := n10_; clear n0_ n1_ n2_ n3_ n4_ n5_ n6_ n7_ n8_ n9_ n10_; clear hb hbox hg; have hnb56 := NB116_106.out; have hnc56 := NB106_116.out; have hnb57 := NB116_109.out; have hnc57 := NB109_116.out; have hcz58_0 : w55.cell? ⟨gb116, 0, none⟩ = some (.string (⟨#[]⟩ : ByteArray)) := (blk_cell BK116.out 0).trans rfl; have hcz58_1 : w55.cell? ⟨gb116, 1, none⟩ = some (.int .i64 0) := (blk_cell BK116.out 1).trans rfl; have hfz58_0 := blk_frozen BK116.out 0; have hfz58_1 := blk_frozen BK116.out 1))
                              have n0_ : Aside0 (Kd.R k29 29 ((w55.setCell ⟨gb116, 0, none⟩ (.string t113)).setCell ⟨gb116, 1, none⟩ (.int .i64 t114)) w.heap.size (fun k_ => k_ ≠ gb109) (.slice Ao53 y110.length co53) y110) := ⟨by (with_reducible repeat (first | apply Kd.R_alloc | apply Kd.R_drewN | apply Kd.R_drew)); exact Kd.R_mono (Kd.R_far (p := ⟨gb116, 1, none⟩) (Kd.R_far (p := ⟨gb116, 0, none⟩) (Kd.R_types HO112.out BK116.out (by decide)) (fun _ hk => hk.2) (.string t113)) (fun _ hk => hk.2) (.int .i64 t114)) (fun _ hk => hk.1.2)⟩
                              have n1_ : Aside0 (((w55.setCell ⟨gb116, 0, none⟩ (.string t113)).setCell ⟨gb116, 1, none⟩ (.int .i64 t114)).heap[gb106]? = some (.cells #[.string a0_0, .int .i64 a0_1] 23 (0, 0))) := ⟨by (with_reducible repeat (first | refine blk_drewN ?_ _ | refine blk_drew ?_ | refine blk_alloc ?_ _)); refine blk_far ?_ NB106_116.out _; (with_reducible repeat (first | refine blk_drewN ?_ _ | refine blk_drew ?_ | refine blk_alloc ?_ _)); refine blk_far ?_ NB106_116.out _; (with_reducible repeat (first | refine blk_drewN ?_ _ | refine blk_drew ?_ | refine blk_alloc ?_ _)); exact BK106.out⟩
                              have n2_ : Aside0 (((w55.setCell ⟨gb116, 0, none⟩ (.string t113)).setCell ⟨gb116, 1, none⟩ (.int .i64 t114)).heap[gb109]? = some (.cells #[.int .i64 8, .string (⟨#[]⟩ : ByteArray), .int .i64 (wrap64 (a1)), .bool false, .bool false] 29 (0, 0))) := ⟨by (with_reducible repeat (first | refine blk_drewN ?_ _ | refine blk_drew ?_ | refine blk_alloc ?_ _)); refine blk_far ?_ NB109_116.out _; (with_reducible repeat (first | refine blk_drewN ?_ _ | refine blk_drew ?_ | refine blk_alloc ?_ _)); refine blk_far ?_ NB109_116.out _; (with_reducible repeat (first | refine blk_drewN ?_ _ | refine blk_drew ?_ | refine blk_alloc ?_ _)); exact BK109.out⟩
                              have n3_ : Aside0 (((w55.setCell ⟨gb116, 0, none⟩ (.string t113)).setCell ⟨gb116, 1, none⟩ (.int .i64 t114)).heap[gb116]? = some (.cells #[.string t113, .int .i64 t114] 23 (0, 0))) := ⟨by (with_reducible repeat (first | refine blk_drewN ?_ _ | refine blk_drew ?_ | refine blk_alloc ?_ _)); refine blk_put (cs := #[.string t113, .int .i64 0]) ?_ 1 _ rfl; (with_reducible repeat (first | refine blk_drewN ?_ _ | refine blk_drew ?_ | refine blk_alloc ?_ _)); refine blk_put (cs := #[.string (⟨#[]⟩ : ByteArray), .int .i64 0]) ?_ 0 _ rfl; (with_reducible repeat (first | refine blk_drewN ?_ _ | refine blk_drew ?_ | refine blk_alloc ?_ _)); exact BK116.out⟩
                              have n4_ : Aside0 (Below w.heap.size w ((w55.setCell ⟨gb116, 0, none⟩ (.string t113)).setCell ⟨gb116, 1, none⟩ (.int .i64 t114))) := ⟨by repeat (first | (with_reducible first | exact HB.out | apply below_alloc | apply pw_below_drewN | apply below_drew1 | refine below_set ?_ GE106.out | refine below_set ?_ GE109.out | refine below_set ?_ GE116.out) | exact HB.out)⟩
                              (try clear HO112)
                              (try clear BK106)
                              (try clear BK109)
                              (try clear BK116)
                              (try clear HB)
                              generalize ((w55.setCell ⟨gb116, 0, none⟩ (.string t113)).setCell ⟨gb116, 1, none⟩ (.int .i64 t114)) = w59 at n0_ n1_ n2_ n3_ n4_ ⊢
                              have HO112 := n0_
                              have BK106 := n1_
                              have BK109 := n2_
                              have BK116 := n3_
                              have HB := n4_
                              clear n0_ n1_ n2_ n3_ n4_
                              have n0_ := Aside0.mk (Kd.R_drew HO112.out)
                              have n1_ := Aside0.mk (blk_drew BK106.out)
                              have n2_ := Aside0.mk (blk_drew BK109.out)
                              have n3_ := Aside0.mk (blk_drew BK116.out)
                              have n4_ := Aside0.mk (below_drew1 HB.out)
                              clear HO112
                              clear BK106
                              clear BK109
                              clear BK116
                              clear HB
                              have HO112 := n0_
                              have BK106 := n1_
                              have BK109 := n2_
                              have BK116 := n3_
                              have HB := n4_
                              clear n0_ n1_ n2_ n3_ n4_
                              have p35 : 0 ≤ (a0_1 : Int) := of_decide_eq_true (by first | (with_reducible assumption) | assumption)
                              have q35 : a0_1 < (a0_0.size : Int) := of_decide_eq_true (by first | (with_reducible assumption) | assumption)
                              have hx35 := bt_at a0_0 a0_1
                              replace p35 := eq_true p35
                              replace q35 := eq_true q35
                              refine start_ (n := 17) (S := fun w' => w'.cell? ⟨gb106, 0, none⟩ = some (.string a0_0) ∧ w'.cell? ⟨gb106, 1, none⟩ = some (.int .i64 a0_1) ∧ w'.cell? ⟨gb109, 0, none⟩ = some (.int .i64 8) ∧ w'.cell? ⟨gb109, 1, none⟩ = some (.string (⟨#[]⟩ : ByteArray)) ∧ w'.cell? ⟨gb109, 2, none⟩ = some (.int .i64 (wrap64 (a1))) ∧ w'.cell? ⟨gb109, 3, none⟩ = some (.bool false) ∧ w'.cell? ⟨gb109, 4, none⟩ = some (.bool false)) (ds := []) #[false, false, false, false, false, false, false, false, false, false, false, false, false, false, false, false, false] (by kernel_rfl) rfl rfl ⟨(blk_cell BK106.out 0).trans rfl, (blk_cell BK106.out 1).trans rfl, (blk_cell BK109.out 0).trans rfl, (blk_cell BK109.out 1).trans rfl, (blk_cell BK109.out 2).trans rfl, (blk_cell BK109.out 3).trans rfl, (blk_cell BK109.out 4).trans rfl⟩ (fun hHeld => ?_); refine with_tabW laws_FnReplaceBack.tab7 laws_FnReplaceBack.bits7 (fun HT_ HW_ => ?_)
                              generalize w59.drew = w60 at HO112 BK106 BK109 BK116 HB hHeld ⊢
                              refine pure_ (i := 2) (N := some 53) (v := ?_) (a' := ?_) #[false, false, true, false, false, false, false, false, false, false, false, false, false, false, false, false, false] rfl rfl (any_of HT_.out (by kernel_rfl)) (fun _ _ _ h => h) (Or.inl ⟨by rfl, ?_⟩) ?_ ?_
                              rotate_left
                              · intro w'
                                go_simp
                                with_reducible rfl
                              rotate_left
                              · simp only [Act.put, List.setIfInBounds_toArray, List.set_cons_zero, List.set_cons_succ, i64_w, i32_w]
                                rfl
                              refine pure_ (i := 4) (N := some 55) (v := ?_) (a' := ?_) #[false, false, true, false, true, false, false, false, false, false, false, false, false, false, false, false, false] rfl rfl (any_of HT_.out (by kernel_rfl)) (fun _ _ _ h => h) (Or.inl ⟨by rfl, ?_⟩) ?_ ?_
                              rotate_left
                              · intro w'
                                go_simp
                                with_reducible rfl
                              rotate_left
                              · simp only [Act.put, List.setIfInBounds_toArray, List.set_cons_zero, List.set_cons_succ, i64_w, i32_w]
                                rfl
                              refine take_ (i := 0) (N := some 51) (v := ?_) (a' := ?_) #[true, false, true, false, true, false, false, false, false, false, false, false, false, false, false, false, false] rfl rfl (take_ofW HT_.out HW_.out (by kernel_rfl)) (fun _ _ _ h => h) (Or.inl ⟨by rfl, ?_⟩) hHeld ?_ ?_
                              rotate_left
                              · rintro w' ⟨s0, s1, s2, s3, s4, s5, s6⟩
                                go_simp
                                with_reducible rfl
                              rotate_left
                              · simp only [Act.put, List.setIfInBounds_toArray, List.set_cons_zero, List.set_cons_succ, i64_w, i32_w]
                                rfl
                              refine take_ (i := 1) (N := some 52) (v := ?_) (a' := ?_) #[true, true, true, false, true, false, false, false, false, false, false, false, false, false, false, false, false] rfl rfl (take_ofW HT_.out HW_.out (by kernel_rfl)) (fun _ _ _ h => h) (Or.inl ⟨by rfl, ?_⟩) hHeld ?_ ?_
                              rotate_left
                              · rintro w' ⟨s0, s1, s2, s3, s4, s5, s6⟩
                                go_simp
                                with_reducible rfl
                              rotate_left
                              · simp only [Act.put, List.setIfInBounds_toArray, List.set_cons_zero, List.set_cons_succ, i64_w, i32_w]
                                rfl
                              refine take_ (i := 3) (N := some 54) (v := ?_) (a' := ?_) #[true, true, true, true, true, false, false, false, false, false, false, false, false, false, false, false, false] rfl rfl (take_ofW HT_.out HW_.out (by kernel_rfl)) (fun _ _ _ h => h) (Or.inl ⟨by rfl, ?_⟩) hHeld ?_ ?_
                              rotate_left
                              · rintro w' ⟨s0, s1, s2, s3, s4, s5, s6⟩
                                go_simp
                                with_reducible rfl
                              rotate_left
                              · simp only [Act.put, List.setIfInBounds_toArray, List.set_cons_zero, List.set_cons_succ, i64_w, i32_w]
                                rfl
                              refine take_ (i := 5) (N := some 56) (v := ?_) (a' := ?_) #[true, true, true, true, true, true, false, false, false, false, false, false, false, false, false, false, false] rfl rfl (take_ofW HT_.out HW_.out (by kernel_rfl)) (fun _ _ _ h => h) (Or.inl ⟨by rfl, ?_⟩) hHeld ?_ ?_
                              rotate_left
                              · rintro w' ⟨s0, s1, s2, s3, s4, s5, s6⟩
                                go_simp
                                with_reducible rfl
                              rotate_left
                              · simp only [Act.put, List.setIfInBounds_toArray, List.set_cons_zero, List.set_cons_succ, i64_w, i32_w]
                                rfl
                              refine take_ (i := 6) (N := some 57) (v := ?_) (a' := ?_) #[true, true, true, true, true, true, true, false, false, false, false, false, false, false, false, false, false] rfl rfl (take_ofW HT_.out HW_.out (by kernel_rfl)) (fun _ _ _ h => h) (Or.inl ⟨by rfl, ?_⟩) hHeld ?_ ?_
                              rotate_left
                              · rintro w' ⟨s0, s1, s2, s3, s4, s5, s6⟩
                                go_simp
                                with_reducible rfl
                              rotate_left
                              · simp only [Act.put, List.setIfInBounds_toArray, List.set_cons_zero, List.set_cons_succ, i64_w, i32_w]
                                rfl
                              refine pure_ (i := 7) (N := some 58) (v := ?_) (a' := ?_) #[true, true, true, true, true, true, true, true, false, false, false, false, false, false, false, false, false] rfl rfl (any_of HT_.out (by kernel_rfl)) (fun _ _ _ h => h) (Or.inl ⟨by rfl, ?_⟩) ?_ ?_
                              rotate_left
                              · intro w'
                                go_simp
                                with_reducible rfl
                              rotate_left
                              · simp only [Act.put, List.setIfInBounds_toArray, List.set_cons_zero, List.set_cons_succ, i64_w, i32_w]
                                rfl
                              refine pure_ (i := 8) (N := some 59) (v := ?_) (a' := ?_) #[true, true, true, true, true, true, true, true, true, false, false, false, false, false, false, false, false] rfl rfl (any_of HT_.out (by kernel_rfl)) (fun _ _ _ h => h) (Or.inl ⟨by rfl, ?_⟩) ?_ ?_
                              rotate_left
                              · intro w'
                                go_simp
                                with_reducible rfl
                              rotate_left
                              · simp only [Act.put, List.setIfInBounds_toArray, List.set_cons_zero, List.set_cons_succ, i64_w, i32_w]
                                rfl
                              refine join_ (σ := Value × Nat) 2 #[true, true, true, true, true, true, true, true, true, true, true, true, true, true, true, false, false] (fun s_ => [(60, s_.1), (61, .tuple #[.agg #[.string t120, .int .i64 t121], .bool true]), (8, .pointer (some ⟨s_.2, 0, none⟩)), (50, .tuple #[.agg #[.string t120, .int .i64 t121], .bool true]), (62, .agg #[.string t120, .int .i64 t121]), (63, .bool true)]) (fun s_ w' => (w'.cell? ⟨gb106, 0, none⟩ = some (.string a0_0) ∧ w'.cell? ⟨gb106, 1, none⟩ = some (.int .i64 a0_1) ∧ w'.cell? ⟨gb109, 0, none⟩ = some (.int .i64 8) ∧ w'.cell? ⟨gb109, 1, none⟩ = some (.string (⟨#[]⟩ : ByteArray)) ∧ w'.cell? ⟨gb109, 2, none⟩ = some (.int .i64 (wrap64 (a1))) ∧ w'.cell? ⟨gb109, 3, none⟩ = some (.bool false) ∧ w'.cell? ⟨gb109, 4, none⟩ = some (.bool false)) ∧ (Kd.R k29 29 w' w.heap.size (fun k_ => some k_ ≠ (s_.1 : Value).ownBlock ∧ k_ ≠ gb109) (.slice Ao53 y110.length co53) y110) ∧ (Kd.R k29 29 w' w.heap.size (fun k_ => some k_ ≠ (.slice Ao53 y110.length co53 : Value).ownBlock ∧ k_ ≠ gb109) s_.1 y117) ∧ (w'.heap[gb106]? = some (.cells #[.string a0_0, .int .i64 a0_1] 23 (0, 0))) ∧ (w'.heap[gb109]? = some (.cells #[.int .i64 8, .string (⟨#[]⟩ : ByteArray), .int .i64 (wrap64 (a1)), .bool false, .bool false] 29 (0, 0))) ∧ (w'.heap[gb116]? = some (.cells #[.string t113, .int .i64 t114] 23 (0, 0))) ∧ (w'.heap[s_.2]? = some (.cells #[.string (⟨#[]⟩ : ByteArray), .int .i64 0] 23 (0, 0))) ∧ (w.heap.size ≤ s_.2) ∧ (w.heap.size ≤ s_.2) ∧ (gb106 ≠ s_.2) ∧ (s_.2 ≠ gb106) ∧ (gb109 ≠ s_.2) ∧ (s_.2 ≠ gb109) ∧ (gb116 ≠ s_.2) ∧ (s_.2 ≠ gb116) ∧ (Below w.heap.size w w')) ?_ ?_
                              rotate_left
                              · intro hCont
                                refine two_ (i := 9) (j := 14) (Ni := some 60) (Nj := some 8) #[true, true, true, true, true, true, true, true, true, true, false, false, false, false, false, false, false] #[true, true, true, true, true, true, true, true, true, false, false, false, false, false, true, false, false] rfl rfl rfl rfl (two_of HT_.out (by kernel_rfl)) (by decide) (by decide) (fun K hK => ?_) (fun K hK => ?_)
                                · skip
                                  refine Kd.R_lit_step k29 _ 29 ?hg (N := 60) ?hd (xs := ([(⟨8, (⟨#[]⟩ : ByteArray), wrap64 (a1), false, false⟩ : S29), (⟨8, (⟨#[]⟩ : ByteArray), wrap64 (bt a0_0 a0_1), false, false⟩ : S29)] : List (S29))) (inner := [.int .i64 8, .string (⟨#[]⟩ : ByteArray), .int .i64 (wrap64 (a1)), .bool false, .bool false, .int .i64 8, .string (⟨#[]⟩ : ByteArray), .int .i64 (wrap64 (bt a0_0 a0_1)), .bool false, .bool false]) (ok := fun _ => True) (okp := fun _ => True) ?hr ?hp (fun _ hk => hk) trivial (Below.refl _ _) (Nat.le_refl _) (by simp) ?_; (case hd => rfl); (case hg => rfl); (case hr => first | (go_simp; done) | (go_simp; rfl)); (case hp => exact (Reps.c5 (show Kd.M k29 _ _ _ (⟨8, (⟨#[]⟩ : ByteArray), wrap64 (a1), false, false⟩ : S29) [.int .i64 8, .string (⟨#[]⟩ : ByteArray), .int .i64 (wrap64 (a1)), .bool false, .bool false] from (k29_mkM _ _ _ (⟨8, (⟨#[]⟩ : ByteArray), wrap64 (a1), false, false⟩ : S29) )) (Reps.c5 (show Kd.M k29 _ _ _ (⟨8, (⟨#[]⟩ : ByteArray), wrap64 (bt a0_0 a0_1), false, false⟩ : S29) [.int .i64 8, .string (⟨#[]⟩ : ByteArray), .int .i64 (wrap64 (bt a0_0 a0_1)), .bool false, .bool false] from (k29_mkM _ _ _ (⟨8, (⟨#[]⟩ : ByteArray), wrap64 (bt a0_0 a0_1), false, false⟩ : S29) )) (Reps.none _ _))))
                                  intro v118 w61 ho62 hb hg_ hnew_
                                  clear hg_ hnew_
                                  (first | rw [← Ny117.out] at ho62 | (simp only [Int.reduceToNat] at ho62; rw [← Ny117.out] at ho62))
                                  have n0_ := Aside0.mk (Kd.R_elder' (by (with_reducible repeat (first | apply Kd.R_alloc | apply Kd.R_drewN | apply Kd.R_drew)); exact HO112.out) (Kd.R_base ho62) hb)
                                  have n1_ := Aside0.mk (Kd.R_lower (Kd.R_newB (Kd.R_new' ho62 (Kd.R_lt (by (with_reducible repeat (first | apply Kd.R_alloc | apply Kd.R_drewN | apply Kd.R_drew)); exact HO112.out))) (g := gb109) (o := .cells #[.int .i64 8, .string (⟨#[]⟩ : ByteArray), .int .i64 (wrap64 (a1)), .bool false, .bool false] 29 (0, 0)) (by (with_reducible repeat (first | refine blk_drewN ?_ _ | refine blk_drew ?_ | refine blk_alloc ?_ _)); exact BK109.out)) (below_size (by repeat (first | (with_reducible first | exact HB.out | apply below_alloc | apply pw_below_drewN | apply below_drew1 | refine below_set ?_ GE106.out | refine below_set ?_ GE109.out | refine below_set ?_ GE116.out) | exact HB.out))))
                                  have n2_ := Aside0.mk (blk_below (g := gb106) (o := .cells #[.string a0_0, .int .i64 a0_1] 23 (0, 0)) (by (with_reducible repeat (first | refine blk_drewN ?_ _ | refine blk_drew ?_ | refine blk_alloc ?_ _)); exact BK106.out) hb)
                                  have n3_ := Aside0.mk (blk_below (g := gb109) (o := .cells #[.int .i64 8, .string (⟨#[]⟩ : ByteArray), .int .i64 (wrap64 (a1)), .bool false, .bool false] 29 (0, 0)) (by (with_reducible repeat (first | refine blk_drewN ?_ _ | refine blk_drew ?_ | refine blk_alloc ?_ _)); exact BK109.out) hb)
                                  have n4_ := Aside0.mk (blk_below (g := gb116) (o := .cells #[.string t113, .int .i64 t114] 23 (0, 0)) (by (with_reducible repeat (first | refine blk_drewN ?_ _ | refine blk_drew ?_ | refine blk_alloc ?_ _)); exact BK116.out) hb)
                                  have n5_ := Aside0.mk (below_step (by repeat (first | (with_reducible first | exact HB.out | apply below_alloc | apply pw_below_drewN | apply below_drew1 | refine below_set ?_ GE106.out | refine below_set ?_ GE109.out | refine below_set ?_ GE116.out) | exact HB.out)) hb)
                                  clear HO112
                                  clear BK106
                                  clear BK109
                                  clear BK116
                                  clear HB
                                  have HO112 := n0_
                                  have HO119 := n1_
                                  have BK106 := n2_
                                  have BK109 := n3_
                                  have BK116 := n4_
                                  have HB := n5_
                                  clear n0_ n1_ n2_ n3_ n4_ n5_
                                  clear hb ho62
                                  obtain ⟨Ao63, co63, eo63⟩ := Kd.R_slice HO119.out
                                  (first | subst eo63 | (injection eo63 with f1_ f2_ f3_; have f4_ := f1_.symm; have f5_ := f3_.symm; clear f1_ f2_ f3_; subst f4_; subst f5_))
                                  refine hK.out _ _ ⟨(blk_cell BK106.out 0).trans rfl, (blk_cell BK106.out 1).trans rfl, (blk_cell BK109.out 0).trans rfl, (blk_cell BK109.out 1).trans rfl, (blk_cell BK109.out 2).trans rfl, (blk_cell BK109.out 3).trans rfl, (blk_cell BK109.out 4).trans rfl⟩ (fun hHeld => ?_)
                                  clear hK K
                                  refine norm_ (a' := ?_) ?_ ?_
                                  rotate_left
                                  · show Act.put _ (some 60) _ = _
                                    simp only [Act.put, List.setIfInBounds_toArray, List.set_cons_zero, List.set_cons_succ, i64_w, i32_w]
                                    rfl
                                  refine two_ (i := 10) (j := 14) (Ni := some 61) (Nj := some 8) #[true, true, true, true, true, true, true, true, true, true, true, false, false, false, false, false, false] #[true, true, true, true, true, true, true, true, true, true, false, false, false, false, true, false, false] rfl rfl rfl rfl (two_of HT_.out (by kernel_rfl)) (by decide) (by decide) (fun K hK => ?_) (fun K hK => ?_)
                                  · skip
                                    refine goes_ Tryd.func15 (by kernel_rfl) rfl #[.agg #[.string a0_0, .int .i64 a0_1], .slice Ao63 y117.length co63] (by rfl) rfl rfl (by (try simp only [List.map_toArray, List.map_cons, List.map_nil]); first | done | rfl | (simp only [List.length_drop, List.length_take]; rfl) | (simp only [Int.toNat_natCast, ByteArray.extract_zero_size]; rfl)) ?_
                                    with_reducible refine (laws_after9.calls a0_0 a0_1 _ _ y117 t120 t121 true _ ?side1 ?side2 A36.out).mono ?_
                                    (case side1 => repeat (first | exact (Kd.R_reads' HO119.out).2.2 | (with_reducible refine Kd.C_alloc ?_ _) | (with_reducible refine Kd.C_drewN ?_ _) | (with_reducible refine Kd.C_drew ?_)))
                                    (case side2 => exact (Kd.R_reads' HO119.out).2.1)
                                    rintro e w64 ⟨rfl, hb⟩
                                    refine ⟨_, rfl, ?_⟩
                                    have n0_ := Aside0.mk (Kd.R_below (by (with_reducible repeat (first | apply Kd.R_alloc | apply Kd.R_drewN | apply Kd.R_drew)); exact HO112.out) hb)
                                    have n1_ := Aside0.mk (Kd.R_below (by (with_reducible repeat (first | apply Kd.R_alloc | apply Kd.R_drewN | apply Kd.R_drew)); exact HO119.out) hb)
                                    have n2_ := Aside0.mk (blk_below (g := gb106) (o := .cells #[.string a0_0, .int .i64 a0_1] 23 (0, 0)) (by (with_reducible repeat (first | refine blk_drewN ?_ _ | refine blk_drew ?_ | refine blk_alloc ?_ _)); exact BK106.out) hb)
                                    have n3_ := Aside0.mk (blk_below (g := gb109) (o := .cells #[.int .i64 8, .string (⟨#[]⟩ : ByteArray), .int .i64 (wrap64 (a1)), .bool false, .bool false] 29 (0, 0)) (by (with_reducible repeat (first | refine blk_drewN ?_ _ | refine blk_drew ?_ | refine blk_alloc ?_ _)); exact BK109.out) hb)
                                    have n4_ := Aside0.mk (blk_below (g := gb116) (o := .cells #[.string t113, .int .i64 t114] 23 (0, 0)) (by (with_reducible repeat (first | refine blk_drewN ?_ _ | refine blk_drew ?_ | refine blk_alloc ?_ _)); exact BK116.out) hb)
                                    have n5_ := Aside0.mk (below_step (by repeat (first | (with_reducible first | exact HB.out | apply below_alloc | apply pw_below_drewN | apply below_drew1 | refine below_set ?_ GE106.out | refine below_set ?_ GE109.out | refine below_set ?_ GE116.out) | exact HB.out)) hb)
                                    clear HO112
                                    clear HO119
                                    clear BK106
                                    clear BK109
                                    clear BK116
                                    clear HB
                                    have HO112 := n0_
                                    have HO119 := n1_
                                    have BK106 := n2_
                                    have BK109 := n3_
                                    have BK116 := n4_
                                    have HB := n5_
                                    clear n0_ n1_ n2_ n3_ n4_ n5_
                                    (try clear hb)
                                    (try clear hb2)
                                    (try clear hk)
                                    (try clear hi)
                                    refine hK.out _ _ ⟨(blk_cell BK106.out 0).trans rfl, (blk_cell BK106.out 1).trans rfl, (blk_cell BK109.out 0).trans rfl, (blk_cell BK109.out 1).trans rfl, (blk_cell BK109.out 2).trans rfl, (blk_cell BK109.out 3).trans rfl, (blk_cell BK109.out 4).trans rfl⟩ (fun hHeld => ?_)
                                    clear hK K
                                    refine norm_ (a' := ?_) ?_ ?_
                                    rotate_left
                                    · show Act.put _ (some 61) _ = _
                                      simp only [Act.put, List.setIfInBounds_toArray, List.set_cons_zero, List.set_cons_succ, i64_w, i32_w]
                                      rfl
                                    refine pure_ (i := 11) (N := some 50) (v := ?_) (a' := ?_) #[true, true, true, true, true, true, true, true, true, true, true, true, false, false, false, false, false] rfl rfl (any_of HT_.out (by kernel_rfl)) (fun _ _ _ h => h) (Or.inl ⟨by rfl, ?_⟩) ?_ ?_
                                    rotate_left
                                    · intro w'
                                      go_simp
                                      with_reducible rfl
                                    rotate_left
                                    · simp only [Act.put, List.setIfInBounds_toArray, List.set_cons_zero, List.set_cons_succ, i64_w, i32_w]
                                      rfl
                                    refine pure_ (i := 12) (N := some 62) (v := ?_) (a' := ?_) #[true, true, true, true, true, true, true, true, true, true, true, true, true, false, false, false, false] rfl rfl (any_of HT_.out (by kernel_rfl)) (fun _ _ _ h => h) (Or.inl ⟨by rfl, ?_⟩) ?_ ?_
                                    rotate_left
                                    · intro w'
                                      go_simp
                                      with_reducible rfl
                                    rotate_left
                                    · simp only [Act.put, List.setIfInBounds_toArray, List.set_cons_zero, List.set_cons_succ, i64_w, i32_w]
                                      rfl
                                    refine pure_ (i := 13) (N := some 63) (v := ?_) (a' := ?_) #[true, true, true, true, true, true, true, true, true, true, true, true, true, true, false, false, false] rfl rfl (any_of HT_.out (by kernel_rfl)) (fun _ _ _ h => h) (Or.inl ⟨by rfl, ?_⟩) ?_ ?_
                                    rotate_left
                                    · intro w'
                                      go_simp
                                      with_reducible rfl
                                    rotate_left
                                    · simp only [Act.put, List.setIfInBounds_toArray, List.set_cons_zero, List.set_cons_succ, i64_w, i32_w]
                                      rfl
                                    refine one_ (i := 14) (N := some 8) #[true, true, true, true, true, true, true, true, true, true, true, true, true, true, true, false, false] rfl rfl (one_of HT_.out (by kernel_rfl)) (by decide) (fun K hK => ?_)
                                    refine box_step ?hg (N := 8) ?hd (cs := #[.string (⟨#[]⟩ : ByteArray), .int .i64 0]) (t := 23) ?hr ?_; (case hd => rfl); (case hg => rfl); (case hr => first | (go_simp; done) | (go_simp; rfl))
                                    intro gb123 hg w65 hbox hb
                                    have n0_ := Aside0.mk (Kd.R_below (by (with_reducible repeat (first | apply Kd.R_alloc | apply Kd.R_drewN | apply Kd.R_drew)); exact HO112.out) hb)
                                    have n1_ := Aside0.mk (Kd.R_below (by (with_reducible repeat (first | apply Kd.R_alloc | apply Kd.R_drewN | apply Kd.R_drew)); exact HO119.out) hb)
                                    have n2_ := Aside0.mk (blk_below (g := gb106) (o := .cells #[.string a0_0, .int .i64 a0_1] 23 (0, 0)) (by (with_reducible repeat (first | refine blk_drewN ?_ _ | refine blk_drew ?_ | refine blk_alloc ?_ _)); exact BK106.out) hb)
                                    have n3_ := Aside0.mk (blk_below (g := gb109) (o := .cells #[.int .i64 8, .string (⟨#[]⟩ : ByteArray), .int .i64 (wrap64 (a1)), .bool false, .bool false] 29 (0, 0)) (by (with_reducible repeat (first | refine blk_drewN ?_ _ | refine blk_drew ?_ | refine blk_alloc ?_ _)); exact BK109.out) hb)
                                    have n4_ := Aside0.mk (blk_below (g := gb116) (o := .cells #[.string t113, .int .i64 t114] 23 (0, 0)) (by (with_reducible repeat (first | refine blk_drewN ?_ _ | refine blk_drew ?_ | refine blk_alloc ?_ _)); exact BK116.out) hb)
                                    have n5_ := Aside0.mk (below_step (by repeat (first | (with_reducible first | exact HB.out | apply below_alloc | apply pw_below_drewN | apply below_drew1 | refine below_set ?_ GE106.out | refine below_set ?_ GE109.out | refine below_set ?_ GE116.out) | exact HB.out)) hb)
                                    have n6_ := Aside0.mk (hbox)
                                    have n7_ := Aside0.mk ((by rw [hg]; exact (below_size (by repeat (first | (with_reducible first | exact HB.out | apply below_alloc | apply pw_below_drewN | apply below_drew1 | refine below_set ?_ GE106.out | refine below_set ?_ GE109.out | refine below_set ?_ GE116.out) | exact HB.out))) : w.heap.size ≤ gb123))
                                    have n8_ := Aside0.mk ((by rw [hg]; exact (below_size (by repeat (first | (with_reducible first | exact HB.out | apply below_alloc | apply pw_below_drewN | apply below_drew1 | refine below_set ?_ GE106.out | refine below_set ?_ GE109.out | refine below_set ?_ GE116.out) | exact HB.out))) : w.heap.size ≤ gb123))
                                    have n9_ := Aside0.mk ((by rw [hg]; exact Nat.ne_of_lt (blk_lt (g := gb106) (o := .cells #[.string a0_0, .int .i64 a0_1] 23 (0, 0)) (by (with_reducible repeat (first | refine blk_drewN ?_ _ | refine blk_drew ?_ | refine blk_alloc ?_ _)); exact BK106.out)) : gb106 ≠ gb123))
                                    have n10_ := Aside0.mk ((by rw [hg]; exact Nat.ne_of_gt (blk_lt (g := gb106) (o := .cells #[.string a0_0, .int .i64 a0_1] 23 (0, 0)) (by (with_reducible repeat (first | refine blk_drewN ?_ _ | refine blk_drew ?_ | refine blk_alloc ?_ _)); exact BK106.out)) : gb123 ≠ gb106))
                                    have n11_ := Aside0.mk ((by rw [hg]; exact Nat.ne_of_lt (blk_lt (g := gb109) (o := .cells #[.int .i64 8, .string (⟨#[]⟩ : ByteArray), .int .i64 (wrap64 (a1)), .bool false, .bool false] 29 (0, 0)) (by (with_reducible repeat (first | refine blk_drewN ?_ _ | refine blk_drew ?_ | refine blk_alloc ?_ _)); exact BK109.out)) : gb109 ≠ gb123))
                                    have n12_ := Aside0.mk ((by rw [hg]; exact Nat.ne_of_gt (blk_lt (g := gb109) (o := .cells #[.int .i64 8, .string (⟨#[]⟩ : ByteArray), .int .i64 (wrap64 (a1)), .bool false, .bool false] 29 (0, 0)) (by (with_reducible repeat (first | refine blk_drewN ?_ _ | refine blk_drew ?_ | refine blk_alloc ?_ _)); exact BK109.out)) : gb123 ≠ gb109))
                                    have n13_ := Aside0.mk ((by rw [hg]; exact Nat.ne_of_lt (blk_lt (g := gb116) (o := .cells #[.string t113, .int .i64 t114] 23 (0, 0)) (by (with_reducible repeat (first | refine blk_drewN ?_ _ | refine blk_drew ?_ | refine blk_alloc ?_ _)); exact BK116.out)) : gb116 ≠ gb123))
                                    have n14_ := Aside0.mk ((by rw [hg]; exact Nat.ne_of_gt (blk_lt (g := gb116) (o := .cells #[.string t113, .int .i64 t114] 23 (0, 0)) (by (with_reducible repeat (first | refine blk_drewN ?_ _ | refine blk_drew ?_ | refine blk_alloc ?_ _)); exact BK116.out)) : gb123 ≠ gb116))
                                    clear HO112
                                    clear HO119
                                    clear BK106
                                    clear BK109
                                    clear BK116
                                    clear HB
                                    have HO112 := n0_
                                    have HO119 := n1_
                                    have BK106 := n2_
                                    have BK109 := n3_
                                    have BK116 := n4_
                                    have HB := n5_
                                    have BK123 := n6_
                                    have GW123 := n7_
                                    have GE123 := n8_
                                    have NB106_123 := n9_
                                    have NB123_106 := n10_
                                    have NB109_123 := n11_
                                    have NB123_109 := n12_
                                    have NB116_123 := n13_
                                    have NB123_116 := n14_
                                    clear n0_ n1_ n2_ n3_ n4_ n5_ n6_ n7_ n8_ n9_ n10_ n11_ n12_ n13_ n14_
                                    clear hb hbox hg
                                    refine hK.out _ _ ⟨(blk_cell BK106.out 0).trans rfl, (blk_cell BK106.out 1).trans rfl, (blk_cell BK109.out 0).trans rfl, (blk_cell BK109.out 1).trans rfl, (blk_cell BK109.out 2).trans rfl, (blk_cell BK109.out 3).trans rfl, (blk_cell BK109.out 4).trans rfl⟩ (fun hHeld => ?_)
                                    clear hK K
                                    refine norm_ (a' := ?_) ?_ ?_
                                    rotate_left
                                    · show Act.put _ (some 8) _ = _
                                      simp only [Act.put, List.setIfInBounds_toArray, List.set_cons_zero, List.set_cons_succ, i64_w, i32_w]
                                      rfl
                                    exact norm_ (by simp only [putAll, Act.put, List.setIfInBounds_toArray, List.set_cons_zero, List.set_cons_succ]) (hCont (.slice Ao63 y117.length co63, gb123) _ ⟨hHeld, (by (with_reducible repeat (first | apply Kd.R_alloc | apply Kd.R_drewN | apply Kd.R_drew)); exact Kd.R_mono HO112.out (fun _ hk => ⟨hk.2, hk.1⟩)), (by (with_reducible repeat (first | apply Kd.R_alloc | apply Kd.R_drewN | apply Kd.R_drew)); exact Kd.R_mono HO119.out (fun _ hk => ⟨hk.1.2, hk.2⟩)), (by (with_reducible repeat (first | refine blk_drewN ?_ _ | refine blk_drew ?_ | refine blk_alloc ?_ _)); exact BK106.out), (by (with_reducible repeat (first | refine blk_drewN ?_ _ | refine blk_drew ?_ | refine blk_alloc ?_ _)); exact BK109.out), (by (with_reducible repeat (first | refine blk_drewN ?_ _ | refine blk_drew ?_ | refine blk_alloc ?_ _)); exact BK116.out), (by (with_reducible repeat (first | refine blk_drewN ?_ _ | refine blk_drew ?_ | refine blk_alloc ?_ _)); exact BK123.out), GW123.out, GE123.out, NB106_123.out, NB123_106.out, NB109_123.out, NB123_109.out, NB116_123.out, NB123_116.out, (by repeat (first | (with_reducible first | exact HB.out | apply below_alloc | apply pw_below_drewN | apply below_drew1 | refine below_set ?_ GE106.out | refine below_set ?_ GE109.out | refine below_set ?_ GE116.out | refine below_set ?_ GE123.out) | exact HB.out))⟩)
                                  · skip
                                    refine box_step ?hg (N := 8) ?hd (cs := #[.string (⟨#[]⟩ : ByteArray), .int .i64 0]) (t := 23) ?hr ?_; (case hd => rfl); (case hg => rfl); (case hr => first | (go_simp; done) | (go_simp; rfl))
                                    intro gb123 hg w63 hbox hb
                                    have n0_ := Aside0.mk (Kd.R_below (by (with_reducible repeat (first | apply Kd.R_alloc | apply Kd.R_drewN | apply Kd.R_drew)); exact HO112.out) hb)
                                    have n1_ := Aside0.mk (Kd.R_below (by (with_reducible repeat (first | apply Kd.R_alloc | apply Kd.R_drewN | apply Kd.R_drew)); exact HO119.out) hb)
                                    have n2_ := Aside0.mk (blk_below (g := gb106) (o := .cells #[.string a0_0, .int .i64 a0_1] 23 (0, 0)) (by (with_reducible repeat (first | refine blk_drewN ?_ _ | refine blk_drew ?_ | refine blk_alloc ?_ _)); exact BK106.out) hb)
                                    have n3_ := Aside0.mk (blk_below (g := gb109) (o := .cells #[.int .i64 8, .string (⟨#[]⟩ : ByteArray), .int .i64 (wrap64 (a1)), .bool false, .bool false] 29 (0, 0)) (by (with_reducible repeat (first | refine blk_drewN ?_ _ | refine blk_drew ?_ | refine blk_alloc ?_ _)); exact BK109.out) hb)
                                    have n4_ := Aside0.mk (blk_below (g := gb116) (o := .cells #[.string t113, .int .i64 t114] 23 (0, 0)) (by (with_reducible repeat (first | refine blk_drewN ?_ _ | refine blk_drew ?_ | refine blk_alloc ?_ _)); exact BK116.out) hb)
                                    have n5_ := Aside0.mk (below_step (by repeat (first | (with_reducible first | exact HB.out | apply below_alloc | apply pw_below_drewN | apply below_drew1 | refine below_set ?_ GE106.out | refine below_set ?_ GE109.out | refine below_set ?_ GE116.out) | exact HB.out)) hb)
                                    have n6_ := Aside0.mk (hbox)
                                    have n7_ := Aside0.mk ((by rw [hg]; exact (below_size (by repeat (first | (with_reducible first | exact HB.out | apply below_alloc | apply pw_below_drewN | apply below_drew1 | refine below_set ?_ GE106.out | refine below_set ?_ GE109.out | refine below_set ?_ GE116.out) | exact HB.out))) : w.heap.size ≤ gb123))
                                    have n8_ := Aside0.mk ((by rw [hg]; exact (below_size (by repeat (first | (with_reducible first | exact HB.out | apply below_alloc | apply pw_below_drewN | apply below_drew1 | refine below_set ?_ GE106.out | refine below_set ?_ GE109.out | refine below_set ?_ GE116.out) | exact HB.out))) : w.heap.size ≤ gb123))
                                    have n9_ := Aside0.mk ((by rw [hg]; exact Nat.ne_of_lt (blk_lt (g := gb106) (o := .cells #[.string a0_0, .int .i64 a0_1] 23 (0, 0)) (by (with_reducible repeat (first | refine blk_drewN ?_ _ | refine blk_drew ?_ | refine blk_alloc ?_ _)); exact BK106.out)) : gb106 ≠ gb123))
                                    have n10_ := Aside0.mk ((by rw [hg]; exact Nat.ne_of_gt (blk_lt (g := gb106) (o := .cells #[.string a0_0, .int .i64 a0_1] 23 (0, 0)) (by (with_reducible repeat (first | refine blk_drewN ?_ _ | refine blk_drew ?_ | refine blk_alloc ?_ _)); exact BK106.out)) : gb123 ≠ gb106))
                                    have n11_ := Aside0.mk ((by rw [hg]; exact Nat.ne_of_lt (blk_lt (g := gb109) (o := .cells #[.int .i64 8, .string (⟨#[]⟩ : ByteArray), .int .i64 (wrap64 (a1)), .bool false, .bool false] 29 (0, 0)) (by (with_reducible repeat (first | refine blk_drewN ?_ _ | refine blk_drew ?_ | refine blk_alloc ?_ _)); exact BK109.out)) : gb109 ≠ gb123))
                                    have n12_ := Aside0.mk ((by rw [hg]; exact Nat.ne_of_gt (blk_lt (g := gb109) (o := .cells #[.int .i64 8, .string (⟨#[]⟩ : ByteArray), .int .i64 (wrap64 (a1)), .bool false, .bool false] 29 (0, 0)) (by (with_reducible repeat (first | refine blk_drewN ?_ _ | refine blk_drew ?_ | refine blk_alloc ?_ _)); exact BK109.out)) : gb123 ≠ gb109))
                                    have n13_ := Aside0.mk ((by rw [hg]; exact Nat.ne_of_lt (blk_lt (g := gb116) (o := .cells #[.string t113, .int .i64 t114] 23 (0, 0)) (by (with_reducible repeat (first | refine blk_drewN ?_ _ | refine blk_drew ?_ | refine blk_alloc ?_ _)); exact BK116.out)) : gb116 ≠ gb123))
                                    have n14_ := Aside0.mk ((by rw [hg]; exact Nat.ne_of_gt (blk_lt (g := gb116) (o := .cells #[.string t113, .int .i64 t114] 23 (0, 0)) (by (with_reducible repeat (first | refine blk_drewN ?_ _ | refine blk_drew ?_ | refine blk_alloc ?_ _)); exact BK116.out)) : gb123 ≠ gb116))
                                    clear HO112
                                    clear HO119
                                    clear BK106
                                    clear BK109
                                    clear BK116
                                    clear HB
                                    have HO112 := n0_
                                    have HO119 := n1_
                                    have BK106 := n2_
                                    have BK109 := n3_
                                    have BK116 := n4_
                                    have HB := n5_
                                    have BK123 := n6_
                                    have GW123 := n7_
                                    have GE123 := n8_
                                    have NB106_123 := n9_
                                    have NB123_106 := n10_
                                    have NB109_123 := n11_
                                    have NB123_109 := n12_
                                    have NB116_123 := n13_
                                    have NB123_116 := n14_
                                    clear n0_ n1_ n2_ n3_ n4_ n5_ n6_ n7_ n8_ n9_ n10_ n11_ n12_ n13_ n14_
                                    clear hb hbox hg
                                    obtain ⟨Ao64, co64, eo64⟩ := Kd.R_slice HO119.out
                                    (first | subst eo64 | (injection eo64 with f1_ f2_ f3_; have f4_ := f1_.symm; have f5_ := f3_.symm; clear f1_ f2_ f3_; subst f4_; subst f5_))
                                    refine hK.out _ _ ⟨(blk_cell BK106.out 0).trans rfl, (blk_cell BK106.out 1).trans rfl, (blk_cell BK109.out 0).trans rfl, (blk_cell BK109.out 1).trans rfl, (blk_cell BK109.out 2).trans rfl, (blk_cell BK109.out 3).trans rfl, (blk_cell BK109.out 4).trans rfl⟩ (fun hHeld => ?_)
                                    clear hK K
                                    refine norm_ (a' := ?_) ?_ ?_
                                    rotate_left
                                    · show Act.put _ (some 8) _ = _
                                      simp only [Act.put, List.setIfInBounds_toArray, List.set_cons_zero, List.set_cons_succ, i64_w, i32_w]
                                      rfl
                                    refine one_ (i := 10) (N := some 61) #[true, true, true, true, true, true, true, true, true, true, true, false, false, false, true, false, false] rfl rfl (one_of HT_.out (by kernel_rfl)) (by decide) (fun K hK => ?_)
                                    refine goes_ Tryd.func15 (by kernel_rfl) rfl #[.agg #[.string a0_0, .int .i64 a0_1], .slice Ao64 y117.length co64] (by rfl) rfl rfl (by (try simp only [List.map_toArray, List.map_cons, List.map_nil]); first | done | rfl | (simp only [List.length_drop, List.length_take]; rfl) | (simp only [Int.toNat_natCast, ByteArray.extract_zero_size]; rfl)) ?_
                                    with_reducible refine (laws_after9.calls a0_0 a0_1 _ _ y117 t120 t121 true _ ?side1 ?side2 A36.out).mono ?_
                                    (case side1 => repeat (first | exact (Kd.R_reads' HO119.out).2.2 | (with_reducible refine Kd.C_alloc ?_ _) | (with_reducible refine Kd.C_drewN ?_ _) | (with_reducible refine Kd.C_drew ?_)))
                                    (case side2 => exact (Kd.R_reads' HO119.out).2.1)
                                    rintro e w65 ⟨rfl, hb⟩
                                    refine ⟨_, rfl, ?_⟩
                                    have n0_ := Aside0.mk (Kd.R_below (by (with_reducible repeat (first | apply Kd.R_alloc | apply Kd.R_drewN | apply Kd.R_drew)); exact HO112.out) hb)
                                    have n1_ := Aside0.mk (Kd.R_below (by (with_reducible repeat (first | apply Kd.R_alloc | apply Kd.R_drewN | apply Kd.R_drew)); exact HO119.out) hb)
                                    have n2_ := Aside0.mk (blk_below (g := gb106) (o := .cells #[.string a0_0, .int .i64 a0_1] 23 (0, 0)) (by (with_reducible repeat (first | refine blk_drewN ?_ _ | refine blk_drew ?_ | refine blk_alloc ?_ _)); exact BK106.out) hb)
                                    have n3_ := Aside0.mk (blk_below (g := gb109) (o := .cells #[.int .i64 8, .string (⟨#[]⟩ : ByteArray), .int .i64 (wrap64 (a1)), .bool false, .bool false] 29 (0, 0)) (by (with_reducible repeat (first | refine blk_drewN ?_ _ | refine blk_drew ?_ | refine blk_alloc ?_ _)); exact BK109.out) hb)
                                    have n4_ := Aside0.mk (blk_below (g := gb116) (o := .cells #[.string t113, .int .i64 t114] 23 (0, 0)) (by (with_reducible repeat (first | refine blk_drewN ?_ _ | refine blk_drew ?_ | refine blk_alloc ?_ _)); exact BK116.out) hb)
                                    have n5_ := Aside0.mk (blk_below (g := gb123) (o := .cells #[.string (⟨#[]⟩ : ByteArray), .int .i64 0] 23 (0, 0)) (by (with_reducible repeat (first | refine blk_drewN ?_ _ | refine blk_drew ?_ | refine blk_alloc ?_ _)); exact BK123.out) hb)
                                    have n6_ := Aside0.mk (below_step (by repeat (first | (with_reducible first | exact HB.out | apply below_alloc | apply pw_below_drewN | apply below_drew1 | refine below_set ?_ GE106.out | refine below_set ?_ GE109.out | refine below_set ?_ GE116.out | refine below_set ?_ GE123.out) | exact HB.out)) hb)
                                    clear HO112
                                    clear HO119
                                    clear BK106
                                    clear BK109
                                    clear BK116
                                    clear BK123
                                    clear HB
                                    have HO112 := n0_
                                    have HO119 := n1_
                                    have BK106 := n2_
                                    have BK109 := n3_
                                    have BK116 := n4_
                                    have BK123 := n5_
                                    have HB := n6_
                                    clear n0_ n1_ n2_ n3_ n4_ n5_ n6_
                                    (try clear hb)
                                    (try clear hb2)
                                    (try clear hk)
                                    (try clear hi)
                                    refine hK.out _ _ ⟨(blk_cell BK106.out 0).trans rfl, (blk_cell BK106.out 1).trans rfl, (blk_cell BK109.out 0).trans rfl, (blk_cell BK109.out 1).trans rfl, (blk_cell BK109.out 2).trans rfl, (blk_cell BK109.out 3).trans rfl, (blk_cell BK109.out 4).trans rfl⟩ (fun hHeld => ?_)
                                    clear hK K
                                    refine norm_ (a' := ?_) ?_ ?_
                                    rotate_left
                                    · show Act.put _ (some 61) _ = _
                                      simp only [Act.put, List.setIfInBounds_toArray, List.set_cons_zero, List.set_cons_succ, i64_w, i32_w]
                                      rfl
                                    refine pure_ (i := 11) (N := some 50) (v := ?_) (a' := ?_) #[true, true, true, true, true, true, true, true, true, true, true, true, false, false, true, false, false] rfl rfl (any_of HT_.out (by kernel_rfl)) (fun _ _ _ h => h) (Or.inl ⟨by rfl, ?_⟩) ?_ ?_
                                    rotate_left
                                    · intro w'
                                      go_simp
                                      with_reducible rfl
                                    rotate_left
                                    · simp only [Act.put, List.setIfInBounds_toArray, List.set_cons_zero, List.set_cons_succ, i64_w, i32_w]
                                      rfl
                                    refine pure_ (i := 12) (N := some 62) (v := ?_) (a' := ?_) #[true, true, true, true, true, true, true, true, true, true, true, true, true, false, true, false, false] rfl rfl (any_of HT_.out (by kernel_rfl)) (fun _ _ _ h => h) (Or.inl ⟨by rfl, ?_⟩) ?_ ?_
                                    rotate_left
                                    · intro w'
                                      go_simp
                                      with_reducible rfl
                                    rotate_left
                                    · simp only [Act.put, List.setIfInBounds_toArray, List.set_cons_zero, List.set_cons_succ, i64_w, i32_w]
                                      rfl
                                    refine pure_ (i := 13) (N := some 63) (v := ?_) (a' := ?_) #[true, true, true, true, true, true, true, true, true, true, true, true, true, true, true, false, false] rfl rfl (any_of HT_.out (by kernel_rfl)) (fun _ _ _ h => h) (Or.inl ⟨by rfl, ?_⟩) ?_ ?_
                                    rotate_left
                                    · intro w'
                                      go_simp
                                      with_reducible rfl
                                    rotate_left
                                    · simp only [Act.put, List.setIfInBounds_toArray, List.set_cons_zero, List.set_cons_succ, i64_w, i32_w]
                                      rfl
                                    exact norm_ (by simp only [putAll, Act.put, List.setIfInBounds_toArray, List.set_cons_zero, List.set_cons_succ]) (hCont (.slice Ao64 y117.length co64, gb123) _ ⟨hHeld, (by (with_reducible repeat (first | apply Kd.R_alloc | apply Kd.R_drewN | apply Kd.R_drew)); exact Kd.R_mono HO112.out (fun _ hk => ⟨hk.2, hk.1⟩)), (by (with_reducible repeat (first | apply Kd.R_alloc | apply Kd.R_drewN | apply Kd.R_drew)); exact Kd.R_mono HO119.out (fun _ hk => ⟨hk.1.2, hk.2⟩)), (by (with_reducible repeat (first | refine blk_drewN ?_ _ | refine blk_drew ?_ | refine blk_alloc ?_ _)); exact BK106.out), (by (with_reducible repeat (first | refine blk_drewN ?_ _ | refine blk_drew ?_ | refine blk_alloc ?_ _)); exact BK109.out), (by (with_reducible repeat (first | refine blk_drewN ?_ _ | refine blk_drew ?_ | refine blk_alloc ?_ _)); exact BK116.out), (by (with_reducible repeat (first | refine blk_drewN ?_ _ | refine blk_drew ?_ | refine blk_alloc ?_ _)); exact BK123.out), GW123.out, GE123.out, NB106_123.out, NB123_106.out, NB109_123.out, NB123_109.out, NB116_123.out, NB123_116.out, (by repeat (first | (with_reducible first | exact HB.out | apply below_alloc | apply pw_below_drewN | apply below_drew1 | refine below_set ?_ GE106.out | refine below_set ?_ GE109.out | refine below_set ?_ GE116.out | refine below_set ?_ GE123.out) | exact HB.out))⟩)
                                · skip
                                  refine box_step ?hg (N := 8) ?hd (cs := #[.string (⟨#[]⟩ : ByteArray), .int .i64 0]) (t := 23) ?hr ?_; (case hd => rfl); (case hg => rfl); (case hr => first | (go_simp; done) | (go_simp; rfl))
                                  intro gb123 hg w61 hbox hb
                                  have n0_ := Aside0.mk (Kd.R_below (by (with_reducible repeat (first | apply Kd.R_alloc | apply Kd.R_drewN | apply Kd.R_drew)); exact HO112.out) hb)
                                  have n1_ := Aside0.mk (blk_below (g := gb106) (o := .cells #[.string a0_0, .int .i64 a0_1] 23 (0, 0)) (by (with_reducible repeat (first | refine blk_drewN ?_ _ | refine blk_drew ?_ | refine blk_alloc ?_ _)); exact BK106.out) hb)
                                  have n2_ := Aside0.mk (blk_below (g := gb109) (o := .cells #[.int .i64 8, .string (⟨#[]⟩ : ByteArray), .int .i64 (wrap64 (a1)), .bool false, .bool false] 29 (0, 0)) (by (with_reducible repeat (first | refine blk_drewN ?_ _ | refine blk_drew ?_ | refine blk_alloc ?_ _)); exact BK109.out) hb)
                                  have n3_ := Aside0.mk (blk_below (g := gb116) (o := .cells #[.string t113, .int .i64 t114] 23 (0, 0)) (by (with_reducible repeat (first | refine blk_drewN ?_ _ | refine blk_drew ?_ | refine blk_alloc ?_ _)); exact BK116.out) hb)
                                  have n4_ := Aside0.mk (below_step (by repeat (first | (with_reducible first | exact HB.out | apply below_alloc | apply pw_below_drewN | apply below_drew1 | refine below_set ?_ GE106.out | refine below_set ?_ GE109.out | refine below_set ?_ GE116.out) | exact HB.out)) hb)
                                  have n5_ := Aside0.mk (hbox)
                                  have n6_ := Aside0.mk ((by rw [hg]; exact (below_size (by repeat (first | (with_reducible first | exact HB.out | apply below_alloc | apply pw_below_drewN | apply below_drew1 | refine below_set ?_ GE106.out | refine below_set ?_ GE109.out | refine below_set ?_ GE116.out) | exact HB.out))) : w.heap.size ≤ gb123))
                                  have n7_ := Aside0.mk ((by rw [hg]; exact (below_size (by repeat (first | (with_reducible first | exact HB.out | apply below_alloc | apply pw_below_drewN | apply below_drew1 | refine below_set ?_ GE106.out | refine below_set ?_ GE109.out | refine below_set ?_ GE116.out) | exact HB.out))) : w.heap.size ≤ gb123))
                                  have n8_ := Aside0.mk ((by rw [hg]; exact Nat.ne_of_lt (blk_lt (g := gb106) (o := .cells #[.string a0_0, .int .i64 a0_1] 23 (0, 0)) (by (with_reducible repeat (first | refine blk_drewN ?_ _ | refine blk_drew ?_ | refine blk_alloc ?_ _)); exact BK106.out)) : gb106 ≠ gb123))
                                  have n9_ := Aside0.mk ((by rw [hg]; exact Nat.ne_of_gt (blk_lt (g := gb106) (o := .cells #[.string a0_0, .int .i64 a0_1] 23 (0, 0)) (by (with_reducible repeat (first | refine blk_drewN ?_ _ | refine blk_drew ?_ | refine blk_alloc ?_ _)); exact BK106.out)) : gb123 ≠ gb106))
                                  have n10_ := Aside0.mk ((by rw [hg]; exact Nat.ne_of_lt (blk_lt (g := gb109) (o := .cells #[.int .i64 8, .string (⟨#[]⟩ : ByteArray), .int .i64 (wrap64 (a1)), .bool false, .bool false] 29 (0, 0)) (by (with_reducible repeat (first | refine blk_drewN ?_ _ | refine blk_drew ?_ | refine blk_alloc ?_ _)); exact BK109.out)) : gb109 ≠ gb123))
                                  have n11_ := Aside0.mk ((by rw [hg]; exact Nat.ne_of_gt (blk_lt (g := gb109) (o := .cells #[.int .i64 8, .string (⟨#[]⟩ : ByteArray), .int .i64 (wrap64 (a1)), .bool false, .bool false] 29 (0, 0)) (by (with_reducible repeat (first | refine blk_drewN ?_ _ | refine blk_drew ?_ | refine blk_alloc ?_ _)); exact BK109.out)) : gb123 ≠ gb109))
                                  have n12_ := Aside0.mk ((by rw [hg]; exact Nat.ne_of_lt (blk_lt (g := gb116) (o := .cells #[.string t113, .int .i64 t114] 23 (0, 0)) (by (with_reducible repeat (first | refine blk_drewN ?_ _ | refine blk_drew ?_ | refine blk_alloc ?_ _)); exact BK116.out)) : gb116 ≠ gb123))
                                  have n13_ := Aside0.mk ((by rw [hg]; exact Nat.ne_of_gt (blk_lt (g := gb116) (o := .cells #[.string t113, .int .i64 t114] 23 (0, 0)) (by (with_reducible repeat (first | refine blk_drewN ?_ _ | refine blk_drew ?_ | refine blk_alloc ?_ _)); exact BK116.out)) : gb123 ≠ gb116))
                                  clear HO112
                                  clear BK106
                                  clear BK109
                                  clear BK116
                                  clear HB
                                  have HO112 := n0_
                                  have BK106 := n1_
                                  have BK109 := n2_
                                  have BK116 := n3_
                                  have HB := n4_
                                  have BK123 := n5_
                                  have GW123 := n6_
                                  have GE123 := n7_
                                  have NB106_123 := n8_
                                  have NB123_106 := n9_
                                  have NB109_123 := n10_
                                  have NB123_109 := n11_
                                  have NB116_123 := n12_
                                  have NB123_116 := n13_
                                  clear n0_ n1_ n2_ n3_ n4_ n5_ n6_ n7_ n8_ n9_ n10_ n11_ n12_ n13_
                                  clear hb hbox hg
                                  refine hK.out _ _ ⟨(blk_cell BK106.out 0).trans rfl, (blk_cell BK106.out 1).trans rfl, (blk_cell BK109.out 0).trans rfl, (blk_cell BK109.out 1).trans rfl, (blk_cell BK109.out 2).trans rfl, (blk_cell BK109.out 3).trans rfl, (blk_cell BK109.out 4).trans rfl⟩ (fun hHeld => ?_)
                                  clear hK K
                                  refine norm_ (a' := ?_) ?_ ?_
                                  rotate_left
                                  · show Act.put _ (some 8) _ = _
                                    simp only [Act.put, List.setIfInBounds_toArray, List.set_cons_zero, List.set_cons_succ, i64_w, i32_w]
                                    rfl
                                  refine one_ (i := 9) (N := some 60) #[true, true, true, true, true, true, true, true, true, true, false, false, false, false, true, false, false] rfl rfl (one_of HT_.out (by kernel_rfl)) (by decide) (fun K hK => ?_)
                                  refine Kd.R_lit_step k29 _ 29 ?hg (N := 60) ?hd (xs := ([(⟨8, (⟨#[]⟩ : ByteArray), wrap64 (a1), false, false⟩ : S29), (⟨8, (⟨#[]⟩ : ByteArray), wrap64 (bt a0_0 a0_1), false, false⟩ : S29)] : List (S29))) (inner := [.int .i64 8, .string (⟨#[]⟩ : ByteArray), .int .i64 (wrap64 (a1)), .bool false, .bool false, .int .i64 8, .string (⟨#[]⟩ : ByteArray), .int .i64 (wrap64 (bt a0_0 a0_1)), .bool false, .bool false]) (ok := fun _ => True) (okp := fun _ => True) ?hr ?hp (fun _ hk => hk) trivial (Below.refl _ _) (Nat.le_refl _) (by simp) ?_; (case hd => rfl); (case hg => rfl); (case hr => first | (go_simp; done) | (go_simp; rfl)); (case hp => exact (Reps.c5 (show Kd.M k29 _ _ _ (⟨8, (⟨#[]⟩ : ByteArray), wrap64 (a1), false, false⟩ : S29) [.int .i64 8, .string (⟨#[]⟩ : ByteArray), .int .i64 (wrap64 (a1)), .bool false, .bool false] from (k29_mkM _ _ _ (⟨8, (⟨#[]⟩ : ByteArray), wrap64 (a1), false, false⟩ : S29) )) (Reps.c5 (show Kd.M k29 _ _ _ (⟨8, (⟨#[]⟩ : ByteArray), wrap64 (bt a0_0 a0_1), false, false⟩ : S29) [.int .i64 8, .string (⟨#[]⟩ : ByteArray), .int .i64 (wrap64 (bt a0_0 a0_1)), .bool false, .bool false] from (k29_mkM _ _ _ (⟨8, (⟨#[]⟩ : ByteArray), wrap64 (bt a0_0 a0_1), false, false⟩ : S29) )) (Reps.none _ _))))
                                  intro v118 w62 ho63 hb hg_ hnew_
                                  clear hg_ hnew_
                                  (first | rw [← Ny117.out] at ho63 | (simp only [Int.reduceToNat] at ho63; rw [← Ny117.out] at ho63))
                                  have n0_ := Aside0.mk (Kd.R_elder' (by (with_reducible repeat (first | apply Kd.R_alloc | apply Kd.R_drewN | apply Kd.R_drew)); exact HO112.out) (Kd.R_base ho63) hb)
                                  have n1_ := Aside0.mk (Kd.R_lower (Kd.R_newB (Kd.R_new' ho63 (Kd.R_lt (by (with_reducible repeat (first | apply Kd.R_alloc | apply Kd.R_drewN | apply Kd.R_drew)); exact HO112.out))) (g := gb109) (o := .cells #[.int .i64 8, .string (⟨#[]⟩ : ByteArray), .int .i64 (wrap64 (a1)), .bool false, .bool false] 29 (0, 0)) (by (with_reducible repeat (first | refine blk_drewN ?_ _ | refine blk_drew ?_ | refine blk_alloc ?_ _)); exact BK109.out)) (below_size (by repeat (first | (with_reducible first | exact HB.out | apply below_alloc | apply pw_below_drewN | apply below_drew1 | refine below_set ?_ GE106.out | refine below_set ?_ GE109.out | refine below_set ?_ GE116.out | refine below_set ?_ GE123.out) | exact HB.out))))
                                  have n2_ := Aside0.mk (blk_below (g := gb106) (o := .cells #[.string a0_0, .int .i64 a0_1] 23 (0, 0)) (by (with_reducible repeat (first | refine blk_drewN ?_ _ | refine blk_drew ?_ | refine blk_alloc ?_ _)); exact BK106.out) hb)
                                  have n3_ := Aside0.mk (blk_below (g := gb109) (o := .cells #[.int .i64 8, .string (⟨#[]⟩ : ByteArray), .int .i64 (wrap64 (a1)), .bool false, .bool false] 29 (0, 0)) (by (with_reducible repeat (first | refine blk_drewN ?_ _ | refine blk_drew ?_ | refine blk_alloc ?_ _)); exact BK109.out) hb)
                                  have n4_ := Aside0.mk (blk_below (g := gb116) (o := .cells #[.string t113, .int .i64 t114] 23 (0, 0)) (by (with_reducible repeat (first | refine blk_drewN ?_ _ | refine blk_drew ?_ | refine blk_alloc ?_ _)); exact BK116.out) hb)
                                  have n5_ := Aside0.mk (blk_below (g := gb123) (o := .cells #[.string (⟨#[]⟩ : ByteArray), .int .i64 0] 23 (0, 0)) (by (with_reducible repeat (first | refine blk_drewN ?_ _ | refine blk_drew ?_ | refine blk_alloc ?_ _)); exact BK123.out) hb)
                                  have n6_ := Aside0.mk (below_step (by repeat (first | (with_reducible first | exact HB.out | apply below_alloc | apply pw_below_drewN | apply below_drew1 | refine below_set ?_ GE106.out | refine below_set ?_ GE109.out | refine below_set ?_ GE116.out | refine below_set ?_ GE123.out) | exact HB.out)) hb)
                                  clear HO112
                                  clear BK106
                                  clear BK109
                                  clear BK116
                                  clear BK123
                                  clear HB
                                  have HO112 := n0_
                                  have HO119 := n1_
                                  have BK106 := n2_
                                  have BK109 := n3_
                                  have BK116 := n4_
                                  have BK123 := n5_
                                  have HB := n6_
                                  clear n0_ n1_ n2_ n3_ n4_ n5_ n6_
                                  clear hb ho63
                                  obtain ⟨Ao64, co64, eo64⟩ := Kd.R_slice HO119.out
                                  (first | subst eo64 | (injection eo64 with f1_ f2_ f3_; have f4_ := f1_.symm; have f5_ := f3_.symm; clear f1_ f2_ f3_; subst f4_; subst f5_))
                                  refine hK.out _ _ ⟨(blk_cell BK106.out 0).trans rfl, (blk_cell BK106.out 1).trans rfl, (blk_cell BK109.out 0).trans rfl, (blk_cell BK109.out 1).trans rfl, (blk_cell BK109.out 2).trans rfl, (blk_cell BK109.out 3).trans rfl, (blk_cell BK109.out 4).trans rfl⟩ (fun hHeld => ?_)
                                  clear hK K
                                  refine norm_ (a' := ?_) ?_ ?_
                                  rotate_left
                                  · show Act.put _ (some 60) _ = _
                                    simp only [Act.put, List.setIfInBounds_toArray, List.set_cons_zero, List.set_cons_succ, i64_w, i32_w]
                                    rfl
                                  refine one_ (i := 10) (N := some 61) #[true, true, true, true, true, true, true, true, true, true, true, false, false, false, true, false, false] rfl rfl (one_of HT_.out (by kernel_rfl)) (by decide) (fun K hK => ?_)
                                  refine goes_ Tryd.func15 (by kernel_rfl) rfl #[.agg #[.string a0_0, .int .i64 a0_1], .slice Ao64 y117.length co64] (by rfl) rfl rfl (by (try simp only [List.map_toArray, List.map_cons, List.map_nil]); first | done | rfl | (simp only [List.length_drop, List.length_take]; rfl) | (simp only [Int.toNat_natCast, ByteArray.extract_zero_size]; rfl)) ?_
                                  with_reducible refine (laws_after9.calls a0_0 a0_1 _ _ y117 t120 t121 true _ ?side1 ?side2 A36.out).mono ?_
                                  (case side1 => repeat (first | exact (Kd.R_reads' HO119.out).2.2 | (with_reducible refine Kd.C_alloc ?_ _) | (with_reducible refine Kd.C_drewN ?_ _) | (with_reducible refine Kd.C_drew ?_)))
                                  (case side2 => exact (Kd.R_reads' HO119.out).2.1)
                                  rintro e w65 ⟨rfl, hb⟩
                                  refine ⟨_, rfl, ?_⟩
                                  have n0_ := Aside0.mk (Kd.R_below (by (with_reducible repeat (first | apply Kd.R_alloc | apply Kd.R_drewN | apply Kd.R_drew)); exact HO112.out) hb)
                                  have n1_ := Aside0.mk (Kd.R_below (by (with_reducible repeat (first | apply Kd.R_alloc | apply Kd.R_drewN | apply Kd.R_drew)); exact HO119.out) hb)
                                  have n2_ := Aside0.mk (blk_below (g := gb106) (o := .cells #[.string a0_0, .int .i64 a0_1] 23 (0, 0)) (by (with_reducible repeat (first | refine blk_drewN ?_ _ | refine blk_drew ?_ | refine blk_alloc ?_ _)); exact BK106.out) hb)
                                  have n3_ := Aside0.mk (blk_below (g := gb109) (o := .cells #[.int .i64 8, .string (⟨#[]⟩ : ByteArray), .int .i64 (wrap64 (a1)), .bool false, .bool false] 29 (0, 0)) (by (with_reducible repeat (first | refine blk_drewN ?_ _ | refine blk_drew ?_ | refine blk_alloc ?_ _)); exact BK109.out) hb)
                                  have n4_ := Aside0.mk (blk_below (g := gb116) (o := .cells #[.string t113, .int .i64 t114] 23 (0, 0)) (by (with_reducible repeat (first | refine blk_drewN ?_ _ | refine blk_drew ?_ | refine blk_alloc ?_ _)); exact BK116.out) hb)
                                  have n5_ := Aside0.mk (blk_below (g := gb123) (o := .cells #[.string (⟨#[]⟩ : ByteArray), .int .i64 0] 23 (0, 0)) (by (with_reducible repeat (first | refine blk_drewN ?_ _ | refine blk_drew ?_ | refine blk_alloc ?_ _)); exact BK123.out) hb)
                                  have n6_ := Aside0.mk (below_step (by repeat (first | (with_reducible first | exact HB.out | apply below_alloc | apply pw_below_drewN | apply below_drew1 | refine below_set ?_ GE106.out | refine below_set ?_ GE109.out | refine below_set ?_ GE116.out | refine below_set ?_ GE123.out) | exact HB.out)) hb)
                                  clear HO112
                                  clear HO119
                                  clear BK106
                                  clear BK109
                                  clear BK116
                                  clear BK123
                                  clear HB
                                  have HO112 := n0_
                                  have HO119 := n1_
                                  have BK106 := n2_
                                  have BK109 := n3_
                                  have BK116 := n4_
                                  have BK123 := n5_
                                  have HB := n6_
                                  clear n0_ n1_ n2_ n3_ n4_ n5_ n6_
                                  (try clear hb)
                                  (try clear hb2)
                                  (try clear hk)
                                  (try clear hi)
                                  refine hK.out _ _ ⟨(blk_cell BK106.out 0).trans rfl, (blk_cell BK106.out 1).trans rfl, (blk_cell BK109.out 0).trans rfl, (blk_cell BK109.out 1).trans rfl, (blk_cell BK109.out 2).trans rfl, (blk_cell BK109.out 3).trans rfl, (blk_cell BK109.out 4).trans rfl⟩ (fun hHeld => ?_)
                                  clear hK K
                                  refine norm_ (a' := ?_) ?_ ?_
                                  rotate_left
                                  · show Act.put _ (some 61) _ = _
                                    simp only [Act.put, List.setIfInBounds_toArray, List.set_cons_zero, List.set_cons_succ, i64_w, i32_w]
                                    rfl
                                  refine pure_ (i := 11) (N := some 50) (v := ?_) (a' := ?_) #[true, true, true, true, true, true, true, true, true, true, true, true, false, false, true, false, false] rfl rfl (any_of HT_.out (by kernel_rfl)) (fun _ _ _ h => h) (Or.inl ⟨by rfl, ?_⟩) ?_ ?_
                                  rotate_left
                                  · intro w'
                                    go_simp
                                    with_reducible rfl
                                  rotate_left
                                  · simp only [Act.put, List.setIfInBounds_toArray, List.set_cons_zero, List.set_cons_succ, i64_w, i32_w]
                                    rfl
                                  refine pure_ (i := 12) (N := some 62) (v := ?_) (a' := ?_) #[true, true, true, true, true, true, true, true, true, true, true, true, true, false, true, false, false] rfl rfl (any_of HT_.out (by kernel_rfl)) (fun _ _ _ h => h) (Or.inl ⟨by rfl, ?_⟩) ?_ ?_
                                  rotate_left
                                  · intro w'
                                    go_simp
                                    with_reducible rfl
                                  rotate_left
                                  · simp only [Act.put, List.setIfInBounds_toArray, List.set_cons_zero, List.set_cons_succ, i64_w, i32_w]
                                    rfl
                                  refine pure_ (i := 13) (N := some 63) (v := ?_) (a' := ?_) #[true, true, true, true, true, true, true, true, true, true, true, true, true, true, true, false, false] rfl rfl (any_of HT_.out (by kernel_rfl)) (fun _ _ _ h => h) (Or.inl ⟨by rfl, ?_⟩) ?_ ?_
                                  rotate_left
                                  · intro w'
                                    go_simp
                                    with_reducible rfl
                                  rotate_left
                                  · simp only [Act.put, List.setIfInBounds_toArray, List.set_cons_zero, List.set_cons_succ, i64_w, i32_w]
                                    rfl
                                  exact norm_ (by simp only [putAll, Act.put, List.setIfInBounds_toArray, List.set_cons_zero, List.set_cons_succ]) (hCont (.slice Ao64 y117.length co64, gb123) _ ⟨hHeld, (by (with_reducible repeat (first | apply Kd.R_alloc | apply Kd.R_drewN | apply Kd.R_drew)); exact Kd.R_mono HO112.out (fun _ hk => ⟨hk.2, hk.1⟩)), (by (with_reducible repeat (first | apply Kd.R_alloc | apply Kd.R_drewN | apply Kd.R_drew)); exact Kd.R_mono HO119.out (fun _ hk => ⟨hk.1.2, hk.2⟩)), (by (with_reducible repeat (first | refine blk_drewN ?_ _ | refine blk_drew ?_ | refine blk_alloc ?_ _)); exact BK106.out), (by (with_reducible repeat (first | refine blk_drewN ?_ _ | refine blk_drew ?_ | refine blk_alloc ?_ _)); exact BK109.out), (by (with_reducible repeat (first | refine blk_drewN ?_ _ | refine blk_drew ?_ | refine blk_alloc ?_ _)); exact BK116.out), (by (with_reducible repeat (first | refine blk_drewN ?_ _ | refine blk_drew ?_ | refine blk_alloc ?_ _)); exact BK123.out), GW123.out, GE123.out, NB106_123.out, NB123_106.out, NB109_123.out, NB123_109.out, NB116_123.out, NB123_116.out, (by repeat (first | (with_reducible first | exact HB.out | apply below_alloc | apply pw_below_drewN | apply below_drew1 | refine below_set ?_ GE106.out | refine below_set ?_ GE109.out | refine below_set ?_ GE116.out | refine below_set ?_ GE123.out) | exact HB.out))⟩)
                              rintro ⟨v118, gb123⟩ w66 ⟨hS_, h0_, h1_, h2_, h3_, h4_, h5_, h6_, h7_, h8_, h9_, h10_, h11_, h12_, h13_, h14_⟩
                              have n0_ : Aside0 (Kd.R k29 29 w66 w.heap.size (fun k_ => some k_ ≠ (v118 : Value).ownBlock ∧ k_ ≠ gb109) (.slice Ao53 y110.length co53) y110) := ⟨h0_⟩
                              have n1_ : Aside0 (Kd.R k29 29 w66 w.heap.size (fun k_ => some k_ ≠ (.slice Ao53 y110.length co53 : Value).ownBlock ∧ k_ ≠ gb109) v118 y117) := ⟨h1_⟩
                              have n2_ : Aside0 (w66.heap[gb106]? = some (.cells #[.string a0_0, .int .i64 a0_1] 23 (0, 0))) := ⟨h2_⟩
                              have n3_ : Aside0 (w66.heap[gb109]? = some (.cells #[.int .i64 8, .string (⟨#[]⟩ : ByteArray), .int .i64 (wrap64 (a1)), .bool false, .bool false] 29 (0, 0))) := ⟨h3_⟩
                              have n4_ : Aside0 (w66.heap[gb116]? = some (.cells #[.string t113, .int .i64 t114] 23 (0, 0))) := ⟨h4_⟩
                              have n5_ : Aside0 (w66.heap[gb123]? = some (.cells #[.string (⟨#[]⟩ : ByteArray), .int .i64 0] 23 (0, 0))) := ⟨h5_⟩
                              have n6_ : Aside0 (w.heap.size ≤ gb123) := ⟨h6_⟩
                              have n7_ : Aside0 (w.heap.size ≤ gb123) := ⟨h7_⟩
                              have n8_ : Aside0 (gb106 ≠ gb123) := ⟨h8_⟩
                              have n9_ : Aside0 (gb123 ≠ gb106) := ⟨h9_⟩
                              have n10_ : Aside0 (gb109 ≠ gb123) := ⟨h10_⟩
                              have n11_ : Aside0 (gb123 ≠ gb109) := ⟨h11_⟩
                              have n12_ : Aside0 (gb116 ≠ gb123) := ⟨h12_⟩
                              have n13_ : Aside0 (gb123 ≠ gb116) := ⟨h13_⟩
                              have n14_ : Aside0 (Below w.heap.size w w66) := ⟨h14_⟩
                              clear HO112
                              clear BK106
                              clear BK109
                              clear BK116
                              clear HB
                              clear h0_ h1_ h2_ h3_ h4_ h5_ h6_ h7_ h8_ h9_ h10_ h11_ h12_ h13_ h14_
                              have HO112 := n0_
                              have HO119 := n1_
                              have BK106 := n2_
                              have BK109 := n3_
                              have BK116 := n4_
                              have BK123 := n5_
                              have GW123 := n6_
                              have GE123 := n7_
                              have NB106_123 := n8_
                              have NB123_106 := n9_
                              have NB109_123 := n10_
                              have NB123_109 := n11_
                              have NB116_123 := n12_
                              have NB123_116 := n13_
                              have HB := n14_
                              clear n0_ n1_ n2_ n3_ n4_ n5_ n6_ n7_ n8_ n9_ n10_ n11_ n12_ n13_ n14_
                              have hHeld : w66.cell? ⟨gb106, 0, none⟩ = some (.string a0_0) ∧ w66.cell? ⟨gb106, 1, none⟩ = some (.int .i64 a0_1) ∧ w66.cell? ⟨gb109, 0, none⟩ = some (.int .i64 8) ∧ w66.cell? ⟨gb109, 1, none⟩ = some (.string (⟨#[]⟩ : ByteArray)) ∧ w66.cell? ⟨gb109, 2, none⟩ = some (.int .i64 (wrap64 (a1))) ∧ w66.cell? ⟨gb109, 3, none⟩ = some (.bool false) ∧ w66.cell? ⟨gb109, 4, none⟩ = some (.bool false) := hS_
                              refine norm_ (a' := ?_) ?_ ?_
                              rotate_left
                              · simp only [putAll, Act.put, List.setIfInBounds_toArray, List.set_cons_zero, List.set_cons_succ]
                                rfl
                              refine one_ (i := 15) (N := none) #[true, true, true, true, true, true, true, true, true, true, true, true, true, true, true, true, false] rfl rfl (one_of HT_.out (by kernel_rfl)) (by decide) (fun K hK => ?_)
                              have hs67 : w66.cell? ⟨gb123, 0, none⟩ = some (.string (⟨#[]⟩ : ByteArray)) := (blk_cell BK123.out 0).trans rfl
                              have hfs67 := blk_frozen BK123.out 0
                              have hns67_0 := NB106_123.out
                              have hns67_1 := NB109_123.out
                              have hns67_2 := NB116_123.out
                              have hms67_0 := NB123_106.out
                              have hms67_1 := NB123_109.out
                              have hms67_2 := NB123_116.out
                              have hs68 : w66.cell? ⟨gb123, 1, none⟩ = some (.int .i64 0) := (blk_cell BK123.out 1).trans rfl
                              have hfs68 := blk_frozen BK123.out 1
                              have hns68_0 := NB106_123.out
                              have hns68_1 := NB109_123.out
                              have hns68_2 := NB116_123.out
                              have hms68_0 := NB123_106.out
                              have hms68_1 := NB123_109.out
                              have hms68_2 := NB123_116.out
                              refine skip_ (w1 := ?_) (by rfl) rfl ?_ ?_
                              rotate_left
                              · go_simp
                                rfl
                              refine hK.out _ _ ⟨((cell_far (p := ⟨gb123, _, none⟩) NB106_123.out _).trans (((cell_far (p := ⟨gb123, _, none⟩) NB106_123.out _).trans (hHeld.1)))), ((cell_far (p := ⟨gb123, _, none⟩) NB106_123.out _).trans (((cell_far (p := ⟨gb123, _, none⟩) NB106_123.out _).trans (hHeld.2.1)))), ((cell_far (p := ⟨gb123, _, none⟩) NB109_123.out _).trans (((cell_far (p := ⟨gb123, _, none⟩) NB109_123.out _).trans (hHeld.2.2.1)))), ((cell_far (p := ⟨gb123, _, none⟩) NB109_123.out _).trans (((cell_far (p := ⟨gb123, _, none⟩) NB109_123.out _).trans (hHeld.2.2.2.1)))), ((cell_far (p := ⟨gb123, _, none⟩) NB109_123.out _).trans (((cell_far (p := ⟨gb123, _, none⟩) NB109_123.out _).trans (hHeld.2.2.2.2.1)))), ((cell_far (p := ⟨gb123, _, none⟩) NB109_123.out _).trans (((cell_far (p := ⟨gb123, _, none⟩) NB109_123.out _).trans (hHeld.2.2.2.2.2.1)))), ((cell_far (p := ⟨gb123, _, none⟩) NB109_123.out _).trans (((cell_far (p := ⟨gb123, _, none⟩) NB109_123.out _).trans (hHeld.2.2.2.2.2.2))))⟩ (fun hHeld => ?_)
                              clear hK K
                              refine pure_ (i := 16) (N := some 9) (v := ?_) (a' := ?_) #[true, true, true, true, true, true, true, true, true, true, true, true, true, true, true, true, true] rfl rfl (any_of HT_.out (by kernel_rfl)) (fun _ _ _ h => h) (Or.inl ⟨by rfl, ?_⟩) ?_ ?_
                              rotate_left
                              · intro w'
                                go_simp
                                with_reducible rfl
                              rotate_left
                              · simp only [Act.put, List.setIfInBounds_toArray, List.set_cons_zero, List.set_cons_succ, i64_w, i32_w]
                                rfl
                              refine done_ (done_of HT_.out (by kernel_rfl)) ?_
                              try go_wp2
                              have n0_ : Aside0 (Kd.R k29 29 ((w66.setCell ⟨gb123, 0, none⟩ (.string t120)).setCell ⟨gb123, 1, none⟩ (.int .i64 t121)) w.heap.size (fun k_ => some k_ ≠ (v118 : Value).ownBlock ∧ k_ ≠ gb109) (.slice Ao53 y110.length co53) y110) := ⟨by (with_reducible repeat (first | apply Kd.R_alloc | apply Kd.R_drewN | apply Kd.R_drew)); exact Kd.R_mono (Kd.R_far (p := ⟨gb123, 1, none⟩) (Kd.R_far (p := ⟨gb123, 0, none⟩) (Kd.R_types HO112.out BK123.out (by decide)) (fun _ hk => hk.2) (.string t120)) (fun _ hk => hk.2) (.int .i64 t121)) (fun _ hk => ⟨hk.1.1, hk.1.2⟩)⟩
                              have n1_ : Aside0 (Kd.R k29 29 ((w66.setCell ⟨gb123, 0, none⟩ (.string t120)).setCell ⟨gb123, 1, none⟩ (.int .i64 t121)) w.heap.size (fun k_ => some k_ ≠ (.slice Ao53 y110.length co53 : Value).ownBlock ∧ k_ ≠ gb109) v118 y117) := ⟨by (with_reducible repeat (first | apply Kd.R_alloc | apply Kd.R_drewN | apply Kd.R_drew)); exact Kd.R_mono (Kd.R_far (p := ⟨gb123, 1, none⟩) (Kd.R_far (p := ⟨gb123, 0, none⟩) (Kd.R_types HO119.out BK123.out (by decide)) (fun _ hk => hk.2) (.string t120)) (fun _ hk => hk.2) (.int .i64 t121)) (fun _ hk => ⟨hk.1.1, hk.1.2⟩)⟩
                              have n2_ : Aside0 (((w66.setCell ⟨gb123, 0, none⟩ (.string t120)).setCell ⟨gb123, 1, none⟩ (.int .i64 t121)).heap[gb106]? = some (.cells #[.string a0_0, .int .i64 a0_1] 23 (0, 0))) := ⟨by (with_reducible repeat (first | refine blk_drewN ?_ _ | refine blk_drew ?_ | refine blk_alloc ?_ _)); refine blk_far ?_ NB106_123.out _; (with_reducible repeat (first | refine blk_drewN ?_ _ | refine blk_drew ?_ | refine blk_alloc ?_ _)); refine blk_far ?_ NB106_123.out _; (with_reducible repeat (first | refine blk_drewN ?_ _ | refine blk_drew ?_ | refine blk_alloc ?_ _)); exact BK106.out⟩
                              have n3_ : Aside0 (((w66.setCell ⟨gb123, 0, none⟩ (.string t120)).setCell ⟨gb123, 1, none⟩ (.int .i64 t121)).heap[gb109]? = some (.cells #[.int .i64 8, .string (⟨#[]⟩ : ByteArray), .int .i64 (wrap64 (a1)), .bool false, .bool false] 29 (0, 0))) := ⟨by (with_reducible repeat (first | refine blk_drewN ?_ _ | refine blk_drew ?_ | refine blk_alloc ?_ _)); refine blk_far ?_ NB109_123.out _; (with_reducible repeat (first | refine blk_drewN ?_ _ | refine blk_drew ?_ | refine blk_alloc ?_ _)); refine blk_far ?_ NB109_123.out _; (with_reducible repeat (first | refine blk_drewN ?_ _ | refine blk_drew ?_ | refine blk_alloc ?_ _)); exact BK109.out⟩
                              have n4_ : Aside0 (((w66.setCell ⟨gb123, 0, none⟩ (.string t120)).setCell ⟨gb123, 1, none⟩ (.int .i64 t121)).heap[gb116]? = some (.cells #[.string t113, .int .i64 t114] 23 (0, 0))) := ⟨by (with_reducible repeat (first | refine blk_drewN ?_ _ | refine blk_drew ?_ | refine blk_alloc ?_ _)); refine blk_far ?_ NB116_123.out _; (with_reducible repeat (first | refine blk_drewN ?_ _ | refine blk_drew ?_ | refine blk_alloc ?_ _)); refine blk_far ?_ NB116_123.out _; (with_reducible repeat (first | refine blk_drewN ?_ _ | refine blk_drew ?_ | refine blk_alloc ?_ _)); exact BK116.out⟩
                              have n5_ : Aside0 (((w66.setCell ⟨gb123, 0, none⟩ (.string t120)).setCell ⟨gb123, 1, none⟩ (.int .i64 t121)).heap[gb123]? = some (.cells #[.string t120, .int .i64 t121] 23 (0, 0))) := ⟨by (with_reducible repeat (first | refine blk_drewN ?_ _ | refine blk_drew ?_ | refine blk_alloc ?_ _)); refine blk_put (cs := #[.string t120, .int .i64 0]) ?_ 1 _ rfl; (with_reducible repeat (first | refine blk_drewN ?_ _ | refine blk_drew ?_ | refine blk_alloc ?_ _)); refine blk_put (cs := #[.string (⟨#[]⟩ : ByteArray), .int .i64 0]) ?_ 0 _ rfl; (with_reducible repeat (first | refine blk_drewN ?_ _ | refine blk_drew ?_ | refine blk_alloc ?_ _)); exact BK123.out⟩
                              have n6_ : Aside0 (Below w.heap.size w ((w66.setCell ⟨gb123, 0, none⟩ (.string t120)).setCell ⟨gb123, 1, none⟩ (.int .i64 t121))) := ⟨by repeat (first | (with_reducible first | exact HB.out | apply below_alloc | apply pw_below_drewN | apply below_drew1 | refine below_set ?_ GE106.out | refine below_set ?_ GE109.out | refine below_set ?_ GE116.out | refine below_set ?_ GE123.out) | exact HB.out)⟩
                              (try clear HO112)
                              (try clear HO119)
                              (try clear BK106)
                              (try clear BK109)
                              (try clear BK116)
                              (try clear BK123)
                              (try clear HB)
                              generalize ((w66.setCell ⟨gb123, 0, none⟩ (.string t120)).setCell ⟨gb123, 1, none⟩ (.int .i64 t121)) = w69 at n0_ n1_ n2_ n3_ n4_ n5_ n6_ ⊢
                              have HO112 := n0_
                              have HO119 := n1_
                              have BK106 := n2_
                              have BK109 := n3_
                              have BK116 := n4_
                              have BK123 := n5_
                              have HB := n6_
                              clear n0_ n1_ n2_ n3_ n4_ n5_ n6_
                              have n0_ := Aside0.mk (Kd.R_drew HO112.out)
                              have n1_ := Aside0.mk (Kd.R_drew HO119.out)
                              have n2_ := Aside0.mk (blk_drew BK106.out)
                              have n3_ := Aside0.mk (blk_drew BK109.out)
                              have n4_ := Aside0.mk (blk_drew BK116.out)
                              have n5_ := Aside0.mk (blk_drew BK123.out)
                              have n6_ := Aside0.mk (below_drew1 HB.out)
                              clear HO112
                              clear HO119
                              clear BK106
                              clear BK109
                              clear BK116
                              clear BK123
                              clear HB
                              have HO112 := n0_
                              have HO119 := n1_
                              have BK106 := n2_
                              have BK109 := n3_
                              have BK116 := n4_
                              have BK123 := n5_
                              have HB := n6_
                              clear n0_ n1_ n2_ n3_ n4_ n5_ n6_
                              refine start_ (n := 33) (S := fun w' => w'.cell? ⟨gb116, 0, none⟩ = some (.string t113) ∧ w'.cell? ⟨gb116, 1, none⟩ = some (.int .i64 t114) ∧ w'.cell? ⟨gb106, 0, none⟩ = some (.string a0_0) ∧ w'.cell? ⟨gb106, 1, none⟩ = some (.int .i64 a0_1) ∧ w'.cell? ⟨gb123, 0, none⟩ = some (.string t120) ∧ w'.cell? ⟨gb123, 1, none⟩ = some (.int .i64 t121)) (ds := []) #[false, false, false, false, false, false, false, false, false, false, false, false, false, false, false, false, false, false, false, false, false, false, false, false, false, false, false, false, false, false, false, false, false] (by kernel_rfl) rfl rfl ⟨(blk_cell BK116.out 0).trans rfl, (blk_cell BK116.out 1).trans rfl, (blk_cell BK106.out 0).trans rfl, (blk_cell BK106.out 1).trans rfl, (blk_cell BK123.out 0).trans rfl, (blk_cell BK123.out 1).trans rfl⟩ (fun hHeld => ?_); refine with_tabW laws_FnReplaceBack.tab8 laws_FnReplaceBack.bits8 (fun HT_ HW_ => ?_)
                              generalize w69.drew = w70 at HO112 HO119 BK106 BK109 BK116 BK123 HB hHeld ⊢
                              refine pure_ (i := 0) (N := some 64) (v := ?_) (a' := ?_) #[true, false, false, false, false, false, false, false, false, false, false, false, false, false, false, false, false, false, false, false, false, false, false, false, false, false, false, false, false, false, false, false, false] rfl rfl (any_of HT_.out (by kernel_rfl)) (fun _ _ _ h => h) (Or.inl ⟨by rfl, ?_⟩) ?_ ?_
                              rotate_left
                              · intro w'
                                go_simp
                                with_reducible rfl
                              rotate_left
                              · simp only [Act.put, List.setIfInBounds_toArray, List.set_cons_zero, List.set_cons_succ, i64_w, i32_w]
                                rfl
                              refine pure_ (i := 1) (N := some 65) (v := ?_) (a' := ?_) #[true, true, false, false, false, false, false, false, false, false, false, false, false, false, false, false, false, false, false, false, false, false, false, false, false, false, false, false, false, false, false, false, false] rfl rfl (any_of HT_.out (by kernel_rfl)) (fun _ _ _ h => h) (Or.inl ⟨by rfl, ?_⟩) ?_ ?_
                              rotate_left
                              · intro w'
                                go_simp
                                with_reducible rfl
                              rotate_left
                              · simp only [Act.put, List.setIfInBounds_toArray, List.set_cons_zero, List.set_cons_succ, i64_w, i32_w]
                                rfl
                              refine pure_ (i := 2) (N := some 66) (v := ?_) (a' := ?_) #[true, true, true, false, false, false, false, false, false, false, false, false, false, false, false, false, false, false, false, false, false, false, false, false, false, false, false, false, false, false, false, false, false] rfl rfl (any_of HT_.out (by kernel_rfl)) (fun _ _ _ h => h) (Or.inl ⟨by rfl, ?_⟩) ?_ ?_
                              rotate_left
                              · intro w'
                                go_simp
                                with_reducible rfl
                              rotate_left
                              · simp only [Act.put, List.setIfInBounds_toArray, List.set_cons_zero, List.set_cons_succ, i64_w, i32_w]
                                rfl
                              refine pure_ (i := 3) (N := some 67) (v := ?_) (a' := ?_) #[true, true, true, true, false, false, false, false, false, false, false, false, false, false, false, false, false, false, false, false, false, false, false, false, false, false, false, false, false, false, false, false, false] rfl rfl (any_of HT_.out (by kernel_rfl)) (fun _ _ _ h => h) (Or.inl ⟨by rfl, ?_⟩) ?_ ?_
                              rotate_left
                              · intro w'
                                go_simp
                                with_reducible rfl
                              rotate_left
                              · simp only [Act.put, List.setIfInBounds_toArray, List.set_cons_zero, List.set_cons_succ, i64_w, i32_w]
                                rfl
                              refine pure_ (i := 4) (N := some 68) (v := ?_) (a' := ?_) #[true, true, true, true, true, false, false, false, false, false, false, false, false, false, false, false, false, false, false, false, false, false, false, false, false, false, false, false, false, false, false, false, false] rfl rfl (any_of HT_.out (by kernel_rfl)) (fun _ _ _ h => h) (Or.inl ⟨by rfl, ?_⟩) ?_ ?_
                              rotate_left
                              · intro w'
                                go_simp
                                with_reducible rfl
                              rotate_left
                              · simp only [Act.put, List.setIfInBounds_toArray, List.set_cons_zero, List.set_cons_succ, i64_w, i32_w]
                                rfl
                              refine pure_ (i := 6) (N := some 70) (v := ?_) (a' := ?_) #[true, true, true, true, true, false, true, false, false, false, false, false, false, false, false, false, false, false, false, false, false, false, false, false, false, false, false, false, false, false, false, false, false] rfl rfl (any_of HT_.out (by kernel_rfl)) (fun _ _ _ h => h) (Or.inl ⟨by rfl, ?_⟩) ?_ ?_
                              rotate_left
                              · intro w'
                                go_simp
                                with_reducible rfl
                              rotate_left
                              · simp only [Act.put, List.setIfInBounds_toArray, List.set_cons_zero, List.set_cons_succ, i64_w, i32_w]
                                rfl
                              refine pure_ (i := 8) (N := some 72) (v := ?_) (a' := ?_) #[true, true, true, true, true, false, true, false, true, false, false, false, false, false, false, false, false, false, false, false, false, false, false, false, false, false, false, false, false, false, false, false, false] rfl rfl (any_of HT_.out (by kernel_rfl)) (fun _ _ _ h => h) (Or.inl ⟨by rfl, ?_⟩) ?_ ?_
                              rotate_left
                              · intro w'
                                go_simp
                                with_reducible rfl
                              rotate_left
                              · simp only [Act.put, List.setIfInBounds_toArray, List.set_cons_zero, List.set_cons_succ, i64_w, i32_w]
                                rfl
                              refine pure_ (i := 11) (N := some 75) (v := ?_) (a' := ?_) #[true, true, true, true, true, false, true, false, true, false, false, true, false, false, false, false, false, false, false, false, false, false, false, false, false, false, false, false, false, false, false, false, false] rfl rfl (any_of HT_.out (by kernel_rfl)) (fun _ _ _ h => h) (Or.inl ⟨by rfl, ?_⟩) ?_ ?_
                              rotate_left
                              · intro w'
                                go_simp
                                with_reducible rfl
                              rotate_left
                              · simp only [Act.put, List.setIfInBounds_toArray, List.set_cons_zero, List.set_cons_succ, i64_w, i32_w]
                                rfl
                              refine pure_ (i := 15) (N := some 79) (v := ?_) (a' := ?_) #[true, true, true, true, true, false, true, false, true, false, false, true, false, false, false, true, false, false, false, false, false, false, false, false, false, false, false, false, false, false, false, false, false] rfl rfl (any_of HT_.out (by kernel_rfl)) (fun _ _ _ h => h) (Or.inl ⟨by rfl, ?_⟩) ?_ ?_
                              rotate_left
                              · intro w'
                                go_simp
                                with_reducible rfl
                              rotate_left
                              · simp only [Act.put, List.setIfInBounds_toArray, List.set_cons_zero, List.set_cons_succ, i64_w, i32_w]
                                rfl
                              refine pure_ (i := 17) (N := some 81) (v := ?_) (a' := ?_) #[true, true, true, true, true, false, true, false, true, false, false, true, false, false, false, true, false, true, false, false, false, false, false, false, false, false, false, false, false, false, false, false, false] rfl rfl (any_of HT_.out (by kernel_rfl)) (fun _ _ _ h => h) (Or.inl ⟨by rfl, ?_⟩) ?_ ?_
                              rotate_left
                              · intro w'
                                go_simp
                                with_reducible rfl
                              rotate_left
                              · simp only [Act.put, List.setIfInBounds_toArray, List.set_cons_zero, List.set_cons_succ, i64_w, i32_w]
                                rfl
                              refine pure_ (i := 22) (N := some 86) (v := ?_) (a' := ?_) #[true, true, true, true, true, false, true, false, true, false, false, true, false, false, false, true, false, true, false, false, false, false, true, false, false, false, false, false, false, false, false, false, false] rfl rfl (any_of HT_.out (by kernel_rfl)) (fun _ _ _ h => h) (Or.inl ⟨by rfl, ?_⟩) ?_ ?_
                              rotate_left
                              · intro w'
                                go_simp
                                with_reducible rfl
                              rotate_left
                              · simp only [Act.put, List.setIfInBounds_toArray, List.set_cons_zero, List.set_cons_succ, i64_w, i32_w]
                                rfl
                              refine take_ (i := 5) (N := some 69) (v := ?_) (a' := ?_) #[true, true, true, true, true, true, true, false, true, false, false, true, false, false, false, true, false, true, false, false, false, false, true, false, false, false, false, false, false, false, false, false, false] rfl rfl (take_ofW HT_.out HW_.out (by kernel_rfl)) (fun _ _ _ h => h) (Or.inl ⟨by rfl, ?_⟩) hHeld ?_ ?_
                              rotate_left
                              · rintro w' ⟨s0, s1, s2, s3, s4, s5⟩
                                go_simp
                                with_reducible rfl
                              rotate_left
                              · simp only [Act.put, List.setIfInBounds_toArray, List.set_cons_zero, List.set_cons_succ, i64_w, i32_w]
                                rfl
                              refine take_ (i := 7) (N := some 71) (v := ?_) (a' := ?_) #[true, true, true, true, true, true, true, true, true, false, false, true, false, false, false, true, false, true, false, false, false, false, true, false, false, false, false, false, false, false, false, false, false] rfl rfl (take_ofW HT_.out HW_.out (by kernel_rfl)) (fun _ _ _ h => h) (Or.inl ⟨by rfl, ?_⟩) hHeld ?_ ?_
                              rotate_left
                              · rintro w' ⟨s0, s1, s2, s3, s4, s5⟩
                                go_simp
                                with_reducible rfl
                              rotate_left
                              · simp only [Act.put, List.setIfInBounds_toArray, List.set_cons_zero, List.set_cons_succ, i64_w, i32_w]
                                rfl
                              refine take_ (i := 9) (N := some 73) (v := ?_) (a' := ?_) #[true, true, true, true, true, true, true, true, true, true, false, true, false, false, false, true, false, true, false, false, false, false, true, false, false, false, false, false, false, false, false, false, false] rfl rfl (take_ofW HT_.out HW_.out (by kernel_rfl)) (fun _ _ _ h => h) (Or.inl ⟨by rfl, ?_⟩) hHeld ?_ ?_
                              rotate_left
                              · rintro w' ⟨s0, s1, s2, s3, s4, s5⟩
                                go_simp
                                with_reducible rfl
                              rotate_left
                              · simp only [Act.put, List.setIfInBounds_toArray, List.set_cons_zero, List.set_cons_succ, i64_w, i32_w]
                                rfl
                              refine pure_ (i := 10) (N := some 74) (v := ?_) (a' := ?_) #[true, true, true, true, true, true, true, true, true, true, true, true, false, false, false, true, false, true, false, false, false, false, true, false, false, false, false, false, false, false, false, false, false] rfl rfl (any_of HT_.out (by kernel_rfl)) (fun _ _ _ h => h) (Or.inl ⟨by rfl, ?_⟩) ?_ ?_
                              rotate_left
                              · intro w'
                                go_simp
                                with_reducible rfl
                              rotate_left
                              · simp only [Act.put, List.setIfInBounds_toArray, List.set_cons_zero, List.set_cons_succ, i64_w, i32_w]
                                rfl
                              refine take_ (i := 16) (N := some 80) (v := ?_) (a' := ?_) #[true, true, true, true, true, true, true, true, true, true, true, true, false, false, false, true, true, true, false, false, false, false, true, false, false, false, false, false, false, false, false, false, false] rfl rfl (take_ofW HT_.out HW_.out (by kernel_rfl)) (fun _ _ _ h => h) (Or.inl ⟨by rfl, ?_⟩) hHeld ?_ ?_
                              rotate_left
                              · rintro w' ⟨s0, s1, s2, s3, s4, s5⟩
                                go_simp
                                with_reducible rfl
                              rotate_left
                              · simp only [Act.put, List.setIfInBounds_toArray, List.set_cons_zero, List.set_cons_succ, i64_w, i32_w]
                                rfl
                              refine take_ (i := 18) (N := some 82) (v := ?_) (a' := ?_) #[true, true, true, true, true, true, true, true, true, true, true, true, false, false, false, true, true, true, true, false, false, false, true, false, false, false, false, false, false, false, false, false, false] rfl rfl (take_ofW HT_.out HW_.out (by kernel_rfl)) (fun _ _ _ h => h) (Or.inl ⟨by rfl, ?_⟩) hHeld ?_ ?_
                              rotate_left
                              · rintro w' ⟨s0, s1, s2, s3, s4, s5⟩
                                go_simp
                                with_reducible rfl
                              rotate_left
                              · simp only [Act.put, List.setIfInBounds_toArray, List.set_cons_zero, List.set_cons_succ, i64_w, i32_w]
                                rfl
                              refine pure_ (i := 19) (N := some 83) (v := ?_) (a' := ?_) #[true, true, true, true, true, true, true, true, true, true, true, true, false, false, false, true, true, true, true, true, false, false, true, false, false, false, false, false, false, false, false, false, false] rfl rfl (any_of HT_.out (by kernel_rfl)) (fun _ _ _ h => h) (Or.inl ⟨by rfl, ?_⟩) ?_ ?_
                              rotate_left
                              · intro w'
                                go_simp
                                with_reducible rfl
                              rotate_left
                              · simp only [Act.put, List.setIfInBounds_toArray, List.set_cons_zero, List.set_cons_succ, i64_w, i32_w]
                                rfl
                              refine pure_ (i := 20) (N := some 84) (v := ?_) (a' := ?_) #[true, true, true, true, true, true, true, true, true, true, true, true, false, false, false, true, true, true, true, true, true, false, true, false, false, false, false, false, false, false, false, false, false] rfl rfl (any_of HT_.out (by kernel_rfl)) (fun _ _ _ h => h) (Or.inl ⟨by rfl, ?_⟩) ?_ ?_
                              rotate_left
                              · intro w'
                                go_simp
                                with_reducible rfl
                              rotate_left
                              · simp only [Act.put, List.setIfInBounds_toArray, List.set_cons_zero, List.set_cons_succ, i64_w, i32_w]
                                rfl
                              refine take_ (i := 23) (N := some 87) (v := ?_) (a' := ?_) #[true, true, true, true, true, true, true, true, true, true, true, true, false, false, false, true, true, true, true, true, true, false, true, true, false, false, false, false, false, false, false, false, false] rfl rfl (take_ofW HT_.out HW_.out (by kernel_rfl)) (fun _ _ _ h => h) (Or.inl ⟨by rfl, ?_⟩) hHeld ?_ ?_
                              rotate_left
                              · rintro w' ⟨s0, s1, s2, s3, s4, s5⟩
                                go_simp
                                with_reducible rfl
                              rotate_left
                              · simp only [Act.put, List.setIfInBounds_toArray, List.set_cons_zero, List.set_cons_succ, i64_w, i32_w]
                                rfl
                              refine one_ (i := 12) (N := some 76) #[true, true, true, true, true, true, true, true, true, true, true, true, true, false, false, true, true, true, true, true, true, false, true, true, false, false, false, false, false, false, false, false, false] rfl rfl (one_of HT_.out (by kernel_rfl)) (by decide) (fun K hK => ?_)
                              refine Kd.R_lit_step (Kd.int .u8) _ 5 ?hg (N := 76) ?hd (xs := ([a1] : List Int)) (inner := [.int .u8 a1]) (ok := fun _ => True) (okp := fun _ => True) ?hr ?hp (fun _ hk => hk) trivial (Below.refl _ _) (Nat.le_refl _) (by simp) ?_; (case hd => rfl); (case hg => rfl); (case hr => first | (go_simp; done) | (go_simp; rfl)); (case hp => exact (Reps.one (show Kd.M (Kd.int .u8) _ _ _ a1 [.int .u8 a1] from rfl) (Reps.none _ _)))
                              intro v125 w71 ho72 hb hg_ hnew_
                              clear hg_ hnew_
                              (first | rw [← Ny124.out] at ho72 | (simp only [Int.reduceToNat] at ho72; rw [← Ny124.out] at ho72))
                              have n0_ := Aside0.mk (Kd.R_below (by (with_reducible repeat (first | apply Kd.R_alloc | apply Kd.R_drewN | apply Kd.R_drew)); exact HO112.out) hb)
                              have n1_ := Aside0.mk (Kd.R_below (by (with_reducible repeat (first | apply Kd.R_alloc | apply Kd.R_drewN | apply Kd.R_drew)); exact HO119.out) hb)
                              have n2_ := Aside0.mk (Kd.R_lower ho72 (below_size (by repeat (first | (with_reducible first | exact HB.out | apply below_alloc | apply pw_below_drewN | apply below_drew1 | refine below_set ?_ GE106.out | refine below_set ?_ GE109.out | refine below_set ?_ GE116.out | refine below_set ?_ GE123.out) | exact HB.out))))
                              have n3_ := Aside0.mk (blk_below (g := gb106) (o := .cells #[.string a0_0, .int .i64 a0_1] 23 (0, 0)) (by (with_reducible repeat (first | refine blk_drewN ?_ _ | refine blk_drew ?_ | refine blk_alloc ?_ _)); exact BK106.out) hb)
                              have n4_ := Aside0.mk (blk_below (g := gb109) (o := .cells #[.int .i64 8, .string (⟨#[]⟩ : ByteArray), .int .i64 (wrap64 (a1)), .bool false, .bool false] 29 (0, 0)) (by (with_reducible repeat (first | refine blk_drewN ?_ _ | refine blk_drew ?_ | refine blk_alloc ?_ _)); exact BK109.out) hb)
                              have n5_ := Aside0.mk (blk_below (g := gb116) (o := .cells #[.string t113, .int .i64 t114] 23 (0, 0)) (by (with_reducible repeat (first | refine blk_drewN ?_ _ | refine blk_drew ?_ | refine blk_alloc ?_ _)); exact BK116.out) hb)
                              have n6_ := Aside0.mk (blk_below (g := gb123) (o := .cells #[.string t120, .int .i64 t121] 23 (0, 0)) (by (with_reducible repeat (first | refine blk_drewN ?_ _ | refine blk_drew ?_ | refine blk_alloc ?_ _)); exact BK123.out) hb)
                              have n7_ := Aside0.mk (below_step (by repeat (first | (with_reducible first | exact HB.out | apply below_alloc | apply pw_below_drewN | apply below_drew1 | refine below_set ?_ GE106.out | refine below_set ?_ GE109.out | refine below_set ?_ GE116.out | refine below_set ?_ GE123.out) | exact HB.out)) hb)
                              clear HO112
                              clear HO119
                              clear BK106
                              clear BK109
                              clear BK116
                              clear BK123
                              clear HB
                              have HO112 := n0_
                              have HO119 := n1_
                              have HO126 := n2_
                              have BK106 := n3_
                              have BK109 := n4_
                              have BK116 := n5_
                              have BK123 := n6_
                              have HB := n7_
                              clear n0_ n1_ n2_ n3_ n4_ n5_ n6_ n7_
                              clear hb ho72
                              refine hK.out _ _ ⟨(blk_cell BK116.out 0).trans rfl, (blk_cell BK116.out 1).trans rfl, (blk_cell BK106.out 0).trans rfl, (blk_cell BK106.out 1).trans rfl, (blk_cell BK123.out 0).trans rfl, (blk_cell BK123.out 1).trans rfl⟩ (fun hHeld => ?_)
                              clear hK K
                              refine norm_ (a' := ?_) ?_ ?_
                              rotate_left
                              · show Act.put _ (some 76) _ = _
                                simp only [Act.put, List.setIfInBounds_toArray, List.set_cons_zero, List.set_cons_succ, i64_w, i32_w]
                                rfl
                              refine one_ (i := 13) (N := some 77) #[true, true, true, true, true, true, true, true, true, true, true, true, true, true, false, true, true, true, true, true, true, false, true, true, false, false, false, false, false, false, false, false, false] rfl rfl (one_of HT_.out (by kernel_rfl)) (by decide) (fun K hK => ?_)
                              have hcv73 := own_string (P := Tryd.prog) Tryd.underlying24 Tryd.underlying5 Tryd.underlying9 (Kd.own_of_R HO126.out)
                              refine value_ (w1 := ?_) (v := ?_) (by rfl) rfl ?_ ?_
                              rotate_left 2
                              · go_simp
                                constructor
                                · rfl
                                · rfl
                              clear hcv73
                              refine hK.out _ _ ⟨(blk_cell BK116.out 0).trans rfl, (blk_cell BK116.out 1).trans rfl, (blk_cell BK106.out 0).trans rfl, (blk_cell BK106.out 1).trans rfl, (blk_cell BK123.out 0).trans rfl, (blk_cell BK123.out 1).trans rfl⟩ (fun hHeld => ?_)
                              clear hK K
                              refine norm_ (a' := ?_) ?_ ?_
                              rotate_left
                              · show Act.put _ (some 77) _ = _
                                simp only [Act.put, List.setIfInBounds_toArray, List.set_cons_zero, List.set_cons_succ, i64_w, i32_w]
                                rfl
                              refine pure_ (i := 14) (N := some 78) (v := ?_) (a' := ?_) #[true, true, true, true, true, true, true, true, true, true, true, true, true, true, true, true, true, true, true, true, true, false, true, true, false, false, false, false, false, false, false, false, false] rfl rfl (any_of HT_.out (by kernel_rfl)) (fun _ _ _ h => h) (Or.inl ⟨by rfl, ?_⟩) ?_ ?_
                              rotate_left
                              · intro w'
                                go_simp
                                with_reducible rfl
                              rotate_left
                              · simp only [Act.put, List.setIfInBounds_toArray, List.set_cons_zero, List.set_cons_succ, i64_w, i32_w]
                                rfl
                              refine pure_ (i := 21) (N := some 85) (v := ?_) (a' := ?_) #[true, true, true, true, true, true, true, true, true, true, true, true, true, true, true, true, true, true, true, true, true, true, true, true, false, false, false, false, false, false, false, false, false] rfl rfl (any_of HT_.out (by kernel_rfl)) (fun _ _ _ h => h) (Or.inl ⟨by rfl, ?_⟩) ?_ ?_
                              rotate_left
                              · intro w'
                                go_simp
                                with_reducible rfl
                              rotate_left
                              · simp only [Act.put, List.setIfInBounds_toArray, List.set_cons_zero, List.set_cons_succ, i64_w, i32_w]
                                rfl
                              refine pure_ (i := 24) (N := some 88) (v := ?_) (a' := ?_) #[true, true, true, true, true, true, true, true, true, true, true, true, true, true, true, true, true, true, true, true, true, true, true, true, true, false, false, false, false, false, false, false, false] rfl rfl (any_of HT_.out (by kernel_rfl)) (fun _ _ _ h => h) (Or.inl ⟨by rfl, ?_⟩) ?_ ?_
                              rotate_left
                              · intro w'
                                go_simp
                                with_reducible rfl
                              rotate_left
                              · simp only [Act.put, List.setIfInBounds_toArray, List.set_cons_zero, List.set_cons_succ, i64_w, i32_w]
                                rfl
                              refine pure_ (i := 25) (N := some 89) (v := ?_) (a' := ?_) #[true, true, true, true, true, true, true, true, true, true, true, true, true, true, true, true, true, true, true, true, true, true, true, true, true, true, false, false, false, false, false, false, false] rfl rfl (any_of HT_.out (by kernel_rfl)) (fun _ _ _ h => h) (Or.inl ⟨by rfl, ?_⟩) ?_ ?_
                              rotate_left
                              · intro w'
                                go_simp
                                with_reducible rfl
                              rotate_left
                              · simp only [Act.put, List.setIfInBounds_toArray, List.set_cons_zero, List.set_cons_succ, i64_w, i32_w]
                                rfl
                              refine pure_ (i := 26) (N := some 90) (v := ?_) (a' := ?_) #[true, true, true, true, true, true, true, true, true, true, true, true, true, true, true, true, true, true, true, true, true, true, true, true, true, true, true, false, false, false, false, false, false] rfl rfl (any_of HT_.out (by kernel_rfl)) (fun _ _ _ h => h) (Or.inl ⟨by rfl, ?_⟩) ?_ ?_
                              rotate_left
                              · intro w'
                                go_simp
                                with_reducible rfl
                              rotate_left
                              · simp only [Act.put, List.setIfInBounds_toArray, List.set_cons_zero, List.set_cons_succ, i64_w, i32_w]
                                rfl
                              refine pure_ (i := 27) (N := some 91) (v := ?_) (a' := ?_) #[true, true, true, true, true, true, true, true, true, true, true, true, true, true, true, true, true, true, true, true, true, true, true, true, true, true, true, true, false, false, false, false, false] rfl rfl (any_of HT_.out (by kernel_rfl)) (fun _ _ _ h => h) (Or.inl ⟨by rfl, ?_⟩) ?_ ?_
                              rotate_left
                              · intro w'
                                go_simp
                                with_reducible rfl
                              rotate_left
                              · simp only [Act.put, List.setIfInBounds_toArray, List.set_cons_zero, List.set_cons_succ, i64_w, i32_w]
                                rfl
                              refine take_ (i := 28) (N := some 92) (v := ?_) (a' := ?_) #[true, true, true, true, true, true, true, true, true, true, true, true, true, true, true, true, true, true, true, true, true, true, true, true, true, true, true, true, true, false, false, false, false] rfl rfl (take_ofW HT_.out HW_.out (by kernel_rfl)) (fun _ _ _ h => h) (Or.inl ⟨by rfl, ?_⟩) hHeld ?_ ?_
                              rotate_left
                              · rintro w' ⟨s0, s1, s2, s3, s4, s5⟩
                                go_simp
                                with_reducible rfl
                              rotate_left
                              · simp only [Act.put, List.setIfInBounds_toArray, List.set_cons_zero, List.set_cons_succ, i64_w, i32_w]
                                rfl
                              refine take_ (i := 29) (N := some 93) (v := ?_) (a' := ?_) #[true, true, true, true, true, true, true, true, true, true, true, true, true, true, true, true, true, true, true, true, true, true, true, true, true, true, true, true, true, true, false, false, false] rfl rfl (take_ofW HT_.out HW_.out (by kernel_rfl)) (fun _ _ _ h => h) (Or.inl ⟨by rfl, ?_⟩) hHeld ?_ ?_
                              rotate_left
                              · rintro w' ⟨s0, s1, s2, s3, s4, s5⟩
                                go_simp
                                with_reducible rfl
                              rotate_left
                              · simp only [Act.put, List.setIfInBounds_toArray, List.set_cons_zero, List.set_cons_succ, i64_w, i32_w]
                                rfl
                              refine pure_ (i := 30) (N := some 94) (v := ?_) (a' := ?_) #[true, true, true, true, true, true, true, true, true, true, true, true, true, true, true, true, true, true, true, true, true, true, true, true, true, true, true, true, true, true, true, false, false] rfl rfl (any_of HT_.out (by kernel_rfl)) (fun _ _ _ h => h) (Or.inl ⟨by rfl, ?_⟩) ?_ ?_
                              rotate_left
                              · intro w'
                                go_simp
                                with_reducible rfl
                              rotate_left
                              · simp only [Act.put, List.setIfInBounds_toArray, List.set_cons_zero, List.set_cons_succ, i64_w, i32_w]
                                rfl
                              refine pure_ (i := 31) (N := some 95) (v := ?_) (a' := ?_) #[true, true, true, true, true, true, true, true, true, true, true, true, true, true, true, true, true, true, true, true, true, true, true, true, true, true, true, true, true, true, true, true, false] rfl rfl (any_of HT_.out (by kernel_rfl)) (fun _ _ _ h => h) (Or.inl ⟨by rfl, ?_⟩) ?_ ?_
                              rotate_left
                              · intro w'
                                go_simp
                                with_reducible rfl
                              rotate_left
                              · simp only [Act.put, List.setIfInBounds_toArray, List.set_cons_zero, List.set_cons_succ, i64_w, i32_w]
                                rfl
                              refine pure_ (i := 32) (N := some 4) (v := ?_) (a' := ?_) #[true, true, true, true, true, true, true, true, true, true, true, true, true, true, true, true, true, true, true, true, true, true, true, true, true, true, true, true, true, true, true, true, true] rfl rfl (any_of HT_.out (by kernel_rfl)) (fun _ _ _ h => h) (Or.inl ⟨by rfl, ?_⟩) ?_ ?_
                              rotate_left
                              · intro w'
                                go_simp
                                with_reducible rfl
                              rotate_left
                              · simp only [Act.put, List.setIfInBounds_toArray, List.set_cons_zero, List.set_cons_succ, i64_w, i32_w]
                                rfl
                              refine done_ (done_of HT_.out (by kernel_rfl)) ?_
                              try go_wp2
                              go_ret
                              exact ⟨by first | rfl | (simp [errW_none, errW_some] <;> rfl) | (simp only [← hji42]; first | rfl | (simp [errW_none, errW_some] <;> rfl)) | (simp [*, errW_none, errW_some] <;> rfl), by repeat (first | (with_reducible first | exact HB.out | apply below_alloc | apply pw_below_drewN | apply below_drew1 | refine below_set ?_ GE106.out | refine below_set ?_ GE109.out | refine below_set ?_ GE116.out | refine below_set ?_ GE123.out) | exact HB.out)⟩
                            · rw [if_neg c46] at H
                              exact absurd ((Option.some.inj H).trans hr_) (by decide)
                          · rw [if_neg c45] at H
                            exact absurd H (by simp)
                        · rw [if_neg c44] at H
                          exact absurd H (by simp)
                      · rw [if_neg c43] at H
                        exact absurd H (by simp)
                    · rw [if_neg c41] at H
                      exact absurd H (by simp)
                  · rw [if_neg c40] at H
                    exact absurd H (by simp)
                · replace c38 := Bool.eq_false_iff.mpr c38
                  subst c38
                  rw [if_neg Bool.false_ne_true] at H
                  exact absurd ((Option.some.inj H).trans hr_) (by decide)
              · replace c37 := Bool.eq_false_iff.mpr c37
                subst c37
                rw [if_neg Bool.false_ne_true] at H
                exact absurd ((Option.some.inj H).trans hr_) (by decide)
            · rw [if_neg c34] at H
              exact absurd H (by simp)
          · rw [if_neg c33] at H
            exact absurd H (by simp)
  · replace c4 := Bool.eq_false_iff.mpr c4
    subst c4
    have H1 : (some true) = some r := by rw [if_neg (show ¬ (false = true) by decide)] at H; exact H
    clear H
    have H := H1
    clear H1
    obtain rfl := Option.some.inj H
    go_enter Tryd.func4, Tryd.ntmps4
    go_wp2_with (first | ((with_reducible refine gate_dst (N := 2) rfl ?_); (try (refine gate_guard (by rfl) ?_; dsimp only)); refine box_event ?hg (N := 2) ?hd (cs := #[.string a0_0, .int .i64 a0_1]) (t := 23) ?hr ?_; (case hd => rfl); (case hg => rfl); (case hr => first | (go_simp; done) | (go_simp; rfl)); intro gb106 hg w149 hbox hb; have n0_ := Aside0.mk (below_step (by repeat (first | (with_reducible first | exact HB.out | apply below_alloc | apply pw_below_drewN | apply below_drew1) | exact HB.out)) hb); have n1_ := Aside0.mk (hbox); have n2_ := Aside0.mk ((by rw [hg]; exact (below_size (by repeat (first | (with_reducible first | exact HB.out | apply below_alloc | apply pw_below_drewN | apply below_drew1) | exact HB.out))) : w.heap.size ≤ gb106)); have n3_ := Aside0.mk ((by rw [hg]; exact (below_size (by repeat (first | (with_reducible first | exact HB.out | apply below_alloc | apply pw_below_drewN | apply below_drew1) | exact HB.out))) : w.heap.size ≤ gb106)); clear HB; have HB := n0_; have BK106 := n1_; have GW106 := n2_; have GE106 := n3_; clear n0_ n1_ n2_ n3_; clear hb hbox hg; have hcz150_0 : w149.cell? ⟨gb106, 0, none⟩ = some (.string a0_0) := (blk_cell BK106.out 0).trans rfl; have hcz150_1 : w149.cell? ⟨gb106, 1, none⟩ = some (.int .i64 a0_1) := (blk_cell BK106.out 1).trans rfl; have hfz150_0 := blk_frozen BK106.out 0; have hfz150_1 := blk_frozen BK106.out 1) | ((with_reducible refine gate_callee (f := 13) rfl ?_); refine goesL_ (some 11) rfl rfl Tryd.func13 (by kernel_rfl) rfl #[.agg #[.string a0_0, .int .i64 a0_1]] rfl (by (try simp only [List.map_toArray, List.map_cons, List.map_nil]); first | done | rfl | (simp only [List.length_drop, List.length_take]; rfl) | (simp only [Int.toNat_natCast, ByteArray.extract_zero_size]; rfl)) ?_; (with_reducible refine (laws_zzFits11.calls a0_0 a0_1 false _ A3.out).mono ?_); rintro e w151 ⟨rfl, hb⟩; refine ⟨_, rfl, ?_⟩; have n0_ := Aside0.mk (blk_below (g := gb106) (o := .cells #[.string a0_0, .int .i64 a0_1] 23 (0, 0)) (by (with_reducible repeat (first | refine blk_drewN ?_ _ | refine blk_drew ?_ | refine blk_alloc ?_ _)); exact BK106.out) hb); have n1_ := Aside0.mk (below_step (by repeat (first | (with_reducible first | exact HB.out | apply below_alloc | apply pw_below_drewN | apply below_drew1 | refine below_set ?_ GE106.out) | exact HB.out)) hb); clear BK106; clear HB; have BK106 := n0_; have HB := n1_; clear n0_ n1_; (try clear hb); (try clear hb2); (try clear hk); (try clear hi)))
    go_ret
    exact ⟨by first | rfl | (simp [errW_none, errW_some] <;> rfl) | (simp [*, errW_none, errW_some] <;> rfl), by repeat (first | (with_reducible first | exact HB.out | apply below_alloc | apply pw_below_drewN | apply below_drew1 | refine below_set ?_ GE106.out) | exact HB.out)⟩

/-- THE ONE PURE STATEMENT of laws_FnReplaceBack: yours. -/
def laws_FnReplaceBack.Pure : Prop := ∀ (a0_0 : ByteArray) (a0_1 : Int) (a1 : Int), a0_0.size ≤ maxLen → (Lit.int .i64 a0_1).wf = true → (Lit.int .u8 a1).wf = true → ∃ k, laws_FnReplaceBack.f k a0_0 a0_1 a1 = some true
theorem laws_FnReplaceBack.walk (P : laws_FnReplaceBack.Pure) (a0_0 : ByteArray) (a0_1 : Int) (a1 : Int) (w : World) (hg0_0 : a0_0.size ≤ maxLen) (hg0_1 : (Lit.int .i64 a0_1).wf = true) (hg1 : (Lit.int .u8 a1).wf = true) :
    Calls Tryd.prog 4 #[.agg #[.string a0_0, .int .i64 a0_1], .int .u8 a1] w fun e w' => e = .returned (.bool true) ∧ Below w.heap.size w w' := by
  obtain ⟨k, h⟩ := P a0_0 a0_1 a1 hg0_0 hg0_1 hg1
  refine (laws_FnReplaceBack.calls k a0_0 a0_1 a1 true rfl w h).mono ?_
  rintro e w' ⟨rfl, hd⟩
  exact ⟨rfl, hd⟩

end Go.Proofs.YtdinikcfhpfojaaDoor.PFnReplaceBack
