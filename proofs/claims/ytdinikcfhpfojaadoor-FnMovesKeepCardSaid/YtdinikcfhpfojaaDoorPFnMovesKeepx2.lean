/- Printed by a program of this seat (xprint) out of the translation: Go functions as plain functions, and the walks that show them; no condition. -/
import Derived.Test.YtdinikcfhpfojaaDoorPFnMovesKeepx0
import Derived.Test.YtdinikcfhpfojaaDoorHAfterFnMovesKeep
import Derived.Test.YtdinikcfhpfojaaDoorPFnMovesKeepx1
namespace Go.Proofs.YtdinikcfhpfojaaDoor.PFnMovesKeep
open Go.RowKit Go.Proofs.YtdinikcfhpfojaaDoor.H Go.Proofs.YtdinikcfhpfojaaDoor.R Go.Proofs.YtdinikcfhpfojaaDoorW.PrintWords Go.Proofs.YtdinikcfhpfojaaDoorW.PrintLast Go.Proofs.YtdinikcfhpfojaaDoorW.PrintMore
attribute [local go_sem] max2_int min2_int max_two min_two max_three min_three max_four min_four   -- for this text's walks alone
set_option linter.unusedVariables false
set_option linter.unusedSimpArgs false

/-! ### laws_FnMovesKeep: function 3 -/
mutual
def laws_FnMovesKeep.j0 : Nat → List Int → Int → Bool → ByteArray → Int → Option (Bool)
  | 0, _, _, _, _, _ => none
  | k + 1, x1, x2, x18, x107000, x107001 => if x18 = true then (some true) else ((laws_short9.f k x107000 x107001).bind fun t108 => (if t108 = true then (if (x1.length : Int) > 30 then (laws_FnMovesKeep.j1 k x1 x2 true x107000 x107001) else (if x2 = 0 then (laws_FnMovesKeep.j1 k x1 x2 true x107000 x107001) else (laws_FnMovesKeep.j1 k x1 x2 (decide (x2 ≥ 128)) x107000 x107001))) else (laws_FnMovesKeep.j1 k x1 x2 true x107000 x107001)))
def laws_FnMovesKeep.j1 : Nat → List Int → Int → Bool → ByteArray → Int → Option (Bool)
  | 0, _, _, _, _, _ => none
  | k + 1, x1, x2, x34, x107000, x107001 => if x34 = true then (some true) else (laws_FnMovesKeep.l0 k x1 x2 ([] : List (S29)) (x1.length : Int) 0 x107000 x107001)
def laws_FnMovesKeep.l0 : Nat → List Int → Int → List (S29) → Int → Int → ByteArray → Int → Option (Bool)
  | 0, _, _, _, _, _, _, _ => none
  | k + 1, x1, x2, x7, x36, x37, x107000, x107001 => if x37 < x36 then ((some (([2, 3, 4, 5, 10, 11, 19, 19] : List Int) : List Int)).bind fun y109 => (if 0 ≤ x37 then (if x37 < (x1.length : Int) then (if 0 ≤ (Int.tmod (rd x1 x37) 8) then (if (Int.tmod (rd x1 x37) 8) < (y109.length : Int) then (if x7.length < 3518437208883 then (laws_FnMovesKeep.l0 k x1 x2 (x7 ++ [(⟨rd y109 (Int.tmod (rd x1 x37) 8), (⟨#[]⟩ : ByteArray), wrap64 (x2), false, ((Int.tmod (rd x1 x37) 2) == 0)⟩ : S29)]) x36 (wrap64 (x37 + 1)) x107000 x107001) else (none)) else (none)) else (none)) else (none)) else (none))) else ((laws_after9.f x107000 x107001 x7).bind fun bt118 => (if bt118.2.2 = true then (if bt118.1.toList = x107000.toList then (if bt118.2.1 ≥ 0 then (some (decide (bt118.2.1 ≤ (bt118.1.size : Int)))) else (some false)) else (some false)) else (some false)))
end
def laws_FnMovesKeep.f (k : Nat) (a0_0 : ByteArray) (a0_1 : Int) (l1 : List Int) (a2 : Int) : Option (Bool) := (laws_zzFits11.f a0_0 a0_1).bind fun t107 => (if t107 = true then (laws_FnMovesKeep.j0 k l1 a2 (decide ((l1.length : Int) > 2147483647)) a0_0 a0_1) else (laws_FnMovesKeep.j0 k l1 a2 true a0_0 a0_1))
theorem laws_FnMovesKeep.mono_l : ∀ k, (∀ y0 y1 y2 y3 y4, LeO (laws_FnMovesKeep.j0 k y0 y1 y2 y3 y4) (laws_FnMovesKeep.j0 (k + 1) y0 y1 y2 y3 y4)) ∧ (∀ y0 y1 y2 y3 y4, LeO (laws_FnMovesKeep.j1 k y0 y1 y2 y3 y4) (laws_FnMovesKeep.j1 (k + 1) y0 y1 y2 y3 y4)) ∧ (∀ y0 y1 y2 y3 y4 y5 y6, LeO (laws_FnMovesKeep.l0 k y0 y1 y2 y3 y4 y5 y6) (laws_FnMovesKeep.l0 (k + 1) y0 y1 y2 y3 y4 y5 y6))
  | 0 => ⟨fun _ _ _ _ _ r h => by simp [laws_FnMovesKeep.j0] at h, fun _ _ _ _ _ r h => by simp [laws_FnMovesKeep.j1] at h, fun _ _ _ _ _ _ _ r h => by simp [laws_FnMovesKeep.l0] at h⟩
  | k + 1 => by
    obtain ⟨ih0, ih1, ih2⟩ := laws_FnMovesKeep.mono_l k
    refine ⟨?_, ?_, ?_⟩
    · intro y0 y1 y2 y3 y4
      unfold laws_FnMovesKeep.j0
      repeat' first
      | (with_reducible exact ih0 _ _ _ _ _)
      | (with_reducible exact ih1 _ _ _ _ _)
      | (with_reducible exact ih2 _ _ _ _ _ _ _)
      | (with_reducible exact laws_short9.mono _ _ _)
      | (with_reducible exact LeO.refl _)
      | (with_reducible exact LeO.none _)
      | (with_reducible refine LeO.ite ?_ ?_)
      | (with_reducible refine LeO.bind ?_ (fun _ => ?_))
      | exact ih0 _ _ _ _ _
      | exact ih1 _ _ _ _ _
      | exact ih2 _ _ _ _ _ _ _
      | exact laws_short9.mono _ _ _
      | exact LeO.none _
      | refine LeO.ite ?_ ?_
      | refine LeO.bind ?_ (fun _ => ?_)
    · intro y0 y1 y2 y3 y4
      unfold laws_FnMovesKeep.j1
      repeat' first
      | (with_reducible exact ih0 _ _ _ _ _)
      | (with_reducible exact ih1 _ _ _ _ _)
      | (with_reducible exact ih2 _ _ _ _ _ _ _)
      | (with_reducible exact laws_short9.mono _ _ _)
      | (with_reducible exact LeO.refl _)
      | (with_reducible exact LeO.none _)
      | (with_reducible refine LeO.ite ?_ ?_)
      | (with_reducible refine LeO.bind ?_ (fun _ => ?_))
      | exact ih0 _ _ _ _ _
      | exact ih1 _ _ _ _ _
      | exact ih2 _ _ _ _ _ _ _
      | exact laws_short9.mono _ _ _
      | exact LeO.none _
      | refine LeO.ite ?_ ?_
      | refine LeO.bind ?_ (fun _ => ?_)
    · intro y0 y1 y2 y3 y4 y5 y6
      unfold laws_FnMovesKeep.l0
      repeat' first
      | (with_reducible exact ih0 _ _ _ _ _)
      | (with_reducible exact ih1 _ _ _ _ _)
      | (with_reducible exact ih2 _ _ _ _ _ _ _)
      | (with_reducible exact laws_short9.mono _ _ _)
      | (with_reducible exact LeO.refl _)
      | (with_reducible exact LeO.none _)
      | (with_reducible refine LeO.ite ?_ ?_)
      | (with_reducible refine LeO.bind ?_ (fun _ => ?_))
      | exact ih0 _ _ _ _ _
      | exact ih1 _ _ _ _ _
      | exact ih2 _ _ _ _ _ _ _
      | exact laws_short9.mono _ _ _
      | exact LeO.none _
      | refine LeO.ite ?_ ?_
      | refine LeO.bind ?_ (fun _ => ?_)
theorem laws_FnMovesKeep.mono : ∀ a0 a1 a2 a3 k, LeO (laws_FnMovesKeep.f k a0 a1 a2 a3) (laws_FnMovesKeep.f (k + 1) a0 a1 a2 a3) := by
  intro a0 a1 a2 a3 k
  obtain ⟨ih0, ih1, ih2⟩ := laws_FnMovesKeep.mono_l k
  unfold laws_FnMovesKeep.f
  repeat' first
      | (with_reducible exact ih0 _ _ _ _ _)
      | (with_reducible exact ih1 _ _ _ _ _)
      | (with_reducible exact ih2 _ _ _ _ _ _ _)
      | (with_reducible exact laws_short9.mono _ _ _)
      | (with_reducible exact LeO.refl _)
      | (with_reducible exact LeO.none _)
      | (with_reducible refine LeO.ite ?_ ?_)
      | (with_reducible refine LeO.bind ?_ (fun _ => ?_))
      | exact ih0 _ _ _ _ _
      | exact ih1 _ _ _ _ _
      | exact ih2 _ _ _ _ _ _ _
      | exact laws_short9.mono _ _ _
      | exact LeO.none _
      | refine LeO.ite ?_ ?_
      | refine LeO.bind ?_ (fun _ => ?_)
def laws_FnMovesKeep.T9 : Bool × List (List Nat × List Nat) := (true, [([], []), ([], []), ([], []), ([], []), ([2, 3], [2, 3]), ([4], [4]), ([5], [5]), ([1, 6], [1, 6]), ([7], [7]), ([], []), ([9], [9]), ([], []), ([], []), ([11, 12], [11, 12]), ([13], [13]), ([14], [14]), ([15], [15]), ([8, 10, 16], [8, 10, 16]), ([17], [17]), ([0, 18], [0, 18]), ([19, 19, 0, 1, 2, 3, 4, 5, 6, 7, 8, 9, 10, 11, 12, 13, 14, 15, 16, 17, 18, 19], [0, 19])])
def laws_FnMovesKeep.B9 : List Nat := [0, 0, 0, 0, 12, 28, 60, 126, 254, 0, 512, 0, 0, 6144, 14336, 30720, 63488, 131070, 262142, 524287, 1048575]
theorem laws_FnMovesKeep.tab9 : rtab .any (opsOf Tryd.f3 9) = laws_FnMovesKeep.T9 := by kernel_rfl
theorem laws_FnMovesKeep.bits9 : waitsOk laws_FnMovesKeep.T9.2 laws_FnMovesKeep.B9 = true := by kernel_rfl
set_option maxHeartbeats 8000000 in
set_option maxRecDepth 100000 in
theorem laws_FnMovesKeep.calls (k : Nat) (a0_0 : ByteArray) (a0_1 : Int) (A1 : Option Addr) (c1 : Nat) (l1 : List Int) (a2 : Int) (r : Bool) (w : World) (hr1 : Kd.C (Kd.int .u8) w A1 l1.length l1) (hc1 : l1.length ≤ c1) (h : laws_FnMovesKeep.f k a0_0 a0_1 l1 a2 = some r) :
    Calls Tryd.prog 3 #[.agg #[.string a0_0, .int .i64 a0_1], .slice A1 l1.length c1, .int .u8 a2] w fun e w' => e = .returned (.bool r) ∧ Below w.heap.size w w' := by
  have hu23 := Tryd.underlying23
  have hu29 := Tryd.underlying29
  have HR1 := Aside0.mk hr1
  have HC1 := Aside0.mk hc1
  clear hr1 hc1
  have HB := Aside0.mk (Below.refl w.heap.size w)
  have H : ((laws_zzFits11.f a0_0 a0_1).bind fun t107 => (if t107 = true then (laws_FnMovesKeep.j0 k l1 a2 (decide ((l1.length : Int) > 2147483647)) a0_0 a0_1) else (laws_FnMovesKeep.j0 k l1 a2 true a0_0 a0_1))) = some r := h
  clear h
  have HC4 := Aside0.mk H
  clear H
  go_enter Tryd.func3, Tryd.ntmps3
  go_upto_region 1 with (first | ((with_reducible refine gate_dst (N := 3) rfl ?_); (try (refine gate_guard (by rfl) ?_; dsimp only)); refine box_event ?hg (N := 3) ?hd (cs := #[.string a0_0, .int .i64 a0_1]) (t := 23) ?hr ?_; (case hd => rfl); (case hg => rfl); (case hr => first | (go_simp; done) | (go_simp; rfl)); intro gb106 hg w5 hbox hb; have n0_ := Aside0.mk (below_step (by repeat (first | (with_reducible first | exact HB.out | apply below_alloc | apply pw_below_drewN | apply below_drew1) | exact HB.out)) hb); have n1_ := Aside0.mk (hbox); have n2_ := Aside0.mk ((by rw [hg]; exact (below_size (by repeat (first | (with_reducible first | exact HB.out | apply below_alloc | apply pw_below_drewN | apply below_drew1) | exact HB.out))) : w.heap.size ≤ gb106)); have n3_ := Aside0.mk ((by rw [hg]; exact (below_size (by repeat (first | (with_reducible first | exact HB.out | apply below_alloc | apply pw_below_drewN | apply below_drew1) | exact HB.out))) : w.heap.size ≤ gb106)); clear HB; have HB := n0_; have BK106 := n1_; have GW106 := n2_; have GE106 := n3_; clear n0_ n1_ n2_ n3_; clear hb hbox hg))
  (try simp only [Act.put, List.setIfInBounds_toArray, List.set_cons_zero, List.set_cons_succ])
  go_cut [18] (fun v18 wc => ∃ (kq : Nat) (x18_3 : Bool), v18 = .bool x18_3 ∧ Aside0 (laws_FnMovesKeep.j0 kq l1 a2 x18_3 a0_0 a0_1 = some r) ∧ Aside0 (kq ≤ k) ∧ Aside0 (wc.heap[gb106]? = some (.cells #[.string a0_0, .int .i64 a0_1] 23 (0, 0))) ∧ Aside0 (Below w.heap.size w wc))
  case first =>
    have H := HC4.out
    clear HC4
    replace H := Option.bind_eq_some_iff.mp H
    obtain ⟨t107, A60, H⟩ := H
    replace H : (if t107 = true then (laws_FnMovesKeep.j0 k l1 a2 (decide ((l1.length : Int) > 2147483647)) a0_0 a0_1) else (laws_FnMovesKeep.j0 k l1 a2 true a0_0 a0_1)) = some r := H
    have A6 := Aside0.mk A60
    clear A60
    by_cases c7 : t107 = true
    · subst c7
      have H1 : (laws_FnMovesKeep.j0 k l1 a2 (decide ((l1.length : Int) > 2147483647)) a0_0 a0_1) = some r := by rw [if_pos rfl] at H; exact H
      clear H
      have H := H1
      clear H1
      have H' := Aside0.mk H
      clear H
      have hcz8_0 : w5.cell? ⟨gb106, 0, none⟩ = some (.string a0_0) := (blk_cell BK106.out 0).trans rfl
      have hcz8_1 : w5.cell? ⟨gb106, 1, none⟩ = some (.int .i64 a0_1) := (blk_cell BK106.out 1).trans rfl
      have hfz8_0 := blk_frozen BK106.out 0
      have hfz8_1 := blk_frozen BK106.out 1
      go_wp2_with (first | ((with_reducible refine gate_callee (f := 13) rfl ?_); refine goesL_ (some 12) rfl rfl Tryd.func13 (by kernel_rfl) rfl #[.agg #[.string a0_0, .int .i64 a0_1]] rfl (by (try simp only [List.map_toArray, List.map_cons, List.map_nil]); first | done | rfl | (simp only [List.length_drop, List.length_take]; rfl) | (simp only [Int.toNat_natCast, ByteArray.extract_zero_size]; rfl)) ?_; (with_reducible refine (laws_zzFits11.calls a0_0 a0_1 true _ A6.out).mono ?_); rintro e w9 ⟨rfl, hb⟩; refine ⟨_, rfl, ?_⟩; have n0_ := Aside0.mk (blk_below (g := gb106) (o := .cells #[.string a0_0, .int .i64 a0_1] 23 (0, 0)) (by (with_reducible repeat (first | refine blk_drewN ?_ _ | refine blk_drew ?_ | refine blk_alloc ?_ _)); exact BK106.out) hb); have n1_ := Aside0.mk (below_step (by repeat (first | (with_reducible first | exact HB.out | apply below_alloc | apply pw_below_drewN | apply below_drew1 | refine below_set ?_ GE106.out) | exact HB.out)) hb); clear BK106; clear HB; have BK106 := n0_; have HB := n1_; clear n0_ n1_; (try clear hb); (try clear hb2); (try clear hk); (try clear hi)))
      go_meet
      case rel => exact ⟨_, (decide ((l1.length : Int) > 2147483647)), (by first | rfl | (simp; done) | (simp [*]; done)), H', ⟨by first | omega | exact Nat.le_refl _⟩, ⟨by (with_reducible repeat (first | refine blk_drewN ?_ _ | refine blk_drew ?_ | refine blk_alloc ?_ _)); exact BK106.out⟩, ⟨by repeat (first | (with_reducible first | exact HB.out | apply below_alloc | apply pw_below_drewN | apply below_drew1 | refine below_set ?_ GE106.out) | exact HB.out)⟩⟩
    · replace c7 := Bool.eq_false_iff.mpr c7
      subst c7
      have H1 : (laws_FnMovesKeep.j0 k l1 a2 true a0_0 a0_1) = some r := by rw [if_neg (show ¬ (false = true) by decide)] at H; exact H
      clear H
      have H := H1
      clear H1
      have H' := Aside0.mk H
      clear H
      have hcz10_0 : w5.cell? ⟨gb106, 0, none⟩ = some (.string a0_0) := (blk_cell BK106.out 0).trans rfl
      have hcz10_1 : w5.cell? ⟨gb106, 1, none⟩ = some (.int .i64 a0_1) := (blk_cell BK106.out 1).trans rfl
      have hfz10_0 := blk_frozen BK106.out 0
      have hfz10_1 := blk_frozen BK106.out 1
      go_wp2_with (first | ((with_reducible refine gate_callee (f := 13) rfl ?_); refine goesL_ (some 12) rfl rfl Tryd.func13 (by kernel_rfl) rfl #[.agg #[.string a0_0, .int .i64 a0_1]] rfl (by (try simp only [List.map_toArray, List.map_cons, List.map_nil]); first | done | rfl | (simp only [List.length_drop, List.length_take]; rfl) | (simp only [Int.toNat_natCast, ByteArray.extract_zero_size]; rfl)) ?_; (with_reducible refine (laws_zzFits11.calls a0_0 a0_1 false _ A6.out).mono ?_); rintro e w11 ⟨rfl, hb⟩; refine ⟨_, rfl, ?_⟩; have n0_ := Aside0.mk (blk_below (g := gb106) (o := .cells #[.string a0_0, .int .i64 a0_1] 23 (0, 0)) (by (with_reducible repeat (first | refine blk_drewN ?_ _ | refine blk_drew ?_ | refine blk_alloc ?_ _)); exact BK106.out) hb); have n1_ := Aside0.mk (below_step (by repeat (first | (with_reducible first | exact HB.out | apply below_alloc | apply pw_below_drewN | apply below_drew1 | refine below_set ?_ GE106.out) | exact HB.out)) hb); clear BK106; clear HB; have BK106 := n0_; have HB := n1_; clear n0_ n1_; (try clear hb); (try clear hb2); (try clear hk); (try clear hi)))
      go_meet
      case rel => exact ⟨_, (true), (by first | rfl | (simp; done) | (simp [*]; done)), H', ⟨by first | omega | exact Nat.le_refl _⟩, ⟨by (with_reducible repeat (first | refine blk_drewN ?_ _ | refine blk_drew ?_ | refine blk_alloc ?_ _)); exact BK106.out⟩, ⟨by repeat (first | (with_reducible first | exact HB.out | apply below_alloc | apply pw_below_drewN | apply below_drew1 | refine below_set ?_ GE106.out) | exact HB.out)⟩⟩
  case rest =>
    clear HC4
    try clear c1
    try clear p2
    try clear c3
    try clear c7
    try clear hcz10_0
    try clear hcz10_1
    try clear hcz8_0
    try clear hcz8_1
    try clear hfz10_0
    try clear hfz10_1
    try clear hfz8_0
    try clear hfz8_1
    obtain ⟨kq, x18_3, rfl, HA, HJ3, BK106, HB⟩ := hcut
    cases kq with
    | zero => exact absurd HA.out (by simp [laws_FnMovesKeep.j0])
    | succ kj3 =>
      have H := HA.out
      clear HA
      simp only [laws_FnMovesKeep.j0] at H
      by_cases c12 : x18_3 = true
      · subst c12
        have H1 : (some true) = some r := by rw [if_pos rfl] at H; exact H
        clear H
        have H := H1
        clear H1
        obtain rfl := Option.some.inj H
        go_wp2
        go_ret
        exact ⟨by first | rfl | (simp [errW_none, errW_some] <;> rfl) | (simp [*, errW_none, errW_some] <;> rfl), by repeat (first | (with_reducible first | exact HB.out | apply below_alloc | apply pw_below_drewN | apply below_drew1 | refine below_set ?_ GE106.out) | exact HB.out)⟩
      · replace c12 := Bool.eq_false_iff.mpr c12
        subst c12
        have H1 : ((laws_short9.f kj3 a0_0 a0_1).bind fun t108 => (if t108 = true then (if (l1.length : Int) > 30 then (laws_FnMovesKeep.j1 kj3 l1 a2 true a0_0 a0_1) else (if a2 = 0 then (laws_FnMovesKeep.j1 kj3 l1 a2 true a0_0 a0_1) else (laws_FnMovesKeep.j1 kj3 l1 a2 (decide (a2 ≥ 128)) a0_0 a0_1))) else (laws_FnMovesKeep.j1 kj3 l1 a2 true a0_0 a0_1))) = some r := by rw [if_neg (show ¬ (false = true) by decide)] at H; exact H
        clear H
        have H := H1
        clear H1
        have HC13 := Aside0.mk H
        clear H
        go_upto_region 3 with (fail)
        go_cut [34] (fun v34 wc => ∃ (kq : Nat) (x34_12 : Bool), v34 = .bool x34_12 ∧ Aside0 (laws_FnMovesKeep.j1 kq l1 a2 x34_12 a0_0 a0_1 = some r) ∧ Aside0 (kq ≤ kj3) ∧ Aside0 (wc.heap[gb106]? = some (.cells #[.string a0_0, .int .i64 a0_1] 23 (0, 0))) ∧ Aside0 (Below w.heap.size w wc))
        case first =>
          have H := HC13.out
          clear HC13
          replace H := Option.bind_eq_some_iff.mp H
          obtain ⟨t108, A140, H⟩ := H
          replace H : (if t108 = true then (if (l1.length : Int) > 30 then (laws_FnMovesKeep.j1 kj3 l1 a2 true a0_0 a0_1) else (if a2 = 0 then (laws_FnMovesKeep.j1 kj3 l1 a2 true a0_0 a0_1) else (laws_FnMovesKeep.j1 kj3 l1 a2 (decide (a2 ≥ 128)) a0_0 a0_1))) else (laws_FnMovesKeep.j1 kj3 l1 a2 true a0_0 a0_1)) = some r := H
          have A14 := Aside0.mk A140
          clear A140
          by_cases c15 : t108 = true
          · subst c15
            have H1 : (if (l1.length : Int) > 30 then (laws_FnMovesKeep.j1 kj3 l1 a2 true a0_0 a0_1) else (if a2 = 0 then (laws_FnMovesKeep.j1 kj3 l1 a2 true a0_0 a0_1) else (laws_FnMovesKeep.j1 kj3 l1 a2 (decide (a2 ≥ 128)) a0_0 a0_1))) = some r := by rw [if_pos rfl] at H; exact H
            clear H
            have H := H1
            clear H1
            by_cases c16 : (l1.length : Int) > 30
            · rw [if_pos c16] at H
              have c16b0 : decide (30 < (l1.length : Int)) = true := decide_eq_true c16
              have c16b1 : decide (30 < l1.length) = true := decide_eq_true (by omega)
              clear c16
              (first | rw [c16b0] | (simp only [i64_w, i32_w]; rw [c16b0]) | skip)
              have H' := Aside0.mk H
              clear H
              have hcz17_0 : wc.cell? ⟨gb106, 0, none⟩ = some (.string a0_0) := (blk_cell BK106.out 0).trans rfl
              have hcz17_1 : wc.cell? ⟨gb106, 1, none⟩ = some (.int .i64 a0_1) := (blk_cell BK106.out 1).trans rfl
              have hfz17_0 := blk_frozen BK106.out 0
              have hfz17_1 := blk_frozen BK106.out 1
              go_wp2_with (first | ((with_reducible refine gate_callee (f := 14) rfl ?_); refine goesL_ (some 20) rfl rfl Tryd.func14 (by kernel_rfl) rfl #[.agg #[.string a0_0, .int .i64 a0_1]] rfl (by (try simp only [List.map_toArray, List.map_cons, List.map_nil]); first | done | rfl | (simp only [List.length_drop, List.length_take]; rfl) | (simp only [Int.toNat_natCast, ByteArray.extract_zero_size]; rfl)) ?_; (with_reducible refine (laws_short9.calls kj3 a0_0 a0_1 true _ A14.out).mono ?_); rintro e w18 ⟨rfl, hb⟩; refine ⟨_, rfl, ?_⟩; have n0_ := Aside0.mk (blk_below (g := gb106) (o := .cells #[.string a0_0, .int .i64 a0_1] 23 (0, 0)) (by (with_reducible repeat (first | refine blk_drewN ?_ _ | refine blk_drew ?_ | refine blk_alloc ?_ _)); exact BK106.out) hb); have n1_ := Aside0.mk (below_step (by repeat (first | (with_reducible first | exact HB.out | apply below_alloc | apply pw_below_drewN | apply below_drew1 | refine below_set ?_ GE106.out) | exact HB.out)) hb); clear BK106; clear HB; have BK106 := n0_; have HB := n1_; clear n0_ n1_; (try clear hb); (try clear hb2); (try clear hk); (try clear hi)))
              go_meet
              case rel => exact ⟨_, (true), (by first | rfl | (simp; done) | (simp [*]; done)), H', ⟨by have := HJ3.out; first | omega | exact Nat.le_refl _⟩, ⟨by (with_reducible repeat (first | refine blk_drewN ?_ _ | refine blk_drew ?_ | refine blk_alloc ?_ _)); exact BK106.out⟩, ⟨by repeat (first | (with_reducible first | exact HB.out | apply below_alloc | apply pw_below_drewN | apply below_drew1 | refine below_set ?_ GE106.out) | exact HB.out)⟩⟩
            · rw [if_neg c16] at H
              have c16b0 : decide (30 < (l1.length : Int)) = false := decide_eq_false c16
              have c16b1 : decide (30 < l1.length) = false := decide_eq_false (by omega)
              clear c16
              (first | rw [c16b0] | (simp only [i64_w, i32_w]; rw [c16b0]) | skip)
              by_cases c19 : a2 = 0
              · rw [if_pos c19] at H
                have c19b0 : (a2 == 0) = true := beq_iff_eq.mpr c19
                have c19b1 : (a2 != 0) = false := bne_eq_false_iff_eq.mpr c19
                clear c19
                have H' := Aside0.mk H
                clear H
                have hcz20_0 : wc.cell? ⟨gb106, 0, none⟩ = some (.string a0_0) := (blk_cell BK106.out 0).trans rfl
                have hcz20_1 : wc.cell? ⟨gb106, 1, none⟩ = some (.int .i64 a0_1) := (blk_cell BK106.out 1).trans rfl
                have hfz20_0 := blk_frozen BK106.out 0
                have hfz20_1 := blk_frozen BK106.out 1
                go_wp2_with (first | ((with_reducible refine gate_callee (f := 14) rfl ?_); refine goesL_ (some 20) rfl rfl Tryd.func14 (by kernel_rfl) rfl #[.agg #[.string a0_0, .int .i64 a0_1]] rfl (by (try simp only [List.map_toArray, List.map_cons, List.map_nil]); first | done | rfl | (simp only [List.length_drop, List.length_take]; rfl) | (simp only [Int.toNat_natCast, ByteArray.extract_zero_size]; rfl)) ?_; (with_reducible refine (laws_short9.calls kj3 a0_0 a0_1 true _ A14.out).mono ?_); rintro e w21 ⟨rfl, hb⟩; refine ⟨_, rfl, ?_⟩; have n0_ := Aside0.mk (blk_below (g := gb106) (o := .cells #[.string a0_0, .int .i64 a0_1] 23 (0, 0)) (by (with_reducible repeat (first | refine blk_drewN ?_ _ | refine blk_drew ?_ | refine blk_alloc ?_ _)); exact BK106.out) hb); have n1_ := Aside0.mk (below_step (by repeat (first | (with_reducible first | exact HB.out | apply below_alloc | apply pw_below_drewN | apply below_drew1 | refine below_set ?_ GE106.out) | exact HB.out)) hb); clear BK106; clear HB; have BK106 := n0_; have HB := n1_; clear n0_ n1_; (try clear hb); (try clear hb2); (try clear hk); (try clear hi)))
                go_meet
                case rel => exact ⟨_, (true), (by first | rfl | (simp; done) | (simp [*]; done)), H', ⟨by have := HJ3.out; first | omega | exact Nat.le_refl _⟩, ⟨by (with_reducible repeat (first | refine blk_drewN ?_ _ | refine blk_drew ?_ | refine blk_alloc ?_ _)); exact BK106.out⟩, ⟨by repeat (first | (with_reducible first | exact HB.out | apply below_alloc | apply pw_below_drewN | apply below_drew1 | refine below_set ?_ GE106.out) | exact HB.out)⟩⟩
              · rw [if_neg c19] at H
                have c19b0 : (a2 == 0) = false := beq_eq_false_iff_ne.mpr c19
                have c19b1 : (a2 != 0) = true := bne_iff_ne.mpr c19
                have H' := Aside0.mk H
                clear H
                have hcz22_0 : wc.cell? ⟨gb106, 0, none⟩ = some (.string a0_0) := (blk_cell BK106.out 0).trans rfl
                have hcz22_1 : wc.cell? ⟨gb106, 1, none⟩ = some (.int .i64 a0_1) := (blk_cell BK106.out 1).trans rfl
                have hfz22_0 := blk_frozen BK106.out 0
                have hfz22_1 := blk_frozen BK106.out 1
                go_wp2_with (first | ((with_reducible refine gate_callee (f := 14) rfl ?_); refine goesL_ (some 20) rfl rfl Tryd.func14 (by kernel_rfl) rfl #[.agg #[.string a0_0, .int .i64 a0_1]] rfl (by (try simp only [List.map_toArray, List.map_cons, List.map_nil]); first | done | rfl | (simp only [List.length_drop, List.length_take]; rfl) | (simp only [Int.toNat_natCast, ByteArray.extract_zero_size]; rfl)) ?_; (with_reducible refine (laws_short9.calls kj3 a0_0 a0_1 true _ A14.out).mono ?_); rintro e w23 ⟨rfl, hb⟩; refine ⟨_, rfl, ?_⟩; have n0_ := Aside0.mk (blk_below (g := gb106) (o := .cells #[.string a0_0, .int .i64 a0_1] 23 (0, 0)) (by (with_reducible repeat (first | refine blk_drewN ?_ _ | refine blk_drew ?_ | refine blk_alloc ?_ _)); exact BK106.out) hb); have n1_ := Aside0.mk (below_step (by repeat (first | (with_reducible first | exact HB.out | apply below_alloc | apply pw_below_drewN | apply below_drew1 | refine below_set ?_ GE106.out) | exact HB.out)) hb); clear BK106; clear HB; have BK106 := n0_; have HB := n1_; clear n0_ n1_; (try clear hb); (try clear hb2); (try clear hk); (try clear hi)))
                go_meet
                case rel => exact ⟨_, (decide (a2 ≥ 128)), (by first | rfl | (simp; done) | (simp [*]; done)), H', ⟨by have := HJ3.out; first | omega | exact Nat.le_refl _⟩, ⟨by (with_reducible repeat (first | refine blk_drewN ?_ _ | refine blk_drew ?_ | refine blk_alloc ?_ _)); exact BK106.out⟩, ⟨by repeat (first | (with_reducible first | exact HB.out | apply below_alloc | apply pw_below_drewN | apply below_drew1 | refine below_set ?_ GE106.out) | exact HB.out)⟩⟩
          · replace c15 := Bool.eq_false_iff.mpr c15
            subst c15
            have H1 : (laws_FnMovesKeep.j1 kj3 l1 a2 true a0_0 a0_1) = some r := by rw [if_neg (show ¬ (false = true) by decide)] at H; exact H
            clear H
            have H := H1
            clear H1
            have H' := Aside0.mk H
            clear H
            have hcz24_0 : wc.cell? ⟨gb106, 0, none⟩ = some (.string a0_0) := (blk_cell BK106.out 0).trans rfl
            have hcz24_1 : wc.cell? ⟨gb106, 1, none⟩ = some (.int .i64 a0_1) := (blk_cell BK106.out 1).trans rfl
            have hfz24_0 := blk_frozen BK106.out 0
            have hfz24_1 := blk_frozen BK106.out 1
            go_wp2_with (first | ((with_reducible refine gate_callee (f := 14) rfl ?_); refine goesL_ (some 20) rfl rfl Tryd.func14 (by kernel_rfl) rfl #[.agg #[.string a0_0, .int .i64 a0_1]] rfl (by (try simp only [List.map_toArray, List.map_cons, List.map_nil]); first | done | rfl | (simp only [List.length_drop, List.length_take]; rfl) | (simp only [Int.toNat_natCast, ByteArray.extract_zero_size]; rfl)) ?_; (with_reducible refine (laws_short9.calls kj3 a0_0 a0_1 false _ A14.out).mono ?_); rintro e w25 ⟨rfl, hb⟩; refine ⟨_, rfl, ?_⟩; have n0_ := Aside0.mk (blk_below (g := gb106) (o := .cells #[.string a0_0, .int .i64 a0_1] 23 (0, 0)) (by (with_reducible repeat (first | refine blk_drewN ?_ _ | refine blk_drew ?_ | refine blk_alloc ?_ _)); exact BK106.out) hb); have n1_ := Aside0.mk (below_step (by repeat (first | (with_reducible first | exact HB.out | apply below_alloc | apply pw_below_drewN | apply below_drew1 | refine below_set ?_ GE106.out) | exact HB.out)) hb); clear BK106; clear HB; have BK106 := n0_; have HB := n1_; clear n0_ n1_; (try clear hb); (try clear hb2); (try clear hk); (try clear hi)))
            go_meet
            case rel => exact ⟨_, (true), (by first | rfl | (simp; done) | (simp [*]; done)), H', ⟨by have := HJ3.out; first | omega | exact Nat.le_refl _⟩, ⟨by (with_reducible repeat (first | refine blk_drewN ?_ _ | refine blk_drew ?_ | refine blk_alloc ?_ _)); exact BK106.out⟩, ⟨by repeat (first | (with_reducible first | exact HB.out | apply below_alloc | apply pw_below_drewN | apply below_drew1 | refine below_set ?_ GE106.out) | exact HB.out)⟩⟩
        case rest =>
          clear HC13
          try clear c1
          try clear p2
          try clear c3
          try clear c7
          try clear c12
          try clear c13
          try clear c14
          try clear c15
          try clear c16
          try clear c16b0
          try clear c16b1
          try clear c19
          try clear c19b0
          try clear c19b1
          try clear hcz10_0
          try clear hcz10_1
          try clear hcz17_0
          try clear hcz17_1
          try clear hcz20_0
          try clear hcz20_1
          try clear hcz22_0
          try clear hcz22_1
          try clear hcz24_0
          try clear hcz24_1
          try clear hcz8_0
          try clear hcz8_1
          try clear hfz10_0
          try clear hfz10_1
          try clear hfz17_0
          try clear hfz17_1
          try clear hfz20_0
          try clear hfz20_1
          try clear hfz22_0
          try clear hfz22_1
          try clear hfz24_0
          try clear hfz24_1
          try clear hfz8_0
          try clear hfz8_1
          try clear p2
          obtain ⟨kq, x34_12, rfl, HA, HJ12, BK106, HB⟩ := hcut
          cases kq with
          | zero => exact absurd HA.out (by simp [laws_FnMovesKeep.j1])
          | succ kj12 =>
            have H := HA.out
            clear HA
            simp only [laws_FnMovesKeep.j1] at H
            by_cases c26 : x34_12 = true
            · subst c26
              have H1 : (some true) = some r := by rw [if_pos rfl] at H; exact H
              clear H
              have H := H1
              clear H1
              obtain rfl := Option.some.inj H
              go_wp2
              go_ret
              exact ⟨by first | rfl | (simp [errW_none, errW_some] <;> rfl) | (simp [*, errW_none, errW_some] <;> rfl), by repeat (first | (with_reducible first | exact HB.out | apply below_alloc | apply pw_below_drewN | apply below_drew1 | refine below_set ?_ GE106.out) | exact HB.out)⟩
            · replace c26 := Bool.eq_false_iff.mpr c26
              subst c26
              have H1 : (laws_FnMovesKeep.l0 kj12 l1 a2 ([] : List (S29)) (l1.length : Int) 0 a0_0 a0_1) = some r := by rw [if_neg (show ¬ (false = true) by decide)] at H; exact H
              clear H
              have H := H1
              clear H1
              have H' := Aside0.mk H
              clear H
              go_wp2
              go_loopg [7, 37] kj12 (fun kq v7 v37 w' => ∃ (x7_3 : List (S29)) (x37_3 : Int), v37 = .int .i64 x37_3 ∧ Aside0 (laws_FnMovesKeep.l0 kq l1 a2 x7_3 (l1.length : Int) x37_3 a0_0 a0_1 = some r) ∧ Aside0 (kq ≤ kj12) ∧ Aside0 (Kd.R k29 29 w' w.heap.size (fun _ => True) v7 x7_3) ∧ Aside0 (w'.heap[gb106]? = some (.cells #[.string a0_0, .int .i64 a0_1] 23 (0, 0))) ∧ Aside0 (Below w.heap.size w w'))
              case atStart => exact ⟨(([] : List (S29))), (0), (by first | rfl | (simp; done) | (simp [*]; done)), H', ⟨Nat.le_refl _⟩, ⟨by first | exact Kd.R_nil _ _ _ _ _ | exact Kd.N_nil _ _ _ _ _ | exact Kd.V_nil _ _ _ _ _ | exact Kd.Q_nil _ _ _ _ _ | exact Kd.S_nil _ _ _ _ _⟩, ⟨by (with_reducible repeat (first | refine blk_drewN ?_ _ | refine blk_drew ?_ | refine blk_alloc ?_ _)); exact BK106.out⟩, ⟨by repeat (first | (with_reducible first | exact HB.out | apply below_alloc | apply pw_below_drewN | apply below_drew1 | refine below_set ?_ GE106.out) | exact HB.out)⟩⟩
              case round =>
                clear H'
                try clear c1
                try clear c2
                try clear p2
                try clear c3
                try clear c7
                try clear c12
                try clear c13
                try clear c14
                try clear c15
                try clear c16
                try clear c16b0
                try clear c16b1
                try clear c19
                try clear c19b0
                try clear c19b1
                try clear c26
                try clear hcz10_0
                try clear hcz10_1
                try clear hcz17_0
                try clear hcz17_1
                try clear hcz20_0
                try clear hcz20_1
                try clear hcz22_0
                try clear hcz22_1
                try clear hcz24_0
                try clear hcz24_1
                try clear hcz8_0
                try clear hcz8_1
                try clear hfz10_0
                try clear hfz10_1
                try clear hfz17_0
                try clear hfz17_1
                try clear hfz20_0
                try clear hfz20_1
                try clear hfz22_0
                try clear hfz22_1
                try clear hfz24_0
                try clear hfz24_1
                try clear hfz8_0
                try clear hfz8_1
                try clear p2
                obtain ⟨x7_3, x37_3, rfl, HA, HK3, HO_7, BK106, HB⟩ := hrel
                cases gk with
                | zero => exact absurd HA.out (by simp [laws_FnMovesKeep.l0])
                | succ k3 =>
                  have H := HA.out
                  clear HA
                  simp only [laws_FnMovesKeep.l0] at H
                  by_cases c27 : x37_3 < (l1.length : Int)
                  · rw [if_pos c27] at H
                    have c27b0 : decide (x37_3 < (l1.length : Int)) = true := decide_eq_true c27
                    clear c27
                    obtain ⟨y109, hy109⟩ : ∃ y_ : List Int, y_ = (([2, 3, 4, 5, 10, 11, 19, 19] : List Int)) := ⟨_, rfl⟩
                    replace H : (if 0 ≤ x37_3 then (if x37_3 < (l1.length : Int) then (if 0 ≤ (Int.tmod (rd l1 x37_3) 8) then (if (Int.tmod (rd l1 x37_3) 8) < (y109.length : Int) then (if x7_3.length < 3518437208883 then (laws_FnMovesKeep.l0 k3 l1 a2 (x7_3 ++ [(⟨rd y109 (Int.tmod (rd l1 x37_3) 8), (⟨#[]⟩ : ByteArray), wrap64 (a2), false, ((Int.tmod (rd l1 x37_3) 2) == 0)⟩ : S29)]) (l1.length : Int) (wrap64 (x37_3 + 1)) a0_0 a0_1) else (none)) else (none)) else (none)) else (none)) else (none)) = some r := by first | (rw [hy109]; with_reducible exact H) | (have H2_ := (Option.bind_some _ _).symm.trans H; rw [hy109]; with_reducible exact H2_) | (have H2_ := (Option.bind_some _ _).symm.trans H; with_reducible exact H2_) | with_reducible exact H | (rw [hy109]; exact H) | exact H
                    have Ny109 := Aside0.mk hy109
                    clear hy109
                    by_cases c28 : 0 ≤ x37_3
                    · rw [if_pos c28] at H
                      have c28b0 : decide (0 ≤ x37_3) = true := decide_eq_true c28
                      clear c28
                      by_cases c29 : x37_3 < (l1.length : Int)
                      · rw [if_pos c29] at H
                        have c29b0 : decide (x37_3 < (l1.length : Int)) = true := decide_eq_true c29
                        clear c29
                        obtain ⟨ji30, hji30⟩ : ∃ j_ : Int, (Int.tmod (rd l1 x37_3) 8) = j_ := ⟨_, rfl⟩
                        replace H : (if 0 ≤ (ji30) then (if (ji30) < (y109.length : Int) then (if x7_3.length < 3518437208883 then (laws_FnMovesKeep.l0 k3 l1 a2 (x7_3 ++ [(⟨rd y109 (ji30), (⟨#[]⟩ : ByteArray), wrap64 (a2), false, ((Int.tmod (rd l1 x37_3) 2) == 0)⟩ : S29)]) (l1.length : Int) (wrap64 (x37_3 + 1)) a0_0 a0_1) else (none)) else (none)) else (none)) = some r := by first | (rw [hji30] at H; exact H) | (simp only [hji30] at H ⊢; exact H)
                        by_cases c31 : 0 ≤ (ji30)
                        · rw [if_pos c31] at H
                          have c31b0 : decide (0 ≤ (ji30)) = true := decide_eq_true c31
                          clear c31
                          by_cases c32 : (ji30) < (y109.length : Int)
                          · rw [if_pos c32] at H
                            have c32b0 : decide ((ji30) < (y109.length : Int)) = true := decide_eq_true c32
                            clear c32
                            by_cases c33 : x7_3.length < 3518437208883
                            · rw [if_pos c33] at H
                              have LMc33 := Aside0.mk c33
                              clear c33
                              obtain ⟨y115, hy115⟩ : ∃ y_ : List (S29), y_ = (x7_3 ++ [(⟨rd y109 (ji30), (⟨#[]⟩ : ByteArray), wrap64 (a2), false, ((Int.tmod (rd l1 x37_3) 2) == 0)⟩ : S29)]) := ⟨_, rfl⟩
                              replace H : (laws_FnMovesKeep.l0 k3 l1 a2 y115 (l1.length : Int) (wrap64 (x37_3 + 1)) a0_0 a0_1) = some r := by first | (rw [hy115]; with_reducible exact H) | (have H2_ := (Option.bind_some _ _).symm.trans H; rw [hy115]; with_reducible exact H2_) | (have H2_ := (Option.bind_some _ _).symm.trans H; with_reducible exact H2_) | with_reducible exact H | (rw [hy115]; exact H) | exact H
                              have Ny115 := Aside0.mk hy115
                              clear hy115
                              have H' := Aside0.mk H
                              clear H
                              try go_wp2
                              have pi113 : (0 ≤ ((ji30) : Int)) = True := eq_true (of_decide_eq_true (by first | (with_reducible assumption) | assumption))
                              have qi113 : ((ji30) < (y109.length : Int)) = True := eq_true (of_decide_eq_true (by first | (with_reducible assumption) | assumption))
                              have n0_ := Aside0.mk (Kd.R_drew HO_7.out)
                              have n1_ := Aside0.mk (blk_drew BK106.out)
                              have n2_ := Aside0.mk (below_drew1 HB.out)
                              clear HO_7
                              clear BK106
                              clear HB
                              have HO_7 := n0_
                              have BK106 := n1_
                              have HB := n2_
                              clear n0_ n1_ n2_
                              have p112 : 0 ≤ (x37_3 : Int) := of_decide_eq_true (by first | (with_reducible assumption) | assumption)
                              have q112 : x37_3 < (l1.length : Int) := of_decide_eq_true (by first | (with_reducible assumption) | assumption)
                              obtain ⟨ad112, e112, hx112_0⟩ := Kd.at_int HR1.out x37_3 p112 q112
                              have hw112_0 := hx112_0
                              cases e112
                              replace hx112_0 := (HB.out.cell (World.block_lt_of_cell? w _ hx112_0)).trans hx112_0
                              replace p112 := eq_true p112
                              replace q112 := eq_true q112
                              have p114 : 0 ≤ (x37_3 : Int) := of_decide_eq_true (by first | (with_reducible assumption) | assumption)
                              have q114 : x37_3 < (l1.length : Int) := of_decide_eq_true (by first | (with_reducible assumption) | assumption)
                              obtain ⟨ad114, e114, hx114_0⟩ := Kd.at_int HR1.out x37_3 p114 q114
                              have hw114_0 := hx114_0
                              obtain rfl : ad112 = ad114 := (by injection e114)
                              replace hx114_0 := (HB.out.cell (World.block_lt_of_cell? w _ hx114_0)).trans hx114_0
                              replace p114 := eq_true p114
                              replace q114 := eq_true q114
                              refine start_ (n := 21) (S := fun w' => w'.cell? (ad112.add (x37_3).toNat) = some (.int .u8 (rd l1 x37_3)) ∧ w'.cell? (ad112.add (x37_3).toNat) = some (.int .u8 (rd l1 x37_3))) (ds := []) #[false, false, false, false, false, false, false, false, false, false, false, false, false, false, false, false, false, false, false, false, false] (by kernel_rfl) rfl rfl ⟨((HB.out.cell (World.block_lt_of_cell? w _ hw112_0)).trans hw112_0), ((HB.out.cell (World.block_lt_of_cell? w _ hw114_0)).trans hw114_0)⟩ (fun hHeld => ?_); refine with_tabW laws_FnMovesKeep.tab9 laws_FnMovesKeep.bits9 (fun HT_ HW_ => ?_)
                              generalize wr.drew = w34 at HO_7 BK106 HB hx112_0 hx114_0 hHeld ⊢
                              refine pure_ (i := 0) (N := some 40) (v := ?_) (a' := ?_) #[true, false, false, false, false, false, false, false, false, false, false, false, false, false, false, false, false, false, false, false, false] rfl rfl (any_of HT_.out (by kernel_rfl)) (fun _ _ _ h => h) (Or.inl ⟨by rfl, ?_⟩) ?_ ?_
                              rotate_left
                              · intro w'
                                go_simp
                                with_reducible rfl
                              rotate_left
                              · simp only [Act.put, List.setIfInBounds_toArray, List.set_cons_zero, List.set_cons_succ, i64_w, i32_w]
                                rfl
                              refine pure_ (i := 2) (N := some 42) (v := ?_) (a' := ?_) #[true, false, true, false, false, false, false, false, false, false, false, false, false, false, false, false, false, false, false, false, false] rfl rfl (any_of HT_.out (by kernel_rfl)) (fun _ _ _ h => h) (Or.inl ⟨by rfl, ?_⟩) ?_ ?_
                              rotate_left
                              · intro w'
                                go_simp
                                with_reducible rfl
                              rotate_left
                              · simp only [Act.put, List.setIfInBounds_toArray, List.set_cons_zero, List.set_cons_succ, i64_w, i32_w]
                                rfl
                              refine pure_ (i := 3) (N := some 43) (v := ?_) (a' := ?_) #[true, false, true, true, false, false, false, false, false, false, false, false, false, false, false, false, false, false, false, false, false] rfl rfl (any_of HT_.out (by kernel_rfl)) (fun _ _ _ h => h) (Or.inl ⟨by rfl, ?_⟩) ?_ ?_
                              rotate_left
                              · intro w'
                                go_simp
                                with_reducible rfl
                              rotate_left
                              · simp only [Act.put, List.setIfInBounds_toArray, List.set_cons_zero, List.set_cons_succ, i64_w, i32_w]
                                rfl
                              refine pure_ (i := 4) (N := some 44) (v := ?_) (a' := ?_) #[true, false, true, true, true, false, false, false, false, false, false, false, false, false, false, false, false, false, false, false, false] rfl rfl (any_of HT_.out (by kernel_rfl)) (fun _ _ _ h => h) (Or.inl ⟨by rfl, ?_⟩) ?_ ?_
                              rotate_left
                              · intro w'
                                go_simp
                                with_reducible rfl
                              rotate_left
                              · simp only [Act.put, List.setIfInBounds_toArray, List.set_cons_zero, List.set_cons_succ, i64_w, i32_w]
                                rfl
                              refine pure_ (i := 9) (N := some 49) (v := ?_) (a' := ?_) #[true, false, true, true, true, false, false, false, false, true, false, false, false, false, false, false, false, false, false, false, false] rfl rfl (any_of HT_.out (by kernel_rfl)) (fun _ _ _ h => h) (Or.inl ⟨by rfl, ?_⟩) ?_ ?_
                              rotate_left
                              · intro w'
                                go_simp
                                with_reducible rfl
                              rotate_left
                              · simp only [Act.put, List.setIfInBounds_toArray, List.set_cons_zero, List.set_cons_succ, i64_w, i32_w]
                                rfl
                              refine pure_ (i := 10) (N := some 50) (v := ?_) (a' := ?_) #[true, false, true, true, true, false, false, false, false, true, true, false, false, false, false, false, false, false, false, false, false] rfl rfl (any_of HT_.out (by kernel_rfl)) (fun _ _ _ h => h) (Or.inl ⟨by rfl, ?_⟩) ?_ ?_
                              rotate_left
                              · intro w'
                                go_simp
                                with_reducible rfl
                              rotate_left
                              · simp only [Act.put, List.setIfInBounds_toArray, List.set_cons_zero, List.set_cons_succ, i64_w, i32_w]
                                rfl
                              refine pure_ (i := 11) (N := some 51) (v := ?_) (a' := ?_) #[true, false, true, true, true, false, false, false, false, true, true, true, false, false, false, false, false, false, false, false, false] rfl rfl (any_of HT_.out (by kernel_rfl)) (fun _ _ _ h => h) (Or.inl ⟨by rfl, ?_⟩) ?_ ?_
                              rotate_left
                              · intro w'
                                go_simp
                                with_reducible rfl
                              rotate_left
                              · simp only [Act.put, List.setIfInBounds_toArray, List.set_cons_zero, List.set_cons_succ, i64_w, i32_w]
                                rfl
                              refine pure_ (i := 12) (N := some 52) (v := ?_) (a' := ?_) #[true, false, true, true, true, false, false, false, false, true, true, true, true, false, false, false, false, false, false, false, false] rfl rfl (any_of HT_.out (by kernel_rfl)) (fun _ _ _ h => h) (Or.inl ⟨by rfl, ?_⟩) ?_ ?_
                              rotate_left
                              · intro w'
                                go_simp
                                with_reducible rfl
                              rotate_left
                              · simp only [Act.put, List.setIfInBounds_toArray, List.set_cons_zero, List.set_cons_succ, i64_w, i32_w]
                                rfl
                              refine pure_ (i := 13) (N := some 53) (v := ?_) (a' := ?_) #[true, false, true, true, true, false, false, false, false, true, true, true, true, true, false, false, false, false, false, false, false] rfl rfl (any_of HT_.out (by kernel_rfl)) (fun _ _ _ h => h) (Or.inl ⟨by rfl, ?_⟩) ?_ ?_
                              rotate_left
                              · intro w'
                                go_simp
                                with_reducible rfl
                              rotate_left
                              · simp only [Act.put, List.setIfInBounds_toArray, List.set_cons_zero, List.set_cons_succ, i64_w, i32_w]
                                rfl
                              refine take_ (i := 5) (N := some 45) (v := ?_) (a' := ?_) #[true, false, true, true, true, true, false, false, false, true, true, true, true, true, false, false, false, false, false, false, false] rfl rfl (take_ofW HT_.out HW_.out (by kernel_rfl)) (fun _ _ _ h => h) (Or.inl ⟨by rfl, ?_⟩) hHeld ?_ ?_
                              rotate_left
                              · rintro w' ⟨s0, s1⟩
                                go_simp
                                with_reducible rfl
                              rotate_left
                              · simp only [Act.put, List.setIfInBounds_toArray, List.set_cons_zero, List.set_cons_succ, i64_w, i32_w]
                                rfl
                              refine pure_ (i := 6) (N := some 46) (v := ?_) (a' := ?_) #[true, false, true, true, true, true, true, false, false, true, true, true, true, true, false, false, false, false, false, false, false] rfl rfl (any_of HT_.out (by kernel_rfl)) (fun _ _ _ h => h) (Or.inl ⟨by rfl, ?_⟩) ?_ ?_
                              rotate_left
                              · intro w'
                                go_simp
                                with_reducible rfl
                              rotate_left
                              · simp only [Act.put, List.setIfInBounds_toArray, List.set_cons_zero, List.set_cons_succ, i64_w, i32_w]
                                rfl
                              refine take_ (i := 14) (N := some 54) (v := ?_) (a' := ?_) #[true, false, true, true, true, true, true, false, false, true, true, true, true, true, true, false, false, false, false, false, false] rfl rfl (take_ofW HT_.out HW_.out (by kernel_rfl)) (fun _ _ _ h => h) (Or.inl ⟨by rfl, ?_⟩) hHeld ?_ ?_
                              rotate_left
                              · rintro w' ⟨s0, s1⟩
                                go_simp
                                with_reducible rfl
                              rotate_left
                              · simp only [Act.put, List.setIfInBounds_toArray, List.set_cons_zero, List.set_cons_succ, i64_w, i32_w]
                                rfl
                              refine pure_ (i := 15) (N := some 55) (v := ?_) (a' := ?_) #[true, false, true, true, true, true, true, false, false, true, true, true, true, true, true, true, false, false, false, false, false] rfl rfl (any_of HT_.out (by kernel_rfl)) (fun _ _ _ h => h) (Or.inl ⟨by rfl, ?_⟩) ?_ ?_
                              rotate_left
                              · intro w'
                                go_simp
                                with_reducible rfl
                              rotate_left
                              · simp only [Act.put, List.setIfInBounds_toArray, List.set_cons_zero, List.set_cons_succ, i64_w, i32_w]
                                rfl
                              refine pure_ (i := 16) (N := some 56) (v := ?_) (a' := ?_) #[true, false, true, true, true, true, true, false, false, true, true, true, true, true, true, true, true, false, false, false, false] rfl rfl (any_of HT_.out (by kernel_rfl)) (fun _ _ _ h => h) (Or.inl ⟨by rfl, ?_⟩) ?_ ?_
                              rotate_left
                              · intro w'
                                go_simp
                                with_reducible rfl
                              rotate_left
                              · simp only [Act.put, List.setIfInBounds_toArray, List.set_cons_zero, List.set_cons_succ, i64_w, i32_w]
                                rfl
                              refine one_ (i := 1) (N := some 41) #[true, true, true, true, true, true, true, false, false, true, true, true, true, true, true, true, true, false, false, false, false] rfl rfl (one_of HT_.out (by kernel_rfl)) (by decide) (fun K hK => ?_)
                              refine Kd.R_lit_step (Kd.int .i64) _ 3 ?hg (N := 41) ?hd (xs := ([2, 3, 4, 5, 10, 11, 19, 19] : List Int)) (inner := [.int .i64 2, .int .i64 3, .int .i64 4, .int .i64 5, .int .i64 10, .int .i64 11, .int .i64 19, .int .i64 19]) (ok := fun _ => True) (okp := fun _ => True) ?hr ?hp (fun _ hk => hk) trivial (Below.refl _ _) (Nat.le_refl _) (by simp) ?_; (case hd => rfl); (case hg => rfl); (case hr => first | (go_simp; done) | (go_simp; rfl)); (case hp => exact (Reps.one (show Kd.M (Kd.int .i64) _ _ _ 2 [.int .i64 2] from rfl) (Reps.one (show Kd.M (Kd.int .i64) _ _ _ 3 [.int .i64 3] from rfl) (Reps.one (show Kd.M (Kd.int .i64) _ _ _ 4 [.int .i64 4] from rfl) (Reps.one (show Kd.M (Kd.int .i64) _ _ _ 5 [.int .i64 5] from rfl) (Reps.one (show Kd.M (Kd.int .i64) _ _ _ 10 [.int .i64 10] from rfl) (Reps.one (show Kd.M (Kd.int .i64) _ _ _ 11 [.int .i64 11] from rfl) (Reps.one (show Kd.M (Kd.int .i64) _ _ _ 19 [.int .i64 19] from rfl) (Reps.one (show Kd.M (Kd.int .i64) _ _ _ 19 [.int .i64 19] from rfl) (Reps.none _ _))))))))))
                              intro v110 w35 ho36 hb hg_ hnew_
                              clear hg_ hnew_
                              (first | rw [← Ny109.out] at ho36 | (simp only [Int.reduceToNat] at ho36; rw [← Ny109.out] at ho36))
                              have n0_ := Aside0.mk (Kd.R_below (by (with_reducible repeat (first | apply Kd.R_alloc | apply Kd.R_drewN | apply Kd.R_drew)); exact HO_7.out) hb)
                              have n1_ := Aside0.mk (Kd.R_lower ho36 (below_size (by repeat (first | (with_reducible first | exact HB.out | apply below_alloc | apply pw_below_drewN | apply below_drew1 | refine below_set ?_ GE106.out) | exact HB.out))))
                              have n2_ := Aside0.mk (blk_below (g := gb106) (o := .cells #[.string a0_0, .int .i64 a0_1] 23 (0, 0)) (by (with_reducible repeat (first | refine blk_drewN ?_ _ | refine blk_drew ?_ | refine blk_alloc ?_ _)); exact BK106.out) hb)
                              have n3_ := Aside0.mk (below_step (by repeat (first | (with_reducible first | exact HB.out | apply below_alloc | apply pw_below_drewN | apply below_drew1 | refine below_set ?_ GE106.out) | exact HB.out)) hb)
                              clear HO_7
                              clear BK106
                              clear HB
                              have HO_7 := n0_
                              have HO111 := n1_
                              have BK106 := n2_
                              have HB := n3_
                              clear n0_ n1_ n2_ n3_
                              clear hb ho36
                              obtain ⟨Ao37, co37, eo37⟩ := Kd.R_slice HO111.out
                              subst eo37
                              obtain ⟨ado37, fo37, _⟩ := Kd.at_int (Kd.R_reads' HO111.out).2.2 0 (by decide) (by rw [Ny109.out]; simp)
                              cases fo37
                              refine hK.out _ _ ⟨((HB.out.cell (World.block_lt_of_cell? w _ hw112_0)).trans hw112_0), ((HB.out.cell (World.block_lt_of_cell? w _ hw114_0)).trans hw114_0)⟩ (fun hHeld => ?_)
                              clear hK K
                              refine norm_ (a' := ?_) ?_ ?_
                              rotate_left
                              · show Act.put _ (some 41) _ = _
                                simp only [Act.put, List.setIfInBounds_toArray, List.set_cons_zero, List.set_cons_succ, i64_w, i32_w]
                                rfl
                              refine pure_ (i := 7) (N := some 47) (v := ?_) (a' := ?_) #[true, true, true, true, true, true, true, true, false, true, true, true, true, true, true, true, true, false, false, false, false] rfl rfl (any_of HT_.out (by kernel_rfl)) (fun _ _ _ h => h) (Or.inl ⟨by rfl, ?_⟩) ?_ ?_
                              rotate_left
                              · intro w'
                                go_simp
                                with_reducible rfl
                              rotate_left
                              · simp only [Act.put, List.setIfInBounds_toArray, List.set_cons_zero, List.set_cons_succ, i64_w, i32_w]
                                rfl
                              refine one_ (i := 8) (N := some 48) #[true, true, true, true, true, true, true, true, true, true, true, true, true, true, true, true, true, false, false, false, false] rfl rfl (one_of HT_.out (by kernel_rfl)) (by decide) (fun K hK => ?_)
                              (have p113 : 0 ≤ ((ji30) : Int) := of_decide_eq_true (by first | (with_reducible assumption) | assumption); have q113 : (ji30) < (y109.length : Int) := of_decide_eq_true (by first | (with_reducible assumption) | assumption); obtain ⟨ad113, e113, hx113_0⟩ := Kd.at_int (Kd.R_reads' HO111.out).2.2 (ji30) p113 q113; obtain rfl : ado37 = ad113 := (by injection e113))
                              refine value_ (w1 := ?_) (v := ?_) (by rfl) rfl ?_ ?_
                              rotate_left 2
                              · go_simp
                                constructor
                                · rfl
                                · rfl
                              clear hx113_0
                              refine hK.out _ _ ⟨((HB.out.cell (World.block_lt_of_cell? w _ hw112_0)).trans hw112_0), ((HB.out.cell (World.block_lt_of_cell? w _ hw114_0)).trans hw114_0)⟩ (fun hHeld => ?_)
                              clear hK K
                              refine norm_ (a' := ?_) ?_ ?_
                              rotate_left
                              · show Act.put _ (some 48) _ = _
                                simp only [Act.put, List.setIfInBounds_toArray, List.set_cons_zero, List.set_cons_succ, i64_w, i32_w]
                                rfl
                              refine pure_ (i := 17) (N := some 57) (v := ?_) (a' := ?_) #[true, true, true, true, true, true, true, true, true, true, true, true, true, true, true, true, true, true, false, false, false] rfl rfl (any_of HT_.out (by kernel_rfl)) (fun _ _ _ h => h) (Or.inl ⟨by rfl, ?_⟩) ?_ ?_
                              rotate_left
                              · intro w'
                                go_simp
                                with_reducible rfl
                              rotate_left
                              · simp only [Act.put, List.setIfInBounds_toArray, List.set_cons_zero, List.set_cons_succ, i64_w, i32_w]
                                rfl
                              refine one_ (i := 18) (N := some 58) #[true, true, true, true, true, true, true, true, true, true, true, true, true, true, true, true, true, true, true, false, false] rfl rfl (one_of HT_.out (by kernel_rfl)) (by decide) (fun K hK => ?_)
                              refine value_ (w1 := ?_) (v := ?_) (by rfl) rfl ?_ ?_
                              rotate_left 2
                              · go_simp
                                constructor
                                · rfl
                                · rfl
                              refine hK.out _ _ ⟨(World.cell?_alloc_lt _ _ _ (World.block_lt_of_cell? _ _ (((HB.out.cell (World.block_lt_of_cell? w _ hw112_0)).trans hw112_0)))).trans (((HB.out.cell (World.block_lt_of_cell? w _ hw112_0)).trans hw112_0)), (World.cell?_alloc_lt _ _ _ (World.block_lt_of_cell? _ _ (((HB.out.cell (World.block_lt_of_cell? w _ hw114_0)).trans hw114_0)))).trans (((HB.out.cell (World.block_lt_of_cell? w _ hw114_0)).trans hw114_0))⟩ (fun hHeld => ?_)
                              clear hK K
                              refine norm_ (a' := ?_) ?_ ?_
                              rotate_left
                              · show Act.put _ (some 58) _ = _
                                simp only [Act.put, List.setIfInBounds_toArray, List.set_cons_zero, List.set_cons_succ, i64_w, i32_w]
                                rfl
                              refine one_ (i := 19) (N := some 59) #[true, true, true, true, true, true, true, true, true, true, true, true, true, true, true, true, true, true, true, true, false] rfl rfl (one_of HT_.out (by kernel_rfl)) (by decide) (fun K hK => ?_)
                              refine Kd.R_append_step k29 (w0 := w) w.heap.size (by rfl) (.tmp 40) (.tmp 58) 26 29 (.agg #[(.int .i64 0), (.string ⟨#[]⟩), (.int .i64 0), (.bool false), (.bool false)]) 40 rfl Tryd.underlying26 info29 rfl (by decide) (by omega) u7 x7_3 (⟨rd y109 (ji30), (⟨#[]⟩ : ByteArray), wrap64 (a2), false, ((Int.tmod (rd l1 x37_3) 2) == 0)⟩ : S29) [.int .i64 (rd y109 (ji30)), .string (⟨#[]⟩ : ByteArray), .int .i64 (wrap64 (a2)), .bool false, .bool ((Int.tmod (rd l1 x37_3) 2) == 0)] (fun _ => True) (fun _ => False) rfl rfl ?aP (fun _ hk => hk.elim) ?aF ?aO ?aB ?aS ?aL ?_
                              (case aP => exact k29_mkM _ _ _ (⟨rd y109 (ji30), (⟨#[]⟩ : ByteArray), wrap64 (a2), false, ((Int.tmod (rd l1 x37_3) 2) == 0)⟩ : S29))
                              (case aB => exact (by repeat (first | (with_reducible first | exact HB.out | apply below_alloc | apply pw_below_drewN | apply below_drew1 | refine below_set ?_ GE106.out) | exact HB.out)))
                              (case aF => exact (fun _ _ => trivial))
                              (case aO => exact (by (with_reducible repeat (first | apply Kd.R_alloc | apply Kd.R_drewN | apply Kd.R_drew)); exact HO_7.out))
                              (case aS => exact (below_size (by repeat (first | (with_reducible first | exact HB.out | apply below_alloc | apply pw_below_drewN | apply below_drew1 | refine below_set ?_ GE106.out) | exact HB.out))))
                              (case aL => have := LMc33.out; omega)
                              intro v116 w38 ho hb hg hat
                              rw [← Ny115.out] at ho
                              have n0_ := Aside0.mk (blk_grown (g := gb106) (o := .cells #[.string a0_0, .int .i64 a0_1] 23 (0, 0)) (by (with_reducible repeat (first | refine blk_drewN ?_ _ | refine blk_drew ?_ | refine blk_alloc ?_ _)); exact BK106.out) hg (Kd.R_ne HO_7.out BK106.out (by decide)))
                              have n1_ := Aside0.mk (Kd.R_over' (by (with_reducible repeat (first | apply Kd.R_alloc | apply Kd.R_drewN | apply Kd.R_drew)); exact HO111.out) (Kd.R_typed (by (with_reducible repeat (first | apply Kd.R_alloc | apply Kd.R_drewN | apply Kd.R_drew)); exact HO_7.out)) (by decide) hg)
                              have n2_ := Aside0.mk (hb)
                              have n3_ := Aside0.mk (ho)
                              clear BK106
                              clear HO111
                              clear HB
                              clear HO_7
                              have BK106 := n0_
                              have HO111 := n1_
                              have HB := n2_
                              have HO117 := n3_
                              clear n0_ n1_ n2_ n3_
                              clear ho hb hg hat
                              refine hK.out _ _ ⟨((HB.out.cell (World.block_lt_of_cell? w _ hw112_0)).trans hw112_0), ((HB.out.cell (World.block_lt_of_cell? w _ hw114_0)).trans hw114_0)⟩ (fun hHeld => ?_)
                              clear hK K
                              refine norm_ (a' := ?_) ?_ ?_
                              rotate_left
                              · show Act.put _ (some 59) _ = _
                                simp only [Act.put, List.setIfInBounds_toArray, List.set_cons_zero, List.set_cons_succ, i64_w, i32_w]
                                rfl
                              refine pure_ (i := 20) (N := some 7) (v := ?_) (a' := ?_) #[true, true, true, true, true, true, true, true, true, true, true, true, true, true, true, true, true, true, true, true, true] rfl rfl (any_of HT_.out (by kernel_rfl)) (fun _ _ _ h => h) (Or.inl ⟨by rfl, ?_⟩) ?_ ?_
                              rotate_left
                              · intro w'
                                go_simp
                                with_reducible rfl
                              rotate_left
                              · simp only [Act.put, List.setIfInBounds_toArray, List.set_cons_zero, List.set_cons_succ, i64_w, i32_w]
                                rfl
                              refine done_ (done_of HT_.out (by kernel_rfl)) ?_
                              try go_wp2
                              go_roundg k3
                              case measure => have := HJ3.out; have := HJ12.out; have := HK3.out; omega
                              case rel => exact ⟨(y115), (wrap64 (x37_3 + 1)), (by first | rfl | (simp; done) | (simp [*]; done)), H', ⟨by have := HJ3.out; have := HJ12.out; have := HK3.out; omega⟩, ⟨by (with_reducible repeat (first | apply Kd.R_alloc | apply Kd.R_drewN | apply Kd.R_drew)); exact HO117.out⟩, ⟨by (with_reducible repeat (first | refine blk_drewN ?_ _ | refine blk_drew ?_ | refine blk_alloc ?_ _)); exact BK106.out⟩, ⟨by repeat (first | (with_reducible first | exact HB.out | apply below_alloc | apply pw_below_drewN | apply below_drew1 | refine below_set ?_ GE106.out) | exact HB.out)⟩⟩
                            · rw [if_neg c33] at H
                              exact absurd H (by simp)
                          · rw [if_neg c32] at H
                            exact absurd H (by simp)
                        · rw [if_neg c31] at H
                          exact absurd H (by simp)
                      · rw [if_neg c29] at H
                        exact absurd H (by simp)
                    · rw [if_neg c28] at H
                      exact absurd H (by simp)
                  · rw [if_neg c27] at H
                    have c27b0 : decide (x37_3 < (l1.length : Int)) = false := decide_eq_false c27
                    clear c27
                    replace H := Option.bind_eq_some_iff.mp H
                    obtain ⟨⟨t118, t119, t120⟩, A390, H⟩ := H
                    replace H : (if t120 = true then (if t118.toList = a0_0.toList then (if t119 ≥ 0 then (some (decide (t119 ≤ (t118.size : Int)))) else (some false)) else (some false)) else (some false)) = some r := H
                    have A39 := Aside0.mk A390
                    clear A390
                    by_cases c40 : t120 = true
                    · subst c40
                      have H1 : (if t118.toList = a0_0.toList then (if t119 ≥ 0 then (some (decide (t119 ≤ (t118.size : Int)))) else (some false)) else (some false)) = some r := by rw [if_pos rfl] at H; exact H
                      clear H
                      have H := H1
                      clear H1
                      by_cases c41 : t118.toList = a0_0.toList
                      · rw [if_pos c41] at H
                        have c41b0 : (t118.toList == a0_0.toList) = true := beq_iff_eq.mpr c41
                        have c41b1 : (t118.toList != a0_0.toList) = false := bne_eq_false_iff_eq.mpr c41
                        clear c41
                        by_cases c42 : t119 ≥ 0
                        · rw [if_pos c42] at H
                          have c42b0 : decide (0 ≤ t119) = true := decide_eq_true c42
                          clear c42
                          obtain rfl := Option.some.inj H
                          have hcz43_0 : wr.cell? ⟨gb106, 0, none⟩ = some (.string a0_0) := (blk_cell BK106.out 0).trans rfl
                          have hcz43_1 : wr.cell? ⟨gb106, 1, none⟩ = some (.int .i64 a0_1) := (blk_cell BK106.out 1).trans rfl
                          have hfz43_0 := blk_frozen BK106.out 0
                          have hfz43_1 := blk_frozen BK106.out 1
                          obtain ⟨Ao44, co44, eo44⟩ := Kd.R_slice HO_7.out
                          subst eo44
                          go_wp2_with (first | ((with_reducible refine gate_callee (f := 15) rfl ?_); refine goesL_ (some 64) rfl rfl Tryd.func15 (by kernel_rfl) rfl #[.agg #[.string a0_0, .int .i64 a0_1], .slice Ao44 x7_3.length co44] rfl (by (try simp only [List.map_toArray, List.map_cons, List.map_nil]); first | done | rfl | (simp only [List.length_drop, List.length_take]; rfl) | (simp only [Int.toNat_natCast, ByteArray.extract_zero_size]; rfl)) ?_; (with_reducible refine (laws_after9.calls a0_0 a0_1 _ _ x7_3 t118 t119 true _ ?side1 ?side2 A39.out).mono ?_); (case side1 => repeat (first | exact (Kd.R_reads' HO_7.out).2.2 | (with_reducible refine Kd.C_alloc ?_ _) | (with_reducible refine Kd.C_drewN ?_ _) | (with_reducible refine Kd.C_drew ?_))); (case side2 => exact (Kd.R_reads' HO_7.out).2.1); rintro e w45 ⟨rfl, hb⟩; refine ⟨_, rfl, ?_⟩; have n0_ := Aside0.mk (Kd.R_below (by (with_reducible repeat (first | apply Kd.R_alloc | apply Kd.R_drewN | apply Kd.R_drew)); exact HO_7.out) hb); have n1_ := Aside0.mk (blk_below (g := gb106) (o := .cells #[.string a0_0, .int .i64 a0_1] 23 (0, 0)) (by (with_reducible repeat (first | refine blk_drewN ?_ _ | refine blk_drew ?_ | refine blk_alloc ?_ _)); exact BK106.out) hb); have n2_ := Aside0.mk (below_step (by repeat (first | (with_reducible first | exact HB.out | apply below_alloc | apply pw_below_drewN | apply below_drew1 | refine below_set ?_ GE106.out) | exact HB.out)) hb); clear HO_7; clear BK106; clear HB; have HO_7 := n0_; have BK106 := n1_; have HB := n2_; clear n0_ n1_ n2_; (try clear hb); (try clear hb2); (try clear hk); (try clear hi)) | ((with_reducible refine gate_dst (N := 9) rfl ?_); (try (refine gate_guard (by rfl) ?_; dsimp only)); refine box_event ?hg (N := 9) ?hd (cs := #[.string (⟨#[]⟩ : ByteArray), .int .i64 0]) (t := 23) ?hr ?_; (case hd => rfl); (case hg => rfl); (case hr => first | (go_simp; done) | (go_simp; rfl)); intro gb121 hg w46 hbox hb; have n0_ := Aside0.mk (Kd.R_below (by (with_reducible repeat (first | apply Kd.R_alloc | apply Kd.R_drewN | apply Kd.R_drew)); exact HO_7.out) hb); have n1_ := Aside0.mk (blk_below (g := gb106) (o := .cells #[.string a0_0, .int .i64 a0_1] 23 (0, 0)) (by (with_reducible repeat (first | refine blk_drewN ?_ _ | refine blk_drew ?_ | refine blk_alloc ?_ _)); exact BK106.out) hb); have n2_ := Aside0.mk (below_step (by repeat (first | (with_reducible first | exact HB.out | apply below_alloc | apply pw_below_drewN | apply below_drew1 | refine below_set ?_ GE106.out) | exact HB.out)) hb); have n3_ := Aside0.mk (hbox); have n4_ := Aside0.mk ((by rw [hg]; exact (below_size (by repeat (first | (with_reducible first | exact HB.out | apply below_alloc | apply pw_below_drewN | apply below_drew1 | refine below_set ?_ GE106.out) | exact HB.out))) : w.heap.size ≤ gb121)); have n5_ := Aside0.mk ((by rw [hg]; exact (below_size (by repeat (first | (with_reducible first | exact HB.out | apply below_alloc | apply pw_below_drewN | apply below_drew1 | refine below_set ?_ GE106.out) | exact HB.out))) : w.heap.size ≤ gb121)); have n6_ := Aside0.mk ((by rw [hg]; exact Nat.ne_of_lt (blk_lt (g := gb106) (o := .cells #[.string a0_0, .int .i64 a0_1] 23 (0, 0)) (by (with_reducible repeat (first | refine blk_drewN ?_ _ | refine blk_drew ?_ | refine blk_alloc ?_ _)); exact BK106.out)) : gb106 ≠ gb121)); have n7_ := Aside0.mk ((by rw [hg]; exact Nat.ne_of_gt (blk_lt (g := gb106) (o := .cells #[.string a0_0, .int .i64 a0_1] 23 (0, 0)) (by (with_reducible repeat (first | refine blk_drewN ?_ _ | refine blk_drew ?_ | refine blk_alloc ?_ _)); exact BK106.out)) : gb121 ≠ gb106)); clear HO_7; clear BK106; clear HB; have HO_7 := n0_; have BK106 := n1_; have HB := n2_; have BK121 := n3_; have GW121 := n4_; have GE121 := n5_; have NB106_121 := n6_; have NB121_106 := n7_; clear n0_ n1_ n2_ n3_ n4_ n5_ n6_ n7_; clear hb hbox hg; have hnb47 := NB121_106.out; have hnc47 := NB106_121.out; have hcz48_0 : w46.cell? ⟨gb121, 0, none⟩ = some (.string (⟨#[]⟩ : ByteArray)) := (blk_cell BK121.out 0).trans rfl; have hcz48_1 : w46.cell? ⟨gb121, 1, none⟩ = some (.int .i64 0) := (blk_cell BK121.out 1).trans rfl; have hfz48_0 := blk_frozen BK121.out 0; have hfz48_1 := blk_frozen BK121.out 1; have hcz49_0 : w46.cell? ⟨gb106, 0, none⟩ = some (.string a0_0) := (blk_cell BK106.out 0).trans rfl; have hcz49_1 : w46.cell? ⟨gb106, 1, none⟩ = some (.int .i64 a0_1) := (blk_cell BK106.out 1).trans rfl; have hfz49_0 := blk_frozen BK106.out 0; have hfz49_1 := blk_frozen BK106.out 1))
                          go_ret
                          exact ⟨by first | rfl | (simp [errW_none, errW_some] <;> rfl) | (simp [*, errW_none, errW_some] <;> rfl), by repeat (first | (with_reducible first | exact HB.out | apply below_alloc | apply pw_below_drewN | apply below_drew1 | refine below_set ?_ GE106.out | refine below_set ?_ GE121.out) | exact HB.out)⟩
                        · rw [if_neg c42] at H
                          have c42b0 : decide (0 ≤ t119) = false := decide_eq_false c42
                          clear c42
                          obtain rfl := Option.some.inj H
                          have hcz50_0 : wr.cell? ⟨gb106, 0, none⟩ = some (.string a0_0) := (blk_cell BK106.out 0).trans rfl
                          have hcz50_1 : wr.cell? ⟨gb106, 1, none⟩ = some (.int .i64 a0_1) := (blk_cell BK106.out 1).trans rfl
                          have hfz50_0 := blk_frozen BK106.out 0
                          have hfz50_1 := blk_frozen BK106.out 1
                          obtain ⟨Ao51, co51, eo51⟩ := Kd.R_slice HO_7.out
                          subst eo51
                          go_wp2_with (first | ((with_reducible refine gate_callee (f := 15) rfl ?_); refine goesL_ (some 64) rfl rfl Tryd.func15 (by kernel_rfl) rfl #[.agg #[.string a0_0, .int .i64 a0_1], .slice Ao51 x7_3.length co51] rfl (by (try simp only [List.map_toArray, List.map_cons, List.map_nil]); first | done | rfl | (simp only [List.length_drop, List.length_take]; rfl) | (simp only [Int.toNat_natCast, ByteArray.extract_zero_size]; rfl)) ?_; (with_reducible refine (laws_after9.calls a0_0 a0_1 _ _ x7_3 t118 t119 true _ ?side1 ?side2 A39.out).mono ?_); (case side1 => repeat (first | exact (Kd.R_reads' HO_7.out).2.2 | (with_reducible refine Kd.C_alloc ?_ _) | (with_reducible refine Kd.C_drewN ?_ _) | (with_reducible refine Kd.C_drew ?_))); (case side2 => exact (Kd.R_reads' HO_7.out).2.1); rintro e w52 ⟨rfl, hb⟩; refine ⟨_, rfl, ?_⟩; have n0_ := Aside0.mk (Kd.R_below (by (with_reducible repeat (first | apply Kd.R_alloc | apply Kd.R_drewN | apply Kd.R_drew)); exact HO_7.out) hb); have n1_ := Aside0.mk (blk_below (g := gb106) (o := .cells #[.string a0_0, .int .i64 a0_1] 23 (0, 0)) (by (with_reducible repeat (first | refine blk_drewN ?_ _ | refine blk_drew ?_ | refine blk_alloc ?_ _)); exact BK106.out) hb); have n2_ := Aside0.mk (below_step (by repeat (first | (with_reducible first | exact HB.out | apply below_alloc | apply pw_below_drewN | apply below_drew1 | refine below_set ?_ GE106.out) | exact HB.out)) hb); clear HO_7; clear BK106; clear HB; have HO_7 := n0_; have BK106 := n1_; have HB := n2_; clear n0_ n1_ n2_; (try clear hb); (try clear hb2); (try clear hk); (try clear hi)) | ((with_reducible refine gate_dst (N := 9) rfl ?_); (try (refine gate_guard (by rfl) ?_; dsimp only)); refine box_event ?hg (N := 9) ?hd (cs := #[.string (⟨#[]⟩ : ByteArray), .int .i64 0]) (t := 23) ?hr ?_; (case hd => rfl); (case hg => rfl); (case hr => first | (go_simp; done) | (go_simp; rfl)); intro gb121 hg w53 hbox hb; have n0_ := Aside0.mk (Kd.R_below (by (with_reducible repeat (first | apply Kd.R_alloc | apply Kd.R_drewN | apply Kd.R_drew)); exact HO_7.out) hb); have n1_ := Aside0.mk (blk_below (g := gb106) (o := .cells #[.string a0_0, .int .i64 a0_1] 23 (0, 0)) (by (with_reducible repeat (first | refine blk_drewN ?_ _ | refine blk_drew ?_ | refine blk_alloc ?_ _)); exact BK106.out) hb); have n2_ := Aside0.mk (below_step (by repeat (first | (with_reducible first | exact HB.out | apply below_alloc | apply pw_below_drewN | apply below_drew1 | refine below_set ?_ GE106.out) | exact HB.out)) hb); have n3_ := Aside0.mk (hbox); have n4_ := Aside0.mk ((by rw [hg]; exact (below_size (by repeat (first | (with_reducible first | exact HB.out | apply below_alloc | apply pw_below_drewN | apply below_drew1 | refine below_set ?_ GE106.out) | exact HB.out))) : w.heap.size ≤ gb121)); have n5_ := Aside0.mk ((by rw [hg]; exact (below_size (by repeat (first | (with_reducible first | exact HB.out | apply below_alloc | apply pw_below_drewN | apply below_drew1 | refine below_set ?_ GE106.out) | exact HB.out))) : w.heap.size ≤ gb121)); have n6_ := Aside0.mk ((by rw [hg]; exact Nat.ne_of_lt (blk_lt (g := gb106) (o := .cells #[.string a0_0, .int .i64 a0_1] 23 (0, 0)) (by (with_reducible repeat (first | refine blk_drewN ?_ _ | refine blk_drew ?_ | refine blk_alloc ?_ _)); exact BK106.out)) : gb106 ≠ gb121)); have n7_ := Aside0.mk ((by rw [hg]; exact Nat.ne_of_gt (blk_lt (g := gb106) (o := .cells #[.string a0_0, .int .i64 a0_1] 23 (0, 0)) (by (with_reducible repeat (first | refine blk_drewN ?_ _ | refine blk_drew ?_ | refine blk_alloc ?_ _)); exact BK106.out)) : gb121 ≠ gb106)); clear HO_7; clear BK106; clear HB; have HO_7 := n0_; have BK106 := n1_; have HB := n2_; have BK121 := n3_; have GW121 := n4_; have GE121 := n5_; have NB106_121 := n6_; have NB121_106 := n7_; clear n0_ n1_ n2_ n3_ n4_ n5_ n6_ n7_; clear hb hbox hg; have hnb54 := NB121_106.out; have hnc54 := NB106_121.out; have hcz55_0 : w53.cell? ⟨gb121, 0, none⟩ = some (.string (⟨#[]⟩ : ByteArray)) := (blk_cell BK121.out 0).trans rfl; have hcz55_1 : w53.cell? ⟨gb121, 1, none⟩ = some (.int .i64 0) := (blk_cell BK121.out 1).trans rfl; have hfz55_0 := blk_frozen BK121.out 0; have hfz55_1 := blk_frozen BK121.out 1; have hcz56_0 : w53.cell? ⟨gb106, 0, none⟩ = some (.string a0_0) := (blk_cell BK106.out 0).trans rfl; have hcz56_1 : w53.cell? ⟨gb106, 1, none⟩ = some (.int .i64 a0_1) := (blk_cell BK106.out 1).trans rfl; have hfz56_0 := blk_frozen BK106.out 0; have hfz56_1 := blk_frozen BK106.out 1))
                          go_ret
                          exact ⟨by first | rfl | (simp [errW_none, errW_some] <;> rfl) | (simp [*, errW_none, errW_some] <;> rfl), by repeat (first | (with_reducible first | exact HB.out | apply below_alloc | apply pw_below_drewN | apply below_drew1 | refine below_set ?_ GE106.out | refine below_set ?_ GE121.out) | exact HB.out)⟩
                      · rw [if_neg c41] at H
                        have c41b0 : (t118.toList == a0_0.toList) = false := beq_eq_false_iff_ne.mpr c41
                        have c41b1 : (t118.toList != a0_0.toList) = true := bne_iff_ne.mpr c41
                        obtain rfl := Option.some.inj H
                        have hcz57_0 : wr.cell? ⟨gb106, 0, none⟩ = some (.string a0_0) := (blk_cell BK106.out 0).trans rfl
                        have hcz57_1 : wr.cell? ⟨gb106, 1, none⟩ = some (.int .i64 a0_1) := (blk_cell BK106.out 1).trans rfl
                        have hfz57_0 := blk_frozen BK106.out 0
                        have hfz57_1 := blk_frozen BK106.out 1
                        obtain ⟨Ao58, co58, eo58⟩ := Kd.R_slice HO_7.out
                        subst eo58
                        go_wp2_with (first | ((with_reducible refine gate_callee (f := 15) rfl ?_); refine goesL_ (some 64) rfl rfl Tryd.func15 (by kernel_rfl) rfl #[.agg #[.string a0_0, .int .i64 a0_1], .slice Ao58 x7_3.length co58] rfl (by (try simp only [List.map_toArray, List.map_cons, List.map_nil]); first | done | rfl | (simp only [List.length_drop, List.length_take]; rfl) | (simp only [Int.toNat_natCast, ByteArray.extract_zero_size]; rfl)) ?_; (with_reducible refine (laws_after9.calls a0_0 a0_1 _ _ x7_3 t118 t119 true _ ?side1 ?side2 A39.out).mono ?_); (case side1 => repeat (first | exact (Kd.R_reads' HO_7.out).2.2 | (with_reducible refine Kd.C_alloc ?_ _) | (with_reducible refine Kd.C_drewN ?_ _) | (with_reducible refine Kd.C_drew ?_))); (case side2 => exact (Kd.R_reads' HO_7.out).2.1); rintro e w59 ⟨rfl, hb⟩; refine ⟨_, rfl, ?_⟩; have n0_ := Aside0.mk (Kd.R_below (by (with_reducible repeat (first | apply Kd.R_alloc | apply Kd.R_drewN | apply Kd.R_drew)); exact HO_7.out) hb); have n1_ := Aside0.mk (blk_below (g := gb106) (o := .cells #[.string a0_0, .int .i64 a0_1] 23 (0, 0)) (by (with_reducible repeat (first | refine blk_drewN ?_ _ | refine blk_drew ?_ | refine blk_alloc ?_ _)); exact BK106.out) hb); have n2_ := Aside0.mk (below_step (by repeat (first | (with_reducible first | exact HB.out | apply below_alloc | apply pw_below_drewN | apply below_drew1 | refine below_set ?_ GE106.out) | exact HB.out)) hb); clear HO_7; clear BK106; clear HB; have HO_7 := n0_; have BK106 := n1_; have HB := n2_; clear n0_ n1_ n2_; (try clear hb); (try clear hb2); (try clear hk); (try clear hi)) | ((with_reducible refine gate_dst (N := 9) rfl ?_); (try (refine gate_guard (by rfl) ?_; dsimp only)); refine box_event ?hg (N := 9) ?hd (cs := #[.string (⟨#[]⟩ : ByteArray), .int .i64 0]) (t := 23) ?hr ?_; (case hd => rfl); (case hg => rfl); (case hr => first | (go_simp; done) | (go_simp; rfl)); intro gb121 hg w60 hbox hb; have n0_ := Aside0.mk (Kd.R_below (by (with_reducible repeat (first | apply Kd.R_alloc | apply Kd.R_drewN | apply Kd.R_drew)); exact HO_7.out) hb); have n1_ := Aside0.mk (blk_below (g := gb106) (o := .cells #[.string a0_0, .int .i64 a0_1] 23 (0, 0)) (by (with_reducible repeat (first | refine blk_drewN ?_ _ | refine blk_drew ?_ | refine blk_alloc ?_ _)); exact BK106.out) hb); have n2_ := Aside0.mk (below_step (by repeat (first | (with_reducible first | exact HB.out | apply below_alloc | apply pw_below_drewN | apply below_drew1 | refine below_set ?_ GE106.out) | exact HB.out)) hb); have n3_ := Aside0.mk (hbox); have n4_ := Aside0.mk ((by rw [hg]; exact (below_size (by repeat (first | (with_reducible first | exact HB.out | apply below_alloc | apply pw_below_drewN | apply below_drew1 | refine below_set ?_ GE106.out) | exact HB.out))) : w.heap.size ≤ gb121)); have n5_ := Aside0.mk ((by rw [hg]; exact (below_size (by repeat (first | (with_reducible first | exact HB.out | apply below_alloc | apply pw_below_drewN | apply below_drew1 | refine below_set ?_ GE106.out) | exact HB.out))) : w.heap.size ≤ gb121)); have n6_ := Aside0.mk ((by rw [hg]; exact Nat.ne_of_lt (blk_lt (g := gb106) (o := .cells #[.string a0_0, .int .i64 a0_1] 23 (0, 0)) (by (with_reducible repeat (first | refine blk_drewN ?_ _ | refine blk_drew ?_ | refine blk_alloc ?_ _)); exact BK106.out)) : gb106 ≠ gb121)); have n7_ := Aside0.mk ((by rw [hg]; exact Nat.ne_of_gt (blk_lt (g := gb106) (o := .cells #[.string a0_0, .int .i64 a0_1] 23 (0, 0)) (by (with_reducible repeat (first | refine blk_drewN ?_ _ | refine blk_drew ?_ | refine blk_alloc ?_ _)); exact BK106.out)) : gb121 ≠ gb106)); clear HO_7; clear BK106; clear HB; have HO_7 := n0_; have BK106 := n1_; have HB := n2_; have BK121 := n3_; have GW121 := n4_; have GE121 := n5_; have NB106_121 := n6_; have NB121_106 := n7_; clear n0_ n1_ n2_ n3_ n4_ n5_ n6_ n7_; clear hb hbox hg; have hnb61 := NB121_106.out; have hnc61 := NB106_121.out; have hcz62_0 : w60.cell? ⟨gb121, 0, none⟩ = some (.string (⟨#[]⟩ : ByteArray)) := (blk_cell BK121.out 0).trans rfl; have hcz62_1 : w60.cell? ⟨gb121, 1, none⟩ = some (.int .i64 0) := (blk_cell BK121.out 1).trans rfl; have hfz62_0 := blk_frozen BK121.out 0; have hfz62_1 := blk_frozen BK121.out 1; have hcz63_0 : w60.cell? ⟨gb106, 0, none⟩ = some (.string a0_0) := (blk_cell BK106.out 0).trans rfl; have hcz63_1 : w60.cell? ⟨gb106, 1, none⟩ = some (.int .i64 a0_1) := (blk_cell BK106.out 1).trans rfl; have hfz63_0 := blk_frozen BK106.out 0; have hfz63_1 := blk_frozen BK106.out 1))
                        go_ret
                        exact ⟨by first | rfl | (simp [errW_none, errW_some] <;> rfl) | (simp [*, errW_none, errW_some] <;> rfl), by repeat (first | (with_reducible first | exact HB.out | apply below_alloc | apply pw_below_drewN | apply below_drew1 | refine below_set ?_ GE106.out | refine below_set ?_ GE121.out) | exact HB.out)⟩
                    · replace c40 := Bool.eq_false_iff.mpr c40
                      subst c40
                      have H1 : (some false) = some r := by rw [if_neg (show ¬ (false = true) by decide)] at H; exact H
                      clear H
                      have H := H1
                      clear H1
                      obtain rfl := Option.some.inj H
                      have hcz64_0 : wr.cell? ⟨gb106, 0, none⟩ = some (.string a0_0) := (blk_cell BK106.out 0).trans rfl
                      have hcz64_1 : wr.cell? ⟨gb106, 1, none⟩ = some (.int .i64 a0_1) := (blk_cell BK106.out 1).trans rfl
                      have hfz64_0 := blk_frozen BK106.out 0
                      have hfz64_1 := blk_frozen BK106.out 1
                      obtain ⟨Ao65, co65, eo65⟩ := Kd.R_slice HO_7.out
                      subst eo65
                      go_wp2_with (first | ((with_reducible refine gate_callee (f := 15) rfl ?_); refine goesL_ (some 64) rfl rfl Tryd.func15 (by kernel_rfl) rfl #[.agg #[.string a0_0, .int .i64 a0_1], .slice Ao65 x7_3.length co65] rfl (by (try simp only [List.map_toArray, List.map_cons, List.map_nil]); first | done | rfl | (simp only [List.length_drop, List.length_take]; rfl) | (simp only [Int.toNat_natCast, ByteArray.extract_zero_size]; rfl)) ?_; (with_reducible refine (laws_after9.calls a0_0 a0_1 _ _ x7_3 t118 t119 false _ ?side1 ?side2 A39.out).mono ?_); (case side1 => repeat (first | exact (Kd.R_reads' HO_7.out).2.2 | (with_reducible refine Kd.C_alloc ?_ _) | (with_reducible refine Kd.C_drewN ?_ _) | (with_reducible refine Kd.C_drew ?_))); (case side2 => exact (Kd.R_reads' HO_7.out).2.1); rintro e w66 ⟨rfl, hb⟩; refine ⟨_, rfl, ?_⟩; have n0_ := Aside0.mk (Kd.R_below (by (with_reducible repeat (first | apply Kd.R_alloc | apply Kd.R_drewN | apply Kd.R_drew)); exact HO_7.out) hb); have n1_ := Aside0.mk (blk_below (g := gb106) (o := .cells #[.string a0_0, .int .i64 a0_1] 23 (0, 0)) (by (with_reducible repeat (first | refine blk_drewN ?_ _ | refine blk_drew ?_ | refine blk_alloc ?_ _)); exact BK106.out) hb); have n2_ := Aside0.mk (below_step (by repeat (first | (with_reducible first | exact HB.out | apply below_alloc | apply pw_below_drewN | apply below_drew1 | refine below_set ?_ GE106.out) | exact HB.out)) hb); clear HO_7; clear BK106; clear HB; have HO_7 := n0_; have BK106 := n1_; have HB := n2_; clear n0_ n1_ n2_; (try clear hb); (try clear hb2); (try clear hk); (try clear hi)) | ((with_reducible refine gate_dst (N := 9) rfl ?_); (try (refine gate_guard (by rfl) ?_; dsimp only)); refine box_event ?hg (N := 9) ?hd (cs := #[.string (⟨#[]⟩ : ByteArray), .int .i64 0]) (t := 23) ?hr ?_; (case hd => rfl); (case hg => rfl); (case hr => first | (go_simp; done) | (go_simp; rfl)); intro gb121 hg w67 hbox hb; have n0_ := Aside0.mk (Kd.R_below (by (with_reducible repeat (first | apply Kd.R_alloc | apply Kd.R_drewN | apply Kd.R_drew)); exact HO_7.out) hb); have n1_ := Aside0.mk (blk_below (g := gb106) (o := .cells #[.string a0_0, .int .i64 a0_1] 23 (0, 0)) (by (with_reducible repeat (first | refine blk_drewN ?_ _ | refine blk_drew ?_ | refine blk_alloc ?_ _)); exact BK106.out) hb); have n2_ := Aside0.mk (below_step (by repeat (first | (with_reducible first | exact HB.out | apply below_alloc | apply pw_below_drewN | apply below_drew1 | refine below_set ?_ GE106.out) | exact HB.out)) hb); have n3_ := Aside0.mk (hbox); have n4_ := Aside0.mk ((by rw [hg]; exact (below_size (by repeat (first | (with_reducible first | exact HB.out | apply below_alloc | apply pw_below_drewN | apply below_drew1 | refine below_set ?_ GE106.out) | exact HB.out))) : w.heap.size ≤ gb121)); have n5_ := Aside0.mk ((by rw [hg]; exact (below_size (by repeat (first | (with_reducible first | exact HB.out | apply below_alloc | apply pw_below_drewN | apply below_drew1 | refine below_set ?_ GE106.out) | exact HB.out))) : w.heap.size ≤ gb121)); have n6_ := Aside0.mk ((by rw [hg]; exact Nat.ne_of_lt (blk_lt (g := gb106) (o := .cells #[.string a0_0, .int .i64 a0_1] 23 (0, 0)) (by (with_reducible repeat (first | refine blk_drewN ?_ _ | refine blk_drew ?_ | refine blk_alloc ?_ _)); exact BK106.out)) : gb106 ≠ gb121)); have n7_ := Aside0.mk ((by rw [hg]; exact Nat.ne_of_gt (blk_lt (g := gb106) (o := .cells #[.string a0_0, .int .i64 a0_1] 23 (0, 0)) (by (with_reducible repeat (first | refine blk_drewN ?_ _ | refine blk_drew ?_ | refine blk_alloc ?_ _)); exact BK106.out)) : gb121 ≠ gb106)); clear HO_7; clear BK106; clear HB; have HO_7 := n0_; have BK106 := n1_; have HB := n2_; have BK121 := n3_; have GW121 := n4_; have GE121 := n5_; have NB106_121 := n6_; have NB121_106 := n7_; clear n0_ n1_ n2_ n3_ n4_ n5_ n6_ n7_; clear hb hbox hg; have hnb68 := NB121_106.out; have hnc68 := NB106_121.out; have hcz69_0 : w67.cell? ⟨gb121, 0, none⟩ = some (.string (⟨#[]⟩ : ByteArray)) := (blk_cell BK121.out 0).trans rfl; have hcz69_1 : w67.cell? ⟨gb121, 1, none⟩ = some (.int .i64 0) := (blk_cell BK121.out 1).trans rfl; have hfz69_0 := blk_frozen BK121.out 0; have hfz69_1 := blk_frozen BK121.out 1))
                      go_ret
                      exact ⟨by first | rfl | (simp [errW_none, errW_some] <;> rfl) | (simp [*, errW_none, errW_some] <;> rfl), by repeat (first | (with_reducible first | exact HB.out | apply below_alloc | apply pw_below_drewN | apply below_drew1 | refine below_set ?_ GE106.out | refine below_set ?_ GE121.out) | exact HB.out)⟩

/-- THE ONE PURE STATEMENT of laws_FnMovesKeep: yours. -/
def laws_FnMovesKeep.Pure : Prop := ∀ (a0_0 : ByteArray) (a0_1 : Int) (l1 : List Int) (a2 : Int), a0_0.size ≤ maxLen → (Lit.int .i64 a0_1).wf = true → l1.length ≤ maxLen → (∀ x ∈ l1, (Lit.int .u8 x).wf = true) → (Lit.int .u8 a2).wf = true → ∃ k, laws_FnMovesKeep.f k a0_0 a0_1 l1 a2 = some true
theorem laws_FnMovesKeep.walk (P : laws_FnMovesKeep.Pure) (a0_0 : ByteArray) (a0_1 : Int) (A1 : Option Addr) (c1 : Nat) (l1 : List Int) (a2 : Int) (w : World) (hg0_0 : a0_0.size ≤ maxLen) (hg0_1 : (Lit.int .i64 a0_1).wf = true) (hr1 : Kd.C (Kd.int .u8) w A1 l1.length l1) (hc1 : l1.length ≤ c1) (hm1 : l1.length ≤ maxLen) (hg1 : ∀ x ∈ l1, (Lit.int .u8 x).wf = true) (hg2 : (Lit.int .u8 a2).wf = true) :
    Calls Tryd.prog 3 #[.agg #[.string a0_0, .int .i64 a0_1], .slice A1 l1.length c1, .int .u8 a2] w fun e w' => e = .returned (.bool true) ∧ Below w.heap.size w w' := by
  obtain ⟨k, h⟩ := P a0_0 a0_1 l1 a2 hg0_0 hg0_1 hm1 hg1 hg2
  refine (laws_FnMovesKeep.calls k a0_0 a0_1 A1 c1 l1 a2 true w hr1 hc1 h).mono ?_
  rintro e w' ⟨rfl, hd⟩
  exact ⟨rfl, hd⟩

end Go.Proofs.YtdinikcfhpfojaaDoor.PFnMovesKeep
