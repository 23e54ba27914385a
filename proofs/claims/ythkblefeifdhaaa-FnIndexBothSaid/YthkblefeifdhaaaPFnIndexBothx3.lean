-- Printed by a program of this seat (xprint) out of the translation; Lean checks it.
import Derived.Test.YthkblefeifdhaaaPFnIndexBothx0
import Derived.Test.YthkblefeifdhaaaPFnIndexBothx1
namespace Go.Proofs.Ythkblefeifdhaaa.PFnIndexBoth
open Go.RowKit Go.Proofs.Ythkblefeifdhaaa.R Go.Proofs.YthkblefeifdhaaaW.PrintWords Go.Proofs.YthkblefeifdhaaaW.PrintLast Go.Proofs.YthkblefeifdhaaaW.PrintMore
attribute [local go_sem] max2_int min2_int max_two min_two max_three min_three max_four min_four   -- for this text's walks alone
set_option linter.unusedVariables false
set_option linter.unusedSimpArgs false

/-! ### readline_Runes_IndexAllBckEx: function 57 -/
mutual
def readline_Runes_IndexAllBckEx.l0 : Nat → List Int → List Int → Bool → Int → Option (Int)
  | 0, _, _, _, _ => none
  | k + 1, x1, x2, x3, x9 => if x9 ≥ 0 then (readline_Runes_IndexAllBckEx.l1 k x1 x2 x3 x9 true 0) else (some (-1))
def readline_Runes_IndexAllBckEx.l1 : Nat → List Int → List Int → Bool → Int → Bool → Int → Option (Int)
  | 0, _, _, _, _, _, _ => none
  | k + 1, x1, x2, x3, x9, x10, x11 => if x11 < (x2.length : Int) then (if 0 ≤ (wrap64 (x9 + x11)) then (if (wrap64 (x9 + x11)) < (x1.length : Int) then (if 0 ≤ x11 then ((readline_Runes_EqualRune.f k (rd x1 (wrap64 (x9 + x11))) (rd x2 x11) x3).bind fun t119 => (if t119 = true then (readline_Runes_IndexAllBckEx.l1 k x1 x2 x3 x9 x10 (wrap64 (x11 + 1))) else (readline_Runes_IndexAllBckEx.l0 k x1 x2 x3 (wrap64 (x9 - 1))))) else (none)) else (none)) else (none)) else (if x10 = true then (some x9) else (readline_Runes_IndexAllBckEx.l0 k x1 x2 x3 (wrap64 (x9 - 1))))
end
def readline_Runes_IndexAllBckEx.f (k : Nat)  (l1 : List Int) (l2 : List Int) (a3 : Bool) : Option (Int) := readline_Runes_IndexAllBckEx.l0 k l1 l2 a3 (wrap64 ((l1.length : Int) - (l2.length : Int)))
theorem readline_Runes_IndexAllBckEx.mono_l : ∀ k, (∀ y0 y1 y2 y3, LeO (readline_Runes_IndexAllBckEx.l0 k y0 y1 y2 y3) (readline_Runes_IndexAllBckEx.l0 (k + 1) y0 y1 y2 y3)) ∧ (∀ y0 y1 y2 y3 y4 y5, LeO (readline_Runes_IndexAllBckEx.l1 k y0 y1 y2 y3 y4 y5) (readline_Runes_IndexAllBckEx.l1 (k + 1) y0 y1 y2 y3 y4 y5))
  | 0 => ⟨fun _ _ _ _ r h => by simp [readline_Runes_IndexAllBckEx.l0] at h, fun _ _ _ _ _ _ r h => by simp [readline_Runes_IndexAllBckEx.l1] at h⟩
  | k + 1 => by
    obtain ⟨ih0, ih1⟩ := readline_Runes_IndexAllBckEx.mono_l k
    refine ⟨?_, ?_⟩
    · intro y0 y1 y2 y3
      unfold readline_Runes_IndexAllBckEx.l0
      repeat' first
      | (with_reducible exact ih0 _ _ _ _)
      | (with_reducible exact ih1 _ _ _ _ _ _)
      | (with_reducible exact readline_Runes_EqualRune.mono _ _ _ _)
      | (with_reducible exact LeO.refl _)
      | (with_reducible exact LeO.none _)
      | (with_reducible refine LeO.ite ?_ ?_)
      | (with_reducible refine LeO.bind ?_ (fun _ => ?_))
      | exact ih0 _ _ _ _
      | exact ih1 _ _ _ _ _ _
      | exact readline_Runes_EqualRune.mono _ _ _ _
      | exact LeO.none _
      | refine LeO.ite ?_ ?_
      | refine LeO.bind ?_ (fun _ => ?_)
    · intro y0 y1 y2 y3 y4 y5
      unfold readline_Runes_IndexAllBckEx.l1
      repeat' first
      | (with_reducible exact ih0 _ _ _ _)
      | (with_reducible exact ih1 _ _ _ _ _ _)
      | (with_reducible exact readline_Runes_EqualRune.mono _ _ _ _)
      | (with_reducible exact LeO.refl _)
      | (with_reducible exact LeO.none _)
      | (with_reducible refine LeO.ite ?_ ?_)
      | (with_reducible refine LeO.bind ?_ (fun _ => ?_))
      | exact ih0 _ _ _ _
      | exact ih1 _ _ _ _ _ _
      | exact readline_Runes_EqualRune.mono _ _ _ _
      | exact LeO.none _
      | refine LeO.ite ?_ ?_
      | refine LeO.bind ?_ (fun _ => ?_)
theorem readline_Runes_IndexAllBckEx.mono : ∀ a0 a1 a2 k, LeO (readline_Runes_IndexAllBckEx.f k a0 a1 a2) (readline_Runes_IndexAllBckEx.f (k + 1) a0 a1 a2) := by
  intro a0 a1 a2 k
  obtain ⟨ih0, ih1⟩ := readline_Runes_IndexAllBckEx.mono_l k
  unfold readline_Runes_IndexAllBckEx.f
  repeat' first
      | (with_reducible exact ih0 _ _ _ _)
      | (with_reducible exact ih1 _ _ _ _ _ _)
      | (with_reducible exact readline_Runes_EqualRune.mono _ _ _ _)
      | (with_reducible exact LeO.refl _)
      | (with_reducible exact LeO.none _)
      | (with_reducible refine LeO.ite ?_ ?_)
      | (with_reducible refine LeO.bind ?_ (fun _ => ?_))
      | exact ih0 _ _ _ _
      | exact ih1 _ _ _ _ _ _
      | exact readline_Runes_EqualRune.mono _ _ _ _
      | exact LeO.none _
      | refine LeO.ite ?_ ?_
      | refine LeO.bind ?_ (fun _ => ?_)
def readline_Runes_IndexAllBckEx.T8 : Bool × List (List Nat × List Nat) := (true, [([], []), ([], []), ([], []), ([], []), ([2, 3], [2, 3]), ([1, 4], [1, 4]), ([5], [5]), ([], []), ([], []), ([7, 8], [7, 8]), ([9], [9]), ([], []), ([0, 6, 10, 11], [0, 6, 10, 11]), ([12], [12])])
def readline_Runes_IndexAllBckEx.B8 : List Nat := [0, 0, 0, 0, 12, 30, 62, 0, 0, 384, 896, 0, 4095, 8191]
theorem readline_Runes_IndexAllBckEx.tab8 : rtab .any (opsOf Try.f57 8) = readline_Runes_IndexAllBckEx.T8 := by kernel_rfl
theorem readline_Runes_IndexAllBckEx.bits8 : waitsOk readline_Runes_IndexAllBckEx.T8.2 readline_Runes_IndexAllBckEx.B8 = true := by kernel_rfl
set_option maxHeartbeats 8000000 in
set_option maxRecDepth 100000 in
theorem readline_Runes_IndexAllBckEx.calls (k : Nat)  (A1 : Option Addr) (c1 : Nat) (l1 : List Int) (A2 : Option Addr) (c2 : Nat) (l2 : List Int) (a3 : Bool) (r : Int) (w : World) (hr1 : Kd.C (Kd.int .i32) w A1 l1.length l1) (hc1 : l1.length ≤ c1) (hr2 : Kd.C (Kd.int .i32) w A2 l2.length l2) (hc2 : l2.length ≤ c2) (h : readline_Runes_IndexAllBckEx.f k l1 l2 a3 = some r) :
    Calls Try.prog 57 #[.agg #[], .slice A1 l1.length c1, .slice A2 l2.length c2, .bool a3] w fun e w' => e = .returned (.int .i64 r) ∧ Below w.heap.size w w' := by
  have hu89 := Try.underlying89
  have HR1 := Aside0.mk hr1
  have HC1 := Aside0.mk hc1
  clear hr1 hc1
  have HR2 := Aside0.mk hr2
  have HC2 := Aside0.mk hc2
  clear hr2 hc2
  have HB := Aside0.mk (Below.refl w.heap.size w)
  have H : (readline_Runes_IndexAllBckEx.l0 k l1 l2 a3 (wrap64 ((l1.length : Int) - (l2.length : Int)))) = some r := h
  clear h
  have H' := Aside0.mk H
  clear H
  go_enter Try.func57, Try.ntmps57
  go_wp2_with (first | ((with_reducible refine gate_dst (N := 4) rfl ?_); refine box_event ?hg (N := 4) ?hd (cs := #[]) (t := 89) ?hr ?_; (case hd => rfl); (case hg => rfl); (case hr => first | (go_simp; done) | (go_simp; rfl)); intro gb116 hg w5 hbox hb; have n0_ := Aside0.mk (below_step (by repeat (first | (with_reducible first | exact HB.out | apply below_alloc | apply pw_below_drewN | apply below_drew1) | exact HB.out)) hb); have n1_ := Aside0.mk (hbox); have n2_ := Aside0.mk ((by rw [hg]; exact (below_size (by repeat (first | (with_reducible first | exact HB.out | apply below_alloc | apply pw_below_drewN | apply below_drew1) | exact HB.out))) : w.heap.size ≤ gb116)); have n3_ := Aside0.mk ((by rw [hg]; exact (below_size (by repeat (first | (with_reducible first | exact HB.out | apply below_alloc | apply pw_below_drewN | apply below_drew1) | exact HB.out))) : w.heap.size ≤ gb116)); clear HB; have HB := n0_; have BK116 := n1_; have GW116 := n2_; have GE116 := n3_; clear n0_ n1_ n2_ n3_; clear hb hbox hg))
  go_loopg [9] k (fun kq v9 w' => ∃ (x9_1 : Int), v9 = .int .i64 x9_1 ∧ Aside0 (readline_Runes_IndexAllBckEx.l0 kq l1 l2 a3 x9_1 = some r) ∧ Aside0 (kq ≤ k) ∧ Aside0 (w'.heap[gb116]? = some (.cells #[] 89 (0, 0))) ∧ Aside0 (Below w.heap.size w w'))
  case atStart => exact ⟨(wrap64 ((l1.length : Int) - (l2.length : Int))), (by first | rfl | (simp; done) | (simp [*]; done)), H', ⟨Nat.le_refl _⟩, ⟨by (with_reducible repeat (first | refine blk_drewN ?_ _ | refine blk_drew ?_ | refine blk_alloc ?_ _)); exact BK116.out⟩, ⟨by repeat (first | (with_reducible first | exact HB.out | apply below_alloc | apply pw_below_drewN | apply below_drew1 | refine below_set ?_ GE116.out) | exact HB.out)⟩⟩
  case round =>
    clear H'
    try clear c1
    try clear c2
    try clear p2
    try clear c5
    obtain ⟨x9_1, rfl, HA, HK1, BK116, HB⟩ := hrel
    cases gk with
    | zero => exact absurd HA.out (by simp [readline_Runes_IndexAllBckEx.l0])
    | succ k1 =>
      have H := HA.out
      clear HA
      simp only [readline_Runes_IndexAllBckEx.l0] at H
      by_cases c6 : x9_1 ≥ 0
      · rw [if_pos c6] at H
        have c6b0 : decide (0 ≤ x9_1) = true := decide_eq_true c6
        clear c6
        have H' := Aside0.mk H
        clear H
        go_wp2
        go_loopg [10, 11] k1 (fun kq v10 v11 w' => ∃ (x10_2 : Bool) (x11_2 : Int), v10 = .bool x10_2 ∧ v11 = .int .i64 x11_2 ∧ Aside0 (readline_Runes_IndexAllBckEx.l1 kq l1 l2 a3 x9_1 x10_2 x11_2 = some r) ∧ Aside0 (kq ≤ k1) ∧ Aside0 (w'.heap[gb116]? = some (.cells #[] 89 (0, 0))) ∧ Aside0 (Below w.heap.size w w'))
        case atStart => exact ⟨(true), (0), (by first | rfl | (simp; done) | (simp [*]; done)), (by first | rfl | (simp; done) | (simp [*]; done)), H', ⟨Nat.le_refl _⟩, ⟨by (with_reducible repeat (first | refine blk_drewN ?_ _ | refine blk_drew ?_ | refine blk_alloc ?_ _)); exact BK116.out⟩, ⟨by repeat (first | (with_reducible first | exact HB.out | apply below_alloc | apply pw_below_drewN | apply below_drew1 | refine below_set ?_ GE116.out) | exact HB.out)⟩⟩
        case round =>
          clear H'
          try clear c1
          try clear c2
          try clear p2
          try clear c5
          try clear c6
          try clear c6b0
          try clear p6
          try clear p2
          obtain ⟨x10_2, x11_2, rfl, rfl, HA, HK2, BK116, HB⟩ := hrel
          cases gk with
          | zero => exact absurd HA.out (by simp [readline_Runes_IndexAllBckEx.l1])
          | succ k2 =>
            have H := HA.out
            clear HA
            simp only [readline_Runes_IndexAllBckEx.l1] at H
            by_cases c7 : x11_2 < (l2.length : Int)
            · rw [if_pos c7] at H
              have c7b0 : decide (x11_2 < (l2.length : Int)) = true := decide_eq_true c7
              clear c7
              obtain ⟨ji8, hji8⟩ : ∃ j_ : Int, (wrap64 (x9_1 + x11_2)) = j_ := ⟨_, rfl⟩
              replace H : (if 0 ≤ (ji8) then (if (ji8) < (l1.length : Int) then (if 0 ≤ x11_2 then ((readline_Runes_EqualRune.f k2 (rd l1 (ji8)) (rd l2 x11_2) a3).bind fun t119 => (if t119 = true then (readline_Runes_IndexAllBckEx.l1 k2 l1 l2 a3 x9_1 x10_2 (wrap64 (x11_2 + 1))) else (readline_Runes_IndexAllBckEx.l0 k2 l1 l2 a3 (wrap64 (x9_1 - 1))))) else (none)) else (none)) else (none)) = some r := by first | (rw [hji8] at H; exact H) | (simp only [hji8] at H ⊢; exact H)
              have hji8w : (IntKind.i64.wrap (x9_1 + x11_2)) = ji8 := (i64_w _).trans hji8
              by_cases c9 : 0 ≤ (ji8)
              · rw [if_pos c9] at H
                have c9b0 : decide (0 ≤ (ji8)) = true := decide_eq_true c9
                clear c9
                by_cases c10 : (ji8) < (l1.length : Int)
                · rw [if_pos c10] at H
                  have c10b0 : decide ((ji8) < (l1.length : Int)) = true := decide_eq_true c10
                  clear c10
                  by_cases c11 : 0 ≤ x11_2
                  · rw [if_pos c11] at H
                    have c11b0 : decide (0 ≤ x11_2) = true := decide_eq_true c11
                    clear c11
                    replace H := Option.bind_eq_some_iff.mp H
                    obtain ⟨t119, A120, H⟩ := H
                    replace H : (if t119 = true then (readline_Runes_IndexAllBckEx.l1 k2 l1 l2 a3 x9_1 x10_2 (wrap64 (x11_2 + 1))) else (readline_Runes_IndexAllBckEx.l0 k2 l1 l2 a3 (wrap64 (x9_1 - 1)))) = some r := H
                    have A12 := Aside0.mk A120
                    clear A120
                    by_cases c13 : t119 = true
                    · subst c13
                      have H1 : (readline_Runes_IndexAllBckEx.l1 k2 l1 l2 a3 x9_1 x10_2 (wrap64 (x11_2 + 1))) = some r := by rw [if_pos rfl] at H; exact H
                      clear H
                      have H := H1
                      clear H1
                      have H' := Aside0.mk H
                      clear H
                      try go_wp2
                      have n0_ := Aside0.mk (blk_drew BK116.out)
                      have n1_ := Aside0.mk (below_drew1 HB.out)
                      clear BK116
                      clear HB
                      have BK116 := n0_
                      have HB := n1_
                      clear n0_ n1_
                      have p117 : 0 ≤ ((ji8) : Int) := of_decide_eq_true (by first | (with_reducible assumption) | assumption)
                      have q117 : (ji8) < (l1.length : Int) := of_decide_eq_true (by first | (with_reducible assumption) | assumption)
                      obtain ⟨ad117, e117, hx117_0⟩ := Kd.at_int HR1.out (ji8) p117 q117
                      have hw117_0 := hx117_0
                      cases e117
                      replace hx117_0 := (HB.out.cell (World.block_lt_of_cell? w _ hx117_0)).trans hx117_0
                      replace p117 := eq_true p117
                      replace q117 := eq_true q117
                      have p118 : 0 ≤ (x11_2 : Int) := of_decide_eq_true (by first | (with_reducible assumption) | assumption)
                      have q118 : x11_2 < (l2.length : Int) := of_decide_eq_true (by first | (with_reducible assumption) | assumption)
                      obtain ⟨ad118, e118, hx118_0⟩ := Kd.at_int HR2.out x11_2 p118 q118
                      have hw118_0 := hx118_0
                      cases e118
                      replace hx118_0 := (HB.out.cell (World.block_lt_of_cell? w _ hx118_0)).trans hx118_0
                      replace p118 := eq_true p118
                      replace q118 := eq_true q118
                      refine start_ (n := 14) (S := fun w' => w'.cell? (ad117.add ((ji8)).toNat) = some (.int .i32 (rd l1 (ji8))) ∧ w'.cell? (ad118.add (x11_2).toNat) = some (.int .i32 (rd l2 x11_2))) (ds := []) #[false, false, false, false, false, false, false, false, false, false, false, false, false, false] (by kernel_rfl) rfl rfl ⟨((HB.out.cell (World.block_lt_of_cell? w _ hw117_0)).trans hw117_0), ((HB.out.cell (World.block_lt_of_cell? w _ hw118_0)).trans hw118_0)⟩ (fun hHeld => ?_); refine with_tabW readline_Runes_IndexAllBckEx.tab8 readline_Runes_IndexAllBckEx.bits8 (fun HT_ HW_ => ?_)
                      generalize wr.drew = w14 at BK116 HB hx117_0 hx118_0 hHeld ⊢
                      refine pure_ (i := 1) (N := some 28) (v := ?_) (a' := ?_) #[false, true, false, false, false, false, false, false, false, false, false, false, false, false] rfl rfl (any_of HT_.out (by kernel_rfl)) (fun _ _ _ h => h) (Or.inl ⟨by rfl, ?_⟩) ?_ ?_
                      rotate_left
                      · intro w'
                        go_simp
                        with_reducible rfl
                      rotate_left
                      · simp only [Act.put, List.setIfInBounds_toArray, List.set_cons_zero, List.set_cons_succ, i64_w, i32_w]
                        rfl
                      refine pure_ (i := 2) (N := some 29) (v := ?_) (a' := ?_) #[false, true, true, false, false, false, false, false, false, false, false, false, false, false] rfl rfl (any_of HT_.out (by kernel_rfl)) (fun _ _ _ h => h) (Or.inl ⟨by rfl, ?_⟩) ?_ ?_
                      rotate_left
                      · intro w'
                        go_simp
                        with_reducible rfl
                      rotate_left
                      · simp only [Act.put, List.setIfInBounds_toArray, List.set_cons_zero, List.set_cons_succ, i64_w, i32_w]
                        rfl
                      refine pure_ (i := 3) (N := some 30) (v := ?_) (a' := ?_) #[false, true, true, true, false, false, false, false, false, false, false, false, false, false] rfl rfl (any_of HT_.out (by kernel_rfl)) (fun _ _ _ h => h) (Or.inl ⟨by rfl, ?_⟩) ?_ ?_
                      rotate_left
                      · intro w'
                        go_simp
                        with_reducible rfl
                      rotate_left
                      · simp only [Act.put, List.setIfInBounds_toArray, List.set_cons_zero, List.set_cons_succ, i64_w, i32_w]
                        rfl
                      refine pure_ (i := 4) (N := some 31) (v := ?_) (a' := ?_) #[false, true, true, true, true, false, false, false, false, false, false, false, false, false] rfl rfl (any_of HT_.out (by kernel_rfl)) (fun _ _ _ h => h) (Or.inl ⟨by rfl, ?_⟩) ?_ ?_
                      rotate_left
                      · intro w'
                        go_simp
                        with_reducible rfl
                      rotate_left
                      · simp only [Act.put, List.setIfInBounds_toArray, List.set_cons_zero, List.set_cons_succ, i64_w, i32_w]
                        rfl
                      refine pure_ (i := 5) (N := some 32) (v := ?_) (a' := ?_) #[false, true, true, true, true, true, false, false, false, false, false, false, false, false] rfl rfl (any_of HT_.out (by kernel_rfl)) (fun _ _ _ h => h) (Or.inl ⟨by rfl, ?_⟩) ?_ ?_
                      rotate_left
                      · intro w'
                        go_simp
                        with_reducible rfl
                      rotate_left
                      · simp only [Act.put, List.setIfInBounds_toArray, List.set_cons_zero, List.set_cons_succ, i64_w, i32_w]
                        rfl
                      refine pure_ (i := 7) (N := some 34) (v := ?_) (a' := ?_) #[false, true, true, true, true, true, false, true, false, false, false, false, false, false] rfl rfl (any_of HT_.out (by kernel_rfl)) (fun _ _ _ h => h) (Or.inl ⟨by rfl, ?_⟩) ?_ ?_
                      rotate_left
                      · intro w'
                        go_simp
                        with_reducible rfl
                      rotate_left
                      · simp only [Act.put, List.setIfInBounds_toArray, List.set_cons_zero, List.set_cons_succ, i64_w, i32_w]
                        rfl
                      refine pure_ (i := 8) (N := some 35) (v := ?_) (a' := ?_) #[false, true, true, true, true, true, false, true, true, false, false, false, false, false] rfl rfl (any_of HT_.out (by kernel_rfl)) (fun _ _ _ h => h) (Or.inl ⟨by rfl, ?_⟩) ?_ ?_
                      rotate_left
                      · intro w'
                        go_simp
                        with_reducible rfl
                      rotate_left
                      · simp only [Act.put, List.setIfInBounds_toArray, List.set_cons_zero, List.set_cons_succ, i64_w, i32_w]
                        rfl
                      refine pure_ (i := 9) (N := some 36) (v := ?_) (a' := ?_) #[false, true, true, true, true, true, false, true, true, true, false, false, false, false] rfl rfl (any_of HT_.out (by kernel_rfl)) (fun _ _ _ h => h) (Or.inl ⟨by rfl, ?_⟩) ?_ ?_
                      rotate_left
                      · intro w'
                        go_simp
                        with_reducible rfl
                      rotate_left
                      · simp only [Act.put, List.setIfInBounds_toArray, List.set_cons_zero, List.set_cons_succ, i64_w, i32_w]
                        rfl
                      refine pure_ (i := 11) (N := some 38) (v := ?_) (a' := ?_) #[false, true, true, true, true, true, false, true, true, true, false, true, false, false] rfl rfl (any_of HT_.out (by kernel_rfl)) (fun _ _ _ h => h) (Or.inl ⟨by rfl, ?_⟩) ?_ ?_
                      rotate_left
                      · intro w'
                        go_simp
                        with_reducible rfl
                      rotate_left
                      · simp only [Act.put, List.setIfInBounds_toArray, List.set_cons_zero, List.set_cons_succ, i64_w, i32_w]
                        rfl
                      refine take_ (i := 0) (N := some 27) (v := ?_) (a' := ?_) #[true, true, true, true, true, true, false, true, true, true, false, true, false, false] rfl rfl (take_ofW HT_.out HW_.out (by kernel_rfl)) (fun _ _ _ h => h) (Or.inl ⟨by rfl, ?_⟩) hHeld ?_ ?_
                      rotate_left
                      · rintro w' ⟨s0, s1⟩
                        go_simp
                        with_reducible rfl
                      rotate_left
                      · simp only [Act.put, List.setIfInBounds_toArray, List.set_cons_zero, List.set_cons_succ, i64_w, i32_w]
                        rfl
                      refine take_ (i := 6) (N := some 33) (v := ?_) (a' := ?_) #[true, true, true, true, true, true, true, true, true, true, false, true, false, false] rfl rfl (take_ofW HT_.out HW_.out (by kernel_rfl)) (fun _ _ _ h => h) (Or.inl ⟨by rfl, ?_⟩) hHeld ?_ ?_
                      rotate_left
                      · rintro w' ⟨s0, s1⟩
                        go_simp
                        with_reducible rfl
                      rotate_left
                      · simp only [Act.put, List.setIfInBounds_toArray, List.set_cons_zero, List.set_cons_succ, i64_w, i32_w]
                        rfl
                      refine take_ (i := 10) (N := some 37) (v := ?_) (a' := ?_) #[true, true, true, true, true, true, true, true, true, true, true, true, false, false] rfl rfl (take_ofW HT_.out HW_.out (by kernel_rfl)) (fun _ _ _ h => h) (Or.inl ⟨by rfl, ?_⟩) hHeld ?_ ?_
                      rotate_left
                      · rintro w' ⟨s0, s1⟩
                        go_simp
                        with_reducible rfl
                      rotate_left
                      · simp only [Act.put, List.setIfInBounds_toArray, List.set_cons_zero, List.set_cons_succ, i64_w, i32_w]
                        rfl
                      refine one_ (i := 12) (N := some 39) #[true, true, true, true, true, true, true, true, true, true, true, true, true, false] rfl rfl (one_of HT_.out (by kernel_rfl)) (by decide) (fun K hK => ?_)
                      refine goes_ Try.func83 (by kernel_rfl) rfl #[.agg #[], .int .i32 (rd l1 (ji8)), .int .i32 (rd l2 x11_2), .bool a3] (by rfl) rfl rfl (by (try simp only [List.map_toArray, List.map_cons, List.map_nil]); first | done | (simp only [hji8]; rfl) | rfl | (simp only [List.length_drop, List.length_take]; rfl)) ?_
                      with_reducible refine (readline_Runes_EqualRune.calls k2  (rd l1 (ji8)) (rd l2 x11_2) a3 true _ A12.out).mono ?_
                      rintro e w15 ⟨rfl, hb⟩
                      refine ⟨_, rfl, ?_⟩
                      have n0_ := Aside0.mk (blk_below (g := gb116) (o := .cells #[] 89 (0, 0)) (by (with_reducible repeat (first | refine blk_drewN ?_ _ | refine blk_drew ?_ | refine blk_alloc ?_ _)); exact BK116.out) hb)
                      have n1_ := Aside0.mk (below_step (by repeat (first | (with_reducible first | exact HB.out | apply below_alloc | apply pw_below_drewN | apply below_drew1 | refine below_set ?_ GE116.out) | exact HB.out)) hb)
                      clear BK116
                      clear HB
                      have BK116 := n0_
                      have HB := n1_
                      clear n0_ n1_
                      (try clear hb)
                      (try clear hb2)
                      (try clear hk)
                      (try clear hi)
                      refine hK.out _ _ ⟨((HB.out.cell (World.block_lt_of_cell? w _ hw117_0)).trans hw117_0), ((HB.out.cell (World.block_lt_of_cell? w _ hw118_0)).trans hw118_0)⟩ (fun hHeld => ?_)
                      clear hK K
                      refine norm_ (a' := ?_) ?_ ?_
                      rotate_left
                      · show Act.put _ (some 39) _ = _
                        simp only [Act.put, List.setIfInBounds_toArray, List.set_cons_zero, List.set_cons_succ, i64_w, i32_w]
                        rfl
                      refine pure_ (i := 13) (N := some 40) (v := ?_) (a' := ?_) #[true, true, true, true, true, true, true, true, true, true, true, true, true, true] rfl rfl (any_of HT_.out (by kernel_rfl)) (fun _ _ _ h => h) (Or.inl ⟨by rfl, ?_⟩) ?_ ?_
                      rotate_left
                      · intro w'
                        go_simp
                        with_reducible rfl
                      rotate_left
                      · simp only [Act.put, List.setIfInBounds_toArray, List.set_cons_zero, List.set_cons_succ, i64_w, i32_w]
                        rfl
                      refine done_ (done_of HT_.out (by kernel_rfl)) ?_
                      try go_wp2
                      go_roundg k2
                      case measure => have := HK1.out; have := HK2.out; omega
                      case rel => exact ⟨(x10_2), (wrap64 (x11_2 + 1)), (by first | rfl | (simp; done) | (simp [*]; done)), (by first | rfl | (simp; done) | (simp [*]; done)), H', ⟨by have := HK1.out; have := HK2.out; omega⟩, ⟨by (with_reducible repeat (first | refine blk_drewN ?_ _ | refine blk_drew ?_ | refine blk_alloc ?_ _)); exact BK116.out⟩, ⟨by repeat (first | (with_reducible first | exact HB.out | apply below_alloc | apply pw_below_drewN | apply below_drew1 | refine below_set ?_ GE116.out) | exact HB.out)⟩⟩
                    · replace c13 := Bool.eq_false_iff.mpr c13
                      subst c13
                      have H1 : (readline_Runes_IndexAllBckEx.l0 k2 l1 l2 a3 (wrap64 (x9_1 - 1))) = some r := by rw [if_neg (show ¬ (false = true) by decide)] at H; exact H
                      clear H
                      have H := H1
                      clear H1
                      have H' := Aside0.mk H
                      clear H
                      try go_wp2
                      have n0_ := Aside0.mk (blk_drew BK116.out)
                      have n1_ := Aside0.mk (below_drew1 HB.out)
                      clear BK116
                      clear HB
                      have BK116 := n0_
                      have HB := n1_
                      clear n0_ n1_
                      have p117 : 0 ≤ ((ji8) : Int) := of_decide_eq_true (by first | (with_reducible assumption) | assumption)
                      have q117 : (ji8) < (l1.length : Int) := of_decide_eq_true (by first | (with_reducible assumption) | assumption)
                      obtain ⟨ad117, e117, hx117_0⟩ := Kd.at_int HR1.out (ji8) p117 q117
                      have hw117_0 := hx117_0
                      cases e117
                      replace hx117_0 := (HB.out.cell (World.block_lt_of_cell? w _ hx117_0)).trans hx117_0
                      replace p117 := eq_true p117
                      replace q117 := eq_true q117
                      have p118 : 0 ≤ (x11_2 : Int) := of_decide_eq_true (by first | (with_reducible assumption) | assumption)
                      have q118 : x11_2 < (l2.length : Int) := of_decide_eq_true (by first | (with_reducible assumption) | assumption)
                      obtain ⟨ad118, e118, hx118_0⟩ := Kd.at_int HR2.out x11_2 p118 q118
                      have hw118_0 := hx118_0
                      cases e118
                      replace hx118_0 := (HB.out.cell (World.block_lt_of_cell? w _ hx118_0)).trans hx118_0
                      replace p118 := eq_true p118
                      replace q118 := eq_true q118
                      refine start_ (n := 14) (S := fun w' => w'.cell? (ad117.add ((ji8)).toNat) = some (.int .i32 (rd l1 (ji8))) ∧ w'.cell? (ad118.add (x11_2).toNat) = some (.int .i32 (rd l2 x11_2))) (ds := []) #[false, false, false, false, false, false, false, false, false, false, false, false, false, false] (by kernel_rfl) rfl rfl ⟨((HB.out.cell (World.block_lt_of_cell? w _ hw117_0)).trans hw117_0), ((HB.out.cell (World.block_lt_of_cell? w _ hw118_0)).trans hw118_0)⟩ (fun hHeld => ?_); refine with_tabW readline_Runes_IndexAllBckEx.tab8 readline_Runes_IndexAllBckEx.bits8 (fun HT_ HW_ => ?_)
                      generalize wr.drew = w16 at BK116 HB hx117_0 hx118_0 hHeld ⊢
                      refine pure_ (i := 1) (N := some 28) (v := ?_) (a' := ?_) #[false, true, false, false, false, false, false, false, false, false, false, false, false, false] rfl rfl (any_of HT_.out (by kernel_rfl)) (fun _ _ _ h => h) (Or.inl ⟨by rfl, ?_⟩) ?_ ?_
                      rotate_left
                      · intro w'
                        go_simp
                        with_reducible rfl
                      rotate_left
                      · simp only [Act.put, List.setIfInBounds_toArray, List.set_cons_zero, List.set_cons_succ, i64_w, i32_w]
                        rfl
                      refine pure_ (i := 2) (N := some 29) (v := ?_) (a' := ?_) #[false, true, true, false, false, false, false, false, false, false, false, false, false, false] rfl rfl (any_of HT_.out (by kernel_rfl)) (fun _ _ _ h => h) (Or.inl ⟨by rfl, ?_⟩) ?_ ?_
                      rotate_left
                      · intro w'
                        go_simp
                        with_reducible rfl
                      rotate_left
                      · simp only [Act.put, List.setIfInBounds_toArray, List.set_cons_zero, List.set_cons_succ, i64_w, i32_w]
                        rfl
                      refine pure_ (i := 3) (N := some 30) (v := ?_) (a' := ?_) #[false, true, true, true, false, false, false, false, false, false, false, false, false, false] rfl rfl (any_of HT_.out (by kernel_rfl)) (fun _ _ _ h => h) (Or.inl ⟨by rfl, ?_⟩) ?_ ?_
                      rotate_left
                      · intro w'
                        go_simp
                        with_reducible rfl
                      rotate_left
                      · simp only [Act.put, List.setIfInBounds_toArray, List.set_cons_zero, List.set_cons_succ, i64_w, i32_w]
                        rfl
                      refine pure_ (i := 4) (N := some 31) (v := ?_) (a' := ?_) #[false, true, true, true, true, false, false, false, false, false, false, false, false, false] rfl rfl (any_of HT_.out (by kernel_rfl)) (fun _ _ _ h => h) (Or.inl ⟨by rfl, ?_⟩) ?_ ?_
                      rotate_left
                      · intro w'
                        go_simp
                        with_reducible rfl
                      rotate_left
                      · simp only [Act.put, List.setIfInBounds_toArray, List.set_cons_zero, List.set_cons_succ, i64_w, i32_w]
                        rfl
                      refine pure_ (i := 5) (N := some 32) (v := ?_) (a' := ?_) #[false, true, true, true, true, true, false, false, false, false, false, false, false, false] rfl rfl (any_of HT_.out (by kernel_rfl)) (fun _ _ _ h => h) (Or.inl ⟨by rfl, ?_⟩) ?_ ?_
                      rotate_left
                      · intro w'
                        go_simp
                        with_reducible rfl
                      rotate_left
                      · simp only [Act.put, List.setIfInBounds_toArray, List.set_cons_zero, List.set_cons_succ, i64_w, i32_w]
                        rfl
                      refine pure_ (i := 7) (N := some 34) (v := ?_) (a' := ?_) #[false, true, true, true, true, true, false, true, false, false, false, false, false, false] rfl rfl (any_of HT_.out (by kernel_rfl)) (fun _ _ _ h => h) (Or.inl ⟨by rfl, ?_⟩) ?_ ?_
                      rotate_left
                      · intro w'
                        go_simp
                        with_reducible rfl
                      rotate_left
                      · simp only [Act.put, List.setIfInBounds_toArray, List.set_cons_zero, List.set_cons_succ, i64_w, i32_w]
                        rfl
                      refine pure_ (i := 8) (N := some 35) (v := ?_) (a' := ?_) #[false, true, true, true, true, true, false, true, true, false, false, false, false, false] rfl rfl (any_of HT_.out (by kernel_rfl)) (fun _ _ _ h => h) (Or.inl ⟨by rfl, ?_⟩) ?_ ?_
                      rotate_left
                      · intro w'
                        go_simp
                        with_reducible rfl
                      rotate_left
                      · simp only [Act.put, List.setIfInBounds_toArray, List.set_cons_zero, List.set_cons_succ, i64_w, i32_w]
                        rfl
                      refine pure_ (i := 9) (N := some 36) (v := ?_) (a' := ?_) #[false, true, true, true, true, true, false, true, true, true, false, false, false, false] rfl rfl (any_of HT_.out (by kernel_rfl)) (fun _ _ _ h => h) (Or.inl ⟨by rfl, ?_⟩) ?_ ?_
                      rotate_left
                      · intro w'
                        go_simp
                        with_reducible rfl
                      rotate_left
                      · simp only [Act.put, List.setIfInBounds_toArray, List.set_cons_zero, List.set_cons_succ, i64_w, i32_w]
                        rfl
                      refine pure_ (i := 11) (N := some 38) (v := ?_) (a' := ?_) #[false, true, true, true, true, true, false, true, true, true, false, true, false, false] rfl rfl (any_of HT_.out (by kernel_rfl)) (fun _ _ _ h => h) (Or.inl ⟨by rfl, ?_⟩) ?_ ?_
                      rotate_left
                      · intro w'
                        go_simp
                        with_reducible rfl
                      rotate_left
                      · simp only [Act.put, List.setIfInBounds_toArray, List.set_cons_zero, List.set_cons_succ, i64_w, i32_w]
                        rfl
                      refine take_ (i := 0) (N := some 27) (v := ?_) (a' := ?_) #[true, true, true, true, true, true, false, true, true, true, false, true, false, false] rfl rfl (take_ofW HT_.out HW_.out (by kernel_rfl)) (fun _ _ _ h => h) (Or.inl ⟨by rfl, ?_⟩) hHeld ?_ ?_
                      rotate_left
                      · rintro w' ⟨s0, s1⟩
                        go_simp
                        with_reducible rfl
                      rotate_left
                      · simp only [Act.put, List.setIfInBounds_toArray, List.set_cons_zero, List.set_cons_succ, i64_w, i32_w]
                        rfl
                      refine take_ (i := 6) (N := some 33) (v := ?_) (a' := ?_) #[true, true, true, true, true, true, true, true, true, true, false, true, false, false] rfl rfl (take_ofW HT_.out HW_.out (by kernel_rfl)) (fun _ _ _ h => h) (Or.inl ⟨by rfl, ?_⟩) hHeld ?_ ?_
                      rotate_left
                      · rintro w' ⟨s0, s1⟩
                        go_simp
                        with_reducible rfl
                      rotate_left
                      · simp only [Act.put, List.setIfInBounds_toArray, List.set_cons_zero, List.set_cons_succ, i64_w, i32_w]
                        rfl
                      refine take_ (i := 10) (N := some 37) (v := ?_) (a' := ?_) #[true, true, true, true, true, true, true, true, true, true, true, true, false, false] rfl rfl (take_ofW HT_.out HW_.out (by kernel_rfl)) (fun _ _ _ h => h) (Or.inl ⟨by rfl, ?_⟩) hHeld ?_ ?_
                      rotate_left
                      · rintro w' ⟨s0, s1⟩
                        go_simp
                        with_reducible rfl
                      rotate_left
                      · simp only [Act.put, List.setIfInBounds_toArray, List.set_cons_zero, List.set_cons_succ, i64_w, i32_w]
                        rfl
                      refine one_ (i := 12) (N := some 39) #[true, true, true, true, true, true, true, true, true, true, true, true, true, false] rfl rfl (one_of HT_.out (by kernel_rfl)) (by decide) (fun K hK => ?_)
                      refine goes_ Try.func83 (by kernel_rfl) rfl #[.agg #[], .int .i32 (rd l1 (ji8)), .int .i32 (rd l2 x11_2), .bool a3] (by rfl) rfl rfl (by (try simp only [List.map_toArray, List.map_cons, List.map_nil]); first | done | (simp only [hji8]; rfl) | rfl | (simp only [List.length_drop, List.length_take]; rfl)) ?_
                      with_reducible refine (readline_Runes_EqualRune.calls k2  (rd l1 (ji8)) (rd l2 x11_2) a3 false _ A12.out).mono ?_
                      rintro e w17 ⟨rfl, hb⟩
                      refine ⟨_, rfl, ?_⟩
                      have n0_ := Aside0.mk (blk_below (g := gb116) (o := .cells #[] 89 (0, 0)) (by (with_reducible repeat (first | refine blk_drewN ?_ _ | refine blk_drew ?_ | refine blk_alloc ?_ _)); exact BK116.out) hb)
                      have n1_ := Aside0.mk (below_step (by repeat (first | (with_reducible first | exact HB.out | apply below_alloc | apply pw_below_drewN | apply below_drew1 | refine below_set ?_ GE116.out) | exact HB.out)) hb)
                      clear BK116
                      clear HB
                      have BK116 := n0_
                      have HB := n1_
                      clear n0_ n1_
                      (try clear hb)
                      (try clear hb2)
                      (try clear hk)
                      (try clear hi)
                      refine hK.out _ _ ⟨((HB.out.cell (World.block_lt_of_cell? w _ hw117_0)).trans hw117_0), ((HB.out.cell (World.block_lt_of_cell? w _ hw118_0)).trans hw118_0)⟩ (fun hHeld => ?_)
                      clear hK K
                      refine norm_ (a' := ?_) ?_ ?_
                      rotate_left
                      · show Act.put _ (some 39) _ = _
                        simp only [Act.put, List.setIfInBounds_toArray, List.set_cons_zero, List.set_cons_succ, i64_w, i32_w]
                        rfl
                      refine pure_ (i := 13) (N := some 40) (v := ?_) (a' := ?_) #[true, true, true, true, true, true, true, true, true, true, true, true, true, true] rfl rfl (any_of HT_.out (by kernel_rfl)) (fun _ _ _ h => h) (Or.inl ⟨by rfl, ?_⟩) ?_ ?_
                      rotate_left
                      · intro w'
                        go_simp
                        with_reducible rfl
                      rotate_left
                      · simp only [Act.put, List.setIfInBounds_toArray, List.set_cons_zero, List.set_cons_succ, i64_w, i32_w]
                        rfl
                      refine done_ (done_of HT_.out (by kernel_rfl)) ?_
                      try go_wp2
                      go_roundg k2
                      case measure => have := HK1.out; have := HK2.out; omega
                      case rel => exact ⟨(wrap64 (x9_1 - 1)), (by first | rfl | (simp; done) | (simp [*]; done)), H', ⟨by have := HK1.out; have := HK2.out; omega⟩, ⟨by (with_reducible repeat (first | refine blk_drewN ?_ _ | refine blk_drew ?_ | refine blk_alloc ?_ _)); exact BK116.out⟩, ⟨by repeat (first | (with_reducible first | exact HB.out | apply below_alloc | apply pw_below_drewN | apply below_drew1 | refine below_set ?_ GE116.out) | exact HB.out)⟩⟩
                  · rw [if_neg c11] at H
                    exact absurd H (by simp)
                · rw [if_neg c10] at H
                  exact absurd H (by simp)
              · rw [if_neg c9] at H
                exact absurd H (by simp)
            · rw [if_neg c7] at H
              have c7b0 : decide (x11_2 < (l2.length : Int)) = false := decide_eq_false c7
              clear c7
              by_cases c18 : x10_2 = true
              · subst c18
                have H1 : (some x9_1) = some r := by rw [if_pos rfl] at H; exact H
                clear H
                have H := H1
                clear H1
                obtain rfl := Option.some.inj H
                go_wp2
                go_ret
                exact ⟨by first | rfl | (simp [errW_none, errW_some] <;> rfl) | (simp [*, errW_none, errW_some] <;> rfl), by repeat (first | (with_reducible first | exact HB.out | apply below_alloc | apply pw_below_drewN | apply below_drew1 | refine below_set ?_ GE116.out) | exact HB.out)⟩
              · replace c18 := Bool.eq_false_iff.mpr c18
                subst c18
                have H1 : (readline_Runes_IndexAllBckEx.l0 k2 l1 l2 a3 (wrap64 (x9_1 - 1))) = some r := by rw [if_neg (show ¬ (false = true) by decide)] at H; exact H
                clear H
                have H := H1
                clear H1
                have H' := Aside0.mk H
                clear H
                go_wp2
                go_roundg k2
                case measure => have := HK1.out; have := HK2.out; omega
                case rel => exact ⟨(wrap64 (x9_1 - 1)), (by first | rfl | (simp; done) | (simp [*]; done)), H', ⟨by have := HK1.out; have := HK2.out; omega⟩, ⟨by (with_reducible repeat (first | refine blk_drewN ?_ _ | refine blk_drew ?_ | refine blk_alloc ?_ _)); exact BK116.out⟩, ⟨by repeat (first | (with_reducible first | exact HB.out | apply below_alloc | apply pw_below_drewN | apply below_drew1 | refine below_set ?_ GE116.out) | exact HB.out)⟩⟩
      · rw [if_neg c6] at H
        have c6b0 : decide (0 ≤ x9_1) = false := decide_eq_false c6
        clear c6
        obtain rfl := Option.some.inj H
        go_wp2
        go_ret
        exact ⟨by first | rfl | (simp [errW_none, errW_some] <;> rfl) | (simp [*, errW_none, errW_some] <;> rfl), by repeat (first | (with_reducible first | exact HB.out | apply below_alloc | apply pw_below_drewN | apply below_drew1 | refine below_set ?_ GE116.out) | exact HB.out)⟩

/-! ### impl_IndexBack: function 28 -/
def impl_IndexBack.f (k : Nat) (a0 : ByteArray) (a1 : ByteArray) (a2 : Bool) : Option (Int) := if (runesOf a0).length ≤ 70368744177664 then (if (runesOf a1).length ≤ 70368744177664 then ((readline_Runes_IndexAllBckEx.f k (runesOf a0) (runesOf a1) a2).bind fun t126 => (some t126)) else (none)) else (none)
theorem impl_IndexBack.mono : ∀ a0 a1 a2 k, LeO (impl_IndexBack.f k a0 a1 a2) (impl_IndexBack.f (k + 1) a0 a1 a2) := by
  intro a0 a1 a2 k
  unfold impl_IndexBack.f
  repeat' first
      | (with_reducible exact readline_Runes_IndexAllBckEx.mono _ _ _ _)
      | (with_reducible exact LeO.refl _)
      | (with_reducible exact LeO.none _)
      | (with_reducible refine LeO.ite ?_ ?_)
      | (with_reducible refine LeO.bind ?_ (fun _ => ?_))
      | exact readline_Runes_IndexAllBckEx.mono _ _ _ _
      | exact LeO.none _
      | refine LeO.ite ?_ ?_
      | refine LeO.bind ?_ (fun _ => ?_)
set_option maxHeartbeats 8000000 in
set_option maxRecDepth 100000 in
theorem impl_IndexBack.calls (k : Nat) (a0 : ByteArray) (a1 : ByteArray) (a2 : Bool) (r : Int) (w : World) (h : impl_IndexBack.f k a0 a1 a2 = some r) :
    Calls Try.prog 28 #[.string a0, .string a1, .bool a2] w fun e w' => e = .returned (.int .i64 r) ∧ Below w.heap.size w w' := by
  have hu89 := Try.underlying89
  have HB := Aside0.mk (Below.refl w.heap.size w)
  have H : (if (runesOf a0).length ≤ 70368744177664 then (if (runesOf a1).length ≤ 70368744177664 then ((readline_Runes_IndexAllBckEx.f k (runesOf a0) (runesOf a1) a2).bind fun t126 => (some t126)) else (none)) else (none)) = some r := h
  clear h
  by_cases c4 : (runesOf a0).length ≤ 70368744177664
  · rw [if_pos c4] at H
    have c4b0 := eq_true c4
    have c4b1 : decide ((runesOf a0).length ≤ 70368744177664) = true := decide_eq_true c4
    clear c4
    obtain ⟨y120, hy120⟩ : ∃ y_ : List Int, y_ = (runesOf a0) := ⟨_, rfl⟩
    replace H : (if (runesOf a1).length ≤ 70368744177664 then ((readline_Runes_IndexAllBckEx.f k y120 (runesOf a1) a2).bind fun t126 => (some t126)) else (none)) = some r := by first | (rw [hy120]; with_reducible exact H) | (have H2_ := (Option.bind_some _ _).symm.trans H; rw [hy120]; with_reducible exact H2_) | (have H2_ := (Option.bind_some _ _).symm.trans H; with_reducible exact H2_) | with_reducible exact H | (rw [hy120]; exact H) | exact H
    have Ny120 := Aside0.mk hy120
    clear hy120
    by_cases c5 : (runesOf a1).length ≤ 70368744177664
    · rw [if_pos c5] at H
      have c5b0 := eq_true c5
      have c5b1 : decide ((runesOf a1).length ≤ 70368744177664) = true := decide_eq_true c5
      clear c5
      obtain ⟨y123, hy123⟩ : ∃ y_ : List Int, y_ = (runesOf a1) := ⟨_, rfl⟩
      replace H : ((readline_Runes_IndexAllBckEx.f k y120 y123 a2).bind fun t126 => (some t126)) = some r := by first | (rw [hy123]; with_reducible exact H) | (have H2_ := (Option.bind_some _ _).symm.trans H; rw [hy123]; with_reducible exact H2_) | (have H2_ := (Option.bind_some _ _).symm.trans H; with_reducible exact H2_) | with_reducible exact H | (rw [hy123]; exact H) | exact H
      have Ny123 := Aside0.mk hy123
      clear hy123
      replace H := Option.bind_eq_some_iff.mp H
      obtain ⟨t126, A60, H⟩ := H
      replace H : (some t126) = some r := H
      have A6 := Aside0.mk A60
      clear A60
      obtain rfl := Option.some.inj H
      go_enter Try.func28, Try.ntmps28
      go_wp2_with (first | ((with_reducible refine gate_dst (N := 9) rfl ?_); refine R_runes _ 21 rfl (N := 9) rfl 9 85 _ rfl a0 rfl Try.underlying9 Try.underlying85 Try.underlying21 (ok := fun _ => True) (okp := fun _ => True) (fun _ hk => hk) trivial (of_decide_eq_true (by first | (with_reducible assumption) | assumption)) (Below.refl _ _) (Nat.le_refl _) ?_; intro v121 w7 ho8 hb hg_ hnew_; clear hg_ hnew_; (first | rw [← Ny120.out] at ho8 | (simp only [Int.reduceToNat] at ho8; rw [← Ny120.out] at ho8)); have n0_ := Aside0.mk (Kd.R_lower ho8 (below_size (by repeat (first | (with_reducible first | exact HB.out | apply below_alloc | apply pw_below_drewN | apply below_drew1) | exact HB.out)))); have n1_ := Aside0.mk (below_step (by repeat (first | (with_reducible first | exact HB.out | apply below_alloc | apply pw_below_drewN | apply below_drew1) | exact HB.out)) hb); clear HB; have HO122 := n0_; have HB := n1_; clear n0_ n1_; clear hb ho8) | ((with_reducible refine gate_dst (N := 11) rfl ?_); refine R_runes _ 21 rfl (N := 11) rfl 9 85 _ rfl a1 rfl Try.underlying9 Try.underlying85 Try.underlying21 (ok := fun _ => True) (okp := fun _ => True) (fun _ hk => hk) trivial (of_decide_eq_true (by first | (with_reducible assumption) | assumption)) (Below.refl _ _) (Nat.le_refl _) ?_; intro v124 w9 ho10 hb hg_ hnew_; clear hg_ hnew_; (first | rw [← Ny123.out] at ho10 | (simp only [Int.reduceToNat] at ho10; rw [← Ny123.out] at ho10)); have n0_ := Aside0.mk (Kd.R_elder' (by (with_reducible repeat (first | apply Kd.R_alloc | apply Kd.R_drewN | apply Kd.R_drew)); exact HO122.out) (Kd.R_base ho10) hb); have n1_ := Aside0.mk (Kd.R_lower (Kd.R_new' ho10 (Kd.R_lt (by (with_reducible repeat (first | apply Kd.R_alloc | apply Kd.R_drewN | apply Kd.R_drew)); exact HO122.out))) (below_size (by repeat (first | (with_reducible first | exact HB.out | apply below_alloc | apply pw_below_drewN | apply below_drew1) | exact HB.out)))); have n2_ := Aside0.mk (below_step (by repeat (first | (with_reducible first | exact HB.out | apply below_alloc | apply pw_below_drewN | apply below_drew1) | exact HB.out)) hb); clear HO122; clear HB; have HO122 := n0_; have HO125 := n1_; have HB := n2_; clear n0_ n1_ n2_; clear hb ho10; obtain ⟨Ao11, co11, eo11⟩ := Kd.R_slice HO122.out; subst eo11; obtain ⟨Ao12, co12, eo12⟩ := Kd.R_slice HO125.out; subst eo12) | ((with_reducible refine gate_callee (f := 57) rfl ?_); refine goesL_ (some 13) rfl rfl Try.func57 (by kernel_rfl) rfl #[.agg #[], .slice Ao11 y120.length co11, .slice Ao12 y123.length co12, .bool a2] rfl (by (try simp only [List.map_toArray, List.map_cons, List.map_nil]); first | done | rfl | (simp only [List.length_drop, List.length_take]; rfl)) ?_; (with_reducible refine (readline_Runes_IndexAllBckEx.calls k  _ _ y120 _ _ y123 a2 t126 _ ?side1 ?side2 ?side3 ?side4 A6.out).mono ?_); (case side1 => repeat (first | exact (Kd.R_reads' HO122.out).2.2 | (with_reducible refine Kd.C_alloc ?_ _) | (with_reducible refine Kd.C_drewN ?_ _) | (with_reducible refine Kd.C_drew ?_))); (case side2 => exact (Kd.R_reads' HO122.out).2.1); (case side3 => repeat (first | exact (Kd.R_reads' HO125.out).2.2 | (with_reducible refine Kd.C_alloc ?_ _) | (with_reducible refine Kd.C_drewN ?_ _) | (with_reducible refine Kd.C_drew ?_))); (case side4 => exact (Kd.R_reads' HO125.out).2.1); rintro e w13 ⟨rfl, hb⟩; refine ⟨_, rfl, ?_⟩; have n0_ := Aside0.mk (Kd.R_below (by (with_reducible repeat (first | apply Kd.R_alloc | apply Kd.R_drewN | apply Kd.R_drew)); exact HO122.out) hb); have n1_ := Aside0.mk (Kd.R_below (by (with_reducible repeat (first | apply Kd.R_alloc | apply Kd.R_drewN | apply Kd.R_drew)); exact HO125.out) hb); have n2_ := Aside0.mk (below_step (by repeat (first | (with_reducible first | exact HB.out | apply below_alloc | apply pw_below_drewN | apply below_drew1) | exact HB.out)) hb); clear HO122; clear HO125; clear HB; have HO122 := n0_; have HO125 := n1_; have HB := n2_; clear n0_ n1_ n2_; (try clear hb); (try clear hb2); (try clear hk); (try clear hi)))
      go_ret
      exact ⟨by first | rfl | (simp [errW_none, errW_some] <;> rfl) | (simp [*, errW_none, errW_some] <;> rfl), by repeat (first | (with_reducible first | exact HB.out | apply below_alloc | apply pw_below_drewN | apply below_drew1) | exact HB.out)⟩
    · rw [if_neg c5] at H
      exact absurd H (by simp)
  · rw [if_neg c4] at H
    exact absurd H (by simp)

/-! ### spec_Turned: function 29 -/
def spec_Turned.l0 : Nat → ByteArray → ByteArray → Int → Int → Option (ByteArray)
  | 0, _, _, _, _ => none
  | k + 1, x0, x3, x6, x7 => if x7 < x6 then (if 0 ≤ x7 then (if x7 ≤ (wrap64 (x7 + 1)) then (if (wrap64 (x7 + 1)) ≤ (x0.size : Int) then (if (x0.extract (x7 : Int).toNat ((wrap64 (x7 + 1)) : Int).toNat).size + x3.size ≤ 9223372036854775807 then (spec_Turned.l0 k x0 ((x0.extract (x7 : Int).toNat ((wrap64 (x7 + 1)) : Int).toNat) ++ x3) x6 (wrap64 (x7 + 1))) else (none)) else (none)) else (none)) else (none)) else (some x3)
def spec_Turned.f (k : Nat) (a0 : ByteArray) : Option (ByteArray) := spec_Turned.l0 k a0 (⟨#[]⟩ : ByteArray) (a0.size : Int) 0
theorem spec_Turned.mono_l : ∀ k, (∀ y0 y1 y2 y3, LeO (spec_Turned.l0 k y0 y1 y2 y3) (spec_Turned.l0 (k + 1) y0 y1 y2 y3))
  | 0 => fun _ _ _ _ r h => by simp [spec_Turned.l0] at h
  | k + 1 => by
    have ih0 := spec_Turned.mono_l k
    · intro y0 y1 y2 y3
      unfold spec_Turned.l0
      repeat' first
      | (with_reducible exact ih0 _ _ _ _)
      | (with_reducible exact LeO.refl _)
      | (with_reducible exact LeO.none _)
      | (with_reducible refine LeO.ite ?_ ?_)
      | (with_reducible refine LeO.bind ?_ (fun _ => ?_))
      | exact ih0 _ _ _ _
      | exact LeO.none _
      | refine LeO.ite ?_ ?_
      | refine LeO.bind ?_ (fun _ => ?_)
theorem spec_Turned.mono : ∀ a0 k, LeO (spec_Turned.f k a0) (spec_Turned.f (k + 1) a0) := by
  intro a0 k
  have ih0 := spec_Turned.mono_l k
  unfold spec_Turned.f
  repeat' first
      | (with_reducible exact ih0 _ _ _ _)
      | (with_reducible exact LeO.refl _)
      | (with_reducible exact LeO.none _)
      | (with_reducible refine LeO.ite ?_ ?_)
      | (with_reducible refine LeO.bind ?_ (fun _ => ?_))
      | exact ih0 _ _ _ _
      | exact LeO.none _
      | refine LeO.ite ?_ ?_
      | refine LeO.bind ?_ (fun _ => ?_)
set_option maxHeartbeats 8000000 in
set_option maxRecDepth 100000 in
theorem spec_Turned.calls (k : Nat) (a0 : ByteArray) (r : ByteArray) (w : World) (h : spec_Turned.f k a0 = some r) :
    Calls Try.prog 29 #[.string a0] w fun e w' => e = .returned (.string r) ∧ Drawn0 w w' := by
  have H : (spec_Turned.l0 k a0 (⟨#[]⟩ : ByteArray) (a0.size : Int) 0) = some r := h
  clear h
  have H' := Aside0.mk H
  clear H
  go_enter Try.func29, Try.ntmps29
  go_wp2
  go_loopg [3, 7] k (fun kq v3 v7 w' => ∃ (x3_1 : ByteArray) (x7_1 : Int), v3 = .string x3_1 ∧ v7 = .int .i64 x7_1 ∧ Aside0 (spec_Turned.l0 kq a0 x3_1 (a0.size : Int) x7_1 = some r) ∧ Aside0 (kq ≤ k) ∧ Drawn0 w w')
  case atStart => exact ⟨((⟨#[]⟩ : ByteArray)), (0), (by first | rfl | (simp; done) | (simp [*]; done)), (by first | rfl | (simp; done) | (simp [*]; done)), H', ⟨Nat.le_refl _⟩, by repeat (first | exact Drawn0.refl _ | apply Drawn0.step)⟩
  case round =>
    clear H'
    obtain ⟨x3_1, x7_1, rfl, rfl, HA, HK1, ⟨m1, rfl⟩⟩ := hrel
    cases gk with
    | zero => exact absurd HA.out (by simp [spec_Turned.l0])
    | succ k1 =>
      have H := HA.out
      clear HA
      simp only [spec_Turned.l0] at H
      by_cases c2 : x7_1 < (a0.size : Int)
      · rw [if_pos c2] at H
        have c2b0 : decide (x7_1 < (a0.size : Int)) = true := decide_eq_true c2
        clear c2
        by_cases c3 : 0 ≤ x7_1
        · rw [if_pos c3] at H
          have c3b0 := eq_true c3
          have c3b1 : decide (0 ≤ x7_1) = true := decide_eq_true c3
          clear c3
          by_cases c4 : x7_1 ≤ (wrap64 (x7_1 + 1))
          · rw [if_pos c4] at H
            have c4b0 := eq_true c4
            have c4b1 : decide (x7_1 ≤ (wrap64 (x7_1 + 1))) = true := decide_eq_true c4
            by_cases c5 : (wrap64 (x7_1 + 1)) ≤ (a0.size : Int)
            · rw [if_pos c5] at H
              have c5b0 := eq_true c5
              have c5b1 : decide ((wrap64 (x7_1 + 1)) ≤ (a0.size : Int)) = true := decide_eq_true c5
              by_cases c6 : (a0.extract (x7_1 : Int).toNat ((wrap64 (x7_1 + 1)) : Int).toNat).size + x3_1.size ≤ 9223372036854775807
              · rw [if_pos c6] at H
                have c6b0 := eq_true c6
                have c6b1 : decide ((a0.extract (x7_1 : Int).toNat ((wrap64 (x7_1 + 1)) : Int).toNat).size + x3_1.size ≤ 9223372036854775807) = true := decide_eq_true c6
                try have c6b2 : (9223372036854775807 < (a0.extract (x7_1 : Int).toNat ((wrap64 (x7_1 + 1)) : Int).toNat).size + x3_1.size) = False := eq_false (Nat.not_lt.2 c6)
                have H' := Aside0.mk H
                clear H
                go_wp2
                go_roundg k1
                case measure => have := HK1.out; omega
                case rel => exact ⟨((a0.extract (x7_1 : Int).toNat ((wrap64 (x7_1 + 1)) : Int).toNat) ++ x3_1), (wrap64 (x7_1 + 1)), (by first | rfl | (simp; done) | (simp [*]; done)), (by first | rfl | (simp; done) | (simp [*]; done)), H', ⟨by have := HK1.out; omega⟩, by repeat (first | exact Drawn0.refl _ | apply Drawn0.step)⟩
              · rw [if_neg c6] at H
                exact absurd H (by simp)
            · rw [if_neg c5] at H
              exact absurd H (by simp)
          · rw [if_neg c4] at H
            exact absurd H (by simp)
        · rw [if_neg c3] at H
          exact absurd H (by simp)
      · rw [if_neg c2] at H
        have c2b0 : decide (x7_1 < (a0.size : Int)) = false := decide_eq_false c2
        clear c2
        obtain rfl := Option.some.inj H
        go_wp2
        go_ret
        exact ⟨by first | rfl | (simp; done) | (simp [*]; done), by repeat (first | exact Drawn0.refl _ | apply Drawn0.step)⟩

end Go.Proofs.Ythkblefeifdhaaa.PFnIndexBoth
