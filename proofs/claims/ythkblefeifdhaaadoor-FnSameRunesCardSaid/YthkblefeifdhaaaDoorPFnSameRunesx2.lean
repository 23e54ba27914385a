/- Printed by a program of this seat (xprint) out of the translation: Go functions as plain functions, and the walks that show them; no condition. -/
import Derived.Test.YthkblefeifdhaaaDoorPFnSameRunesx0
import Derived.Test.YthkblefeifdhaaaDoorPFnSameRunesx1
namespace Go.Proofs.YthkblefeifdhaaaDoor.PFnSameRunes
open Go.RowKit Go.Proofs.YthkblefeifdhaaaDoor.H Go.Proofs.YthkblefeifdhaaaDoor.R Go.Proofs.YthkblefeifdhaaaDoorW.PrintWords Go.Proofs.YthkblefeifdhaaaDoorW.PrintLast Go.Proofs.YthkblefeifdhaaaDoorW.PrintMore
attribute [local go_sem] max2_int min2_int max_two min_two max_three min_three max_four min_four   -- for this text's walks alone
set_option linter.unusedVariables false
set_option linter.unusedSimpArgs false

/-! ### readline_Runes_EqualFold: function 17 -/
def readline_Runes_EqualFold.l0 : Nat → List Int → List Int → Int → Option (Bool)
  | 0, _, _, _ => none
  | k + 1, x1, x2, x7 => if x7 < (x1.length : Int) then (if 0 ≤ x7 then (if x7 < (x2.length : Int) then ((readline_Runes_EqualRuneFold.f k (rd x1 x7) (rd x2 x7)).bind fun t114 => (if t114 = true then (readline_Runes_EqualFold.l0 k x1 x2 (wrap64 (x7 + 1))) else (some false))) else (none)) else (none)) else (some true)
def readline_Runes_EqualFold.f (k : Nat)  (l1 : List Int) (l2 : List Int) : Option (Bool) := if (l1.length : Int) = (l2.length : Int) then (readline_Runes_EqualFold.l0 k l1 l2 0) else (some false)
theorem readline_Runes_EqualFold.mono_l : ∀ k, (∀ y0 y1 y2, LeO (readline_Runes_EqualFold.l0 k y0 y1 y2) (readline_Runes_EqualFold.l0 (k + 1) y0 y1 y2))
  | 0 => fun _ _ _ r h => by simp [readline_Runes_EqualFold.l0] at h
  | k + 1 => by
    have ih0 := readline_Runes_EqualFold.mono_l k
    · intro y0 y1 y2
      unfold readline_Runes_EqualFold.l0
      repeat' first
      | (with_reducible exact ih0 _ _ _)
      | (with_reducible exact readline_Runes_EqualRuneFold.mono _ _ _)
      | (with_reducible exact LeO.refl _)
      | (with_reducible exact LeO.none _)
      | (with_reducible refine LeO.ite ?_ ?_)
      | (with_reducible refine LeO.bind ?_ (fun _ => ?_))
      | exact ih0 _ _ _
      | exact readline_Runes_EqualRuneFold.mono _ _ _
      | exact LeO.none _
      | refine LeO.ite ?_ ?_
      | refine LeO.bind ?_ (fun _ => ?_)
theorem readline_Runes_EqualFold.mono : ∀ a0 a1 k, LeO (readline_Runes_EqualFold.f k a0 a1) (readline_Runes_EqualFold.f (k + 1) a0 a1) := by
  intro a0 a1 k
  have ih0 := readline_Runes_EqualFold.mono_l k
  unfold readline_Runes_EqualFold.f
  repeat' first
      | (with_reducible exact ih0 _ _ _)
      | (with_reducible exact readline_Runes_EqualRuneFold.mono _ _ _)
      | (with_reducible exact LeO.refl _)
      | (with_reducible exact LeO.none _)
      | (with_reducible refine LeO.ite ?_ ?_)
      | (with_reducible refine LeO.bind ?_ (fun _ => ?_))
      | exact ih0 _ _ _
      | exact readline_Runes_EqualRuneFold.mono _ _ _
      | exact LeO.none _
      | refine LeO.ite ?_ ?_
      | refine LeO.bind ?_ (fun _ => ?_)
def readline_Runes_EqualFold.T6 : Bool × List (List Nat × List Nat) := (true, [([], []), ([], []), ([], []), ([1, 2], [1, 2]), ([3], [3]), ([], []), ([], []), ([5, 6], [5, 6]), ([7], [7]), ([0, 4, 8], [0, 4, 8])])
def readline_Runes_EqualFold.B6 : List Nat := [0, 0, 0, 6, 14, 0, 0, 96, 224, 511]
theorem readline_Runes_EqualFold.tab6 : rtab .any (opsOf Tryd.f17 6) = readline_Runes_EqualFold.T6 := by kernel_rfl
theorem readline_Runes_EqualFold.bits6 : waitsOk readline_Runes_EqualFold.T6.2 readline_Runes_EqualFold.B6 = true := by kernel_rfl
set_option maxHeartbeats 8000000 in
set_option maxRecDepth 100000 in
theorem readline_Runes_EqualFold.calls (k : Nat)  (A1 : Option Addr) (c1 : Nat) (l1 : List Int) (A2 : Option Addr) (c2 : Nat) (l2 : List Int) (r : Bool) (w : World) (hr1 : Kd.C (Kd.int .i32) w A1 l1.length l1) (hc1 : l1.length ≤ c1) (hr2 : Kd.C (Kd.int .i32) w A2 l2.length l2) (hc2 : l2.length ≤ c2) (h : readline_Runes_EqualFold.f k l1 l2 = some r) :
    Calls Tryd.prog 17 #[.agg #[], .slice A1 l1.length c1, .slice A2 l2.length c2] w fun e w' => e = .returned (.bool r) ∧ Below w.heap.size w w' := by
  have hu32 := Tryd.underlying32
  have HR1 := Aside0.mk hr1
  have HC1 := Aside0.mk hc1
  clear hr1 hc1
  have HR2 := Aside0.mk hr2
  have HC2 := Aside0.mk hc2
  clear hr2 hc2
  have HB := Aside0.mk (Below.refl w.heap.size w)
  have H : (if (l1.length : Int) = (l2.length : Int) then (readline_Runes_EqualFold.l0 k l1 l2 0) else (some false)) = some r := h
  clear h
  by_cases c4 : (l1.length : Int) = (l2.length : Int)
  · rw [if_pos c4] at H
    have c4b0 : ((l1.length : Int) == (l2.length : Int)) = true := beq_iff_eq.mpr c4
    have c4b1 : ((l1.length : Int) != (l2.length : Int)) = false := bne_eq_false_iff_eq.mpr c4
    have c4b2 : (l1.length == l2.length) = true := by first | simpa using c4 | (simp at c4 ⊢; omega)
    clear c4
    have H' := Aside0.mk H
    clear H
    go_enter Tryd.func17, Tryd.ntmps17
    go_wp2_with (first | ((with_reducible refine gate_dst (N := 3) rfl ?_); refine box_event ?hg (N := 3) ?hd (cs := #[]) (t := 32) ?hr ?_; (case hd => rfl); (case hg => rfl); (case hr => first | (go_simp; done) | (go_simp; rfl)); intro gb111 hg w5 hbox hb; have n0_ := Aside0.mk (below_step (by repeat (first | (with_reducible first | exact HB.out | apply below_alloc | apply pw_below_drewN | apply below_drew1) | exact HB.out)) hb); have n1_ := Aside0.mk (hbox); have n2_ := Aside0.mk ((by rw [hg]; exact (below_size (by repeat (first | (with_reducible first | exact HB.out | apply below_alloc | apply pw_below_drewN | apply below_drew1) | exact HB.out))) : w.heap.size ≤ gb111)); have n3_ := Aside0.mk ((by rw [hg]; exact (below_size (by repeat (first | (with_reducible first | exact HB.out | apply below_alloc | apply pw_below_drewN | apply below_drew1) | exact HB.out))) : w.heap.size ≤ gb111)); clear HB; have HB := n0_; have BK111 := n1_; have GW111 := n2_; have GE111 := n3_; clear n0_ n1_ n2_ n3_; clear hb hbox hg))
    go_loopg [7] k (fun kq v7 w' => ∃ (x7_1 : Int), v7 = .int .i64 x7_1 ∧ Aside0 (readline_Runes_EqualFold.l0 kq l1 l2 x7_1 = some r) ∧ Aside0 (kq ≤ k) ∧ Aside0 (w'.heap[gb111]? = some (.cells #[] 32 (0, 0))) ∧ Aside0 (Below w.heap.size w w'))
    case atStart => exact ⟨(0), (by first | rfl | (simp; done) | (simp [*]; done)), H', ⟨Nat.le_refl _⟩, ⟨by (with_reducible repeat (first | refine blk_drewN ?_ _ | refine blk_drew ?_ | refine blk_alloc ?_ _)); exact BK111.out⟩, ⟨by repeat (first | (with_reducible first | exact HB.out | apply below_alloc | apply pw_below_drewN | apply below_drew1 | refine below_set ?_ GE111.out) | exact HB.out)⟩⟩
    case round =>
      clear H'
      try clear c1
      try clear c2
      try clear p2
      try clear c4
      try clear c4b0
      try clear c4b1
      try clear c4b2
      obtain ⟨x7_1, rfl, HA, HK1, BK111, HB⟩ := hrel
      cases gk with
      | zero => exact absurd HA.out (by simp [readline_Runes_EqualFold.l0])
      | succ k1 =>
        have H := HA.out
        clear HA
        simp only [readline_Runes_EqualFold.l0] at H
        by_cases c6 : x7_1 < (l1.length : Int)
        · rw [if_pos c6] at H
          have c6b0 : decide (x7_1 < (l1.length : Int)) = true := decide_eq_true c6
          clear c6
          by_cases c7 : 0 ≤ x7_1
          · rw [if_pos c7] at H
            have c7b0 : decide (0 ≤ x7_1) = true := decide_eq_true c7
            clear c7
            by_cases c8 : x7_1 < (l2.length : Int)
            · rw [if_pos c8] at H
              have c8b0 : decide (x7_1 < (l2.length : Int)) = true := decide_eq_true c8
              clear c8
              replace H := Option.bind_eq_some_iff.mp H
              obtain ⟨t114, A90, H⟩ := H
              replace H : (if t114 = true then (readline_Runes_EqualFold.l0 k1 l1 l2 (wrap64 (x7_1 + 1))) else (some false)) = some r := H
              have A9 := Aside0.mk A90
              clear A90
              by_cases c10 : t114 = true
              · subst c10
                have H1 : (readline_Runes_EqualFold.l0 k1 l1 l2 (wrap64 (x7_1 + 1))) = some r := by rw [if_pos rfl] at H; exact H
                clear H
                have H := H1
                clear H1
                have H' := Aside0.mk H
                clear H
                try go_wp2
                have n0_ := Aside0.mk (blk_drew BK111.out)
                have n1_ := Aside0.mk (below_drew1 HB.out)
                clear BK111
                clear HB
                have BK111 := n0_
                have HB := n1_
                clear n0_ n1_
                have p112 : 0 ≤ (x7_1 : Int) := of_decide_eq_true (by first | (with_reducible assumption) | assumption)
                have q112 : x7_1 < (l1.length : Int) := of_decide_eq_true (by first | (with_reducible assumption) | assumption)
                obtain ⟨ad112, e112, hx112_0⟩ := Kd.at_int HR1.out x7_1 p112 q112
                have hw112_0 := hx112_0
                cases e112
                replace hx112_0 := (HB.out.cell (World.block_lt_of_cell? w _ hx112_0)).trans hx112_0
                replace p112 := eq_true p112
                replace q112 := eq_true q112
                have p113 : 0 ≤ (x7_1 : Int) := of_decide_eq_true (by first | (with_reducible assumption) | assumption)
                have q113 : x7_1 < (l2.length : Int) := of_decide_eq_true (by first | (with_reducible assumption) | assumption)
                obtain ⟨ad113, e113, hx113_0⟩ := Kd.at_int HR2.out x7_1 p113 q113
                have hw113_0 := hx113_0
                cases e113
                replace hx113_0 := (HB.out.cell (World.block_lt_of_cell? w _ hx113_0)).trans hx113_0
                replace p113 := eq_true p113
                replace q113 := eq_true q113
                refine start_ (n := 10) (S := fun w' => w'.cell? (ad112.add (x7_1).toNat) = some (.int .i32 (rd l1 x7_1)) ∧ w'.cell? (ad113.add (x7_1).toNat) = some (.int .i32 (rd l2 x7_1))) (ds := []) #[false, false, false, false, false, false, false, false, false, false] (by kernel_rfl) rfl rfl ⟨((HB.out.cell (World.block_lt_of_cell? w _ hw112_0)).trans hw112_0), ((HB.out.cell (World.block_lt_of_cell? w _ hw113_0)).trans hw113_0)⟩ (fun hHeld => ?_); refine with_tabW readline_Runes_EqualFold.tab6 readline_Runes_EqualFold.bits6 (fun HT_ HW_ => ?_)
                generalize wr.drew = w11 at BK111 HB hx112_0 hx113_0 hHeld ⊢
                refine pure_ (i := 1) (N := some 20) (v := ?_) (a' := ?_) #[false, true, false, false, false, false, false, false, false, false] rfl rfl (any_of HT_.out (by kernel_rfl)) (fun _ _ _ h => h) (Or.inl ⟨by rfl, ?_⟩) ?_ ?_
                rotate_left
                · intro w'
                  go_simp
                  with_reducible rfl
                rotate_left
                · simp only [Act.put, List.setIfInBounds_toArray, List.set_cons_zero, List.set_cons_succ, i64_w, i32_w]
                  rfl
                refine pure_ (i := 2) (N := some 21) (v := ?_) (a' := ?_) #[false, true, true, false, false, false, false, false, false, false] rfl rfl (any_of HT_.out (by kernel_rfl)) (fun _ _ _ h => h) (Or.inl ⟨by rfl, ?_⟩) ?_ ?_
                rotate_left
                · intro w'
                  go_simp
                  with_reducible rfl
                rotate_left
                · simp only [Act.put, List.setIfInBounds_toArray, List.set_cons_zero, List.set_cons_succ, i64_w, i32_w]
                  rfl
                refine pure_ (i := 3) (N := some 22) (v := ?_) (a' := ?_) #[false, true, true, true, false, false, false, false, false, false] rfl rfl (any_of HT_.out (by kernel_rfl)) (fun _ _ _ h => h) (Or.inl ⟨by rfl, ?_⟩) ?_ ?_
                rotate_left
                · intro w'
                  go_simp
                  with_reducible rfl
                rotate_left
                · simp only [Act.put, List.setIfInBounds_toArray, List.set_cons_zero, List.set_cons_succ, i64_w, i32_w]
                  rfl
                refine pure_ (i := 5) (N := some 24) (v := ?_) (a' := ?_) #[false, true, true, true, false, true, false, false, false, false] rfl rfl (any_of HT_.out (by kernel_rfl)) (fun _ _ _ h => h) (Or.inl ⟨by rfl, ?_⟩) ?_ ?_
                rotate_left
                · intro w'
                  go_simp
                  with_reducible rfl
                rotate_left
                · simp only [Act.put, List.setIfInBounds_toArray, List.set_cons_zero, List.set_cons_succ, i64_w, i32_w]
                  rfl
                refine pure_ (i := 6) (N := some 25) (v := ?_) (a' := ?_) #[false, true, true, true, false, true, true, false, false, false] rfl rfl (any_of HT_.out (by kernel_rfl)) (fun _ _ _ h => h) (Or.inl ⟨by rfl, ?_⟩) ?_ ?_
                rotate_left
                · intro w'
                  go_simp
                  with_reducible rfl
                rotate_left
                · simp only [Act.put, List.setIfInBounds_toArray, List.set_cons_zero, List.set_cons_succ, i64_w, i32_w]
                  rfl
                refine pure_ (i := 7) (N := some 26) (v := ?_) (a' := ?_) #[false, true, true, true, false, true, true, true, false, false] rfl rfl (any_of HT_.out (by kernel_rfl)) (fun _ _ _ h => h) (Or.inl ⟨by rfl, ?_⟩) ?_ ?_
                rotate_left
                · intro w'
                  go_simp
                  with_reducible rfl
                rotate_left
                · simp only [Act.put, List.setIfInBounds_toArray, List.set_cons_zero, List.set_cons_succ, i64_w, i32_w]
                  rfl
                refine take_ (i := 0) (N := some 19) (v := ?_) (a' := ?_) #[true, true, true, true, false, true, true, true, false, false] rfl rfl (take_ofW HT_.out HW_.out (by kernel_rfl)) (fun _ _ _ h => h) (Or.inl ⟨by rfl, ?_⟩) hHeld ?_ ?_
                rotate_left
                · rintro w' ⟨s0, s1⟩
                  go_simp
                  with_reducible rfl
                rotate_left
                · simp only [Act.put, List.setIfInBounds_toArray, List.set_cons_zero, List.set_cons_succ, i64_w, i32_w]
                  rfl
                refine take_ (i := 4) (N := some 23) (v := ?_) (a' := ?_) #[true, true, true, true, true, true, true, true, false, false] rfl rfl (take_ofW HT_.out HW_.out (by kernel_rfl)) (fun _ _ _ h => h) (Or.inl ⟨by rfl, ?_⟩) hHeld ?_ ?_
                rotate_left
                · rintro w' ⟨s0, s1⟩
                  go_simp
                  with_reducible rfl
                rotate_left
                · simp only [Act.put, List.setIfInBounds_toArray, List.set_cons_zero, List.set_cons_succ, i64_w, i32_w]
                  rfl
                refine take_ (i := 8) (N := some 27) (v := ?_) (a' := ?_) #[true, true, true, true, true, true, true, true, true, false] rfl rfl (take_ofW HT_.out HW_.out (by kernel_rfl)) (fun _ _ _ h => h) (Or.inl ⟨by rfl, ?_⟩) hHeld ?_ ?_
                rotate_left
                · rintro w' ⟨s0, s1⟩
                  go_simp
                  with_reducible rfl
                rotate_left
                · simp only [Act.put, List.setIfInBounds_toArray, List.set_cons_zero, List.set_cons_succ, i64_w, i32_w]
                  rfl
                refine one_ (i := 9) (N := some 28) #[true, true, true, true, true, true, true, true, true, true] rfl rfl (one_of HT_.out (by kernel_rfl)) (by decide) (fun K hK => ?_)
                refine goes_ Tryd.func23 (by kernel_rfl) rfl #[.agg #[], .int .i32 (rd l1 x7_1), .int .i32 (rd l2 x7_1)] (by rfl) rfl rfl (by (try simp only [List.map_toArray, List.map_cons, List.map_nil]); first | done | rfl | (simp only [List.length_drop, List.length_take]; rfl)) ?_
                with_reducible refine (readline_Runes_EqualRuneFold.calls k1  (rd l1 x7_1) (rd l2 x7_1) true _ A9.out).mono ?_
                rintro e w12 ⟨rfl, hb⟩
                refine ⟨_, rfl, ?_⟩
                have n0_ := Aside0.mk (blk_below (g := gb111) (o := .cells #[] 32 (0, 0)) (by (with_reducible repeat (first | refine blk_drewN ?_ _ | refine blk_drew ?_ | refine blk_alloc ?_ _)); exact BK111.out) hb)
                have n1_ := Aside0.mk (below_step (by repeat (first | (with_reducible first | exact HB.out | apply below_alloc | apply pw_below_drewN | apply below_drew1 | refine below_set ?_ GE111.out) | exact HB.out)) hb)
                clear BK111
                clear HB
                have BK111 := n0_
                have HB := n1_
                clear n0_ n1_
                (try clear hb)
                (try clear hb2)
                (try clear hk)
                (try clear hi)
                refine hK.out _ _ ⟨((HB.out.cell (World.block_lt_of_cell? w _ hw112_0)).trans hw112_0), ((HB.out.cell (World.block_lt_of_cell? w _ hw113_0)).trans hw113_0)⟩ (fun hHeld => ?_)
                clear hK K
                refine norm_ (a' := ?_) ?_ ?_
                rotate_left
                · show Act.put _ (some 28) _ = _
                  simp only [Act.put, List.setIfInBounds_toArray, List.set_cons_zero, List.set_cons_succ, i64_w, i32_w]
                  rfl
                refine done_ (done_of HT_.out (by kernel_rfl)) ?_
                try go_wp2
                go_roundg k1
                case measure => have := HK1.out; omega
                case rel => exact ⟨(wrap64 (x7_1 + 1)), (by first | rfl | (simp; done) | (simp [*]; done)), H', ⟨by have := HK1.out; omega⟩, ⟨by (with_reducible repeat (first | refine blk_drewN ?_ _ | refine blk_drew ?_ | refine blk_alloc ?_ _)); exact BK111.out⟩, ⟨by repeat (first | (with_reducible first | exact HB.out | apply below_alloc | apply pw_below_drewN | apply below_drew1 | refine below_set ?_ GE111.out) | exact HB.out)⟩⟩
              · replace c10 := Bool.eq_false_iff.mpr c10
                subst c10
                have H1 : (some false) = some r := by rw [if_neg (show ¬ (false = true) by decide)] at H; exact H
                clear H
                have H := H1
                clear H1
                obtain rfl := Option.some.inj H
                try go_wp2
                have n0_ := Aside0.mk (blk_drew BK111.out)
                have n1_ := Aside0.mk (below_drew1 HB.out)
                clear BK111
                clear HB
                have BK111 := n0_
                have HB := n1_
                clear n0_ n1_
                have p112 : 0 ≤ (x7_1 : Int) := of_decide_eq_true (by first | (with_reducible assumption) | assumption)
                have q112 : x7_1 < (l1.length : Int) := of_decide_eq_true (by first | (with_reducible assumption) | assumption)
                obtain ⟨ad112, e112, hx112_0⟩ := Kd.at_int HR1.out x7_1 p112 q112
                have hw112_0 := hx112_0
                cases e112
                replace hx112_0 := (HB.out.cell (World.block_lt_of_cell? w _ hx112_0)).trans hx112_0
                replace p112 := eq_true p112
                replace q112 := eq_true q112
                have p113 : 0 ≤ (x7_1 : Int) := of_decide_eq_true (by first | (with_reducible assumption) | assumption)
                have q113 : x7_1 < (l2.length : Int) := of_decide_eq_true (by first | (with_reducible assumption) | assumption)
                obtain ⟨ad113, e113, hx113_0⟩ := Kd.at_int HR2.out x7_1 p113 q113
                have hw113_0 := hx113_0
                cases e113
                replace hx113_0 := (HB.out.cell (World.block_lt_of_cell? w _ hx113_0)).trans hx113_0
                replace p113 := eq_true p113
                replace q113 := eq_true q113
                refine start_ (n := 10) (S := fun w' => w'.cell? (ad112.add (x7_1).toNat) = some (.int .i32 (rd l1 x7_1)) ∧ w'.cell? (ad113.add (x7_1).toNat) = some (.int .i32 (rd l2 x7_1))) (ds := []) #[false, false, false, false, false, false, false, false, false, false] (by kernel_rfl) rfl rfl ⟨((HB.out.cell (World.block_lt_of_cell? w _ hw112_0)).trans hw112_0), ((HB.out.cell (World.block_lt_of_cell? w _ hw113_0)).trans hw113_0)⟩ (fun hHeld => ?_); refine with_tabW readline_Runes_EqualFold.tab6 readline_Runes_EqualFold.bits6 (fun HT_ HW_ => ?_)
                generalize wr.drew = w13 at BK111 HB hx112_0 hx113_0 hHeld ⊢
                refine pure_ (i := 1) (N := some 20) (v := ?_) (a' := ?_) #[false, true, false, false, false, false, false, false, false, false] rfl rfl (any_of HT_.out (by kernel_rfl)) (fun _ _ _ h => h) (Or.inl ⟨by rfl, ?_⟩) ?_ ?_
                rotate_left
                · intro w'
                  go_simp
                  with_reducible rfl
                rotate_left
                · simp only [Act.put, List.setIfInBounds_toArray, List.set_cons_zero, List.set_cons_succ, i64_w, i32_w]
                  rfl
                refine pure_ (i := 2) (N := some 21) (v := ?_) (a' := ?_) #[false, true, true, false, false, false, false, false, false, false] rfl rfl (any_of HT_.out (by kernel_rfl)) (fun _ _ _ h => h) (Or.inl ⟨by rfl, ?_⟩) ?_ ?_
                rotate_left
                · intro w'
                  go_simp
                  with_reducible rfl
                rotate_left
                · simp only [Act.put, List.setIfInBounds_toArray, List.set_cons_zero, List.set_cons_succ, i64_w, i32_w]
                  rfl
                refine pure_ (i := 3) (N := some 22) (v := ?_) (a' := ?_) #[false, true, true, true, false, false, false, false, false, false] rfl rfl (any_of HT_.out (by kernel_rfl)) (fun _ _ _ h => h) (Or.inl ⟨by rfl, ?_⟩) ?_ ?_
                rotate_left
                · intro w'
                  go_simp
                  with_reducible rfl
                rotate_left
                · simp only [Act.put, List.setIfInBounds_toArray, List.set_cons_zero, List.set_cons_succ, i64_w, i32_w]
                  rfl
                refine pure_ (i := 5) (N := some 24) (v := ?_) (a' := ?_) #[false, true, true, true, false, true, false, false, false, false] rfl rfl (any_of HT_.out (by kernel_rfl)) (fun _ _ _ h => h) (Or.inl ⟨by rfl, ?_⟩) ?_ ?_
                rotate_left
                · intro w'
                  go_simp
                  with_reducible rfl
                rotate_left
                · simp only [Act.put, List.setIfInBounds_toArray, List.set_cons_zero, List.set_cons_succ, i64_w, i32_w]
                  rfl
                refine pure_ (i := 6) (N := some 25) (v := ?_) (a' := ?_) #[false, true, true, true, false, true, true, false, false, false] rfl rfl (any_of HT_.out (by kernel_rfl)) (fun _ _ _ h => h) (Or.inl ⟨by rfl, ?_⟩) ?_ ?_
                rotate_left
                · intro w'
                  go_simp
                  with_reducible rfl
                rotate_left
                · simp only [Act.put, List.setIfInBounds_toArray, List.set_cons_zero, List.set_cons_succ, i64_w, i32_w]
                  rfl
                refine pure_ (i := 7) (N := some 26) (v := ?_) (a' := ?_) #[false, true, true, true, false, true, true, true, false, false] rfl rfl (any_of HT_.out (by kernel_rfl)) (fun _ _ _ h => h) (Or.inl ⟨by rfl, ?_⟩) ?_ ?_
                rotate_left
                · intro w'
                  go_simp
                  with_reducible rfl
                rotate_left
                · simp only [Act.put, List.setIfInBounds_toArray, List.set_cons_zero, List.set_cons_succ, i64_w, i32_w]
                  rfl
                refine take_ (i := 0) (N := some 19) (v := ?_) (a' := ?_) #[true, true, true, true, false, true, true, true, false, false] rfl rfl (take_ofW HT_.out HW_.out (by kernel_rfl)) (fun _ _ _ h => h) (Or.inl ⟨by rfl, ?_⟩) hHeld ?_ ?_
                rotate_left
                · rintro w' ⟨s0, s1⟩
                  go_simp
                  with_reducible rfl
                rotate_left
                · simp only [Act.put, List.setIfInBounds_toArray, List.set_cons_zero, List.set_cons_succ, i64_w, i32_w]
                  rfl
                refine take_ (i := 4) (N := some 23) (v := ?_) (a' := ?_) #[true, true, true, true, true, true, true, true, false, false] rfl rfl (take_ofW HT_.out HW_.out (by kernel_rfl)) (fun _ _ _ h => h) (Or.inl ⟨by rfl, ?_⟩) hHeld ?_ ?_
                rotate_left
                · rintro w' ⟨s0, s1⟩
                  go_simp
                  with_reducible rfl
                rotate_left
                · simp only [Act.put, List.setIfInBounds_toArray, List.set_cons_zero, List.set_cons_succ, i64_w, i32_w]
                  rfl
                refine take_ (i := 8) (N := some 27) (v := ?_) (a' := ?_) #[true, true, true, true, true, true, true, true, true, false] rfl rfl (take_ofW HT_.out HW_.out (by kernel_rfl)) (fun _ _ _ h => h) (Or.inl ⟨by rfl, ?_⟩) hHeld ?_ ?_
                rotate_left
                · rintro w' ⟨s0, s1⟩
                  go_simp
                  with_reducible rfl
                rotate_left
                · simp only [Act.put, List.setIfInBounds_toArray, List.set_cons_zero, List.set_cons_succ, i64_w, i32_w]
                  rfl
                refine one_ (i := 9) (N := some 28) #[true, true, true, true, true, true, true, true, true, true] rfl rfl (one_of HT_.out (by kernel_rfl)) (by decide) (fun K hK => ?_)
                refine goes_ Tryd.func23 (by kernel_rfl) rfl #[.agg #[], .int .i32 (rd l1 x7_1), .int .i32 (rd l2 x7_1)] (by rfl) rfl rfl (by (try simp only [List.map_toArray, List.map_cons, List.map_nil]); first | done | rfl | (simp only [List.length_drop, List.length_take]; rfl)) ?_
                with_reducible refine (readline_Runes_EqualRuneFold.calls k1  (rd l1 x7_1) (rd l2 x7_1) false _ A9.out).mono ?_
                rintro e w14 ⟨rfl, hb⟩
                refine ⟨_, rfl, ?_⟩
                have n0_ := Aside0.mk (blk_below (g := gb111) (o := .cells #[] 32 (0, 0)) (by (with_reducible repeat (first | refine blk_drewN ?_ _ | refine blk_drew ?_ | refine blk_alloc ?_ _)); exact BK111.out) hb)
                have n1_ := Aside0.mk (below_step (by repeat (first | (with_reducible first | exact HB.out | apply below_alloc | apply pw_below_drewN | apply below_drew1 | refine below_set ?_ GE111.out) | exact HB.out)) hb)
                clear BK111
                clear HB
                have BK111 := n0_
                have HB := n1_
                clear n0_ n1_
                (try clear hb)
                (try clear hb2)
                (try clear hk)
                (try clear hi)
                refine hK.out _ _ ⟨((HB.out.cell (World.block_lt_of_cell? w _ hw112_0)).trans hw112_0), ((HB.out.cell (World.block_lt_of_cell? w _ hw113_0)).trans hw113_0)⟩ (fun hHeld => ?_)
                clear hK K
                refine norm_ (a' := ?_) ?_ ?_
                rotate_left
                · show Act.put _ (some 28) _ = _
                  simp only [Act.put, List.setIfInBounds_toArray, List.set_cons_zero, List.set_cons_succ, i64_w, i32_w]
                  rfl
                refine done_ (done_of HT_.out (by kernel_rfl)) ?_
                try go_wp2
                go_ret
                exact ⟨by first | rfl | (simp [errW_none, errW_some] <;> rfl) | (simp [*, errW_none, errW_some] <;> rfl), by repeat (first | (with_reducible first | exact HB.out | apply below_alloc | apply pw_below_drewN | apply below_drew1 | refine below_set ?_ GE111.out) | exact HB.out)⟩
            · rw [if_neg c8] at H
              exact absurd H (by simp)
          · rw [if_neg c7] at H
            exact absurd H (by simp)
        · rw [if_neg c6] at H
          have c6b0 : decide (x7_1 < (l1.length : Int)) = false := decide_eq_false c6
          clear c6
          obtain rfl := Option.some.inj H
          go_wp2
          go_ret
          exact ⟨by first | rfl | (simp [errW_none, errW_some] <;> rfl) | (simp [*, errW_none, errW_some] <;> rfl), by repeat (first | (with_reducible first | exact HB.out | apply below_alloc | apply pw_below_drewN | apply below_drew1 | refine below_set ?_ GE111.out) | exact HB.out)⟩
  · rw [if_neg c4] at H
    have c4b0 : ((l1.length : Int) == (l2.length : Int)) = false := beq_eq_false_iff_ne.mpr c4
    have c4b1 : ((l1.length : Int) != (l2.length : Int)) = true := bne_iff_ne.mpr c4
    have c4b2 : (l1.length == l2.length) = false := by first | simpa using c4 | (simp at c4 ⊢; omega)
    obtain rfl := Option.some.inj H
    go_enter Tryd.func17, Tryd.ntmps17
    go_wp2_with (first | ((with_reducible refine gate_dst (N := 3) rfl ?_); refine box_event ?hg (N := 3) ?hd (cs := #[]) (t := 32) ?hr ?_; (case hd => rfl); (case hg => rfl); (case hr => first | (go_simp; done) | (go_simp; rfl)); intro gb111 hg w15 hbox hb; have n0_ := Aside0.mk (below_step (by repeat (first | (with_reducible first | exact HB.out | apply below_alloc | apply pw_below_drewN | apply below_drew1) | exact HB.out)) hb); have n1_ := Aside0.mk (hbox); have n2_ := Aside0.mk ((by rw [hg]; exact (below_size (by repeat (first | (with_reducible first | exact HB.out | apply below_alloc | apply pw_below_drewN | apply below_drew1) | exact HB.out))) : w.heap.size ≤ gb111)); have n3_ := Aside0.mk ((by rw [hg]; exact (below_size (by repeat (first | (with_reducible first | exact HB.out | apply below_alloc | apply pw_below_drewN | apply below_drew1) | exact HB.out))) : w.heap.size ≤ gb111)); clear HB; have HB := n0_; have BK111 := n1_; have GW111 := n2_; have GE111 := n3_; clear n0_ n1_ n2_ n3_; clear hb hbox hg))
    go_ret
    exact ⟨by first | rfl | (simp [errW_none, errW_some] <;> rfl) | (simp [*, errW_none, errW_some] <;> rfl), by repeat (first | (with_reducible first | exact HB.out | apply below_alloc | apply pw_below_drewN | apply below_drew1 | refine below_set ?_ GE111.out) | exact HB.out)⟩

/-! ### readline_Runes_Equal: function 18 -/
def readline_Runes_Equal.l0 : Nat → List Int → List Int → Int → Option (Bool)
  | 0, _, _, _ => none
  | k + 1, x1, x2, x7 => if x7 < (x1.length : Int) then (if 0 ≤ x7 then (if x7 < (x2.length : Int) then (if (rd x1 x7) = (rd x2 x7) then (readline_Runes_Equal.l0 k x1 x2 (wrap64 (x7 + 1))) else (some false)) else (none)) else (none)) else (some true)
def readline_Runes_Equal.f (k : Nat)  (l1 : List Int) (l2 : List Int) : Option (Bool) := if (l1.length : Int) = (l2.length : Int) then (readline_Runes_Equal.l0 k l1 l2 0) else (some false)
theorem readline_Runes_Equal.mono_l : ∀ k, (∀ y0 y1 y2, LeO (readline_Runes_Equal.l0 k y0 y1 y2) (readline_Runes_Equal.l0 (k + 1) y0 y1 y2))
  | 0 => fun _ _ _ r h => by simp [readline_Runes_Equal.l0] at h
  | k + 1 => by
    have ih0 := readline_Runes_Equal.mono_l k
    · intro y0 y1 y2
      unfold readline_Runes_Equal.l0
      repeat' first
      | (with_reducible exact ih0 _ _ _)
      | (with_reducible exact LeO.refl _)
      | (with_reducible exact LeO.none _)
      | (with_reducible refine LeO.ite ?_ ?_)
      | (with_reducible refine LeO.bind ?_ (fun _ => ?_))
      | exact ih0 _ _ _
      | exact LeO.none _
      | refine LeO.ite ?_ ?_
      | refine LeO.bind ?_ (fun _ => ?_)
theorem readline_Runes_Equal.mono : ∀ a0 a1 k, LeO (readline_Runes_Equal.f k a0 a1) (readline_Runes_Equal.f (k + 1) a0 a1) := by
  intro a0 a1 k
  have ih0 := readline_Runes_Equal.mono_l k
  unfold readline_Runes_Equal.f
  repeat' first
      | (with_reducible exact ih0 _ _ _)
      | (with_reducible exact LeO.refl _)
      | (with_reducible exact LeO.none _)
      | (with_reducible refine LeO.ite ?_ ?_)
      | (with_reducible refine LeO.bind ?_ (fun _ => ?_))
      | exact ih0 _ _ _
      | exact LeO.none _
      | refine LeO.ite ?_ ?_
      | refine LeO.bind ?_ (fun _ => ?_)
set_option maxHeartbeats 8000000 in
set_option maxRecDepth 100000 in
theorem readline_Runes_Equal.calls (k : Nat)  (A1 : Option Addr) (c1 : Nat) (l1 : List Int) (A2 : Option Addr) (c2 : Nat) (l2 : List Int) (r : Bool) (w : World) (hr1 : Kd.C (Kd.int .i32) w A1 l1.length l1) (hc1 : l1.length ≤ c1) (hr2 : Kd.C (Kd.int .i32) w A2 l2.length l2) (hc2 : l2.length ≤ c2) (h : readline_Runes_Equal.f k l1 l2 = some r) :
    Calls Tryd.prog 18 #[.agg #[], .slice A1 l1.length c1, .slice A2 l2.length c2] w fun e w' => e = .returned (.bool r) ∧ Below w.heap.size w w' := by
  have hu32 := Tryd.underlying32
  have HR1 := Aside0.mk hr1
  have HC1 := Aside0.mk hc1
  clear hr1 hc1
  have HR2 := Aside0.mk hr2
  have HC2 := Aside0.mk hc2
  clear hr2 hc2
  have HB := Aside0.mk (Below.refl w.heap.size w)
  have H : (if (l1.length : Int) = (l2.length : Int) then (readline_Runes_Equal.l0 k l1 l2 0) else (some false)) = some r := h
  clear h
  by_cases c4 : (l1.length : Int) = (l2.length : Int)
  · rw [if_pos c4] at H
    have c4b0 : ((l1.length : Int) == (l2.length : Int)) = true := beq_iff_eq.mpr c4
    have c4b1 : ((l1.length : Int) != (l2.length : Int)) = false := bne_eq_false_iff_eq.mpr c4
    have c4b2 : (l1.length == l2.length) = true := by first | simpa using c4 | (simp at c4 ⊢; omega)
    clear c4
    have H' := Aside0.mk H
    clear H
    go_enter Tryd.func18, Tryd.ntmps18
    go_wp2_with (first | ((with_reducible refine gate_dst (N := 3) rfl ?_); refine box_event ?hg (N := 3) ?hd (cs := #[]) (t := 32) ?hr ?_; (case hd => rfl); (case hg => rfl); (case hr => first | (go_simp; done) | (go_simp; rfl)); intro gb115 hg w5 hbox hb; have n0_ := Aside0.mk (below_step (by repeat (first | (with_reducible first | exact HB.out | apply below_alloc | apply pw_below_drewN | apply below_drew1) | exact HB.out)) hb); have n1_ := Aside0.mk (hbox); have n2_ := Aside0.mk ((by rw [hg]; exact (below_size (by repeat (first | (with_reducible first | exact HB.out | apply below_alloc | apply pw_below_drewN | apply below_drew1) | exact HB.out))) : w.heap.size ≤ gb115)); have n3_ := Aside0.mk ((by rw [hg]; exact (below_size (by repeat (first | (with_reducible first | exact HB.out | apply below_alloc | apply pw_below_drewN | apply below_drew1) | exact HB.out))) : w.heap.size ≤ gb115)); clear HB; have HB := n0_; have BK115 := n1_; have GW115 := n2_; have GE115 := n3_; clear n0_ n1_ n2_ n3_; clear hb hbox hg))
    repeat (go_quiet (first | ((with_reducible refine gate_dst (N := 3) rfl ?_); refine box_event ?hg (N := 3) ?hd (cs := #[]) (t := 32) ?hr ?_; (case hd => rfl); (case hg => rfl); (case hr => first | (go_simp; done) | (go_simp; rfl)); intro gb115 hg w5 hbox hb; have n0_ := Aside0.mk (below_step (by repeat (first | (with_reducible first | exact HB.out | apply below_alloc | apply pw_below_drewN | apply below_drew1) | exact HB.out)) hb); have n1_ := Aside0.mk (hbox); have n2_ := Aside0.mk ((by rw [hg]; exact (below_size (by repeat (first | (with_reducible first | exact HB.out | apply below_alloc | apply pw_below_drewN | apply below_drew1) | exact HB.out))) : w.heap.size ≤ gb115)); have n3_ := Aside0.mk ((by rw [hg]; exact (below_size (by repeat (first | (with_reducible first | exact HB.out | apply below_alloc | apply pw_below_drewN | apply below_drew1) | exact HB.out))) : w.heap.size ≤ gb115)); clear HB; have HB := n0_; have BK115 := n1_; have GW115 := n2_; have GE115 := n3_; clear n0_ n1_ n2_ n3_; clear hb hbox hg)); try go_wp2_with (first | ((with_reducible refine gate_dst (N := 3) rfl ?_); refine box_event ?hg (N := 3) ?hd (cs := #[]) (t := 32) ?hr ?_; (case hd => rfl); (case hg => rfl); (case hr => first | (go_simp; done) | (go_simp; rfl)); intro gb115 hg w5 hbox hb; have n0_ := Aside0.mk (below_step (by repeat (first | (with_reducible first | exact HB.out | apply below_alloc | apply pw_below_drewN | apply below_drew1) | exact HB.out)) hb); have n1_ := Aside0.mk (hbox); have n2_ := Aside0.mk ((by rw [hg]; exact (below_size (by repeat (first | (with_reducible first | exact HB.out | apply below_alloc | apply pw_below_drewN | apply below_drew1) | exact HB.out))) : w.heap.size ≤ gb115)); have n3_ := Aside0.mk ((by rw [hg]; exact (below_size (by repeat (first | (with_reducible first | exact HB.out | apply below_alloc | apply pw_below_drewN | apply below_drew1) | exact HB.out))) : w.heap.size ≤ gb115)); clear HB; have HB := n0_; have BK115 := n1_; have GW115 := n2_; have GE115 := n3_; clear n0_ n1_ n2_ n3_; clear hb hbox hg)))
    go_loopg [7] k (fun kq v7 w' => ∃ (x7_1 : Int), v7 = .int .i64 x7_1 ∧ Aside0 (readline_Runes_Equal.l0 kq l1 l2 x7_1 = some r) ∧ Aside0 (kq ≤ k) ∧ Aside0 (w'.heap[gb115]? = some (.cells #[] 32 (0, 0))) ∧ Aside0 (Below w.heap.size w w'))
    case atStart => exact ⟨(0), (by first | rfl | (simp; done) | (simp [*]; done)), H', ⟨Nat.le_refl _⟩, ⟨by (with_reducible repeat (first | refine blk_drewN ?_ _ | refine blk_drew ?_ | refine blk_alloc ?_ _)); exact BK115.out⟩, ⟨by repeat (first | (with_reducible first | exact HB.out | apply below_alloc | apply pw_below_drewN | apply below_drew1 | refine below_set ?_ GE115.out) | exact HB.out)⟩⟩
    case round =>
      clear H'
      try clear c1
      try clear c2
      try clear p2
      try clear c4
      try clear c4b0
      try clear c4b1
      try clear c4b2
      obtain ⟨x7_1, rfl, HA, HK1, BK115, HB⟩ := hrel
      cases gk with
      | zero => exact absurd HA.out (by simp [readline_Runes_Equal.l0])
      | succ k1 =>
        have H := HA.out
        clear HA
        simp only [readline_Runes_Equal.l0] at H
        by_cases c6 : x7_1 < (l1.length : Int)
        · rw [if_pos c6] at H
          have c6b0 : decide (x7_1 < (l1.length : Int)) = true := decide_eq_true c6
          clear c6
          by_cases c7 : 0 ≤ x7_1
          · rw [if_pos c7] at H
            have c7b0 : decide (0 ≤ x7_1) = true := decide_eq_true c7
            clear c7
            by_cases c8 : x7_1 < (l2.length : Int)
            · rw [if_pos c8] at H
              have c8b0 : decide (x7_1 < (l2.length : Int)) = true := decide_eq_true c8
              clear c8
              by_cases c9 : (rd l1 x7_1) = (rd l2 x7_1)
              · rw [if_pos c9] at H
                have c9b0 : ((rd l1 x7_1) == (rd l2 x7_1)) = true := beq_iff_eq.mpr c9
                have c9b1 : ((rd l1 x7_1) != (rd l2 x7_1)) = false := bne_eq_false_iff_eq.mpr c9
                clear c9
                have H' := Aside0.mk H
                clear H
                have p116 : 0 ≤ (x7_1 : Int) := of_decide_eq_true (by first | (with_reducible assumption) | assumption)
                have q116 : x7_1 < (l1.length : Int) := of_decide_eq_true (by first | (with_reducible assumption) | assumption)
                obtain ⟨ad116, e116, hx116_0⟩ := Kd.at_int HR1.out x7_1 p116 q116
                cases e116
                replace hx116_0 := (HB.out.cell (World.block_lt_of_cell? w _ hx116_0)).trans hx116_0
                replace p116 := eq_true p116
                replace q116 := eq_true q116
                have p117 : 0 ≤ (x7_1 : Int) := of_decide_eq_true (by first | (with_reducible assumption) | assumption)
                have q117 : x7_1 < (l2.length : Int) := of_decide_eq_true (by first | (with_reducible assumption) | assumption)
                obtain ⟨ad117, e117, hx117_0⟩ := Kd.at_int HR2.out x7_1 p117 q117
                cases e117
                replace hx117_0 := (HB.out.cell (World.block_lt_of_cell? w _ hx117_0)).trans hx117_0
                replace p117 := eq_true p117
                replace q117 := eq_true q117
                go_wp2
                repeat (go_quiet (fail); try go_wp2)
                go_roundg k1
                case measure => have := HK1.out; omega
                case rel => exact ⟨(wrap64 (x7_1 + 1)), (by first | rfl | (simp; done) | (simp [*]; done)), H', ⟨by have := HK1.out; omega⟩, ⟨by (with_reducible repeat (first | refine blk_drewN ?_ _ | refine blk_drew ?_ | refine blk_alloc ?_ _)); exact BK115.out⟩, ⟨by repeat (first | (with_reducible first | exact HB.out | apply below_alloc | apply pw_below_drewN | apply below_drew1 | refine below_set ?_ GE115.out) | exact HB.out)⟩⟩
              · rw [if_neg c9] at H
                have c9b0 : ((rd l1 x7_1) == (rd l2 x7_1)) = false := beq_eq_false_iff_ne.mpr c9
                have c9b1 : ((rd l1 x7_1) != (rd l2 x7_1)) = true := bne_iff_ne.mpr c9
                obtain rfl := Option.some.inj H
                have p116 : 0 ≤ (x7_1 : Int) := of_decide_eq_true (by first | (with_reducible assumption) | assumption)
                have q116 : x7_1 < (l1.length : Int) := of_decide_eq_true (by first | (with_reducible assumption) | assumption)
                obtain ⟨ad116, e116, hx116_0⟩ := Kd.at_int HR1.out x7_1 p116 q116
                cases e116
                replace hx116_0 := (HB.out.cell (World.block_lt_of_cell? w _ hx116_0)).trans hx116_0
                replace p116 := eq_true p116
                replace q116 := eq_true q116
                have p117 : 0 ≤ (x7_1 : Int) := of_decide_eq_true (by first | (with_reducible assumption) | assumption)
                have q117 : x7_1 < (l2.length : Int) := of_decide_eq_true (by first | (with_reducible assumption) | assumption)
                obtain ⟨ad117, e117, hx117_0⟩ := Kd.at_int HR2.out x7_1 p117 q117
                cases e117
                replace hx117_0 := (HB.out.cell (World.block_lt_of_cell? w _ hx117_0)).trans hx117_0
                replace p117 := eq_true p117
                replace q117 := eq_true q117
                go_wp2
                repeat (go_quiet (fail); try go_wp2)
                go_ret
                exact ⟨by first | rfl | (simp [errW_none, errW_some] <;> rfl) | (simp [*, errW_none, errW_some] <;> rfl), by repeat (first | (with_reducible first | exact HB.out | apply below_alloc | apply pw_below_drewN | apply below_drew1 | refine below_set ?_ GE115.out) | exact HB.out)⟩
            · rw [if_neg c8] at H
              exact absurd H (by simp)
          · rw [if_neg c7] at H
            exact absurd H (by simp)
        · rw [if_neg c6] at H
          have c6b0 : decide (x7_1 < (l1.length : Int)) = false := decide_eq_false c6
          clear c6
          obtain rfl := Option.some.inj H
          go_wp2
          repeat (go_quiet (fail); try go_wp2)
          go_ret
          exact ⟨by first | rfl | (simp [errW_none, errW_some] <;> rfl) | (simp [*, errW_none, errW_some] <;> rfl), by repeat (first | (with_reducible first | exact HB.out | apply below_alloc | apply pw_below_drewN | apply below_drew1 | refine below_set ?_ GE115.out) | exact HB.out)⟩
  · rw [if_neg c4] at H
    have c4b0 : ((l1.length : Int) == (l2.length : Int)) = false := beq_eq_false_iff_ne.mpr c4
    have c4b1 : ((l1.length : Int) != (l2.length : Int)) = true := bne_iff_ne.mpr c4
    have c4b2 : (l1.length == l2.length) = false := by first | simpa using c4 | (simp at c4 ⊢; omega)
    obtain rfl := Option.some.inj H
    go_enter Tryd.func18, Tryd.ntmps18
    go_wp2_with (first | ((with_reducible refine gate_dst (N := 3) rfl ?_); refine box_event ?hg (N := 3) ?hd (cs := #[]) (t := 32) ?hr ?_; (case hd => rfl); (case hg => rfl); (case hr => first | (go_simp; done) | (go_simp; rfl)); intro gb115 hg w10 hbox hb; have n0_ := Aside0.mk (below_step (by repeat (first | (with_reducible first | exact HB.out | apply below_alloc | apply pw_below_drewN | apply below_drew1) | exact HB.out)) hb); have n1_ := Aside0.mk (hbox); have n2_ := Aside0.mk ((by rw [hg]; exact (below_size (by repeat (first | (with_reducible first | exact HB.out | apply below_alloc | apply pw_below_drewN | apply below_drew1) | exact HB.out))) : w.heap.size ≤ gb115)); have n3_ := Aside0.mk ((by rw [hg]; exact (below_size (by repeat (first | (with_reducible first | exact HB.out | apply below_alloc | apply pw_below_drewN | apply below_drew1) | exact HB.out))) : w.heap.size ≤ gb115)); clear HB; have HB := n0_; have BK115 := n1_; have GW115 := n2_; have GE115 := n3_; clear n0_ n1_ n2_ n3_; clear hb hbox hg))
    repeat (go_quiet (first | ((with_reducible refine gate_dst (N := 3) rfl ?_); refine box_event ?hg (N := 3) ?hd (cs := #[]) (t := 32) ?hr ?_; (case hd => rfl); (case hg => rfl); (case hr => first | (go_simp; done) | (go_simp; rfl)); intro gb115 hg w10 hbox hb; have n0_ := Aside0.mk (below_step (by repeat (first | (with_reducible first | exact HB.out | apply below_alloc | apply pw_below_drewN | apply below_drew1) | exact HB.out)) hb); have n1_ := Aside0.mk (hbox); have n2_ := Aside0.mk ((by rw [hg]; exact (below_size (by repeat (first | (with_reducible first | exact HB.out | apply below_alloc | apply pw_below_drewN | apply below_drew1) | exact HB.out))) : w.heap.size ≤ gb115)); have n3_ := Aside0.mk ((by rw [hg]; exact (below_size (by repeat (first | (with_reducible first | exact HB.out | apply below_alloc | apply pw_below_drewN | apply below_drew1) | exact HB.out))) : w.heap.size ≤ gb115)); clear HB; have HB := n0_; have BK115 := n1_; have GW115 := n2_; have GE115 := n3_; clear n0_ n1_ n2_ n3_; clear hb hbox hg)); try go_wp2_with (first | ((with_reducible refine gate_dst (N := 3) rfl ?_); refine box_event ?hg (N := 3) ?hd (cs := #[]) (t := 32) ?hr ?_; (case hd => rfl); (case hg => rfl); (case hr => first | (go_simp; done) | (go_simp; rfl)); intro gb115 hg w10 hbox hb; have n0_ := Aside0.mk (below_step (by repeat (first | (with_reducible first | exact HB.out | apply below_alloc | apply pw_below_drewN | apply below_drew1) | exact HB.out)) hb); have n1_ := Aside0.mk (hbox); have n2_ := Aside0.mk ((by rw [hg]; exact (below_size (by repeat (first | (with_reducible first | exact HB.out | apply below_alloc | apply pw_below_drewN | apply below_drew1) | exact HB.out))) : w.heap.size ≤ gb115)); have n3_ := Aside0.mk ((by rw [hg]; exact (below_size (by repeat (first | (with_reducible first | exact HB.out | apply below_alloc | apply pw_below_drewN | apply below_drew1) | exact HB.out))) : w.heap.size ≤ gb115)); clear HB; have HB := n0_; have BK115 := n1_; have GW115 := n2_; have GE115 := n3_; clear n0_ n1_ n2_ n3_; clear hb hbox hg)))
    go_ret
    exact ⟨by first | rfl | (simp [errW_none, errW_some] <;> rfl) | (simp [*, errW_none, errW_some] <;> rfl), by repeat (first | (with_reducible first | exact HB.out | apply below_alloc | apply pw_below_drewN | apply below_drew1 | refine below_set ?_ GE115.out) | exact HB.out)⟩

/-! ### impl_SameRunes: function 10 -/
def impl_SameRunes.f (k : Nat) (a0 : ByteArray) (a1 : ByteArray) (a2 : Bool) : Option (Bool) := if a2 = true then (if (runesOf a0).length ≤ 70368744177664 then (if (runesOf a1).length ≤ 70368744177664 then ((readline_Runes_EqualFold.f k (runesOf a0) (runesOf a1)).bind fun t124 => (some t124)) else (none)) else (none)) else (if (runesOf a0).length ≤ 70368744177664 then (if (runesOf a1).length ≤ 70368744177664 then ((readline_Runes_Equal.f k (runesOf a0) (runesOf a1)).bind fun t131 => (some t131)) else (none)) else (none))
theorem impl_SameRunes.mono : ∀ a0 a1 a2 k, LeO (impl_SameRunes.f k a0 a1 a2) (impl_SameRunes.f (k + 1) a0 a1 a2) := by
  intro a0 a1 a2 k
  unfold impl_SameRunes.f
  repeat' first
      | (with_reducible exact readline_Runes_Equal.mono _ _ _)
      | (with_reducible exact readline_Runes_EqualFold.mono _ _ _)
      | (with_reducible exact LeO.refl _)
      | (with_reducible exact LeO.none _)
      | (with_reducible refine LeO.ite ?_ ?_)
      | (with_reducible refine LeO.bind ?_ (fun _ => ?_))
      | exact readline_Runes_Equal.mono _ _ _
      | exact readline_Runes_EqualFold.mono _ _ _
      | exact LeO.none _
      | refine LeO.ite ?_ ?_
      | refine LeO.bind ?_ (fun _ => ?_)
set_option maxHeartbeats 8000000 in
set_option maxRecDepth 100000 in
theorem impl_SameRunes.calls (k : Nat) (a0 : ByteArray) (a1 : ByteArray) (a2 : Bool) (r : Bool) (w : World) (h : impl_SameRunes.f k a0 a1 a2 = some r) :
    Calls Tryd.prog 10 #[.string a0, .string a1, .bool a2] w fun e w' => e = .returned (.bool r) ∧ Below w.heap.size w w' := by
  have hu32 := Tryd.underlying32
  have HB := Aside0.mk (Below.refl w.heap.size w)
  have H : (if a2 = true then (if (runesOf a0).length ≤ 70368744177664 then (if (runesOf a1).length ≤ 70368744177664 then ((readline_Runes_EqualFold.f k (runesOf a0) (runesOf a1)).bind fun t124 => (some t124)) else (none)) else (none)) else (if (runesOf a0).length ≤ 70368744177664 then (if (runesOf a1).length ≤ 70368744177664 then ((readline_Runes_Equal.f k (runesOf a0) (runesOf a1)).bind fun t131 => (some t131)) else (none)) else (none))) = some r := h
  clear h
  by_cases c4 : a2 = true
  · subst c4
    have H1 : (if (runesOf a0).length ≤ 70368744177664 then (if (runesOf a1).length ≤ 70368744177664 then ((readline_Runes_EqualFold.f k (runesOf a0) (runesOf a1)).bind fun t124 => (some t124)) else (none)) else (none)) = some r := by rw [if_pos rfl] at H; exact H
    clear H
    have H := H1
    clear H1
    by_cases c5 : (runesOf a0).length ≤ 70368744177664
    · rw [if_pos c5] at H
      have c5b0 := eq_true c5
      have c5b1 : decide ((runesOf a0).length ≤ 70368744177664) = true := decide_eq_true c5
      clear c5
      obtain ⟨y118, hy118⟩ : ∃ y_ : List Int, y_ = (runesOf a0) := ⟨_, rfl⟩
      replace H : (if (runesOf a1).length ≤ 70368744177664 then ((readline_Runes_EqualFold.f k y118 (runesOf a1)).bind fun t124 => (some t124)) else (none)) = some r := by first | (rw [hy118]; with_reducible exact H) | (have H2_ := (Option.bind_some _ _).symm.trans H; rw [hy118]; with_reducible exact H2_) | (have H2_ := (Option.bind_some _ _).symm.trans H; with_reducible exact H2_) | with_reducible exact H | (rw [hy118]; exact H) | exact H
      have Ny118 := Aside0.mk hy118
      clear hy118
      by_cases c6 : (runesOf a1).length ≤ 70368744177664
      · rw [if_pos c6] at H
        have c6b0 := eq_true c6
        have c6b1 : decide ((runesOf a1).length ≤ 70368744177664) = true := decide_eq_true c6
        clear c6
        obtain ⟨y121, hy121⟩ : ∃ y_ : List Int, y_ = (runesOf a1) := ⟨_, rfl⟩
        replace H : ((readline_Runes_EqualFold.f k y118 y121).bind fun t124 => (some t124)) = some r := by first | (rw [hy121]; with_reducible exact H) | (have H2_ := (Option.bind_some _ _).symm.trans H; rw [hy121]; with_reducible exact H2_) | (have H2_ := (Option.bind_some _ _).symm.trans H; with_reducible exact H2_) | with_reducible exact H | (rw [hy121]; exact H) | exact H
        have Ny121 := Aside0.mk hy121
        clear hy121
        replace H := Option.bind_eq_some_iff.mp H
        obtain ⟨t124, A70, H⟩ := H
        replace H : (some t124) = some r := H
        have A7 := Aside0.mk A70
        clear A70
        obtain rfl := Option.some.inj H
        go_enter Tryd.func10, Tryd.ntmps10
        go_wp2_with (first | ((with_reducible refine gate_dst (N := 10) rfl ?_); refine R_runes _ 21 rfl (N := 10) rfl 9 26 _ rfl a0 rfl Tryd.underlying9 Tryd.underlying26 Tryd.underlying21 (ok := fun _ => True) (okp := fun _ => True) (fun _ hk => hk) trivial (of_decide_eq_true (by first | (with_reducible assumption) | assumption)) (Below.refl _ _) (Nat.le_refl _) ?_; intro v119 w8 ho9 hb hg_ hnew_; clear hg_ hnew_; (first | rw [← Ny118.out] at ho9 | (simp only [Int.reduceToNat] at ho9; rw [← Ny118.out] at ho9)); have n0_ := Aside0.mk (Kd.R_lower ho9 (below_size (by repeat (first | (with_reducible first | exact HB.out | apply below_alloc | apply pw_below_drewN | apply below_drew1) | exact HB.out)))); have n1_ := Aside0.mk (below_step (by repeat (first | (with_reducible first | exact HB.out | apply below_alloc | apply pw_below_drewN | apply below_drew1) | exact HB.out)) hb); clear HB; have HO120 := n0_; have HB := n1_; clear n0_ n1_; clear hb ho9) | ((with_reducible refine gate_dst (N := 12) rfl ?_); refine R_runes _ 21 rfl (N := 12) rfl 9 26 _ rfl a1 rfl Tryd.underlying9 Tryd.underlying26 Tryd.underlying21 (ok := fun _ => True) (okp := fun _ => True) (fun _ hk => hk) trivial (of_decide_eq_true (by first | (with_reducible assumption) | assumption)) (Below.refl _ _) (Nat.le_refl _) ?_; intro v122 w10 ho11 hb hg_ hnew_; clear hg_ hnew_; (first | rw [← Ny121.out] at ho11 | (simp only [Int.reduceToNat] at ho11; rw [← Ny121.out] at ho11)); have n0_ := Aside0.mk (Kd.R_elder' (by (with_reducible repeat (first | apply Kd.R_alloc | apply Kd.R_drewN | apply Kd.R_drew)); exact HO120.out) (Kd.R_base ho11) hb); have n1_ := Aside0.mk (Kd.R_lower (Kd.R_new' ho11 (Kd.R_lt (by (with_reducible repeat (first | apply Kd.R_alloc | apply Kd.R_drewN | apply Kd.R_drew)); exact HO120.out))) (below_size (by repeat (first | (with_reducible first | exact HB.out | apply below_alloc | apply pw_below_drewN | apply below_drew1) | exact HB.out)))); have n2_ := Aside0.mk (below_step (by repeat (first | (with_reducible first | exact HB.out | apply below_alloc | apply pw_below_drewN | apply below_drew1) | exact HB.out)) hb); clear HO120; clear HB; have HO120 := n0_; have HO123 := n1_; have HB := n2_; clear n0_ n1_ n2_; clear hb ho11; obtain ⟨Ao12, co12, eo12⟩ := Kd.R_slice HO120.out; subst eo12; obtain ⟨Ao13, co13, eo13⟩ := Kd.R_slice HO123.out; subst eo13) | ((with_reducible refine gate_callee (f := 17) rfl ?_); refine goesL_ (some 13) rfl rfl Tryd.func17 (by kernel_rfl) rfl #[.agg #[], .slice Ao12 y118.length co12, .slice Ao13 y121.length co13] rfl (by (try simp only [List.map_toArray, List.map_cons, List.map_nil]); first | done | rfl | (simp only [List.length_drop, List.length_take]; rfl)) ?_; (with_reducible refine (readline_Runes_EqualFold.calls k  _ _ y118 _ _ y121 t124 _ ?side1 ?side2 ?side3 ?side4 A7.out).mono ?_); (case side1 => repeat (first | exact (Kd.R_reads' HO120.out).2.2 | (with_reducible refine Kd.C_alloc ?_ _) | (with_reducible refine Kd.C_drewN ?_ _) | (with_reducible refine Kd.C_drew ?_))); (case side2 => exact (Kd.R_reads' HO120.out).2.1); (case side3 => repeat (first | exact (Kd.R_reads' HO123.out).2.2 | (with_reducible refine Kd.C_alloc ?_ _) | (with_reducible refine Kd.C_drewN ?_ _) | (with_reducible refine Kd.C_drew ?_))); (case side4 => exact (Kd.R_reads' HO123.out).2.1); rintro e w14 ⟨rfl, hb⟩; refine ⟨_, rfl, ?_⟩; have n0_ := Aside0.mk (Kd.R_below (by (with_reducible repeat (first | apply Kd.R_alloc | apply Kd.R_drewN | apply Kd.R_drew)); exact HO120.out) hb); have n1_ := Aside0.mk (Kd.R_below (by (with_reducible repeat (first | apply Kd.R_alloc | apply Kd.R_drewN | apply Kd.R_drew)); exact HO123.out) hb); have n2_ := Aside0.mk (below_step (by repeat (first | (with_reducible first | exact HB.out | apply below_alloc | apply pw_below_drewN | apply below_drew1) | exact HB.out)) hb); clear HO120; clear HO123; clear HB; have HO120 := n0_; have HO123 := n1_; have HB := n2_; clear n0_ n1_ n2_; (try clear hb); (try clear hb2); (try clear hk); (try clear hi)))
        go_ret
        exact ⟨by first | rfl | (simp [errW_none, errW_some] <;> rfl) | (simp [*, errW_none, errW_some] <;> rfl), by repeat (first | (with_reducible first | exact HB.out | apply below_alloc | apply pw_below_drewN | apply below_drew1) | exact HB.out)⟩
      · rw [if_neg c6] at H
        exact absurd H (by simp)
    · rw [if_neg c5] at H
      exact absurd H (by simp)
  · replace c4 := Bool.eq_false_iff.mpr c4
    subst c4
    have H1 : (if (runesOf a0).length ≤ 70368744177664 then (if (runesOf a1).length ≤ 70368744177664 then ((readline_Runes_Equal.f k (runesOf a0) (runesOf a1)).bind fun t131 => (some t131)) else (none)) else (none)) = some r := by rw [if_neg (show ¬ (false = true) by decide)] at H; exact H
    clear H
    have H := H1
    clear H1
    by_cases c15 : (runesOf a0).length ≤ 70368744177664
    · rw [if_pos c15] at H
      have c15b0 := eq_true c15
      have c15b1 : decide ((runesOf a0).length ≤ 70368744177664) = true := decide_eq_true c15
      clear c15
      obtain ⟨y125, hy125⟩ : ∃ y_ : List Int, y_ = (runesOf a0) := ⟨_, rfl⟩
      replace H : (if (runesOf a1).length ≤ 70368744177664 then ((readline_Runes_Equal.f k y125 (runesOf a1)).bind fun t131 => (some t131)) else (none)) = some r := by first | (rw [hy125]; with_reducible exact H) | (have H2_ := (Option.bind_some _ _).symm.trans H; rw [hy125]; with_reducible exact H2_) | (have H2_ := (Option.bind_some _ _).symm.trans H; with_reducible exact H2_) | with_reducible exact H | (rw [hy125]; exact H) | exact H
      have Ny125 := Aside0.mk hy125
      clear hy125
      by_cases c16 : (runesOf a1).length ≤ 70368744177664
      · rw [if_pos c16] at H
        have c16b0 := eq_true c16
        have c16b1 : decide ((runesOf a1).length ≤ 70368744177664) = true := decide_eq_true c16
        clear c16
        obtain ⟨y128, hy128⟩ : ∃ y_ : List Int, y_ = (runesOf a1) := ⟨_, rfl⟩
        replace H : ((readline_Runes_Equal.f k y125 y128).bind fun t131 => (some t131)) = some r := by first | (rw [hy128]; with_reducible exact H) | (have H2_ := (Option.bind_some _ _).symm.trans H; rw [hy128]; with_reducible exact H2_) | (have H2_ := (Option.bind_some _ _).symm.trans H; with_reducible exact H2_) | with_reducible exact H | (rw [hy128]; exact H) | exact H
        have Ny128 := Aside0.mk hy128
        clear hy128
        replace H := Option.bind_eq_some_iff.mp H
        obtain ⟨t131, A170, H⟩ := H
        replace H : (some t131) = some r := H
        have A17 := Aside0.mk A170
        clear A170
        obtain rfl := Option.some.inj H
        go_enter Tryd.func10, Tryd.ntmps10
        go_wp2_with (first | ((with_reducible refine gate_dst (N := 16) rfl ?_); refine R_runes _ 21 rfl (N := 16) rfl 9 26 _ rfl a0 rfl Tryd.underlying9 Tryd.underlying26 Tryd.underlying21 (ok := fun _ => True) (okp := fun _ => True) (fun _ hk => hk) trivial (of_decide_eq_true (by first | (with_reducible assumption) | assumption)) (Below.refl _ _) (Nat.le_refl _) ?_; intro v126 w18 ho19 hb hg_ hnew_; clear hg_ hnew_; (first | rw [← Ny125.out] at ho19 | (simp only [Int.reduceToNat] at ho19; rw [← Ny125.out] at ho19)); have n0_ := Aside0.mk (Kd.R_lower ho19 (below_size (by repeat (first | (with_reducible first | exact HB.out | apply below_alloc | apply pw_below_drewN | apply below_drew1) | exact HB.out)))); have n1_ := Aside0.mk (below_step (by repeat (first | (with_reducible first | exact HB.out | apply below_alloc | apply pw_below_drewN | apply below_drew1) | exact HB.out)) hb); clear HB; have HO127 := n0_; have HB := n1_; clear n0_ n1_; clear hb ho19) | ((with_reducible refine gate_dst (N := 18) rfl ?_); refine R_runes _ 21 rfl (N := 18) rfl 9 26 _ rfl a1 rfl Tryd.underlying9 Tryd.underlying26 Tryd.underlying21 (ok := fun _ => True) (okp := fun _ => True) (fun _ hk => hk) trivial (of_decide_eq_true (by first | (with_reducible assumption) | assumption)) (Below.refl _ _) (Nat.le_refl _) ?_; intro v129 w20 ho21 hb hg_ hnew_; clear hg_ hnew_; (first | rw [← Ny128.out] at ho21 | (simp only [Int.reduceToNat] at ho21; rw [← Ny128.out] at ho21)); have n0_ := Aside0.mk (Kd.R_elder' (by (with_reducible repeat (first | apply Kd.R_alloc | apply Kd.R_drewN | apply Kd.R_drew)); exact HO127.out) (Kd.R_base ho21) hb); have n1_ := Aside0.mk (Kd.R_lower (Kd.R_new' ho21 (Kd.R_lt (by (with_reducible repeat (first | apply Kd.R_alloc | apply Kd.R_drewN | apply Kd.R_drew)); exact HO127.out))) (below_size (by repeat (first | (with_reducible first | exact HB.out | apply below_alloc | apply pw_below_drewN | apply below_drew1) | exact HB.out)))); have n2_ := Aside0.mk (below_step (by repeat (first | (with_reducible first | exact HB.out | apply below_alloc | apply pw_below_drewN | apply below_drew1) | exact HB.out)) hb); clear HO127; clear HB; have HO127 := n0_; have HO130 := n1_; have HB := n2_; clear n0_ n1_ n2_; clear hb ho21; obtain ⟨Ao22, co22, eo22⟩ := Kd.R_slice HO127.out; subst eo22; obtain ⟨Ao23, co23, eo23⟩ := Kd.R_slice HO130.out; subst eo23) | ((with_reducible refine gate_callee (f := 18) rfl ?_); refine goesL_ (some 19) rfl rfl Tryd.func18 (by kernel_rfl) rfl #[.agg #[], .slice Ao22 y125.length co22, .slice Ao23 y128.length co23] rfl (by (try simp only [List.map_toArray, List.map_cons, List.map_nil]); first | done | rfl | (simp only [List.length_drop, List.length_take]; rfl)) ?_; (with_reducible refine (readline_Runes_Equal.calls k  _ _ y125 _ _ y128 t131 _ ?side1 ?side2 ?side3 ?side4 A17.out).mono ?_); (case side1 => repeat (first | exact (Kd.R_reads' HO127.out).2.2 | (with_reducible refine Kd.C_alloc ?_ _) | (with_reducible refine Kd.C_drewN ?_ _) | (with_reducible refine Kd.C_drew ?_))); (case side2 => exact (Kd.R_reads' HO127.out).2.1); (case side3 => repeat (first | exact (Kd.R_reads' HO130.out).2.2 | (with_reducible refine Kd.C_alloc ?_ _) | (with_reducible refine Kd.C_drewN ?_ _) | (with_reducible refine Kd.C_drew ?_))); (case side4 => exact (Kd.R_reads' HO130.out).2.1); rintro e w24 ⟨rfl, hb⟩; refine ⟨_, rfl, ?_⟩; have n0_ := Aside0.mk (Kd.R_below (by (with_reducible repeat (first | apply Kd.R_alloc | apply Kd.R_drewN | apply Kd.R_drew)); exact HO127.out) hb); have n1_ := Aside0.mk (Kd.R_below (by (with_reducible repeat (first | apply Kd.R_alloc | apply Kd.R_drewN | apply Kd.R_drew)); exact HO130.out) hb); have n2_ := Aside0.mk (below_step (by repeat (first | (with_reducible first | exact HB.out | apply below_alloc | apply pw_below_drewN | apply below_drew1) | exact HB.out)) hb); clear HO127; clear HO130; clear HB; have HO127 := n0_; have HO130 := n1_; have HB := n2_; clear n0_ n1_ n2_; (try clear hb); (try clear hb2); (try clear hk); (try clear hi)))
        go_ret
        exact ⟨by first | rfl | (simp [errW_none, errW_some] <;> rfl) | (simp [*, errW_none, errW_some] <;> rfl), by repeat (first | (with_reducible first | exact HB.out | apply below_alloc | apply pw_below_drewN | apply below_drew1) | exact HB.out)⟩
      · rw [if_neg c16] at H
        exact absurd H (by simp)
    · rw [if_neg c15] at H
      exact absurd H (by simp)

/-! ### readline_Runes_HasPrefixFold: function 19 -/
def readline_Runes_HasPrefixFold.f (k : Nat)  (l1 : List Int) (l2 : List Int) : Option (Bool) := if (l1.length : Int) < (l2.length : Int) then (some false) else (if 0 ≤ (l2.length : Int) then (if (l2.length : Int) ≤ (l1.length : Int) then ((readline_Runes_EqualFold.f k (l1.take ((l2.length : Int) : Int).toNat) l2).bind fun t134 => (some t134)) else (none)) else (none))
theorem readline_Runes_HasPrefixFold.mono : ∀ a0 a1 k, LeO (readline_Runes_HasPrefixFold.f k a0 a1) (readline_Runes_HasPrefixFold.f (k + 1) a0 a1) := by
  intro a0 a1 k
  unfold readline_Runes_HasPrefixFold.f
  repeat' first
      | (with_reducible exact readline_Runes_EqualFold.mono _ _ _)
      | (with_reducible exact LeO.refl _)
      | (with_reducible exact LeO.none _)
      | (with_reducible refine LeO.ite ?_ ?_)
      | (with_reducible refine LeO.bind ?_ (fun _ => ?_))
      | exact readline_Runes_EqualFold.mono _ _ _
      | exact LeO.none _
      | refine LeO.ite ?_ ?_
      | refine LeO.bind ?_ (fun _ => ?_)
def readline_Runes_HasPrefixFold.T3 : Bool × List (List Nat × List Nat) := (true, [([], []), ([], []), ([], []), ([2], [2]), ([1, 3], [1, 3]), ([], []), ([0, 4, 5], [0, 4, 5]), ([6, 6, 0, 1, 2, 3, 4, 5, 6], [6])])
def readline_Runes_HasPrefixFold.B3 : List Nat := [0, 0, 0, 4, 14, 0, 63, 127]
theorem readline_Runes_HasPrefixFold.tab3 : rtab .any (opsOf Tryd.f19 3) = readline_Runes_HasPrefixFold.T3 := by kernel_rfl
theorem readline_Runes_HasPrefixFold.bits3 : waitsOk readline_Runes_HasPrefixFold.T3.2 readline_Runes_HasPrefixFold.B3 = true := by kernel_rfl
set_option maxHeartbeats 8000000 in
set_option maxRecDepth 100000 in
theorem readline_Runes_HasPrefixFold.calls (k : Nat)  (A1 : Option Addr) (c1 : Nat) (l1 : List Int) (A2 : Option Addr) (c2 : Nat) (l2 : List Int) (r : Bool) (w : World) (hr1 : Kd.C (Kd.int .i32) w A1 l1.length l1) (hc1 : l1.length ≤ c1) (hr2 : Kd.C (Kd.int .i32) w A2 l2.length l2) (hc2 : l2.length ≤ c2) (h : readline_Runes_HasPrefixFold.f k l1 l2 = some r) :
    Calls Tryd.prog 19 #[.agg #[], .slice A1 l1.length c1, .slice A2 l2.length c2] w fun e w' => e = .returned (.bool r) ∧ Below w.heap.size w w' := by
  have hu32 := Tryd.underlying32
  have HR1 := Aside0.mk hr1
  have HC1 := Aside0.mk hc1
  clear hr1 hc1
  have HR2 := Aside0.mk hr2
  have HC2 := Aside0.mk hc2
  clear hr2 hc2
  have HB := Aside0.mk (Below.refl w.heap.size w)
  have H : (if (l1.length : Int) < (l2.length : Int) then (some false) else (if 0 ≤ (l2.length : Int) then (if (l2.length : Int) ≤ (l1.length : Int) then ((readline_Runes_EqualFold.f k (l1.take ((l2.length : Int) : Int).toNat) l2).bind fun t134 => (some t134)) else (none)) else (none))) = some r := h
  clear h
  by_cases c4 : (l1.length : Int) < (l2.length : Int)
  · rw [if_pos c4] at H
    have c4b0 : decide ((l1.length : Int) < (l2.length : Int)) = true := decide_eq_true c4
    have c4b1 : decide (l1.length < l2.length) = true := decide_eq_true (Int.ofNat_lt.mp c4)
    clear c4
    obtain rfl := Option.some.inj H
    go_enter Tryd.func19, Tryd.ntmps19
    go_wp2_with (first | ((with_reducible refine gate_dst (N := 3) rfl ?_); refine box_event ?hg (N := 3) ?hd (cs := #[]) (t := 32) ?hr ?_; (case hd => rfl); (case hg => rfl); (case hr => first | (go_simp; done) | (go_simp; rfl)); intro gb132 hg w5 hbox hb; have n0_ := Aside0.mk (below_step (by repeat (first | (with_reducible first | exact HB.out | apply below_alloc | apply pw_below_drewN | apply below_drew1) | exact HB.out)) hb); have n1_ := Aside0.mk (hbox); have n2_ := Aside0.mk ((by rw [hg]; exact (below_size (by repeat (first | (with_reducible first | exact HB.out | apply below_alloc | apply pw_below_drewN | apply below_drew1) | exact HB.out))) : w.heap.size ≤ gb132)); have n3_ := Aside0.mk ((by rw [hg]; exact (below_size (by repeat (first | (with_reducible first | exact HB.out | apply below_alloc | apply pw_below_drewN | apply below_drew1) | exact HB.out))) : w.heap.size ≤ gb132)); clear HB; have HB := n0_; have BK132 := n1_; have GW132 := n2_; have GE132 := n3_; clear n0_ n1_ n2_ n3_; clear hb hbox hg))
    go_ret
    exact ⟨by first | rfl | (simp [errW_none, errW_some] <;> rfl) | (simp [*, errW_none, errW_some] <;> rfl), by repeat (first | (with_reducible first | exact HB.out | apply below_alloc | apply pw_below_drewN | apply below_drew1 | refine below_set ?_ GE132.out) | exact HB.out)⟩
  · rw [if_neg c4] at H
    have c4b0 : decide ((l1.length : Int) < (l2.length : Int)) = false := decide_eq_false c4
    have c4b1 : decide (l1.length < l2.length) = false := decide_eq_false (fun h => c4 (Int.ofNat_lt.mpr h))
    clear c4
    by_cases c6 : 0 ≤ (l2.length : Int)
    · rw [if_pos c6] at H
      have c6b0 := eq_true c6
      have c6b1 : decide (0 ≤ (l2.length : Int)) = true := decide_eq_true c6
      clear c6
      by_cases c7 : (l2.length : Int) ≤ (l1.length : Int)
      · rw [if_pos c7] at H
        have c7b0 := eq_true c7
        have c7b1 : decide ((l2.length : Int) ≤ (l1.length : Int)) = true := decide_eq_true c7
        clear c7
        replace H := Option.bind_eq_some_iff.mp H
        obtain ⟨t134, A80, H⟩ := H
        replace H : (some t134) = some r := H
        have A8 := Aside0.mk A80
        clear A80
        obtain rfl := Option.some.inj H
        go_enter Tryd.func19, Tryd.ntmps19
        try go_wp2_with (first | ((with_reducible refine gate_dst (N := 3) rfl ?_); refine box_event ?hg (N := 3) ?hd (cs := #[]) (t := 32) ?hr ?_; (case hd => rfl); (case hg => rfl); (case hr => first | (go_simp; done) | (go_simp; rfl)); intro gb132 hg w9 hbox hb; have n0_ := Aside0.mk (below_step (by repeat (first | (with_reducible first | exact HB.out | apply below_alloc | apply pw_below_drewN | apply below_drew1) | exact HB.out)) hb); have n1_ := Aside0.mk (hbox); have n2_ := Aside0.mk ((by rw [hg]; exact (below_size (by repeat (first | (with_reducible first | exact HB.out | apply below_alloc | apply pw_below_drewN | apply below_drew1) | exact HB.out))) : w.heap.size ≤ gb132)); have n3_ := Aside0.mk ((by rw [hg]; exact (below_size (by repeat (first | (with_reducible first | exact HB.out | apply below_alloc | apply pw_below_drewN | apply below_drew1) | exact HB.out))) : w.heap.size ≤ gb132)); clear HB; have HB := n0_; have BK132 := n1_; have GW132 := n2_; have GE132 := n3_; clear n0_ n1_ n2_ n3_; clear hb hbox hg))
        have n0_ := Aside0.mk (blk_drew BK132.out)
        have n1_ := Aside0.mk (below_drew1 HB.out)
        clear BK132
        clear HB
        have BK132 := n0_
        have HB := n1_
        clear n0_ n1_
        obtain ⟨i011, hi011, _, hsz11, _⟩ := info_parts info21
        obtain ⟨hcut11, hA11, hC11⟩ := print_take_of (P := Tryd.prog) (Value.int .i32) 0 26 21 .i64 Tryd.underlying26 hi011 hsz11 A1 c1 l1 (l2.length : Int) (of_decide_eq_true (by first | (with_reducible assumption) | assumption)) (of_decide_eq_true (by first | (with_reducible assumption) | assumption)) HC1.out
        have HR133 := Aside0.mk (Kd.C_of_reads (h1 := fun _ => rfl) (hA11 _ (Kd.reads_of_C HR1.out)))
        have HC133 := Aside0.mk hC11
        clear hA11 hC11 hi011 hsz11
        refine start_ (n := 8) (S := fun w' => True) (ds := []) #[false, false, false, false, false, false, false, false] (by kernel_rfl) rfl rfl trivial (fun hHeld => ?_); refine with_tabW readline_Runes_HasPrefixFold.tab3 readline_Runes_HasPrefixFold.bits3 (fun HT_ HW_ => ?_)
        generalize w9.drew = w10 at BK132 HB HR133 hHeld ⊢
        refine pure_ (i := 1) (N := some 13) (v := ?_) (a' := ?_) #[false, true, false, false, false, false, false, false] rfl rfl (any_of HT_.out (by kernel_rfl)) (fun _ _ _ h => h) (Or.inl ⟨by rfl, ?_⟩) ?_ ?_
        rotate_left
        · intro w'
          go_simp
          with_reducible rfl
        rotate_left
        · simp only [Act.put, List.setIfInBounds_toArray, List.set_cons_zero, List.set_cons_succ, i64_w, i32_w]
          rfl
        refine pure_ (i := 2) (N := some 14) (v := ?_) (a' := ?_) #[false, true, true, false, false, false, false, false] rfl rfl (any_of HT_.out (by kernel_rfl)) (fun _ _ _ h => h) (Or.inl ⟨by rfl, ?_⟩) ?_ ?_
        rotate_left
        · intro w'
          go_simp
          with_reducible rfl
        rotate_left
        · simp only [Act.put, List.setIfInBounds_toArray, List.set_cons_zero, List.set_cons_succ, i64_w, i32_w]
          rfl
        refine pure_ (i := 3) (N := some 15) (v := ?_) (a' := ?_) #[false, true, true, true, false, false, false, false] rfl rfl (any_of HT_.out (by kernel_rfl)) (fun _ _ _ h => h) (Or.inl ⟨by rfl, ?_⟩) ?_ ?_
        rotate_left
        · intro w'
          go_simp
          with_reducible rfl
        rotate_left
        · simp only [Act.put, List.setIfInBounds_toArray, List.set_cons_zero, List.set_cons_succ, i64_w, i32_w]
          rfl
        refine pure_ (i := 4) (N := some 16) (v := ?_) (a' := ?_) #[false, true, true, true, true, false, false, false] rfl rfl (any_of HT_.out (by kernel_rfl)) (fun _ _ _ h => h) (Or.inl ⟨by rfl, ?_⟩) ?_ ?_
        rotate_left
        · intro w'
          go_simp
          with_reducible rfl
        rotate_left
        · simp only [Act.put, List.setIfInBounds_toArray, List.set_cons_zero, List.set_cons_succ, i64_w, i32_w]
          rfl
        refine pure_ (i := 5) (N := some 17) (v := ?_) (a' := ?_) #[false, true, true, true, true, true, false, false] rfl rfl (any_of HT_.out (by kernel_rfl)) (fun _ _ _ h => h) (Or.inl ⟨by rfl, ?_⟩) ?_ ?_
        rotate_left
        · intro w'
          go_simp
          with_reducible rfl
        rotate_left
        · simp only [Act.put, List.setIfInBounds_toArray, List.set_cons_zero, List.set_cons_succ, i64_w, i32_w]
          rfl
        refine take_ (i := 0) (N := some 12) (v := ?_) (a' := ?_) #[true, true, true, true, true, true, false, false] rfl rfl (take_ofW HT_.out HW_.out (by kernel_rfl)) (fun _ _ _ h => h) (Or.inl ⟨by rfl, ?_⟩) hHeld ?_ ?_
        rotate_left
        · intro w' _
          go_simp
          with_reducible rfl
        rotate_left
        · simp only [Act.put, List.setIfInBounds_toArray, List.set_cons_zero, List.set_cons_succ, i64_w, i32_w]
          rfl
        refine one_ (i := 6) (N := some 18) #[true, true, true, true, true, true, true, false] rfl rfl (one_of HT_.out (by kernel_rfl)) (by decide) (fun K hK => ?_)
        refine goes_ Tryd.func17 (by kernel_rfl) rfl #[.agg #[], .slice A1 (l1.take ((l2.length : Int) : Int).toNat).length c1, .slice A2 l2.length c2] (by rfl) rfl rfl (by (try simp only [List.map_toArray, List.map_cons, List.map_nil]); first | done | (rw [show (l1.take ((l2.length : Int) : Int).toNat).length = (l2.length : Int).toNat from (by rw [List.length_take]; have h_ : ((l2.length : Int) : Int) ≤ (l1.length : Int) := of_decide_eq_true (by first | (with_reducible assumption) | assumption); omega)] <;> rfl) | rfl | (simp only [List.length_drop, List.length_take]; rfl)) ?_
        with_reducible refine (readline_Runes_EqualFold.calls k  _ _ (l1.take ((l2.length : Int) : Int).toNat) _ _ l2 t134 _ ?side1 ?side2 ?side3 ?side4 A8.out).mono ?_
        (case side1 => repeat (first | exact (Kd.C_below HR133.out HB.out) | (with_reducible refine Kd.C_alloc ?_ _) | (with_reducible refine Kd.C_drewN ?_ _) | (with_reducible refine Kd.C_drew ?_)))
        (case side2 => exact HC133.out)
        (case side3 => repeat (first | exact (Kd.C_below HR2.out HB.out) | (with_reducible refine Kd.C_alloc ?_ _) | (with_reducible refine Kd.C_drewN ?_ _) | (with_reducible refine Kd.C_drew ?_)))
        (case side4 => exact HC2.out)
        rintro e w12 ⟨rfl, hb⟩
        refine ⟨_, rfl, ?_⟩
        have n0_ := Aside0.mk (blk_below (g := gb132) (o := .cells #[] 32 (0, 0)) (by (with_reducible repeat (first | refine blk_drewN ?_ _ | refine blk_drew ?_ | refine blk_alloc ?_ _)); exact BK132.out) hb)
        have n1_ := Aside0.mk (below_step (by repeat (first | (with_reducible first | exact HB.out | apply below_alloc | apply pw_below_drewN | apply below_drew1 | refine below_set ?_ GE132.out) | exact HB.out)) hb)
        clear BK132
        clear HB
        have BK132 := n0_
        have HB := n1_
        clear n0_ n1_
        (try clear hb)
        (try clear hb2)
        (try clear hk)
        (try clear hi)
        refine hK.out _ _ trivial (fun hHeld => ?_)
        clear hK K
        refine norm_ (a' := ?_) ?_ ?_
        rotate_left
        · show Act.put _ (some 18) _ = _
          simp only [Act.put, List.setIfInBounds_toArray, List.set_cons_zero, List.set_cons_succ, i64_w, i32_w]
          rfl
        refine pure_ (i := 7) (N := some 6) (v := ?_) (a' := ?_) #[true, true, true, true, true, true, true, true] rfl rfl (any_of HT_.out (by kernel_rfl)) (fun _ _ _ h => h) (Or.inl ⟨by rfl, ?_⟩) ?_ ?_
        rotate_left
        · intro w'
          go_simp
          with_reducible rfl
        rotate_left
        · simp only [Act.put, List.setIfInBounds_toArray, List.set_cons_zero, List.set_cons_succ, i64_w, i32_w]
          rfl
        refine done_ (done_of HT_.out (by kernel_rfl)) ?_
        try go_wp2
        go_ret
        exact ⟨by first | rfl | (simp [errW_none, errW_some] <;> rfl) | (simp [*, errW_none, errW_some] <;> rfl), by repeat (first | (with_reducible first | exact HB.out | apply below_alloc | apply pw_below_drewN | apply below_drew1 | refine below_set ?_ GE132.out) | exact HB.out)⟩
      · rw [if_neg c7] at H
        exact absurd H (by simp)
    · rw [if_neg c6] at H
      exact absurd H (by simp)

end Go.Proofs.YthkblefeifdhaaaDoor.PFnSameRunes
