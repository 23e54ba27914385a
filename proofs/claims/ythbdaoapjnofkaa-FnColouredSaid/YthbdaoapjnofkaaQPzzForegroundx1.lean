/- Printed by a program of this seat (xprint) out of the translation: Go functions as plain functions, and the walks that show them; no condition. -/
import Derived.Test.YthbdaoapjnofkaaQPzzForegroundx0
namespace Go.Proofs.Ythbdaoapjnofkaa.PzzForeground
open Go.RowKit Go.Proofs.Ythbdaoapjnofkaa.R Go.Proofs.YthbdaoapjnofkaaW.PrintWords Go.Proofs.YthbdaoapjnofkaaW.PrintLast Go.Proofs.YthbdaoapjnofkaaW.PrintMore
attribute [local go_sem] max2_int min2_int max_two min_two max_three min_three max_four min_four   -- for this text's walks alone
set_option linter.unusedVariables false
set_option linter.unusedSimpArgs false
/-! ### goprompt_zzForeground: function 52 -/
def goprompt_zzForeground.f (a0 : Int) : Option (List Int × Bool) := if a0 = 0 then (some ((([51, 57] : List Int)), true)) else (if a0 = 1 then (some ((([51, 48] : List Int)), true)) else (if a0 = 2 then (some ((([51, 49] : List Int)), true)) else (if a0 = 3 then (some ((([51, 50] : List Int)), true)) else (if a0 = 4 then (some ((([51, 51] : List Int)), true)) else (if a0 = 5 then (some ((([51, 52] : List Int)), true)) else (if a0 = 6 then (some ((([51, 53] : List Int)), true)) else (if a0 = 7 then (some ((([51, 54] : List Int)), true)) else (if a0 = 8 then (some ((([51, 55] : List Int)), true)) else (if a0 = 9 then (some ((([57, 48] : List Int)), true)) else (if a0 = 10 then (some ((([57, 49] : List Int)), true)) else (if a0 = 11 then (some ((([57, 50] : List Int)), true)) else (if a0 = 12 then (some ((([57, 51] : List Int)), true)) else (if a0 = 13 then (some ((([57, 52] : List Int)), true)) else (if a0 = 14 then (some ((([57, 53] : List Int)), true)) else (if a0 = 15 then (some ((([57, 54] : List Int)), true)) else (if a0 = 16 then (some ((([57, 55] : List Int)), true)) else (some (([] : List Int), false))))))))))))))))))
set_option maxHeartbeats 8000000 in
set_option maxRecDepth 100000 in
theorem goprompt_zzForeground.calls (a0 : Int) (r1 : List Int) (r2 : Bool) (w : World) (h : goprompt_zzForeground.f a0 = some (r1, r2)) :
    Calls Try.prog 52 #[.int .i64 a0] w fun e w' => ∃ v0_ : Value, e = .returned (.tuple #[v0_, .bool r2]) ∧ Kd.R (Kd.int .u8) 5 w' w.heap.size (fun _ => True) v0_ r1 ∧ Below w.heap.size w w' := by
  have HB := Aside0.mk (Below.refl w.heap.size w)
  have H : (if a0 = 0 then (some ((([51, 57] : List Int)), true)) else (if a0 = 1 then (some ((([51, 48] : List Int)), true)) else (if a0 = 2 then (some ((([51, 49] : List Int)), true)) else (if a0 = 3 then (some ((([51, 50] : List Int)), true)) else (if a0 = 4 then (some ((([51, 51] : List Int)), true)) else (if a0 = 5 then (some ((([51, 52] : List Int)), true)) else (if a0 = 6 then (some ((([51, 53] : List Int)), true)) else (if a0 = 7 then (some ((([51, 54] : List Int)), true)) else (if a0 = 8 then (some ((([51, 55] : List Int)), true)) else (if a0 = 9 then (some ((([57, 48] : List Int)), true)) else (if a0 = 10 then (some ((([57, 49] : List Int)), true)) else (if a0 = 11 then (some ((([57, 50] : List Int)), true)) else (if a0 = 12 then (some ((([57, 51] : List Int)), true)) else (if a0 = 13 then (some ((([57, 52] : List Int)), true)) else (if a0 = 14 then (some ((([57, 53] : List Int)), true)) else (if a0 = 15 then (some ((([57, 54] : List Int)), true)) else (if a0 = 16 then (some ((([57, 55] : List Int)), true)) else (some (([] : List Int), false))))))))))))))))))) = some (r1, r2) := h
  clear h
  by_cases c2 : a0 = 0
  · rw [if_pos c2] at H
    have c2b0 : (a0 == 0) = true := beq_iff_eq.mpr c2
    have c2b1 : (a0 != 0) = false := bne_eq_false_iff_eq.mpr c2
    clear c2
    obtain ⟨y101, hy101⟩ : ∃ y_ : List Int, y_ = (([51, 57] : List Int)) := ⟨_, rfl⟩
    replace H : (some (y101, true)) = some (r1, r2) := by first | (rw [hy101]; with_reducible exact H) | (have H2_ := (Option.bind_some _ _).symm.trans H; rw [hy101]; with_reducible exact H2_) | (have H2_ := (Option.bind_some _ _).symm.trans H; with_reducible exact H2_) | with_reducible exact H | (rw [hy101]; exact H) | exact H
    have Ny101 := Aside0.mk hy101
    clear hy101
    simp only [Option.some.injEq, Prod.mk.injEq] at H
    obtain ⟨rfl, rfl⟩ := H
    go_enter Try.func52, Try.ntmps52
    go_wp2_with (first | ((with_reducible refine gate_dst (N := 7) rfl ?_); refine Kd.R_lit (Kd.int .u8) _ 5 ?hg (N := 7) ?hd (xs := ([51, 57] : List Int)) (inner := [.int .u8 51, .int .u8 57]) (ok := fun _ => True) (okp := fun _ => True) ?hr ?hp (fun _ hk => hk) trivial (Below.refl _ _) (Nat.le_refl _) (by simp) ?_; (case hd => rfl); (case hg => rfl); (case hr => first | (go_simp; done) | (go_simp; rfl)); (case hp => exact (Reps.one (show Kd.M (Kd.int .u8) _ _ _ 51 [.int .u8 51] from rfl) (Reps.one (show Kd.M (Kd.int .u8) _ _ _ 57 [.int .u8 57] from rfl) (Reps.none _ _)))); intro v102 w3 ho4 hb hg_ hnew_; clear hg_ hnew_; (first | rw [← Ny101.out] at ho4 | (simp only [Int.reduceToNat] at ho4; rw [← Ny101.out] at ho4)); have n0_ := Aside0.mk (Kd.R_lower ho4 (below_size (by repeat (first | (with_reducible first | exact HB.out | apply below_alloc | apply pw_below_drewN | apply below_drew1) | exact HB.out)))); have n1_ := Aside0.mk (below_step (by repeat (first | (with_reducible first | exact HB.out | apply below_alloc | apply pw_below_drewN | apply below_drew1) | exact HB.out)) hb); clear HB; have HO103 := n0_; have HB := n1_; clear n0_ n1_; clear hb ho4))
    go_ret2
    exact ⟨_, by first | rfl | (simp [errW_none, errW_some] <;> rfl) | (simp [*, errW_none, errW_some] <;> rfl), by (with_reducible repeat (first | apply Kd.R_alloc | apply Kd.R_drewN | apply Kd.R_drew)); exact HO103.out, by repeat (first | (with_reducible first | exact HB.out | apply below_alloc | apply pw_below_drewN | apply below_drew1) | exact HB.out)⟩
  · rw [if_neg c2] at H
    have c2b0 : (a0 == 0) = false := beq_eq_false_iff_ne.mpr c2
    have c2b1 : (a0 != 0) = true := bne_iff_ne.mpr c2
    by_cases c5 : a0 = 1
    · rw [if_pos c5] at H
      have c5b0 : (a0 == 1) = true := beq_iff_eq.mpr c5
      have c5b1 : (a0 != 1) = false := bne_eq_false_iff_eq.mpr c5
      clear c5
      obtain ⟨y104, hy104⟩ : ∃ y_ : List Int, y_ = (([51, 48] : List Int)) := ⟨_, rfl⟩
      replace H : (some (y104, true)) = some (r1, r2) := by first | (rw [hy104]; with_reducible exact H) | (have H2_ := (Option.bind_some _ _).symm.trans H; rw [hy104]; with_reducible exact H2_) | (have H2_ := (Option.bind_some _ _).symm.trans H; with_reducible exact H2_) | with_reducible exact H | (rw [hy104]; exact H) | exact H
      have Ny104 := Aside0.mk hy104
      clear hy104
      simp only [Option.some.injEq, Prod.mk.injEq] at H
      obtain ⟨rfl, rfl⟩ := H
      go_enter Try.func52, Try.ntmps52
      go_wp2_with (first | ((with_reducible refine gate_dst (N := 10) rfl ?_); refine Kd.R_lit (Kd.int .u8) _ 5 ?hg (N := 10) ?hd (xs := ([51, 48] : List Int)) (inner := [.int .u8 51, .int .u8 48]) (ok := fun _ => True) (okp := fun _ => True) ?hr ?hp (fun _ hk => hk) trivial (Below.refl _ _) (Nat.le_refl _) (by simp) ?_; (case hd => rfl); (case hg => rfl); (case hr => first | (go_simp; done) | (go_simp; rfl)); (case hp => exact (Reps.one (show Kd.M (Kd.int .u8) _ _ _ 51 [.int .u8 51] from rfl) (Reps.one (show Kd.M (Kd.int .u8) _ _ _ 48 [.int .u8 48] from rfl) (Reps.none _ _)))); intro v105 w6 ho7 hb hg_ hnew_; clear hg_ hnew_; (first | rw [← Ny104.out] at ho7 | (simp only [Int.reduceToNat] at ho7; rw [← Ny104.out] at ho7)); have n0_ := Aside0.mk (Kd.R_lower ho7 (below_size (by repeat (first | (with_reducible first | exact HB.out | apply below_alloc | apply pw_below_drewN | apply below_drew1) | exact HB.out)))); have n1_ := Aside0.mk (below_step (by repeat (first | (with_reducible first | exact HB.out | apply below_alloc | apply pw_below_drewN | apply below_drew1) | exact HB.out)) hb); clear HB; have HO106 := n0_; have HB := n1_; clear n0_ n1_; clear hb ho7))
      go_ret2
      exact ⟨_, by first | rfl | (simp [errW_none, errW_some] <;> rfl) | (simp [*, errW_none, errW_some] <;> rfl), by (with_reducible repeat (first | apply Kd.R_alloc | apply Kd.R_drewN | apply Kd.R_drew)); exact HO106.out, by repeat (first | (with_reducible first | exact HB.out | apply below_alloc | apply pw_below_drewN | apply below_drew1) | exact HB.out)⟩
    · rw [if_neg c5] at H
      have c5b0 : (a0 == 1) = false := beq_eq_false_iff_ne.mpr c5
      have c5b1 : (a0 != 1) = true := bne_iff_ne.mpr c5
      by_cases c8 : a0 = 2
      · rw [if_pos c8] at H
        have c8b0 : (a0 == 2) = true := beq_iff_eq.mpr c8
        have c8b1 : (a0 != 2) = false := bne_eq_false_iff_eq.mpr c8
        clear c8
        obtain ⟨y107, hy107⟩ : ∃ y_ : List Int, y_ = (([51, 49] : List Int)) := ⟨_, rfl⟩
        replace H : (some (y107, true)) = some (r1, r2) := by first | (rw [hy107]; with_reducible exact H) | (have H2_ := (Option.bind_some _ _).symm.trans H; rw [hy107]; with_reducible exact H2_) | (have H2_ := (Option.bind_some _ _).symm.trans H; with_reducible exact H2_) | with_reducible exact H | (rw [hy107]; exact H) | exact H
        have Ny107 := Aside0.mk hy107
        clear hy107
        simp only [Option.some.injEq, Prod.mk.injEq] at H
        obtain ⟨rfl, rfl⟩ := H
        go_enter Try.func52, Try.ntmps52
        go_wp2_with (first | ((with_reducible refine gate_dst (N := 13) rfl ?_); refine Kd.R_lit (Kd.int .u8) _ 5 ?hg (N := 13) ?hd (xs := ([51, 49] : List Int)) (inner := [.int .u8 51, .int .u8 49]) (ok := fun _ => True) (okp := fun _ => True) ?hr ?hp (fun _ hk => hk) trivial (Below.refl _ _) (Nat.le_refl _) (by simp) ?_; (case hd => rfl); (case hg => rfl); (case hr => first | (go_simp; done) | (go_simp; rfl)); (case hp => exact (Reps.one (show Kd.M (Kd.int .u8) _ _ _ 51 [.int .u8 51] from rfl) (Reps.one (show Kd.M (Kd.int .u8) _ _ _ 49 [.int .u8 49] from rfl) (Reps.none _ _)))); intro v108 w9 ho10 hb hg_ hnew_; clear hg_ hnew_; (first | rw [← Ny107.out] at ho10 | (simp only [Int.reduceToNat] at ho10; rw [← Ny107.out] at ho10)); have n0_ := Aside0.mk (Kd.R_lower ho10 (below_size (by repeat (first | (with_reducible first | exact HB.out | apply below_alloc | apply pw_below_drewN | apply below_drew1) | exact HB.out)))); have n1_ := Aside0.mk (below_step (by repeat (first | (with_reducible first | exact HB.out | apply below_alloc | apply pw_below_drewN | apply below_drew1) | exact HB.out)) hb); clear HB; have HO109 := n0_; have HB := n1_; clear n0_ n1_; clear hb ho10))
        go_ret2
        exact ⟨_, by first | rfl | (simp [errW_none, errW_some] <;> rfl) | (simp [*, errW_none, errW_some] <;> rfl), by (with_reducible repeat (first | apply Kd.R_alloc | apply Kd.R_drewN | apply Kd.R_drew)); exact HO109.out, by repeat (first | (with_reducible first | exact HB.out | apply below_alloc | apply pw_below_drewN | apply below_drew1) | exact HB.out)⟩
      · rw [if_neg c8] at H
        have c8b0 : (a0 == 2) = false := beq_eq_false_iff_ne.mpr c8
        have c8b1 : (a0 != 2) = true := bne_iff_ne.mpr c8
        by_cases c11 : a0 = 3
        · rw [if_pos c11] at H
          have c11b0 : (a0 == 3) = true := beq_iff_eq.mpr c11
          have c11b1 : (a0 != 3) = false := bne_eq_false_iff_eq.mpr c11
          clear c11
          obtain ⟨y110, hy110⟩ : ∃ y_ : List Int, y_ = (([51, 50] : List Int)) := ⟨_, rfl⟩
          replace H : (some (y110, true)) = some (r1, r2) := by first | (rw [hy110]; with_reducible exact H) | (have H2_ := (Option.bind_some _ _).symm.trans H; rw [hy110]; with_reducible exact H2_) | (have H2_ := (Option.bind_some _ _).symm.trans H; with_reducible exact H2_) | with_reducible exact H | (rw [hy110]; exact H) | exact H
          have Ny110 := Aside0.mk hy110
          clear hy110
          simp only [Option.some.injEq, Prod.mk.injEq] at H
          obtain ⟨rfl, rfl⟩ := H
          go_enter Try.func52, Try.ntmps52
          go_wp2_with (first | ((with_reducible refine gate_dst (N := 16) rfl ?_); refine Kd.R_lit (Kd.int .u8) _ 5 ?hg (N := 16) ?hd (xs := ([51, 50] : List Int)) (inner := [.int .u8 51, .int .u8 50]) (ok := fun _ => True) (okp := fun _ => True) ?hr ?hp (fun _ hk => hk) trivial (Below.refl _ _) (Nat.le_refl _) (by simp) ?_; (case hd => rfl); (case hg => rfl); (case hr => first | (go_simp; done) | (go_simp; rfl)); (case hp => exact (Reps.one (show Kd.M (Kd.int .u8) _ _ _ 51 [.int .u8 51] from rfl) (Reps.one (show Kd.M (Kd.int .u8) _ _ _ 50 [.int .u8 50] from rfl) (Reps.none _ _)))); intro v111 w12 ho13 hb hg_ hnew_; clear hg_ hnew_; (first | rw [← Ny110.out] at ho13 | (simp only [Int.reduceToNat] at ho13; rw [← Ny110.out] at ho13)); have n0_ := Aside0.mk (Kd.R_lower ho13 (below_size (by repeat (first | (with_reducible first | exact HB.out | apply below_alloc | apply pw_below_drewN | apply below_drew1) | exact HB.out)))); have n1_ := Aside0.mk (below_step (by repeat (first | (with_reducible first | exact HB.out | apply below_alloc | apply pw_below_drewN | apply below_drew1) | exact HB.out)) hb); clear HB; have HO112 := n0_; have HB := n1_; clear n0_ n1_; clear hb ho13))
          go_ret2
          exact ⟨_, by first | rfl | (simp [errW_none, errW_some] <;> rfl) | (simp [*, errW_none, errW_some] <;> rfl), by (with_reducible repeat (first | apply Kd.R_alloc | apply Kd.R_drewN | apply Kd.R_drew)); exact HO112.out, by repeat (first | (with_reducible first | exact HB.out | apply below_alloc | apply pw_below_drewN | apply below_drew1) | exact HB.out)⟩
        · rw [if_neg c11] at H
          have c11b0 : (a0 == 3) = false := beq_eq_false_iff_ne.mpr c11
          have c11b1 : (a0 != 3) = true := bne_iff_ne.mpr c11
          by_cases c14 : a0 = 4
          · rw [if_pos c14] at H
            have c14b0 : (a0 == 4) = true := beq_iff_eq.mpr c14
            have c14b1 : (a0 != 4) = false := bne_eq_false_iff_eq.mpr c14
            clear c14
            obtain ⟨y113, hy113⟩ : ∃ y_ : List Int, y_ = (([51, 51] : List Int)) := ⟨_, rfl⟩
            replace H : (some (y113, true)) = some (r1, r2) := by first | (rw [hy113]; with_reducible exact H) | (have H2_ := (Option.bind_some _ _).symm.trans H; rw [hy113]; with_reducible exact H2_) | (have H2_ := (Option.bind_some _ _).symm.trans H; with_reducible exact H2_) | with_reducible exact H | (rw [hy113]; exact H) | exact H
            have Ny113 := Aside0.mk hy113
            clear hy113
            simp only [Option.some.injEq, Prod.mk.injEq] at H
            obtain ⟨rfl, rfl⟩ := H
            go_enter Try.func52, Try.ntmps52
            go_wp2_with (first | ((with_reducible refine gate_dst (N := 19) rfl ?_); refine Kd.R_lit (Kd.int .u8) _ 5 ?hg (N := 19) ?hd (xs := ([51, 51] : List Int)) (inner := [.int .u8 51, .int .u8 51]) (ok := fun _ => True) (okp := fun _ => True) ?hr ?hp (fun _ hk => hk) trivial (Below.refl _ _) (Nat.le_refl _) (by simp) ?_; (case hd => rfl); (case hg => rfl); (case hr => first | (go_simp; done) | (go_simp; rfl)); (case hp => exact (Reps.one (show Kd.M (Kd.int .u8) _ _ _ 51 [.int .u8 51] from rfl) (Reps.one (show Kd.M (Kd.int .u8) _ _ _ 51 [.int .u8 51] from rfl) (Reps.none _ _)))); intro v114 w15 ho16 hb hg_ hnew_; clear hg_ hnew_; (first | rw [← Ny113.out] at ho16 | (simp only [Int.reduceToNat] at ho16; rw [← Ny113.out] at ho16)); have n0_ := Aside0.mk (Kd.R_lower ho16 (below_size (by repeat (first | (with_reducible first | exact HB.out | apply below_alloc | apply pw_below_drewN | apply below_drew1) | exact HB.out)))); have n1_ := Aside0.mk (below_step (by repeat (first | (with_reducible first | exact HB.out | apply below_alloc | apply pw_below_drewN | apply below_drew1) | exact HB.out)) hb); clear HB; have HO115 := n0_; have HB := n1_; clear n0_ n1_; clear hb ho16))
            go_ret2
            exact ⟨_, by first | rfl | (simp [errW_none, errW_some] <;> rfl) | (simp [*, errW_none, errW_some] <;> rfl), by (with_reducible repeat (first | apply Kd.R_alloc | apply Kd.R_drewN | apply Kd.R_drew)); exact HO115.out, by repeat (first | (with_reducible first | exact HB.out | apply below_alloc | apply pw_below_drewN | apply below_drew1) | exact HB.out)⟩
          · rw [if_neg c14] at H
            have c14b0 : (a0 == 4) = false := beq_eq_false_iff_ne.mpr c14
            have c14b1 : (a0 != 4) = true := bne_iff_ne.mpr c14
            by_cases c17 : a0 = 5
            · rw [if_pos c17] at H
              have c17b0 : (a0 == 5) = true := beq_iff_eq.mpr c17
              have c17b1 : (a0 != 5) = false := bne_eq_false_iff_eq.mpr c17
              clear c17
              obtain ⟨y116, hy116⟩ : ∃ y_ : List Int, y_ = (([51, 52] : List Int)) := ⟨_, rfl⟩
              replace H : (some (y116, true)) = some (r1, r2) := by first | (rw [hy116]; with_reducible exact H) | (have H2_ := (Option.bind_some _ _).symm.trans H; rw [hy116]; with_reducible exact H2_) | (have H2_ := (Option.bind_some _ _).symm.trans H; with_reducible exact H2_) | with_reducible exact H | (rw [hy116]; exact H) | exact H
              have Ny116 := Aside0.mk hy116
              clear hy116
              simp only [Option.some.injEq, Prod.mk.injEq] at H
              obtain ⟨rfl, rfl⟩ := H
              go_enter Try.func52, Try.ntmps52
              go_wp2_with (first | ((with_reducible refine gate_dst (N := 22) rfl ?_); refine Kd.R_lit (Kd.int .u8) _ 5 ?hg (N := 22) ?hd (xs := ([51, 52] : List Int)) (inner := [.int .u8 51, .int .u8 52]) (ok := fun _ => True) (okp := fun _ => True) ?hr ?hp (fun _ hk => hk) trivial (Below.refl _ _) (Nat.le_refl _) (by simp) ?_; (case hd => rfl); (case hg => rfl); (case hr => first | (go_simp; done) | (go_simp; rfl)); (case hp => exact (Reps.one (show Kd.M (Kd.int .u8) _ _ _ 51 [.int .u8 51] from rfl) (Reps.one (show Kd.M (Kd.int .u8) _ _ _ 52 [.int .u8 52] from rfl) (Reps.none _ _)))); intro v117 w18 ho19 hb hg_ hnew_; clear hg_ hnew_; (first | rw [← Ny116.out] at ho19 | (simp only [Int.reduceToNat] at ho19; rw [← Ny116.out] at ho19)); have n0_ := Aside0.mk (Kd.R_lower ho19 (below_size (by repeat (first | (with_reducible first | exact HB.out | apply below_alloc | apply pw_below_drewN | apply below_drew1) | exact HB.out)))); have n1_ := Aside0.mk (below_step (by repeat (first | (with_reducible first | exact HB.out | apply below_alloc | apply pw_below_drewN | apply below_drew1) | exact HB.out)) hb); clear HB; have HO118 := n0_; have HB := n1_; clear n0_ n1_; clear hb ho19))
              go_ret2
              exact ⟨_, by first | rfl | (simp [errW_none, errW_some] <;> rfl) | (simp [*, errW_none, errW_some] <;> rfl), by (with_reducible repeat (first | apply Kd.R_alloc | apply Kd.R_drewN | apply Kd.R_drew)); exact HO118.out, by repeat (first | (with_reducible first | exact HB.out | apply below_alloc | apply pw_below_drewN | apply below_drew1) | exact HB.out)⟩
            · rw [if_neg c17] at H
              have c17b0 : (a0 == 5) = false := beq_eq_false_iff_ne.mpr c17
              have c17b1 : (a0 != 5) = true := bne_iff_ne.mpr c17
              by_cases c20 : a0 = 6
              · rw [if_pos c20] at H
                have c20b0 : (a0 == 6) = true := beq_iff_eq.mpr c20
                have c20b1 : (a0 != 6) = false := bne_eq_false_iff_eq.mpr c20
                clear c20
                obtain ⟨y119, hy119⟩ : ∃ y_ : List Int, y_ = (([51, 53] : List Int)) := ⟨_, rfl⟩
                replace H : (some (y119, true)) = some (r1, r2) := by first | (rw [hy119]; with_reducible exact H) | (have H2_ := (Option.bind_some _ _).symm.trans H; rw [hy119]; with_reducible exact H2_) | (have H2_ := (Option.bind_some _ _).symm.trans H; with_reducible exact H2_) | with_reducible exact H | (rw [hy119]; exact H) | exact H
                have Ny119 := Aside0.mk hy119
                clear hy119
                simp only [Option.some.injEq, Prod.mk.injEq] at H
                obtain ⟨rfl, rfl⟩ := H
                go_enter Try.func52, Try.ntmps52
                go_wp2_with (first | ((with_reducible refine gate_dst (N := 25) rfl ?_); refine Kd.R_lit (Kd.int .u8) _ 5 ?hg (N := 25) ?hd (xs := ([51, 53] : List Int)) (inner := [.int .u8 51, .int .u8 53]) (ok := fun _ => True) (okp := fun _ => True) ?hr ?hp (fun _ hk => hk) trivial (Below.refl _ _) (Nat.le_refl _) (by simp) ?_; (case hd => rfl); (case hg => rfl); (case hr => first | (go_simp; done) | (go_simp; rfl)); (case hp => exact (Reps.one (show Kd.M (Kd.int .u8) _ _ _ 51 [.int .u8 51] from rfl) (Reps.one (show Kd.M (Kd.int .u8) _ _ _ 53 [.int .u8 53] from rfl) (Reps.none _ _)))); intro v120 w21 ho22 hb hg_ hnew_; clear hg_ hnew_; (first | rw [← Ny119.out] at ho22 | (simp only [Int.reduceToNat] at ho22; rw [← Ny119.out] at ho22)); have n0_ := Aside0.mk (Kd.R_lower ho22 (below_size (by repeat (first | (with_reducible first | exact HB.out | apply below_alloc | apply pw_below_drewN | apply below_drew1) | exact HB.out)))); have n1_ := Aside0.mk (below_step (by repeat (first | (with_reducible first | exact HB.out | apply below_alloc | apply pw_below_drewN | apply below_drew1) | exact HB.out)) hb); clear HB; have HO121 := n0_; have HB := n1_; clear n0_ n1_; clear hb ho22))
                go_ret2
                exact ⟨_, by first | rfl | (simp [errW_none, errW_some] <;> rfl) | (simp [*, errW_none, errW_some] <;> rfl), by (with_reducible repeat (first | apply Kd.R_alloc | apply Kd.R_drewN | apply Kd.R_drew)); exact HO121.out, by repeat (first | (with_reducible first | exact HB.out | apply below_alloc | apply pw_below_drewN | apply below_drew1) | exact HB.out)⟩
              · rw [if_neg c20] at H
                have c20b0 : (a0 == 6) = false := beq_eq_false_iff_ne.mpr c20
                have c20b1 : (a0 != 6) = true := bne_iff_ne.mpr c20
                by_cases c23 : a0 = 7
                · rw [if_pos c23] at H
                  have c23b0 : (a0 == 7) = true := beq_iff_eq.mpr c23
                  have c23b1 : (a0 != 7) = false := bne_eq_false_iff_eq.mpr c23
                  clear c23
                  obtain ⟨y122, hy122⟩ : ∃ y_ : List Int, y_ = (([51, 54] : List Int)) := ⟨_, rfl⟩
                  replace H : (some (y122, true)) = some (r1, r2) := by first | (rw [hy122]; with_reducible exact H) | (have H2_ := (Option.bind_some _ _).symm.trans H; rw [hy122]; with_reducible exact H2_) | (have H2_ := (Option.bind_some _ _).symm.trans H; with_reducible exact H2_) | with_reducible exact H | (rw [hy122]; exact H) | exact H
                  have Ny122 := Aside0.mk hy122
                  clear hy122
                  simp only [Option.some.injEq, Prod.mk.injEq] at H
                  obtain ⟨rfl, rfl⟩ := H
                  go_enter Try.func52, Try.ntmps52
                  go_wp2_with (first | ((with_reducible refine gate_dst (N := 28) rfl ?_); refine Kd.R_lit (Kd.int .u8) _ 5 ?hg (N := 28) ?hd (xs := ([51, 54] : List Int)) (inner := [.int .u8 51, .int .u8 54]) (ok := fun _ => True) (okp := fun _ => True) ?hr ?hp (fun _ hk => hk) trivial (Below.refl _ _) (Nat.le_refl _) (by simp) ?_; (case hd => rfl); (case hg => rfl); (case hr => first | (go_simp; done) | (go_simp; rfl)); (case hp => exact (Reps.one (show Kd.M (Kd.int .u8) _ _ _ 51 [.int .u8 51] from rfl) (Reps.one (show Kd.M (Kd.int .u8) _ _ _ 54 [.int .u8 54] from rfl) (Reps.none _ _)))); intro v123 w24 ho25 hb hg_ hnew_; clear hg_ hnew_; (first | rw [← Ny122.out] at ho25 | (simp only [Int.reduceToNat] at ho25; rw [← Ny122.out] at ho25)); have n0_ := Aside0.mk (Kd.R_lower ho25 (below_size (by repeat (first | (with_reducible first | exact HB.out | apply below_alloc | apply pw_below_drewN | apply below_drew1) | exact HB.out)))); have n1_ := Aside0.mk (below_step (by repeat (first | (with_reducible first | exact HB.out | apply below_alloc | apply pw_below_drewN | apply below_drew1) | exact HB.out)) hb); clear HB; have HO124 := n0_; have HB := n1_; clear n0_ n1_; clear hb ho25))
                  go_ret2
                  exact ⟨_, by first | rfl | (simp [errW_none, errW_some] <;> rfl) | (simp [*, errW_none, errW_some] <;> rfl), by (with_reducible repeat (first | apply Kd.R_alloc | apply Kd.R_drewN | apply Kd.R_drew)); exact HO124.out, by repeat (first | (with_reducible first | exact HB.out | apply below_alloc | apply pw_below_drewN | apply below_drew1) | exact HB.out)⟩
                · rw [if_neg c23] at H
                  have c23b0 : (a0 == 7) = false := beq_eq_false_iff_ne.mpr c23
                  have c23b1 : (a0 != 7) = true := bne_iff_ne.mpr c23
                  by_cases c26 : a0 = 8
                  · rw [if_pos c26] at H
                    have c26b0 : (a0 == 8) = true := beq_iff_eq.mpr c26
                    have c26b1 : (a0 != 8) = false := bne_eq_false_iff_eq.mpr c26
                    clear c26
                    obtain ⟨y125, hy125⟩ : ∃ y_ : List Int, y_ = (([51, 55] : List Int)) := ⟨_, rfl⟩
                    replace H : (some (y125, true)) = some (r1, r2) := by first | (rw [hy125]; with_reducible exact H) | (have H2_ := (Option.bind_some _ _).symm.trans H; rw [hy125]; with_reducible exact H2_) | (have H2_ := (Option.bind_some _ _).symm.trans H; with_reducible exact H2_) | with_reducible exact H | (rw [hy125]; exact H) | exact H
                    have Ny125 := Aside0.mk hy125
                    clear hy125
                    simp only [Option.some.injEq, Prod.mk.injEq] at H
                    obtain ⟨rfl, rfl⟩ := H
                    go_enter Try.func52, Try.ntmps52
                    go_wp2_with (first | ((with_reducible refine gate_dst (N := 31) rfl ?_); refine Kd.R_lit (Kd.int .u8) _ 5 ?hg (N := 31) ?hd (xs := ([51, 55] : List Int)) (inner := [.int .u8 51, .int .u8 55]) (ok := fun _ => True) (okp := fun _ => True) ?hr ?hp (fun _ hk => hk) trivial (Below.refl _ _) (Nat.le_refl _) (by simp) ?_; (case hd => rfl); (case hg => rfl); (case hr => first | (go_simp; done) | (go_simp; rfl)); (case hp => exact (Reps.one (show Kd.M (Kd.int .u8) _ _ _ 51 [.int .u8 51] from rfl) (Reps.one (show Kd.M (Kd.int .u8) _ _ _ 55 [.int .u8 55] from rfl) (Reps.none _ _)))); intro v126 w27 ho28 hb hg_ hnew_; clear hg_ hnew_; (first | rw [← Ny125.out] at ho28 | (simp only [Int.reduceToNat] at ho28; rw [← Ny125.out] at ho28)); have n0_ := Aside0.mk (Kd.R_lower ho28 (below_size (by repeat (first | (with_reducible first | exact HB.out | apply below_alloc | apply pw_below_drewN | apply below_drew1) | exact HB.out)))); have n1_ := Aside0.mk (below_step (by repeat (first | (with_reducible first | exact HB.out | apply below_alloc | apply pw_below_drewN | apply below_drew1) | exact HB.out)) hb); clear HB; have HO127 := n0_; have HB := n1_; clear n0_ n1_; clear hb ho28))
                    go_ret2
                    exact ⟨_, by first | rfl | (simp [errW_none, errW_some] <;> rfl) | (simp [*, errW_none, errW_some] <;> rfl), by (with_reducible repeat (first | apply Kd.R_alloc | apply Kd.R_drewN | apply Kd.R_drew)); exact HO127.out, by repeat (first | (with_reducible first | exact HB.out | apply below_alloc | apply pw_below_drewN | apply below_drew1) | exact HB.out)⟩
                  · rw [if_neg c26] at H
                    have c26b0 : (a0 == 8) = false := beq_eq_false_iff_ne.mpr c26
                    have c26b1 : (a0 != 8) = true := bne_iff_ne.mpr c26
                    by_cases c29 : a0 = 9
                    · rw [if_pos c29] at H
                      have c29b0 : (a0 == 9) = true := beq_iff_eq.mpr c29
                      have c29b1 : (a0 != 9) = false := bne_eq_false_iff_eq.mpr c29
                      clear c29
                      obtain ⟨y128, hy128⟩ : ∃ y_ : List Int, y_ = (([57, 48] : List Int)) := ⟨_, rfl⟩
                      replace H : (some (y128, true)) = some (r1, r2) := by first | (rw [hy128]; with_reducible exact H) | (have H2_ := (Option.bind_some _ _).symm.trans H; rw [hy128]; with_reducible exact H2_) | (have H2_ := (Option.bind_some _ _).symm.trans H; with_reducible exact H2_) | with_reducible exact H | (rw [hy128]; exact H) | exact H
                      have Ny128 := Aside0.mk hy128
                      clear hy128
                      simp only [Option.some.injEq, Prod.mk.injEq] at H
                      obtain ⟨rfl, rfl⟩ := H
                      go_enter Try.func52, Try.ntmps52
                      go_wp2_with (first | ((with_reducible refine gate_dst (N := 34) rfl ?_); refine Kd.R_lit (Kd.int .u8) _ 5 ?hg (N := 34) ?hd (xs := ([57, 48] : List Int)) (inner := [.int .u8 57, .int .u8 48]) (ok := fun _ => True) (okp := fun _ => True) ?hr ?hp (fun _ hk => hk) trivial (Below.refl _ _) (Nat.le_refl _) (by simp) ?_; (case hd => rfl); (case hg => rfl); (case hr => first | (go_simp; done) | (go_simp; rfl)); (case hp => exact (Reps.one (show Kd.M (Kd.int .u8) _ _ _ 57 [.int .u8 57] from rfl) (Reps.one (show Kd.M (Kd.int .u8) _ _ _ 48 [.int .u8 48] from rfl) (Reps.none _ _)))); intro v129 w30 ho31 hb hg_ hnew_; clear hg_ hnew_; (first | rw [← Ny128.out] at ho31 | (simp only [Int.reduceToNat] at ho31; rw [← Ny128.out] at ho31)); have n0_ := Aside0.mk (Kd.R_lower ho31 (below_size (by repeat (first | (with_reducible first | exact HB.out | apply below_alloc | apply pw_below_drewN | apply below_drew1) | exact HB.out)))); have n1_ := Aside0.mk (below_step (by repeat (first | (with_reducible first | exact HB.out | apply below_alloc | apply pw_below_drewN | apply below_drew1) | exact HB.out)) hb); clear HB; have HO130 := n0_; have HB := n1_; clear n0_ n1_; clear hb ho31))
                      go_ret2
                      exact ⟨_, by first | rfl | (simp [errW_none, errW_some] <;> rfl) | (simp [*, errW_none, errW_some] <;> rfl), by (with_reducible repeat (first | apply Kd.R_alloc | apply Kd.R_drewN | apply Kd.R_drew)); exact HO130.out, by repeat (first | (with_reducible first | exact HB.out | apply below_alloc | apply pw_below_drewN | apply below_drew1) | exact HB.out)⟩
                    · rw [if_neg c29] at H
                      have c29b0 : (a0 == 9) = false := beq_eq_false_iff_ne.mpr c29
                      have c29b1 : (a0 != 9) = true := bne_iff_ne.mpr c29
                      by_cases c32 : a0 = 10
                      · rw [if_pos c32] at H
                        have c32b0 : (a0 == 10) = true := beq_iff_eq.mpr c32
                        have c32b1 : (a0 != 10) = false := bne_eq_false_iff_eq.mpr c32
                        clear c32
                        obtain ⟨y131, hy131⟩ : ∃ y_ : List Int, y_ = (([57, 49] : List Int)) := ⟨_, rfl⟩
                        replace H : (some (y131, true)) = some (r1, r2) := by first | (rw [hy131]; with_reducible exact H) | (have H2_ := (Option.bind_some _ _).symm.trans H; rw [hy131]; with_reducible exact H2_) | (have H2_ := (Option.bind_some _ _).symm.trans H; with_reducible exact H2_) | with_reducible exact H | (rw [hy131]; exact H) | exact H
                        have Ny131 := Aside0.mk hy131
                        clear hy131
                        simp only [Option.some.injEq, Prod.mk.injEq] at H
                        obtain ⟨rfl, rfl⟩ := H
                        go_enter Try.func52, Try.ntmps52
                        go_wp2_with (first | ((with_reducible refine gate_dst (N := 37) rfl ?_); refine Kd.R_lit (Kd.int .u8) _ 5 ?hg (N := 37) ?hd (xs := ([57, 49] : List Int)) (inner := [.int .u8 57, .int .u8 49]) (ok := fun _ => True) (okp := fun _ => True) ?hr ?hp (fun _ hk => hk) trivial (Below.refl _ _) (Nat.le_refl _) (by simp) ?_; (case hd => rfl); (case hg => rfl); (case hr => first | (go_simp; done) | (go_simp; rfl)); (case hp => exact (Reps.one (show Kd.M (Kd.int .u8) _ _ _ 57 [.int .u8 57] from rfl) (Reps.one (show Kd.M (Kd.int .u8) _ _ _ 49 [.int .u8 49] from rfl) (Reps.none _ _)))); intro v132 w33 ho34 hb hg_ hnew_; clear hg_ hnew_; (first | rw [← Ny131.out] at ho34 | (simp only [Int.reduceToNat] at ho34; rw [← Ny131.out] at ho34)); have n0_ := Aside0.mk (Kd.R_lower ho34 (below_size (by repeat (first | (with_reducible first | exact HB.out | apply below_alloc | apply pw_below_drewN | apply below_drew1) | exact HB.out)))); have n1_ := Aside0.mk (below_step (by repeat (first | (with_reducible first | exact HB.out | apply below_alloc | apply pw_below_drewN | apply below_drew1) | exact HB.out)) hb); clear HB; have HO133 := n0_; have HB := n1_; clear n0_ n1_; clear hb ho34))
                        go_ret2
                        exact ⟨_, by first | rfl | (simp [errW_none, errW_some] <;> rfl) | (simp [*, errW_none, errW_some] <;> rfl), by (with_reducible repeat (first | apply Kd.R_alloc | apply Kd.R_drewN | apply Kd.R_drew)); exact HO133.out, by repeat (first | (with_reducible first | exact HB.out | apply below_alloc | apply pw_below_drewN | apply below_drew1) | exact HB.out)⟩
                      · rw [if_neg c32] at H
                        have c32b0 : (a0 == 10) = false := beq_eq_false_iff_ne.mpr c32
                        have c32b1 : (a0 != 10) = true := bne_iff_ne.mpr c32
                        by_cases c35 : a0 = 11
                        · rw [if_pos c35] at H
                          have c35b0 : (a0 == 11) = true := beq_iff_eq.mpr c35
                          have c35b1 : (a0 != 11) = false := bne_eq_false_iff_eq.mpr c35
                          clear c35
                          obtain ⟨y134, hy134⟩ : ∃ y_ : List Int, y_ = (([57, 50] : List Int)) := ⟨_, rfl⟩
                          replace H : (some (y134, true)) = some (r1, r2) := by first | (rw [hy134]; with_reducible exact H) | (have H2_ := (Option.bind_some _ _).symm.trans H; rw [hy134]; with_reducible exact H2_) | (have H2_ := (Option.bind_some _ _).symm.trans H; with_reducible exact H2_) | with_reducible exact H | (rw [hy134]; exact H) | exact H
                          have Ny134 := Aside0.mk hy134
                          clear hy134
                          simp only [Option.some.injEq, Prod.mk.injEq] at H
                          obtain ⟨rfl, rfl⟩ := H
                          go_enter Try.func52, Try.ntmps52
                          go_wp2_with (first | ((with_reducible refine gate_dst (N := 40) rfl ?_); refine Kd.R_lit (Kd.int .u8) _ 5 ?hg (N := 40) ?hd (xs := ([57, 50] : List Int)) (inner := [.int .u8 57, .int .u8 50]) (ok := fun _ => True) (okp := fun _ => True) ?hr ?hp (fun _ hk => hk) trivial (Below.refl _ _) (Nat.le_refl _) (by simp) ?_; (case hd => rfl); (case hg => rfl); (case hr => first | (go_simp; done) | (go_simp; rfl)); (case hp => exact (Reps.one (show Kd.M (Kd.int .u8) _ _ _ 57 [.int .u8 57] from rfl) (Reps.one (show Kd.M (Kd.int .u8) _ _ _ 50 [.int .u8 50] from rfl) (Reps.none _ _)))); intro v135 w36 ho37 hb hg_ hnew_; clear hg_ hnew_; (first | rw [← Ny134.out] at ho37 | (simp only [Int.reduceToNat] at ho37; rw [← Ny134.out] at ho37)); have n0_ := Aside0.mk (Kd.R_lower ho37 (below_size (by repeat (first | (with_reducible first | exact HB.out | apply below_alloc | apply pw_below_drewN | apply below_drew1) | exact HB.out)))); have n1_ := Aside0.mk (below_step (by repeat (first | (with_reducible first | exact HB.out | apply below_alloc | apply pw_below_drewN | apply below_drew1) | exact HB.out)) hb); clear HB; have HO136 := n0_; have HB := n1_; clear n0_ n1_; clear hb ho37))
                          go_ret2
                          exact ⟨_, by first | rfl | (simp [errW_none, errW_some] <;> rfl) | (simp [*, errW_none, errW_some] <;> rfl), by (with_reducible repeat (first | apply Kd.R_alloc | apply Kd.R_drewN | apply Kd.R_drew)); exact HO136.out, by repeat (first | (with_reducible first | exact HB.out | apply below_alloc | apply pw_below_drewN | apply below_drew1) | exact HB.out)⟩
                        · rw [if_neg c35] at H
                          have c35b0 : (a0 == 11) = false := beq_eq_false_iff_ne.mpr c35
                          have c35b1 : (a0 != 11) = true := bne_iff_ne.mpr c35
                          by_cases c38 : a0 = 12
                          · rw [if_pos c38] at H
                            have c38b0 : (a0 == 12) = true := beq_iff_eq.mpr c38
                            have c38b1 : (a0 != 12) = false := bne_eq_false_iff_eq.mpr c38
                            clear c38
                            obtain ⟨y137, hy137⟩ : ∃ y_ : List Int, y_ = (([57, 51] : List Int)) := ⟨_, rfl⟩
                            replace H : (some (y137, true)) = some (r1, r2) := by first | (rw [hy137]; with_reducible exact H) | (have H2_ := (Option.bind_some _ _).symm.trans H; rw [hy137]; with_reducible exact H2_) | (have H2_ := (Option.bind_some _ _).symm.trans H; with_reducible exact H2_) | with_reducible exact H | (rw [hy137]; exact H) | exact H
                            have Ny137 := Aside0.mk hy137
                            clear hy137
                            simp only [Option.some.injEq, Prod.mk.injEq] at H
                            obtain ⟨rfl, rfl⟩ := H
                            go_enter Try.func52, Try.ntmps52
                            go_wp2_with (first | ((with_reducible refine gate_dst (N := 43) rfl ?_); refine Kd.R_lit (Kd.int .u8) _ 5 ?hg (N := 43) ?hd (xs := ([57, 51] : List Int)) (inner := [.int .u8 57, .int .u8 51]) (ok := fun _ => True) (okp := fun _ => True) ?hr ?hp (fun _ hk => hk) trivial (Below.refl _ _) (Nat.le_refl _) (by simp) ?_; (case hd => rfl); (case hg => rfl); (case hr => first | (go_simp; done) | (go_simp; rfl)); (case hp => exact (Reps.one (show Kd.M (Kd.int .u8) _ _ _ 57 [.int .u8 57] from rfl) (Reps.one (show Kd.M (Kd.int .u8) _ _ _ 51 [.int .u8 51] from rfl) (Reps.none _ _)))); intro v138 w39 ho40 hb hg_ hnew_; clear hg_ hnew_; (first | rw [← Ny137.out] at ho40 | (simp only [Int.reduceToNat] at ho40; rw [← Ny137.out] at ho40)); have n0_ := Aside0.mk (Kd.R_lower ho40 (below_size (by repeat (first | (with_reducible first | exact HB.out | apply below_alloc | apply pw_below_drewN | apply below_drew1) | exact HB.out)))); have n1_ := Aside0.mk (below_step (by repeat (first | (with_reducible first | exact HB.out | apply below_alloc | apply pw_below_drewN | apply below_drew1) | exact HB.out)) hb); clear HB; have HO139 := n0_; have HB := n1_; clear n0_ n1_; clear hb ho40))
                            go_ret2
                            exact ⟨_, by first | rfl | (simp [errW_none, errW_some] <;> rfl) | (simp [*, errW_none, errW_some] <;> rfl), by (with_reducible repeat (first | apply Kd.R_alloc | apply Kd.R_drewN | apply Kd.R_drew)); exact HO139.out, by repeat (first | (with_reducible first | exact HB.out | apply below_alloc | apply pw_below_drewN | apply below_drew1) | exact HB.out)⟩
                          · rw [if_neg c38] at H
                            have c38b0 : (a0 == 12) = false := beq_eq_false_iff_ne.mpr c38
                            have c38b1 : (a0 != 12) = true := bne_iff_ne.mpr c38
                            by_cases c41 : a0 = 13
                            · rw [if_pos c41] at H
                              have c41b0 : (a0 == 13) = true := beq_iff_eq.mpr c41
                              have c41b1 : (a0 != 13) = false := bne_eq_false_iff_eq.mpr c41
                              clear c41
                              obtain ⟨y140, hy140⟩ : ∃ y_ : List Int, y_ = (([57, 52] : List Int)) := ⟨_, rfl⟩
                              replace H : (some (y140, true)) = some (r1, r2) := by first | (rw [hy140]; with_reducible exact H) | (have H2_ := (Option.bind_some _ _).symm.trans H; rw [hy140]; with_reducible exact H2_) | (have H2_ := (Option.bind_some _ _).symm.trans H; with_reducible exact H2_) | with_reducible exact H | (rw [hy140]; exact H) | exact H
                              have Ny140 := Aside0.mk hy140
                              clear hy140
                              simp only [Option.some.injEq, Prod.mk.injEq] at H
                              obtain ⟨rfl, rfl⟩ := H
                              go_enter Try.func52, Try.ntmps52
                              go_wp2_with (first | ((with_reducible refine gate_dst (N := 46) rfl ?_); refine Kd.R_lit (Kd.int .u8) _ 5 ?hg (N := 46) ?hd (xs := ([57, 52] : List Int)) (inner := [.int .u8 57, .int .u8 52]) (ok := fun _ => True) (okp := fun _ => True) ?hr ?hp (fun _ hk => hk) trivial (Below.refl _ _) (Nat.le_refl _) (by simp) ?_; (case hd => rfl); (case hg => rfl); (case hr => first | (go_simp; done) | (go_simp; rfl)); (case hp => exact (Reps.one (show Kd.M (Kd.int .u8) _ _ _ 57 [.int .u8 57] from rfl) (Reps.one (show Kd.M (Kd.int .u8) _ _ _ 52 [.int .u8 52] from rfl) (Reps.none _ _)))); intro v141 w42 ho43 hb hg_ hnew_; clear hg_ hnew_; (first | rw [← Ny140.out] at ho43 | (simp only [Int.reduceToNat] at ho43; rw [← Ny140.out] at ho43)); have n0_ := Aside0.mk (Kd.R_lower ho43 (below_size (by repeat (first | (with_reducible first | exact HB.out | apply below_alloc | apply pw_below_drewN | apply below_drew1) | exact HB.out)))); have n1_ := Aside0.mk (below_step (by repeat (first | (with_reducible first | exact HB.out | apply below_alloc | apply pw_below_drewN | apply below_drew1) | exact HB.out)) hb); clear HB; have HO142 := n0_; have HB := n1_; clear n0_ n1_; clear hb ho43))
                              go_ret2
                              exact ⟨_, by first | rfl | (simp [errW_none, errW_some] <;> rfl) | (simp [*, errW_none, errW_some] <;> rfl), by (with_reducible repeat (first | apply Kd.R_alloc | apply Kd.R_drewN | apply Kd.R_drew)); exact HO142.out, by repeat (first | (with_reducible first | exact HB.out | apply below_alloc | apply pw_below_drewN | apply below_drew1) | exact HB.out)⟩
                            · rw [if_neg c41] at H
                              have c41b0 : (a0 == 13) = false := beq_eq_false_iff_ne.mpr c41
                              have c41b1 : (a0 != 13) = true := bne_iff_ne.mpr c41
                              by_cases c44 : a0 = 14
                              · rw [if_pos c44] at H
                                have c44b0 : (a0 == 14) = true := beq_iff_eq.mpr c44
                                have c44b1 : (a0 != 14) = false := bne_eq_false_iff_eq.mpr c44
                                clear c44
                                obtain ⟨y143, hy143⟩ : ∃ y_ : List Int, y_ = (([57, 53] : List Int)) := ⟨_, rfl⟩
                                replace H : (some (y143, true)) = some (r1, r2) := by first | (rw [hy143]; with_reducible exact H) | (have H2_ := (Option.bind_some _ _).symm.trans H; rw [hy143]; with_reducible exact H2_) | (have H2_ := (Option.bind_some _ _).symm.trans H; with_reducible exact H2_) | with_reducible exact H | (rw [hy143]; exact H) | exact H
                                have Ny143 := Aside0.mk hy143
                                clear hy143
                                simp only [Option.some.injEq, Prod.mk.injEq] at H
                                obtain ⟨rfl, rfl⟩ := H
                                go_enter Try.func52, Try.ntmps52
                                go_wp2_with (first | ((with_reducible refine gate_dst (N := 49) rfl ?_); refine Kd.R_lit (Kd.int .u8) _ 5 ?hg (N := 49) ?hd (xs := ([57, 53] : List Int)) (inner := [.int .u8 57, .int .u8 53]) (ok := fun _ => True) (okp := fun _ => True) ?hr ?hp (fun _ hk => hk) trivial (Below.refl _ _) (Nat.le_refl _) (by simp) ?_; (case hd => rfl); (case hg => rfl); (case hr => first | (go_simp; done) | (go_simp; rfl)); (case hp => exact (Reps.one (show Kd.M (Kd.int .u8) _ _ _ 57 [.int .u8 57] from rfl) (Reps.one (show Kd.M (Kd.int .u8) _ _ _ 53 [.int .u8 53] from rfl) (Reps.none _ _)))); intro v144 w45 ho46 hb hg_ hnew_; clear hg_ hnew_; (first | rw [← Ny143.out] at ho46 | (simp only [Int.reduceToNat] at ho46; rw [← Ny143.out] at ho46)); have n0_ := Aside0.mk (Kd.R_lower ho46 (below_size (by repeat (first | (with_reducible first | exact HB.out | apply below_alloc | apply pw_below_drewN | apply below_drew1) | exact HB.out)))); have n1_ := Aside0.mk (below_step (by repeat (first | (with_reducible first | exact HB.out | apply below_alloc | apply pw_below_drewN | apply below_drew1) | exact HB.out)) hb); clear HB; have HO145 := n0_; have HB := n1_; clear n0_ n1_; clear hb ho46))
                                go_ret2
                                exact ⟨_, by first | rfl | (simp [errW_none, errW_some] <;> rfl) | (simp [*, errW_none, errW_some] <;> rfl), by (with_reducible repeat (first | apply Kd.R_alloc | apply Kd.R_drewN | apply Kd.R_drew)); exact HO145.out, by repeat (first | (with_reducible first | exact HB.out | apply below_alloc | apply pw_below_drewN | apply below_drew1) | exact HB.out)⟩
                              · rw [if_neg c44] at H
                                have c44b0 : (a0 == 14) = false := beq_eq_false_iff_ne.mpr c44
                                have c44b1 : (a0 != 14) = true := bne_iff_ne.mpr c44
                                by_cases c47 : a0 = 15
                                · rw [if_pos c47] at H
                                  have c47b0 : (a0 == 15) = true := beq_iff_eq.mpr c47
                                  have c47b1 : (a0 != 15) = false := bne_eq_false_iff_eq.mpr c47
                                  clear c47
                                  obtain ⟨y146, hy146⟩ : ∃ y_ : List Int, y_ = (([57, 54] : List Int)) := ⟨_, rfl⟩
                                  replace H : (some (y146, true)) = some (r1, r2) := by first | (rw [hy146]; with_reducible exact H) | (have H2_ := (Option.bind_some _ _).symm.trans H; rw [hy146]; with_reducible exact H2_) | (have H2_ := (Option.bind_some _ _).symm.trans H; with_reducible exact H2_) | with_reducible exact H | (rw [hy146]; exact H) | exact H
                                  have Ny146 := Aside0.mk hy146
                                  clear hy146
                                  simp only [Option.some.injEq, Prod.mk.injEq] at H
                                  obtain ⟨rfl, rfl⟩ := H
                                  go_enter Try.func52, Try.ntmps52
                                  go_wp2_with (first | ((with_reducible refine gate_dst (N := 52) rfl ?_); refine Kd.R_lit (Kd.int .u8) _ 5 ?hg (N := 52) ?hd (xs := ([57, 54] : List Int)) (inner := [.int .u8 57, .int .u8 54]) (ok := fun _ => True) (okp := fun _ => True) ?hr ?hp (fun _ hk => hk) trivial (Below.refl _ _) (Nat.le_refl _) (by simp) ?_; (case hd => rfl); (case hg => rfl); (case hr => first | (go_simp; done) | (go_simp; rfl)); (case hp => exact (Reps.one (show Kd.M (Kd.int .u8) _ _ _ 57 [.int .u8 57] from rfl) (Reps.one (show Kd.M (Kd.int .u8) _ _ _ 54 [.int .u8 54] from rfl) (Reps.none _ _)))); intro v147 w48 ho49 hb hg_ hnew_; clear hg_ hnew_; (first | rw [← Ny146.out] at ho49 | (simp only [Int.reduceToNat] at ho49; rw [← Ny146.out] at ho49)); have n0_ := Aside0.mk (Kd.R_lower ho49 (below_size (by repeat (first | (with_reducible first | exact HB.out | apply below_alloc | apply pw_below_drewN | apply below_drew1) | exact HB.out)))); have n1_ := Aside0.mk (below_step (by repeat (first | (with_reducible first | exact HB.out | apply below_alloc | apply pw_below_drewN | apply below_drew1) | exact HB.out)) hb); clear HB; have HO148 := n0_; have HB := n1_; clear n0_ n1_; clear hb ho49))
                                  go_ret2
                                  exact ⟨_, by first | rfl | (simp [errW_none, errW_some] <;> rfl) | (simp [*, errW_none, errW_some] <;> rfl), by (with_reducible repeat (first | apply Kd.R_alloc | apply Kd.R_drewN | apply Kd.R_drew)); exact HO148.out, by repeat (first | (with_reducible first | exact HB.out | apply below_alloc | apply pw_below_drewN | apply below_drew1) | exact HB.out)⟩
                                · rw [if_neg c47] at H
                                  have c47b0 : (a0 == 15) = false := beq_eq_false_iff_ne.mpr c47
                                  have c47b1 : (a0 != 15) = true := bne_iff_ne.mpr c47
                                  by_cases c50 : a0 = 16
                                  · rw [if_pos c50] at H
                                    have c50b0 : (a0 == 16) = true := beq_iff_eq.mpr c50
                                    have c50b1 : (a0 != 16) = false := bne_eq_false_iff_eq.mpr c50
                                    clear c50
                                    obtain ⟨y149, hy149⟩ : ∃ y_ : List Int, y_ = (([57, 55] : List Int)) := ⟨_, rfl⟩
                                    replace H : (some (y149, true)) = some (r1, r2) := by first | (rw [hy149]; with_reducible exact H) | (have H2_ := (Option.bind_some _ _).symm.trans H; rw [hy149]; with_reducible exact H2_) | (have H2_ := (Option.bind_some _ _).symm.trans H; with_reducible exact H2_) | with_reducible exact H | (rw [hy149]; exact H) | exact H
                                    have Ny149 := Aside0.mk hy149
                                    clear hy149
                                    simp only [Option.some.injEq, Prod.mk.injEq] at H
                                    obtain ⟨rfl, rfl⟩ := H
                                    go_enter Try.func52, Try.ntmps52
                                    go_wp2_with (first | ((with_reducible refine gate_dst (N := 55) rfl ?_); refine Kd.R_lit (Kd.int .u8) _ 5 ?hg (N := 55) ?hd (xs := ([57, 55] : List Int)) (inner := [.int .u8 57, .int .u8 55]) (ok := fun _ => True) (okp := fun _ => True) ?hr ?hp (fun _ hk => hk) trivial (Below.refl _ _) (Nat.le_refl _) (by simp) ?_; (case hd => rfl); (case hg => rfl); (case hr => first | (go_simp; done) | (go_simp; rfl)); (case hp => exact (Reps.one (show Kd.M (Kd.int .u8) _ _ _ 57 [.int .u8 57] from rfl) (Reps.one (show Kd.M (Kd.int .u8) _ _ _ 55 [.int .u8 55] from rfl) (Reps.none _ _)))); intro v150 w51 ho52 hb hg_ hnew_; clear hg_ hnew_; (first | rw [← Ny149.out] at ho52 | (simp only [Int.reduceToNat] at ho52; rw [← Ny149.out] at ho52)); have n0_ := Aside0.mk (Kd.R_lower ho52 (below_size (by repeat (first | (with_reducible first | exact HB.out | apply below_alloc | apply pw_below_drewN | apply below_drew1) | exact HB.out)))); have n1_ := Aside0.mk (below_step (by repeat (first | (with_reducible first | exact HB.out | apply below_alloc | apply pw_below_drewN | apply below_drew1) | exact HB.out)) hb); clear HB; have HO151 := n0_; have HB := n1_; clear n0_ n1_; clear hb ho52))
                                    go_ret2
                                    exact ⟨_, by first | rfl | (simp [errW_none, errW_some] <;> rfl) | (simp [*, errW_none, errW_some] <;> rfl), by (with_reducible repeat (first | apply Kd.R_alloc | apply Kd.R_drewN | apply Kd.R_drew)); exact HO151.out, by repeat (first | (with_reducible first | exact HB.out | apply below_alloc | apply pw_below_drewN | apply below_drew1) | exact HB.out)⟩
                                  · rw [if_neg c50] at H
                                    have c50b0 : (a0 == 16) = false := beq_eq_false_iff_ne.mpr c50
                                    have c50b1 : (a0 != 16) = true := bne_iff_ne.mpr c50
                                    simp only [Option.some.injEq, Prod.mk.injEq] at H
                                    obtain ⟨rfl, rfl⟩ := H
                                    go_enter Try.func52, Try.ntmps52
                                    go_wp2
                                    go_ret2
                                    exact ⟨_, by first | rfl | (simp [errW_none, errW_some] <;> rfl) | (simp [*, errW_none, errW_some] <;> rfl), by first | exact Kd.R_nil _ _ _ _ _ | exact Kd.N_nil _ _ _ _ _ | exact Kd.V_nil _ _ _ _ _ | exact Kd.Q_nil _ _ _ _ _ | exact Kd.S_nil _ _ _ _ _, by repeat (first | (with_reducible first | exact HB.out | apply below_alloc | apply pw_below_drewN | apply below_drew1) | exact HB.out)⟩
end Go.Proofs.Ythbdaoapjnofkaa.PzzForeground
