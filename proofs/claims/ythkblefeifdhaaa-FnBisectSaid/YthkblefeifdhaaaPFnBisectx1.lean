/- Printed by a program of this seat (xprint) out of the translation: Go functions as plain functions, and the walks that show them; no condition. -/
import Derived.Test.YthkblefeifdhaaaPFnBisectx0
namespace Go.Proofs.Ythkblefeifdhaaa.PFnBisect
open Go.RowKit Go.Proofs.Ythkblefeifdhaaa.H Go.Proofs.Ythkblefeifdhaaa.R Go.Proofs.YthkblefeifdhaaaW.PrintWords Go.Proofs.YthkblefeifdhaaaW.PrintLast Go.Proofs.YthkblefeifdhaaaW.PrintMore
attribute [local go_sem] max2_int min2_int max_two min_two max_three min_three max_four min_four   -- for this text's walks alone
set_option linter.unusedVariables false
set_option linter.unusedSimpArgs false

/-! ### laws_FnBisect: function 4 -/
def laws_FnBisect.l0 : Nat → List Int → Int → List Int → Int → Int → Int → Option (Bool)
  | 0, _, _, _, _, _, _ => none
  | k + 1, x0, x1, x5, x6, x7, x8 => if x8 < (x0.length : Int) then (if 0 ≤ x8 then (if x5.length < 17592186044416 then ((some (x5 ++ [wrap64 (x6 + (wrap64 (rd x0 x8)))] : List Int)).bind fun y102 => (if (wrap64 (x6 + (wrap64 (rd x0 x8)))) ≤ x1 then (laws_FnBisect.l0 k x0 x1 y102 (wrap64 (x6 + (wrap64 (rd x0 x8)))) (wrap64 (x7 + 1)) (wrap64 (x8 + 1))) else (laws_FnBisect.l0 k x0 x1 y102 (wrap64 (x6 + (wrap64 (rd x0 x8)))) x7 (wrap64 (x8 + 1))))) else (none)) else (none)) else ((impl_BisectRight.f x5 x1).bind fun t105 => (if t105 = x7 then ((impl_BisectRight.f (([1, 3] : List Int)) 2).bind fun t109 => (some (t109 == 1))) else (some false)))
def laws_FnBisect.f (k : Nat) (l0 : List Int) (a1 : Int) : Option (Bool) := if (l0.length : Int) > 2147483647 then (some true) else (if (l0.length : Int) > 100 then (some true) else (laws_FnBisect.l0 k l0 a1 ([] : List Int) 0 0 0))
theorem laws_FnBisect.mono_l : ∀ k, (∀ y0 y1 y2 y3 y4 y5, LeO (laws_FnBisect.l0 k y0 y1 y2 y3 y4 y5) (laws_FnBisect.l0 (k + 1) y0 y1 y2 y3 y4 y5))
  | 0 => fun _ _ _ _ _ _ r h => by simp [laws_FnBisect.l0] at h
  | k + 1 => by
    have ih0 := laws_FnBisect.mono_l k
    · intro y0 y1 y2 y3 y4 y5
      unfold laws_FnBisect.l0
      repeat' first
      | (with_reducible exact ih0 _ _ _ _ _ _)
      | (with_reducible exact LeO.refl _)
      | (with_reducible exact LeO.none _)
      | (with_reducible refine LeO.ite ?_ ?_)
      | (with_reducible refine LeO.bind ?_ (fun _ => ?_))
      | exact ih0 _ _ _ _ _ _
      | exact LeO.none _
      | refine LeO.ite ?_ ?_
      | refine LeO.bind ?_ (fun _ => ?_)
theorem laws_FnBisect.mono : ∀ a0 a1 k, LeO (laws_FnBisect.f k a0 a1) (laws_FnBisect.f (k + 1) a0 a1) := by
  intro a0 a1 k
  have ih0 := laws_FnBisect.mono_l k
  unfold laws_FnBisect.f
  repeat' first
      | (with_reducible exact ih0 _ _ _ _ _ _)
      | (with_reducible exact LeO.refl _)
      | (with_reducible exact LeO.none _)
      | (with_reducible refine LeO.ite ?_ ?_)
      | (with_reducible refine LeO.bind ?_ (fun _ => ?_))
      | exact ih0 _ _ _ _ _ _
      | exact LeO.none _
      | refine LeO.ite ?_ ?_
      | refine LeO.bind ?_ (fun _ => ?_)
set_option maxHeartbeats 8000000 in
set_option maxRecDepth 100000 in
theorem laws_FnBisect.calls (k : Nat) (A0 : Option Addr) (c0 : Nat) (l0 : List Int) (a1 : Int) (r : Bool) (w : World) (hr0 : Kd.C (Kd.int .u8) w A0 l0.length l0) (hc0 : l0.length ≤ c0) (h : laws_FnBisect.f k l0 a1 = some r) :
    Calls Try.prog 4 #[.slice A0 l0.length c0, .int .i64 a1] w fun e w' => e = .returned (.bool r) ∧ Below w.heap.size w w' := by
  have HR0 := Aside0.mk hr0
  have HC0 := Aside0.mk hc0
  clear hr0 hc0
  have HB := Aside0.mk (Below.refl w.heap.size w)
  have H : (if (l0.length : Int) > 2147483647 then (some true) else (if (l0.length : Int) > 100 then (some true) else (laws_FnBisect.l0 k l0 a1 ([] : List Int) 0 0 0))) = some r := h
  clear h
  by_cases c3 : (l0.length : Int) > 2147483647
  · rw [if_pos c3] at H
    have c3b0 : decide (2147483647 < (l0.length : Int)) = true := decide_eq_true c3
    have c3b1 : decide (2147483647 < l0.length) = true := decide_eq_true (by omega)
    clear c3
    obtain rfl := Option.some.inj H
    go_enter Try.func4, Try.ntmps4
    go_wp2
    go_ret
    exact ⟨by first | rfl | (simp [errW_none, errW_some] <;> rfl) | (simp [*, errW_none, errW_some] <;> rfl), by repeat (first | (with_reducible first | exact HB.out | apply below_alloc | apply pw_below_drewN | apply below_drew1) | exact HB.out)⟩
  · rw [if_neg c3] at H
    have c3b0 : decide (2147483647 < (l0.length : Int)) = false := decide_eq_false c3
    have c3b1 : decide (2147483647 < l0.length) = false := decide_eq_false (by omega)
    clear c3
    by_cases c4 : (l0.length : Int) > 100
    · rw [if_pos c4] at H
      have c4b0 : decide (100 < (l0.length : Int)) = true := decide_eq_true c4
      have c4b1 : decide (100 < l0.length) = true := decide_eq_true (by omega)
      clear c4
      obtain rfl := Option.some.inj H
      go_enter Try.func4, Try.ntmps4
      go_wp2
      go_ret
      exact ⟨by first | rfl | (simp [errW_none, errW_some] <;> rfl) | (simp [*, errW_none, errW_some] <;> rfl), by repeat (first | (with_reducible first | exact HB.out | apply below_alloc | apply pw_below_drewN | apply below_drew1) | exact HB.out)⟩
    · rw [if_neg c4] at H
      have c4b0 : decide (100 < (l0.length : Int)) = false := decide_eq_false c4
      have c4b1 : decide (100 < l0.length) = false := decide_eq_false (by omega)
      clear c4
      have H' := Aside0.mk H
      clear H
      go_enter Try.func4, Try.ntmps4
      go_wp2
      go_loopg [5, 6, 7, 8] k (fun kq v5 v6 v7 v8 w' => ∃ (x5_1 : List Int) (x6_1 : Int) (x7_1 : Int) (x8_1 : Int), v6 = .int .i64 x6_1 ∧ v7 = .int .i64 x7_1 ∧ v8 = .int .i64 x8_1 ∧ Aside0 (laws_FnBisect.l0 kq l0 a1 x5_1 x6_1 x7_1 x8_1 = some r) ∧ Aside0 (kq ≤ k) ∧ Aside0 (Kd.R (Kd.int .i64) 3 w' w.heap.size (fun _ => True) v5 x5_1) ∧ Aside0 (Below w.heap.size w w'))
      case atStart => exact ⟨(([] : List Int)), (0), (0), (0), (by first | rfl | (simp; done) | (simp [*]; done)), (by first | rfl | (simp; done) | (simp [*]; done)), (by first | rfl | (simp; done) | (simp [*]; done)), H', ⟨Nat.le_refl _⟩, ⟨by first | exact Kd.R_nil _ _ _ _ _ | exact Kd.N_nil _ _ _ _ _ | exact Kd.V_nil _ _ _ _ _ | exact Kd.Q_nil _ _ _ _ _ | exact Kd.S_nil _ _ _ _ _⟩, ⟨by repeat (first | (with_reducible first | exact HB.out | apply below_alloc | apply pw_below_drewN | apply below_drew1) | exact HB.out)⟩⟩
      case round =>
        clear H'
        try clear p2
        try clear c3
        try clear c3b0
        try clear c3b1
        try clear c4
        try clear c4b0
        try clear c4b1
        obtain ⟨x5_1, x6_1, x7_1, x8_1, rfl, rfl, rfl, HA, HK1, HO_5, HB⟩ := hrel
        cases gk with
        | zero => exact absurd HA.out (by simp [laws_FnBisect.l0])
        | succ k1 =>
          have H := HA.out
          clear HA
          simp only [laws_FnBisect.l0] at H
          by_cases c5 : x8_1 < (l0.length : Int)
          · rw [if_pos c5] at H
            have c5b0 : decide (x8_1 < (l0.length : Int)) = true := decide_eq_true c5
            clear c5
            by_cases c6 : 0 ≤ x8_1
            · rw [if_pos c6] at H
              have c6b0 : decide (0 ≤ x8_1) = true := decide_eq_true c6
              clear c6
              by_cases c7 : x5_1.length < 17592186044416
              · rw [if_pos c7] at H
                have LMc7 := Aside0.mk c7
                clear c7
                obtain ⟨y102, hy102⟩ : ∃ y_ : List Int, y_ = (x5_1 ++ [wrap64 (x6_1 + (wrap64 (rd l0 x8_1)))]) := ⟨_, rfl⟩
                replace H : (if (wrap64 (x6_1 + (wrap64 (rd l0 x8_1)))) ≤ a1 then (laws_FnBisect.l0 k1 l0 a1 y102 (wrap64 (x6_1 + (wrap64 (rd l0 x8_1)))) (wrap64 (x7_1 + 1)) (wrap64 (x8_1 + 1))) else (laws_FnBisect.l0 k1 l0 a1 y102 (wrap64 (x6_1 + (wrap64 (rd l0 x8_1)))) x7_1 (wrap64 (x8_1 + 1)))) = some r := by first | (rw [hy102]; with_reducible exact H) | (have H2_ := (Option.bind_some _ _).symm.trans H; rw [hy102]; with_reducible exact H2_) | (have H2_ := (Option.bind_some _ _).symm.trans H; with_reducible exact H2_) | with_reducible exact H | (rw [hy102]; exact H) | exact H
                have Ny102 := Aside0.mk hy102
                clear hy102
                by_cases c8 : (wrap64 (x6_1 + (wrap64 (rd l0 x8_1)))) ≤ a1
                · rw [if_pos c8] at H
                  have c8b0 : decide ((wrap64 (x6_1 + (wrap64 (rd l0 x8_1)))) ≤ a1) = true := decide_eq_true c8
                  clear c8
                  have H' := Aside0.mk H
                  clear H
                  have p101 : 0 ≤ (x8_1 : Int) := of_decide_eq_true (by first | (with_reducible assumption) | assumption)
                  have q101 : x8_1 < (l0.length : Int) := of_decide_eq_true (by first | (with_reducible assumption) | assumption)
                  obtain ⟨ad101, e101, hx101_0⟩ := Kd.at_int HR0.out x8_1 p101 q101
                  cases e101
                  replace hx101_0 := (HB.out.cell (World.block_lt_of_cell? w _ hx101_0)).trans hx101_0
                  replace p101 := eq_true p101
                  replace q101 := eq_true q101
                  go_wp2_with (first | ((with_reducible refine gate_builtin (b := .append) (xs := #[.tmp 28, .tmp 30]) rfl ?_); (try (refine gate_guard (by rfl) ?_; dsimp only)); at_builtin; refine Kd.R_append (Kd.int .i64) (w0 := w) w.heap.size rfl (.tmp 28) (.tmp 30) 27 3 (.int .i64 0) 8 rfl Try.underlying27 info3 rfl (by decide) (by omega) u5 x5_1 (wrap64 (x6_1 + (wrap64 (rd l0 x8_1)))) [.int .i64 (wrap64 (x6_1 + (wrap64 (rd l0 x8_1))))] (fun _ => True) (fun _ => False) rfl rfl ?aP (fun _ hk => hk.elim) ?aF ?aO ?aB ?aS ?aL ?_; (case aP => exact rfl); (case aB => exact (by repeat (first | (with_reducible first | exact HB.out | apply below_alloc | apply pw_below_drewN | apply below_drew1) | exact HB.out))); (case aF => exact (fun _ _ => trivial)); (case aO => exact (by (with_reducible repeat (first | apply Kd.R_alloc | apply Kd.R_drewN | apply Kd.R_drew)); exact HO_5.out)); (case aS => exact (below_size (by repeat (first | (with_reducible first | exact HB.out | apply below_alloc | apply pw_below_drewN | apply below_drew1) | exact HB.out)))); (case aL => have := LMc7.out; omega); intro v103 w9 ho hb hg hat; rw [← Ny102.out] at ho; have n0_ := Aside0.mk (hb); have n1_ := Aside0.mk (ho); clear HB; clear HO_5; have HB := n0_; have HO104 := n1_; clear n0_ n1_; clear ho hb hg hat))
                  go_roundg k1
                  case measure => have := HK1.out; omega
                  case rel => exact ⟨(y102), (wrap64 (x6_1 + (wrap64 (rd l0 x8_1)))), (wrap64 (x7_1 + 1)), (wrap64 (x8_1 + 1)), (by first | rfl | (simp; done) | (simp [*]; done)), (by first | rfl | (simp; done) | (simp [*]; done)), (by first | rfl | (simp; done) | (simp [*]; done)), H', ⟨by have := HK1.out; omega⟩, ⟨by (with_reducible repeat (first | apply Kd.R_alloc | apply Kd.R_drewN | apply Kd.R_drew)); exact HO104.out⟩, ⟨by repeat (first | (with_reducible first | exact HB.out | apply below_alloc | apply pw_below_drewN | apply below_drew1) | exact HB.out)⟩⟩
                · rw [if_neg c8] at H
                  have c8b0 : decide ((wrap64 (x6_1 + (wrap64 (rd l0 x8_1)))) ≤ a1) = false := decide_eq_false c8
                  clear c8
                  have H' := Aside0.mk H
                  clear H
                  have p101 : 0 ≤ (x8_1 : Int) := of_decide_eq_true (by first | (with_reducible assumption) | assumption)
                  have q101 : x8_1 < (l0.length : Int) := of_decide_eq_true (by first | (with_reducible assumption) | assumption)
                  obtain ⟨ad101, e101, hx101_0⟩ := Kd.at_int HR0.out x8_1 p101 q101
                  cases e101
                  replace hx101_0 := (HB.out.cell (World.block_lt_of_cell? w _ hx101_0)).trans hx101_0
                  replace p101 := eq_true p101
                  replace q101 := eq_true q101
                  go_wp2_with (first | ((with_reducible refine gate_builtin (b := .append) (xs := #[.tmp 28, .tmp 30]) rfl ?_); (try (refine gate_guard (by rfl) ?_; dsimp only)); at_builtin; refine Kd.R_append (Kd.int .i64) (w0 := w) w.heap.size rfl (.tmp 28) (.tmp 30) 27 3 (.int .i64 0) 8 rfl Try.underlying27 info3 rfl (by decide) (by omega) u5 x5_1 (wrap64 (x6_1 + (wrap64 (rd l0 x8_1)))) [.int .i64 (wrap64 (x6_1 + (wrap64 (rd l0 x8_1))))] (fun _ => True) (fun _ => False) rfl rfl ?aP (fun _ hk => hk.elim) ?aF ?aO ?aB ?aS ?aL ?_; (case aP => exact rfl); (case aB => exact (by repeat (first | (with_reducible first | exact HB.out | apply below_alloc | apply pw_below_drewN | apply below_drew1) | exact HB.out))); (case aF => exact (fun _ _ => trivial)); (case aO => exact (by (with_reducible repeat (first | apply Kd.R_alloc | apply Kd.R_drewN | apply Kd.R_drew)); exact HO_5.out)); (case aS => exact (below_size (by repeat (first | (with_reducible first | exact HB.out | apply below_alloc | apply pw_below_drewN | apply below_drew1) | exact HB.out)))); (case aL => have := LMc7.out; omega); intro v103 w10 ho hb hg hat; rw [← Ny102.out] at ho; have n0_ := Aside0.mk (hb); have n1_ := Aside0.mk (ho); clear HB; clear HO_5; have HB := n0_; have HO104 := n1_; clear n0_ n1_; clear ho hb hg hat))
                  go_roundg k1
                  case measure => have := HK1.out; omega
                  case rel => exact ⟨(y102), (wrap64 (x6_1 + (wrap64 (rd l0 x8_1)))), (x7_1), (wrap64 (x8_1 + 1)), (by first | rfl | (simp; done) | (simp [*]; done)), (by first | rfl | (simp; done) | (simp [*]; done)), (by first | rfl | (simp; done) | (simp [*]; done)), H', ⟨by have := HK1.out; omega⟩, ⟨by (with_reducible repeat (first | apply Kd.R_alloc | apply Kd.R_drewN | apply Kd.R_drew)); exact HO104.out⟩, ⟨by repeat (first | (with_reducible first | exact HB.out | apply below_alloc | apply pw_below_drewN | apply below_drew1) | exact HB.out)⟩⟩
              · rw [if_neg c7] at H
                exact absurd H (by simp)
            · rw [if_neg c6] at H
              exact absurd H (by simp)
          · rw [if_neg c5] at H
            have c5b0 : decide (x8_1 < (l0.length : Int)) = false := decide_eq_false c5
            clear c5
            replace H := Option.bind_eq_some_iff.mp H
            obtain ⟨t105, A110, H⟩ := H
            replace H : (if t105 = x7_1 then ((impl_BisectRight.f (([1, 3] : List Int)) 2).bind fun t109 => (some (t109 == 1))) else (some false)) = some r := H
            have A11 := Aside0.mk A110
            clear A110
            by_cases c12 : t105 = x7_1
            · rw [if_pos c12] at H
              have c12b0 : (t105 == x7_1) = true := beq_iff_eq.mpr c12
              have c12b1 : (t105 != x7_1) = false := bne_eq_false_iff_eq.mpr c12
              clear c12
              obtain ⟨y106, hy106⟩ : ∃ y_ : List Int, y_ = (([1, 3] : List Int)) := ⟨_, rfl⟩
              replace H : ((impl_BisectRight.f y106 2).bind fun t109 => (some (t109 == 1))) = some r := by first | (rw [hy106]; with_reducible exact H) | (have H2_ := (Option.bind_some _ _).symm.trans H; rw [hy106]; with_reducible exact H2_) | (have H2_ := (Option.bind_some _ _).symm.trans H; with_reducible exact H2_) | with_reducible exact H | (rw [hy106]; exact H) | exact H
              have Ny106 := Aside0.mk hy106
              clear hy106
              replace H := Option.bind_eq_some_iff.mp H
              obtain ⟨t109, A130, H⟩ := H
              replace H : (some (t109 == 1)) = some r := H
              have A13 := Aside0.mk A130
              clear A130
              obtain rfl := Option.some.inj H
              obtain ⟨Ao14, co14, eo14⟩ := Kd.R_slice HO_5.out
              subst eo14
              go_wp2_with (first | ((with_reducible refine gate_callee (f := 16) rfl ?_); refine goesL_ (some 39) rfl rfl Try.func16 (by kernel_rfl) rfl #[.slice Ao14 x5_1.length co14, .int .i64 a1] rfl (by (try simp only [List.map_toArray, List.map_cons, List.map_nil]); first | done | rfl | (simp only [List.length_drop, List.length_take]; rfl)) ?_; (with_reducible refine (impl_BisectRight.calls _ _ x5_1 a1 t105 _ ?side1 ?side2 A11.out).mono ?_); (case side1 => repeat (first | exact (Kd.R_reads' HO_5.out).2.2 | (with_reducible refine Kd.C_alloc ?_ _) | (with_reducible refine Kd.C_drewN ?_ _) | (with_reducible refine Kd.C_drew ?_))); (case side2 => exact (Kd.R_reads' HO_5.out).2.1); rintro e w15 ⟨rfl, hb⟩; refine ⟨_, rfl, ?_⟩; have n0_ := Aside0.mk (Kd.R_below (by (with_reducible repeat (first | apply Kd.R_alloc | apply Kd.R_drewN | apply Kd.R_drew)); exact HO_5.out) hb); have n1_ := Aside0.mk (below_step (by repeat (first | (with_reducible first | exact HB.out | apply below_alloc | apply pw_below_drewN | apply below_drew1) | exact HB.out)) hb); clear HO_5; clear HB; have HO_5 := n0_; have HB := n1_; clear n0_ n1_; (try clear hb); (try clear hb2); (try clear hk); (try clear hi)) | ((with_reducible refine gate_dst (N := 43) rfl ?_); (try (refine gate_guard (by rfl) ?_; dsimp only)); refine Kd.R_lit (Kd.int .i64) _ 3 ?hg (N := 43) ?hd (xs := ([1, 3] : List Int)) (inner := [.int .i64 1, .int .i64 3]) (ok := fun _ => True) (okp := fun _ => True) ?hr ?hp (fun _ hk => hk) trivial (Below.refl _ _) (Nat.le_refl _) (by simp) ?_; (case hd => rfl); (case hg => rfl); (case hr => first | (go_simp; done) | (go_simp; rfl)); (case hp => exact (Reps.one (show Kd.M (Kd.int .i64) _ _ _ 1 [.int .i64 1] from rfl) (Reps.one (show Kd.M (Kd.int .i64) _ _ _ 3 [.int .i64 3] from rfl) (Reps.none _ _)))); intro v107 w16 ho17 hb hg_ hnew_; clear hg_ hnew_; (first | rw [← Ny106.out] at ho17 | (simp only [Int.reduceToNat] at ho17; rw [← Ny106.out] at ho17)); have n0_ := Aside0.mk (Kd.R_elder' (by (with_reducible repeat (first | apply Kd.R_alloc | apply Kd.R_drewN | apply Kd.R_drew)); exact HO_5.out) (Kd.R_base ho17) hb); have n1_ := Aside0.mk (Kd.R_lower (Kd.R_new' ho17 (Kd.R_lt (by (with_reducible repeat (first | apply Kd.R_alloc | apply Kd.R_drewN | apply Kd.R_drew)); exact HO_5.out))) (below_size (by repeat (first | (with_reducible first | exact HB.out | apply below_alloc | apply pw_below_drewN | apply below_drew1) | exact HB.out)))); have n2_ := Aside0.mk (below_step (by repeat (first | (with_reducible first | exact HB.out | apply below_alloc | apply pw_below_drewN | apply below_drew1) | exact HB.out)) hb); clear HO_5; clear HB; have HO_5 := n0_; have HO108 := n1_; have HB := n2_; clear n0_ n1_ n2_; clear hb ho17; obtain ⟨Ao18, co18, eo18⟩ := Kd.R_slice HO108.out; subst eo18) | (go_at_call 16; (with_reducible refine (impl_BisectRight.calls _ _ y106 2 t109 _ ?side1 ?side2 A13.out).mono ?_); (case side1 => repeat (first | exact (Kd.R_reads' HO108.out).2.2 | (with_reducible refine Kd.C_alloc ?_ _) | (with_reducible refine Kd.C_drewN ?_ _) | (with_reducible refine Kd.C_drew ?_))); (case side2 => exact (Kd.R_reads' HO108.out).2.1); rintro e w19 ⟨rfl, hb⟩; have n0_ := Aside0.mk (Kd.R_below (by (with_reducible repeat (first | apply Kd.R_alloc | apply Kd.R_drewN | apply Kd.R_drew)); exact HO_5.out) hb); have n1_ := Aside0.mk (Kd.R_below (by (with_reducible repeat (first | apply Kd.R_alloc | apply Kd.R_drewN | apply Kd.R_drew)); exact HO108.out) hb); have n2_ := Aside0.mk (below_step (by repeat (first | (with_reducible first | exact HB.out | apply below_alloc | apply pw_below_drewN | apply below_drew1) | exact HB.out)) hb); clear HO_5; clear HO108; clear HB; have HO_5 := n0_; have HO108 := n1_; have HB := n2_; clear n0_ n1_ n2_; (try clear hb); (try clear hb2); (try clear hk); (try clear hi)))
              go_ret
              exact ⟨by first | rfl | (simp [errW_none, errW_some] <;> rfl) | (simp [*, errW_none, errW_some] <;> rfl), by repeat (first | (with_reducible first | exact HB.out | apply below_alloc | apply pw_below_drewN | apply below_drew1) | exact HB.out)⟩
            · rw [if_neg c12] at H
              have c12b0 : (t105 == x7_1) = false := beq_eq_false_iff_ne.mpr c12
              have c12b1 : (t105 != x7_1) = true := bne_iff_ne.mpr c12
              obtain rfl := Option.some.inj H
              obtain ⟨Ao20, co20, eo20⟩ := Kd.R_slice HO_5.out
              subst eo20
              go_wp2_with (first | ((with_reducible refine gate_callee (f := 16) rfl ?_); refine goesL_ (some 39) rfl rfl Try.func16 (by kernel_rfl) rfl #[.slice Ao20 x5_1.length co20, .int .i64 a1] rfl (by (try simp only [List.map_toArray, List.map_cons, List.map_nil]); first | done | rfl | (simp only [List.length_drop, List.length_take]; rfl)) ?_; (with_reducible refine (impl_BisectRight.calls _ _ x5_1 a1 t105 _ ?side1 ?side2 A11.out).mono ?_); (case side1 => repeat (first | exact (Kd.R_reads' HO_5.out).2.2 | (with_reducible refine Kd.C_alloc ?_ _) | (with_reducible refine Kd.C_drewN ?_ _) | (with_reducible refine Kd.C_drew ?_))); (case side2 => exact (Kd.R_reads' HO_5.out).2.1); rintro e w21 ⟨rfl, hb⟩; refine ⟨_, rfl, ?_⟩; have n0_ := Aside0.mk (Kd.R_below (by (with_reducible repeat (first | apply Kd.R_alloc | apply Kd.R_drewN | apply Kd.R_drew)); exact HO_5.out) hb); have n1_ := Aside0.mk (below_step (by repeat (first | (with_reducible first | exact HB.out | apply below_alloc | apply pw_below_drewN | apply below_drew1) | exact HB.out)) hb); clear HO_5; clear HB; have HO_5 := n0_; have HB := n1_; clear n0_ n1_; (try clear hb); (try clear hb2); (try clear hk); (try clear hi)))
              go_ret
              exact ⟨by first | rfl | (simp [errW_none, errW_some] <;> rfl) | (simp [*, errW_none, errW_some] <;> rfl), by repeat (first | (with_reducible first | exact HB.out | apply below_alloc | apply pw_below_drewN | apply below_drew1) | exact HB.out)⟩

/-- THE ONE PURE STATEMENT of laws_FnBisect: yours. -/
def laws_FnBisect.Pure : Prop := ∀ (l0 : List Int) (a1 : Int), l0.length ≤ maxLen → l0.length * 1 ≤ 140737488351232 → (∀ x ∈ l0, (Lit.int .u8 x).wf = true) → (Lit.int .i64 a1).wf = true → ∃ k, laws_FnBisect.f k l0 a1 = some true
theorem laws_FnBisect.walk (P : laws_FnBisect.Pure) (a0 : Option Addr) (len0 cap0 : Nat) (z0 : List Int) (a1 : Int) (w : World) (w0 : (a0 = none ∧ len0 = 0 ∧ cap0 = 0 ∧ z0 = []) ∨ ∃ x, a0 = some x ∧ len0 ≤ cap0 ∧ cap0 ≤ maxLen ∧ z0.length = cap0 ∧ (∀ i, i < z0.length → w.cell? (x.add i) = some (.int .u8 (z0.getD i 0))) ∧ ∀ n ∈ z0, (Lit.int .u8 n).wf = true) (y0 : len0 * 1 ≤ 140737488351232) (w1 : (Lit.int .i64 a1).wf = true) :
    Calls Try.prog 4 #[.slice a0 len0 cap0, .int .i64 a1] w fun e w' => e = .returned (.bool true) ∧ Below w.heap.size w w' := by
  obtain ⟨l0, rfl, hr0, hm0, hw0, hc0⟩ := ReadsInt.ofRowC w0
  obtain ⟨k, h⟩ := P l0 a1 hm0 y0 hw0 w1
  refine (laws_FnBisect.calls k _ _ l0 a1 true w (Kd.C_of_reads (d := (0 : Int)) (h1 := fun _ => rfl) hr0) hc0 h).mono ?_
  rintro e w' ⟨rfl, hd⟩
  exact ⟨rfl, hd⟩

end Go.Proofs.Ythkblefeifdhaaa.PFnBisect
