/- Printed by a program of this seat (xprint) out of the translation: Go functions as plain functions, and the walks that show them; no condition. -/
import Derived.Test.YtanadaamipfmkaaDoorQPFnWroteTextx0
import Derived.Test.YtanadaamipfmkaaDoorQHUtf8
import Derived.Test.YtanadaamipfmkaaDoorQHWrFnWroteText
namespace Go.Proofs.YtanadaamipfmkaaDoor.PFnWroteText
open Go.RowKit Go.Proofs.YtanadaamipfmkaaDoor.H Go.Proofs.YtanadaamipfmkaaDoor.R Go.Proofs.YtanadaamipfmkaaDoorW.PrintWords Go.Proofs.YtanadaamipfmkaaDoorW.PrintLast Go.Proofs.YtanadaamipfmkaaDoorW.PrintMore
attribute [local go_sem] max2_int min2_int max_two min_two max_three min_three max_four min_four   -- for this text's walks alone
set_option linter.unusedVariables false
set_option linter.unusedSimpArgs false
/-! ### laws_FnWroteText: function 5 -/
mutual
def laws_FnWroteText.j0 : Nat → ByteArray → ByteArray → Bool → Option (Bool)
  | 0, _, _, _ => none
  | k + 1, x0, x3, x45 => if x45 = true then (some false) else (laws_FnWroteText.l0 k x0 x3 0)
def laws_FnWroteText.l0 : Nat → ByteArray → ByteArray → Int → Option (Bool)
  | 0, _, _, _ => none
  | k + 1, x0, x3, x7 => if x7 < (x0.size : Int) then (if 0 ≤ x7 then (if x7 < (x3.size : Int) then (if (bt x3 x7) = 27 then (some false) else (if (bt x0 x7) = 27 then (laws_FnWroteText.l0 k x0 x3 (wrap64 (x7 + 1))) else (if (bt x3 x7) = (bt x0 x7) then (laws_FnWroteText.l0 k x0 x3 (wrap64 (x7 + 1))) else (some false)))) else (none)) else (none)) else (some true)
end
def laws_FnWroteText.f (k : Nat) (a0 : ByteArray) : Option (Bool) := if (a0.size : Int) > 2147483647 then (some true) else ((spec_UTF8.f a0).bind fun t101 => (if t101 = true then ((impl_Wrote.f k (([(⟨1, 0, 0, a0⟩ : S38)] : List (S38)))).bind fun bt105 => ((impl_Wrote.f k (([(⟨2, 0, 0, a0⟩ : S38)] : List (S38)))).bind fun bt110 => (if bt105.2 = true then (if bt110.2 = true then (if (bt105.1.size : Int) = (a0.size : Int) then (laws_FnWroteText.j0 k a0 bt105.1 (bt110.1.toList != a0.toList)) else (laws_FnWroteText.j0 k a0 bt105.1 true)) else (laws_FnWroteText.j0 k a0 bt105.1 true)) else (laws_FnWroteText.j0 k a0 bt105.1 true)))) else (some true)))
theorem laws_FnWroteText.mono_l : ∀ k, (∀ y0 y1 y2, LeO (laws_FnWroteText.j0 k y0 y1 y2) (laws_FnWroteText.j0 (k + 1) y0 y1 y2)) ∧ (∀ y0 y1 y2, LeO (laws_FnWroteText.l0 k y0 y1 y2) (laws_FnWroteText.l0 (k + 1) y0 y1 y2))
  | 0 => ⟨fun _ _ _ r h => by simp [laws_FnWroteText.j0] at h, fun _ _ _ r h => by simp [laws_FnWroteText.l0] at h⟩
  | k + 1 => by
    obtain ⟨ih0, ih1⟩ := laws_FnWroteText.mono_l k
    refine ⟨?_, ?_⟩
    · intro y0 y1 y2
      unfold laws_FnWroteText.j0
      repeat' first
      | (with_reducible exact ih0 _ _ _)
      | (with_reducible exact ih1 _ _ _)
      | (with_reducible exact impl_Wrote.mono _ _)
      | (with_reducible exact LeO.refl _)
      | (with_reducible exact LeO.none _)
      | (with_reducible refine LeO.ite ?_ ?_)
      | (with_reducible refine LeO.bind ?_ (fun _ => ?_))
      | exact ih0 _ _ _
      | exact ih1 _ _ _
      | exact impl_Wrote.mono _ _
      | exact LeO.none _
      | refine LeO.ite ?_ ?_
      | refine LeO.bind ?_ (fun _ => ?_)
    · intro y0 y1 y2
      unfold laws_FnWroteText.l0
      repeat' first
      | (with_reducible exact ih0 _ _ _)
      | (with_reducible exact ih1 _ _ _)
      | (with_reducible exact impl_Wrote.mono _ _)
      | (with_reducible exact LeO.refl _)
      | (with_reducible exact LeO.none _)
      | (with_reducible refine LeO.ite ?_ ?_)
      | (with_reducible refine LeO.bind ?_ (fun _ => ?_))
      | exact ih0 _ _ _
      | exact ih1 _ _ _
      | exact impl_Wrote.mono _ _
      | exact LeO.none _
      | refine LeO.ite ?_ ?_
      | refine LeO.bind ?_ (fun _ => ?_)
theorem laws_FnWroteText.mono : ∀ a0 k, LeO (laws_FnWroteText.f k a0) (laws_FnWroteText.f (k + 1) a0) := by
  intro a0 k
  obtain ⟨ih0, ih1⟩ := laws_FnWroteText.mono_l k
  unfold laws_FnWroteText.f
  repeat' first
      | (with_reducible exact ih0 _ _ _)
      | (with_reducible exact ih1 _ _ _)
      | (with_reducible exact impl_Wrote.mono _ _)
      | (with_reducible exact LeO.refl _)
      | (with_reducible exact LeO.none _)
      | (with_reducible refine LeO.ite ?_ ?_)
      | (with_reducible refine LeO.bind ?_ (fun _ => ?_))
      | exact ih0 _ _ _
      | exact ih1 _ _ _
      | exact impl_Wrote.mono _ _
      | exact LeO.none _
      | refine LeO.ite ?_ ?_
      | refine LeO.bind ?_ (fun _ => ?_)
set_option maxHeartbeats 8000000 in
set_option maxRecDepth 100000 in
theorem laws_FnWroteText.calls (k : Nat) (a0 : ByteArray) (r : Bool) (w : World) (h : laws_FnWroteText.f k a0 = some r) :
    Calls Tryd.prog 5 #[.string a0] w fun e w' => e = .returned (.bool r) ∧ Below w.heap.size w w' := by
  have hu38 := Tryd.underlying38
  have HB := Aside0.mk (Below.refl w.heap.size w)
  have H : (if (a0.size : Int) > 2147483647 then (some true) else ((spec_UTF8.f a0).bind fun t101 => (if t101 = true then ((impl_Wrote.f k (([(⟨1, 0, 0, a0⟩ : S38)] : List (S38)))).bind fun bt105 => ((impl_Wrote.f k (([(⟨2, 0, 0, a0⟩ : S38)] : List (S38)))).bind fun bt110 => (if bt105.2 = true then (if bt110.2 = true then (if (bt105.1.size : Int) = (a0.size : Int) then (laws_FnWroteText.j0 k a0 bt105.1 (bt110.1.toList != a0.toList)) else (laws_FnWroteText.j0 k a0 bt105.1 true)) else (laws_FnWroteText.j0 k a0 bt105.1 true)) else (laws_FnWroteText.j0 k a0 bt105.1 true)))) else (some true)))) = some r := h
  clear h
  by_cases c2 : (a0.size : Int) > 2147483647
  · rw [if_pos c2] at H
    have c2b0 : decide (2147483647 < (a0.size : Int)) = true := decide_eq_true c2
    have c2b1 : decide (2147483647 < a0.size) = true := decide_eq_true (by omega)
    clear c2
    obtain rfl := Option.some.inj H
    go_enter Tryd.func5, Tryd.ntmps5
    go_wp2
    repeat (go_quiet (fail); try go_wp2)
    go_ret
    exact ⟨by first | rfl | (simp [errW_none, errW_some] <;> rfl) | (simp [*, errW_none, errW_some] <;> rfl), by repeat (first | (with_reducible first | exact HB.out | apply below_alloc | apply pw_below_drewN | apply below_drew1) | exact HB.out)⟩
  · rw [if_neg c2] at H
    have c2b0 : decide (2147483647 < (a0.size : Int)) = false := decide_eq_false c2
    have c2b1 : decide (2147483647 < a0.size) = false := decide_eq_false (by omega)
    clear c2
    replace H := Option.bind_eq_some_iff.mp H
    obtain ⟨t101, A30, H⟩ := H
    replace H : (if t101 = true then ((impl_Wrote.f k (([(⟨1, 0, 0, a0⟩ : S38)] : List (S38)))).bind fun bt105 => ((impl_Wrote.f k (([(⟨2, 0, 0, a0⟩ : S38)] : List (S38)))).bind fun bt110 => (if bt105.2 = true then (if bt110.2 = true then (if (bt105.1.size : Int) = (a0.size : Int) then (laws_FnWroteText.j0 k a0 bt105.1 (bt110.1.toList != a0.toList)) else (laws_FnWroteText.j0 k a0 bt105.1 true)) else (laws_FnWroteText.j0 k a0 bt105.1 true)) else (laws_FnWroteText.j0 k a0 bt105.1 true)))) else (some true)) = some r := H
    have A3 := Aside0.mk A30
    clear A30
    by_cases c4 : t101 = true
    · subst c4
      have H1 : ((impl_Wrote.f k (([(⟨1, 0, 0, a0⟩ : S38)] : List (S38)))).bind fun bt105 => ((impl_Wrote.f k (([(⟨2, 0, 0, a0⟩ : S38)] : List (S38)))).bind fun bt110 => (if bt105.2 = true then (if bt110.2 = true then (if (bt105.1.size : Int) = (a0.size : Int) then (laws_FnWroteText.j0 k a0 bt105.1 (bt110.1.toList != a0.toList)) else (laws_FnWroteText.j0 k a0 bt105.1 true)) else (laws_FnWroteText.j0 k a0 bt105.1 true)) else (laws_FnWroteText.j0 k a0 bt105.1 true)))) = some r := by rw [if_pos rfl] at H; exact H
      clear H
      have H := H1
      clear H1
      obtain ⟨y102, hy102⟩ : ∃ y_ : List (S38), y_ = (([(⟨1, 0, 0, a0⟩ : S38)] : List (S38))) := ⟨_, rfl⟩
      replace H : ((impl_Wrote.f k y102).bind fun bt105 => ((impl_Wrote.f k (([(⟨2, 0, 0, a0⟩ : S38)] : List (S38)))).bind fun bt110 => (if bt105.2 = true then (if bt110.2 = true then (if (bt105.1.size : Int) = (a0.size : Int) then (laws_FnWroteText.j0 k a0 bt105.1 (bt110.1.toList != a0.toList)) else (laws_FnWroteText.j0 k a0 bt105.1 true)) else (laws_FnWroteText.j0 k a0 bt105.1 true)) else (laws_FnWroteText.j0 k a0 bt105.1 true)))) = some r := by first | (rw [hy102]; with_reducible exact H) | (have H2_ := (Option.bind_some _ _).symm.trans H; rw [hy102]; with_reducible exact H2_) | (have H2_ := (Option.bind_some _ _).symm.trans H; with_reducible exact H2_) | with_reducible exact H | (rw [hy102]; exact H) | exact H
      have Ny102 := Aside0.mk hy102
      clear hy102
      replace H := Option.bind_eq_some_iff.mp H
      obtain ⟨⟨t105, t106⟩, A50, H⟩ := H
      replace H : ((impl_Wrote.f k (([(⟨2, 0, 0, a0⟩ : S38)] : List (S38)))).bind fun bt110 => (if t106 = true then (if bt110.2 = true then (if (t105.size : Int) = (a0.size : Int) then (laws_FnWroteText.j0 k a0 t105 (bt110.1.toList != a0.toList)) else (laws_FnWroteText.j0 k a0 t105 true)) else (laws_FnWroteText.j0 k a0 t105 true)) else (laws_FnWroteText.j0 k a0 t105 true))) = some r := H
      have A5 := Aside0.mk A50
      clear A50
      obtain ⟨y107, hy107⟩ : ∃ y_ : List (S38), y_ = (([(⟨2, 0, 0, a0⟩ : S38)] : List (S38))) := ⟨_, rfl⟩
      replace H : ((impl_Wrote.f k y107).bind fun bt110 => (if t106 = true then (if bt110.2 = true then (if (t105.size : Int) = (a0.size : Int) then (laws_FnWroteText.j0 k a0 t105 (bt110.1.toList != a0.toList)) else (laws_FnWroteText.j0 k a0 t105 true)) else (laws_FnWroteText.j0 k a0 t105 true)) else (laws_FnWroteText.j0 k a0 t105 true))) = some r := by first | (rw [hy107]; with_reducible exact H) | (have H2_ := (Option.bind_some _ _).symm.trans H; rw [hy107]; with_reducible exact H2_) | (have H2_ := (Option.bind_some _ _).symm.trans H; with_reducible exact H2_) | with_reducible exact H | (rw [hy107]; exact H) | exact H
      have Ny107 := Aside0.mk hy107
      clear hy107
      replace H := Option.bind_eq_some_iff.mp H
      obtain ⟨⟨t110, t111⟩, A60, H⟩ := H
      replace H : (if t106 = true then (if t111 = true then (if (t105.size : Int) = (a0.size : Int) then (laws_FnWroteText.j0 k a0 t105 (t110.toList != a0.toList)) else (laws_FnWroteText.j0 k a0 t105 true)) else (laws_FnWroteText.j0 k a0 t105 true)) else (laws_FnWroteText.j0 k a0 t105 true)) = some r := H
      have A6 := Aside0.mk A60
      clear A60
      have HC7 := Aside0.mk H
      clear H
      go_enter Tryd.func5, Tryd.ntmps5
      go_upto_region 7 with (first | (go_at_call 21; (with_reducible refine (spec_UTF8.calls a0 true _ A3.out).mono ?_); rintro e w8 ⟨rfl, hb⟩; have n0_ := Aside0.mk (below_step (by repeat (first | (with_reducible first | exact HB.out | apply below_alloc | apply pw_below_drewN | apply below_drew1) | exact HB.out)) hb); clear HB; have HB := n0_; clear n0_; (try clear hb); (try clear hb2); (try clear hk); (try clear hi)) | ((with_reducible refine gate_dst (N := 17) rfl ?_); (try (refine gate_guard (by rfl) ?_; dsimp only)); refine Kd.R_lit k38 _ 38 ?hg (N := 17) ?hd (xs := ([(⟨1, 0, 0, a0⟩ : S38)] : List (S38))) (inner := [.int .i64 1, .int .i64 0, .int .i64 0, .string a0]) (ok := fun _ => True) (okp := fun _ => True) ?hr ?hp (fun _ hk => hk) trivial (Below.refl _ _) (Nat.le_refl _) (by simp) ?_; (case hd => rfl); (case hg => rfl); (case hr => first | (go_simp; done) | (go_simp; rfl)); (case hp => exact (Reps.c4 (show Kd.M k38 _ _ _ (⟨1, 0, 0, a0⟩ : S38) [.int .i64 1, .int .i64 0, .int .i64 0, .string a0] from (k38_mkM _ _ _ (⟨1, 0, 0, a0⟩ : S38) )) (Reps.none _ _))); intro v103 w9 ho10 hb hg_ hnew_; clear hg_ hnew_; (first | rw [← Ny102.out] at ho10 | (simp only [Int.reduceToNat] at ho10; rw [← Ny102.out] at ho10)); have n0_ := Aside0.mk (Kd.R_lower ho10 (below_size (by repeat (first | (with_reducible first | exact HB.out | apply below_alloc | apply pw_below_drewN | apply below_drew1) | exact HB.out)))); have n1_ := Aside0.mk (below_step (by repeat (first | (with_reducible first | exact HB.out | apply below_alloc | apply pw_below_drewN | apply below_drew1) | exact HB.out)) hb); clear HB; have HO104 := n0_; have HB := n1_; clear n0_ n1_; clear hb ho10; obtain ⟨Ao11, co11, eo11⟩ := Kd.R_slice HO104.out; subst eo11) | (go_at_call 20; (with_reducible refine (impl_Wrote.calls k _ _ y102 t105 t106 _ ?side1 ?side2 A5.out).mono ?_); (case side1 => repeat (first | exact (Kd.R_reads' HO104.out).2.2 | (with_reducible refine Kd.C_alloc ?_ _) | (with_reducible refine Kd.C_drewN ?_ _) | (with_reducible refine Kd.C_drew ?_))); (case side2 => exact (Kd.R_reads' HO104.out).2.1); rintro e w12 ⟨rfl, hb⟩; have n0_ := Aside0.mk (Kd.R_below (by (with_reducible repeat (first | apply Kd.R_alloc | apply Kd.R_drewN | apply Kd.R_drew)); exact HO104.out) hb); have n1_ := Aside0.mk (below_step (by repeat (first | (with_reducible first | exact HB.out | apply below_alloc | apply pw_below_drewN | apply below_drew1) | exact HB.out)) hb); clear HO104; clear HB; have HO104 := n0_; have HB := n1_; clear n0_ n1_; (try clear hb); (try clear hb2); (try clear hk); (try clear hi)) | ((with_reducible refine gate_dst (N := 24) rfl ?_); (try (refine gate_guard (by rfl) ?_; dsimp only)); refine Kd.R_lit k38 _ 38 ?hg (N := 24) ?hd (xs := ([(⟨2, 0, 0, a0⟩ : S38)] : List (S38))) (inner := [.int .i64 2, .int .i64 0, .int .i64 0, .string a0]) (ok := fun _ => True) (okp := fun _ => True) ?hr ?hp (fun _ hk => hk) trivial (Below.refl _ _) (Nat.le_refl _) (by simp) ?_; (case hd => rfl); (case hg => rfl); (case hr => first | (go_simp; done) | (go_simp; rfl)); (case hp => exact (Reps.c4 (show Kd.M k38 _ _ _ (⟨2, 0, 0, a0⟩ : S38) [.int .i64 2, .int .i64 0, .int .i64 0, .string a0] from (k38_mkM _ _ _ (⟨2, 0, 0, a0⟩ : S38) )) (Reps.none _ _))); intro v108 w13 ho14 hb hg_ hnew_; clear hg_ hnew_; (first | rw [← Ny107.out] at ho14 | (simp only [Int.reduceToNat] at ho14; rw [← Ny107.out] at ho14)); have n0_ := Aside0.mk (Kd.R_elder' (by (with_reducible repeat (first | apply Kd.R_alloc | apply Kd.R_drewN | apply Kd.R_drew)); exact HO104.out) (Kd.R_base ho14) hb); have n1_ := Aside0.mk (Kd.R_lower (Kd.R_new' ho14 (Kd.R_lt (by (with_reducible repeat (first | apply Kd.R_alloc | apply Kd.R_drewN | apply Kd.R_drew)); exact HO104.out))) (below_size (by repeat (first | (with_reducible first | exact HB.out | apply below_alloc | apply pw_below_drewN | apply below_drew1) | exact HB.out)))); have n2_ := Aside0.mk (below_step (by repeat (first | (with_reducible first | exact HB.out | apply below_alloc | apply pw_below_drewN | apply below_drew1) | exact HB.out)) hb); clear HO104; clear HB; have HO104 := n0_; have HO109 := n1_; have HB := n2_; clear n0_ n1_ n2_; clear hb ho14; obtain ⟨Ao15, co15, eo15⟩ := Kd.R_slice HO109.out; subst eo15) | (go_at_call 20; (with_reducible refine (impl_Wrote.calls k _ _ y107 t110 t111 _ ?side1 ?side2 A6.out).mono ?_); (case side1 => repeat (first | exact (Kd.R_reads' HO109.out).2.2 | (with_reducible refine Kd.C_alloc ?_ _) | (with_reducible refine Kd.C_drewN ?_ _) | (with_reducible refine Kd.C_drew ?_))); (case side2 => exact (Kd.R_reads' HO109.out).2.1); rintro e w16 ⟨rfl, hb⟩; have n0_ := Aside0.mk (Kd.R_below (by (with_reducible repeat (first | apply Kd.R_alloc | apply Kd.R_drewN | apply Kd.R_drew)); exact HO104.out) hb); have n1_ := Aside0.mk (Kd.R_below (by (with_reducible repeat (first | apply Kd.R_alloc | apply Kd.R_drewN | apply Kd.R_drew)); exact HO109.out) hb); have n2_ := Aside0.mk (below_step (by repeat (first | (with_reducible first | exact HB.out | apply below_alloc | apply pw_below_drewN | apply below_drew1) | exact HB.out)) hb); clear HO104; clear HO109; clear HB; have HO104 := n0_; have HO109 := n1_; have HB := n2_; clear n0_ n1_ n2_; (try clear hb); (try clear hb2); (try clear hk); (try clear hi)))
      repeat (go_quiet (first | (go_at_call 21; (with_reducible refine (spec_UTF8.calls a0 true _ A3.out).mono ?_); rintro e w8 ⟨rfl, hb⟩; have n0_ := Aside0.mk (below_step (by repeat (first | (with_reducible first | exact HB.out | apply below_alloc | apply pw_below_drewN | apply below_drew1) | exact HB.out)) hb); clear HB; have HB := n0_; clear n0_; (try clear hb); (try clear hb2); (try clear hk); (try clear hi)) | ((with_reducible refine gate_dst (N := 17) rfl ?_); (try (refine gate_guard (by rfl) ?_; dsimp only)); refine Kd.R_lit k38 _ 38 ?hg (N := 17) ?hd (xs := ([(⟨1, 0, 0, a0⟩ : S38)] : List (S38))) (inner := [.int .i64 1, .int .i64 0, .int .i64 0, .string a0]) (ok := fun _ => True) (okp := fun _ => True) ?hr ?hp (fun _ hk => hk) trivial (Below.refl _ _) (Nat.le_refl _) (by simp) ?_; (case hd => rfl); (case hg => rfl); (case hr => first | (go_simp; done) | (go_simp; rfl)); (case hp => exact (Reps.c4 (show Kd.M k38 _ _ _ (⟨1, 0, 0, a0⟩ : S38) [.int .i64 1, .int .i64 0, .int .i64 0, .string a0] from (k38_mkM _ _ _ (⟨1, 0, 0, a0⟩ : S38) )) (Reps.none _ _))); intro v103 w9 ho10 hb hg_ hnew_; clear hg_ hnew_; (first | rw [← Ny102.out] at ho10 | (simp only [Int.reduceToNat] at ho10; rw [← Ny102.out] at ho10)); have n0_ := Aside0.mk (Kd.R_lower ho10 (below_size (by repeat (first | (with_reducible first | exact HB.out | apply below_alloc | apply pw_below_drewN | apply below_drew1) | exact HB.out)))); have n1_ := Aside0.mk (below_step (by repeat (first | (with_reducible first | exact HB.out | apply below_alloc | apply pw_below_drewN | apply below_drew1) | exact HB.out)) hb); clear HB; have HO104 := n0_; have HB := n1_; clear n0_ n1_; clear hb ho10; obtain ⟨Ao11, co11, eo11⟩ := Kd.R_slice HO104.out; subst eo11) | (go_at_call 20; (with_reducible refine (impl_Wrote.calls k _ _ y102 t105 t106 _ ?side1 ?side2 A5.out).mono ?_); (case side1 => repeat (first | exact (Kd.R_reads' HO104.out).2.2 | (with_reducible refine Kd.C_alloc ?_ _) | (with_reducible refine Kd.C_drewN ?_ _) | (with_reducible refine Kd.C_drew ?_))); (case side2 => exact (Kd.R_reads' HO104.out).2.1); rintro e w12 ⟨rfl, hb⟩; have n0_ := Aside0.mk (Kd.R_below (by (with_reducible repeat (first | apply Kd.R_alloc | apply Kd.R_drewN | apply Kd.R_drew)); exact HO104.out) hb); have n1_ := Aside0.mk (below_step (by repeat (first | (with_reducible first | exact HB.out | apply below_alloc | apply pw_below_drewN | apply below_drew1) | exact HB.out)) hb); clear HO104; clear HB; have HO104 := n0_; have HB := n1_; clear n0_ n1_; (try clear hb); (try clear hb2); (try clear hk); (try clear hi)) | ((with_reducible refine gate_dst (N := 24) rfl ?_); (try (refine gate_guard (by rfl) ?_; dsimp only)); refine Kd.R_lit k38 _ 38 ?hg (N := 24) ?hd (xs := ([(⟨2, 0, 0, a0⟩ : S38)] : List (S38))) (inner := [.int .i64 2, .int .i64 0, .int .i64 0, .string a0]) (ok := fun _ => True) (okp := fun _ => True) ?hr ?hp (fun _ hk => hk) trivial (Below.refl _ _) (Nat.le_refl _) (by simp) ?_; (case hd => rfl); (case hg => rfl); (case hr => first | (go_simp; done) | (go_simp; rfl)); (case hp => exact (Reps.c4 (show Kd.M k38 _ _ _ (⟨2, 0, 0, a0⟩ : S38) [.int .i64 2, .int .i64 0, .int .i64 0, .string a0] from (k38_mkM _ _ _ (⟨2, 0, 0, a0⟩ : S38) )) (Reps.none _ _))); intro v108 w13 ho14 hb hg_ hnew_; clear hg_ hnew_; (first | rw [← Ny107.out] at ho14 | (simp only [Int.reduceToNat] at ho14; rw [← Ny107.out] at ho14)); have n0_ := Aside0.mk (Kd.R_elder' (by (with_reducible repeat (first | apply Kd.R_alloc | apply Kd.R_drewN | apply Kd.R_drew)); exact HO104.out) (Kd.R_base ho14) hb); have n1_ := Aside0.mk (Kd.R_lower (Kd.R_new' ho14 (Kd.R_lt (by (with_reducible repeat (first | apply Kd.R_alloc | apply Kd.R_drewN | apply Kd.R_drew)); exact HO104.out))) (below_size (by repeat (first | (with_reducible first | exact HB.out | apply below_alloc | apply pw_below_drewN | apply below_drew1) | exact HB.out)))); have n2_ := Aside0.mk (below_step (by repeat (first | (with_reducible first | exact HB.out | apply below_alloc | apply pw_below_drewN | apply below_drew1) | exact HB.out)) hb); clear HO104; clear HB; have HO104 := n0_; have HO109 := n1_; have HB := n2_; clear n0_ n1_ n2_; clear hb ho14; obtain ⟨Ao15, co15, eo15⟩ := Kd.R_slice HO109.out; subst eo15) | (go_at_call 20; (with_reducible refine (impl_Wrote.calls k _ _ y107 t110 t111 _ ?side1 ?side2 A6.out).mono ?_); (case side1 => repeat (first | exact (Kd.R_reads' HO109.out).2.2 | (with_reducible refine Kd.C_alloc ?_ _) | (with_reducible refine Kd.C_drewN ?_ _) | (with_reducible refine Kd.C_drew ?_))); (case side2 => exact (Kd.R_reads' HO109.out).2.1); rintro e w16 ⟨rfl, hb⟩; have n0_ := Aside0.mk (Kd.R_below (by (with_reducible repeat (first | apply Kd.R_alloc | apply Kd.R_drewN | apply Kd.R_drew)); exact HO104.out) hb); have n1_ := Aside0.mk (Kd.R_below (by (with_reducible repeat (first | apply Kd.R_alloc | apply Kd.R_drewN | apply Kd.R_drew)); exact HO109.out) hb); have n2_ := Aside0.mk (below_step (by repeat (first | (with_reducible first | exact HB.out | apply below_alloc | apply pw_below_drewN | apply below_drew1) | exact HB.out)) hb); clear HO104; clear HO109; clear HB; have HO104 := n0_; have HO109 := n1_; have HB := n2_; clear n0_ n1_ n2_; (try clear hb); (try clear hb2); (try clear hk); (try clear hi))); go_upto_region 7 with (first | (go_at_call 21; (with_reducible refine (spec_UTF8.calls a0 true _ A3.out).mono ?_); rintro e w8 ⟨rfl, hb⟩; have n0_ := Aside0.mk (below_step (by repeat (first | (with_reducible first | exact HB.out | apply below_alloc | apply pw_below_drewN | apply below_drew1) | exact HB.out)) hb); clear HB; have HB := n0_; clear n0_; (try clear hb); (try clear hb2); (try clear hk); (try clear hi)) | ((with_reducible refine gate_dst (N := 17) rfl ?_); (try (refine gate_guard (by rfl) ?_; dsimp only)); refine Kd.R_lit k38 _ 38 ?hg (N := 17) ?hd (xs := ([(⟨1, 0, 0, a0⟩ : S38)] : List (S38))) (inner := [.int .i64 1, .int .i64 0, .int .i64 0, .string a0]) (ok := fun _ => True) (okp := fun _ => True) ?hr ?hp (fun _ hk => hk) trivial (Below.refl _ _) (Nat.le_refl _) (by simp) ?_; (case hd => rfl); (case hg => rfl); (case hr => first | (go_simp; done) | (go_simp; rfl)); (case hp => exact (Reps.c4 (show Kd.M k38 _ _ _ (⟨1, 0, 0, a0⟩ : S38) [.int .i64 1, .int .i64 0, .int .i64 0, .string a0] from (k38_mkM _ _ _ (⟨1, 0, 0, a0⟩ : S38) )) (Reps.none _ _))); intro v103 w9 ho10 hb hg_ hnew_; clear hg_ hnew_; (first | rw [← Ny102.out] at ho10 | (simp only [Int.reduceToNat] at ho10; rw [← Ny102.out] at ho10)); have n0_ := Aside0.mk (Kd.R_lower ho10 (below_size (by repeat (first | (with_reducible first | exact HB.out | apply below_alloc | apply pw_below_drewN | apply below_drew1) | exact HB.out)))); have n1_ := Aside0.mk (below_step (by repeat (first | (with_reducible first | exact HB.out | apply below_alloc | apply pw_below_drewN | apply below_drew1) | exact HB.out)) hb); clear HB; have HO104 := n0_; have HB := n1_; clear n0_ n1_; clear hb ho10; obtain ⟨Ao11, co11, eo11⟩ := Kd.R_slice HO104.out; subst eo11) | (go_at_call 20; (with_reducible refine (impl_Wrote.calls k _ _ y102 t105 t106 _ ?side1 ?side2 A5.out).mono ?_); (case side1 => repeat (first | exact (Kd.R_reads' HO104.out).2.2 | (with_reducible refine Kd.C_alloc ?_ _) | (with_reducible refine Kd.C_drewN ?_ _) | (with_reducible refine Kd.C_drew ?_))); (case side2 => exact (Kd.R_reads' HO104.out).2.1); rintro e w12 ⟨rfl, hb⟩; have n0_ := Aside0.mk (Kd.R_below (by (with_reducible repeat (first | apply Kd.R_alloc | apply Kd.R_drewN | apply Kd.R_drew)); exact HO104.out) hb); have n1_ := Aside0.mk (below_step (by repeat (first | (with_reducible first | exact HB.out | apply below_alloc | apply pw_below_drewN | apply below_drew1) | exact HB.out)) hb); clear HO104; clear HB; have HO104 := n0_; have HB := n1_; clear n0_ n1_; (try clear hb); (try clear hb2); (try clear hk); (try clear hi)) | ((with_reducible refine gate_dst (N := 24) rfl ?_); (try (refine gate_guard (by rfl) ?_; dsimp only)); refine Kd.R_lit k38 _ 38 ?hg (N := 24) ?hd (xs := ([(⟨2, 0, 0, a0⟩ : S38)] : List (S38))) (inner := [.int .i64 2, .int .i64 0, .int .i64 0, .string a0]) (ok := fun _ => True) (okp := fun _ => True) ?hr ?hp (fun _ hk => hk) trivial (Below.refl _ _) (Nat.le_refl _) (by simp) ?_; (case hd => rfl); (case hg => rfl); (case hr => first | (go_simp; done) | (go_simp; rfl)); (case hp => exact (Reps.c4 (show Kd.M k38 _ _ _ (⟨2, 0, 0, a0⟩ : S38) [.int .i64 2, .int .i64 0, .int .i64 0, .string a0] from (k38_mkM _ _ _ (⟨2, 0, 0, a0⟩ : S38) )) (Reps.none _ _))); intro v108 w13 ho14 hb hg_ hnew_; clear hg_ hnew_; (first | rw [← Ny107.out] at ho14 | (simp only [Int.reduceToNat] at ho14; rw [← Ny107.out] at ho14)); have n0_ := Aside0.mk (Kd.R_elder' (by (with_reducible repeat (first | apply Kd.R_alloc | apply Kd.R_drewN | apply Kd.R_drew)); exact HO104.out) (Kd.R_base ho14) hb); have n1_ := Aside0.mk (Kd.R_lower (Kd.R_new' ho14 (Kd.R_lt (by (with_reducible repeat (first | apply Kd.R_alloc | apply Kd.R_drewN | apply Kd.R_drew)); exact HO104.out))) (below_size (by repeat (first | (with_reducible first | exact HB.out | apply below_alloc | apply pw_below_drewN | apply below_drew1) | exact HB.out)))); have n2_ := Aside0.mk (below_step (by repeat (first | (with_reducible first | exact HB.out | apply below_alloc | apply pw_below_drewN | apply below_drew1) | exact HB.out)) hb); clear HO104; clear HB; have HO104 := n0_; have HO109 := n1_; have HB := n2_; clear n0_ n1_ n2_; clear hb ho14; obtain ⟨Ao15, co15, eo15⟩ := Kd.R_slice HO109.out; subst eo15) | (go_at_call 20; (with_reducible refine (impl_Wrote.calls k _ _ y107 t110 t111 _ ?side1 ?side2 A6.out).mono ?_); (case side1 => repeat (first | exact (Kd.R_reads' HO109.out).2.2 | (with_reducible refine Kd.C_alloc ?_ _) | (with_reducible refine Kd.C_drewN ?_ _) | (with_reducible refine Kd.C_drew ?_))); (case side2 => exact (Kd.R_reads' HO109.out).2.1); rintro e w16 ⟨rfl, hb⟩; have n0_ := Aside0.mk (Kd.R_below (by (with_reducible repeat (first | apply Kd.R_alloc | apply Kd.R_drewN | apply Kd.R_drew)); exact HO104.out) hb); have n1_ := Aside0.mk (Kd.R_below (by (with_reducible repeat (first | apply Kd.R_alloc | apply Kd.R_drewN | apply Kd.R_drew)); exact HO109.out) hb); have n2_ := Aside0.mk (below_step (by repeat (first | (with_reducible first | exact HB.out | apply below_alloc | apply pw_below_drewN | apply below_drew1) | exact HB.out)) hb); clear HO104; clear HO109; clear HB; have HO104 := n0_; have HO109 := n1_; have HB := n2_; clear n0_ n1_ n2_; (try clear hb); (try clear hb2); (try clear hk); (try clear hi))))
      (try simp only [Act.put, List.setIfInBounds_toArray, List.set_cons_zero, List.set_cons_succ])
      go_cut [45] (fun v45 wc => ∃ (kq : Nat) (x45_6 : Bool), v45 = .bool x45_6 ∧ Aside0 (laws_FnWroteText.j0 kq a0 t105 x45_6 = some r) ∧ Aside0 (kq ≤ k) ∧ Aside0 (Below w.heap.size w wc))
      case first =>
        have H := HC7.out
        clear HC7
        by_cases c17 : t106 = true
        · subst c17
          have H1 : (if t111 = true then (if (t105.size : Int) = (a0.size : Int) then (laws_FnWroteText.j0 k a0 t105 (t110.toList != a0.toList)) else (laws_FnWroteText.j0 k a0 t105 true)) else (laws_FnWroteText.j0 k a0 t105 true)) = some r := by rw [if_pos rfl] at H; exact H
          clear H
          have H := H1
          clear H1
          by_cases c18 : t111 = true
          · subst c18
            have H1 : (if (t105.size : Int) = (a0.size : Int) then (laws_FnWroteText.j0 k a0 t105 (t110.toList != a0.toList)) else (laws_FnWroteText.j0 k a0 t105 true)) = some r := by rw [if_pos rfl] at H; exact H
            clear H
            have H := H1
            clear H1
            by_cases c19 : (t105.size : Int) = (a0.size : Int)
            · rw [if_pos c19] at H
              have c19b0 : ((t105.size : Int) == (a0.size : Int)) = true := beq_iff_eq.mpr c19
              have c19b1 : ((t105.size : Int) != (a0.size : Int)) = false := bne_eq_false_iff_eq.mpr c19
              have c19b2 : (t105.size == a0.size) = true := by first | simpa using c19 | (simp at c19 ⊢; omega)
              clear c19
              (first | rw [c19b0] | (simp only [i64_w, i32_w]; rw [c19b0]) | skip)
              have H' := Aside0.mk H
              clear H
              go_wp2
              repeat (go_quiet (fail); try go_wp2)
              go_meet
              case rel => exact ⟨_, ((t110.toList != a0.toList)), (by first | rfl | (simp; done) | (simp [*]; done)), H', ⟨by first | omega | exact Nat.le_refl _⟩, ⟨by repeat (first | (with_reducible first | exact HB.out | apply below_alloc | apply pw_below_drewN | apply below_drew1) | exact HB.out)⟩⟩
            · rw [if_neg c19] at H
              have c19b0 : ((t105.size : Int) == (a0.size : Int)) = false := beq_eq_false_iff_ne.mpr c19
              have c19b1 : ((t105.size : Int) != (a0.size : Int)) = true := bne_iff_ne.mpr c19
              have c19b2 : (t105.size == a0.size) = false := by first | simpa using c19 | (simp at c19 ⊢; omega)
              (first | rw [c19b0] | (simp only [i64_w, i32_w]; rw [c19b0]) | skip)
              have H' := Aside0.mk H
              clear H
              go_wp2
              repeat (go_quiet (fail); try go_wp2)
              go_meet
              case rel => exact ⟨_, (true), (by first | rfl | (simp; done) | (simp [*]; done)), H', ⟨by first | omega | exact Nat.le_refl _⟩, ⟨by repeat (first | (with_reducible first | exact HB.out | apply below_alloc | apply pw_below_drewN | apply below_drew1) | exact HB.out)⟩⟩
          · replace c18 := Bool.eq_false_iff.mpr c18
            subst c18
            have H1 : (laws_FnWroteText.j0 k a0 t105 true) = some r := by rw [if_neg (show ¬ (false = true) by decide)] at H; exact H
            clear H
            have H := H1
            clear H1
            have H' := Aside0.mk H
            clear H
            go_wp2
            repeat (go_quiet (fail); try go_wp2)
            go_meet
            case rel => exact ⟨_, (true), (by first | rfl | (simp; done) | (simp [*]; done)), H', ⟨by first | omega | exact Nat.le_refl _⟩, ⟨by repeat (first | (with_reducible first | exact HB.out | apply below_alloc | apply pw_below_drewN | apply below_drew1) | exact HB.out)⟩⟩
        · replace c17 := Bool.eq_false_iff.mpr c17
          subst c17
          have H1 : (laws_FnWroteText.j0 k a0 t105 true) = some r := by rw [if_neg (show ¬ (false = true) by decide)] at H; exact H
          clear H
          have H := H1
          clear H1
          have H' := Aside0.mk H
          clear H
          go_wp2
          repeat (go_quiet (fail); try go_wp2)
          go_meet
          case rel => exact ⟨_, (true), (by first | rfl | (simp; done) | (simp [*]; done)), H', ⟨by first | omega | exact Nat.le_refl _⟩, ⟨by repeat (first | (with_reducible first | exact HB.out | apply below_alloc | apply pw_below_drewN | apply below_drew1) | exact HB.out)⟩⟩
      case rest =>
        clear HC7
        try clear c1
        try clear c2
        try clear c2b0
        try clear c2b1
        try clear p2
        try clear c4
        try clear c5
        try clear c17
        try clear c18
        try clear c19
        try clear c19b0
        try clear c19b1
        try clear c19b2
        obtain ⟨kq, x45_6, rfl, HA, HJ6, HB⟩ := hcut
        cases kq with
        | zero => exact absurd HA.out (by simp [laws_FnWroteText.j0])
        | succ kj6 =>
          have H := HA.out
          clear HA
          simp only [laws_FnWroteText.j0] at H
          by_cases c20 : x45_6 = true
          · subst c20
            have H1 : (some false) = some r := by rw [if_pos rfl] at H; exact H
            clear H
            have H := H1
            clear H1
            obtain rfl := Option.some.inj H
            go_wp2
            repeat (go_quiet (fail); try go_wp2)
            go_ret
            exact ⟨by first | rfl | (simp [errW_none, errW_some] <;> rfl) | (simp [*, errW_none, errW_some] <;> rfl), by repeat (first | (with_reducible first | exact HB.out | apply below_alloc | apply pw_below_drewN | apply below_drew1) | exact HB.out)⟩
          · replace c20 := Bool.eq_false_iff.mpr c20
            subst c20
            have H1 : (laws_FnWroteText.l0 kj6 a0 t105 0) = some r := by rw [if_neg (show ¬ (false = true) by decide)] at H; exact H
            clear H
            have H := H1
            clear H1
            have H' := Aside0.mk H
            clear H
            go_wp2
            repeat (go_quiet (fail); try go_wp2)
            go_loopg [7] kj6 (fun kq v7 w' => ∃ (x7_2 : Int), v7 = .int .i64 x7_2 ∧ Aside0 (laws_FnWroteText.l0 kq a0 t105 x7_2 = some r) ∧ Aside0 (kq ≤ kj6) ∧ Aside0 (Below w.heap.size w w'))
            case atStart => exact ⟨(0), (by first | rfl | (simp; done) | (simp [*]; done)), H', ⟨Nat.le_refl _⟩, ⟨by repeat (first | (with_reducible first | exact HB.out | apply below_alloc | apply pw_below_drewN | apply below_drew1) | exact HB.out)⟩⟩
            case round =>
              clear H'
              try clear c1
              try clear c2
              try clear c2b0
              try clear c2b1
              try clear p2
              try clear c4
              try clear c5
              try clear c17
              try clear c18
              try clear c19
              try clear c19b0
              try clear c19b1
              try clear c19b2
              try clear c20
              try clear p2
              obtain ⟨x7_2, rfl, HA, HK2, HB⟩ := hrel
              cases gk with
              | zero => exact absurd HA.out (by simp [laws_FnWroteText.l0])
              | succ k2 =>
                have H := HA.out
                clear HA
                simp only [laws_FnWroteText.l0] at H
                by_cases c21 : x7_2 < (a0.size : Int)
                · rw [if_pos c21] at H
                  have c21b0 : decide (x7_2 < (a0.size : Int)) = true := decide_eq_true c21
                  clear c21
                  by_cases c22 : 0 ≤ x7_2
                  · rw [if_pos c22] at H
                    have c22b0 : decide (0 ≤ x7_2) = true := decide_eq_true c22
                    clear c22
                    by_cases c23 : x7_2 < (t105.size : Int)
                    · rw [if_pos c23] at H
                      have c23b0 : decide (x7_2 < (t105.size : Int)) = true := decide_eq_true c23
                      clear c23
                      by_cases c25 : (bt t105 x7_2) = 27
                      · rw [if_pos c25] at H
                        have c25b0 : ((bt t105 x7_2) == 27) = true := beq_iff_eq.mpr c25
                        have c25b1 : ((bt t105 x7_2) != 27) = false := bne_eq_false_iff_eq.mpr c25
                        clear c25
                        obtain rfl := Option.some.inj H
                        have p24 : 0 ≤ (x7_2 : Int) := of_decide_eq_true (by first | (with_reducible assumption) | assumption)
                        have q24 : x7_2 < (t105.size : Int) := of_decide_eq_true (by first | (with_reducible assumption) | assumption)
                        have hx24 := bt_at t105 x7_2
                        replace p24 := eq_true p24
                        replace q24 := eq_true q24
                        go_wp2
                        repeat (go_quiet (fail); try go_wp2)
                        go_ret
                        exact ⟨by first | rfl | (simp [errW_none, errW_some] <;> rfl) | (simp [*, errW_none, errW_some] <;> rfl), by repeat (first | (with_reducible first | exact HB.out | apply below_alloc | apply pw_below_drewN | apply below_drew1) | exact HB.out)⟩
                      · rw [if_neg c25] at H
                        have c25b0 : ((bt t105 x7_2) == 27) = false := beq_eq_false_iff_ne.mpr c25
                        have c25b1 : ((bt t105 x7_2) != 27) = true := bne_iff_ne.mpr c25
                        by_cases c27 : (bt a0 x7_2) = 27
                        · rw [if_pos c27] at H
                          have c27b0 : ((bt a0 x7_2) == 27) = true := beq_iff_eq.mpr c27
                          have c27b1 : ((bt a0 x7_2) != 27) = false := bne_eq_false_iff_eq.mpr c27
                          clear c27
                          have H' := Aside0.mk H
                          clear H
                          have p24 : 0 ≤ (x7_2 : Int) := of_decide_eq_true (by first | (with_reducible assumption) | assumption)
                          have q24 : x7_2 < (t105.size : Int) := of_decide_eq_true (by first | (with_reducible assumption) | assumption)
                          have hx24 := bt_at t105 x7_2
                          replace p24 := eq_true p24
                          replace q24 := eq_true q24
                          have p26 : 0 ≤ (x7_2 : Int) := of_decide_eq_true (by first | (with_reducible assumption) | assumption)
                          have q26 : x7_2 < (a0.size : Int) := of_decide_eq_true (by first | (with_reducible assumption) | assumption)
                          have hx26 := bt_at a0 x7_2
                          replace p26 := eq_true p26
                          replace q26 := eq_true q26
                          go_wp2
                          repeat (go_quiet (fail); try go_wp2)
                          go_roundg k2
                          case measure => have := HJ6.out; have := HK2.out; omega
                          case rel => exact ⟨(wrap64 (x7_2 + 1)), (by first | rfl | (simp; done) | (simp [*]; done)), H', ⟨by have := HJ6.out; have := HK2.out; omega⟩, ⟨by repeat (first | (with_reducible first | exact HB.out | apply below_alloc | apply pw_below_drewN | apply below_drew1) | exact HB.out)⟩⟩
                        · rw [if_neg c27] at H
                          have c27b0 : ((bt a0 x7_2) == 27) = false := beq_eq_false_iff_ne.mpr c27
                          have c27b1 : ((bt a0 x7_2) != 27) = true := bne_iff_ne.mpr c27
                          by_cases c30 : (bt t105 x7_2) = (bt a0 x7_2)
                          · rw [if_pos c30] at H
                            have c30b0 : ((bt t105 x7_2) == (bt a0 x7_2)) = true := beq_iff_eq.mpr c30
                            have c30b1 : ((bt t105 x7_2) != (bt a0 x7_2)) = false := bne_eq_false_iff_eq.mpr c30
                            clear c30
                            have H' := Aside0.mk H
                            clear H
                            have p24 : 0 ≤ (x7_2 : Int) := of_decide_eq_true (by first | (with_reducible assumption) | assumption)
                            have q24 : x7_2 < (t105.size : Int) := of_decide_eq_true (by first | (with_reducible assumption) | assumption)
                            have hx24 := bt_at t105 x7_2
                            replace p24 := eq_true p24
                            replace q24 := eq_true q24
                            have p26 : 0 ≤ (x7_2 : Int) := of_decide_eq_true (by first | (with_reducible assumption) | assumption)
                            have q26 : x7_2 < (a0.size : Int) := of_decide_eq_true (by first | (with_reducible assumption) | assumption)
                            have hx26 := bt_at a0 x7_2
                            replace p26 := eq_true p26
                            replace q26 := eq_true q26
                            have p28 : 0 ≤ (x7_2 : Int) := of_decide_eq_true (by first | (with_reducible assumption) | assumption)
                            have q28 : x7_2 < (t105.size : Int) := of_decide_eq_true (by first | (with_reducible assumption) | assumption)
                            have hx28 := bt_at t105 x7_2
                            replace p28 := eq_true p28
                            replace q28 := eq_true q28
                            have p29 : 0 ≤ (x7_2 : Int) := of_decide_eq_true (by first | (with_reducible assumption) | assumption)
                            have q29 : x7_2 < (a0.size : Int) := of_decide_eq_true (by first | (with_reducible assumption) | assumption)
                            have hx29 := bt_at a0 x7_2
                            replace p29 := eq_true p29
                            replace q29 := eq_true q29
                            go_wp2
                            repeat (go_quiet (fail); try go_wp2)
                            go_roundg k2
                            case measure => have := HJ6.out; have := HK2.out; omega
                            case rel => exact ⟨(wrap64 (x7_2 + 1)), (by first | rfl | (simp; done) | (simp [*]; done)), H', ⟨by have := HJ6.out; have := HK2.out; omega⟩, ⟨by repeat (first | (with_reducible first | exact HB.out | apply below_alloc | apply pw_below_drewN | apply below_drew1) | exact HB.out)⟩⟩
                          · rw [if_neg c30] at H
                            have c30b0 : ((bt t105 x7_2) == (bt a0 x7_2)) = false := beq_eq_false_iff_ne.mpr c30
                            have c30b1 : ((bt t105 x7_2) != (bt a0 x7_2)) = true := bne_iff_ne.mpr c30
                            obtain rfl := Option.some.inj H
                            have p24 : 0 ≤ (x7_2 : Int) := of_decide_eq_true (by first | (with_reducible assumption) | assumption)
                            have q24 : x7_2 < (t105.size : Int) := of_decide_eq_true (by first | (with_reducible assumption) | assumption)
                            have hx24 := bt_at t105 x7_2
                            replace p24 := eq_true p24
                            replace q24 := eq_true q24
                            have p26 : 0 ≤ (x7_2 : Int) := of_decide_eq_true (by first | (with_reducible assumption) | assumption)
                            have q26 : x7_2 < (a0.size : Int) := of_decide_eq_true (by first | (with_reducible assumption) | assumption)
                            have hx26 := bt_at a0 x7_2
                            replace p26 := eq_true p26
                            replace q26 := eq_true q26
                            have p28 : 0 ≤ (x7_2 : Int) := of_decide_eq_true (by first | (with_reducible assumption) | assumption)
                            have q28 : x7_2 < (t105.size : Int) := of_decide_eq_true (by first | (with_reducible assumption) | assumption)
                            have hx28 := bt_at t105 x7_2
                            replace p28 := eq_true p28
                            replace q28 := eq_true q28
                            have p29 : 0 ≤ (x7_2 : Int) := of_decide_eq_true (by first | (with_reducible assumption) | assumption)
                            have q29 : x7_2 < (a0.size : Int) := of_decide_eq_true (by first | (with_reducible assumption) | assumption)
                            have hx29 := bt_at a0 x7_2
                            replace p29 := eq_true p29
                            replace q29 := eq_true q29
                            go_wp2
                            repeat (go_quiet (fail); try go_wp2)
                            go_ret
                            exact ⟨by first | rfl | (simp [errW_none, errW_some] <;> rfl) | (simp [*, errW_none, errW_some] <;> rfl), by repeat (first | (with_reducible first | exact HB.out | apply below_alloc | apply pw_below_drewN | apply below_drew1) | exact HB.out)⟩
                    · rw [if_neg c23] at H
                      exact absurd H (by simp)
                  · rw [if_neg c22] at H
                    exact absurd H (by simp)
                · rw [if_neg c21] at H
                  have c21b0 : decide (x7_2 < (a0.size : Int)) = false := decide_eq_false c21
                  clear c21
                  obtain rfl := Option.some.inj H
                  go_wp2
                  repeat (go_quiet (fail); try go_wp2)
                  go_ret
                  exact ⟨by first | rfl | (simp [errW_none, errW_some] <;> rfl) | (simp [*, errW_none, errW_some] <;> rfl), by repeat (first | (with_reducible first | exact HB.out | apply below_alloc | apply pw_below_drewN | apply below_drew1) | exact HB.out)⟩
    · replace c4 := Bool.eq_false_iff.mpr c4
      subst c4
      have H1 : (some true) = some r := by rw [if_neg (show ¬ (false = true) by decide)] at H; exact H
      clear H
      have H := H1
      clear H1
      obtain rfl := Option.some.inj H
      go_enter Tryd.func5, Tryd.ntmps5
      go_wp2_with (first | (go_at_call 21; (with_reducible refine (spec_UTF8.calls a0 false _ A3.out).mono ?_); rintro e w31 ⟨rfl, hb⟩; have n0_ := Aside0.mk (below_step (by repeat (first | (with_reducible first | exact HB.out | apply below_alloc | apply pw_below_drewN | apply below_drew1) | exact HB.out)) hb); clear HB; have HB := n0_; clear n0_; (try clear hb); (try clear hb2); (try clear hk); (try clear hi)))
      repeat (go_quiet (first | (go_at_call 21; (with_reducible refine (spec_UTF8.calls a0 false _ A3.out).mono ?_); rintro e w31 ⟨rfl, hb⟩; have n0_ := Aside0.mk (below_step (by repeat (first | (with_reducible first | exact HB.out | apply below_alloc | apply pw_below_drewN | apply below_drew1) | exact HB.out)) hb); clear HB; have HB := n0_; clear n0_; (try clear hb); (try clear hb2); (try clear hk); (try clear hi))); try go_wp2_with (first | (go_at_call 21; (with_reducible refine (spec_UTF8.calls a0 false _ A3.out).mono ?_); rintro e w31 ⟨rfl, hb⟩; have n0_ := Aside0.mk (below_step (by repeat (first | (with_reducible first | exact HB.out | apply below_alloc | apply pw_below_drewN | apply below_drew1) | exact HB.out)) hb); clear HB; have HB := n0_; clear n0_; (try clear hb); (try clear hb2); (try clear hk); (try clear hi))))
      go_ret
      exact ⟨by first | rfl | (simp [errW_none, errW_some] <;> rfl) | (simp [*, errW_none, errW_some] <;> rfl), by repeat (first | (with_reducible first | exact HB.out | apply below_alloc | apply pw_below_drewN | apply below_drew1) | exact HB.out)⟩
/-- THE ONE PURE STATEMENT of laws_FnWroteText: yours. -/
def laws_FnWroteText.Pure : Prop := ∀ (a0 : ByteArray), a0.size ≤ 140737488351232 → ∃ k, laws_FnWroteText.f k a0 = some true
theorem laws_FnWroteText.walk (P : laws_FnWroteText.Pure) (a0 : ByteArray) (w : World) (w0 : a0.size ≤ 140737488351232) :
    Calls Tryd.prog 5 #[.string a0] w fun e w' => e = .returned (.bool true) ∧ Below w.heap.size w w' := by
  obtain ⟨k, h⟩ := P a0 w0
  refine (laws_FnWroteText.calls k a0 true w h).mono ?_
  rintro e w' ⟨rfl, hd⟩
  exact ⟨rfl, hd⟩
end Go.Proofs.YtanadaamipfmkaaDoor.PFnWroteText
