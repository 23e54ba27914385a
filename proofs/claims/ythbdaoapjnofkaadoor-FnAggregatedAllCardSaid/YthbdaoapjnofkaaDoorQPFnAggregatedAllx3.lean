/- Printed by a program of this seat (xprint) out of the translation: Go functions as plain functions, and the walks that show them; no condition. -/
import Derived.Test.YthbdaoapjnofkaaDoorQPFnAggregatedAllx0
import Derived.Test.YthbdaoapjnofkaaDoorQHAggT
import Derived.Test.YthbdaoapjnofkaaDoorQHWhole
import Derived.Test.YthbdaoapjnofkaaDoorQPFnAggregatedAllx2
namespace Go.Proofs.YthbdaoapjnofkaaDoor.PFnAggregatedAll
open Go.RowKit Go.Proofs.YthbdaoapjnofkaaDoor.H Go.Proofs.YthbdaoapjnofkaaDoor.R Go.Proofs.YthbdaoapjnofkaaDoorW.PrintWords Go.Proofs.YthbdaoapjnofkaaDoorW.PrintLast Go.Proofs.YthbdaoapjnofkaaDoorW.PrintMore
attribute [local go_sem] max2_int min2_int max_two min_two max_three min_three max_four min_four   -- for this text's walks alone
set_option linter.unusedVariables false
set_option linter.unusedSimpArgs false
/-! ### impl_BeginsRunes: function 14 -/
def impl_BeginsRunes.f (k : Nat) (a0 : ByteArray) (a1 : ByteArray) (a2 : Bool) : Option (Bool) := if a2 = true then (if (runesOf a0).length ≤ 70368744177664 then (if (runesOf a1).length ≤ 70368744177664 then ((readline_Runes_HasPrefixFold.f k (runesOf a0) (runesOf a1)).bind fun t127 => (some t127)) else (none)) else (none)) else (if (runesOf a0).length ≤ 70368744177664 then (if (runesOf a1).length ≤ 70368744177664 then ((readline_Runes_HasPrefix.f k (runesOf a0) (runesOf a1)).bind fun t134 => (some t134)) else (none)) else (none))
theorem impl_BeginsRunes.mono : ∀ a0 a1 a2 k, LeO (impl_BeginsRunes.f k a0 a1 a2) (impl_BeginsRunes.f (k + 1) a0 a1 a2) := by
  intro a0 a1 a2 k
  unfold impl_BeginsRunes.f
  repeat' first
      | (with_reducible exact readline_Runes_HasPrefix.mono _ _ _)
      | (with_reducible exact readline_Runes_HasPrefixFold.mono _ _ _)
      | (with_reducible exact LeO.refl _)
      | (with_reducible exact LeO.none _)
      | (with_reducible refine LeO.ite ?_ ?_)
      | (with_reducible refine LeO.bind ?_ (fun _ => ?_))
      | exact readline_Runes_HasPrefix.mono _ _ _
      | exact readline_Runes_HasPrefixFold.mono _ _ _
      | exact LeO.none _
      | refine LeO.ite ?_ ?_
      | refine LeO.bind ?_ (fun _ => ?_)
set_option maxHeartbeats 8000000 in
set_option maxRecDepth 100000 in
theorem impl_BeginsRunes.calls (k : Nat) (a0 : ByteArray) (a1 : ByteArray) (a2 : Bool) (r : Bool) (w : World) (h : impl_BeginsRunes.f k a0 a1 a2 = some r) :
    Calls Tryd.prog 14 #[.string a0, .string a1, .bool a2] w fun e w' => e = .returned (.bool r) ∧ Below w.heap.size w w' := by
  have hu62 := Tryd.underlying62
  have HB := Aside0.mk (Below.refl w.heap.size w)
  have H : (if a2 = true then (if (runesOf a0).length ≤ 70368744177664 then (if (runesOf a1).length ≤ 70368744177664 then ((readline_Runes_HasPrefixFold.f k (runesOf a0) (runesOf a1)).bind fun t127 => (some t127)) else (none)) else (none)) else (if (runesOf a0).length ≤ 70368744177664 then (if (runesOf a1).length ≤ 70368744177664 then ((readline_Runes_HasPrefix.f k (runesOf a0) (runesOf a1)).bind fun t134 => (some t134)) else (none)) else (none))) = some r := h
  clear h
  by_cases c4 : a2 = true
  · subst c4
    have H1 : (if (runesOf a0).length ≤ 70368744177664 then (if (runesOf a1).length ≤ 70368744177664 then ((readline_Runes_HasPrefixFold.f k (runesOf a0) (runesOf a1)).bind fun t127 => (some t127)) else (none)) else (none)) = some r := by rw [if_pos rfl] at H; exact H
    clear H
    have H := H1
    clear H1
    by_cases c5 : (runesOf a0).length ≤ 70368744177664
    · rw [if_pos c5] at H
      have c5b0 := eq_true c5
      have c5b1 : decide ((runesOf a0).length ≤ 70368744177664) = true := decide_eq_true c5
      clear c5
      obtain ⟨y121, hy121⟩ : ∃ y_ : List Int, y_ = (runesOf a0) := ⟨_, rfl⟩
      replace H : (if (runesOf a1).length ≤ 70368744177664 then ((readline_Runes_HasPrefixFold.f k y121 (runesOf a1)).bind fun t127 => (some t127)) else (none)) = some r := by first | (rw [hy121]; with_reducible exact H) | (have H2_ := (Option.bind_some _ _).symm.trans H; rw [hy121]; with_reducible exact H2_) | (have H2_ := (Option.bind_some _ _).symm.trans H; with_reducible exact H2_) | with_reducible exact H | (rw [hy121]; exact H) | exact H
      have Ny121 := Aside0.mk hy121
      clear hy121
      by_cases c6 : (runesOf a1).length ≤ 70368744177664
      · rw [if_pos c6] at H
        have c6b0 := eq_true c6
        have c6b1 : decide ((runesOf a1).length ≤ 70368744177664) = true := decide_eq_true c6
        clear c6
        obtain ⟨y124, hy124⟩ : ∃ y_ : List Int, y_ = (runesOf a1) := ⟨_, rfl⟩
        replace H : ((readline_Runes_HasPrefixFold.f k y121 y124).bind fun t127 => (some t127)) = some r := by first | (rw [hy124]; with_reducible exact H) | (have H2_ := (Option.bind_some _ _).symm.trans H; rw [hy124]; with_reducible exact H2_) | (have H2_ := (Option.bind_some _ _).symm.trans H; with_reducible exact H2_) | with_reducible exact H | (rw [hy124]; exact H) | exact H
        have Ny124 := Aside0.mk hy124
        clear hy124
        replace H := Option.bind_eq_some_iff.mp H
        obtain ⟨t127, A70, H⟩ := H
        replace H : (some t127) = some r := H
        have A7 := Aside0.mk A70
        clear A70
        obtain rfl := Option.some.inj H
        go_enter Tryd.func14, Tryd.ntmps14
        go_wp2_with (first | ((with_reducible refine gate_dst (N := 10) rfl ?_); refine R_runes _ 21 rfl (N := 10) rfl 9 27 _ rfl a0 rfl Tryd.underlying9 Tryd.underlying27 Tryd.underlying21 (ok := fun _ => True) (okp := fun _ => True) (fun _ hk => hk) trivial (of_decide_eq_true (by first | (with_reducible assumption) | assumption)) (Below.refl _ _) (Nat.le_refl _) ?_; intro v122 w8 ho9 hb hg_ hnew_; clear hg_ hnew_; (first | rw [← Ny121.out] at ho9 | (simp only [Int.reduceToNat] at ho9; rw [← Ny121.out] at ho9)); have n0_ := Aside0.mk (Kd.R_lower ho9 (below_size (by repeat (first | (with_reducible first | exact HB.out | apply below_alloc | apply pw_below_drewN | apply below_drew1) | exact HB.out)))); have n1_ := Aside0.mk (below_step (by repeat (first | (with_reducible first | exact HB.out | apply below_alloc | apply pw_below_drewN | apply below_drew1) | exact HB.out)) hb); clear HB; have HO123 := n0_; have HB := n1_; clear n0_ n1_; clear hb ho9) | ((with_reducible refine gate_dst (N := 12) rfl ?_); refine R_runes _ 21 rfl (N := 12) rfl 9 27 _ rfl a1 rfl Tryd.underlying9 Tryd.underlying27 Tryd.underlying21 (ok := fun _ => True) (okp := fun _ => True) (fun _ hk => hk) trivial (of_decide_eq_true (by first | (with_reducible assumption) | assumption)) (Below.refl _ _) (Nat.le_refl _) ?_; intro v125 w10 ho11 hb hg_ hnew_; clear hg_ hnew_; (first | rw [← Ny124.out] at ho11 | (simp only [Int.reduceToNat] at ho11; rw [← Ny124.out] at ho11)); have n0_ := Aside0.mk (Kd.R_elder' (by (with_reducible repeat (first | apply Kd.R_alloc | apply Kd.R_drewN | apply Kd.R_drew)); exact HO123.out) (Kd.R_base ho11) hb); have n1_ := Aside0.mk (Kd.R_lower (Kd.R_new' ho11 (Kd.R_lt (by (with_reducible repeat (first | apply Kd.R_alloc | apply Kd.R_drewN | apply Kd.R_drew)); exact HO123.out))) (below_size (by repeat (first | (with_reducible first | exact HB.out | apply below_alloc | apply pw_below_drewN | apply below_drew1) | exact HB.out)))); have n2_ := Aside0.mk (below_step (by repeat (first | (with_reducible first | exact HB.out | apply below_alloc | apply pw_below_drewN | apply below_drew1) | exact HB.out)) hb); clear HO123; clear HB; have HO123 := n0_; have HO126 := n1_; have HB := n2_; clear n0_ n1_ n2_; clear hb ho11; obtain ⟨Ao12, co12, eo12⟩ := Kd.R_slice HO123.out; subst eo12; obtain ⟨Ao13, co13, eo13⟩ := Kd.R_slice HO126.out; subst eo13) | ((with_reducible refine gate_callee (f := 40) rfl ?_); refine goesL_ (some 13) rfl rfl Tryd.func40 (by kernel_rfl) rfl #[.agg #[], .slice Ao12 y121.length co12, .slice Ao13 y124.length co13] rfl (by (try simp only [List.map_toArray, List.map_cons, List.map_nil]); first | done | rfl | (simp only [List.length_drop, List.length_take]; rfl) | (simp only [Int.toNat_natCast, ByteArray.extract_zero_size]; rfl)) ?_; (with_reducible refine (readline_Runes_HasPrefixFold.calls k  _ _ y121 _ _ y124 t127 _ ?side1 ?side2 ?side3 ?side4 A7.out).mono ?_); (case side1 => repeat (first | exact (Kd.R_reads' HO123.out).2.2 | (with_reducible refine Kd.C_alloc ?_ _) | (with_reducible refine Kd.C_drewN ?_ _) | (with_reducible refine Kd.C_drew ?_))); (case side2 => exact (Kd.R_reads' HO123.out).2.1); (case side3 => repeat (first | exact (Kd.R_reads' HO126.out).2.2 | (with_reducible refine Kd.C_alloc ?_ _) | (with_reducible refine Kd.C_drewN ?_ _) | (with_reducible refine Kd.C_drew ?_))); (case side4 => exact (Kd.R_reads' HO126.out).2.1); rintro e w14 ⟨rfl, hb⟩; refine ⟨_, rfl, ?_⟩; have n0_ := Aside0.mk (Kd.R_below (by (with_reducible repeat (first | apply Kd.R_alloc | apply Kd.R_drewN | apply Kd.R_drew)); exact HO123.out) hb); have n1_ := Aside0.mk (Kd.R_below (by (with_reducible repeat (first | apply Kd.R_alloc | apply Kd.R_drewN | apply Kd.R_drew)); exact HO126.out) hb); have n2_ := Aside0.mk (below_step (by repeat (first | (with_reducible first | exact HB.out | apply below_alloc | apply pw_below_drewN | apply below_drew1) | exact HB.out)) hb); clear HO123; clear HO126; clear HB; have HO123 := n0_; have HO126 := n1_; have HB := n2_; clear n0_ n1_ n2_; (try clear hb); (try clear hb2); (try clear hk); (try clear hi)))
        go_ret
        exact ⟨by first | rfl | (simp [errW_none, errW_some] <;> rfl) | (simp [*, errW_none, errW_some] <;> rfl), by repeat (first | (with_reducible first | exact HB.out | apply below_alloc | apply pw_below_drewN | apply below_drew1) | exact HB.out)⟩
      · rw [if_neg c6] at H
        exact absurd H (by simp)
    · rw [if_neg c5] at H
      exact absurd H (by simp)
  · replace c4 := Bool.eq_false_iff.mpr c4
    subst c4
    have H1 : (if (runesOf a0).length ≤ 70368744177664 then (if (runesOf a1).length ≤ 70368744177664 then ((readline_Runes_HasPrefix.f k (runesOf a0) (runesOf a1)).bind fun t134 => (some t134)) else (none)) else (none)) = some r := by rw [if_neg (show ¬ (false = true) by decide)] at H; exact H
    clear H
    have H := H1
    clear H1
    by_cases c15 : (runesOf a0).length ≤ 70368744177664
    · rw [if_pos c15] at H
      have c15b0 := eq_true c15
      have c15b1 : decide ((runesOf a0).length ≤ 70368744177664) = true := decide_eq_true c15
      clear c15
      obtain ⟨y128, hy128⟩ : ∃ y_ : List Int, y_ = (runesOf a0) := ⟨_, rfl⟩
      replace H : (if (runesOf a1).length ≤ 70368744177664 then ((readline_Runes_HasPrefix.f k y128 (runesOf a1)).bind fun t134 => (some t134)) else (none)) = some r := by first | (rw [hy128]; with_reducible exact H) | (have H2_ := (Option.bind_some _ _).symm.trans H; rw [hy128]; with_reducible exact H2_) | (have H2_ := (Option.bind_some _ _).symm.trans H; with_reducible exact H2_) | with_reducible exact H | (rw [hy128]; exact H) | exact H
      have Ny128 := Aside0.mk hy128
      clear hy128
      by_cases c16 : (runesOf a1).length ≤ 70368744177664
      · rw [if_pos c16] at H
        have c16b0 := eq_true c16
        have c16b1 : decide ((runesOf a1).length ≤ 70368744177664) = true := decide_eq_true c16
        clear c16
        obtain ⟨y131, hy131⟩ : ∃ y_ : List Int, y_ = (runesOf a1) := ⟨_, rfl⟩
        replace H : ((readline_Runes_HasPrefix.f k y128 y131).bind fun t134 => (some t134)) = some r := by first | (rw [hy131]; with_reducible exact H) | (have H2_ := (Option.bind_some _ _).symm.trans H; rw [hy131]; with_reducible exact H2_) | (have H2_ := (Option.bind_some _ _).symm.trans H; with_reducible exact H2_) | with_reducible exact H | (rw [hy131]; exact H) | exact H
        have Ny131 := Aside0.mk hy131
        clear hy131
        replace H := Option.bind_eq_some_iff.mp H
        obtain ⟨t134, A170, H⟩ := H
        replace H : (some t134) = some r := H
        have A17 := Aside0.mk A170
        clear A170
        obtain rfl := Option.some.inj H
        go_enter Tryd.func14, Tryd.ntmps14
        go_wp2_with (first | ((with_reducible refine gate_dst (N := 16) rfl ?_); refine R_runes _ 21 rfl (N := 16) rfl 9 27 _ rfl a0 rfl Tryd.underlying9 Tryd.underlying27 Tryd.underlying21 (ok := fun _ => True) (okp := fun _ => True) (fun _ hk => hk) trivial (of_decide_eq_true (by first | (with_reducible assumption) | assumption)) (Below.refl _ _) (Nat.le_refl _) ?_; intro v129 w18 ho19 hb hg_ hnew_; clear hg_ hnew_; (first | rw [← Ny128.out] at ho19 | (simp only [Int.reduceToNat] at ho19; rw [← Ny128.out] at ho19)); have n0_ := Aside0.mk (Kd.R_lower ho19 (below_size (by repeat (first | (with_reducible first | exact HB.out | apply below_alloc | apply pw_below_drewN | apply below_drew1) | exact HB.out)))); have n1_ := Aside0.mk (below_step (by repeat (first | (with_reducible first | exact HB.out | apply below_alloc | apply pw_below_drewN | apply below_drew1) | exact HB.out)) hb); clear HB; have HO130 := n0_; have HB := n1_; clear n0_ n1_; clear hb ho19) | ((with_reducible refine gate_dst (N := 18) rfl ?_); refine R_runes _ 21 rfl (N := 18) rfl 9 27 _ rfl a1 rfl Tryd.underlying9 Tryd.underlying27 Tryd.underlying21 (ok := fun _ => True) (okp := fun _ => True) (fun _ hk => hk) trivial (of_decide_eq_true (by first | (with_reducible assumption) | assumption)) (Below.refl _ _) (Nat.le_refl _) ?_; intro v132 w20 ho21 hb hg_ hnew_; clear hg_ hnew_; (first | rw [← Ny131.out] at ho21 | (simp only [Int.reduceToNat] at ho21; rw [← Ny131.out] at ho21)); have n0_ := Aside0.mk (Kd.R_elder' (by (with_reducible repeat (first | apply Kd.R_alloc | apply Kd.R_drewN | apply Kd.R_drew)); exact HO130.out) (Kd.R_base ho21) hb); have n1_ := Aside0.mk (Kd.R_lower (Kd.R_new' ho21 (Kd.R_lt (by (with_reducible repeat (first | apply Kd.R_alloc | apply Kd.R_drewN | apply Kd.R_drew)); exact HO130.out))) (below_size (by repeat (first | (with_reducible first | exact HB.out | apply below_alloc | apply pw_below_drewN | apply below_drew1) | exact HB.out)))); have n2_ := Aside0.mk (below_step (by repeat (first | (with_reducible first | exact HB.out | apply below_alloc | apply pw_below_drewN | apply below_drew1) | exact HB.out)) hb); clear HO130; clear HB; have HO130 := n0_; have HO133 := n1_; have HB := n2_; clear n0_ n1_ n2_; clear hb ho21; obtain ⟨Ao22, co22, eo22⟩ := Kd.R_slice HO130.out; subst eo22; obtain ⟨Ao23, co23, eo23⟩ := Kd.R_slice HO133.out; subst eo23) | ((with_reducible refine gate_callee (f := 41) rfl ?_); refine goesL_ (some 19) rfl rfl Tryd.func41 (by kernel_rfl) rfl #[.agg #[], .slice Ao22 y128.length co22, .slice Ao23 y131.length co23] rfl (by (try simp only [List.map_toArray, List.map_cons, List.map_nil]); first | done | rfl | (simp only [List.length_drop, List.length_take]; rfl) | (simp only [Int.toNat_natCast, ByteArray.extract_zero_size]; rfl)) ?_; (with_reducible refine (readline_Runes_HasPrefix.calls k  _ _ y128 _ _ y131 t134 _ ?side1 ?side2 ?side3 ?side4 A17.out).mono ?_); (case side1 => repeat (first | exact (Kd.R_reads' HO130.out).2.2 | (with_reducible refine Kd.C_alloc ?_ _) | (with_reducible refine Kd.C_drewN ?_ _) | (with_reducible refine Kd.C_drew ?_))); (case side2 => exact (Kd.R_reads' HO130.out).2.1); (case side3 => repeat (first | exact (Kd.R_reads' HO133.out).2.2 | (with_reducible refine Kd.C_alloc ?_ _) | (with_reducible refine Kd.C_drewN ?_ _) | (with_reducible refine Kd.C_drew ?_))); (case side4 => exact (Kd.R_reads' HO133.out).2.1); rintro e w24 ⟨rfl, hb⟩; refine ⟨_, rfl, ?_⟩; have n0_ := Aside0.mk (Kd.R_below (by (with_reducible repeat (first | apply Kd.R_alloc | apply Kd.R_drewN | apply Kd.R_drew)); exact HO130.out) hb); have n1_ := Aside0.mk (Kd.R_below (by (with_reducible repeat (first | apply Kd.R_alloc | apply Kd.R_drewN | apply Kd.R_drew)); exact HO133.out) hb); have n2_ := Aside0.mk (below_step (by repeat (first | (with_reducible first | exact HB.out | apply below_alloc | apply pw_below_drewN | apply below_drew1) | exact HB.out)) hb); clear HO130; clear HO133; clear HB; have HO130 := n0_; have HO133 := n1_; have HB := n2_; clear n0_ n1_ n2_; (try clear hb); (try clear hb2); (try clear hk); (try clear hi)))
        go_ret
        exact ⟨by first | rfl | (simp [errW_none, errW_some] <;> rfl) | (simp [*, errW_none, errW_some] <;> rfl), by repeat (first | (with_reducible first | exact HB.out | apply below_alloc | apply pw_below_drewN | apply below_drew1) | exact HB.out)⟩
      · rw [if_neg c16] at H
        exact absurd H (by simp)
    · rw [if_neg c15] at H
      exact absurd H (by simp)
end Go.Proofs.YthbdaoapjnofkaaDoor.PFnAggregatedAll
