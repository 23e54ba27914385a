/- Printed by a program of this seat (xprint) out of the translation: Go functions as plain functions, and the walks that show them; no condition. -/
import Derived.Test.YthbdaoapjnofkaaDoorQPFnFilteredx0
import Derived.Test.YthbdaoapjnofkaaDoorQHFilX
import Derived.Test.YthbdaoapjnofkaaDoorQHLow
import Derived.Test.YthbdaoapjnofkaaDoorQPFnFilteredx2
import Derived.Test.YthbdaoapjnofkaaDoorQPFnFilteredx3
import Derived.Test.YthbdaoapjnofkaaDoorQPFnFilteredx4
namespace Go.Proofs.YthbdaoapjnofkaaDoor.PFnFiltered
open Go.RowKit Go.Proofs.YthbdaoapjnofkaaDoor.H Go.Proofs.YthbdaoapjnofkaaDoor.R Go.Proofs.YthbdaoapjnofkaaDoorW.PrintWords Go.Proofs.YthbdaoapjnofkaaDoorW.PrintLast Go.Proofs.YthbdaoapjnofkaaDoorW.PrintMore
attribute [local go_sem] max2_int min2_int max_two min_two max_three min_three max_four min_four   -- for this text's walks alone
set_option linter.unusedVariables false
set_option linter.unusedSimpArgs false
/-! ### laws_FnFiltered: function 10 -/
mutual
def laws_FnFiltered.j0 : Nat → Int → List (S55) → ByteArray → Bool → Bool → Option (Bool)
  | 0, _, _, _, _, _ => none
  | k + 1, x0, x1, x2, x3, x20 => if x20 = true then (some true) else ((laws_picks7.f k x1 x2).bind fun t137 => (if t137 = true then (laws_FnFiltered.l0 k x1 x2 x3 (wrap64 (1 + (wrap64 (Int.tmod x0 4)))) ([] : List (S55)) 0) else (some true)))
def laws_FnFiltered.l0 : Nat → List (S55) → ByteArray → Bool → Int → List (S55) → Int → Option (Bool)
  | 0, _, _, _, _, _, _ => none
  | k + 1, x1, x2, x3, x9, x10, x11 => if x11 < (x1.length : Int) then (if 0 ≤ x11 then ((spec_Passes.f k x9 ((rd_T55 x1 x11).f0) x2 x3).bind fun t139 => (if t139 = true then (if x10.length < 4398046511104 then (laws_FnFiltered.l0 k x1 x2 x3 x9 (x10 ++ [(⟨(rd_T55 x1 x11).f0, (rd_T55 x1 x11).f1⟩ : S55)]) (wrap64 (x11 + 1))) else (none)) else (laws_FnFiltered.l0 k x1 x2 x3 x9 x10 (wrap64 (x11 + 1))))) else (none)) else ((impl_Filtered.f k x9 x1 x2 x3).bind fun t144 => ((laws_samePicks7.f k t144 x10).bind fun t147 => (if t147 = true then ((impl_Filtered.f k x9 (([(⟨(⟨#[97]⟩ : ByteArray), (⟨#[]⟩ : ByteArray)⟩ : S55)] : List (S55))) (⟨#[97]⟩ : ByteArray) false).bind fun t151 => (some ((t151.length : Int) == 1))) else (some false))))
end
def laws_FnFiltered.f (k : Nat) (a0 : Int) (l1 : List (S55)) (a2 : ByteArray) (a3 : Bool) : Option (Bool) := (laws_zzFits3.f k l1).bind fun t136 => (if t136 = true then (laws_FnFiltered.j0 k a0 l1 a2 a3 (decide ((a2.size : Int) > 2147483647))) else (laws_FnFiltered.j0 k a0 l1 a2 a3 true))
theorem laws_FnFiltered.mono_l : ∀ k, (∀ y0 y1 y2 y3 y4, LeO (laws_FnFiltered.j0 k y0 y1 y2 y3 y4) (laws_FnFiltered.j0 (k + 1) y0 y1 y2 y3 y4)) ∧ (∀ y0 y1 y2 y3 y4 y5, LeO (laws_FnFiltered.l0 k y0 y1 y2 y3 y4 y5) (laws_FnFiltered.l0 (k + 1) y0 y1 y2 y3 y4 y5))
  | 0 => ⟨fun _ _ _ _ _ r h => by simp [laws_FnFiltered.j0] at h, fun _ _ _ _ _ _ r h => by simp [laws_FnFiltered.l0] at h⟩
  | k + 1 => by
    obtain ⟨ih0, ih1⟩ := laws_FnFiltered.mono_l k
    refine ⟨?_, ?_⟩
    · intro y0 y1 y2 y3 y4
      unfold laws_FnFiltered.j0
      repeat' first
      | (with_reducible exact ih0 _ _ _ _ _)
      | (with_reducible exact ih1 _ _ _ _ _ _)
      | (with_reducible exact impl_Filtered.mono _ _ _ _ _)
      | (with_reducible exact laws_picks7.mono _ _ _)
      | (with_reducible exact laws_samePicks7.mono _ _ _)
      | (with_reducible exact laws_zzFits3.mono _ _)
      | (with_reducible exact spec_Passes.mono _ _ _ _ _)
      | (with_reducible exact LeO.refl _)
      | (with_reducible exact LeO.none _)
      | (with_reducible refine LeO.ite ?_ ?_)
      | (with_reducible refine LeO.bind ?_ (fun _ => ?_))
      | exact ih0 _ _ _ _ _
      | exact ih1 _ _ _ _ _ _
      | exact impl_Filtered.mono _ _ _ _ _
      | exact laws_picks7.mono _ _ _
      | exact laws_samePicks7.mono _ _ _
      | exact laws_zzFits3.mono _ _
      | exact spec_Passes.mono _ _ _ _ _
      | exact LeO.none _
      | refine LeO.ite ?_ ?_
      | refine LeO.bind ?_ (fun _ => ?_)
    · intro y0 y1 y2 y3 y4 y5
      unfold laws_FnFiltered.l0
      repeat' first
      | (with_reducible exact ih0 _ _ _ _ _)
      | (with_reducible exact ih1 _ _ _ _ _ _)
      | (with_reducible exact impl_Filtered.mono _ _ _ _ _)
      | (with_reducible exact laws_picks7.mono _ _ _)
      | (with_reducible exact laws_samePicks7.mono _ _ _)
      | (with_reducible exact laws_zzFits3.mono _ _)
      | (with_reducible exact spec_Passes.mono _ _ _ _ _)
      | (with_reducible exact LeO.refl _)
      | (with_reducible exact LeO.none _)
      | (with_reducible refine LeO.ite ?_ ?_)
      | (with_reducible refine LeO.bind ?_ (fun _ => ?_))
      | exact ih0 _ _ _ _ _
      | exact ih1 _ _ _ _ _ _
      | exact impl_Filtered.mono _ _ _ _ _
      | exact laws_picks7.mono _ _ _
      | exact laws_samePicks7.mono _ _ _
      | exact laws_zzFits3.mono _ _
      | exact spec_Passes.mono _ _ _ _ _
      | exact LeO.none _
      | refine LeO.ite ?_ ?_
      | refine LeO.bind ?_ (fun _ => ?_)
theorem laws_FnFiltered.mono : ∀ a0 a1 a2 a3 k, LeO (laws_FnFiltered.f k a0 a1 a2 a3) (laws_FnFiltered.f (k + 1) a0 a1 a2 a3) := by
  intro a0 a1 a2 a3 k
  obtain ⟨ih0, ih1⟩ := laws_FnFiltered.mono_l k
  unfold laws_FnFiltered.f
  repeat' first
      | (with_reducible exact ih0 _ _ _ _ _)
      | (with_reducible exact ih1 _ _ _ _ _ _)
      | (with_reducible exact impl_Filtered.mono _ _ _ _ _)
      | (with_reducible exact laws_picks7.mono _ _ _)
      | (with_reducible exact laws_samePicks7.mono _ _ _)
      | (with_reducible exact laws_zzFits3.mono _ _)
      | (with_reducible exact spec_Passes.mono _ _ _ _ _)
      | (with_reducible exact LeO.refl _)
      | (with_reducible exact LeO.none _)
      | (with_reducible refine LeO.ite ?_ ?_)
      | (with_reducible refine LeO.bind ?_ (fun _ => ?_))
      | exact ih0 _ _ _ _ _
      | exact ih1 _ _ _ _ _ _
      | exact impl_Filtered.mono _ _ _ _ _
      | exact laws_picks7.mono _ _ _
      | exact laws_samePicks7.mono _ _ _
      | exact laws_zzFits3.mono _ _
      | exact spec_Passes.mono _ _ _ _ _
      | exact LeO.none _
      | refine LeO.ite ?_ ?_
      | refine LeO.bind ?_ (fun _ => ?_)
set_option maxHeartbeats 8000000 in
set_option maxRecDepth 100000 in
theorem laws_FnFiltered.calls (k : Nat) (a0 : Int) (A1 : Option Addr) (c1 : Nat) (l1 : List (S55)) (a2 : ByteArray) (a3 : Bool) (r : Bool) (w : World) (hr1 : Kd.C k55 w A1 l1.length l1) (hc1 : l1.length ≤ c1) (h : laws_FnFiltered.f k a0 l1 a2 a3 = some r) :
    Calls Tryd.prog 10 #[.int .u8 a0, .slice A1 l1.length c1, .string a2, .bool a3] w fun e w' => e = .returned (.bool r) ∧ Below w.heap.size w w' := by
  have hu55 := Tryd.underlying55
  have HR1 := Aside0.mk hr1
  have HC1 := Aside0.mk hc1
  clear hr1 hc1
  have HB := Aside0.mk (Below.refl w.heap.size w)
  have H : ((laws_zzFits3.f k l1).bind fun t136 => (if t136 = true then (laws_FnFiltered.j0 k a0 l1 a2 a3 (decide ((a2.size : Int) > 2147483647))) else (laws_FnFiltered.j0 k a0 l1 a2 a3 true))) = some r := h
  clear h
  have HC5 := Aside0.mk H
  clear H
  go_enter Tryd.func10, Tryd.ntmps10
  go_upto_region 1 with (fail)
  go_cut [20] (fun v20 wc => ∃ (kq : Nat) (x20_4 : Bool), v20 = .bool x20_4 ∧ Aside0 (laws_FnFiltered.j0 kq a0 l1 a2 a3 x20_4 = some r) ∧ Aside0 (kq ≤ k) ∧ Aside0 (Below w.heap.size w wc))
  case first =>
    have H := HC5.out
    clear HC5
    replace H := Option.bind_eq_some_iff.mp H
    obtain ⟨t136, A60, H⟩ := H
    replace H : (if t136 = true then (laws_FnFiltered.j0 k a0 l1 a2 a3 (decide ((a2.size : Int) > 2147483647))) else (laws_FnFiltered.j0 k a0 l1 a2 a3 true)) = some r := H
    have A6 := Aside0.mk A60
    clear A60
    by_cases c7 : t136 = true
    · subst c7
      have H1 : (laws_FnFiltered.j0 k a0 l1 a2 a3 (decide ((a2.size : Int) > 2147483647))) = some r := by rw [if_pos rfl] at H; exact H
      clear H
      have H := H1
      clear H1
      have H' := Aside0.mk H
      clear H
      go_wp2_with (first | ((with_reducible refine gate_callee (f := 33) rfl ?_); refine goesL_ (some 14) rfl rfl Tryd.func33 (by kernel_rfl) rfl #[.slice A1 l1.length c1] rfl (by (try simp only [List.map_toArray, List.map_cons, List.map_nil]); first | done | rfl | (simp only [List.length_drop, List.length_take]; rfl) | (simp only [Int.toNat_natCast, ByteArray.extract_zero_size]; rfl)) ?_; (with_reducible refine (laws_zzFits3.calls k _ _ l1 true _ ?side1 ?side2 A6.out).mono ?_); (case side1 => repeat (first | exact (Kd.C_below HR1.out HB.out) | (with_reducible refine Kd.C_alloc ?_ _) | (with_reducible refine Kd.C_drewN ?_ _) | (with_reducible refine Kd.C_drew ?_))); (case side2 => exact HC1.out); rintro e w8 ⟨rfl, hb⟩; refine ⟨_, rfl, ?_⟩; have n0_ := Aside0.mk (below_step (by repeat (first | (with_reducible first | exact HB.out | apply below_alloc | apply pw_below_drewN | apply below_drew1) | exact HB.out)) hb); clear HB; have HB := n0_; clear n0_; (try clear hb); (try clear hb2); (try clear hk); (try clear hi)))
      go_meet
      case rel => exact ⟨_, (decide ((a2.size : Int) > 2147483647)), (by first | rfl | (simp; done) | (simp [*]; done)), H', ⟨by first | omega | exact Nat.le_refl _⟩, ⟨by repeat (first | (with_reducible first | exact HB.out | apply below_alloc | apply pw_below_drewN | apply below_drew1) | exact HB.out)⟩⟩
    · replace c7 := Bool.eq_false_iff.mpr c7
      subst c7
      have H1 : (laws_FnFiltered.j0 k a0 l1 a2 a3 true) = some r := by rw [if_neg (show ¬ (false = true) by decide)] at H; exact H
      clear H
      have H := H1
      clear H1
      have H' := Aside0.mk H
      clear H
      go_wp2_with (first | ((with_reducible refine gate_callee (f := 33) rfl ?_); refine goesL_ (some 14) rfl rfl Tryd.func33 (by kernel_rfl) rfl #[.slice A1 l1.length c1] rfl (by (try simp only [List.map_toArray, List.map_cons, List.map_nil]); first | done | rfl | (simp only [List.length_drop, List.length_take]; rfl) | (simp only [Int.toNat_natCast, ByteArray.extract_zero_size]; rfl)) ?_; (with_reducible refine (laws_zzFits3.calls k _ _ l1 false _ ?side1 ?side2 A6.out).mono ?_); (case side1 => repeat (first | exact (Kd.C_below HR1.out HB.out) | (with_reducible refine Kd.C_alloc ?_ _) | (with_reducible refine Kd.C_drewN ?_ _) | (with_reducible refine Kd.C_drew ?_))); (case side2 => exact HC1.out); rintro e w9 ⟨rfl, hb⟩; refine ⟨_, rfl, ?_⟩; have n0_ := Aside0.mk (below_step (by repeat (first | (with_reducible first | exact HB.out | apply below_alloc | apply pw_below_drewN | apply below_drew1) | exact HB.out)) hb); clear HB; have HB := n0_; clear n0_; (try clear hb); (try clear hb2); (try clear hk); (try clear hi)))
      go_meet
      case rel => exact ⟨_, (true), (by first | rfl | (simp; done) | (simp [*]; done)), H', ⟨by first | omega | exact Nat.le_refl _⟩, ⟨by repeat (first | (with_reducible first | exact HB.out | apply below_alloc | apply pw_below_drewN | apply below_drew1) | exact HB.out)⟩⟩
  case rest =>
    clear HC5
    try clear c1
    try clear p2
    try clear c3
    try clear c7
    obtain ⟨kq, x20_4, rfl, HA, HJ4, HB⟩ := hcut
    cases kq with
    | zero => exact absurd HA.out (by simp [laws_FnFiltered.j0])
    | succ kj4 =>
      have H := HA.out
      clear HA
      simp only [laws_FnFiltered.j0] at H
      by_cases c10 : x20_4 = true
      · subst c10
        have H1 : (some true) = some r := by rw [if_pos rfl] at H; exact H
        clear H
        have H := H1
        clear H1
        obtain rfl := Option.some.inj H
        go_wp2
        go_ret
        exact ⟨by first | rfl | (simp [errW_none, errW_some] <;> rfl) | (simp [*, errW_none, errW_some] <;> rfl), by repeat (first | (with_reducible first | exact HB.out | apply below_alloc | apply pw_below_drewN | apply below_drew1) | exact HB.out)⟩
      · replace c10 := Bool.eq_false_iff.mpr c10
        subst c10
        have H1 : ((laws_picks7.f kj4 l1 a2).bind fun t137 => (if t137 = true then (laws_FnFiltered.l0 kj4 l1 a2 a3 (wrap64 (1 + (wrap64 (Int.tmod a0 4)))) ([] : List (S55)) 0) else (some true))) = some r := by rw [if_neg (show ¬ (false = true) by decide)] at H; exact H
        clear H
        have H := H1
        clear H1
        replace H := Option.bind_eq_some_iff.mp H
        obtain ⟨t137, A110, H⟩ := H
        replace H : (if t137 = true then (laws_FnFiltered.l0 kj4 l1 a2 a3 (wrap64 (1 + (wrap64 (Int.tmod a0 4)))) ([] : List (S55)) 0) else (some true)) = some r := H
        have A11 := Aside0.mk A110
        clear A110
        by_cases c12 : t137 = true
        · subst c12
          have H1 : (laws_FnFiltered.l0 kj4 l1 a2 a3 (wrap64 (1 + (wrap64 (Int.tmod a0 4)))) ([] : List (S55)) 0) = some r := by rw [if_pos rfl] at H; exact H
          clear H
          have H := H1
          clear H1
          have H' := Aside0.mk H
          clear H
          go_wp2_with (first | ((with_reducible refine gate_callee (f := 34) rfl ?_); refine goesL_ (some 23) rfl rfl Tryd.func34 (by kernel_rfl) rfl #[.slice A1 l1.length c1, .string a2] rfl (by (try simp only [List.map_toArray, List.map_cons, List.map_nil]); first | done | rfl | (simp only [List.length_drop, List.length_take]; rfl) | (simp only [Int.toNat_natCast, ByteArray.extract_zero_size]; rfl)) ?_; (with_reducible refine (laws_picks7.calls kj4 _ _ l1 a2 true _ ?side1 ?side2 A11.out).mono ?_); (case side1 => repeat (first | exact (Kd.C_below HR1.out HB.out) | (with_reducible refine Kd.C_alloc ?_ _) | (with_reducible refine Kd.C_drewN ?_ _) | (with_reducible refine Kd.C_drew ?_))); (case side2 => exact HC1.out); rintro e w' ⟨rfl, ⟨nd, rfl⟩⟩; refine ⟨_, rfl, ?_⟩))
          go_loopg [10, 11] kj4 (fun kq v10 v11 w' => ∃ (x10_2 : List (S55)) (x11_2 : Int), v11 = .int .i64 x11_2 ∧ Aside0 (laws_FnFiltered.l0 kq l1 a2 a3 (wrap64 (1 + (wrap64 (Int.tmod a0 4)))) x10_2 x11_2 = some r) ∧ Aside0 (kq ≤ kj4) ∧ Aside0 (Kd.R k55 55 w' w.heap.size (fun _ => True) v10 x10_2) ∧ Aside0 (Below w.heap.size w w'))
          case atStart => exact ⟨(([] : List (S55))), (0), (by first | rfl | (simp; done) | (simp [*]; done)), H', ⟨Nat.le_refl _⟩, ⟨by first | exact Kd.R_nil _ _ _ _ _ | exact Kd.N_nil _ _ _ _ _ | exact Kd.V_nil _ _ _ _ _ | exact Kd.Q_nil _ _ _ _ _ | exact Kd.S_nil _ _ _ _ _⟩, ⟨by repeat (first | (with_reducible first | exact HB.out | apply below_alloc | apply pw_below_drewN | apply below_drew1) | exact HB.out)⟩⟩
          case round =>
            clear H'
            try clear c1
            try clear p2
            try clear c3
            try clear p6
            try clear c7
            try clear c10
            try clear c12
            try clear p2
            obtain ⟨x10_2, x11_2, rfl, HA, HK2, HO_10, HB⟩ := hrel
            cases gk with
            | zero => exact absurd HA.out (by simp [laws_FnFiltered.l0])
            | succ k2 =>
              have H := HA.out
              clear HA
              simp only [laws_FnFiltered.l0] at H
              by_cases c13 : x11_2 < (l1.length : Int)
              · rw [if_pos c13] at H
                have c13b0 : decide (x11_2 < (l1.length : Int)) = true := decide_eq_true c13
                clear c13
                by_cases c14 : 0 ≤ x11_2
                · rw [if_pos c14] at H
                  have c14b0 : decide (0 ≤ x11_2) = true := decide_eq_true c14
                  clear c14
                  replace H := Option.bind_eq_some_iff.mp H
                  obtain ⟨t139, A150, H⟩ := H
                  replace H : (if t139 = true then (if x10_2.length < 4398046511104 then (laws_FnFiltered.l0 k2 l1 a2 a3 (wrap64 (1 + (wrap64 (Int.tmod a0 4)))) (x10_2 ++ [(⟨(rd_T55 l1 x11_2).f0, (rd_T55 l1 x11_2).f1⟩ : S55)]) (wrap64 (x11_2 + 1))) else (none)) else (laws_FnFiltered.l0 k2 l1 a2 a3 (wrap64 (1 + (wrap64 (Int.tmod a0 4)))) x10_2 (wrap64 (x11_2 + 1)))) = some r := H
                  have A15 := Aside0.mk A150
                  clear A150
                  by_cases c16 : t139 = true
                  · subst c16
                    have H1 : (if x10_2.length < 4398046511104 then (laws_FnFiltered.l0 k2 l1 a2 a3 (wrap64 (1 + (wrap64 (Int.tmod a0 4)))) (x10_2 ++ [(⟨(rd_T55 l1 x11_2).f0, (rd_T55 l1 x11_2).f1⟩ : S55)]) (wrap64 (x11_2 + 1))) else (none)) = some r := by rw [if_pos rfl] at H; exact H
                    clear H
                    have H := H1
                    clear H1
                    by_cases c17 : x10_2.length < 4398046511104
                    · rw [if_pos c17] at H
                      have LMc17 := Aside0.mk c17
                      clear c17
                      obtain ⟨y141, hy141⟩ : ∃ y_ : List (S55), y_ = (x10_2 ++ [(⟨(rd_T55 l1 x11_2).f0, (rd_T55 l1 x11_2).f1⟩ : S55)]) := ⟨_, rfl⟩
                      replace H : (laws_FnFiltered.l0 k2 l1 a2 a3 (wrap64 (1 + (wrap64 (Int.tmod a0 4)))) y141 (wrap64 (x11_2 + 1))) = some r := by first | (rw [hy141]; with_reducible exact H) | (have H2_ := (Option.bind_some _ _).symm.trans H; rw [hy141]; with_reducible exact H2_) | (have H2_ := (Option.bind_some _ _).symm.trans H; with_reducible exact H2_) | with_reducible exact H | (rw [hy141]; exact H) | exact H
                      have Ny141 := Aside0.mk hy141
                      clear hy141
                      have H' := Aside0.mk H
                      clear H
                      have p138 : 0 ≤ (x11_2 : Int) := of_decide_eq_true (by first | (with_reducible assumption) | assumption)
                      have q138 : x11_2 < (l1.length : Int) := of_decide_eq_true (by first | (with_reducible assumption) | assumption)
                      obtain ⟨ad138, e138, hx138_0, hx138_1⟩ := at_T55 HR1.out x11_2 p138 q138
                      cases e138
                      replace hx138_0 := (HB.out.cell (World.block_lt_of_cell? w _ hx138_0)).trans hx138_0
                      replace hx138_1 := (HB.out.cell (World.block_lt_of_cell? w _ hx138_1)).trans hx138_1
                      replace p138 := eq_true p138
                      replace q138 := eq_true q138
                      go_wp2_with (first | ((with_reducible refine gate_callee (f := 35) rfl ?_); refine goesL_ (some 43) rfl rfl Tryd.func35 (by kernel_rfl) rfl #[.int .i64 (wrap64 (1 + (wrap64 (Int.tmod a0 4)))), .string ((rd_T55 l1 x11_2).f0), .string a2, .bool a3] rfl (by (try simp only [List.map_toArray, List.map_cons, List.map_nil]); first | done | rfl | (simp only [List.length_drop, List.length_take]; rfl) | (simp only [Int.toNat_natCast, ByteArray.extract_zero_size]; rfl)) ?_; (with_reducible refine (spec_Passes.calls k2 (wrap64 (1 + (wrap64 (Int.tmod a0 4)))) ((rd_T55 l1 x11_2).f0) a2 a3 true _ A15.out).mono ?_); rintro e w18 ⟨rfl, hb⟩; refine ⟨_, rfl, ?_⟩; have n0_ := Aside0.mk (Kd.R_below (by (with_reducible repeat (first | apply Kd.R_alloc | apply Kd.R_drewN | apply Kd.R_drew)); exact HO_10.out) hb); have n1_ := Aside0.mk (below_step (by repeat (first | (with_reducible first | exact HB.out | apply below_alloc | apply pw_below_drewN | apply below_drew1) | exact HB.out)) hb); clear HO_10; clear HB; have HO_10 := n0_; have HB := n1_; clear n0_ n1_; (try clear hb); (try clear hb2); (try clear hk); (try clear hi); have p140 : 0 ≤ (x11_2 : Int) := of_decide_eq_true (by first | (with_reducible assumption) | assumption); have q140 : x11_2 < (l1.length : Int) := of_decide_eq_true (by first | (with_reducible assumption) | assumption); obtain ⟨ad140, e140, hx140_0, hx140_1⟩ := at_T55 HR1.out x11_2 p140 q140; obtain rfl : ad138 = ad140 := (by injection e140); replace hx140_0 := (HB.out.cell (World.block_lt_of_cell? w _ hx140_0)).trans hx140_0; replace hx140_1 := (HB.out.cell (World.block_lt_of_cell? w _ hx140_1)).trans hx140_1; replace p140 := eq_true p140; replace q140 := eq_true q140) | ((with_reducible refine gate_builtin (b := .append) (xs := #[.tmp 44, .tmp 49]) rfl ?_); (try (refine gate_guard (by rfl) ?_; dsimp only)); at_builtin; refine Kd.R_append k55 (w0 := w) w.heap.size rfl (.tmp 44) (.tmp 49) 50 55 (.agg #[(.string ⟨#[]⟩), (.string ⟨#[]⟩)]) 32 rfl Tryd.underlying50 info55 rfl (by decide) (by omega) u10 x10_2 (⟨(rd_T55 l1 x11_2).f0, (rd_T55 l1 x11_2).f1⟩ : S55) [.string ((rd_T55 l1 x11_2).f0), .string ((rd_T55 l1 x11_2).f1)] (fun _ => True) (fun _ => False) rfl rfl ?aP (fun _ hk => hk.elim) ?aF ?aO ?aB ?aS ?aL ?_; (case aP => exact k55_mkM _ _ _ (⟨(rd_T55 l1 x11_2).f0, (rd_T55 l1 x11_2).f1⟩ : S55)); (case aB => exact (by repeat (first | (with_reducible first | exact HB.out | apply below_alloc | apply pw_below_drewN | apply below_drew1) | exact HB.out))); (case aF => exact (fun _ _ => trivial)); (case aO => exact (by (with_reducible repeat (first | apply Kd.R_alloc | apply Kd.R_drewN | apply Kd.R_drew)); exact HO_10.out)); (case aS => exact (below_size (by repeat (first | (with_reducible first | exact HB.out | apply below_alloc | apply pw_below_drewN | apply below_drew1) | exact HB.out)))); (case aL => have := LMc17.out; omega); intro v142 w19 ho hb hg hat; rw [← Ny141.out] at ho; have n0_ := Aside0.mk (hb); have n1_ := Aside0.mk (ho); clear HB; clear HO_10; have HB := n0_; have HO143 := n1_; clear n0_ n1_; clear ho hb hg hat))
                      go_roundg k2
                      case measure => have := HJ4.out; have := HK2.out; omega
                      case rel => exact ⟨(y141), (wrap64 (x11_2 + 1)), (by first | rfl | (simp; done) | (simp [*]; done)), H', ⟨by have := HJ4.out; have := HK2.out; omega⟩, ⟨by (with_reducible repeat (first | apply Kd.R_alloc | apply Kd.R_drewN | apply Kd.R_drew)); exact HO143.out⟩, ⟨by repeat (first | (with_reducible first | exact HB.out | apply below_alloc | apply pw_below_drewN | apply below_drew1) | exact HB.out)⟩⟩
                    · rw [if_neg c17] at H
                      exact absurd H (by simp)
                  · replace c16 := Bool.eq_false_iff.mpr c16
                    subst c16
                    have H1 : (laws_FnFiltered.l0 k2 l1 a2 a3 (wrap64 (1 + (wrap64 (Int.tmod a0 4)))) x10_2 (wrap64 (x11_2 + 1))) = some r := by rw [if_neg (show ¬ (false = true) by decide)] at H; exact H
                    clear H
                    have H := H1
                    clear H1
                    have H' := Aside0.mk H
                    clear H
                    have p138 : 0 ≤ (x11_2 : Int) := of_decide_eq_true (by first | (with_reducible assumption) | assumption)
                    have q138 : x11_2 < (l1.length : Int) := of_decide_eq_true (by first | (with_reducible assumption) | assumption)
                    obtain ⟨ad138, e138, hx138_0, hx138_1⟩ := at_T55 HR1.out x11_2 p138 q138
                    cases e138
                    replace hx138_0 := (HB.out.cell (World.block_lt_of_cell? w _ hx138_0)).trans hx138_0
                    replace hx138_1 := (HB.out.cell (World.block_lt_of_cell? w _ hx138_1)).trans hx138_1
                    replace p138 := eq_true p138
                    replace q138 := eq_true q138
                    go_wp2_with (first | ((with_reducible refine gate_callee (f := 35) rfl ?_); refine goesL_ (some 43) rfl rfl Tryd.func35 (by kernel_rfl) rfl #[.int .i64 (wrap64 (1 + (wrap64 (Int.tmod a0 4)))), .string ((rd_T55 l1 x11_2).f0), .string a2, .bool a3] rfl (by (try simp only [List.map_toArray, List.map_cons, List.map_nil]); first | done | rfl | (simp only [List.length_drop, List.length_take]; rfl) | (simp only [Int.toNat_natCast, ByteArray.extract_zero_size]; rfl)) ?_; (with_reducible refine (spec_Passes.calls k2 (wrap64 (1 + (wrap64 (Int.tmod a0 4)))) ((rd_T55 l1 x11_2).f0) a2 a3 false _ A15.out).mono ?_); rintro e w20 ⟨rfl, hb⟩; refine ⟨_, rfl, ?_⟩; have n0_ := Aside0.mk (Kd.R_below (by (with_reducible repeat (first | apply Kd.R_alloc | apply Kd.R_drewN | apply Kd.R_drew)); exact HO_10.out) hb); have n1_ := Aside0.mk (below_step (by repeat (first | (with_reducible first | exact HB.out | apply below_alloc | apply pw_below_drewN | apply below_drew1) | exact HB.out)) hb); clear HO_10; clear HB; have HO_10 := n0_; have HB := n1_; clear n0_ n1_; (try clear hb); (try clear hb2); (try clear hk); (try clear hi)))
                    go_roundg k2
                    case measure => have := HJ4.out; have := HK2.out; omega
                    case rel => exact ⟨(x10_2), (wrap64 (x11_2 + 1)), (by first | rfl | (simp; done) | (simp [*]; done)), H', ⟨by have := HJ4.out; have := HK2.out; omega⟩, ⟨by (with_reducible repeat (first | apply Kd.R_alloc | apply Kd.R_drewN | apply Kd.R_drew)); exact HO_10.out⟩, ⟨by repeat (first | (with_reducible first | exact HB.out | apply below_alloc | apply pw_below_drewN | apply below_drew1) | exact HB.out)⟩⟩
                · rw [if_neg c14] at H
                  exact absurd H (by simp)
              · rw [if_neg c13] at H
                have c13b0 : decide (x11_2 < (l1.length : Int)) = false := decide_eq_false c13
                clear c13
                replace H := Option.bind_eq_some_iff.mp H
                obtain ⟨t144, A210, H⟩ := H
                replace H : ((laws_samePicks7.f k2 t144 x10_2).bind fun t147 => (if t147 = true then ((impl_Filtered.f k2 (wrap64 (1 + (wrap64 (Int.tmod a0 4)))) (([(⟨(⟨#[97]⟩ : ByteArray), (⟨#[]⟩ : ByteArray)⟩ : S55)] : List (S55))) (⟨#[97]⟩ : ByteArray) false).bind fun t151 => (some ((t151.length : Int) == 1))) else (some false))) = some r := H
                have A21 := Aside0.mk A210
                clear A210
                replace H := Option.bind_eq_some_iff.mp H
                obtain ⟨t147, A220, H⟩ := H
                replace H : (if t147 = true then ((impl_Filtered.f k2 (wrap64 (1 + (wrap64 (Int.tmod a0 4)))) (([(⟨(⟨#[97]⟩ : ByteArray), (⟨#[]⟩ : ByteArray)⟩ : S55)] : List (S55))) (⟨#[97]⟩ : ByteArray) false).bind fun t151 => (some ((t151.length : Int) == 1))) else (some false)) = some r := H
                have A22 := Aside0.mk A220
                clear A220
                by_cases c23 : t147 = true
                · subst c23
                  have H1 : ((impl_Filtered.f k2 (wrap64 (1 + (wrap64 (Int.tmod a0 4)))) (([(⟨(⟨#[97]⟩ : ByteArray), (⟨#[]⟩ : ByteArray)⟩ : S55)] : List (S55))) (⟨#[97]⟩ : ByteArray) false).bind fun t151 => (some ((t151.length : Int) == 1))) = some r := by rw [if_pos rfl] at H; exact H
                  clear H
                  have H := H1
                  clear H1
                  obtain ⟨y148, hy148⟩ : ∃ y_ : List (S55), y_ = (([(⟨(⟨#[97]⟩ : ByteArray), (⟨#[]⟩ : ByteArray)⟩ : S55)] : List (S55))) := ⟨_, rfl⟩
                  replace H : ((impl_Filtered.f k2 (wrap64 (1 + (wrap64 (Int.tmod a0 4)))) y148 (⟨#[97]⟩ : ByteArray) false).bind fun t151 => (some ((t151.length : Int) == 1))) = some r := by first | (rw [hy148]; with_reducible exact H) | (have H2_ := (Option.bind_some _ _).symm.trans H; rw [hy148]; with_reducible exact H2_) | (have H2_ := (Option.bind_some _ _).symm.trans H; with_reducible exact H2_) | with_reducible exact H | (rw [hy148]; exact H) | exact H
                  have Ny148 := Aside0.mk hy148
                  clear hy148
                  replace H := Option.bind_eq_some_iff.mp H
                  obtain ⟨t151, A240, H⟩ := H
                  replace H : (some ((t151.length : Int) == 1)) = some r := H
                  have A24 := Aside0.mk A240
                  clear A240
                  obtain rfl := Option.some.inj H
                  go_wp2_with (first | ((with_reducible refine gate_callee (f := 36) rfl ?_); refine goesL_ (some 55) rfl rfl Tryd.func36 (by kernel_rfl) rfl #[.int .i64 (wrap64 (1 + (wrap64 (Int.tmod a0 4)))), .slice A1 l1.length c1, .string a2, .bool a3] rfl (by (try simp only [List.map_toArray, List.map_cons, List.map_nil]); first | done | rfl | (simp only [List.length_drop, List.length_take]; rfl) | (simp only [Int.toNat_natCast, ByteArray.extract_zero_size]; rfl)) ?_; (with_reducible refine (impl_Filtered.calls k2 (wrap64 (1 + (wrap64 (Int.tmod a0 4)))) _ _ l1 a2 a3 t144 _ ?side1 ?side2 A21.out).mono ?_); (case side1 => repeat (first | exact (Kd.C_below HR1.out HB.out) | (with_reducible refine Kd.C_alloc ?_ _) | (with_reducible refine Kd.C_drewN ?_ _) | (with_reducible refine Kd.C_drew ?_))); (case side2 => exact HC1.out); rintro e w25 ⟨v145, rfl, ho0, hb⟩; refine ⟨_, rfl, ?_⟩; have n0_ := Aside0.mk (Kd.R_elder' (by (with_reducible repeat (first | apply Kd.R_alloc | apply Kd.R_drewN | apply Kd.R_drew)); exact HO_10.out) (Kd.R_base ho0) hb); have n1_ := Aside0.mk (Kd.R_lower (Kd.R_new' ho0 (Kd.R_lt (by (with_reducible repeat (first | apply Kd.R_alloc | apply Kd.R_drewN | apply Kd.R_drew)); exact HO_10.out))) (below_size (by repeat (first | (with_reducible first | exact HB.out | apply below_alloc | apply pw_below_drewN | apply below_drew1) | exact HB.out)))); have n2_ := Aside0.mk (below_step (by repeat (first | (with_reducible first | exact HB.out | apply below_alloc | apply pw_below_drewN | apply below_drew1) | exact HB.out)) hb); clear HO_10; clear HB; have HO_10 := n0_; have HO146 := n1_; have HB := n2_; clear n0_ n1_ n2_; (try clear hb); (try clear hb2); (try clear hk); (try clear hi); (try clear ho0); obtain ⟨Ao26, co26, eo26⟩ := Kd.R_slice HO146.out; subst eo26; obtain ⟨Ao27, co27, eo27⟩ := Kd.R_slice HO_10.out; subst eo27) | ((with_reducible refine gate_callee (f := 37) rfl ?_); refine goesL_ (some 58) rfl rfl Tryd.func37 (by kernel_rfl) rfl #[.slice Ao26 t144.length co26, .slice Ao27 x10_2.length co27] rfl (by (try simp only [List.map_toArray, List.map_cons, List.map_nil]); first | done | rfl | (simp only [List.length_drop, List.length_take]; rfl) | (simp only [Int.toNat_natCast, ByteArray.extract_zero_size]; rfl)) ?_; (with_reducible refine (laws_samePicks7.calls k2 _ _ t144 _ _ x10_2 true _ ?side1 ?side2 ?side3 ?side4 A22.out).mono ?_); (case side1 => repeat (first | exact (Kd.R_reads' HO146.out).2.2 | (with_reducible refine Kd.C_alloc ?_ _) | (with_reducible refine Kd.C_drewN ?_ _) | (with_reducible refine Kd.C_drew ?_))); (case side2 => exact (Kd.R_reads' HO146.out).2.1); (case side3 => repeat (first | exact (Kd.R_reads' HO_10.out).2.2 | (with_reducible refine Kd.C_alloc ?_ _) | (with_reducible refine Kd.C_drewN ?_ _) | (with_reducible refine Kd.C_drew ?_))); (case side4 => exact (Kd.R_reads' HO_10.out).2.1); rintro e w' ⟨rfl, ⟨nd, rfl⟩⟩; refine ⟨_, rfl, ?_⟩) | ((with_reducible refine gate_dst (N := 62) rfl ?_); (try (refine gate_guard (by rfl) ?_; dsimp only)); refine Kd.R_lit k55 _ 55 ?hg (N := 62) ?hd (xs := ([(⟨(⟨#[97]⟩ : ByteArray), (⟨#[]⟩ : ByteArray)⟩ : S55)] : List (S55))) (inner := [.string (⟨#[97]⟩ : ByteArray), .string (⟨#[]⟩ : ByteArray)]) (ok := fun _ => True) (okp := fun _ => True) ?hr ?hp (fun _ hk => hk) trivial (Below.refl _ _) (Nat.le_refl _) (by simp) ?_; (case hd => rfl); (case hg => rfl); (case hr => first | (go_simp; done) | (go_simp; rfl)); (case hp => exact (Reps.c2 (show Kd.M k55 _ _ _ (⟨(⟨#[97]⟩ : ByteArray), (⟨#[]⟩ : ByteArray)⟩ : S55) [.string (⟨#[97]⟩ : ByteArray), .string (⟨#[]⟩ : ByteArray)] from (k55_mkM _ _ _ (⟨(⟨#[97]⟩ : ByteArray), (⟨#[]⟩ : ByteArray)⟩ : S55) )) (Reps.none _ _))); intro v149 w28 ho29 hb hg_ hnew_; clear hg_ hnew_; (first | rw [← Ny148.out] at ho29 | (simp only [Int.reduceToNat] at ho29; rw [← Ny148.out] at ho29)); have n0_ := Aside0.mk (Kd.R_elder' (by (with_reducible repeat (first | apply Kd.R_alloc | apply Kd.R_drewN | apply Kd.R_drew)); exact HO_10.out) (Kd.R_base ho29) hb); have n1_ := Aside0.mk (Kd.R_elder' (by (with_reducible repeat (first | apply Kd.R_alloc | apply Kd.R_drewN | apply Kd.R_drew)); exact HO146.out) (Kd.R_base ho29) hb); have n2_ := Aside0.mk (Kd.R_lower (Kd.R_new' (Kd.R_new' ho29 (Kd.R_lt (by (with_reducible repeat (first | apply Kd.R_alloc | apply Kd.R_drewN | apply Kd.R_drew)); exact HO_10.out))) (Kd.R_lt (by (with_reducible repeat (first | apply Kd.R_alloc | apply Kd.R_drewN | apply Kd.R_drew)); exact HO146.out))) (below_size (by repeat (first | (with_reducible first | exact HB.out | apply below_alloc | apply pw_below_drewN | apply below_drew1) | exact HB.out)))); have n3_ := Aside0.mk (below_step (by repeat (first | (with_reducible first | exact HB.out | apply below_alloc | apply pw_below_drewN | apply below_drew1) | exact HB.out)) hb); clear HO_10; clear HO146; clear HB; have HO_10 := n0_; have HO146 := n1_; have HO150 := n2_; have HB := n3_; clear n0_ n1_ n2_ n3_; clear hb ho29; obtain ⟨Ao30, co30, eo30⟩ := Kd.R_slice HO150.out; subst eo30) | (go_at_call 36; (with_reducible refine (impl_Filtered.calls k2 (wrap64 (1 + (wrap64 (Int.tmod a0 4)))) _ _ y148 (⟨#[97]⟩ : ByteArray) false t151 _ ?side1 ?side2 A24.out).mono ?_); (case side1 => repeat (first | exact (Kd.R_reads' HO150.out).2.2 | (with_reducible refine Kd.C_alloc ?_ _) | (with_reducible refine Kd.C_drewN ?_ _) | (with_reducible refine Kd.C_drew ?_))); (case side2 => exact (Kd.R_reads' HO150.out).2.1); rintro e w31 ⟨v152, rfl, ho0, hb⟩; have n0_ := Aside0.mk (Kd.R_elder' (by (with_reducible repeat (first | apply Kd.R_alloc | apply Kd.R_drewN | apply Kd.R_drew)); exact HO_10.out) (Kd.R_base ho0) hb); have n1_ := Aside0.mk (Kd.R_elder' (by (with_reducible repeat (first | apply Kd.R_alloc | apply Kd.R_drewN | apply Kd.R_drew)); exact HO146.out) (Kd.R_base ho0) hb); have n2_ := Aside0.mk (Kd.R_elder' (by (with_reducible repeat (first | apply Kd.R_alloc | apply Kd.R_drewN | apply Kd.R_drew)); exact HO150.out) (Kd.R_base ho0) hb); have n3_ := Aside0.mk (Kd.R_lower (Kd.R_new' (Kd.R_new' (Kd.R_new' ho0 (Kd.R_lt (by (with_reducible repeat (first | apply Kd.R_alloc | apply Kd.R_drewN | apply Kd.R_drew)); exact HO_10.out))) (Kd.R_lt (by (with_reducible repeat (first | apply Kd.R_alloc | apply Kd.R_drewN | apply Kd.R_drew)); exact HO146.out))) (Kd.R_lt (by (with_reducible repeat (first | apply Kd.R_alloc | apply Kd.R_drewN | apply Kd.R_drew)); exact HO150.out))) (below_size (by repeat (first | (with_reducible first | exact HB.out | apply below_alloc | apply pw_below_drewN | apply below_drew1) | exact HB.out)))); have n4_ := Aside0.mk (below_step (by repeat (first | (with_reducible first | exact HB.out | apply below_alloc | apply pw_below_drewN | apply below_drew1) | exact HB.out)) hb); clear HO_10; clear HO146; clear HO150; clear HB; have HO_10 := n0_; have HO146 := n1_; have HO150 := n2_; have HO153 := n3_; have HB := n4_; clear n0_ n1_ n2_ n3_ n4_; (try clear hb); (try clear hb2); (try clear hk); (try clear hi); (try clear ho0); obtain ⟨Ao32, co32, eo32⟩ := Kd.R_slice HO153.out; subst eo32))
                  go_ret
                  exact ⟨by first | rfl | (simp [errW_none, errW_some] <;> rfl) | (simp [*, errW_none, errW_some] <;> rfl), by repeat (first | (with_reducible first | exact HB.out | apply below_alloc | apply pw_below_drewN | apply below_drew1) | exact HB.out)⟩
                · replace c23 := Bool.eq_false_iff.mpr c23
                  subst c23
                  have H1 : (some false) = some r := by rw [if_neg (show ¬ (false = true) by decide)] at H; exact H
                  clear H
                  have H := H1
                  clear H1
                  obtain rfl := Option.some.inj H
                  go_wp2_with (first | ((with_reducible refine gate_callee (f := 36) rfl ?_); refine goesL_ (some 55) rfl rfl Tryd.func36 (by kernel_rfl) rfl #[.int .i64 (wrap64 (1 + (wrap64 (Int.tmod a0 4)))), .slice A1 l1.length c1, .string a2, .bool a3] rfl (by (try simp only [List.map_toArray, List.map_cons, List.map_nil]); first | done | rfl | (simp only [List.length_drop, List.length_take]; rfl) | (simp only [Int.toNat_natCast, ByteArray.extract_zero_size]; rfl)) ?_; (with_reducible refine (impl_Filtered.calls k2 (wrap64 (1 + (wrap64 (Int.tmod a0 4)))) _ _ l1 a2 a3 t144 _ ?side1 ?side2 A21.out).mono ?_); (case side1 => repeat (first | exact (Kd.C_below HR1.out HB.out) | (with_reducible refine Kd.C_alloc ?_ _) | (with_reducible refine Kd.C_drewN ?_ _) | (with_reducible refine Kd.C_drew ?_))); (case side2 => exact HC1.out); rintro e w33 ⟨v145, rfl, ho0, hb⟩; refine ⟨_, rfl, ?_⟩; have n0_ := Aside0.mk (Kd.R_elder' (by (with_reducible repeat (first | apply Kd.R_alloc | apply Kd.R_drewN | apply Kd.R_drew)); exact HO_10.out) (Kd.R_base ho0) hb); have n1_ := Aside0.mk (Kd.R_lower (Kd.R_new' ho0 (Kd.R_lt (by (with_reducible repeat (first | apply Kd.R_alloc | apply Kd.R_drewN | apply Kd.R_drew)); exact HO_10.out))) (below_size (by repeat (first | (with_reducible first | exact HB.out | apply below_alloc | apply pw_below_drewN | apply below_drew1) | exact HB.out)))); have n2_ := Aside0.mk (below_step (by repeat (first | (with_reducible first | exact HB.out | apply below_alloc | apply pw_below_drewN | apply below_drew1) | exact HB.out)) hb); clear HO_10; clear HB; have HO_10 := n0_; have HO146 := n1_; have HB := n2_; clear n0_ n1_ n2_; (try clear hb); (try clear hb2); (try clear hk); (try clear hi); (try clear ho0); obtain ⟨Ao34, co34, eo34⟩ := Kd.R_slice HO146.out; subst eo34; obtain ⟨Ao35, co35, eo35⟩ := Kd.R_slice HO_10.out; subst eo35) | ((with_reducible refine gate_callee (f := 37) rfl ?_); refine goesL_ (some 58) rfl rfl Tryd.func37 (by kernel_rfl) rfl #[.slice Ao34 t144.length co34, .slice Ao35 x10_2.length co35] rfl (by (try simp only [List.map_toArray, List.map_cons, List.map_nil]); first | done | rfl | (simp only [List.length_drop, List.length_take]; rfl) | (simp only [Int.toNat_natCast, ByteArray.extract_zero_size]; rfl)) ?_; (with_reducible refine (laws_samePicks7.calls k2 _ _ t144 _ _ x10_2 false _ ?side1 ?side2 ?side3 ?side4 A22.out).mono ?_); (case side1 => repeat (first | exact (Kd.R_reads' HO146.out).2.2 | (with_reducible refine Kd.C_alloc ?_ _) | (with_reducible refine Kd.C_drewN ?_ _) | (with_reducible refine Kd.C_drew ?_))); (case side2 => exact (Kd.R_reads' HO146.out).2.1); (case side3 => repeat (first | exact (Kd.R_reads' HO_10.out).2.2 | (with_reducible refine Kd.C_alloc ?_ _) | (with_reducible refine Kd.C_drewN ?_ _) | (with_reducible refine Kd.C_drew ?_))); (case side4 => exact (Kd.R_reads' HO_10.out).2.1); rintro e w' ⟨rfl, ⟨nd, rfl⟩⟩; refine ⟨_, rfl, ?_⟩))
                  go_ret
                  exact ⟨by first | rfl | (simp [errW_none, errW_some] <;> rfl) | (simp [*, errW_none, errW_some] <;> rfl), by repeat (first | (with_reducible first | exact HB.out | apply below_alloc | apply pw_below_drewN | apply below_drew1) | exact HB.out)⟩
        · replace c12 := Bool.eq_false_iff.mpr c12
          subst c12
          have H1 : (some true) = some r := by rw [if_neg (show ¬ (false = true) by decide)] at H; exact H
          clear H
          have H := H1
          clear H1
          obtain rfl := Option.some.inj H
          go_wp2_with (first | ((with_reducible refine gate_callee (f := 34) rfl ?_); refine goesL_ (some 23) rfl rfl Tryd.func34 (by kernel_rfl) rfl #[.slice A1 l1.length c1, .string a2] rfl (by (try simp only [List.map_toArray, List.map_cons, List.map_nil]); first | done | rfl | (simp only [List.length_drop, List.length_take]; rfl) | (simp only [Int.toNat_natCast, ByteArray.extract_zero_size]; rfl)) ?_; (with_reducible refine (laws_picks7.calls kj4 _ _ l1 a2 false _ ?side1 ?side2 A11.out).mono ?_); (case side1 => repeat (first | exact (Kd.C_below HR1.out HB.out) | (with_reducible refine Kd.C_alloc ?_ _) | (with_reducible refine Kd.C_drewN ?_ _) | (with_reducible refine Kd.C_drew ?_))); (case side2 => exact HC1.out); rintro e w' ⟨rfl, ⟨nd, rfl⟩⟩; refine ⟨_, rfl, ?_⟩))
          go_ret
          exact ⟨by first | rfl | (simp [errW_none, errW_some] <;> rfl) | (simp [*, errW_none, errW_some] <;> rfl), by repeat (first | (with_reducible first | exact HB.out | apply below_alloc | apply pw_below_drewN | apply below_drew1) | exact HB.out)⟩
/-- THE ONE PURE STATEMENT of laws_FnFiltered: yours. -/
def laws_FnFiltered.Pure : Prop := ∀ (a0 : Int) (l1 : List (S55)) (a2 : ByteArray) (a3 : Bool), (Lit.int .u8 a0).wf = true → l1.length ≤ maxLen → (∀ x ∈ l1, x.f0.size ≤ maxLen ∧ x.f1.size ≤ maxLen) → a2.size ≤ maxLen → ∃ k, laws_FnFiltered.f k a0 l1 a2 a3 = some true
theorem laws_FnFiltered.walk (P : laws_FnFiltered.Pure) (a0 : Int) (A1 : Option Addr) (c1 : Nat) (l1 : List (S55)) (a2 : ByteArray) (a3 : Bool) (w : World) (hg0 : (Lit.int .u8 a0).wf = true) (hr1 : Kd.C k55 w A1 l1.length l1) (hc1 : l1.length ≤ c1) (hm1 : l1.length ≤ maxLen) (hg1 : ∀ x ∈ l1, x.f0.size ≤ maxLen ∧ x.f1.size ≤ maxLen) (hg2 : a2.size ≤ maxLen) :
    Calls Tryd.prog 10 #[.int .u8 a0, .slice A1 l1.length c1, .string a2, .bool a3] w fun e w' => e = .returned (.bool true) ∧ Below w.heap.size w w' := by
  obtain ⟨k, h⟩ := P a0 l1 a2 a3 hg0 hm1 hg1 hg2
  refine (laws_FnFiltered.calls k a0 A1 c1 l1 a2 a3 true w hr1 hc1 h).mono ?_
  rintro e w' ⟨rfl, hd⟩
  exact ⟨rfl, hd⟩
end Go.Proofs.YthbdaoapjnofkaaDoor.PFnFiltered
