/- Printed by a program of this seat (xprint) out of the translation: Go functions as plain functions, and the walks that show them; no condition. -/
import Derived.Test.YthbdaoapjnofkaaDoorPFnDedentedx0
import Derived.Test.YthbdaoapjnofkaaDoorHDedent
import Derived.Test.YthbdaoapjnofkaaDoorPFnDedentedx1
namespace Go.Proofs.YthbdaoapjnofkaaDoor.PFnDedented
open Go.RowKit Go.Proofs.YthbdaoapjnofkaaDoor.H Go.Proofs.YthbdaoapjnofkaaDoor.R Go.Proofs.YthbdaoapjnofkaaDoorW.PrintWords Go.Proofs.YthbdaoapjnofkaaDoorW.PrintLast Go.Proofs.YthbdaoapjnofkaaDoorW.PrintMore
attribute [local go_sem] max2_int min2_int max_two min_two max_three min_three max_four min_four   -- for this text's walks alone
set_option linter.unusedVariables false
set_option linter.unusedSimpArgs false

/-! ### spec_Dedented: function 23 -/
mutual
def spec_Dedented.l0 : Nat → List ByteArray → Int → Int → Option (ByteArray × Bool)
  | 0, _, _, _ => none
  | k + 1, x4, x5, x6 => if x6 < (x4.length : Int) then (if 0 ≤ x6 then ((spec_inset.f k (rdOf ByteArray.empty x4 x6)).bind fun t114 => (if t114 = ((rdOf ByteArray.empty x4 x6).size : Int) then (spec_Dedented.l0 k x4 x5 (wrap64 (x6 + 1))) else (if t114 = 0 then (some ((⟨#[]⟩ : ByteArray), false)) else (if x5 < 0 then (spec_Dedented.l0 k x4 t114 (wrap64 (x6 + 1))) else (if t114 < x5 then (spec_Dedented.l0 k x4 t114 (wrap64 (x6 + 1))) else (spec_Dedented.l0 k x4 x5 (wrap64 (x6 + 1)))))))) else (none)) else (spec_Dedented.l1 k x4 x5 0)
def spec_Dedented.l1 : Nat → List ByteArray → Int → Int → Option (ByteArray × Bool)
  | 0, _, _, _ => none
  | k + 1, x4, x5, x8 => if x8 < (x4.length : Int) then (if x5 > 0 then (if 0 ≤ x8 then ((spec_inset.f k (rdOf ByteArray.empty x4 x8)).bind fun t118 => (if 0 ≤ (mn x5 t118) then (if (mn x5 t118) ≤ ((rdOf ByteArray.empty x4 x8).size : Int) then (spec_Dedented.l1 k (x4.set (x8 : Int).toNat ((rdOf ByteArray.empty x4 x8).extract ((mn x5 t118) : Int).toNat (rdOf ByteArray.empty x4 x8).size)) x5 (wrap64 (x8 + 1))) else (none)) else (none))) else (none)) else ((spec_Together.f k x4).bind fun t120 => (some (t120, decide (x5 > 0))))) else ((spec_Together.f k x4).bind fun t121 => (some (t121, decide (x5 > 0))))
end
def spec_Dedented.f (k : Nat) (a0 : ByteArray) : Option (ByteArray × Bool) := (spec_Rows.f k a0).bind fun t110 => (spec_Dedented.l0 k t110 (-1) 0)
theorem spec_Dedented.mono_l : ∀ k, (∀ y0 y1 y2, LeO (spec_Dedented.l0 k y0 y1 y2) (spec_Dedented.l0 (k + 1) y0 y1 y2)) ∧ (∀ y0 y1 y2, LeO (spec_Dedented.l1 k y0 y1 y2) (spec_Dedented.l1 (k + 1) y0 y1 y2))
  | 0 => ⟨fun _ _ _ r h => by simp [spec_Dedented.l0] at h, fun _ _ _ r h => by simp [spec_Dedented.l1] at h⟩
  | k + 1 => by
    obtain ⟨ih0, ih1⟩ := spec_Dedented.mono_l k
    refine ⟨?_, ?_⟩
    · intro y0 y1 y2
      unfold spec_Dedented.l0
      repeat' first
      | (with_reducible exact ih0 _ _ _)
      | (with_reducible exact ih1 _ _ _)
      | (with_reducible exact spec_Rows.mono _ _)
      | (with_reducible exact spec_Together.mono _ _)
      | (with_reducible exact spec_inset.mono _ _)
      | (with_reducible exact LeO.refl _)
      | (with_reducible exact LeO.none _)
      | (with_reducible refine LeO.ite ?_ ?_)
      | (with_reducible refine LeO.bind ?_ (fun _ => ?_))
      | exact ih0 _ _ _
      | exact ih1 _ _ _
      | exact spec_Rows.mono _ _
      | exact spec_Together.mono _ _
      | exact spec_inset.mono _ _
      | exact LeO.none _
      | refine LeO.ite ?_ ?_
      | refine LeO.bind ?_ (fun _ => ?_)
    · intro y0 y1 y2
      unfold spec_Dedented.l1
      repeat' first
      | (with_reducible exact ih0 _ _ _)
      | (with_reducible exact ih1 _ _ _)
      | (with_reducible exact spec_Rows.mono _ _)
      | (with_reducible exact spec_Together.mono _ _)
      | (with_reducible exact spec_inset.mono _ _)
      | (with_reducible exact LeO.refl _)
      | (with_reducible exact LeO.none _)
      | (with_reducible refine LeO.ite ?_ ?_)
      | (with_reducible refine LeO.bind ?_ (fun _ => ?_))
      | exact ih0 _ _ _
      | exact ih1 _ _ _
      | exact spec_Rows.mono _ _
      | exact spec_Together.mono _ _
      | exact spec_inset.mono _ _
      | exact LeO.none _
      | refine LeO.ite ?_ ?_
      | refine LeO.bind ?_ (fun _ => ?_)
theorem spec_Dedented.mono : ∀ a0 k, LeO (spec_Dedented.f k a0) (spec_Dedented.f (k + 1) a0) := by
  intro a0 k
  obtain ⟨ih0, ih1⟩ := spec_Dedented.mono_l k
  unfold spec_Dedented.f
  repeat' first
      | (with_reducible exact ih0 _ _ _)
      | (with_reducible exact ih1 _ _ _)
      | (with_reducible exact spec_Rows.mono _ _)
      | (with_reducible exact spec_Together.mono _ _)
      | (with_reducible exact spec_inset.mono _ _)
      | (with_reducible exact LeO.refl _)
      | (with_reducible exact LeO.none _)
      | (with_reducible refine LeO.ite ?_ ?_)
      | (with_reducible refine LeO.bind ?_ (fun _ => ?_))
      | exact ih0 _ _ _
      | exact ih1 _ _ _
      | exact spec_Rows.mono _ _
      | exact spec_Together.mono _ _
      | exact spec_inset.mono _ _
      | exact LeO.none _
      | refine LeO.ite ?_ ?_
      | refine LeO.bind ?_ (fun _ => ?_)
def spec_Dedented.T15 : Bool × List (List Nat × List Nat) := (true, [([], []), ([], []), ([], []), ([], []), ([2, 3], [2, 3]), ([4], [4]), ([], []), ([], []), ([], []), ([7, 8], [7, 8]), ([9], [9]), ([10], [10]), ([6, 11], [6, 11]), ([5, 12], [5, 12]), ([0, 1, 0, 1, 2, 3, 4, 5, 6, 7, 8, 9, 10, 11, 12, 13], [0, 1]), ([14, 13, 11, 0, 1, 2, 3, 4, 5, 6, 7, 8, 9, 10, 11, 12, 13], [13, 14])])
def spec_Dedented.B15 : List Nat := [0, 0, 0, 0, 12, 28, 0, 0, 0, 384, 896, 1920, 4032, 8188, 16383, 32767]
theorem spec_Dedented.tab15 : rtab .any (opsOf Tryd.f23 15) = spec_Dedented.T15 := by kernel_rfl
theorem spec_Dedented.bits15 : waitsOk spec_Dedented.T15.2 spec_Dedented.B15 = true := by kernel_rfl
set_option maxHeartbeats 8000000 in
set_option maxRecDepth 100000 in
theorem spec_Dedented.calls (k : Nat) (a0 : ByteArray) (r1 : ByteArray) (r2 : Bool) (w : World) (h : spec_Dedented.f k a0 = some (r1, r2)) :
    Calls Tryd.prog 23 #[.string a0] w fun e w' => e = .returned (.tuple #[.string r1, .bool r2]) ∧ Below w.heap.size w w' := by
  have HB := Aside0.mk (Below.refl w.heap.size w)
  have H : ((spec_Rows.f k a0).bind fun t110 => (spec_Dedented.l0 k t110 (-1) 0)) = some (r1, r2) := h
  clear h
  replace H := Option.bind_eq_some_iff.mp H
  obtain ⟨t110, A20, H⟩ := H
  replace H : (spec_Dedented.l0 k t110 (-1) 0) = some (r1, r2) := H
  have A2 := Aside0.mk A20
  clear A20
  have H' := Aside0.mk H
  clear H
  go_enter Tryd.func23, Tryd.ntmps23
  go_wp2_with (first | ((with_reducible refine gate_callee (f := 47) rfl ?_); refine goesL_ (some 10) rfl rfl Tryd.func47 (by kernel_rfl) rfl #[.string a0] rfl (by (try simp only [List.map_toArray, List.map_cons, List.map_nil]); first | done | rfl | (simp only [List.length_drop, List.length_take]; rfl) | (simp only [Int.toNat_natCast, ByteArray.extract_zero_size]; rfl)) ?_; (with_reducible refine (spec_Rows.calls k a0 t110 _ A2.out).mono ?_); rintro e w3 ⟨v111, rfl, ho0, hb⟩; refine ⟨_, rfl, ?_⟩; have n0_ := Aside0.mk (Kd.R_lower ho0 (below_size (by repeat (first | (with_reducible first | exact HB.out | apply below_alloc | apply pw_below_drewN | apply below_drew1) | exact HB.out)))); have n1_ := Aside0.mk (below_step (by repeat (first | (with_reducible first | exact HB.out | apply below_alloc | apply pw_below_drewN | apply below_drew1) | exact HB.out)) hb); clear HB; have HO112 := n0_; have HB := n1_; clear n0_ n1_; (try clear hb); (try clear hb2); (try clear hk); (try clear hi); (try clear ho0)))
  go_loopg [5, 6] k (fun kq v5 v6 w' => ∃ (x5_1 : Int) (x6_1 : Int), v5 = .int .i64 x5_1 ∧ v6 = .int .i64 x6_1 ∧ Aside0 (spec_Dedented.l0 kq t110 x5_1 x6_1 = some (r1, r2)) ∧ Aside0 (kq ≤ k) ∧ Aside0 (Kd.R Kd.string 9 w' w.heap.size (fun _ => True) v111 t110) ∧ Aside0 (Below w.heap.size w w'))
  case atStart => exact ⟨((-1)), (0), (by first | rfl | (simp; done) | (simp [*]; done)), (by first | rfl | (simp; done) | (simp [*]; done)), H', ⟨Nat.le_refl _⟩, ⟨by (with_reducible repeat (first | apply Kd.R_alloc | apply Kd.R_drewN | apply Kd.R_drew)); exact HO112.out⟩, ⟨by repeat (first | (with_reducible first | exact HB.out | apply below_alloc | apply pw_below_drewN | apply below_drew1) | exact HB.out)⟩⟩
  case round =>
    clear H'
    try clear c2
    try clear p2
    obtain ⟨x5_1, x6_1, rfl, rfl, HA, HK1, HO_4, HB⟩ := hrel
    cases gk with
    | zero => exact absurd HA.out (by simp [spec_Dedented.l0])
    | succ k1 =>
      have H := HA.out
      clear HA
      simp only [spec_Dedented.l0] at H
      by_cases c4 : x6_1 < (t110.length : Int)
      · rw [if_pos c4] at H
        have c4b0 : decide (x6_1 < (t110.length : Int)) = true := decide_eq_true c4
        clear c4
        by_cases c5 : 0 ≤ x6_1
        · rw [if_pos c5] at H
          have c5b0 : decide (0 ≤ x6_1) = true := decide_eq_true c5
          clear c5
          replace H := Option.bind_eq_some_iff.mp H
          obtain ⟨t114, A60, H⟩ := H
          replace H : (if t114 = ((rdOf ByteArray.empty t110 x6_1).size : Int) then (spec_Dedented.l0 k1 t110 x5_1 (wrap64 (x6_1 + 1))) else (if t114 = 0 then (some ((⟨#[]⟩ : ByteArray), false)) else (if x5_1 < 0 then (spec_Dedented.l0 k1 t110 t114 (wrap64 (x6_1 + 1))) else (if t114 < x5_1 then (spec_Dedented.l0 k1 t110 t114 (wrap64 (x6_1 + 1))) else (spec_Dedented.l0 k1 t110 x5_1 (wrap64 (x6_1 + 1))))))) = some (r1, r2) := H
          have A6 := Aside0.mk A60
          clear A60
          by_cases c7 : t114 = ((rdOf ByteArray.empty t110 x6_1).size : Int)
          · rw [if_pos c7] at H
            have c7b0 : (t114 == ((rdOf ByteArray.empty t110 x6_1).size : Int)) = true := beq_iff_eq.mpr c7
            have c7b1 : (t114 != ((rdOf ByteArray.empty t110 x6_1).size : Int)) = false := bne_eq_false_iff_eq.mpr c7
            clear c7
            have H' := Aside0.mk H
            clear H
            obtain ⟨Ao8, co8, eo8⟩ := Kd.R_slice HO_4.out
            subst eo8
            have p113 : 0 ≤ (x6_1 : Int) := of_decide_eq_true (by first | (with_reducible assumption) | assumption)
            have q113 : x6_1 < (t110.length : Int) := of_decide_eq_true (by first | (with_reducible assumption) | assumption)
            obtain ⟨ad113, e113, hx113_0⟩ := Kd.at_string (Kd.R_reads' HO_4.out).2.2 x6_1 p113 q113
            cases e113
            replace p113 := eq_true p113
            replace q113 := eq_true q113
            go_wp2_with (first | ((with_reducible refine gate_callee (f := 48) rfl ?_); refine goesL_ (some 21) rfl rfl Tryd.func48 (by kernel_rfl) rfl #[.string (rdOf ByteArray.empty t110 x6_1)] rfl (by (try simp only [List.map_toArray, List.map_cons, List.map_nil]); first | done | rfl | (simp only [List.length_drop, List.length_take]; rfl) | (simp only [Int.toNat_natCast, ByteArray.extract_zero_size]; rfl)) ?_; (with_reducible refine (spec_inset.calls k1 (rdOf ByteArray.empty t110 x6_1) t114 _ A6.out).mono ?_); rintro e w' ⟨rfl, ⟨nd, rfl⟩⟩; refine ⟨_, rfl, ?_⟩; have p115 : 0 ≤ (x6_1 : Int) := of_decide_eq_true (by first | (with_reducible assumption) | assumption); have q115 : x6_1 < (t110.length : Int) := of_decide_eq_true (by first | (with_reducible assumption) | assumption); obtain ⟨ad115, e115, hx115_0⟩ := Kd.at_string (Kd.R_reads' HO_4.out).2.2 x6_1 p115 q115; obtain rfl : ad113 = ad115 := (by injection e115); replace p115 := eq_true p115; replace q115 := eq_true q115))
            go_roundg k1
            case measure => have := HK1.out; omega
            case rel => exact ⟨(x5_1), (wrap64 (x6_1 + 1)), (by first | rfl | (simp; done) | (simp [*]; done)), (by first | rfl | (simp; done) | (simp [*]; done)), H', ⟨by have := HK1.out; omega⟩, ⟨by (with_reducible repeat (first | apply Kd.R_alloc | apply Kd.R_drewN | apply Kd.R_drew)); exact HO_4.out⟩, ⟨by repeat (first | (with_reducible first | exact HB.out | apply below_alloc | apply pw_below_drewN | apply below_drew1) | exact HB.out)⟩⟩
          · rw [if_neg c7] at H
            have c7b0 : (t114 == ((rdOf ByteArray.empty t110 x6_1).size : Int)) = false := beq_eq_false_iff_ne.mpr c7
            have c7b1 : (t114 != ((rdOf ByteArray.empty t110 x6_1).size : Int)) = true := bne_iff_ne.mpr c7
            by_cases c9 : t114 = 0
            · rw [if_pos c9] at H
              have c9b0 : (t114 == 0) = true := beq_iff_eq.mpr c9
              have c9b1 : (t114 != 0) = false := bne_eq_false_iff_eq.mpr c9
              clear c9
              simp only [Option.some.injEq, Prod.mk.injEq] at H
              obtain ⟨rfl, rfl⟩ := H
              obtain ⟨Ao10, co10, eo10⟩ := Kd.R_slice HO_4.out
              subst eo10
              have p113 : 0 ≤ (x6_1 : Int) := of_decide_eq_true (by first | (with_reducible assumption) | assumption)
              have q113 : x6_1 < (t110.length : Int) := of_decide_eq_true (by first | (with_reducible assumption) | assumption)
              obtain ⟨ad113, e113, hx113_0⟩ := Kd.at_string (Kd.R_reads' HO_4.out).2.2 x6_1 p113 q113
              cases e113
              replace p113 := eq_true p113
              replace q113 := eq_true q113
              go_wp2_with (first | ((with_reducible refine gate_callee (f := 48) rfl ?_); refine goesL_ (some 21) rfl rfl Tryd.func48 (by kernel_rfl) rfl #[.string (rdOf ByteArray.empty t110 x6_1)] rfl (by (try simp only [List.map_toArray, List.map_cons, List.map_nil]); first | done | rfl | (simp only [List.length_drop, List.length_take]; rfl) | (simp only [Int.toNat_natCast, ByteArray.extract_zero_size]; rfl)) ?_; (with_reducible refine (spec_inset.calls k1 (rdOf ByteArray.empty t110 x6_1) t114 _ A6.out).mono ?_); rintro e w' ⟨rfl, ⟨nd, rfl⟩⟩; refine ⟨_, rfl, ?_⟩; have p115 : 0 ≤ (x6_1 : Int) := of_decide_eq_true (by first | (with_reducible assumption) | assumption); have q115 : x6_1 < (t110.length : Int) := of_decide_eq_true (by first | (with_reducible assumption) | assumption); obtain ⟨ad115, e115, hx115_0⟩ := Kd.at_string (Kd.R_reads' HO_4.out).2.2 x6_1 p115 q115; obtain rfl : ad113 = ad115 := (by injection e115); replace p115 := eq_true p115; replace q115 := eq_true q115))
              go_ret2
              exact ⟨by first | rfl | (simp [errW_none, errW_some] <;> rfl) | (simp [*, errW_none, errW_some] <;> rfl), by repeat (first | (with_reducible first | exact HB.out | apply below_alloc | apply pw_below_drewN | apply below_drew1) | exact HB.out)⟩
            · rw [if_neg c9] at H
              have c9b0 : (t114 == 0) = false := beq_eq_false_iff_ne.mpr c9
              have c9b1 : (t114 != 0) = true := bne_iff_ne.mpr c9
              by_cases c11 : x5_1 < 0
              · rw [if_pos c11] at H
                have c11b0 : decide (x5_1 < 0) = true := decide_eq_true c11
                clear c11
                have H' := Aside0.mk H
                clear H
                obtain ⟨Ao12, co12, eo12⟩ := Kd.R_slice HO_4.out
                subst eo12
                have p113 : 0 ≤ (x6_1 : Int) := of_decide_eq_true (by first | (with_reducible assumption) | assumption)
                have q113 : x6_1 < (t110.length : Int) := of_decide_eq_true (by first | (with_reducible assumption) | assumption)
                obtain ⟨ad113, e113, hx113_0⟩ := Kd.at_string (Kd.R_reads' HO_4.out).2.2 x6_1 p113 q113
                cases e113
                replace p113 := eq_true p113
                replace q113 := eq_true q113
                go_wp2_with (first | ((with_reducible refine gate_callee (f := 48) rfl ?_); refine goesL_ (some 21) rfl rfl Tryd.func48 (by kernel_rfl) rfl #[.string (rdOf ByteArray.empty t110 x6_1)] rfl (by (try simp only [List.map_toArray, List.map_cons, List.map_nil]); first | done | rfl | (simp only [List.length_drop, List.length_take]; rfl) | (simp only [Int.toNat_natCast, ByteArray.extract_zero_size]; rfl)) ?_; (with_reducible refine (spec_inset.calls k1 (rdOf ByteArray.empty t110 x6_1) t114 _ A6.out).mono ?_); rintro e w' ⟨rfl, ⟨nd, rfl⟩⟩; refine ⟨_, rfl, ?_⟩; have p115 : 0 ≤ (x6_1 : Int) := of_decide_eq_true (by first | (with_reducible assumption) | assumption); have q115 : x6_1 < (t110.length : Int) := of_decide_eq_true (by first | (with_reducible assumption) | assumption); obtain ⟨ad115, e115, hx115_0⟩ := Kd.at_string (Kd.R_reads' HO_4.out).2.2 x6_1 p115 q115; obtain rfl : ad113 = ad115 := (by injection e115); replace p115 := eq_true p115; replace q115 := eq_true q115))
                go_roundg k1
                case measure => have := HK1.out; omega
                case rel => exact ⟨(t114), (wrap64 (x6_1 + 1)), (by first | rfl | (simp; done) | (simp [*]; done)), (by first | rfl | (simp; done) | (simp [*]; done)), H', ⟨by have := HK1.out; omega⟩, ⟨by (with_reducible repeat (first | apply Kd.R_alloc | apply Kd.R_drewN | apply Kd.R_drew)); exact HO_4.out⟩, ⟨by repeat (first | (with_reducible first | exact HB.out | apply below_alloc | apply pw_below_drewN | apply below_drew1) | exact HB.out)⟩⟩
              · rw [if_neg c11] at H
                have c11b0 : decide (x5_1 < 0) = false := decide_eq_false c11
                clear c11
                by_cases c13 : t114 < x5_1
                · rw [if_pos c13] at H
                  have c13b0 : decide (t114 < x5_1) = true := decide_eq_true c13
                  clear c13
                  have H' := Aside0.mk H
                  clear H
                  obtain ⟨Ao14, co14, eo14⟩ := Kd.R_slice HO_4.out
                  subst eo14
                  have p113 : 0 ≤ (x6_1 : Int) := of_decide_eq_true (by first | (with_reducible assumption) | assumption)
                  have q113 : x6_1 < (t110.length : Int) := of_decide_eq_true (by first | (with_reducible assumption) | assumption)
                  obtain ⟨ad113, e113, hx113_0⟩ := Kd.at_string (Kd.R_reads' HO_4.out).2.2 x6_1 p113 q113
                  cases e113
                  replace p113 := eq_true p113
                  replace q113 := eq_true q113
                  go_wp2_with (first | ((with_reducible refine gate_callee (f := 48) rfl ?_); refine goesL_ (some 21) rfl rfl Tryd.func48 (by kernel_rfl) rfl #[.string (rdOf ByteArray.empty t110 x6_1)] rfl (by (try simp only [List.map_toArray, List.map_cons, List.map_nil]); first | done | rfl | (simp only [List.length_drop, List.length_take]; rfl) | (simp only [Int.toNat_natCast, ByteArray.extract_zero_size]; rfl)) ?_; (with_reducible refine (spec_inset.calls k1 (rdOf ByteArray.empty t110 x6_1) t114 _ A6.out).mono ?_); rintro e w' ⟨rfl, ⟨nd, rfl⟩⟩; refine ⟨_, rfl, ?_⟩; have p115 : 0 ≤ (x6_1 : Int) := of_decide_eq_true (by first | (with_reducible assumption) | assumption); have q115 : x6_1 < (t110.length : Int) := of_decide_eq_true (by first | (with_reducible assumption) | assumption); obtain ⟨ad115, e115, hx115_0⟩ := Kd.at_string (Kd.R_reads' HO_4.out).2.2 x6_1 p115 q115; obtain rfl : ad113 = ad115 := (by injection e115); replace p115 := eq_true p115; replace q115 := eq_true q115))
                  go_roundg k1
                  case measure => have := HK1.out; omega
                  case rel => exact ⟨(t114), (wrap64 (x6_1 + 1)), (by first | rfl | (simp; done) | (simp [*]; done)), (by first | rfl | (simp; done) | (simp [*]; done)), H', ⟨by have := HK1.out; omega⟩, ⟨by (with_reducible repeat (first | apply Kd.R_alloc | apply Kd.R_drewN | apply Kd.R_drew)); exact HO_4.out⟩, ⟨by repeat (first | (with_reducible first | exact HB.out | apply below_alloc | apply pw_below_drewN | apply below_drew1) | exact HB.out)⟩⟩
                · rw [if_neg c13] at H
                  have c13b0 : decide (t114 < x5_1) = false := decide_eq_false c13
                  clear c13
                  have H' := Aside0.mk H
                  clear H
                  obtain ⟨Ao15, co15, eo15⟩ := Kd.R_slice HO_4.out
                  subst eo15
                  have p113 : 0 ≤ (x6_1 : Int) := of_decide_eq_true (by first | (with_reducible assumption) | assumption)
                  have q113 : x6_1 < (t110.length : Int) := of_decide_eq_true (by first | (with_reducible assumption) | assumption)
                  obtain ⟨ad113, e113, hx113_0⟩ := Kd.at_string (Kd.R_reads' HO_4.out).2.2 x6_1 p113 q113
                  cases e113
                  replace p113 := eq_true p113
                  replace q113 := eq_true q113
                  go_wp2_with (first | ((with_reducible refine gate_callee (f := 48) rfl ?_); refine goesL_ (some 21) rfl rfl Tryd.func48 (by kernel_rfl) rfl #[.string (rdOf ByteArray.empty t110 x6_1)] rfl (by (try simp only [List.map_toArray, List.map_cons, List.map_nil]); first | done | rfl | (simp only [List.length_drop, List.length_take]; rfl) | (simp only [Int.toNat_natCast, ByteArray.extract_zero_size]; rfl)) ?_; (with_reducible refine (spec_inset.calls k1 (rdOf ByteArray.empty t110 x6_1) t114 _ A6.out).mono ?_); rintro e w' ⟨rfl, ⟨nd, rfl⟩⟩; refine ⟨_, rfl, ?_⟩; have p115 : 0 ≤ (x6_1 : Int) := of_decide_eq_true (by first | (with_reducible assumption) | assumption); have q115 : x6_1 < (t110.length : Int) := of_decide_eq_true (by first | (with_reducible assumption) | assumption); obtain ⟨ad115, e115, hx115_0⟩ := Kd.at_string (Kd.R_reads' HO_4.out).2.2 x6_1 p115 q115; obtain rfl : ad113 = ad115 := (by injection e115); replace p115 := eq_true p115; replace q115 := eq_true q115))
                  go_roundg k1
                  case measure => have := HK1.out; omega
                  case rel => exact ⟨(x5_1), (wrap64 (x6_1 + 1)), (by first | rfl | (simp; done) | (simp [*]; done)), (by first | rfl | (simp; done) | (simp [*]; done)), H', ⟨by have := HK1.out; omega⟩, ⟨by (with_reducible repeat (first | apply Kd.R_alloc | apply Kd.R_drewN | apply Kd.R_drew)); exact HO_4.out⟩, ⟨by repeat (first | (with_reducible first | exact HB.out | apply below_alloc | apply pw_below_drewN | apply below_drew1) | exact HB.out)⟩⟩
        · rw [if_neg c5] at H
          exact absurd H (by simp)
      · rw [if_neg c4] at H
        have c4b0 : decide (x6_1 < (t110.length : Int)) = false := decide_eq_false c4
        clear c4
        have H' := Aside0.mk H
        clear H
        obtain ⟨Ao16, co16, eo16⟩ := Kd.R_slice HO_4.out
        subst eo16
        go_wp2
        go_loopg [8] k1 (fun kq v8 w' => ∃ (x4_2 : List ByteArray) (x8_2 : Int), v8 = .int .i64 x8_2 ∧ Aside0 (spec_Dedented.l1 kq x4_2 x5_1 x8_2 = some (r1, r2)) ∧ Aside0 (kq ≤ k1) ∧ Aside0 (Kd.R Kd.string 9 w' w.heap.size (fun _ => True) (.slice Ao16 t110.length co16) x4_2) ∧ Aside0 (Below w.heap.size w w'))
        case atStart => exact ⟨(t110), (0), (by first | rfl | (simp; done) | (simp [*]; done)), H', ⟨Nat.le_refl _⟩, ⟨by (with_reducible repeat (first | apply Kd.R_alloc | apply Kd.R_drewN | apply Kd.R_drew)); exact HO_4.out⟩, ⟨by repeat (first | (with_reducible first | exact HB.out | apply below_alloc | apply pw_below_drewN | apply below_drew1) | exact HB.out)⟩⟩
        case round =>
          clear H'
          try clear c1
          try clear p1
          try clear q1
          try clear hx1
          try clear c2
          try clear p2
          try clear c4
          try clear c4b0
          try clear c5
          try clear c5b0
          try clear p6
          try clear c7
          try clear c7b0
          try clear c7b1
          try clear c9
          try clear c9b0
          try clear c9b1
          try clear c11
          try clear c11b0
          try clear p11
          try clear q11
          try clear hx11
          try clear c13
          try clear c13b0
          try clear hx113_0
          try clear hx115_0
          try clear p113
          try clear p115
          try clear p2
          try clear q113
          try clear q115
          obtain ⟨x4_2, x8_2, rfl, HA, HK2, HO_4, HB⟩ := hrel
          have hl4_2 := (Kd.R_reads' HO_4.out).1
          rw [hl4_2] at HO_4
          (try simp only [hl4_2])
          cases gk with
          | zero => exact absurd HA.out (by simp [spec_Dedented.l1])
          | succ k2 =>
            have H := HA.out
            clear HA
            simp only [spec_Dedented.l1] at H
            by_cases c17 : x8_2 < (x4_2.length : Int)
            · rw [if_pos c17] at H
              have c17b0 : decide (x8_2 < (x4_2.length : Int)) = true := decide_eq_true c17
              clear c17
              by_cases c18 : x5_1 > 0
              · rw [if_pos c18] at H
                have c18b0 : decide (0 < x5_1) = true := decide_eq_true c18
                clear c18
                by_cases c19 : 0 ≤ x8_2
                · rw [if_pos c19] at H
                  have c19b0 : decide (0 ≤ x8_2) = true := decide_eq_true c19
                  clear c19
                  replace H := Option.bind_eq_some_iff.mp H
                  obtain ⟨t118, A200, H⟩ := H
                  replace H : (if 0 ≤ (mn x5_1 t118) then (if (mn x5_1 t118) ≤ ((rdOf ByteArray.empty x4_2 x8_2).size : Int) then (spec_Dedented.l1 k2 (x4_2.set (x8_2 : Int).toNat ((rdOf ByteArray.empty x4_2 x8_2).extract ((mn x5_1 t118) : Int).toNat (rdOf ByteArray.empty x4_2 x8_2).size)) x5_1 (wrap64 (x8_2 + 1))) else (none)) else (none)) = some (r1, r2) := H
                  have A20 := Aside0.mk A200
                  clear A200
                  obtain ⟨ji21, hji21⟩ : ∃ j_ : Int, (mn x5_1 t118) = j_ := ⟨_, rfl⟩
                  replace H : (if 0 ≤ (ji21) then (if (ji21) ≤ ((rdOf ByteArray.empty x4_2 x8_2).size : Int) then (spec_Dedented.l1 k2 (x4_2.set (x8_2 : Int).toNat ((rdOf ByteArray.empty x4_2 x8_2).extract ((ji21) : Int).toNat (rdOf ByteArray.empty x4_2 x8_2).size)) x5_1 (wrap64 (x8_2 + 1))) else (none)) else (none)) = some (r1, r2) := by first | (rw [hji21] at H; exact H) | (simp only [hji21] at H ⊢; exact H)
                  (try rw [hji21] at A20)
                  have hji21_ : (if t118 < x5_1 then t118 else x5_1) = ji21 := hji21
                  by_cases c22 : 0 ≤ (ji21)
                  · rw [if_pos c22] at H
                    have c22b0 := eq_true c22
                    have c22b1 : decide (0 ≤ (ji21)) = true := decide_eq_true c22
                    clear c22
                    by_cases c23 : (ji21) ≤ ((rdOf ByteArray.empty x4_2 x8_2).size : Int)
                    · rw [if_pos c23] at H
                      have c23b0 := eq_true c23
                      have c23b1 : decide ((ji21) ≤ ((rdOf ByteArray.empty x4_2 x8_2).size : Int)) = true := decide_eq_true c23
                      clear c23
                      obtain ⟨y119, hy119⟩ : ∃ y_ : List ByteArray, y_ = (x4_2.set (x8_2 : Int).toNat ((rdOf ByteArray.empty x4_2 x8_2).extract ((ji21) : Int).toNat (rdOf ByteArray.empty x4_2 x8_2).size)) := ⟨_, rfl⟩
                      replace H : (spec_Dedented.l1 k2 y119 x5_1 (wrap64 (x8_2 + 1))) = some (r1, r2) := by first | (rw [hy119]; with_reducible exact H) | (have H2_ := (Option.bind_some _ _).symm.trans H; rw [hy119]; with_reducible exact H2_) | (have H2_ := (Option.bind_some _ _).symm.trans H; with_reducible exact H2_) | with_reducible exact H | (rw [hy119]; exact H) | exact H
                      have Ny119 := Aside0.mk hy119
                      clear hy119
                      have H' := Aside0.mk H
                      clear H
                      try go_wp2
                      have n0_ := Aside0.mk (Kd.R_drew HO_4.out)
                      have n1_ := Aside0.mk (below_drew1 HB.out)
                      clear HO_4
                      clear HB
                      have HO_4 := n0_
                      have HB := n1_
                      clear n0_ n1_
                      have p116 : 0 ≤ (x8_2 : Int) := of_decide_eq_true (by first | (with_reducible assumption) | assumption)
                      have q116 : x8_2 < (x4_2.length : Int) := of_decide_eq_true (by first | (with_reducible assumption) | assumption)
                      obtain ⟨ad116, e116, hx116_0⟩ := Kd.at_string (Kd.R_reads' HO_4.out).2.2 x8_2 p116 q116
                      cases e116
                      replace p116 := eq_true p116
                      replace q116 := eq_true q116
                      have p117 : 0 ≤ (x8_2 : Int) := of_decide_eq_true (by first | (with_reducible assumption) | assumption)
                      have q117 : x8_2 < (x4_2.length : Int) := of_decide_eq_true (by first | (with_reducible assumption) | assumption)
                      obtain ⟨ad117, e117, hx117_0⟩ := Kd.at_string (Kd.R_reads' HO_4.out).2.2 x8_2 p117 q117
                      obtain rfl : ad116 = ad117 := (by injection e117)
                      replace p117 := eq_true p117
                      replace q117 := eq_true q117
                      refine start_ (n := 16) (S := fun w' => w'.cell? (ad116.add (x8_2).toNat) = some (.string (rdOf ByteArray.empty x4_2 x8_2)) ∧ w'.cell? (ad116.add (x8_2).toNat) = some (.string (rdOf ByteArray.empty x4_2 x8_2))) (ds := [15]) #[false, false, false, false, false, false, false, false, false, false, false, false, false, false, false, false] (by kernel_rfl) rfl rfl ⟨hx116_0, hx117_0⟩ (fun hHeld => ?_); refine with_tabW spec_Dedented.tab15 spec_Dedented.bits15 (fun HT_ HW_ => ?_)
                      generalize wr.drew = w25 at HO_4 HB hx116_0 hx117_0 hHeld ⊢
                      refine pure_ (i := 0) (N := some 52) (v := ?_) (a' := ?_) #[true, false, false, false, false, false, false, false, false, false, false, false, false, false, false, false] rfl rfl (any_of HT_.out (by kernel_rfl)) (fun _ _ _ h => h) (Or.inl ⟨by rfl, ?_⟩) ?_ ?_
                      rotate_left
                      · intro w'
                        go_simp
                        with_reducible rfl
                      rotate_left
                      · simp only [Act.put, List.setIfInBounds_toArray, List.set_cons_zero, List.set_cons_succ, i64_w, i32_w]
                        rfl
                      refine pure_ (i := 1) (N := some 53) (v := ?_) (a' := ?_) #[true, true, false, false, false, false, false, false, false, false, false, false, false, false, false, false] rfl rfl (any_of HT_.out (by kernel_rfl)) (fun _ _ _ h => h) (Or.inl ⟨by rfl, ?_⟩) ?_ ?_
                      rotate_left
                      · intro w'
                        go_simp
                        with_reducible rfl
                      rotate_left
                      · simp only [Act.put, List.setIfInBounds_toArray, List.set_cons_zero, List.set_cons_succ, i64_w, i32_w]
                        rfl
                      refine pure_ (i := 2) (N := some 54) (v := ?_) (a' := ?_) #[true, true, true, false, false, false, false, false, false, false, false, false, false, false, false, false] rfl rfl (any_of HT_.out (by kernel_rfl)) (fun _ _ _ h => h) (Or.inl ⟨by rfl, ?_⟩) ?_ ?_
                      rotate_left
                      · intro w'
                        go_simp
                        with_reducible rfl
                      rotate_left
                      · simp only [Act.put, List.setIfInBounds_toArray, List.set_cons_zero, List.set_cons_succ, i64_w, i32_w]
                        rfl
                      refine pure_ (i := 3) (N := some 55) (v := ?_) (a' := ?_) #[true, true, true, true, false, false, false, false, false, false, false, false, false, false, false, false] rfl rfl (any_of HT_.out (by kernel_rfl)) (fun _ _ _ h => h) (Or.inl ⟨by rfl, ?_⟩) ?_ ?_
                      rotate_left
                      · intro w'
                        go_simp
                        with_reducible rfl
                      rotate_left
                      · simp only [Act.put, List.setIfInBounds_toArray, List.set_cons_zero, List.set_cons_succ, i64_w, i32_w]
                        rfl
                      refine pure_ (i := 4) (N := some 56) (v := ?_) (a' := ?_) #[true, true, true, true, true, false, false, false, false, false, false, false, false, false, false, false] rfl rfl (any_of HT_.out (by kernel_rfl)) (fun _ _ _ h => h) (Or.inl ⟨by rfl, ?_⟩) ?_ ?_
                      rotate_left
                      · intro w'
                        go_simp
                        with_reducible rfl
                      rotate_left
                      · simp only [Act.put, List.setIfInBounds_toArray, List.set_cons_zero, List.set_cons_succ, i64_w, i32_w]
                        rfl
                      refine pure_ (i := 6) (N := some 58) (v := ?_) (a' := ?_) #[true, true, true, true, true, false, true, false, false, false, false, false, false, false, false, false] rfl rfl (any_of HT_.out (by kernel_rfl)) (fun _ _ _ h => h) (Or.inl ⟨by rfl, ?_⟩) ?_ ?_
                      rotate_left
                      · intro w'
                        go_simp
                        with_reducible rfl
                      rotate_left
                      · simp only [Act.put, List.setIfInBounds_toArray, List.set_cons_zero, List.set_cons_succ, i64_w, i32_w]
                        rfl
                      refine pure_ (i := 7) (N := some 59) (v := ?_) (a' := ?_) #[true, true, true, true, true, false, true, true, false, false, false, false, false, false, false, false] rfl rfl (any_of HT_.out (by kernel_rfl)) (fun _ _ _ h => h) (Or.inl ⟨by rfl, ?_⟩) ?_ ?_
                      rotate_left
                      · intro w'
                        go_simp
                        with_reducible rfl
                      rotate_left
                      · simp only [Act.put, List.setIfInBounds_toArray, List.set_cons_zero, List.set_cons_succ, i64_w, i32_w]
                        rfl
                      refine pure_ (i := 8) (N := some 60) (v := ?_) (a' := ?_) #[true, true, true, true, true, false, true, true, true, false, false, false, false, false, false, false] rfl rfl (any_of HT_.out (by kernel_rfl)) (fun _ _ _ h => h) (Or.inl ⟨by rfl, ?_⟩) ?_ ?_
                      rotate_left
                      · intro w'
                        go_simp
                        with_reducible rfl
                      rotate_left
                      · simp only [Act.put, List.setIfInBounds_toArray, List.set_cons_zero, List.set_cons_succ, i64_w, i32_w]
                        rfl
                      refine pure_ (i := 9) (N := some 61) (v := ?_) (a' := ?_) #[true, true, true, true, true, false, true, true, true, true, false, false, false, false, false, false] rfl rfl (any_of HT_.out (by kernel_rfl)) (fun _ _ _ h => h) (Or.inl ⟨by rfl, ?_⟩) ?_ ?_
                      rotate_left
                      · intro w'
                        go_simp
                        with_reducible rfl
                      rotate_left
                      · simp only [Act.put, List.setIfInBounds_toArray, List.set_cons_zero, List.set_cons_succ, i64_w, i32_w]
                        rfl
                      refine take_ (i := 5) (N := some 57) (v := ?_) (a' := ?_) #[true, true, true, true, true, true, true, true, true, true, false, false, false, false, false, false] rfl rfl (take_ofW HT_.out HW_.out (by kernel_rfl)) (fun _ _ _ h => h) (Or.inl ⟨by rfl, ?_⟩) hHeld ?_ ?_
                      rotate_left
                      · rintro w' ⟨s0, s1⟩
                        go_simp
                        with_reducible rfl
                      rotate_left
                      · simp only [Act.put, List.setIfInBounds_toArray, List.set_cons_zero, List.set_cons_succ, i64_w, i32_w]
                        rfl
                      refine take_ (i := 10) (N := some 62) (v := ?_) (a' := ?_) #[true, true, true, true, true, true, true, true, true, true, true, false, false, false, false, false] rfl rfl (take_ofW HT_.out HW_.out (by kernel_rfl)) (fun _ _ _ h => h) (Or.inl ⟨by rfl, ?_⟩) hHeld ?_ ?_
                      rotate_left
                      · rintro w' ⟨s0, s1⟩
                        go_simp
                        with_reducible rfl
                      rotate_left
                      · simp only [Act.put, List.setIfInBounds_toArray, List.set_cons_zero, List.set_cons_succ, i64_w, i32_w]
                        rfl
                      refine one_ (i := 11) (N := some 63) #[true, true, true, true, true, true, true, true, true, true, true, true, false, false, false, false] rfl rfl (one_of HT_.out (by kernel_rfl)) (by decide) (fun K hK => ?_)
                      refine goes_ Tryd.func48 (by kernel_rfl) rfl #[.string (rdOf ByteArray.empty x4_2 x8_2)] (by rfl) rfl rfl (by (try simp only [List.map_toArray, List.map_cons, List.map_nil]); first | done | rfl | (simp only [List.length_drop, List.length_take]; rfl) | (simp only [Int.toNat_natCast, ByteArray.extract_zero_size]; rfl)) ?_
                      with_reducible refine (spec_inset.calls k2 (rdOf ByteArray.empty x4_2 x8_2) t118 _ A20.out).mono ?_
                      rintro e w' ⟨rfl, ⟨nd, rfl⟩⟩
                      refine ⟨_, rfl, ?_⟩
                      have p24 : 0 ≤ (x8_2 : Int) := of_decide_eq_true (by first | (with_reducible assumption) | assumption)
                      have q24 : (x8_2 : Int) < ((x4_2.length : Int) : Int) := of_decide_eq_true (by first | (with_reducible assumption) | assumption)
                      obtain ⟨go24, co24, eo24, gb24, gl24, cl24, HG24⟩ := Kd.R_form HO_4.out (by omega)
                      (first | cases eo24 | (injection eo24 with ea_ en_ ec_; (first | subst ea_ | (injection ea_ with ea_; subst ea_)); subst ec_; clear en_))
                      have GB24 := Aside0.mk gb24
                      have GG24 := Aside0.mk HG24
                      clear gb24 gl24 HG24
                      (first | simp only [add_plain] at hx116_0 | skip)
                      (first | simp only [add_plain] at hx117_0 | skip)
                      obtain ⟨hx24_0, hf24_0⟩ := Kd.R_celln (⟨#[]⟩ : ByteArray) HO_4.out (x8_2 : Int) p24 q24
                      replace p24 := eq_true p24
                      replace q24 := eq_true q24
                      have HP26 := Kd.R_putn HO_4.out (x8_2 : Int) ((rdOf ByteArray.empty x4_2 x8_2).extract ((ji21) : Int).toNat (rdOf ByteArray.empty x4_2 x8_2).size)
                      rw [← Ny119.out] at HP26
                      have HQ26 := Aside0.mk HP26
                      clear HP26
                      refine hK.out _ _ ⟨hHeld.1, hHeld.2⟩ (fun hHeld => ?_)
                      clear hK K
                      refine norm_ (a' := ?_) ?_ ?_
                      rotate_left
                      · show Act.put _ (some 63) _ = _
                        simp only [Act.put, List.setIfInBounds_toArray, List.set_cons_zero, List.set_cons_succ, i64_w, i32_w]
                        rfl
                      refine pure_ (i := 12) (N := some 64) (v := ?_) (a' := ?_) #[true, true, true, true, true, true, true, true, true, true, true, true, true, false, false, false] rfl rfl (any_of HT_.out (by kernel_rfl)) (fun _ _ _ h => h) (Or.inl ⟨by rfl, ?_⟩) ?_ ?_
                      rotate_left
                      · intro w'
                        go_simp
                        with_reducible rfl
                      rotate_left
                      · simp only [Act.put, List.setIfInBounds_toArray, List.set_cons_zero, List.set_cons_succ, i64_w, i32_w]
                        rfl
                      refine pure_ (i := 13) (N := some 65) (v := ?_) (a' := ?_) #[true, true, true, true, true, true, true, true, true, true, true, true, true, true, false, false] rfl rfl (any_of HT_.out (by kernel_rfl)) (fun _ _ _ h => h) (Or.inl ⟨by rfl, ?_⟩) ?_ ?_
                      rotate_left
                      · intro w'
                        go_simp
                        with_reducible rfl
                      rotate_left
                      · simp only [Act.put, List.setIfInBounds_toArray, List.set_cons_zero, List.set_cons_succ, i64_w, i32_w]
                        rfl
                      refine pure_ (i := 14) (N := some 66) (v := ?_) (a' := ?_) #[true, true, true, true, true, true, true, true, true, true, true, true, true, true, true, false] rfl rfl (any_of HT_.out (by kernel_rfl)) (fun _ _ _ h => h) (Or.inl ⟨by rfl, ?_⟩) ?_ ?_
                      rotate_left
                      · intro w'
                        go_simp
                        with_reducible rfl
                      rotate_left
                      · simp only [Act.put, List.setIfInBounds_toArray, List.set_cons_zero, List.set_cons_succ, i64_w, i32_w]
                        rfl
                      refine last_ (i := 15) (N := none) #[true, true, true, true, true, true, true, true, true, true, true, true, true, true, true, true] rfl rfl (one_of HT_.out (by kernel_rfl)) (by decide) (fun K hK => ?_)
                      refine skip_ (w1 := ?_) (by rfl) rfl ?_ ?_
                      rotate_left
                      · go_simp
                        rfl
                      refine hK.out _ _ ?_
                      clear hK K
                      refine done_ (done_of HT_.out (by kernel_rfl)) ?_
                      try go_wp2
                      (try simp only [← hl4_2])
                      go_roundg k2
                      case measure => have := HK1.out; have := HK2.out; omega
                      case rel => exact ⟨(y119), (wrap64 (x8_2 + 1)), (by first | rfl | (simp; done) | (simp [*]; done)), H', ⟨by have := HK1.out; have := HK2.out; omega⟩, ⟨by (try simp only [hl4_2]); (with_reducible repeat (first | apply Kd.R_alloc | apply Kd.R_drewN | apply Kd.R_drew)); exact HQ26.out⟩, ⟨by repeat (first | (with_reducible first | exact HB.out | apply below_alloc | apply pw_below_drewN | apply below_drew1 | refine below_set ?_ GB24.out) | exact HB.out)⟩⟩
                    · rw [if_neg c23] at H
                      exact absurd H (by simp)
                  · rw [if_neg c22] at H
                    exact absurd H (by simp)
                · rw [if_neg c19] at H
                  exact absurd H (by simp)
              · rw [if_neg c18] at H
                have c18b0 : decide (0 < x5_1) = false := decide_eq_false c18
                clear c18
                replace H := Option.bind_eq_some_iff.mp H
                obtain ⟨t120, A270, H⟩ := H
                replace H : (some (t120, decide (x5_1 > 0))) = some (r1, r2) := H
                have A27 := Aside0.mk A270
                clear A270
                simp only [Option.some.injEq, Prod.mk.injEq] at H
                obtain ⟨rfl, rfl⟩ := H
                go_wp2_with (first | ((with_reducible refine gate_callee (f := 49) rfl ?_); refine goesL_ (some 68) rfl rfl Tryd.func49 (by kernel_rfl) rfl #[.slice Ao16 x4_2.length co16] rfl (by (try simp only [List.map_toArray, List.map_cons, List.map_nil]); first | done | rfl | (simp only [List.length_drop, List.length_take]; rfl) | (simp only [Int.toNat_natCast, ByteArray.extract_zero_size]; rfl)) ?_; (with_reducible refine (spec_Together.calls k2 _ _ x4_2 t120 _ ?side1 ?side2 A27.out).mono ?_); (case side1 => repeat (first | exact (Kd.R_reads' HO_4.out).2.2 | (with_reducible refine Kd.C_alloc ?_ _) | (with_reducible refine Kd.C_drewN ?_ _) | (with_reducible refine Kd.C_drew ?_))); (case side2 => exact (Kd.R_reads' HO_4.out).2.1); rintro e w' ⟨rfl, ⟨nd, rfl⟩⟩; refine ⟨_, rfl, ?_⟩))
                go_ret2
                exact ⟨by first | rfl | (simp [errW_none, errW_some] <;> rfl) | (simp [*, errW_none, errW_some] <;> rfl), by repeat (first | (with_reducible first | exact HB.out | apply below_alloc | apply pw_below_drewN | apply below_drew1) | exact HB.out)⟩
            · rw [if_neg c17] at H
              have c17b0 : decide (x8_2 < (x4_2.length : Int)) = false := decide_eq_false c17
              clear c17
              replace H := Option.bind_eq_some_iff.mp H
              obtain ⟨t121, A280, H⟩ := H
              replace H : (some (t121, decide (x5_1 > 0))) = some (r1, r2) := H
              have A28 := Aside0.mk A280
              clear A280
              simp only [Option.some.injEq, Prod.mk.injEq] at H
              obtain ⟨rfl, rfl⟩ := H
              go_wp2_with (first | ((with_reducible refine gate_callee (f := 49) rfl ?_); refine goesL_ (some 68) rfl rfl Tryd.func49 (by kernel_rfl) rfl #[.slice Ao16 x4_2.length co16] rfl (by (try simp only [List.map_toArray, List.map_cons, List.map_nil]); first | done | rfl | (simp only [List.length_drop, List.length_take]; rfl) | (simp only [Int.toNat_natCast, ByteArray.extract_zero_size]; rfl)) ?_; (with_reducible refine (spec_Together.calls k2 _ _ x4_2 t121 _ ?side1 ?side2 A28.out).mono ?_); (case side1 => repeat (first | exact (Kd.R_reads' HO_4.out).2.2 | (with_reducible refine Kd.C_alloc ?_ _) | (with_reducible refine Kd.C_drewN ?_ _) | (with_reducible refine Kd.C_drew ?_))); (case side2 => exact (Kd.R_reads' HO_4.out).2.1); rintro e w' ⟨rfl, ⟨nd, rfl⟩⟩; refine ⟨_, rfl, ?_⟩))
              go_ret2
              exact ⟨by first | rfl | (simp [errW_none, errW_some] <;> rfl) | (simp [*, errW_none, errW_some] <;> rfl), by repeat (first | (with_reducible first | exact HB.out | apply below_alloc | apply pw_below_drewN | apply below_drew1) | exact HB.out)⟩

/-! ### dedent_minIndent: function 80 -/
mutual
def dedent_minIndent.l0 : Nat → ByteArray → Int → Int → Bool → Int → Option (Int)
  | 0, _, _, _, _, _ => none
  | k + 1, x0, x3, x4, x5, x6 => if x6 < (x0.size : Int) then (if 0 ≤ x6 then (if (bt x0 x6) = 32 then (dedent_minIndent.j1 k x0 x3 x4 x5 x6 (bt x0 x6) ((bt x0 x6) == 32)) else (dedent_minIndent.j1 k x0 x3 x4 x5 x6 (bt x0 x6) ((bt x0 x6) == 9))) else (none)) else (some x4)
def dedent_minIndent.j1 : Nat → ByteArray → Int → Int → Bool → Int → Int → Bool → Option (Int)
  | 0, _, _, _, _, _, _, _ => none
  | k + 1, x0, x3, x4, x5, x6, x15, x28 => if x28 = true then (if x5 = true then (dedent_minIndent.l0 k x0 (wrap64 (x3 + 1)) x4 x5 (wrap64 (x6 + 1))) else (dedent_minIndent.l0 k x0 x3 x4 x5 (wrap64 (x6 + 1)))) else (if x15 = 10 then (dedent_minIndent.l0 k x0 0 x4 true (wrap64 (x6 + 1))) else (if x3 > 0 then (if x4 = 0 then (dedent_minIndent.l0 k x0 0 x3 false (wrap64 (x6 + 1))) else (if x3 < x4 then (dedent_minIndent.l0 k x0 0 x3 false (wrap64 (x6 + 1))) else (dedent_minIndent.l0 k x0 x3 x4 false (wrap64 (x6 + 1))))) else (dedent_minIndent.l0 k x0 x3 x4 false (wrap64 (x6 + 1)))))
end
def dedent_minIndent.f (k : Nat) (a0 : ByteArray) : Option (Int) := dedent_minIndent.l0 k a0 0 0 true 0
theorem dedent_minIndent.mono_l : ∀ k, (∀ y0 y1 y2 y3 y4, LeO (dedent_minIndent.l0 k y0 y1 y2 y3 y4) (dedent_minIndent.l0 (k + 1) y0 y1 y2 y3 y4)) ∧ (∀ y0 y1 y2 y3 y4 y5 y6, LeO (dedent_minIndent.j1 k y0 y1 y2 y3 y4 y5 y6) (dedent_minIndent.j1 (k + 1) y0 y1 y2 y3 y4 y5 y6))
  | 0 => ⟨fun _ _ _ _ _ r h => by simp [dedent_minIndent.l0] at h, fun _ _ _ _ _ _ _ r h => by simp [dedent_minIndent.j1] at h⟩
  | k + 1 => by
    obtain ⟨ih0, ih1⟩ := dedent_minIndent.mono_l k
    refine ⟨?_, ?_⟩
    · intro y0 y1 y2 y3 y4
      unfold dedent_minIndent.l0
      repeat' first
      | (with_reducible exact ih0 _ _ _ _ _)
      | (with_reducible exact ih1 _ _ _ _ _ _ _)
      | (with_reducible exact LeO.refl _)
      | (with_reducible exact LeO.none _)
      | (with_reducible refine LeO.ite ?_ ?_)
      | (with_reducible refine LeO.bind ?_ (fun _ => ?_))
      | exact ih0 _ _ _ _ _
      | exact ih1 _ _ _ _ _ _ _
      | exact LeO.none _
      | refine LeO.ite ?_ ?_
      | refine LeO.bind ?_ (fun _ => ?_)
    · intro y0 y1 y2 y3 y4 y5 y6
      unfold dedent_minIndent.j1
      repeat' first
      | (with_reducible exact ih0 _ _ _ _ _)
      | (with_reducible exact ih1 _ _ _ _ _ _ _)
      | (with_reducible exact LeO.refl _)
      | (with_reducible exact LeO.none _)
      | (with_reducible refine LeO.ite ?_ ?_)
      | (with_reducible refine LeO.bind ?_ (fun _ => ?_))
      | exact ih0 _ _ _ _ _
      | exact ih1 _ _ _ _ _ _ _
      | exact LeO.none _
      | refine LeO.ite ?_ ?_
      | refine LeO.bind ?_ (fun _ => ?_)
theorem dedent_minIndent.mono : ∀ a0 k, LeO (dedent_minIndent.f k a0) (dedent_minIndent.f (k + 1) a0) := by
  intro a0 k
  obtain ⟨ih0, ih1⟩ := dedent_minIndent.mono_l k
  unfold dedent_minIndent.f
  repeat' first
      | (with_reducible exact ih0 _ _ _ _ _)
      | (with_reducible exact ih1 _ _ _ _ _ _ _)
      | (with_reducible exact LeO.refl _)
      | (with_reducible exact LeO.none _)
      | (with_reducible refine LeO.ite ?_ ?_)
      | (with_reducible refine LeO.bind ?_ (fun _ => ?_))
      | exact ih0 _ _ _ _ _
      | exact ih1 _ _ _ _ _ _ _
      | exact LeO.none _
      | refine LeO.ite ?_ ?_
      | refine LeO.bind ?_ (fun _ => ?_)
set_option maxHeartbeats 8000000 in
set_option maxRecDepth 100000 in
theorem dedent_minIndent.calls (k : Nat) (a0 : ByteArray) (r : Int) (w : World) (h : dedent_minIndent.f k a0 = some r) :
    Calls Tryd.prog 80 #[.string a0] w fun e w' => e = .returned (.int .i64 r) ∧ Drawn0 w w' := by
  have H : (dedent_minIndent.l0 k a0 0 0 true 0) = some r := h
  clear h
  have H' := Aside0.mk H
  clear H
  go_enter Tryd.func80, Tryd.ntmps80
  go_wp2
  go_loopg [3, 4, 5, 6] k (fun kq v3 v4 v5 v6 w' => ∃ (x3_1 : Int) (x4_1 : Int) (x5_1 : Bool) (x6_1 : Int), v3 = .int .i64 x3_1 ∧ v4 = .int .i64 x4_1 ∧ v5 = .bool x5_1 ∧ v6 = .int .i64 x6_1 ∧ Aside0 (dedent_minIndent.l0 kq a0 x3_1 x4_1 x5_1 x6_1 = some r) ∧ Aside0 (kq ≤ k) ∧ Drawn0 w w')
  case atStart => exact ⟨(0), (0), (true), (0), (by first | rfl | (simp; done) | (simp [*]; done)), (by first | rfl | (simp; done) | (simp [*]; done)), (by first | rfl | (simp; done) | (simp [*]; done)), (by first | rfl | (simp; done) | (simp [*]; done)), H', ⟨Nat.le_refl _⟩, by repeat (first | exact Drawn0.refl _ | apply Drawn0.step)⟩
  case round =>
    clear H'
    obtain ⟨x3_1, x4_1, x5_1, x6_1, rfl, rfl, rfl, rfl, HA, HK1, ⟨m1, rfl⟩⟩ := hrel
    cases gk with
    | zero => exact absurd HA.out (by simp [dedent_minIndent.l0])
    | succ k1 =>
      have H := HA.out
      clear HA
      simp only [dedent_minIndent.l0] at H
      by_cases c2 : x6_1 < (a0.size : Int)
      · rw [if_pos c2] at H
        have c2b0 : decide (x6_1 < (a0.size : Int)) = true := decide_eq_true c2
        clear c2
        by_cases c3 : 0 ≤ x6_1
        · rw [if_pos c3] at H
          have c3b0 : decide (0 ≤ x6_1) = true := decide_eq_true c3
          clear c3
          have HC5 := Aside0.mk H
          clear H
          have p4 : 0 ≤ (x6_1 : Int) := of_decide_eq_true (by first | (with_reducible assumption) | assumption)
          have q4 : x6_1 < (a0.size : Int) := of_decide_eq_true (by first | (with_reducible assumption) | assumption)
          have hx4 := bt_at a0 x6_1
          replace p4 := eq_true p4
          replace q4 := eq_true q4
          go_upto_if 28 with (fail)
          go_cut [28] (fun v28 wc => ∃ (kq : Nat) (x28_4 : Bool), v28 = .bool x28_4 ∧ Aside0 (dedent_minIndent.j1 kq a0 x3_1 x4_1 x5_1 x6_1 (bt a0 x6_1) x28_4 = some r) ∧ Aside0 (kq ≤ k1) ∧ Drawn0 w wc)
          case first =>
            have H := HC5.out
            clear HC5
            by_cases c6 : (bt a0 x6_1) = 32
            · rw [if_pos c6] at H
              have c6b0 : ((bt a0 x6_1) == 32) = true := beq_iff_eq.mpr c6
              have c6b1 : ((bt a0 x6_1) != 32) = false := bne_eq_false_iff_eq.mpr c6
              clear c6
              (first | rw [c6b0] | (simp only [i64_w, i32_w]; rw [c6b0]) | skip)
              have H' := Aside0.mk H
              clear H
              go_wp2
              go_meet
              case rel => exact ⟨_, (((bt a0 x6_1) == 32)), (by first | rfl | (simp; done) | (simp [*]; done)), H', ⟨by have := HK1.out; first | omega | exact Nat.le_refl _⟩, by repeat (first | exact Drawn0.refl _ | apply Drawn0.step)⟩
            · rw [if_neg c6] at H
              have c6b0 : ((bt a0 x6_1) == 32) = false := beq_eq_false_iff_ne.mpr c6
              have c6b1 : ((bt a0 x6_1) != 32) = true := bne_iff_ne.mpr c6
              (first | rw [c6b0] | (simp only [i64_w, i32_w]; rw [c6b0]) | skip)
              have H' := Aside0.mk H
              clear H
              go_wp2
              go_meet
              case rel => exact ⟨_, (((bt a0 x6_1) == 9)), (by first | rfl | (simp; done) | (simp [*]; done)), H', ⟨by have := HK1.out; first | omega | exact Nat.le_refl _⟩, by repeat (first | exact Drawn0.refl _ | apply Drawn0.step)⟩
          case rest =>
            clear HC5
            try clear c2
            try clear c2b0
            try clear p2
            try clear c3
            try clear c3b0
            try clear p4
            try clear q4
            try clear hx4
            try clear c6
            try clear c6b0
            try clear c6b1
            try clear p4
            try clear q4
            obtain ⟨kq, x28_4, rfl, HA, HJ4, ⟨mc4, rfl⟩⟩ := hcut
            cases kq with
            | zero => exact absurd HA.out (by simp [dedent_minIndent.j1])
            | succ kj4 =>
              have H := HA.out
              clear HA
              simp only [dedent_minIndent.j1] at H
              by_cases c7 : x28_4 = true
              · subst c7
                have H1 : (if x5_1 = true then (dedent_minIndent.l0 kj4 a0 (wrap64 (x3_1 + 1)) x4_1 x5_1 (wrap64 (x6_1 + 1))) else (dedent_minIndent.l0 kj4 a0 x3_1 x4_1 x5_1 (wrap64 (x6_1 + 1)))) = some r := by rw [if_pos rfl] at H; exact H
                clear H
                have H := H1
                clear H1
                by_cases c8 : x5_1 = true
                · subst c8
                  have H1 : (dedent_minIndent.l0 kj4 a0 (wrap64 (x3_1 + 1)) x4_1 true (wrap64 (x6_1 + 1))) = some r := by rw [if_pos rfl] at H; exact H
                  clear H
                  have H := H1
                  clear H1
                  have H' := Aside0.mk H
                  clear H
                  go_wp2
                  go_roundg kj4
                  case measure => have := HK1.out; have := HJ4.out; omega
                  case rel => exact ⟨(wrap64 (x3_1 + 1)), (x4_1), (true), (wrap64 (x6_1 + 1)), (by first | rfl | (simp; done) | (simp [*]; done)), (by first | rfl | (simp; done) | (simp [*]; done)), (by first | rfl | (simp; done) | (simp [*]; done)), (by first | rfl | (simp; done) | (simp [*]; done)), H', ⟨by have := HK1.out; have := HJ4.out; omega⟩, by repeat (first | exact Drawn0.refl _ | apply Drawn0.step)⟩
                · replace c8 := Bool.eq_false_iff.mpr c8
                  subst c8
                  have H1 : (dedent_minIndent.l0 kj4 a0 x3_1 x4_1 false (wrap64 (x6_1 + 1))) = some r := by rw [if_neg (show ¬ (false = true) by decide)] at H; exact H
                  clear H
                  have H := H1
                  clear H1
                  have H' := Aside0.mk H
                  clear H
                  go_wp2
                  go_roundg kj4
                  case measure => have := HK1.out; have := HJ4.out; omega
                  case rel => exact ⟨(x3_1), (x4_1), (false), (wrap64 (x6_1 + 1)), (by first | rfl | (simp; done) | (simp [*]; done)), (by first | rfl | (simp; done) | (simp [*]; done)), (by first | rfl | (simp; done) | (simp [*]; done)), (by first | rfl | (simp; done) | (simp [*]; done)), H', ⟨by have := HK1.out; have := HJ4.out; omega⟩, by repeat (first | exact Drawn0.refl _ | apply Drawn0.step)⟩
              · replace c7 := Bool.eq_false_iff.mpr c7
                subst c7
                have H1 : (if (bt a0 x6_1) = 10 then (dedent_minIndent.l0 kj4 a0 0 x4_1 true (wrap64 (x6_1 + 1))) else (if x3_1 > 0 then (if x4_1 = 0 then (dedent_minIndent.l0 kj4 a0 0 x3_1 false (wrap64 (x6_1 + 1))) else (if x3_1 < x4_1 then (dedent_minIndent.l0 kj4 a0 0 x3_1 false (wrap64 (x6_1 + 1))) else (dedent_minIndent.l0 kj4 a0 x3_1 x4_1 false (wrap64 (x6_1 + 1))))) else (dedent_minIndent.l0 kj4 a0 x3_1 x4_1 false (wrap64 (x6_1 + 1))))) = some r := by rw [if_neg (show ¬ (false = true) by decide)] at H; exact H
                clear H
                have H := H1
                clear H1
                by_cases c9 : (bt a0 x6_1) = 10
                · rw [if_pos c9] at H
                  have c9b0 : ((bt a0 x6_1) == 10) = true := beq_iff_eq.mpr c9
                  have c9b1 : ((bt a0 x6_1) != 10) = false := bne_eq_false_iff_eq.mpr c9
                  clear c9
                  have H' := Aside0.mk H
                  clear H
                  go_wp2
                  go_roundg kj4
                  case measure => have := HK1.out; have := HJ4.out; omega
                  case rel => exact ⟨(0), (x4_1), (true), (wrap64 (x6_1 + 1)), (by first | rfl | (simp; done) | (simp [*]; done)), (by first | rfl | (simp; done) | (simp [*]; done)), (by first | rfl | (simp; done) | (simp [*]; done)), (by first | rfl | (simp; done) | (simp [*]; done)), H', ⟨by have := HK1.out; have := HJ4.out; omega⟩, by repeat (first | exact Drawn0.refl _ | apply Drawn0.step)⟩
                · rw [if_neg c9] at H
                  have c9b0 : ((bt a0 x6_1) == 10) = false := beq_eq_false_iff_ne.mpr c9
                  have c9b1 : ((bt a0 x6_1) != 10) = true := bne_iff_ne.mpr c9
                  by_cases c10 : x3_1 > 0
                  · rw [if_pos c10] at H
                    have c10b0 : decide (0 < x3_1) = true := decide_eq_true c10
                    clear c10
                    by_cases c11 : x4_1 = 0
                    · rw [if_pos c11] at H
                      have c11b0 : (x4_1 == 0) = true := beq_iff_eq.mpr c11
                      have c11b1 : (x4_1 != 0) = false := bne_eq_false_iff_eq.mpr c11
                      clear c11
                      have H' := Aside0.mk H
                      clear H
                      go_wp2
                      go_roundg kj4
                      case measure => have := HK1.out; have := HJ4.out; omega
                      case rel => exact ⟨(0), (x3_1), (false), (wrap64 (x6_1 + 1)), (by first | rfl | (simp; done) | (simp [*]; done)), (by first | rfl | (simp; done) | (simp [*]; done)), (by first | rfl | (simp; done) | (simp [*]; done)), (by first | rfl | (simp; done) | (simp [*]; done)), H', ⟨by have := HK1.out; have := HJ4.out; omega⟩, by repeat (first | exact Drawn0.refl _ | apply Drawn0.step)⟩
                    · rw [if_neg c11] at H
                      have c11b0 : (x4_1 == 0) = false := beq_eq_false_iff_ne.mpr c11
                      have c11b1 : (x4_1 != 0) = true := bne_iff_ne.mpr c11
                      by_cases c12 : x3_1 < x4_1
                      · rw [if_pos c12] at H
                        have c12b0 : decide (x3_1 < x4_1) = true := decide_eq_true c12
                        clear c12
                        have H' := Aside0.mk H
                        clear H
                        go_wp2
                        go_roundg kj4
                        case measure => have := HK1.out; have := HJ4.out; omega
                        case rel => exact ⟨(0), (x3_1), (false), (wrap64 (x6_1 + 1)), (by first | rfl | (simp; done) | (simp [*]; done)), (by first | rfl | (simp; done) | (simp [*]; done)), (by first | rfl | (simp; done) | (simp [*]; done)), (by first | rfl | (simp; done) | (simp [*]; done)), H', ⟨by have := HK1.out; have := HJ4.out; omega⟩, by repeat (first | exact Drawn0.refl _ | apply Drawn0.step)⟩
                      · rw [if_neg c12] at H
                        have c12b0 : decide (x3_1 < x4_1) = false := decide_eq_false c12
                        clear c12
                        have H' := Aside0.mk H
                        clear H
                        go_wp2
                        go_roundg kj4
                        case measure => have := HK1.out; have := HJ4.out; omega
                        case rel => exact ⟨(x3_1), (x4_1), (false), (wrap64 (x6_1 + 1)), (by first | rfl | (simp; done) | (simp [*]; done)), (by first | rfl | (simp; done) | (simp [*]; done)), (by first | rfl | (simp; done) | (simp [*]; done)), (by first | rfl | (simp; done) | (simp [*]; done)), H', ⟨by have := HK1.out; have := HJ4.out; omega⟩, by repeat (first | exact Drawn0.refl _ | apply Drawn0.step)⟩
                  · rw [if_neg c10] at H
                    have c10b0 : decide (0 < x3_1) = false := decide_eq_false c10
                    clear c10
                    have H' := Aside0.mk H
                    clear H
                    go_wp2
                    go_roundg kj4
                    case measure => have := HK1.out; have := HJ4.out; omega
                    case rel => exact ⟨(x3_1), (x4_1), (false), (wrap64 (x6_1 + 1)), (by first | rfl | (simp; done) | (simp [*]; done)), (by first | rfl | (simp; done) | (simp [*]; done)), (by first | rfl | (simp; done) | (simp [*]; done)), (by first | rfl | (simp; done) | (simp [*]; done)), H', ⟨by have := HK1.out; have := HJ4.out; omega⟩, by repeat (first | exact Drawn0.refl _ | apply Drawn0.step)⟩
        · rw [if_neg c3] at H
          exact absurd H (by simp)
      · rw [if_neg c2] at H
        have c2b0 : decide (x6_1 < (a0.size : Int)) = false := decide_eq_false c2
        clear c2
        obtain rfl := Option.some.inj H
        go_wp2
        go_ret
        exact ⟨by first | rfl | (simp; done) | (simp [*]; done), by repeat (first | exact Drawn0.refl _ | apply Drawn0.step)⟩

/-! ### dedent_String: function 50 -/
def dedent_String.f (k : Nat) (a0 : ByteArray) : Option (ByteArray) := (dedent_minIndent.f k a0).bind fun t122 => (if t122 = 0 then (some a0) else ((dedent_dedent.f a0 t122).bind fun t123 => (some t123)))
theorem dedent_String.mono : ∀ a0 k, LeO (dedent_String.f k a0) (dedent_String.f (k + 1) a0) := by
  intro a0 k
  unfold dedent_String.f
  repeat' first
      | (with_reducible exact dedent_minIndent.mono _ _)
      | (with_reducible exact LeO.refl _)
      | (with_reducible exact LeO.none _)
      | (with_reducible refine LeO.ite ?_ ?_)
      | (with_reducible refine LeO.bind ?_ (fun _ => ?_))
      | exact dedent_minIndent.mono _ _
      | exact LeO.none _
      | refine LeO.ite ?_ ?_
      | refine LeO.bind ?_ (fun _ => ?_)
set_option maxHeartbeats 8000000 in
set_option maxRecDepth 100000 in
theorem dedent_String.calls (k : Nat) (a0 : ByteArray) (r : ByteArray) (w : World) (h : dedent_String.f k a0 = some r) :
    Calls Tryd.prog 50 #[.string a0] w fun e w' => e = .returned (.string r) ∧ Below w.heap.size w w' := by
  have HB := Aside0.mk (Below.refl w.heap.size w)
  have H : ((dedent_minIndent.f k a0).bind fun t122 => (if t122 = 0 then (some a0) else ((dedent_dedent.f a0 t122).bind fun t123 => (some t123)))) = some r := h
  clear h
  replace H := Option.bind_eq_some_iff.mp H
  obtain ⟨t122, A20, H⟩ := H
  replace H : (if t122 = 0 then (some a0) else ((dedent_dedent.f a0 t122).bind fun t123 => (some t123))) = some r := H
  have A2 := Aside0.mk A20
  clear A20
  by_cases c3 : t122 = 0
  · rw [if_pos c3] at H
    have c3b0 : (t122 == 0) = true := beq_iff_eq.mpr c3
    have c3b1 : (t122 != 0) = false := bne_eq_false_iff_eq.mpr c3
    clear c3
    obtain rfl := Option.some.inj H
    go_enter Tryd.func50, Tryd.ntmps50
    go_wp2_with (first | ((with_reducible refine gate_callee (f := 80) rfl ?_); refine goesL_ (some 5) rfl rfl Tryd.func80 (by kernel_rfl) rfl #[.string a0] rfl (by (try simp only [List.map_toArray, List.map_cons, List.map_nil]); first | done | rfl | (simp only [List.length_drop, List.length_take]; rfl) | (simp only [Int.toNat_natCast, ByteArray.extract_zero_size]; rfl)) ?_; (with_reducible refine (dedent_minIndent.calls k a0 t122 _ A2.out).mono ?_); rintro e w' ⟨rfl, ⟨nd, rfl⟩⟩; refine ⟨_, rfl, ?_⟩))
    go_ret
    exact ⟨by first | rfl | (simp [errW_none, errW_some] <;> rfl) | (simp [*, errW_none, errW_some] <;> rfl), by repeat (first | (with_reducible first | exact HB.out | apply below_alloc | apply pw_below_drewN | apply below_drew1) | exact HB.out)⟩
  · rw [if_neg c3] at H
    have c3b0 : (t122 == 0) = false := beq_eq_false_iff_ne.mpr c3
    have c3b1 : (t122 != 0) = true := bne_iff_ne.mpr c3
    replace H := Option.bind_eq_some_iff.mp H
    obtain ⟨t123, A40, H⟩ := H
    replace H : (some t123) = some r := H
    have A4 := Aside0.mk A40
    clear A40
    obtain rfl := Option.some.inj H
    go_enter Tryd.func50, Tryd.ntmps50
    go_wp2_with (first | ((with_reducible refine gate_callee (f := 80) rfl ?_); refine goesL_ (some 5) rfl rfl Tryd.func80 (by kernel_rfl) rfl #[.string a0] rfl (by (try simp only [List.map_toArray, List.map_cons, List.map_nil]); first | done | rfl | (simp only [List.length_drop, List.length_take]; rfl) | (simp only [Int.toNat_natCast, ByteArray.extract_zero_size]; rfl)) ?_; (with_reducible refine (dedent_minIndent.calls k a0 t122 _ A2.out).mono ?_); rintro e w' ⟨rfl, ⟨nd, rfl⟩⟩; refine ⟨_, rfl, ?_⟩) | ((with_reducible refine gate_callee (f := 81) rfl ?_); refine goesL_ (some 11) rfl rfl Tryd.func81 (by kernel_rfl) rfl #[.string a0, .int .i64 t122] rfl (by (try simp only [List.map_toArray, List.map_cons, List.map_nil]); first | done | rfl | (simp only [List.length_drop, List.length_take]; rfl) | (simp only [Int.toNat_natCast, ByteArray.extract_zero_size]; rfl)) ?_; (with_reducible refine (dedent_dedent.calls a0 t122 t123 _ A4.out).mono ?_); rintro e w5 ⟨rfl, hb⟩; refine ⟨_, rfl, ?_⟩; have n0_ := Aside0.mk (below_step (by repeat (first | (with_reducible first | exact HB.out | apply below_alloc | apply pw_below_drewN | apply below_drew1) | exact HB.out)) hb); clear HB; have HB := n0_; clear n0_; (try clear hb); (try clear hb2); (try clear hk); (try clear hi)))
    go_ret
    exact ⟨by first | rfl | (simp [errW_none, errW_some] <;> rfl) | (simp [*, errW_none, errW_some] <;> rfl), by repeat (first | (with_reducible first | exact HB.out | apply below_alloc | apply pw_below_drewN | apply below_drew1) | exact HB.out)⟩

/-! ### impl_Dedented: function 24 -/
def impl_Dedented.f (k : Nat) (a0 : ByteArray) : Option (ByteArray) := (dedent_String.f k a0).bind fun t124 => (some t124)
theorem impl_Dedented.mono : ∀ a0 k, LeO (impl_Dedented.f k a0) (impl_Dedented.f (k + 1) a0) := by
  intro a0 k
  unfold impl_Dedented.f
  repeat' first
      | (with_reducible exact dedent_String.mono _ _)
      | (with_reducible exact LeO.refl _)
      | (with_reducible exact LeO.none _)
      | (with_reducible refine LeO.ite ?_ ?_)
      | (with_reducible refine LeO.bind ?_ (fun _ => ?_))
      | exact dedent_String.mono _ _
      | exact LeO.none _
      | refine LeO.ite ?_ ?_
      | refine LeO.bind ?_ (fun _ => ?_)
set_option maxHeartbeats 8000000 in
set_option maxRecDepth 100000 in
theorem impl_Dedented.calls (k : Nat) (a0 : ByteArray) (r : ByteArray) (w : World) (h : impl_Dedented.f k a0 = some r) :
    Calls Tryd.prog 24 #[.string a0] w fun e w' => e = .returned (.string r) ∧ Below w.heap.size w w' := by
  have HB := Aside0.mk (Below.refl w.heap.size w)
  have H : ((dedent_String.f k a0).bind fun t124 => (some t124)) = some r := h
  clear h
  replace H := Option.bind_eq_some_iff.mp H
  obtain ⟨t124, A20, H⟩ := H
  replace H : (some t124) = some r := H
  have A2 := Aside0.mk A20
  clear A20
  obtain rfl := Option.some.inj H
  go_enter Tryd.func24, Tryd.ntmps24
  go_wp2_with (first | ((with_reducible refine gate_callee (f := 50) rfl ?_); refine goesL_ (some 4) rfl rfl Tryd.func50 (by kernel_rfl) rfl #[.string a0] rfl (by (try simp only [List.map_toArray, List.map_cons, List.map_nil]); first | done | rfl | (simp only [List.length_drop, List.length_take]; rfl) | (simp only [Int.toNat_natCast, ByteArray.extract_zero_size]; rfl)) ?_; (with_reducible refine (dedent_String.calls k a0 t124 _ A2.out).mono ?_); rintro e w3 ⟨rfl, hb⟩; refine ⟨_, rfl, ?_⟩; have n0_ := Aside0.mk (below_step (by repeat (first | (with_reducible first | exact HB.out | apply below_alloc | apply pw_below_drewN | apply below_drew1) | exact HB.out)) hb); clear HB; have HB := n0_; clear n0_; (try clear hb); (try clear hb2); (try clear hk); (try clear hi)))
  go_ret
  exact ⟨by first | rfl | (simp [errW_none, errW_some] <;> rfl) | (simp [*, errW_none, errW_some] <;> rfl), by repeat (first | (with_reducible first | exact HB.out | apply below_alloc | apply pw_below_drewN | apply below_drew1) | exact HB.out)⟩

end Go.Proofs.YthbdaoapjnofkaaDoor.PFnDedented
