/- Printed by a program of this seat (xprint) out of the translation: Go functions as plain functions, and the walks that show them; no condition. -/
import Derived.Test.YthbdaoapjnofkaaDoorQPFnCompletedByx0
import Derived.Test.YthbdaoapjnofkaaDoorQHCyG
import Derived.Test.YthbdaoapjnofkaaDoorQPFnCompletedByx1
namespace Go.Proofs.YthbdaoapjnofkaaDoor.PFnCompletedBy
open Go.RowKit Go.Proofs.YthbdaoapjnofkaaDoor.H Go.Proofs.YthbdaoapjnofkaaDoor.R Go.Proofs.YthbdaoapjnofkaaDoorW.PrintWords Go.Proofs.YthbdaoapjnofkaaDoorW.PrintLast Go.Proofs.YthbdaoapjnofkaaDoorW.PrintMore
attribute [local go_sem] max2_int min2_int max_two min_two max_three min_three max_four min_four   -- for this text's walks alone
set_option linter.unusedVariables false
set_option linter.unusedSimpArgs false
/-! ### spec_Offers: function 28 -/
def spec_Offers.l0 : Nat → List ByteArray → ByteArray → List ByteArray → Int → Int → Option (List ByteArray)
  | 0, _, _, _, _, _ => none
  | k + 1, x0, x1, x5, x8, x9 => if x9 < x8 then (if 0 ≤ x9 then (if x9 < (x0.length : Int) then (if ((rdOf ByteArray.empty x0 x9).size : Int) ≥ (x1.size : Int) then (if 0 ≤ (x1.size : Int) then (if (x1.size : Int) ≤ ((rdOf ByteArray.empty x0 x9).size : Int) then (if ((rdOf ByteArray.empty x0 x9).extract 0 ((x1.size : Int) : Int).toNat).toList = x1.toList then (if ((rdOf ByteArray.empty x0 x9).extract ((x1.size : Int) : Int).toNat (rdOf ByteArray.empty x0 x9).size).size + 1 ≤ 9223372036854775807 then (if x5.length < 8796093022208 then (spec_Offers.l0 k x0 x1 (x5 ++ [((rdOf ByteArray.empty x0 x9).extract ((x1.size : Int) : Int).toNat (rdOf ByteArray.empty x0 x9).size) ++ (⟨#[32]⟩ : ByteArray)]) x8 (wrap64 (x9 + 1))) else (none)) else (none)) else (spec_Offers.l0 k x0 x1 x5 x8 (wrap64 (x9 + 1)))) else (none)) else (none)) else (spec_Offers.l0 k x0 x1 x5 x8 (wrap64 (x9 + 1)))) else (none)) else (none)) else (some x5)
def spec_Offers.f (k : Nat) (l0 : List ByteArray) (a1 : ByteArray) : Option (List ByteArray) := spec_Offers.l0 k l0 a1 ([] : List ByteArray) (l0.length : Int) 0
theorem spec_Offers.mono_l : ∀ k, (∀ y0 y1 y2 y3 y4, LeO (spec_Offers.l0 k y0 y1 y2 y3 y4) (spec_Offers.l0 (k + 1) y0 y1 y2 y3 y4))
  | 0 => fun _ _ _ _ _ r h => by simp [spec_Offers.l0] at h
  | k + 1 => by
    have ih0 := spec_Offers.mono_l k
    · intro y0 y1 y2 y3 y4
      unfold spec_Offers.l0
      repeat' first
      | (with_reducible exact ih0 _ _ _ _ _)
      | (with_reducible exact LeO.refl _)
      | (with_reducible exact LeO.none _)
      | (with_reducible refine LeO.ite ?_ ?_)
      | (with_reducible refine LeO.bind ?_ (fun _ => ?_))
      | exact ih0 _ _ _ _ _
      | exact LeO.none _
      | refine LeO.ite ?_ ?_
      | refine LeO.bind ?_ (fun _ => ?_)
theorem spec_Offers.mono : ∀ a0 a1 k, LeO (spec_Offers.f k a0 a1) (spec_Offers.f (k + 1) a0 a1) := by
  intro a0 a1 k
  have ih0 := spec_Offers.mono_l k
  unfold spec_Offers.f
  repeat' first
      | (with_reducible exact ih0 _ _ _ _ _)
      | (with_reducible exact LeO.refl _)
      | (with_reducible exact LeO.none _)
      | (with_reducible refine LeO.ite ?_ ?_)
      | (with_reducible refine LeO.bind ?_ (fun _ => ?_))
      | exact ih0 _ _ _ _ _
      | exact LeO.none _
      | refine LeO.ite ?_ ?_
      | refine LeO.bind ?_ (fun _ => ?_)
set_option maxHeartbeats 8000000 in
set_option maxRecDepth 100000 in
theorem spec_Offers.calls (k : Nat) (A0 : Option Addr) (c0 : Nat) (l0 : List ByteArray) (a1 : ByteArray) (r : List ByteArray) (w : World) (hr0 : Kd.C Kd.string w A0 l0.length l0) (hc0 : l0.length ≤ c0) (h : spec_Offers.f k l0 a1 = some r) :
    Calls Tryd.prog 28 #[.slice A0 l0.length c0, .string a1] w fun e w' => ∃ v0_ : Value, e = .returned (v0_) ∧ Kd.R Kd.string 9 w' w.heap.size (fun _ => True) v0_ r ∧ Below w.heap.size w w' := by
  have HR0 := Aside0.mk hr0
  have HC0 := Aside0.mk hc0
  clear hr0 hc0
  have HB := Aside0.mk (Below.refl w.heap.size w)
  have H : (spec_Offers.l0 k l0 a1 ([] : List ByteArray) (l0.length : Int) 0) = some r := h
  clear h
  have H' := Aside0.mk H
  clear H
  go_enter Tryd.func28, Tryd.ntmps28
  go_wp2
  go_loopg [5, 9] k (fun kq v5 v9 w' => ∃ (x5_1 : List ByteArray) (x9_1 : Int), v9 = .int .i64 x9_1 ∧ Aside0 (spec_Offers.l0 kq l0 a1 x5_1 (l0.length : Int) x9_1 = some r) ∧ Aside0 (kq ≤ k) ∧ Aside0 (Kd.R Kd.string 9 w' w.heap.size (fun _ => True) v5 x5_1) ∧ Aside0 (Below w.heap.size w w'))
  case atStart => exact ⟨(([] : List ByteArray)), (0), (by first | rfl | (simp; done) | (simp [*]; done)), H', ⟨Nat.le_refl _⟩, ⟨by first | exact Kd.R_nil _ _ _ _ _ | exact Kd.N_nil _ _ _ _ _ | exact Kd.V_nil _ _ _ _ _ | exact Kd.Q_nil _ _ _ _ _ | exact Kd.S_nil _ _ _ _ _⟩, ⟨by repeat (first | (with_reducible first | exact HB.out | apply below_alloc | apply pw_below_drewN | apply below_drew1) | exact HB.out)⟩⟩
  case round =>
    clear H'
    try clear c2
    try clear p2
    obtain ⟨x5_1, x9_1, rfl, HA, HK1, HO_5, HB⟩ := hrel
    cases gk with
    | zero => exact absurd HA.out (by simp [spec_Offers.l0])
    | succ k1 =>
      have H := HA.out
      clear HA
      simp only [spec_Offers.l0] at H
      by_cases c3 : x9_1 < (l0.length : Int)
      · rw [if_pos c3] at H
        have c3b0 : decide (x9_1 < (l0.length : Int)) = true := decide_eq_true c3
        clear c3
        by_cases c4 : 0 ≤ x9_1
        · rw [if_pos c4] at H
          have c4b0 : decide (0 ≤ x9_1) = true := decide_eq_true c4
          clear c4
          by_cases c5 : x9_1 < (l0.length : Int)
          · rw [if_pos c5] at H
            have c5b0 : decide (x9_1 < (l0.length : Int)) = true := decide_eq_true c5
            clear c5
            by_cases c6 : ((rdOf ByteArray.empty l0 x9_1).size : Int) ≥ (a1.size : Int)
            · rw [if_pos c6] at H
              have c6b0 : decide ((a1.size : Int) ≤ ((rdOf ByteArray.empty l0 x9_1).size : Int)) = true := decide_eq_true c6
              have c6b1 : decide (a1.size ≤ (rdOf ByteArray.empty l0 x9_1).size) = true := decide_eq_true (Int.ofNat_le.mp c6)
              clear c6
              by_cases c7 : 0 ≤ (a1.size : Int)
              · rw [if_pos c7] at H
                have c7b0 := eq_true c7
                have c7b1 : decide (0 ≤ (a1.size : Int)) = true := decide_eq_true c7
                clear c7
                by_cases c8 : (a1.size : Int) ≤ ((rdOf ByteArray.empty l0 x9_1).size : Int)
                · rw [if_pos c8] at H
                  have c8b0 := eq_true c8
                  have c8b1 : decide ((a1.size : Int) ≤ ((rdOf ByteArray.empty l0 x9_1).size : Int)) = true := decide_eq_true c8
                  clear c8
                  by_cases c9 : ((rdOf ByteArray.empty l0 x9_1).extract 0 ((a1.size : Int) : Int).toNat).toList = a1.toList
                  · rw [if_pos c9] at H
                    have c9b0 : (((rdOf ByteArray.empty l0 x9_1).extract 0 ((a1.size : Int) : Int).toNat).toList == a1.toList) = true := beq_iff_eq.mpr c9
                    have c9b1 : (((rdOf ByteArray.empty l0 x9_1).extract 0 ((a1.size : Int) : Int).toNat).toList != a1.toList) = false := bne_eq_false_iff_eq.mpr c9
                    have c9b2 := c9b0; rw [Int.toNat_natCast] at c9b2
                    have c9b3 := c9b1; rw [Int.toNat_natCast] at c9b3
                    clear c9
                    have c10b0 := eq_true (of_decide_eq_true (by first | (with_reducible assumption) | assumption) : 0 ≤ (a1.size : Int))
                    have c11b0 := eq_true (of_decide_eq_true (by first | (with_reducible assumption) | assumption) : (a1.size : Int) ≤ ((rdOf ByteArray.empty l0 x9_1).size : Int))
                    by_cases c12 : ((rdOf ByteArray.empty l0 x9_1).extract ((a1.size : Int) : Int).toNat (rdOf ByteArray.empty l0 x9_1).size).size + 1 ≤ 9223372036854775807
                    · rw [if_pos c12] at H
                      have c12b0 := eq_true c12
                      have c12b1 : decide (((rdOf ByteArray.empty l0 x9_1).extract ((a1.size : Int) : Int).toNat (rdOf ByteArray.empty l0 x9_1).size).size + 1 ≤ 9223372036854775807) = true := decide_eq_true c12
                      try have c12b2 : (9223372036854775807 < ((rdOf ByteArray.empty l0 x9_1).extract ((a1.size : Int) : Int).toNat (rdOf ByteArray.empty l0 x9_1).size).size + 1) = False := eq_false (Nat.not_lt.2 c12)
                      have c12b3 : (9223372036854775807 < (rdOf ByteArray.empty l0 x9_1).size - a1.size + 1) = False := eq_false (by have h_ := c12; rw [ByteArray.size_extract, Int.toNat_natCast, Nat.min_self] at h_; omega)
                      by_cases c13 : x5_1.length < 8796093022208
                      · rw [if_pos c13] at H
                        have LMc13 := Aside0.mk c13
                        clear c13
                        obtain ⟨y113, hy113⟩ : ∃ y_ : List ByteArray, y_ = (x5_1 ++ [((rdOf ByteArray.empty l0 x9_1).extract ((a1.size : Int) : Int).toNat (rdOf ByteArray.empty l0 x9_1).size) ++ (⟨#[32]⟩ : ByteArray)]) := ⟨_, rfl⟩
                        replace H : (spec_Offers.l0 k1 l0 a1 y113 (l0.length : Int) (wrap64 (x9_1 + 1))) = some r := by first | (rw [hy113]; with_reducible exact H) | (have H2_ := (Option.bind_some _ _).symm.trans H; rw [hy113]; with_reducible exact H2_) | (have H2_ := (Option.bind_some _ _).symm.trans H; with_reducible exact H2_) | with_reducible exact H | (rw [hy113]; exact H) | exact H
                        have Ny113 := Aside0.mk hy113
                        clear hy113
                        have H' := Aside0.mk H
                        clear H
                        have p110 : 0 ≤ (x9_1 : Int) := of_decide_eq_true (by first | (with_reducible assumption) | assumption)
                        have q110 : x9_1 < (l0.length : Int) := of_decide_eq_true (by first | (with_reducible assumption) | assumption)
                        obtain ⟨ad110, e110, hx110_0⟩ := Kd.at_string HR0.out x9_1 p110 q110
                        cases e110
                        replace hx110_0 := (HB.out.cell (World.block_lt_of_cell? w _ hx110_0)).trans hx110_0
                        replace p110 := eq_true p110
                        replace q110 := eq_true q110
                        have p111 : 0 ≤ (x9_1 : Int) := of_decide_eq_true (by first | (with_reducible assumption) | assumption)
                        have q111 : x9_1 < (l0.length : Int) := of_decide_eq_true (by first | (with_reducible assumption) | assumption)
                        obtain ⟨ad111, e111, hx111_0⟩ := Kd.at_string HR0.out x9_1 p111 q111
                        obtain rfl : ad110 = ad111 := (by injection e111)
                        replace hx111_0 := (HB.out.cell (World.block_lt_of_cell? w _ hx111_0)).trans hx111_0
                        replace p111 := eq_true p111
                        replace q111 := eq_true q111
                        have p112 : 0 ≤ (x9_1 : Int) := of_decide_eq_true (by first | (with_reducible assumption) | assumption)
                        have q112 : x9_1 < (l0.length : Int) := of_decide_eq_true (by first | (with_reducible assumption) | assumption)
                        obtain ⟨ad112, e112, hx112_0⟩ := Kd.at_string HR0.out x9_1 p112 q112
                        obtain rfl : ad110 = ad112 := (by injection e112)
                        replace hx112_0 := (HB.out.cell (World.block_lt_of_cell? w _ hx112_0)).trans hx112_0
                        replace p112 := eq_true p112
                        replace q112 := eq_true q112
                        go_wp2_with (first | ((with_reducible refine gate_builtin (b := .append) (xs := #[.tmp 31, .tmp 40]) rfl ?_); (try (refine gate_guard (by rfl) ?_; dsimp only)); at_builtin; refine Kd.R_append Kd.string (w0 := w) w.heap.size rfl (.tmp 31) (.tmp 40) 22 9 (.string ⟨#[]⟩) 16 rfl Tryd.underlying22 info9 rfl (by decide) (by omega) u5 x5_1 (((rdOf ByteArray.empty l0 x9_1).extract ((a1.size : Int) : Int).toNat (rdOf ByteArray.empty l0 x9_1).size) ++ (⟨#[32]⟩ : ByteArray)) [.string (((rdOf ByteArray.empty l0 x9_1).extract ((a1.size : Int) : Int).toNat (rdOf ByteArray.empty l0 x9_1).size) ++ (⟨#[32]⟩ : ByteArray))] (fun _ => True) (fun _ => False) rfl rfl ?aP (fun _ hk => hk.elim) ?aF ?aO ?aB ?aS ?aL ?_; (case aP => exact rfl); (case aB => exact (by repeat (first | (with_reducible first | exact HB.out | apply below_alloc | apply pw_below_drewN | apply below_drew1) | exact HB.out))); (case aF => exact (fun _ _ => trivial)); (case aO => exact (by (with_reducible repeat (first | apply Kd.R_alloc | apply Kd.R_drewN | apply Kd.R_drew)); exact HO_5.out)); (case aS => exact (below_size (by repeat (first | (with_reducible first | exact HB.out | apply below_alloc | apply pw_below_drewN | apply below_drew1) | exact HB.out)))); (case aL => have := LMc13.out; omega); intro v114 w14 ho hb hg hat; rw [← Ny113.out] at ho; have n0_ := Aside0.mk (hb); have n1_ := Aside0.mk (ho); clear HB; clear HO_5; have HB := n0_; have HO115 := n1_; clear n0_ n1_; clear ho hb hg hat))
                        go_roundg k1
                        case measure => have := HK1.out; omega
                        case rel => exact ⟨(y113), (wrap64 (x9_1 + 1)), (by first | rfl | (simp; done) | (simp [*]; done)), H', ⟨by have := HK1.out; omega⟩, ⟨by (with_reducible repeat (first | apply Kd.R_alloc | apply Kd.R_drewN | apply Kd.R_drew)); exact HO115.out⟩, ⟨by repeat (first | (with_reducible first | exact HB.out | apply below_alloc | apply pw_below_drewN | apply below_drew1) | exact HB.out)⟩⟩
                      · rw [if_neg c13] at H
                        exact absurd H (by simp)
                    · rw [if_neg c12] at H
                      exact absurd H (by simp)
                  · rw [if_neg c9] at H
                    have c9b0 : (((rdOf ByteArray.empty l0 x9_1).extract 0 ((a1.size : Int) : Int).toNat).toList == a1.toList) = false := beq_eq_false_iff_ne.mpr c9
                    have c9b1 : (((rdOf ByteArray.empty l0 x9_1).extract 0 ((a1.size : Int) : Int).toNat).toList != a1.toList) = true := bne_iff_ne.mpr c9
                    have c9b2 := c9b0; rw [Int.toNat_natCast] at c9b2
                    have c9b3 := c9b1; rw [Int.toNat_natCast] at c9b3
                    have H' := Aside0.mk H
                    clear H
                    have p110 : 0 ≤ (x9_1 : Int) := of_decide_eq_true (by first | (with_reducible assumption) | assumption)
                    have q110 : x9_1 < (l0.length : Int) := of_decide_eq_true (by first | (with_reducible assumption) | assumption)
                    obtain ⟨ad110, e110, hx110_0⟩ := Kd.at_string HR0.out x9_1 p110 q110
                    cases e110
                    replace hx110_0 := (HB.out.cell (World.block_lt_of_cell? w _ hx110_0)).trans hx110_0
                    replace p110 := eq_true p110
                    replace q110 := eq_true q110
                    have p111 : 0 ≤ (x9_1 : Int) := of_decide_eq_true (by first | (with_reducible assumption) | assumption)
                    have q111 : x9_1 < (l0.length : Int) := of_decide_eq_true (by first | (with_reducible assumption) | assumption)
                    obtain ⟨ad111, e111, hx111_0⟩ := Kd.at_string HR0.out x9_1 p111 q111
                    obtain rfl : ad110 = ad111 := (by injection e111)
                    replace hx111_0 := (HB.out.cell (World.block_lt_of_cell? w _ hx111_0)).trans hx111_0
                    replace p111 := eq_true p111
                    replace q111 := eq_true q111
                    go_wp2
                    go_roundg k1
                    case measure => have := HK1.out; omega
                    case rel => exact ⟨(x5_1), (wrap64 (x9_1 + 1)), (by first | rfl | (simp; done) | (simp [*]; done)), H', ⟨by have := HK1.out; omega⟩, ⟨by (with_reducible repeat (first | apply Kd.R_alloc | apply Kd.R_drewN | apply Kd.R_drew)); exact HO_5.out⟩, ⟨by repeat (first | (with_reducible first | exact HB.out | apply below_alloc | apply pw_below_drewN | apply below_drew1) | exact HB.out)⟩⟩
                · rw [if_neg c8] at H
                  exact absurd H (by simp)
              · rw [if_neg c7] at H
                exact absurd H (by simp)
            · rw [if_neg c6] at H
              have c6b0 : decide ((a1.size : Int) ≤ ((rdOf ByteArray.empty l0 x9_1).size : Int)) = false := decide_eq_false c6
              have c6b1 : decide (a1.size ≤ (rdOf ByteArray.empty l0 x9_1).size) = false := decide_eq_false (fun h => c6 (Int.ofNat_le.mpr h))
              clear c6
              have H' := Aside0.mk H
              clear H
              have p110 : 0 ≤ (x9_1 : Int) := of_decide_eq_true (by first | (with_reducible assumption) | assumption)
              have q110 : x9_1 < (l0.length : Int) := of_decide_eq_true (by first | (with_reducible assumption) | assumption)
              obtain ⟨ad110, e110, hx110_0⟩ := Kd.at_string HR0.out x9_1 p110 q110
              cases e110
              replace hx110_0 := (HB.out.cell (World.block_lt_of_cell? w _ hx110_0)).trans hx110_0
              replace p110 := eq_true p110
              replace q110 := eq_true q110
              go_wp2
              go_roundg k1
              case measure => have := HK1.out; omega
              case rel => exact ⟨(x5_1), (wrap64 (x9_1 + 1)), (by first | rfl | (simp; done) | (simp [*]; done)), H', ⟨by have := HK1.out; omega⟩, ⟨by (with_reducible repeat (first | apply Kd.R_alloc | apply Kd.R_drewN | apply Kd.R_drew)); exact HO_5.out⟩, ⟨by repeat (first | (with_reducible first | exact HB.out | apply below_alloc | apply pw_below_drewN | apply below_drew1) | exact HB.out)⟩⟩
          · rw [if_neg c5] at H
            exact absurd H (by simp)
        · rw [if_neg c4] at H
          exact absurd H (by simp)
      · rw [if_neg c3] at H
        have c3b0 : decide (x9_1 < (l0.length : Int)) = false := decide_eq_false c3
        clear c3
        obtain rfl := Option.some.inj H
        go_wp2
        go_ret
        exact ⟨_, by first | rfl | (simp [errW_none, errW_some] <;> rfl) | (simp [*, errW_none, errW_some] <;> rfl), by (with_reducible repeat (first | apply Kd.R_alloc | apply Kd.R_drewN | apply Kd.R_drew)); exact HO_5.out, by repeat (first | (with_reducible first | exact HB.out | apply below_alloc | apply pw_below_drewN | apply below_drew1) | exact HB.out)⟩
/-! ### laws_FnCompletedBy: function 7 -/
mutual
def laws_FnCompletedBy.j0 : Nat → List ByteArray → List ByteArray → Int → ByteArray → Bool → Option (Bool)
  | 0, _, _, _, _, _ => none
  | k + 1, x0, x1, x2, x3, x26 => if x26 = true then (some true) else ((laws_names9.f k x0).bind fun t118 => (if t118 = true then ((laws_names9.f k x1).bind fun t119 => (if t119 = true then (if (x0.length : Int) = 0 then (laws_FnCompletedBy.j1 k x0 x1 x2 x3 true) else (if x3.toList = ([] : List UInt8) then (laws_FnCompletedBy.j1 k x0 x1 x2 x3 true) else (if (x3.size : Int) > 12 then (laws_FnCompletedBy.j1 k x0 x1 x2 x3 true) else ((spec_Small.f k x3).bind fun t120 => (laws_FnCompletedBy.j1 k x0 x1 x2 x3 (!t120)))))) else (laws_FnCompletedBy.j1 k x0 x1 x2 x3 true))) else (laws_FnCompletedBy.j1 k x0 x1 x2 x3 true)))
def laws_FnCompletedBy.j1 : Nat → List ByteArray → List ByteArray → Int → ByteArray → Bool → Option (Bool)
  | 0, _, _, _, _, _ => none
  | k + 1, x0, x1, x2, x3, x53 => if x53 = true then (some true) else ((impl_CompletedBy.f x0 x1 x3 (x3.size : Int)).bind fun bt121 => ((spec_Offers.f k x0 x3).bind fun t126 => (if bt121.2.2 = true then ((spec_SameTexts9.f k bt121.1 t126).bind fun t129 => (if t129 = true then (if (t126.length : Int) > 0 then (laws_FnCompletedBy.j2 k x0 x1 x2 x3 (bt121.2.1 != (x3.size : Int))) else (laws_FnCompletedBy.j2 k x0 x1 x2 x3 false)) else (laws_FnCompletedBy.j2 k x0 x1 x2 x3 true))) else (laws_FnCompletedBy.j2 k x0 x1 x2 x3 true))))
def laws_FnCompletedBy.j2 : Nat → List ByteArray → List ByteArray → Int → ByteArray → Bool → Option (Bool)
  | 0, _, _, _, _, _ => none
  | k + 1, x0, x1, x2, x3, x85 => if x85 = true then (some false) else (if (x0.length : Int) = 0 then (none) else (if 0 ≤ (Int.tmod (wrap64 (x2)) (x0.length : Int)) then (if (Int.tmod (wrap64 (x2)) (x0.length : Int)) < (x0.length : Int) then (if (rdOf ByteArray.empty x0 (Int.tmod (wrap64 (x2)) (x0.length : Int))).size + 1 ≤ 9223372036854775807 then (if ((rdOf ByteArray.empty x0 (Int.tmod (wrap64 (x2)) (x0.length : Int))) ++ (⟨#[32]⟩ : ByteArray)).size + x3.size ≤ 9223372036854775807 then ((impl_CompletedBy.f x0 x1 (((rdOf ByteArray.empty x0 (Int.tmod (wrap64 (x2)) (x0.length : Int))) ++ (⟨#[32]⟩ : ByteArray)) ++ x3) ((((rdOf ByteArray.empty x0 (Int.tmod (wrap64 (x2)) (x0.length : Int))) ++ (⟨#[32]⟩ : ByteArray)) ++ x3).size : Int)).bind fun bt131 => ((spec_Offers.f k x1 x3).bind fun t136 => (if bt131.2.2 = true then ((spec_SameTexts9.f k bt131.1 t136).bind fun t139 => (if t139 = true then (if (t136.length : Int) = 0 then (some true) else (some (bt131.2.1 == (x3.size : Int)))) else (some false))) else (some false)))) else (none)) else (none)) else (none)) else (none)))
end
def laws_FnCompletedBy.f (k : Nat) (l0 : List ByteArray) (l1 : List ByteArray) (a2 : Int) (a3 : ByteArray) : Option (Bool) := (laws_zzFits1.f k l0).bind fun t116 => (if t116 = true then ((laws_zzFits1.f k l1).bind fun t117 => (if t117 = true then (laws_FnCompletedBy.j0 k l0 l1 a2 a3 (decide ((a3.size : Int) > 2147483647))) else (laws_FnCompletedBy.j0 k l0 l1 a2 a3 true))) else (laws_FnCompletedBy.j0 k l0 l1 a2 a3 true))
theorem laws_FnCompletedBy.mono_l : ∀ k, (∀ y0 y1 y2 y3 y4, LeO (laws_FnCompletedBy.j0 k y0 y1 y2 y3 y4) (laws_FnCompletedBy.j0 (k + 1) y0 y1 y2 y3 y4)) ∧ (∀ y0 y1 y2 y3 y4, LeO (laws_FnCompletedBy.j1 k y0 y1 y2 y3 y4) (laws_FnCompletedBy.j1 (k + 1) y0 y1 y2 y3 y4)) ∧ (∀ y0 y1 y2 y3 y4, LeO (laws_FnCompletedBy.j2 k y0 y1 y2 y3 y4) (laws_FnCompletedBy.j2 (k + 1) y0 y1 y2 y3 y4))
  | 0 => ⟨fun _ _ _ _ _ r h => by simp [laws_FnCompletedBy.j0] at h, fun _ _ _ _ _ r h => by simp [laws_FnCompletedBy.j1] at h, fun _ _ _ _ _ r h => by simp [laws_FnCompletedBy.j2] at h⟩
  | k + 1 => by
    obtain ⟨ih0, ih1, ih2⟩ := laws_FnCompletedBy.mono_l k
    refine ⟨?_, ?_, ?_⟩
    · intro y0 y1 y2 y3 y4
      unfold laws_FnCompletedBy.j0
      repeat' first
      | (with_reducible exact ih0 _ _ _ _ _)
      | (with_reducible exact ih1 _ _ _ _ _)
      | (with_reducible exact ih2 _ _ _ _ _)
      | (with_reducible exact laws_names9.mono _ _)
      | (with_reducible exact laws_zzFits1.mono _ _)
      | (with_reducible exact spec_Offers.mono _ _ _)
      | (with_reducible exact spec_SameTexts9.mono _ _ _)
      | (with_reducible exact spec_Small.mono _ _)
      | (with_reducible exact LeO.refl _)
      | (with_reducible exact LeO.none _)
      | (with_reducible refine LeO.ite ?_ ?_)
      | (with_reducible refine LeO.bind ?_ (fun _ => ?_))
      | exact ih0 _ _ _ _ _
      | exact ih1 _ _ _ _ _
      | exact ih2 _ _ _ _ _
      | exact laws_names9.mono _ _
      | exact laws_zzFits1.mono _ _
      | exact spec_Offers.mono _ _ _
      | exact spec_SameTexts9.mono _ _ _
      | exact spec_Small.mono _ _
      | exact LeO.none _
      | refine LeO.ite ?_ ?_
      | refine LeO.bind ?_ (fun _ => ?_)
    · intro y0 y1 y2 y3 y4
      unfold laws_FnCompletedBy.j1
      repeat' first
      | (with_reducible exact ih0 _ _ _ _ _)
      | (with_reducible exact ih1 _ _ _ _ _)
      | (with_reducible exact ih2 _ _ _ _ _)
      | (with_reducible exact laws_names9.mono _ _)
      | (with_reducible exact laws_zzFits1.mono _ _)
      | (with_reducible exact spec_Offers.mono _ _ _)
      | (with_reducible exact spec_SameTexts9.mono _ _ _)
      | (with_reducible exact spec_Small.mono _ _)
      | (with_reducible exact LeO.refl _)
      | (with_reducible exact LeO.none _)
      | (with_reducible refine LeO.ite ?_ ?_)
      | (with_reducible refine LeO.bind ?_ (fun _ => ?_))
      | exact ih0 _ _ _ _ _
      | exact ih1 _ _ _ _ _
      | exact ih2 _ _ _ _ _
      | exact laws_names9.mono _ _
      | exact laws_zzFits1.mono _ _
      | exact spec_Offers.mono _ _ _
      | exact spec_SameTexts9.mono _ _ _
      | exact spec_Small.mono _ _
      | exact LeO.none _
      | refine LeO.ite ?_ ?_
      | refine LeO.bind ?_ (fun _ => ?_)
    · intro y0 y1 y2 y3 y4
      unfold laws_FnCompletedBy.j2
      repeat' first
      | (with_reducible exact ih0 _ _ _ _ _)
      | (with_reducible exact ih1 _ _ _ _ _)
      | (with_reducible exact ih2 _ _ _ _ _)
      | (with_reducible exact laws_names9.mono _ _)
      | (with_reducible exact laws_zzFits1.mono _ _)
      | (with_reducible exact spec_Offers.mono _ _ _)
      | (with_reducible exact spec_SameTexts9.mono _ _ _)
      | (with_reducible exact spec_Small.mono _ _)
      | (with_reducible exact LeO.refl _)
      | (with_reducible exact LeO.none _)
      | (with_reducible refine LeO.ite ?_ ?_)
      | (with_reducible refine LeO.bind ?_ (fun _ => ?_))
      | exact ih0 _ _ _ _ _
      | exact ih1 _ _ _ _ _
      | exact ih2 _ _ _ _ _
      | exact laws_names9.mono _ _
      | exact laws_zzFits1.mono _ _
      | exact spec_Offers.mono _ _ _
      | exact spec_SameTexts9.mono _ _ _
      | exact spec_Small.mono _ _
      | exact LeO.none _
      | refine LeO.ite ?_ ?_
      | refine LeO.bind ?_ (fun _ => ?_)
theorem laws_FnCompletedBy.mono : ∀ a0 a1 a2 a3 k, LeO (laws_FnCompletedBy.f k a0 a1 a2 a3) (laws_FnCompletedBy.f (k + 1) a0 a1 a2 a3) := by
  intro a0 a1 a2 a3 k
  obtain ⟨ih0, ih1, ih2⟩ := laws_FnCompletedBy.mono_l k
  unfold laws_FnCompletedBy.f
  repeat' first
      | (with_reducible exact ih0 _ _ _ _ _)
      | (with_reducible exact ih1 _ _ _ _ _)
      | (with_reducible exact ih2 _ _ _ _ _)
      | (with_reducible exact laws_names9.mono _ _)
      | (with_reducible exact laws_zzFits1.mono _ _)
      | (with_reducible exact spec_Offers.mono _ _ _)
      | (with_reducible exact spec_SameTexts9.mono _ _ _)
      | (with_reducible exact spec_Small.mono _ _)
      | (with_reducible exact LeO.refl _)
      | (with_reducible exact LeO.none _)
      | (with_reducible refine LeO.ite ?_ ?_)
      | (with_reducible refine LeO.bind ?_ (fun _ => ?_))
      | exact ih0 _ _ _ _ _
      | exact ih1 _ _ _ _ _
      | exact ih2 _ _ _ _ _
      | exact laws_names9.mono _ _
      | exact laws_zzFits1.mono _ _
      | exact spec_Offers.mono _ _ _
      | exact spec_SameTexts9.mono _ _ _
      | exact spec_Small.mono _ _
      | exact LeO.none _
      | refine LeO.ite ?_ ?_
      | refine LeO.bind ?_ (fun _ => ?_)
set_option maxHeartbeats 8000000 in
set_option maxRecDepth 100000 in
theorem laws_FnCompletedBy.calls (k : Nat) (A0 : Option Addr) (c0 : Nat) (l0 : List ByteArray) (A1 : Option Addr) (c1 : Nat) (l1 : List ByteArray) (a2 : Int) (a3 : ByteArray) (r : Bool) (w : World) (hr0 : Kd.C Kd.string w A0 l0.length l0) (hc0 : l0.length ≤ c0) (hr1 : Kd.C Kd.string w A1 l1.length l1) (hc1 : l1.length ≤ c1) (h : laws_FnCompletedBy.f k l0 l1 a2 a3 = some r) :
    Calls Tryd.prog 7 #[.slice A0 l0.length c0, .slice A1 l1.length c1, .int .u8 a2, .string a3] w fun e w' => e = .returned (.bool r) ∧ Below w.heap.size w w' := by
  have HR0 := Aside0.mk hr0
  have HC0 := Aside0.mk hc0
  clear hr0 hc0
  have HR1 := Aside0.mk hr1
  have HC1 := Aside0.mk hc1
  clear hr1 hc1
  have HB := Aside0.mk (Below.refl w.heap.size w)
  have H : ((laws_zzFits1.f k l0).bind fun t116 => (if t116 = true then ((laws_zzFits1.f k l1).bind fun t117 => (if t117 = true then (laws_FnCompletedBy.j0 k l0 l1 a2 a3 (decide ((a3.size : Int) > 2147483647))) else (laws_FnCompletedBy.j0 k l0 l1 a2 a3 true))) else (laws_FnCompletedBy.j0 k l0 l1 a2 a3 true))) = some r := h
  clear h
  have HC5 := Aside0.mk H
  clear H
  go_enter Tryd.func7, Tryd.ntmps7
  go_upto_region 1 with (fail)
  go_cut [26] (fun v26 wc => ∃ (kq : Nat) (x26_4 : Bool), v26 = .bool x26_4 ∧ Aside0 (laws_FnCompletedBy.j0 kq l0 l1 a2 a3 x26_4 = some r) ∧ Aside0 (kq ≤ k) ∧ Aside0 (Below w.heap.size w wc))
  case first =>
    have H := HC5.out
    clear HC5
    replace H := Option.bind_eq_some_iff.mp H
    obtain ⟨t116, A60, H⟩ := H
    replace H : (if t116 = true then ((laws_zzFits1.f k l1).bind fun t117 => (if t117 = true then (laws_FnCompletedBy.j0 k l0 l1 a2 a3 (decide ((a3.size : Int) > 2147483647))) else (laws_FnCompletedBy.j0 k l0 l1 a2 a3 true))) else (laws_FnCompletedBy.j0 k l0 l1 a2 a3 true)) = some r := H
    have A6 := Aside0.mk A60
    clear A60
    by_cases c7 : t116 = true
    · subst c7
      have H1 : ((laws_zzFits1.f k l1).bind fun t117 => (if t117 = true then (laws_FnCompletedBy.j0 k l0 l1 a2 a3 (decide ((a3.size : Int) > 2147483647))) else (laws_FnCompletedBy.j0 k l0 l1 a2 a3 true))) = some r := by rw [if_pos rfl] at H; exact H
      clear H
      have H := H1
      clear H1
      replace H := Option.bind_eq_some_iff.mp H
      obtain ⟨t117, A80, H⟩ := H
      replace H : (if t117 = true then (laws_FnCompletedBy.j0 k l0 l1 a2 a3 (decide ((a3.size : Int) > 2147483647))) else (laws_FnCompletedBy.j0 k l0 l1 a2 a3 true)) = some r := H
      have A8 := Aside0.mk A80
      clear A80
      by_cases c9 : t117 = true
      · subst c9
        have H1 : (laws_FnCompletedBy.j0 k l0 l1 a2 a3 (decide ((a3.size : Int) > 2147483647))) = some r := by rw [if_pos rfl] at H; exact H
        clear H
        have H := H1
        clear H1
        have H' := Aside0.mk H
        clear H
        go_wp2_with (first | ((with_reducible refine gate_callee (f := 11) rfl ?_); refine goesL_ (some 15) rfl rfl Tryd.func11 (by kernel_rfl) rfl #[.slice A0 l0.length c0] rfl (by (try simp only [List.map_toArray, List.map_cons, List.map_nil]); first | done | rfl | (simp only [List.length_drop, List.length_take]; rfl) | (simp only [Int.toNat_natCast, ByteArray.extract_zero_size]; rfl)) ?_; (with_reducible refine (laws_zzFits1.calls k _ _ l0 true _ ?side1 ?side2 A6.out).mono ?_); (case side1 => repeat (first | exact (Kd.C_below HR0.out HB.out) | (with_reducible refine Kd.C_alloc ?_ _) | (with_reducible refine Kd.C_drewN ?_ _) | (with_reducible refine Kd.C_drew ?_))); (case side2 => exact HC0.out); rintro e w' ⟨rfl, ⟨nd, rfl⟩⟩; refine ⟨_, rfl, ?_⟩) | (go_at_call 11; (with_reducible refine (laws_zzFits1.calls k _ _ l1 true _ ?side1 ?side2 A8.out).mono ?_); (case side1 => repeat (first | exact (Kd.C_below HR1.out (by repeat (first | (with_reducible first | exact HB.out | apply below_alloc | apply pw_below_drewN | apply below_drew1) | exact HB.out))) | (with_reducible refine Kd.C_alloc ?_ _) | (with_reducible refine Kd.C_drewN ?_ _) | (with_reducible refine Kd.C_drew ?_))); (case side2 => exact HC1.out); rintro e w' ⟨rfl, ⟨nd, rfl⟩⟩))
        go_meet
        case rel => exact ⟨_, (decide ((a3.size : Int) > 2147483647)), (by first | rfl | (simp; done) | (simp [*]; done)), H', ⟨by first | omega | exact Nat.le_refl _⟩, ⟨by repeat (first | (with_reducible first | exact HB.out | apply below_alloc | apply pw_below_drewN | apply below_drew1) | exact HB.out)⟩⟩
      · replace c9 := Bool.eq_false_iff.mpr c9
        subst c9
        have H1 : (laws_FnCompletedBy.j0 k l0 l1 a2 a3 true) = some r := by rw [if_neg (show ¬ (false = true) by decide)] at H; exact H
        clear H
        have H := H1
        clear H1
        have H' := Aside0.mk H
        clear H
        go_wp2_with (first | ((with_reducible refine gate_callee (f := 11) rfl ?_); refine goesL_ (some 15) rfl rfl Tryd.func11 (by kernel_rfl) rfl #[.slice A0 l0.length c0] rfl (by (try simp only [List.map_toArray, List.map_cons, List.map_nil]); first | done | rfl | (simp only [List.length_drop, List.length_take]; rfl) | (simp only [Int.toNat_natCast, ByteArray.extract_zero_size]; rfl)) ?_; (with_reducible refine (laws_zzFits1.calls k _ _ l0 true _ ?side1 ?side2 A6.out).mono ?_); (case side1 => repeat (first | exact (Kd.C_below HR0.out HB.out) | (with_reducible refine Kd.C_alloc ?_ _) | (with_reducible refine Kd.C_drewN ?_ _) | (with_reducible refine Kd.C_drew ?_))); (case side2 => exact HC0.out); rintro e w' ⟨rfl, ⟨nd, rfl⟩⟩; refine ⟨_, rfl, ?_⟩) | (go_at_call 11; (with_reducible refine (laws_zzFits1.calls k _ _ l1 false _ ?side1 ?side2 A8.out).mono ?_); (case side1 => repeat (first | exact (Kd.C_below HR1.out (by repeat (first | (with_reducible first | exact HB.out | apply below_alloc | apply pw_below_drewN | apply below_drew1) | exact HB.out))) | (with_reducible refine Kd.C_alloc ?_ _) | (with_reducible refine Kd.C_drewN ?_ _) | (with_reducible refine Kd.C_drew ?_))); (case side2 => exact HC1.out); rintro e w' ⟨rfl, ⟨nd, rfl⟩⟩))
        go_meet
        case rel => exact ⟨_, (true), (by first | rfl | (simp; done) | (simp [*]; done)), H', ⟨by first | omega | exact Nat.le_refl _⟩, ⟨by repeat (first | (with_reducible first | exact HB.out | apply below_alloc | apply pw_below_drewN | apply below_drew1) | exact HB.out)⟩⟩
    · replace c7 := Bool.eq_false_iff.mpr c7
      subst c7
      have H1 : (laws_FnCompletedBy.j0 k l0 l1 a2 a3 true) = some r := by rw [if_neg (show ¬ (false = true) by decide)] at H; exact H
      clear H
      have H := H1
      clear H1
      have H' := Aside0.mk H
      clear H
      go_wp2_with (first | ((with_reducible refine gate_callee (f := 11) rfl ?_); refine goesL_ (some 15) rfl rfl Tryd.func11 (by kernel_rfl) rfl #[.slice A0 l0.length c0] rfl (by (try simp only [List.map_toArray, List.map_cons, List.map_nil]); first | done | rfl | (simp only [List.length_drop, List.length_take]; rfl) | (simp only [Int.toNat_natCast, ByteArray.extract_zero_size]; rfl)) ?_; (with_reducible refine (laws_zzFits1.calls k _ _ l0 false _ ?side1 ?side2 A6.out).mono ?_); (case side1 => repeat (first | exact (Kd.C_below HR0.out HB.out) | (with_reducible refine Kd.C_alloc ?_ _) | (with_reducible refine Kd.C_drewN ?_ _) | (with_reducible refine Kd.C_drew ?_))); (case side2 => exact HC0.out); rintro e w' ⟨rfl, ⟨nd, rfl⟩⟩; refine ⟨_, rfl, ?_⟩))
      go_meet
      case rel => exact ⟨_, (true), (by first | rfl | (simp; done) | (simp [*]; done)), H', ⟨by first | omega | exact Nat.le_refl _⟩, ⟨by repeat (first | (with_reducible first | exact HB.out | apply below_alloc | apply pw_below_drewN | apply below_drew1) | exact HB.out)⟩⟩
  case rest =>
    clear HC5
    try clear c1
    try clear p2
    try clear c7
    try clear c9
    obtain ⟨kq, x26_4, rfl, HA, HJ4, HB⟩ := hcut
    cases kq with
    | zero => exact absurd HA.out (by simp [laws_FnCompletedBy.j0])
    | succ kj4 =>
      have H := HA.out
      clear HA
      simp only [laws_FnCompletedBy.j0] at H
      by_cases c10 : x26_4 = true
      · subst c10
        have H1 : (some true) = some r := by rw [if_pos rfl] at H; exact H
        clear H
        have H := H1
        clear H1
        obtain rfl := Option.some.inj H
        go_wp2
        go_ret
        exact ⟨by first | rfl | (simp [errW_none, errW_some] <;> rfl) | (simp [*, errW_none, errW_some] <;> rfl), by repeat (first | (with_reducible first | exact HB.out | apply below_alloc | apply pw_below_drewN | apply below_drew1) | exact HB.out)⟩
      · replace c10 := Bool.eq_false_iff.mpr c10
        subst c10
        have H1 : ((laws_names9.f kj4 l0).bind fun t118 => (if t118 = true then ((laws_names9.f kj4 l1).bind fun t119 => (if t119 = true then (if (l0.length : Int) = 0 then (laws_FnCompletedBy.j1 kj4 l0 l1 a2 a3 true) else (if a3.toList = ([] : List UInt8) then (laws_FnCompletedBy.j1 kj4 l0 l1 a2 a3 true) else (if (a3.size : Int) > 12 then (laws_FnCompletedBy.j1 kj4 l0 l1 a2 a3 true) else ((spec_Small.f kj4 a3).bind fun t120 => (laws_FnCompletedBy.j1 kj4 l0 l1 a2 a3 (!t120)))))) else (laws_FnCompletedBy.j1 kj4 l0 l1 a2 a3 true))) else (laws_FnCompletedBy.j1 kj4 l0 l1 a2 a3 true))) = some r := by rw [if_neg (show ¬ (false = true) by decide)] at H; exact H
        clear H
        have H := H1
        clear H1
        have HC11 := Aside0.mk H
        clear H
        go_upto_region 3 with (fail)
        go_cut [53] (fun v53 wc => ∃ (kq : Nat) (x53_10 : Bool), v53 = .bool x53_10 ∧ Aside0 (laws_FnCompletedBy.j1 kq l0 l1 a2 a3 x53_10 = some r) ∧ Aside0 (kq ≤ kj4) ∧ Aside0 (Below w.heap.size w wc))
        case first =>
          have H := HC11.out
          clear HC11
          replace H := Option.bind_eq_some_iff.mp H
          obtain ⟨t118, A120, H⟩ := H
          replace H : (if t118 = true then ((laws_names9.f kj4 l1).bind fun t119 => (if t119 = true then (if (l0.length : Int) = 0 then (laws_FnCompletedBy.j1 kj4 l0 l1 a2 a3 true) else (if a3.toList = ([] : List UInt8) then (laws_FnCompletedBy.j1 kj4 l0 l1 a2 a3 true) else (if (a3.size : Int) > 12 then (laws_FnCompletedBy.j1 kj4 l0 l1 a2 a3 true) else ((spec_Small.f kj4 a3).bind fun t120 => (laws_FnCompletedBy.j1 kj4 l0 l1 a2 a3 (!t120)))))) else (laws_FnCompletedBy.j1 kj4 l0 l1 a2 a3 true))) else (laws_FnCompletedBy.j1 kj4 l0 l1 a2 a3 true)) = some r := H
          have A12 := Aside0.mk A120
          clear A120
          by_cases c13 : t118 = true
          · subst c13
            have H1 : ((laws_names9.f kj4 l1).bind fun t119 => (if t119 = true then (if (l0.length : Int) = 0 then (laws_FnCompletedBy.j1 kj4 l0 l1 a2 a3 true) else (if a3.toList = ([] : List UInt8) then (laws_FnCompletedBy.j1 kj4 l0 l1 a2 a3 true) else (if (a3.size : Int) > 12 then (laws_FnCompletedBy.j1 kj4 l0 l1 a2 a3 true) else ((spec_Small.f kj4 a3).bind fun t120 => (laws_FnCompletedBy.j1 kj4 l0 l1 a2 a3 (!t120)))))) else (laws_FnCompletedBy.j1 kj4 l0 l1 a2 a3 true))) = some r := by rw [if_pos rfl] at H; exact H
            clear H
            have H := H1
            clear H1
            replace H := Option.bind_eq_some_iff.mp H
            obtain ⟨t119, A140, H⟩ := H
            replace H : (if t119 = true then (if (l0.length : Int) = 0 then (laws_FnCompletedBy.j1 kj4 l0 l1 a2 a3 true) else (if a3.toList = ([] : List UInt8) then (laws_FnCompletedBy.j1 kj4 l0 l1 a2 a3 true) else (if (a3.size : Int) > 12 then (laws_FnCompletedBy.j1 kj4 l0 l1 a2 a3 true) else ((spec_Small.f kj4 a3).bind fun t120 => (laws_FnCompletedBy.j1 kj4 l0 l1 a2 a3 (!t120)))))) else (laws_FnCompletedBy.j1 kj4 l0 l1 a2 a3 true)) = some r := H
            have A14 := Aside0.mk A140
            clear A140
            by_cases c15 : t119 = true
            · subst c15
              have H1 : (if (l0.length : Int) = 0 then (laws_FnCompletedBy.j1 kj4 l0 l1 a2 a3 true) else (if a3.toList = ([] : List UInt8) then (laws_FnCompletedBy.j1 kj4 l0 l1 a2 a3 true) else (if (a3.size : Int) > 12 then (laws_FnCompletedBy.j1 kj4 l0 l1 a2 a3 true) else ((spec_Small.f kj4 a3).bind fun t120 => (laws_FnCompletedBy.j1 kj4 l0 l1 a2 a3 (!t120)))))) = some r := by rw [if_pos rfl] at H; exact H
              clear H
              have H := H1
              clear H1
              by_cases c16 : (l0.length : Int) = 0
              · rw [if_pos c16] at H
                have c16b0 : ((l0.length : Int) == 0) = true := beq_iff_eq.mpr c16
                have c16b1 : ((l0.length : Int) != 0) = false := bne_eq_false_iff_eq.mpr c16
                clear c16
                (first | rw [c16b0] | (simp only [i64_w, i32_w]; rw [c16b0]) | skip)
                have H' := Aside0.mk H
                clear H
                go_wp2_with (first | ((with_reducible refine gate_callee (f := 25) rfl ?_); refine goesL_ (some 28) rfl rfl Tryd.func25 (by kernel_rfl) rfl #[.slice A0 l0.length c0] rfl (by (try simp only [List.map_toArray, List.map_cons, List.map_nil]); first | done | rfl | (simp only [List.length_drop, List.length_take]; rfl) | (simp only [Int.toNat_natCast, ByteArray.extract_zero_size]; rfl)) ?_; (with_reducible refine (laws_names9.calls kj4 _ _ l0 true _ ?side1 ?side2 A12.out).mono ?_); (case side1 => repeat (first | exact (Kd.C_below HR0.out HB.out) | (with_reducible refine Kd.C_alloc ?_ _) | (with_reducible refine Kd.C_drewN ?_ _) | (with_reducible refine Kd.C_drew ?_))); (case side2 => exact HC0.out); rintro e w' ⟨rfl, ⟨nd, rfl⟩⟩; refine ⟨_, rfl, ?_⟩) | (go_at_call 25; (with_reducible refine (laws_names9.calls kj4 _ _ l1 true _ ?side1 ?side2 A14.out).mono ?_); (case side1 => repeat (first | exact (Kd.C_below HR1.out (by repeat (first | (with_reducible first | exact HB.out | apply below_alloc | apply pw_below_drewN | apply below_drew1) | exact HB.out))) | (with_reducible refine Kd.C_alloc ?_ _) | (with_reducible refine Kd.C_drewN ?_ _) | (with_reducible refine Kd.C_drew ?_))); (case side2 => exact HC1.out); rintro e w' ⟨rfl, ⟨nd, rfl⟩⟩))
                go_meet
                case rel => exact ⟨_, (true), (by first | rfl | (simp; done) | (simp [*]; done)), H', ⟨by have := HJ4.out; first | omega | exact Nat.le_refl _⟩, ⟨by repeat (first | (with_reducible first | exact HB.out | apply below_alloc | apply pw_below_drewN | apply below_drew1) | exact HB.out)⟩⟩
              · rw [if_neg c16] at H
                have c16b0 : ((l0.length : Int) == 0) = false := beq_eq_false_iff_ne.mpr c16
                have c16b1 : ((l0.length : Int) != 0) = true := bne_iff_ne.mpr c16
                have c16b2 : ¬ (l0 = []) := fun h_ => c16 (by rw [h_]; rfl)
                (first | rw [c16b0] | (simp only [i64_w, i32_w]; rw [c16b0]) | skip)
                by_cases c17 : a3.toList = ([] : List UInt8)
                · rw [if_pos c17] at H
                  have c17b0 : (a3.toList == ([] : List UInt8)) = true := beq_iff_eq.mpr c17
                  have c17b1 : (a3.toList != ([] : List UInt8)) = false := bne_eq_false_iff_eq.mpr c17
                  clear c17
                  have H' := Aside0.mk H
                  clear H
                  go_wp2_with (first | ((with_reducible refine gate_callee (f := 25) rfl ?_); refine goesL_ (some 28) rfl rfl Tryd.func25 (by kernel_rfl) rfl #[.slice A0 l0.length c0] rfl (by (try simp only [List.map_toArray, List.map_cons, List.map_nil]); first | done | rfl | (simp only [List.length_drop, List.length_take]; rfl) | (simp only [Int.toNat_natCast, ByteArray.extract_zero_size]; rfl)) ?_; (with_reducible refine (laws_names9.calls kj4 _ _ l0 true _ ?side1 ?side2 A12.out).mono ?_); (case side1 => repeat (first | exact (Kd.C_below HR0.out HB.out) | (with_reducible refine Kd.C_alloc ?_ _) | (with_reducible refine Kd.C_drewN ?_ _) | (with_reducible refine Kd.C_drew ?_))); (case side2 => exact HC0.out); rintro e w' ⟨rfl, ⟨nd, rfl⟩⟩; refine ⟨_, rfl, ?_⟩) | (go_at_call 25; (with_reducible refine (laws_names9.calls kj4 _ _ l1 true _ ?side1 ?side2 A14.out).mono ?_); (case side1 => repeat (first | exact (Kd.C_below HR1.out (by repeat (first | (with_reducible first | exact HB.out | apply below_alloc | apply pw_below_drewN | apply below_drew1) | exact HB.out))) | (with_reducible refine Kd.C_alloc ?_ _) | (with_reducible refine Kd.C_drewN ?_ _) | (with_reducible refine Kd.C_drew ?_))); (case side2 => exact HC1.out); rintro e w' ⟨rfl, ⟨nd, rfl⟩⟩))
                  go_meet
                  case rel => exact ⟨_, (true), (by first | rfl | (simp; done) | (simp [*]; done)), H', ⟨by have := HJ4.out; first | omega | exact Nat.le_refl _⟩, ⟨by repeat (first | (with_reducible first | exact HB.out | apply below_alloc | apply pw_below_drewN | apply below_drew1) | exact HB.out)⟩⟩
                · rw [if_neg c17] at H
                  have c17b0 : (a3.toList == ([] : List UInt8)) = false := beq_eq_false_iff_ne.mpr c17
                  have c17b1 : (a3.toList != ([] : List UInt8)) = true := bne_iff_ne.mpr c17
                  by_cases c18 : (a3.size : Int) > 12
                  · rw [if_pos c18] at H
                    have c18b0 : decide (12 < (a3.size : Int)) = true := decide_eq_true c18
                    have c18b1 : decide (12 < a3.size) = true := decide_eq_true (by omega)
                    clear c18
                    have H' := Aside0.mk H
                    clear H
                    go_wp2_with (first | ((with_reducible refine gate_callee (f := 25) rfl ?_); refine goesL_ (some 28) rfl rfl Tryd.func25 (by kernel_rfl) rfl #[.slice A0 l0.length c0] rfl (by (try simp only [List.map_toArray, List.map_cons, List.map_nil]); first | done | rfl | (simp only [List.length_drop, List.length_take]; rfl) | (simp only [Int.toNat_natCast, ByteArray.extract_zero_size]; rfl)) ?_; (with_reducible refine (laws_names9.calls kj4 _ _ l0 true _ ?side1 ?side2 A12.out).mono ?_); (case side1 => repeat (first | exact (Kd.C_below HR0.out HB.out) | (with_reducible refine Kd.C_alloc ?_ _) | (with_reducible refine Kd.C_drewN ?_ _) | (with_reducible refine Kd.C_drew ?_))); (case side2 => exact HC0.out); rintro e w' ⟨rfl, ⟨nd, rfl⟩⟩; refine ⟨_, rfl, ?_⟩) | (go_at_call 25; (with_reducible refine (laws_names9.calls kj4 _ _ l1 true _ ?side1 ?side2 A14.out).mono ?_); (case side1 => repeat (first | exact (Kd.C_below HR1.out (by repeat (first | (with_reducible first | exact HB.out | apply below_alloc | apply pw_below_drewN | apply below_drew1) | exact HB.out))) | (with_reducible refine Kd.C_alloc ?_ _) | (with_reducible refine Kd.C_drewN ?_ _) | (with_reducible refine Kd.C_drew ?_))); (case side2 => exact HC1.out); rintro e w' ⟨rfl, ⟨nd, rfl⟩⟩))
                    go_meet
                    case rel => exact ⟨_, (true), (by first | rfl | (simp; done) | (simp [*]; done)), H', ⟨by have := HJ4.out; first | omega | exact Nat.le_refl _⟩, ⟨by repeat (first | (with_reducible first | exact HB.out | apply below_alloc | apply pw_below_drewN | apply below_drew1) | exact HB.out)⟩⟩
                  · rw [if_neg c18] at H
                    have c18b0 : decide (12 < (a3.size : Int)) = false := decide_eq_false c18
                    have c18b1 : decide (12 < a3.size) = false := decide_eq_false (by omega)
                    clear c18
                    replace H := Option.bind_eq_some_iff.mp H
                    obtain ⟨t120, A190, H⟩ := H
                    replace H : (laws_FnCompletedBy.j1 kj4 l0 l1 a2 a3 (!t120)) = some r := H
                    have A19 := Aside0.mk A190
                    clear A190
                    have H' := Aside0.mk H
                    clear H
                    go_wp2_with (first | ((with_reducible refine gate_callee (f := 25) rfl ?_); refine goesL_ (some 28) rfl rfl Tryd.func25 (by kernel_rfl) rfl #[.slice A0 l0.length c0] rfl (by (try simp only [List.map_toArray, List.map_cons, List.map_nil]); first | done | rfl | (simp only [List.length_drop, List.length_take]; rfl) | (simp only [Int.toNat_natCast, ByteArray.extract_zero_size]; rfl)) ?_; (with_reducible refine (laws_names9.calls kj4 _ _ l0 true _ ?side1 ?side2 A12.out).mono ?_); (case side1 => repeat (first | exact (Kd.C_below HR0.out HB.out) | (with_reducible refine Kd.C_alloc ?_ _) | (with_reducible refine Kd.C_drewN ?_ _) | (with_reducible refine Kd.C_drew ?_))); (case side2 => exact HC0.out); rintro e w' ⟨rfl, ⟨nd, rfl⟩⟩; refine ⟨_, rfl, ?_⟩) | (go_at_call 25; (with_reducible refine (laws_names9.calls kj4 _ _ l1 true _ ?side1 ?side2 A14.out).mono ?_); (case side1 => repeat (first | exact (Kd.C_below HR1.out (by repeat (first | (with_reducible first | exact HB.out | apply below_alloc | apply pw_below_drewN | apply below_drew1) | exact HB.out))) | (with_reducible refine Kd.C_alloc ?_ _) | (with_reducible refine Kd.C_drewN ?_ _) | (with_reducible refine Kd.C_drew ?_))); (case side2 => exact HC1.out); rintro e w' ⟨rfl, ⟨nd, rfl⟩⟩) | (go_at_call 26; (with_reducible refine (spec_Small.calls kj4 a3 t120 _ A19.out).mono ?_); rintro e w' ⟨rfl, ⟨nd, rfl⟩⟩))
                    go_meet
                    case rel => exact ⟨_, (!t120), (by first | rfl | (simp; done) | (simp [*]; done)), H', ⟨by have := HJ4.out; first | omega | exact Nat.le_refl _⟩, ⟨by repeat (first | (with_reducible first | exact HB.out | apply below_alloc | apply pw_below_drewN | apply below_drew1) | exact HB.out)⟩⟩
            · replace c15 := Bool.eq_false_iff.mpr c15
              subst c15
              have H1 : (laws_FnCompletedBy.j1 kj4 l0 l1 a2 a3 true) = some r := by rw [if_neg (show ¬ (false = true) by decide)] at H; exact H
              clear H
              have H := H1
              clear H1
              have H' := Aside0.mk H
              clear H
              go_wp2_with (first | ((with_reducible refine gate_callee (f := 25) rfl ?_); refine goesL_ (some 28) rfl rfl Tryd.func25 (by kernel_rfl) rfl #[.slice A0 l0.length c0] rfl (by (try simp only [List.map_toArray, List.map_cons, List.map_nil]); first | done | rfl | (simp only [List.length_drop, List.length_take]; rfl) | (simp only [Int.toNat_natCast, ByteArray.extract_zero_size]; rfl)) ?_; (with_reducible refine (laws_names9.calls kj4 _ _ l0 true _ ?side1 ?side2 A12.out).mono ?_); (case side1 => repeat (first | exact (Kd.C_below HR0.out HB.out) | (with_reducible refine Kd.C_alloc ?_ _) | (with_reducible refine Kd.C_drewN ?_ _) | (with_reducible refine Kd.C_drew ?_))); (case side2 => exact HC0.out); rintro e w' ⟨rfl, ⟨nd, rfl⟩⟩; refine ⟨_, rfl, ?_⟩) | (go_at_call 25; (with_reducible refine (laws_names9.calls kj4 _ _ l1 false _ ?side1 ?side2 A14.out).mono ?_); (case side1 => repeat (first | exact (Kd.C_below HR1.out (by repeat (first | (with_reducible first | exact HB.out | apply below_alloc | apply pw_below_drewN | apply below_drew1) | exact HB.out))) | (with_reducible refine Kd.C_alloc ?_ _) | (with_reducible refine Kd.C_drewN ?_ _) | (with_reducible refine Kd.C_drew ?_))); (case side2 => exact HC1.out); rintro e w' ⟨rfl, ⟨nd, rfl⟩⟩))
              go_meet
              case rel => exact ⟨_, (true), (by first | rfl | (simp; done) | (simp [*]; done)), H', ⟨by have := HJ4.out; first | omega | exact Nat.le_refl _⟩, ⟨by repeat (first | (with_reducible first | exact HB.out | apply below_alloc | apply pw_below_drewN | apply below_drew1) | exact HB.out)⟩⟩
          · replace c13 := Bool.eq_false_iff.mpr c13
            subst c13
            have H1 : (laws_FnCompletedBy.j1 kj4 l0 l1 a2 a3 true) = some r := by rw [if_neg (show ¬ (false = true) by decide)] at H; exact H
            clear H
            have H := H1
            clear H1
            have H' := Aside0.mk H
            clear H
            go_wp2_with (first | ((with_reducible refine gate_callee (f := 25) rfl ?_); refine goesL_ (some 28) rfl rfl Tryd.func25 (by kernel_rfl) rfl #[.slice A0 l0.length c0] rfl (by (try simp only [List.map_toArray, List.map_cons, List.map_nil]); first | done | rfl | (simp only [List.length_drop, List.length_take]; rfl) | (simp only [Int.toNat_natCast, ByteArray.extract_zero_size]; rfl)) ?_; (with_reducible refine (laws_names9.calls kj4 _ _ l0 false _ ?side1 ?side2 A12.out).mono ?_); (case side1 => repeat (first | exact (Kd.C_below HR0.out HB.out) | (with_reducible refine Kd.C_alloc ?_ _) | (with_reducible refine Kd.C_drewN ?_ _) | (with_reducible refine Kd.C_drew ?_))); (case side2 => exact HC0.out); rintro e w' ⟨rfl, ⟨nd, rfl⟩⟩; refine ⟨_, rfl, ?_⟩))
            go_meet
            case rel => exact ⟨_, (true), (by first | rfl | (simp; done) | (simp [*]; done)), H', ⟨by have := HJ4.out; first | omega | exact Nat.le_refl _⟩, ⟨by repeat (first | (with_reducible first | exact HB.out | apply below_alloc | apply pw_below_drewN | apply below_drew1) | exact HB.out)⟩⟩
        case rest =>
          clear HC11
          try clear c1
          try clear c2
          try clear p2
          try clear c7
          try clear c9
          try clear c10
          try clear c11
          try clear c13
          try clear c15
          try clear c16
          try clear c16b0
          try clear c16b1
          try clear c16b2
          try clear c17
          try clear c17b0
          try clear c17b1
          try clear c18
          try clear c18b0
          try clear c18b1
          try clear p2
          obtain ⟨kq, x53_10, rfl, HA, HJ10, HB⟩ := hcut
          cases kq with
          | zero => exact absurd HA.out (by simp [laws_FnCompletedBy.j1])
          | succ kj10 =>
            have H := HA.out
            clear HA
            simp only [laws_FnCompletedBy.j1] at H
            by_cases c20 : x53_10 = true
            · subst c20
              have H1 : (some true) = some r := by rw [if_pos rfl] at H; exact H
              clear H
              have H := H1
              clear H1
              obtain rfl := Option.some.inj H
              go_wp2
              go_ret
              exact ⟨by first | rfl | (simp [errW_none, errW_some] <;> rfl) | (simp [*, errW_none, errW_some] <;> rfl), by repeat (first | (with_reducible first | exact HB.out | apply below_alloc | apply pw_below_drewN | apply below_drew1) | exact HB.out)⟩
            · replace c20 := Bool.eq_false_iff.mpr c20
              subst c20
              have H1 : ((impl_CompletedBy.f l0 l1 a3 (a3.size : Int)).bind fun bt121 => ((spec_Offers.f kj10 l0 a3).bind fun t126 => (if bt121.2.2 = true then ((spec_SameTexts9.f kj10 bt121.1 t126).bind fun t129 => (if t129 = true then (if (t126.length : Int) > 0 then (laws_FnCompletedBy.j2 kj10 l0 l1 a2 a3 (bt121.2.1 != (a3.size : Int))) else (laws_FnCompletedBy.j2 kj10 l0 l1 a2 a3 false)) else (laws_FnCompletedBy.j2 kj10 l0 l1 a2 a3 true))) else (laws_FnCompletedBy.j2 kj10 l0 l1 a2 a3 true)))) = some r := by rw [if_neg (show ¬ (false = true) by decide)] at H; exact H
              clear H
              have H := H1
              clear H1
              replace H := Option.bind_eq_some_iff.mp H
              obtain ⟨⟨t121, t122, t123⟩, A210, H⟩ := H
              replace H : ((spec_Offers.f kj10 l0 a3).bind fun t126 => (if t123 = true then ((spec_SameTexts9.f kj10 t121 t126).bind fun t129 => (if t129 = true then (if (t126.length : Int) > 0 then (laws_FnCompletedBy.j2 kj10 l0 l1 a2 a3 (t122 != (a3.size : Int))) else (laws_FnCompletedBy.j2 kj10 l0 l1 a2 a3 false)) else (laws_FnCompletedBy.j2 kj10 l0 l1 a2 a3 true))) else (laws_FnCompletedBy.j2 kj10 l0 l1 a2 a3 true))) = some r := H
              have A21 := Aside0.mk A210
              clear A210
              replace H := Option.bind_eq_some_iff.mp H
              obtain ⟨t126, A220, H⟩ := H
              replace H : (if t123 = true then ((spec_SameTexts9.f kj10 t121 t126).bind fun t129 => (if t129 = true then (if (t126.length : Int) > 0 then (laws_FnCompletedBy.j2 kj10 l0 l1 a2 a3 (t122 != (a3.size : Int))) else (laws_FnCompletedBy.j2 kj10 l0 l1 a2 a3 false)) else (laws_FnCompletedBy.j2 kj10 l0 l1 a2 a3 true))) else (laws_FnCompletedBy.j2 kj10 l0 l1 a2 a3 true)) = some r := H
              have A22 := Aside0.mk A220
              clear A220
              have HC23 := Aside0.mk H
              clear H
              go_upto_region 7 with (first | ((with_reducible refine gate_callee (f := 27) rfl ?_); refine goesL_ (some 60) rfl rfl Tryd.func27 (by kernel_rfl) rfl #[.slice A0 l0.length c0, .slice A1 l1.length c1, .string a3, .int .i64 (a3.size : Int)] rfl (by (try simp only [List.map_toArray, List.map_cons, List.map_nil]); first | done | rfl | (simp only [List.length_drop, List.length_take]; rfl) | (simp only [Int.toNat_natCast, ByteArray.extract_zero_size]; rfl)) ?_; (with_reducible refine (impl_CompletedBy.calls _ _ l0 _ _ l1 a3 (a3.size : Int) t121 t122 t123 _ ?side1 ?side2 ?side3 ?side4 A21.out).mono ?_); (case side1 => repeat (first | exact (Kd.C_below HR0.out HB.out) | (with_reducible refine Kd.C_alloc ?_ _) | (with_reducible refine Kd.C_drewN ?_ _) | (with_reducible refine Kd.C_drew ?_))); (case side2 => exact HC0.out); (case side3 => repeat (first | exact (Kd.C_below HR1.out HB.out) | (with_reducible refine Kd.C_alloc ?_ _) | (with_reducible refine Kd.C_drewN ?_ _) | (with_reducible refine Kd.C_drew ?_))); (case side4 => exact HC1.out); rintro e w24 ⟨v124, rfl, ho0, hb⟩; refine ⟨_, rfl, ?_⟩; have n0_ := Aside0.mk (Kd.R_lower ho0 (below_size (by repeat (first | (with_reducible first | exact HB.out | apply below_alloc | apply pw_below_drewN | apply below_drew1) | exact HB.out)))); have n1_ := Aside0.mk (below_step (by repeat (first | (with_reducible first | exact HB.out | apply below_alloc | apply pw_below_drewN | apply below_drew1) | exact HB.out)) hb); clear HB; have HO125 := n0_; have HB := n1_; clear n0_ n1_; (try clear hb); (try clear hb2); (try clear hk); (try clear hi); (try clear ho0)) | ((with_reducible refine gate_callee (f := 28) rfl ?_); refine goesL_ (some 66) rfl rfl Tryd.func28 (by kernel_rfl) rfl #[.slice A0 l0.length c0, .string a3] rfl (by (try simp only [List.map_toArray, List.map_cons, List.map_nil]); first | done | rfl | (simp only [List.length_drop, List.length_take]; rfl) | (simp only [Int.toNat_natCast, ByteArray.extract_zero_size]; rfl)) ?_; (with_reducible refine (spec_Offers.calls kj10 _ _ l0 a3 t126 _ ?side1 ?side2 A22.out).mono ?_); (case side1 => repeat (first | exact (Kd.C_below HR0.out HB.out) | (with_reducible refine Kd.C_alloc ?_ _) | (with_reducible refine Kd.C_drewN ?_ _) | (with_reducible refine Kd.C_drew ?_))); (case side2 => exact HC0.out); rintro e w25 ⟨v127, rfl, ho0, hb⟩; refine ⟨_, rfl, ?_⟩; have n0_ := Aside0.mk (Kd.R_elder' (by (with_reducible repeat (first | apply Kd.R_alloc | apply Kd.R_drewN | apply Kd.R_drew)); exact HO125.out) (Kd.R_base ho0) hb); have n1_ := Aside0.mk (Kd.R_lower (Kd.R_new' ho0 (Kd.R_lt (by (with_reducible repeat (first | apply Kd.R_alloc | apply Kd.R_drewN | apply Kd.R_drew)); exact HO125.out))) (below_size (by repeat (first | (with_reducible first | exact HB.out | apply below_alloc | apply pw_below_drewN | apply below_drew1) | exact HB.out)))); have n2_ := Aside0.mk (below_step (by repeat (first | (with_reducible first | exact HB.out | apply below_alloc | apply pw_below_drewN | apply below_drew1) | exact HB.out)) hb); clear HO125; clear HB; have HO125 := n0_; have HO128 := n1_; have HB := n2_; clear n0_ n1_ n2_; (try clear hb); (try clear hb2); (try clear hk); (try clear hi); (try clear ho0)))
              (try simp only [Act.put, List.setIfInBounds_toArray, List.set_cons_zero, List.set_cons_succ])
              go_cut [85] (fun v85 wc => ∃ (kq : Nat) (x85_22 : Bool), v85 = .bool x85_22 ∧ Aside0 (laws_FnCompletedBy.j2 kq l0 l1 a2 a3 x85_22 = some r) ∧ Aside0 (kq ≤ kj10) ∧ Aside0 (Below w.heap.size w wc))
              case first =>
                have H := HC23.out
                clear HC23
                by_cases c26 : t123 = true
                · subst c26
                  have H1 : ((spec_SameTexts9.f kj10 t121 t126).bind fun t129 => (if t129 = true then (if (t126.length : Int) > 0 then (laws_FnCompletedBy.j2 kj10 l0 l1 a2 a3 (t122 != (a3.size : Int))) else (laws_FnCompletedBy.j2 kj10 l0 l1 a2 a3 false)) else (laws_FnCompletedBy.j2 kj10 l0 l1 a2 a3 true))) = some r := by rw [if_pos rfl] at H; exact H
                  clear H
                  have H := H1
                  clear H1
                  replace H := Option.bind_eq_some_iff.mp H
                  obtain ⟨t129, A270, H⟩ := H
                  replace H : (if t129 = true then (if (t126.length : Int) > 0 then (laws_FnCompletedBy.j2 kj10 l0 l1 a2 a3 (t122 != (a3.size : Int))) else (laws_FnCompletedBy.j2 kj10 l0 l1 a2 a3 false)) else (laws_FnCompletedBy.j2 kj10 l0 l1 a2 a3 true)) = some r := H
                  have A27 := Aside0.mk A270
                  clear A270
                  by_cases c28 : t129 = true
                  · subst c28
                    have H1 : (if (t126.length : Int) > 0 then (laws_FnCompletedBy.j2 kj10 l0 l1 a2 a3 (t122 != (a3.size : Int))) else (laws_FnCompletedBy.j2 kj10 l0 l1 a2 a3 false)) = some r := by rw [if_pos rfl] at H; exact H
                    clear H
                    have H := H1
                    clear H1
                    by_cases c29 : (t126.length : Int) > 0
                    · rw [if_pos c29] at H
                      have c29b0 : decide (0 < (t126.length : Int)) = true := decide_eq_true c29
                      have c29b1 : decide (0 < t126.length) = true := decide_eq_true (by omega)
                      clear c29
                      (first | rw [c29b0] | (simp only [i64_w, i32_w]; rw [c29b0]) | skip)
                      have H' := Aside0.mk H
                      clear H
                      obtain ⟨Ao30, co30, eo30⟩ := Kd.R_slice HO125.out
                      subst eo30
                      obtain ⟨Ao31, co31, eo31⟩ := Kd.R_slice HO128.out
                      subst eo31
                      go_wp2_with (first | (go_at_call 20; (with_reducible refine (spec_SameTexts9.calls kj10 _ _ t121 _ _ t126 true _ ?side1 ?side2 ?side3 ?side4 A27.out).mono ?_); (case side1 => repeat (first | exact (Kd.R_reads' HO125.out).2.2 | (with_reducible refine Kd.C_alloc ?_ _) | (with_reducible refine Kd.C_drewN ?_ _) | (with_reducible refine Kd.C_drew ?_))); (case side2 => exact (Kd.R_reads' HO125.out).2.1); (case side3 => repeat (first | exact (Kd.R_reads' HO128.out).2.2 | (with_reducible refine Kd.C_alloc ?_ _) | (with_reducible refine Kd.C_drewN ?_ _) | (with_reducible refine Kd.C_drew ?_))); (case side4 => exact (Kd.R_reads' HO128.out).2.1); rintro e w' ⟨rfl, ⟨nd, rfl⟩⟩))
                      go_meet
                      case rel => exact ⟨_, ((t122 != (a3.size : Int))), (by first | rfl | (simp; done) | (simp [*]; done)), H', ⟨by have := HJ4.out; have := HJ10.out; first | omega | exact Nat.le_refl _⟩, ⟨by repeat (first | (with_reducible first | exact HB.out | apply below_alloc | apply pw_below_drewN | apply below_drew1) | exact HB.out)⟩⟩
                    · rw [if_neg c29] at H
                      have c29b0 : decide (0 < (t126.length : Int)) = false := decide_eq_false c29
                      have c29b1 : decide (0 < t126.length) = false := decide_eq_false (by omega)
                      clear c29
                      (first | rw [c29b0] | (simp only [i64_w, i32_w]; rw [c29b0]) | skip)
                      have H' := Aside0.mk H
                      clear H
                      obtain ⟨Ao32, co32, eo32⟩ := Kd.R_slice HO125.out
                      subst eo32
                      obtain ⟨Ao33, co33, eo33⟩ := Kd.R_slice HO128.out
                      subst eo33
                      go_wp2_with (first | (go_at_call 20; (with_reducible refine (spec_SameTexts9.calls kj10 _ _ t121 _ _ t126 true _ ?side1 ?side2 ?side3 ?side4 A27.out).mono ?_); (case side1 => repeat (first | exact (Kd.R_reads' HO125.out).2.2 | (with_reducible refine Kd.C_alloc ?_ _) | (with_reducible refine Kd.C_drewN ?_ _) | (with_reducible refine Kd.C_drew ?_))); (case side2 => exact (Kd.R_reads' HO125.out).2.1); (case side3 => repeat (first | exact (Kd.R_reads' HO128.out).2.2 | (with_reducible refine Kd.C_alloc ?_ _) | (with_reducible refine Kd.C_drewN ?_ _) | (with_reducible refine Kd.C_drew ?_))); (case side4 => exact (Kd.R_reads' HO128.out).2.1); rintro e w' ⟨rfl, ⟨nd, rfl⟩⟩))
                      go_meet
                      case rel => exact ⟨_, (false), (by first | rfl | (simp; done) | (simp [*]; done)), H', ⟨by have := HJ4.out; have := HJ10.out; first | omega | exact Nat.le_refl _⟩, ⟨by repeat (first | (with_reducible first | exact HB.out | apply below_alloc | apply pw_below_drewN | apply below_drew1) | exact HB.out)⟩⟩
                  · replace c28 := Bool.eq_false_iff.mpr c28
                    subst c28
                    have H1 : (laws_FnCompletedBy.j2 kj10 l0 l1 a2 a3 true) = some r := by rw [if_neg (show ¬ (false = true) by decide)] at H; exact H
                    clear H
                    have H := H1
                    clear H1
                    have H' := Aside0.mk H
                    clear H
                    obtain ⟨Ao34, co34, eo34⟩ := Kd.R_slice HO125.out
                    subst eo34
                    obtain ⟨Ao35, co35, eo35⟩ := Kd.R_slice HO128.out
                    subst eo35
                    go_wp2_with (first | (go_at_call 20; (with_reducible refine (spec_SameTexts9.calls kj10 _ _ t121 _ _ t126 false _ ?side1 ?side2 ?side3 ?side4 A27.out).mono ?_); (case side1 => repeat (first | exact (Kd.R_reads' HO125.out).2.2 | (with_reducible refine Kd.C_alloc ?_ _) | (with_reducible refine Kd.C_drewN ?_ _) | (with_reducible refine Kd.C_drew ?_))); (case side2 => exact (Kd.R_reads' HO125.out).2.1); (case side3 => repeat (first | exact (Kd.R_reads' HO128.out).2.2 | (with_reducible refine Kd.C_alloc ?_ _) | (with_reducible refine Kd.C_drewN ?_ _) | (with_reducible refine Kd.C_drew ?_))); (case side4 => exact (Kd.R_reads' HO128.out).2.1); rintro e w' ⟨rfl, ⟨nd, rfl⟩⟩))
                    go_meet
                    case rel => exact ⟨_, (true), (by first | rfl | (simp; done) | (simp [*]; done)), H', ⟨by have := HJ4.out; have := HJ10.out; first | omega | exact Nat.le_refl _⟩, ⟨by repeat (first | (with_reducible first | exact HB.out | apply below_alloc | apply pw_below_drewN | apply below_drew1) | exact HB.out)⟩⟩
                · replace c26 := Bool.eq_false_iff.mpr c26
                  subst c26
                  have H1 : (laws_FnCompletedBy.j2 kj10 l0 l1 a2 a3 true) = some r := by rw [if_neg (show ¬ (false = true) by decide)] at H; exact H
                  clear H
                  have H := H1
                  clear H1
                  have H' := Aside0.mk H
                  clear H
                  go_wp2
                  go_meet
                  case rel => exact ⟨_, (true), (by first | rfl | (simp; done) | (simp [*]; done)), H', ⟨by have := HJ4.out; have := HJ10.out; first | omega | exact Nat.le_refl _⟩, ⟨by repeat (first | (with_reducible first | exact HB.out | apply below_alloc | apply pw_below_drewN | apply below_drew1) | exact HB.out)⟩⟩
              case rest =>
                clear HC23
                try clear c1
                try clear c2
                try clear p2
                try clear c7
                try clear c9
                try clear c10
                try clear c11
                try clear c13
                try clear c15
                try clear c16
                try clear c16b0
                try clear c16b1
                try clear c16b2
                try clear c17
                try clear c17b0
                try clear c17b1
                try clear c18
                try clear c18b0
                try clear c18b1
                try clear c20
                try clear c25
                try clear c26
                try clear c27
                try clear c28
                try clear c29
                try clear c29b0
                try clear c29b1
                try clear p2
                obtain ⟨kq, x85_22, rfl, HA, HJ22, HB⟩ := hcut
                cases kq with
                | zero => exact absurd HA.out (by simp [laws_FnCompletedBy.j2])
                | succ kj22 =>
                  have H := HA.out
                  clear HA
                  simp only [laws_FnCompletedBy.j2] at H
                  by_cases c36 : x85_22 = true
                  · subst c36
                    have H1 : (some false) = some r := by rw [if_pos rfl] at H; exact H
                    clear H
                    have H := H1
                    clear H1
                    obtain rfl := Option.some.inj H
                    go_wp2
                    go_ret
                    exact ⟨by first | rfl | (simp [errW_none, errW_some] <;> rfl) | (simp [*, errW_none, errW_some] <;> rfl), by repeat (first | (with_reducible first | exact HB.out | apply below_alloc | apply pw_below_drewN | apply below_drew1) | exact HB.out)⟩
                  · replace c36 := Bool.eq_false_iff.mpr c36
                    subst c36
                    have H1 : (if (l0.length : Int) = 0 then (none) else (if 0 ≤ (Int.tmod (wrap64 (a2)) (l0.length : Int)) then (if (Int.tmod (wrap64 (a2)) (l0.length : Int)) < (l0.length : Int) then (if (rdOf ByteArray.empty l0 (Int.tmod (wrap64 (a2)) (l0.length : Int))).size + 1 ≤ 9223372036854775807 then (if ((rdOf ByteArray.empty l0 (Int.tmod (wrap64 (a2)) (l0.length : Int))) ++ (⟨#[32]⟩ : ByteArray)).size + a3.size ≤ 9223372036854775807 then ((impl_CompletedBy.f l0 l1 (((rdOf ByteArray.empty l0 (Int.tmod (wrap64 (a2)) (l0.length : Int))) ++ (⟨#[32]⟩ : ByteArray)) ++ a3) ((((rdOf ByteArray.empty l0 (Int.tmod (wrap64 (a2)) (l0.length : Int))) ++ (⟨#[32]⟩ : ByteArray)) ++ a3).size : Int)).bind fun bt131 => ((spec_Offers.f kj22 l1 a3).bind fun t136 => (if bt131.2.2 = true then ((spec_SameTexts9.f kj22 bt131.1 t136).bind fun t139 => (if t139 = true then (if (t136.length : Int) = 0 then (some true) else (some (bt131.2.1 == (a3.size : Int)))) else (some false))) else (some false)))) else (none)) else (none)) else (none)) else (none))) = some r := by rw [if_neg (show ¬ (false = true) by decide)] at H; exact H
                    clear H
                    have H := H1
                    clear H1
                    by_cases c37 : (l0.length : Int) = 0
                    · rw [if_pos c37] at H
                      exact absurd H (by simp)
                    · rw [if_neg c37] at H
                      have c37b0 : ((l0.length : Int) == 0) = false := beq_eq_false_iff_ne.mpr c37
                      have c37b1 : ((l0.length : Int) != 0) = true := bne_iff_ne.mpr c37
                      have c37b2 : ¬ (l0 = []) := fun h_ => c37 (by rw [h_]; rfl)
                      obtain ⟨ji38, hji38⟩ : ∃ j_ : Int, (Int.tmod (wrap64 (a2)) (l0.length : Int)) = j_ := ⟨_, rfl⟩
                      replace H : (if 0 ≤ (ji38) then (if (ji38) < (l0.length : Int) then (if (rdOf ByteArray.empty l0 (ji38)).size + 1 ≤ 9223372036854775807 then (if ((rdOf ByteArray.empty l0 (ji38)) ++ (⟨#[32]⟩ : ByteArray)).size + a3.size ≤ 9223372036854775807 then ((impl_CompletedBy.f l0 l1 (((rdOf ByteArray.empty l0 (ji38)) ++ (⟨#[32]⟩ : ByteArray)) ++ a3) ((((rdOf ByteArray.empty l0 (ji38)) ++ (⟨#[32]⟩ : ByteArray)) ++ a3).size : Int)).bind fun bt131 => ((spec_Offers.f kj22 l1 a3).bind fun t136 => (if bt131.2.2 = true then ((spec_SameTexts9.f kj22 bt131.1 t136).bind fun t139 => (if t139 = true then (if (t136.length : Int) = 0 then (some true) else (some (bt131.2.1 == (a3.size : Int)))) else (some false))) else (some false)))) else (none)) else (none)) else (none)) else (none)) = some r := by first | (rw [hji38] at H; exact H) | (simp only [hji38] at H ⊢; exact H)
                      by_cases c39 : 0 ≤ (ji38)
                      · rw [if_pos c39] at H
                        have c39b0 : decide (0 ≤ (ji38)) = true := decide_eq_true c39
                        clear c39
                        by_cases c40 : (ji38) < (l0.length : Int)
                        · rw [if_pos c40] at H
                          have c40b0 : decide ((ji38) < (l0.length : Int)) = true := decide_eq_true c40
                          clear c40
                          by_cases c41 : (rdOf ByteArray.empty l0 (ji38)).size + 1 ≤ 9223372036854775807
                          · rw [if_pos c41] at H
                            have c41b0 := eq_true c41
                            have c41b1 : decide ((rdOf ByteArray.empty l0 (ji38)).size + 1 ≤ 9223372036854775807) = true := decide_eq_true c41
                            try have c41b2 : (9223372036854775807 < (rdOf ByteArray.empty l0 (ji38)).size + 1) = False := eq_false (Nat.not_lt.2 c41)
                            by_cases c42 : ((rdOf ByteArray.empty l0 (ji38)) ++ (⟨#[32]⟩ : ByteArray)).size + a3.size ≤ 9223372036854775807
                            · rw [if_pos c42] at H
                              have c42b0 := eq_true c42
                              have c42b1 : decide (((rdOf ByteArray.empty l0 (ji38)) ++ (⟨#[32]⟩ : ByteArray)).size + a3.size ≤ 9223372036854775807) = true := decide_eq_true c42
                              try have c42b2 : (9223372036854775807 < ((rdOf ByteArray.empty l0 (ji38)) ++ (⟨#[32]⟩ : ByteArray)).size + a3.size) = False := eq_false (Nat.not_lt.2 c42)
                              have c42b3 : (9223372036854775807 < (rdOf ByteArray.empty l0 (ji38)).size + 1 + a3.size) = False := eq_false (by have h_ := c42; rw [ByteArray.size_append] at h_; have h9 : (⟨#[32]⟩ : ByteArray).size = 1 := rfl; omega)
                              have hsz3 : ((((rdOf ByteArray.empty l0 (ji38)) ++ (⟨#[32]⟩ : ByteArray)) ++ a3).size : Int) = (((rdOf ByteArray.empty l0 (ji38)).size : Int) + 1 + (a3.size : Int)) := by rw [ByteArray.size_append, ByteArray.size_append]; have h9 : (⟨#[32]⟩ : ByteArray).size = 1 := rfl; omega
                              replace H := Option.bind_eq_some_iff.mp H
                              obtain ⟨⟨t131, t132, t133⟩, A430, H⟩ := H
                              replace H : ((spec_Offers.f kj22 l1 a3).bind fun t136 => (if t133 = true then ((spec_SameTexts9.f kj22 t131 t136).bind fun t139 => (if t139 = true then (if (t136.length : Int) = 0 then (some true) else (some (t132 == (a3.size : Int)))) else (some false))) else (some false))) = some r := H
                              have A43 := Aside0.mk A430
                              clear A430
                              replace H := Option.bind_eq_some_iff.mp H
                              obtain ⟨t136, A440, H⟩ := H
                              replace H : (if t133 = true then ((spec_SameTexts9.f kj22 t131 t136).bind fun t139 => (if t139 = true then (if (t136.length : Int) = 0 then (some true) else (some (t132 == (a3.size : Int)))) else (some false))) else (some false)) = some r := H
                              have A44 := Aside0.mk A440
                              clear A440
                              by_cases c45 : t133 = true
                              · subst c45
                                have H1 : ((spec_SameTexts9.f kj22 t131 t136).bind fun t139 => (if t139 = true then (if (t136.length : Int) = 0 then (some true) else (some (t132 == (a3.size : Int)))) else (some false))) = some r := by rw [if_pos rfl] at H; exact H
                                clear H
                                have H := H1
                                clear H1
                                replace H := Option.bind_eq_some_iff.mp H
                                obtain ⟨t139, A460, H⟩ := H
                                replace H : (if t139 = true then (if (t136.length : Int) = 0 then (some true) else (some (t132 == (a3.size : Int)))) else (some false)) = some r := H
                                have A46 := Aside0.mk A460
                                clear A460
                                by_cases c47 : t139 = true
                                · subst c47
                                  have H1 : (if (t136.length : Int) = 0 then (some true) else (some (t132 == (a3.size : Int)))) = some r := by rw [if_pos rfl] at H; exact H
                                  clear H
                                  have H := H1
                                  clear H1
                                  by_cases c48 : (t136.length : Int) = 0
                                  · rw [if_pos c48] at H
                                    have c48b0 : ((t136.length : Int) == 0) = true := beq_iff_eq.mpr c48
                                    have c48b1 : ((t136.length : Int) != 0) = false := bne_eq_false_iff_eq.mpr c48
                                    clear c48
                                    obtain rfl := Option.some.inj H
                                    have p130 : 0 ≤ ((ji38) : Int) := of_decide_eq_true (by first | (with_reducible assumption) | assumption)
                                    have q130 : (ji38) < (l0.length : Int) := of_decide_eq_true (by first | (with_reducible assumption) | assumption)
                                    obtain ⟨ad130, e130, hx130_0⟩ := Kd.at_string HR0.out (ji38) p130 q130
                                    cases e130
                                    replace hx130_0 := (HB.out.cell (World.block_lt_of_cell? w _ hx130_0)).trans hx130_0
                                    replace p130 := eq_true p130
                                    replace q130 := eq_true q130
                                    go_wp2_with (first | ((with_reducible refine gate_callee (f := 27) rfl ?_); refine goesL_ (some 103) rfl rfl Tryd.func27 (by kernel_rfl) rfl #[.slice (some ad130) l0.length c0, .slice A1 l1.length c1, .string (((rdOf ByteArray.empty l0 (ji38)) ++ (⟨#[32]⟩ : ByteArray)) ++ a3), .int .i64 (((rdOf ByteArray.empty l0 (ji38)).size : Int) + 1 + (a3.size : Int))] rfl (by (try simp only [List.map_toArray, List.map_cons, List.map_nil]); first | done | (simp only [hji38]; rfl) | rfl | (simp only [List.length_drop, List.length_take]; rfl)) ?_; (with_reducible refine (impl_CompletedBy.calls _ _ l0 _ _ l1 (((rdOf ByteArray.empty l0 (ji38)) ++ (⟨#[32]⟩ : ByteArray)) ++ a3) (((rdOf ByteArray.empty l0 (ji38)).size : Int) + 1 + (a3.size : Int)) t131 t132 true _ ?side1 ?side2 ?side3 ?side4 (hsz3 ▸ A43.out)).mono ?_); (case side1 => repeat (first | exact (Kd.C_below HR0.out HB.out) | (with_reducible refine Kd.C_alloc ?_ _) | (with_reducible refine Kd.C_drewN ?_ _) | (with_reducible refine Kd.C_drew ?_))); (case side2 => exact HC0.out); (case side3 => repeat (first | exact (Kd.C_below HR1.out HB.out) | (with_reducible refine Kd.C_alloc ?_ _) | (with_reducible refine Kd.C_drewN ?_ _) | (with_reducible refine Kd.C_drew ?_))); (case side4 => exact HC1.out); rintro e w49 ⟨v134, rfl, ho0, hb⟩; refine ⟨_, rfl, ?_⟩; have n0_ := Aside0.mk (Kd.R_lower ho0 (below_size (by repeat (first | (with_reducible first | exact HB.out | apply below_alloc | apply pw_below_drewN | apply below_drew1) | exact HB.out)))); have n1_ := Aside0.mk (below_step (by repeat (first | (with_reducible first | exact HB.out | apply below_alloc | apply pw_below_drewN | apply below_drew1) | exact HB.out)) hb); clear HB; have HO135 := n0_; have HB := n1_; clear n0_ n1_; (try clear hb); (try clear hb2); (try clear hk); (try clear hi); (try clear ho0)) | ((with_reducible refine gate_callee (f := 28) rfl ?_); refine goesL_ (some 109) rfl rfl Tryd.func28 (by kernel_rfl) rfl #[.slice A1 l1.length c1, .string a3] rfl (by (try simp only [List.map_toArray, List.map_cons, List.map_nil]); first | done | rfl | (simp only [List.length_drop, List.length_take]; rfl) | (simp only [Int.toNat_natCast, ByteArray.extract_zero_size]; rfl)) ?_; (with_reducible refine (spec_Offers.calls kj22 _ _ l1 a3 t136 _ ?side1 ?side2 A44.out).mono ?_); (case side1 => repeat (first | exact (Kd.C_below HR1.out HB.out) | (with_reducible refine Kd.C_alloc ?_ _) | (with_reducible refine Kd.C_drewN ?_ _) | (with_reducible refine Kd.C_drew ?_))); (case side2 => exact HC1.out); rintro e w50 ⟨v137, rfl, ho0, hb⟩; refine ⟨_, rfl, ?_⟩; have n0_ := Aside0.mk (Kd.R_elder' (by (with_reducible repeat (first | apply Kd.R_alloc | apply Kd.R_drewN | apply Kd.R_drew)); exact HO135.out) (Kd.R_base ho0) hb); have n1_ := Aside0.mk (Kd.R_lower (Kd.R_new' ho0 (Kd.R_lt (by (with_reducible repeat (first | apply Kd.R_alloc | apply Kd.R_drewN | apply Kd.R_drew)); exact HO135.out))) (below_size (by repeat (first | (with_reducible first | exact HB.out | apply below_alloc | apply pw_below_drewN | apply below_drew1) | exact HB.out)))); have n2_ := Aside0.mk (below_step (by repeat (first | (with_reducible first | exact HB.out | apply below_alloc | apply pw_below_drewN | apply below_drew1) | exact HB.out)) hb); clear HO135; clear HB; have HO135 := n0_; have HO138 := n1_; have HB := n2_; clear n0_ n1_ n2_; (try clear hb); (try clear hb2); (try clear hk); (try clear hi); (try clear ho0); obtain ⟨Ao51, co51, eo51⟩ := Kd.R_slice HO135.out; subst eo51; obtain ⟨Ao52, co52, eo52⟩ := Kd.R_slice HO138.out; subst eo52) | (go_at_call 20; (with_reducible refine (spec_SameTexts9.calls kj22 _ _ t131 _ _ t136 true _ ?side1 ?side2 ?side3 ?side4 A46.out).mono ?_); (case side1 => repeat (first | exact (Kd.R_reads' HO135.out).2.2 | (with_reducible refine Kd.C_alloc ?_ _) | (with_reducible refine Kd.C_drewN ?_ _) | (with_reducible refine Kd.C_drew ?_))); (case side2 => exact (Kd.R_reads' HO135.out).2.1); (case side3 => repeat (first | exact (Kd.R_reads' HO138.out).2.2 | (with_reducible refine Kd.C_alloc ?_ _) | (with_reducible refine Kd.C_drewN ?_ _) | (with_reducible refine Kd.C_drew ?_))); (case side4 => exact (Kd.R_reads' HO138.out).2.1); rintro e w' ⟨rfl, ⟨nd, rfl⟩⟩))
                                    go_ret
                                    exact ⟨by first | rfl | (simp [errW_none, errW_some] <;> rfl) | (simp only [← hji38]; first | rfl | (simp [errW_none, errW_some] <;> rfl)) | (simp [*, errW_none, errW_some] <;> rfl), by repeat (first | (with_reducible first | exact HB.out | apply below_alloc | apply pw_below_drewN | apply below_drew1) | exact HB.out)⟩
                                  · rw [if_neg c48] at H
                                    have c48b0 : ((t136.length : Int) == 0) = false := beq_eq_false_iff_ne.mpr c48
                                    have c48b1 : ((t136.length : Int) != 0) = true := bne_iff_ne.mpr c48
                                    have c48b2 : ¬ (t136 = []) := fun h_ => c48 (by rw [h_]; rfl)
                                    obtain rfl := Option.some.inj H
                                    have p130 : 0 ≤ ((ji38) : Int) := of_decide_eq_true (by first | (with_reducible assumption) | assumption)
                                    have q130 : (ji38) < (l0.length : Int) := of_decide_eq_true (by first | (with_reducible assumption) | assumption)
                                    obtain ⟨ad130, e130, hx130_0⟩ := Kd.at_string HR0.out (ji38) p130 q130
                                    cases e130
                                    replace hx130_0 := (HB.out.cell (World.block_lt_of_cell? w _ hx130_0)).trans hx130_0
                                    replace p130 := eq_true p130
                                    replace q130 := eq_true q130
                                    go_wp2_with (first | ((with_reducible refine gate_callee (f := 27) rfl ?_); refine goesL_ (some 103) rfl rfl Tryd.func27 (by kernel_rfl) rfl #[.slice (some ad130) l0.length c0, .slice A1 l1.length c1, .string (((rdOf ByteArray.empty l0 (ji38)) ++ (⟨#[32]⟩ : ByteArray)) ++ a3), .int .i64 (((rdOf ByteArray.empty l0 (ji38)).size : Int) + 1 + (a3.size : Int))] rfl (by (try simp only [List.map_toArray, List.map_cons, List.map_nil]); first | done | (simp only [hji38]; rfl) | rfl | (simp only [List.length_drop, List.length_take]; rfl)) ?_; (with_reducible refine (impl_CompletedBy.calls _ _ l0 _ _ l1 (((rdOf ByteArray.empty l0 (ji38)) ++ (⟨#[32]⟩ : ByteArray)) ++ a3) (((rdOf ByteArray.empty l0 (ji38)).size : Int) + 1 + (a3.size : Int)) t131 t132 true _ ?side1 ?side2 ?side3 ?side4 (hsz3 ▸ A43.out)).mono ?_); (case side1 => repeat (first | exact (Kd.C_below HR0.out HB.out) | (with_reducible refine Kd.C_alloc ?_ _) | (with_reducible refine Kd.C_drewN ?_ _) | (with_reducible refine Kd.C_drew ?_))); (case side2 => exact HC0.out); (case side3 => repeat (first | exact (Kd.C_below HR1.out HB.out) | (with_reducible refine Kd.C_alloc ?_ _) | (with_reducible refine Kd.C_drewN ?_ _) | (with_reducible refine Kd.C_drew ?_))); (case side4 => exact HC1.out); rintro e w53 ⟨v134, rfl, ho0, hb⟩; refine ⟨_, rfl, ?_⟩; have n0_ := Aside0.mk (Kd.R_lower ho0 (below_size (by repeat (first | (with_reducible first | exact HB.out | apply below_alloc | apply pw_below_drewN | apply below_drew1) | exact HB.out)))); have n1_ := Aside0.mk (below_step (by repeat (first | (with_reducible first | exact HB.out | apply below_alloc | apply pw_below_drewN | apply below_drew1) | exact HB.out)) hb); clear HB; have HO135 := n0_; have HB := n1_; clear n0_ n1_; (try clear hb); (try clear hb2); (try clear hk); (try clear hi); (try clear ho0)) | ((with_reducible refine gate_callee (f := 28) rfl ?_); refine goesL_ (some 109) rfl rfl Tryd.func28 (by kernel_rfl) rfl #[.slice A1 l1.length c1, .string a3] rfl (by (try simp only [List.map_toArray, List.map_cons, List.map_nil]); first | done | rfl | (simp only [List.length_drop, List.length_take]; rfl) | (simp only [Int.toNat_natCast, ByteArray.extract_zero_size]; rfl)) ?_; (with_reducible refine (spec_Offers.calls kj22 _ _ l1 a3 t136 _ ?side1 ?side2 A44.out).mono ?_); (case side1 => repeat (first | exact (Kd.C_below HR1.out HB.out) | (with_reducible refine Kd.C_alloc ?_ _) | (with_reducible refine Kd.C_drewN ?_ _) | (with_reducible refine Kd.C_drew ?_))); (case side2 => exact HC1.out); rintro e w54 ⟨v137, rfl, ho0, hb⟩; refine ⟨_, rfl, ?_⟩; have n0_ := Aside0.mk (Kd.R_elder' (by (with_reducible repeat (first | apply Kd.R_alloc | apply Kd.R_drewN | apply Kd.R_drew)); exact HO135.out) (Kd.R_base ho0) hb); have n1_ := Aside0.mk (Kd.R_lower (Kd.R_new' ho0 (Kd.R_lt (by (with_reducible repeat (first | apply Kd.R_alloc | apply Kd.R_drewN | apply Kd.R_drew)); exact HO135.out))) (below_size (by repeat (first | (with_reducible first | exact HB.out | apply below_alloc | apply pw_below_drewN | apply below_drew1) | exact HB.out)))); have n2_ := Aside0.mk (below_step (by repeat (first | (with_reducible first | exact HB.out | apply below_alloc | apply pw_below_drewN | apply below_drew1) | exact HB.out)) hb); clear HO135; clear HB; have HO135 := n0_; have HO138 := n1_; have HB := n2_; clear n0_ n1_ n2_; (try clear hb); (try clear hb2); (try clear hk); (try clear hi); (try clear ho0); obtain ⟨Ao55, co55, eo55⟩ := Kd.R_slice HO135.out; subst eo55; obtain ⟨Ao56, co56, eo56⟩ := Kd.R_slice HO138.out; subst eo56) | (go_at_call 20; (with_reducible refine (spec_SameTexts9.calls kj22 _ _ t131 _ _ t136 true _ ?side1 ?side2 ?side3 ?side4 A46.out).mono ?_); (case side1 => repeat (first | exact (Kd.R_reads' HO135.out).2.2 | (with_reducible refine Kd.C_alloc ?_ _) | (with_reducible refine Kd.C_drewN ?_ _) | (with_reducible refine Kd.C_drew ?_))); (case side2 => exact (Kd.R_reads' HO135.out).2.1); (case side3 => repeat (first | exact (Kd.R_reads' HO138.out).2.2 | (with_reducible refine Kd.C_alloc ?_ _) | (with_reducible refine Kd.C_drewN ?_ _) | (with_reducible refine Kd.C_drew ?_))); (case side4 => exact (Kd.R_reads' HO138.out).2.1); rintro e w' ⟨rfl, ⟨nd, rfl⟩⟩))
                                    go_ret
                                    exact ⟨by first | rfl | (simp [errW_none, errW_some] <;> rfl) | (simp only [← hji38]; first | rfl | (simp [errW_none, errW_some] <;> rfl)) | (simp [*, errW_none, errW_some] <;> rfl), by repeat (first | (with_reducible first | exact HB.out | apply below_alloc | apply pw_below_drewN | apply below_drew1) | exact HB.out)⟩
                                · replace c47 := Bool.eq_false_iff.mpr c47
                                  subst c47
                                  have H1 : (some false) = some r := by rw [if_neg (show ¬ (false = true) by decide)] at H; exact H
                                  clear H
                                  have H := H1
                                  clear H1
                                  obtain rfl := Option.some.inj H
                                  have p130 : 0 ≤ ((ji38) : Int) := of_decide_eq_true (by first | (with_reducible assumption) | assumption)
                                  have q130 : (ji38) < (l0.length : Int) := of_decide_eq_true (by first | (with_reducible assumption) | assumption)
                                  obtain ⟨ad130, e130, hx130_0⟩ := Kd.at_string HR0.out (ji38) p130 q130
                                  cases e130
                                  replace hx130_0 := (HB.out.cell (World.block_lt_of_cell? w _ hx130_0)).trans hx130_0
                                  replace p130 := eq_true p130
                                  replace q130 := eq_true q130
                                  go_wp2_with (first | ((with_reducible refine gate_callee (f := 27) rfl ?_); refine goesL_ (some 103) rfl rfl Tryd.func27 (by kernel_rfl) rfl #[.slice (some ad130) l0.length c0, .slice A1 l1.length c1, .string (((rdOf ByteArray.empty l0 (ji38)) ++ (⟨#[32]⟩ : ByteArray)) ++ a3), .int .i64 (((rdOf ByteArray.empty l0 (ji38)).size : Int) + 1 + (a3.size : Int))] rfl (by (try simp only [List.map_toArray, List.map_cons, List.map_nil]); first | done | (simp only [hji38]; rfl) | rfl | (simp only [List.length_drop, List.length_take]; rfl)) ?_; (with_reducible refine (impl_CompletedBy.calls _ _ l0 _ _ l1 (((rdOf ByteArray.empty l0 (ji38)) ++ (⟨#[32]⟩ : ByteArray)) ++ a3) (((rdOf ByteArray.empty l0 (ji38)).size : Int) + 1 + (a3.size : Int)) t131 t132 true _ ?side1 ?side2 ?side3 ?side4 (hsz3 ▸ A43.out)).mono ?_); (case side1 => repeat (first | exact (Kd.C_below HR0.out HB.out) | (with_reducible refine Kd.C_alloc ?_ _) | (with_reducible refine Kd.C_drewN ?_ _) | (with_reducible refine Kd.C_drew ?_))); (case side2 => exact HC0.out); (case side3 => repeat (first | exact (Kd.C_below HR1.out HB.out) | (with_reducible refine Kd.C_alloc ?_ _) | (with_reducible refine Kd.C_drewN ?_ _) | (with_reducible refine Kd.C_drew ?_))); (case side4 => exact HC1.out); rintro e w57 ⟨v134, rfl, ho0, hb⟩; refine ⟨_, rfl, ?_⟩; have n0_ := Aside0.mk (Kd.R_lower ho0 (below_size (by repeat (first | (with_reducible first | exact HB.out | apply below_alloc | apply pw_below_drewN | apply below_drew1) | exact HB.out)))); have n1_ := Aside0.mk (below_step (by repeat (first | (with_reducible first | exact HB.out | apply below_alloc | apply pw_below_drewN | apply below_drew1) | exact HB.out)) hb); clear HB; have HO135 := n0_; have HB := n1_; clear n0_ n1_; (try clear hb); (try clear hb2); (try clear hk); (try clear hi); (try clear ho0)) | ((with_reducible refine gate_callee (f := 28) rfl ?_); refine goesL_ (some 109) rfl rfl Tryd.func28 (by kernel_rfl) rfl #[.slice A1 l1.length c1, .string a3] rfl (by (try simp only [List.map_toArray, List.map_cons, List.map_nil]); first | done | rfl | (simp only [List.length_drop, List.length_take]; rfl) | (simp only [Int.toNat_natCast, ByteArray.extract_zero_size]; rfl)) ?_; (with_reducible refine (spec_Offers.calls kj22 _ _ l1 a3 t136 _ ?side1 ?side2 A44.out).mono ?_); (case side1 => repeat (first | exact (Kd.C_below HR1.out HB.out) | (with_reducible refine Kd.C_alloc ?_ _) | (with_reducible refine Kd.C_drewN ?_ _) | (with_reducible refine Kd.C_drew ?_))); (case side2 => exact HC1.out); rintro e w58 ⟨v137, rfl, ho0, hb⟩; refine ⟨_, rfl, ?_⟩; have n0_ := Aside0.mk (Kd.R_elder' (by (with_reducible repeat (first | apply Kd.R_alloc | apply Kd.R_drewN | apply Kd.R_drew)); exact HO135.out) (Kd.R_base ho0) hb); have n1_ := Aside0.mk (Kd.R_lower (Kd.R_new' ho0 (Kd.R_lt (by (with_reducible repeat (first | apply Kd.R_alloc | apply Kd.R_drewN | apply Kd.R_drew)); exact HO135.out))) (below_size (by repeat (first | (with_reducible first | exact HB.out | apply below_alloc | apply pw_below_drewN | apply below_drew1) | exact HB.out)))); have n2_ := Aside0.mk (below_step (by repeat (first | (with_reducible first | exact HB.out | apply below_alloc | apply pw_below_drewN | apply below_drew1) | exact HB.out)) hb); clear HO135; clear HB; have HO135 := n0_; have HO138 := n1_; have HB := n2_; clear n0_ n1_ n2_; (try clear hb); (try clear hb2); (try clear hk); (try clear hi); (try clear ho0); obtain ⟨Ao59, co59, eo59⟩ := Kd.R_slice HO135.out; subst eo59; obtain ⟨Ao60, co60, eo60⟩ := Kd.R_slice HO138.out; subst eo60) | (go_at_call 20; (with_reducible refine (spec_SameTexts9.calls kj22 _ _ t131 _ _ t136 false _ ?side1 ?side2 ?side3 ?side4 A46.out).mono ?_); (case side1 => repeat (first | exact (Kd.R_reads' HO135.out).2.2 | (with_reducible refine Kd.C_alloc ?_ _) | (with_reducible refine Kd.C_drewN ?_ _) | (with_reducible refine Kd.C_drew ?_))); (case side2 => exact (Kd.R_reads' HO135.out).2.1); (case side3 => repeat (first | exact (Kd.R_reads' HO138.out).2.2 | (with_reducible refine Kd.C_alloc ?_ _) | (with_reducible refine Kd.C_drewN ?_ _) | (with_reducible refine Kd.C_drew ?_))); (case side4 => exact (Kd.R_reads' HO138.out).2.1); rintro e w' ⟨rfl, ⟨nd, rfl⟩⟩))
                                  go_ret
                                  exact ⟨by first | rfl | (simp [errW_none, errW_some] <;> rfl) | (simp only [← hji38]; first | rfl | (simp [errW_none, errW_some] <;> rfl)) | (simp [*, errW_none, errW_some] <;> rfl), by repeat (first | (with_reducible first | exact HB.out | apply below_alloc | apply pw_below_drewN | apply below_drew1) | exact HB.out)⟩
                              · replace c45 := Bool.eq_false_iff.mpr c45
                                subst c45
                                have H1 : (some false) = some r := by rw [if_neg (show ¬ (false = true) by decide)] at H; exact H
                                clear H
                                have H := H1
                                clear H1
                                obtain rfl := Option.some.inj H
                                have p130 : 0 ≤ ((ji38) : Int) := of_decide_eq_true (by first | (with_reducible assumption) | assumption)
                                have q130 : (ji38) < (l0.length : Int) := of_decide_eq_true (by first | (with_reducible assumption) | assumption)
                                obtain ⟨ad130, e130, hx130_0⟩ := Kd.at_string HR0.out (ji38) p130 q130
                                cases e130
                                replace hx130_0 := (HB.out.cell (World.block_lt_of_cell? w _ hx130_0)).trans hx130_0
                                replace p130 := eq_true p130
                                replace q130 := eq_true q130
                                go_wp2_with (first | ((with_reducible refine gate_callee (f := 27) rfl ?_); refine goesL_ (some 103) rfl rfl Tryd.func27 (by kernel_rfl) rfl #[.slice (some ad130) l0.length c0, .slice A1 l1.length c1, .string (((rdOf ByteArray.empty l0 (ji38)) ++ (⟨#[32]⟩ : ByteArray)) ++ a3), .int .i64 (((rdOf ByteArray.empty l0 (ji38)).size : Int) + 1 + (a3.size : Int))] rfl (by (try simp only [List.map_toArray, List.map_cons, List.map_nil]); first | done | (simp only [hji38]; rfl) | rfl | (simp only [List.length_drop, List.length_take]; rfl)) ?_; (with_reducible refine (impl_CompletedBy.calls _ _ l0 _ _ l1 (((rdOf ByteArray.empty l0 (ji38)) ++ (⟨#[32]⟩ : ByteArray)) ++ a3) (((rdOf ByteArray.empty l0 (ji38)).size : Int) + 1 + (a3.size : Int)) t131 t132 false _ ?side1 ?side2 ?side3 ?side4 (hsz3 ▸ A43.out)).mono ?_); (case side1 => repeat (first | exact (Kd.C_below HR0.out HB.out) | (with_reducible refine Kd.C_alloc ?_ _) | (with_reducible refine Kd.C_drewN ?_ _) | (with_reducible refine Kd.C_drew ?_))); (case side2 => exact HC0.out); (case side3 => repeat (first | exact (Kd.C_below HR1.out HB.out) | (with_reducible refine Kd.C_alloc ?_ _) | (with_reducible refine Kd.C_drewN ?_ _) | (with_reducible refine Kd.C_drew ?_))); (case side4 => exact HC1.out); rintro e w61 ⟨v134, rfl, ho0, hb⟩; refine ⟨_, rfl, ?_⟩; have n0_ := Aside0.mk (Kd.R_lower ho0 (below_size (by repeat (first | (with_reducible first | exact HB.out | apply below_alloc | apply pw_below_drewN | apply below_drew1) | exact HB.out)))); have n1_ := Aside0.mk (below_step (by repeat (first | (with_reducible first | exact HB.out | apply below_alloc | apply pw_below_drewN | apply below_drew1) | exact HB.out)) hb); clear HB; have HO135 := n0_; have HB := n1_; clear n0_ n1_; (try clear hb); (try clear hb2); (try clear hk); (try clear hi); (try clear ho0)) | ((with_reducible refine gate_callee (f := 28) rfl ?_); refine goesL_ (some 109) rfl rfl Tryd.func28 (by kernel_rfl) rfl #[.slice A1 l1.length c1, .string a3] rfl (by (try simp only [List.map_toArray, List.map_cons, List.map_nil]); first | done | rfl | (simp only [List.length_drop, List.length_take]; rfl) | (simp only [Int.toNat_natCast, ByteArray.extract_zero_size]; rfl)) ?_; (with_reducible refine (spec_Offers.calls kj22 _ _ l1 a3 t136 _ ?side1 ?side2 A44.out).mono ?_); (case side1 => repeat (first | exact (Kd.C_below HR1.out HB.out) | (with_reducible refine Kd.C_alloc ?_ _) | (with_reducible refine Kd.C_drewN ?_ _) | (with_reducible refine Kd.C_drew ?_))); (case side2 => exact HC1.out); rintro e w62 ⟨v137, rfl, ho0, hb⟩; refine ⟨_, rfl, ?_⟩; have n0_ := Aside0.mk (Kd.R_elder' (by (with_reducible repeat (first | apply Kd.R_alloc | apply Kd.R_drewN | apply Kd.R_drew)); exact HO135.out) (Kd.R_base ho0) hb); have n1_ := Aside0.mk (Kd.R_lower (Kd.R_new' ho0 (Kd.R_lt (by (with_reducible repeat (first | apply Kd.R_alloc | apply Kd.R_drewN | apply Kd.R_drew)); exact HO135.out))) (below_size (by repeat (first | (with_reducible first | exact HB.out | apply below_alloc | apply pw_below_drewN | apply below_drew1) | exact HB.out)))); have n2_ := Aside0.mk (below_step (by repeat (first | (with_reducible first | exact HB.out | apply below_alloc | apply pw_below_drewN | apply below_drew1) | exact HB.out)) hb); clear HO135; clear HB; have HO135 := n0_; have HO138 := n1_; have HB := n2_; clear n0_ n1_ n2_; (try clear hb); (try clear hb2); (try clear hk); (try clear hi); (try clear ho0)))
                                go_ret
                                exact ⟨by first | rfl | (simp [errW_none, errW_some] <;> rfl) | (simp only [← hji38]; first | rfl | (simp [errW_none, errW_some] <;> rfl)) | (simp [*, errW_none, errW_some] <;> rfl), by repeat (first | (with_reducible first | exact HB.out | apply below_alloc | apply pw_below_drewN | apply below_drew1) | exact HB.out)⟩
                            · rw [if_neg c42] at H
                              exact absurd H (by simp)
                          · rw [if_neg c41] at H
                            exact absurd H (by simp)
                        · rw [if_neg c40] at H
                          exact absurd H (by simp)
                      · rw [if_neg c39] at H
                        exact absurd H (by simp)
/-- THE ONE PURE STATEMENT of laws_FnCompletedBy: yours. -/
def laws_FnCompletedBy.Pure : Prop := ∀ (l0 : List ByteArray) (l1 : List ByteArray) (a2 : Int) (a3 : ByteArray), l0.length ≤ maxLen → (∀ x ∈ l0, x.size ≤ maxLen) → l1.length ≤ maxLen → (∀ x ∈ l1, x.size ≤ maxLen) → (Lit.int .u8 a2).wf = true → a3.size ≤ maxLen → ∃ k, laws_FnCompletedBy.f k l0 l1 a2 a3 = some true
theorem laws_FnCompletedBy.walk (P : laws_FnCompletedBy.Pure) (A0 : Option Addr) (c0 : Nat) (l0 : List ByteArray) (A1 : Option Addr) (c1 : Nat) (l1 : List ByteArray) (a2 : Int) (a3 : ByteArray) (w : World) (hr0 : Kd.C Kd.string w A0 l0.length l0) (hc0 : l0.length ≤ c0) (hm0 : l0.length ≤ maxLen) (hg0 : ∀ x ∈ l0, x.size ≤ maxLen) (hr1 : Kd.C Kd.string w A1 l1.length l1) (hc1 : l1.length ≤ c1) (hm1 : l1.length ≤ maxLen) (hg1 : ∀ x ∈ l1, x.size ≤ maxLen) (hg2 : (Lit.int .u8 a2).wf = true) (hg3 : a3.size ≤ maxLen) :
    Calls Tryd.prog 7 #[.slice A0 l0.length c0, .slice A1 l1.length c1, .int .u8 a2, .string a3] w fun e w' => e = .returned (.bool true) ∧ Below w.heap.size w w' := by
  obtain ⟨k, h⟩ := P l0 l1 a2 a3 hm0 hg0 hm1 hg1 hg2 hg3
  refine (laws_FnCompletedBy.calls k A0 c0 l0 A1 c1 l1 a2 a3 true w hr0 hc0 hr1 hc1 h).mono ?_
  rintro e w' ⟨rfl, hd⟩
  exact ⟨rfl, hd⟩
end Go.Proofs.YthbdaoapjnofkaaDoor.PFnCompletedBy
