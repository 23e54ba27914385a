/- Printed by a program of this seat (xprint) out of the translation: Go functions as plain functions, and the walks that show them; no condition. -/
import Derived.Test.YtanadaamipfmkaaDoorQPFnIndentedx0
import Derived.Test.YtanadaamipfmkaaDoorQHIu
namespace Go.Proofs.YtanadaamipfmkaaDoor.PFnIndented
open Go.RowKit Go.Proofs.YtanadaamipfmkaaDoor.H Go.Proofs.YtanadaamipfmkaaDoor.R Go.Proofs.YtanadaamipfmkaaDoorW.PrintWords Go.Proofs.YtanadaamipfmkaaDoorW.PrintLast Go.Proofs.YtanadaamipfmkaaDoorW.PrintMore
attribute [local go_sem] max2_int min2_int max_two min_two max_three min_three max_four min_four   -- for this text's walks alone
set_option linter.unusedVariables false
set_option linter.unusedSimpArgs false
/-! ### spec_Rows: function 31 -/
def spec_Rows.l0 : Nat → ByteArray → List ByteArray → Int → Int → Option (List ByteArray)
  | 0, _, _, _, _ => none
  | k + 1, x0, x3, x4, x5 => if x5 ≤ (x0.size : Int) then (if x5 = (x0.size : Int) then (if 0 ≤ x4 then (if x4 ≤ x5 then (if x3.length < 8796093022208 then (spec_Rows.l0 k x0 (x3 ++ [x0.extract (x4 : Int).toNat (x5 : Int).toNat]) (wrap64 (x5 + 1)) (wrap64 (x5 + 1))) else (none)) else (none)) else (none)) else (if 0 ≤ x5 then (if x5 < (x0.size : Int) then (if (bt x0 x5) = 10 then (if 0 ≤ x4 then (if x4 ≤ x5 then (if x3.length < 8796093022208 then (spec_Rows.l0 k x0 (x3 ++ [x0.extract (x4 : Int).toNat (x5 : Int).toNat]) (wrap64 (x5 + 1)) (wrap64 (x5 + 1))) else (none)) else (none)) else (none)) else (spec_Rows.l0 k x0 x3 x4 (wrap64 (x5 + 1)))) else (none)) else (none))) else (some x3)
def spec_Rows.f (k : Nat) (a0 : ByteArray) : Option (List ByteArray) := spec_Rows.l0 k a0 ([] : List ByteArray) 0 0
theorem spec_Rows.mono_l : ∀ k, (∀ y0 y1 y2 y3, LeO (spec_Rows.l0 k y0 y1 y2 y3) (spec_Rows.l0 (k + 1) y0 y1 y2 y3))
  | 0 => fun _ _ _ _ r h => by simp [spec_Rows.l0] at h
  | k + 1 => by
    have ih0 := spec_Rows.mono_l k
    · intro y0 y1 y2 y3
      unfold spec_Rows.l0
      repeat' first
      | (with_reducible exact ih0 _ _ _ _)
      | (with_reducible exact LeO.refl _)
      | (with_reducible exact LeO.none _)
      | (with_reducible refine LeO.ite ?_ ?_)
      | (with_reducible refine LeO.bind ?_ (fun _ => ?_))
      | exact ih0 _ _ _ _
      | exact LeO.none _
      | refine LeO.ite ?_ ?_
      | refine LeO.bind ?_ (fun _ => ?_)
theorem spec_Rows.mono : ∀ a0 k, LeO (spec_Rows.f k a0) (spec_Rows.f (k + 1) a0) := by
  intro a0 k
  have ih0 := spec_Rows.mono_l k
  unfold spec_Rows.f
  repeat' first
      | (with_reducible exact ih0 _ _ _ _)
      | (with_reducible exact LeO.refl _)
      | (with_reducible exact LeO.none _)
      | (with_reducible refine LeO.ite ?_ ?_)
      | (with_reducible refine LeO.bind ?_ (fun _ => ?_))
      | exact ih0 _ _ _ _
      | exact LeO.none _
      | refine LeO.ite ?_ ?_
      | refine LeO.bind ?_ (fun _ => ?_)
set_option maxHeartbeats 8000000 in
set_option maxRecDepth 100000 in
theorem spec_Rows.calls (k : Nat) (a0 : ByteArray) (r : List ByteArray) (w : World) (h : spec_Rows.f k a0 = some r) :
    Calls Tryd.prog 31 #[.string a0] w fun e w' => ∃ v0_ : Value, e = .returned (v0_) ∧ Kd.R Kd.string 9 w' w.heap.size (fun _ => True) v0_ r ∧ Below w.heap.size w w' := by
  have HB := Aside0.mk (Below.refl w.heap.size w)
  have H : (spec_Rows.l0 k a0 ([] : List ByteArray) 0 0) = some r := h
  clear h
  have H' := Aside0.mk H
  clear H
  go_enter Tryd.func31, Tryd.ntmps31
  go_wp2
  go_loopg [3, 4, 5] k (fun kq v3 v4 v5 w' => ∃ (x3_1 : List ByteArray) (x4_1 : Int) (x5_1 : Int), v4 = .int .i64 x4_1 ∧ v5 = .int .i64 x5_1 ∧ Aside0 (spec_Rows.l0 kq a0 x3_1 x4_1 x5_1 = some r) ∧ Aside0 (kq ≤ k) ∧ Aside0 (Kd.R Kd.string 9 w' w.heap.size (fun _ => True) v3 x3_1) ∧ Aside0 (Below w.heap.size w w'))
  case atStart => exact ⟨(([] : List ByteArray)), (0), (0), (by first | rfl | (simp; done) | (simp [*]; done)), (by first | rfl | (simp; done) | (simp [*]; done)), H', ⟨Nat.le_refl _⟩, ⟨by first | exact Kd.R_nil _ _ _ _ _ | exact Kd.N_nil _ _ _ _ _ | exact Kd.V_nil _ _ _ _ _ | exact Kd.Q_nil _ _ _ _ _ | exact Kd.S_nil _ _ _ _ _⟩, ⟨by repeat (first | (with_reducible first | exact HB.out | apply below_alloc | apply pw_below_drewN | apply below_drew1) | exact HB.out)⟩⟩
  case round =>
    clear H'
    obtain ⟨x3_1, x4_1, x5_1, rfl, rfl, HA, HK1, HO_3, HB⟩ := hrel
    cases gk with
    | zero => exact absurd HA.out (by simp [spec_Rows.l0])
    | succ k1 =>
      have H := HA.out
      clear HA
      simp only [spec_Rows.l0] at H
      by_cases c2 : x5_1 ≤ (a0.size : Int)
      · rw [if_pos c2] at H
        have c2b0 : decide (x5_1 ≤ (a0.size : Int)) = true := decide_eq_true c2
        clear c2
        by_cases c3 : x5_1 = (a0.size : Int)
        · rw [if_pos c3] at H
          have c3b0 : (x5_1 == (a0.size : Int)) = true := beq_iff_eq.mpr c3
          have c3b1 : (x5_1 != (a0.size : Int)) = false := bne_eq_false_iff_eq.mpr c3
          clear c3
          by_cases c4 : 0 ≤ x4_1
          · rw [if_pos c4] at H
            have c4b0 := eq_true c4
            have c4b1 : decide (0 ≤ x4_1) = true := decide_eq_true c4
            clear c4
            by_cases c5 : x4_1 ≤ x5_1
            · rw [if_pos c5] at H
              have c5b0 := eq_true c5
              have c5b1 : decide (x4_1 ≤ x5_1) = true := decide_eq_true c5
              clear c5
              have c6b0 := eq_true (of_decide_eq_true (by first | (with_reducible assumption) | assumption) : x5_1 ≤ (a0.size : Int))
              by_cases c7 : x3_1.length < 8796093022208
              · rw [if_pos c7] at H
                have LMc7 := Aside0.mk c7
                clear c7
                obtain ⟨y101, hy101⟩ : ∃ y_ : List ByteArray, y_ = (x3_1 ++ [a0.extract (x4_1 : Int).toNat (x5_1 : Int).toNat]) := ⟨_, rfl⟩
                replace H : (spec_Rows.l0 k1 a0 y101 (wrap64 (x5_1 + 1)) (wrap64 (x5_1 + 1))) = some r := by first | (rw [hy101]; with_reducible exact H) | (have H2_ := (Option.bind_some _ _).symm.trans H; rw [hy101]; with_reducible exact H2_) | (have H2_ := (Option.bind_some _ _).symm.trans H; with_reducible exact H2_) | with_reducible exact H | (rw [hy101]; exact H) | exact H
                have Ny101 := Aside0.mk hy101
                clear hy101
                have H' := Aside0.mk H
                clear H
                go_wp2_with (first | ((with_reducible refine gate_builtin (b := .append) (xs := #[.tmp 22, .tmp 27]) rfl ?_); at_builtin; refine Kd.R_append Kd.string (w0 := w) w.heap.size rfl (.tmp 22) (.tmp 27) 22 9 (.string ⟨#[]⟩) 16 rfl Tryd.underlying22 info9 rfl (by decide) (by omega) u3 x3_1 (a0.extract (x4_1 : Int).toNat (x5_1 : Int).toNat) [.string (a0.extract (x4_1 : Int).toNat (x5_1 : Int).toNat)] (fun _ => True) (fun _ => False) rfl rfl ?aP (fun _ hk => hk.elim) ?aF ?aO ?aB ?aS ?aL ?_; (case aP => exact rfl); (case aB => exact (by repeat (first | (with_reducible first | exact HB.out | apply below_alloc | apply pw_below_drewN | apply below_drew1) | exact HB.out))); (case aF => exact (fun _ _ => trivial)); (case aO => exact (by (with_reducible repeat (first | apply Kd.R_alloc | apply Kd.R_drewN | apply Kd.R_drew)); exact HO_3.out)); (case aS => exact (below_size (by repeat (first | (with_reducible first | exact HB.out | apply below_alloc | apply pw_below_drewN | apply below_drew1) | exact HB.out)))); (case aL => have := LMc7.out; omega); intro v102 w8 ho hb hg hat; rw [← Ny101.out] at ho; have n0_ := Aside0.mk (hb); have n1_ := Aside0.mk (ho); clear HB; clear HO_3; have HB := n0_; have HO103 := n1_; clear n0_ n1_; clear ho hb hg hat))
                go_roundg k1
                case measure => have := HK1.out; omega
                case rel => exact ⟨(y101), (wrap64 (x5_1 + 1)), (wrap64 (x5_1 + 1)), (by first | rfl | (simp; done) | (simp [*]; done)), (by first | rfl | (simp; done) | (simp [*]; done)), H', ⟨by have := HK1.out; omega⟩, ⟨by (with_reducible repeat (first | apply Kd.R_alloc | apply Kd.R_drewN | apply Kd.R_drew)); exact HO103.out⟩, ⟨by repeat (first | (with_reducible first | exact HB.out | apply below_alloc | apply pw_below_drewN | apply below_drew1) | exact HB.out)⟩⟩
              · rw [if_neg c7] at H
                exact absurd H (by simp)
            · rw [if_neg c5] at H
              exact absurd H (by simp)
          · rw [if_neg c4] at H
            exact absurd H (by simp)
        · rw [if_neg c3] at H
          have c3b0 : (x5_1 == (a0.size : Int)) = false := beq_eq_false_iff_ne.mpr c3
          have c3b1 : (x5_1 != (a0.size : Int)) = true := bne_iff_ne.mpr c3
          by_cases c9 : 0 ≤ x5_1
          · rw [if_pos c9] at H
            have c9b0 : decide (0 ≤ x5_1) = true := decide_eq_true c9
            clear c9
            by_cases c10 : x5_1 < (a0.size : Int)
            · rw [if_pos c10] at H
              have c10b0 : decide (x5_1 < (a0.size : Int)) = true := decide_eq_true c10
              clear c10
              by_cases c12 : (bt a0 x5_1) = 10
              · rw [if_pos c12] at H
                have c12b0 : ((bt a0 x5_1) == 10) = true := beq_iff_eq.mpr c12
                have c12b1 : ((bt a0 x5_1) != 10) = false := bne_eq_false_iff_eq.mpr c12
                clear c12
                by_cases c13 : 0 ≤ x4_1
                · rw [if_pos c13] at H
                  have c13b0 := eq_true c13
                  have c13b1 : decide (0 ≤ x4_1) = true := decide_eq_true c13
                  clear c13
                  by_cases c14 : x4_1 ≤ x5_1
                  · rw [if_pos c14] at H
                    have c14b0 := eq_true c14
                    have c14b1 : decide (x4_1 ≤ x5_1) = true := decide_eq_true c14
                    clear c14
                    have c15b0 := eq_true (of_decide_eq_true (by first | (with_reducible assumption) | assumption) : x5_1 ≤ (a0.size : Int))
                    by_cases c16 : x3_1.length < 8796093022208
                    · rw [if_pos c16] at H
                      have LMc16 := Aside0.mk c16
                      clear c16
                      obtain ⟨y104, hy104⟩ : ∃ y_ : List ByteArray, y_ = (x3_1 ++ [a0.extract (x4_1 : Int).toNat (x5_1 : Int).toNat]) := ⟨_, rfl⟩
                      replace H : (spec_Rows.l0 k1 a0 y104 (wrap64 (x5_1 + 1)) (wrap64 (x5_1 + 1))) = some r := by first | (rw [hy104]; with_reducible exact H) | (have H2_ := (Option.bind_some _ _).symm.trans H; rw [hy104]; with_reducible exact H2_) | (have H2_ := (Option.bind_some _ _).symm.trans H; with_reducible exact H2_) | with_reducible exact H | (rw [hy104]; exact H) | exact H
                      have Ny104 := Aside0.mk hy104
                      clear hy104
                      have H' := Aside0.mk H
                      clear H
                      have p11 : 0 ≤ (x5_1 : Int) := of_decide_eq_true (by first | (with_reducible assumption) | assumption)
                      have q11 : x5_1 < (a0.size : Int) := of_decide_eq_true (by first | (with_reducible assumption) | assumption)
                      have hx11 := bt_at a0 x5_1
                      replace p11 := eq_true p11
                      replace q11 := eq_true q11
                      go_wp2_with (first | ((with_reducible refine gate_builtin (b := .append) (xs := #[.tmp 22, .tmp 27]) rfl ?_); at_builtin; refine Kd.R_append Kd.string (w0 := w) w.heap.size rfl (.tmp 22) (.tmp 27) 22 9 (.string ⟨#[]⟩) 16 rfl Tryd.underlying22 info9 rfl (by decide) (by omega) u3 x3_1 (a0.extract (x4_1 : Int).toNat (x5_1 : Int).toNat) [.string (a0.extract (x4_1 : Int).toNat (x5_1 : Int).toNat)] (fun _ => True) (fun _ => False) rfl rfl ?aP (fun _ hk => hk.elim) ?aF ?aO ?aB ?aS ?aL ?_; (case aP => exact rfl); (case aB => exact (by repeat (first | (with_reducible first | exact HB.out | apply below_alloc | apply pw_below_drewN | apply below_drew1) | exact HB.out))); (case aF => exact (fun _ _ => trivial)); (case aO => exact (by (with_reducible repeat (first | apply Kd.R_alloc | apply Kd.R_drewN | apply Kd.R_drew)); exact HO_3.out)); (case aS => exact (below_size (by repeat (first | (with_reducible first | exact HB.out | apply below_alloc | apply pw_below_drewN | apply below_drew1) | exact HB.out)))); (case aL => have := LMc16.out; omega); intro v105 w17 ho hb hg hat; rw [← Ny104.out] at ho; have n0_ := Aside0.mk (hb); have n1_ := Aside0.mk (ho); clear HB; clear HO_3; have HB := n0_; have HO106 := n1_; clear n0_ n1_; clear ho hb hg hat))
                      go_roundg k1
                      case measure => have := HK1.out; omega
                      case rel => exact ⟨(y104), (wrap64 (x5_1 + 1)), (wrap64 (x5_1 + 1)), (by first | rfl | (simp; done) | (simp [*]; done)), (by first | rfl | (simp; done) | (simp [*]; done)), H', ⟨by have := HK1.out; omega⟩, ⟨by (with_reducible repeat (first | apply Kd.R_alloc | apply Kd.R_drewN | apply Kd.R_drew)); exact HO106.out⟩, ⟨by repeat (first | (with_reducible first | exact HB.out | apply below_alloc | apply pw_below_drewN | apply below_drew1) | exact HB.out)⟩⟩
                    · rw [if_neg c16] at H
                      exact absurd H (by simp)
                  · rw [if_neg c14] at H
                    exact absurd H (by simp)
                · rw [if_neg c13] at H
                  exact absurd H (by simp)
              · rw [if_neg c12] at H
                have c12b0 : ((bt a0 x5_1) == 10) = false := beq_eq_false_iff_ne.mpr c12
                have c12b1 : ((bt a0 x5_1) != 10) = true := bne_iff_ne.mpr c12
                have H' := Aside0.mk H
                clear H
                have p11 : 0 ≤ (x5_1 : Int) := of_decide_eq_true (by first | (with_reducible assumption) | assumption)
                have q11 : x5_1 < (a0.size : Int) := of_decide_eq_true (by first | (with_reducible assumption) | assumption)
                have hx11 := bt_at a0 x5_1
                replace p11 := eq_true p11
                replace q11 := eq_true q11
                go_wp2
                go_roundg k1
                case measure => have := HK1.out; omega
                case rel => exact ⟨(x3_1), (x4_1), (wrap64 (x5_1 + 1)), (by first | rfl | (simp; done) | (simp [*]; done)), (by first | rfl | (simp; done) | (simp [*]; done)), H', ⟨by have := HK1.out; omega⟩, ⟨by (with_reducible repeat (first | apply Kd.R_alloc | apply Kd.R_drewN | apply Kd.R_drew)); exact HO_3.out⟩, ⟨by repeat (first | (with_reducible first | exact HB.out | apply below_alloc | apply pw_below_drewN | apply below_drew1) | exact HB.out)⟩⟩
            · rw [if_neg c10] at H
              exact absurd H (by simp)
          · rw [if_neg c9] at H
            exact absurd H (by simp)
      · rw [if_neg c2] at H
        have c2b0 : decide (x5_1 ≤ (a0.size : Int)) = false := decide_eq_false c2
        clear c2
        obtain rfl := Option.some.inj H
        go_wp2
        go_ret
        exact ⟨_, by first | rfl | (simp [errW_none, errW_some] <;> rfl) | (simp [*, errW_none, errW_some] <;> rfl), by (with_reducible repeat (first | apply Kd.R_alloc | apply Kd.R_drewN | apply Kd.R_drew)); exact HO_3.out, by repeat (first | (with_reducible first | exact HB.out | apply below_alloc | apply pw_below_drewN | apply below_drew1) | exact HB.out)⟩
/-! ### spec_Blanks: function 32 -/
def spec_Blanks.l0 : Nat → List Int → Int → Option (ByteArray)
  | 0, _, _ => none
  | k + 1, x3, x4 => if x4 < (x3.length : Int) then (if 0 ≤ x4 then (spec_Blanks.l0 k (x3.set (x4 : Int).toNat 32) (wrap64 (x4 + 1))) else (none)) else (some (strOfNums x3))
def spec_Blanks.f (k : Nat) (a0 : Int) : Option (ByteArray) := if 0 ≤ (mx 0 a0) then (if (mx 0 a0 : Int).toNat ≤ 281474976710656 then (spec_Blanks.l0 k (List.replicate (mx 0 a0 : Int).toNat 0) 0) else (none)) else (none)
theorem spec_Blanks.mono_l : ∀ k, (∀ y0 y1, LeO (spec_Blanks.l0 k y0 y1) (spec_Blanks.l0 (k + 1) y0 y1))
  | 0 => fun _ _ r h => by simp [spec_Blanks.l0] at h
  | k + 1 => by
    have ih0 := spec_Blanks.mono_l k
    · intro y0 y1
      unfold spec_Blanks.l0
      repeat' first
      | (with_reducible exact ih0 _ _)
      | (with_reducible exact LeO.refl _)
      | (with_reducible exact LeO.none _)
      | (with_reducible refine LeO.ite ?_ ?_)
      | (with_reducible refine LeO.bind ?_ (fun _ => ?_))
      | exact ih0 _ _
      | exact LeO.none _
      | refine LeO.ite ?_ ?_
      | refine LeO.bind ?_ (fun _ => ?_)
theorem spec_Blanks.mono : ∀ a0 k, LeO (spec_Blanks.f k a0) (spec_Blanks.f (k + 1) a0) := by
  intro a0 k
  have ih0 := spec_Blanks.mono_l k
  unfold spec_Blanks.f
  repeat' first
      | (with_reducible exact ih0 _ _)
      | (with_reducible exact LeO.refl _)
      | (with_reducible exact LeO.none _)
      | (with_reducible refine LeO.ite ?_ ?_)
      | (with_reducible refine LeO.bind ?_ (fun _ => ?_))
      | exact ih0 _ _
      | exact LeO.none _
      | refine LeO.ite ?_ ?_
      | refine LeO.bind ?_ (fun _ => ?_)
set_option maxHeartbeats 8000000 in
set_option maxRecDepth 100000 in
theorem spec_Blanks.calls (k : Nat) (a0 : Int) (r : ByteArray) (w : World) (h : spec_Blanks.f k a0 = some r) :
    Calls Tryd.prog 32 #[.int .i64 a0] w fun e w' => e = .returned (.string r) ∧ Below w.heap.size w w' := by
  have HB := Aside0.mk (Below.refl w.heap.size w)
  have H : (if 0 ≤ (mx 0 a0) then (if (mx 0 a0 : Int).toNat ≤ 281474976710656 then (spec_Blanks.l0 k (List.replicate (mx 0 a0 : Int).toNat 0) 0) else (none)) else (none)) = some r := h
  clear h
  obtain ⟨ji2, hji2⟩ : ∃ j_ : Int, (mx 0 a0) = j_ := ⟨_, rfl⟩
  replace H : (if 0 ≤ (ji2) then (if (ji2 : Int).toNat ≤ 281474976710656 then (spec_Blanks.l0 k (List.replicate (ji2 : Int).toNat 0) 0) else (none)) else (none)) = some r := by first | (rw [hji2] at H; exact H) | (simp only [hji2] at H ⊢; exact H)
  (try (have hji2l : 0 ≤ ji2 := by (rw [← hji2]; unfold mx; (repeat' split) <;> omega)))
  (try (have hji2m : 0 ≤ ji2 := by omega))
  have hji2_ : (if 0 < a0 then a0 else 0) = ji2 := hji2
  by_cases c3 : 0 ≤ (ji2)
  · rw [if_pos c3] at H
    have c3b0 := eq_true c3
    have c3b1 : decide (0 ≤ (ji2)) = true := decide_eq_true c3
    clear c3
    by_cases c4 : (ji2 : Int).toNat ≤ 281474976710656
    · rw [if_pos c4] at H
      have c4b0 := eq_true c4
      have c4b1 : decide ((ji2 : Int).toNat ≤ 281474976710656) = true := decide_eq_true c4
      clear c4
      obtain ⟨y107, hy107⟩ : ∃ y_ : List Int, y_ = (List.replicate (ji2 : Int).toNat 0) := ⟨_, rfl⟩
      replace H : (spec_Blanks.l0 k y107 0) = some r := by first | (rw [hy107]; with_reducible exact H) | (have H2_ := (Option.bind_some _ _).symm.trans H; rw [hy107]; with_reducible exact H2_) | (have H2_ := (Option.bind_some _ _).symm.trans H; with_reducible exact H2_) | with_reducible exact H | (rw [hy107]; exact H) | exact H
      have Ny107 := Aside0.mk hy107
      clear hy107
      have H' := Aside0.mk H
      clear H
      go_enter Tryd.func32, Tryd.ntmps32
      go_wp2_with (first | ((with_reducible refine gate_dst (N := 7) rfl ?_); refine Kd.R_make (Kd.int .u8) _ 5 rfl (N := 7) rfl 47 _ _ rfl ji2 rfl rfl Tryd.underlying47 (.int .u8 0) 1 info5 rfl (by decide) (by omega) 0 (ok := fun _ => True) (okp := fun _ => True) rfl (fun _ hk => hk) trivial (of_decide_eq_true (by first | (with_reducible assumption) | assumption)) (Nat.le_trans (Nat.mul_le_mul_right _ (of_decide_eq_true (by first | (with_reducible assumption) | assumption) : ji2.toNat ≤ 281474976710656)) (by omega)) (Below.refl _ _) (Nat.le_refl _) ?_; intro v108 w5 ho6 hb hg_ hnew_; clear hg_ hnew_; (first | rw [← Ny107.out] at ho6 | (simp only [Int.reduceToNat] at ho6; rw [← Ny107.out] at ho6)); have n0_ := Aside0.mk (Kd.R_lower ho6 (below_size (by repeat (first | (with_reducible first | exact HB.out | apply below_alloc | apply pw_below_drewN | apply below_drew1) | exact HB.out)))); have n1_ := Aside0.mk (below_step (by repeat (first | (with_reducible first | exact HB.out | apply below_alloc | apply pw_below_drewN | apply below_drew1) | exact HB.out)) hb); clear HB; have HO109 := n0_; have HB := n1_; clear n0_ n1_; clear hb ho6))
      go_loopg [4] k (fun kq v4 w' => ∃ (x3_1 : List Int) (x4_1 : Int), v4 = .int .i64 x4_1 ∧ Aside0 (spec_Blanks.l0 kq x3_1 x4_1 = some r) ∧ Aside0 (kq ≤ k) ∧ Aside0 (Kd.R (Kd.int .u8) 5 w' w.heap.size (fun _ => True) v108 x3_1) ∧ Aside0 (Below w.heap.size w w'))
      case atStart => exact ⟨(y107), (0), (by first | rfl | (simp; done) | (simp [*]; done)), H', ⟨Nat.le_refl _⟩, ⟨by (with_reducible repeat (first | apply Kd.R_alloc | apply Kd.R_drewN | apply Kd.R_drew)); exact HO109.out⟩, ⟨by repeat (first | (with_reducible first | exact HB.out | apply below_alloc | apply pw_below_drewN | apply below_drew1) | exact HB.out)⟩⟩
      case round =>
        clear H'
        try clear p2
        try clear c3
        try clear c3b0
        try clear c3b1
        try clear c4
        try clear c4b0
        try clear c4b1
        obtain ⟨x3_1, x4_1, rfl, HA, HK1, HO_3, HB⟩ := hrel
        cases gk with
        | zero => exact absurd HA.out (by simp [spec_Blanks.l0])
        | succ k1 =>
          have H := HA.out
          clear HA
          simp only [spec_Blanks.l0] at H
          by_cases c7 : x4_1 < (x3_1.length : Int)
          · rw [if_pos c7] at H
            have c7b0 : decide (x4_1 < (x3_1.length : Int)) = true := decide_eq_true c7
            clear c7
            by_cases c8 : 0 ≤ x4_1
            · rw [if_pos c8] at H
              have c8b0 : decide (0 ≤ x4_1) = true := decide_eq_true c8
              clear c8
              obtain ⟨y110, hy110⟩ : ∃ y_ : List Int, y_ = (x3_1.set (x4_1 : Int).toNat 32) := ⟨_, rfl⟩
              replace H : (spec_Blanks.l0 k1 y110 (wrap64 (x4_1 + 1))) = some r := by first | (rw [hy110]; with_reducible exact H) | (have H2_ := (Option.bind_some _ _).symm.trans H; rw [hy110]; with_reducible exact H2_) | (have H2_ := (Option.bind_some _ _).symm.trans H; with_reducible exact H2_) | with_reducible exact H | (rw [hy110]; exact H) | exact H
              have Ny110 := Aside0.mk hy110
              clear hy110
              have H' := Aside0.mk H
              clear H
              obtain ⟨Ao10, co10, eo10⟩ := Kd.R_slice HO_3.out
              subst eo10
              have p9 : 0 ≤ (x4_1 : Int) := of_decide_eq_true (by first | (with_reducible assumption) | assumption)
              have q9 : (x4_1 : Int) < ((x3_1.length : Int) : Int) := of_decide_eq_true (by first | (with_reducible assumption) | assumption)
              obtain ⟨go9, co9, eo9, gb9, gl9, cl9, HG9⟩ := Kd.R_form HO_3.out (by omega)
              (first | cases eo9 | (injection eo9 with ea_ en_ ec_; (first | subst ea_ | (injection ea_ with ea_; subst ea_)); subst ec_; clear en_))
              have GB9 := Aside0.mk gb9
              have GG9 := Aside0.mk HG9
              clear gb9 gl9 HG9
              obtain ⟨hx9_0, hf9_0⟩ := Kd.R_celln 0 HO_3.out (x4_1 : Int) p9 q9
              replace p9 := eq_true p9
              replace q9 := eq_true q9
              have HP11 := Kd.R_putg HO_3.out (x4_1 : Int) 32
              go_wp2_with (first | ((with_reducible refine gate_store (t := 5) (p := 16) rfl ?_); refine store_event (t := 5) (p := 16) (v := ?vo_w12) (w1 := (wr.setCell ⟨go9, (x4_1 : Int).toNat, none⟩ (.int .u8 32))) ?hg ?ho ?hn ?hr ?_; (case ho => rfl); (case hg => rfl); (case hn => rfl); (case hr => first | (go_simp; done) | (go_simp; rfl)); intro w12 hw; have hg : wr.grownBy w12 (some go9) := (by rw [hw]; exact HP11.2); have hp_ : Kd.R (Kd.int .u8) 5 w12 w.heap.size (fun _ => True) (.slice (some ⟨go9, 0, none⟩) x3_1.length co10) y110 := (by rw [hw, Ny110.out]; exact HP11.1); clear HP11; have n0_ := Aside0.mk (hp_); have n1_ := Aside0.mk ((by rw [hw]; exact below_set (HB.out) GB9.out : Below w.heap.size w w12)); clear HO_3; clear HB; have HO_3 := n0_; have HB := n1_; clear n0_ n1_; clear hg hw hp_))
              go_roundg k1
              case measure => have := HK1.out; omega
              case rel => exact ⟨(y110), (wrap64 (x4_1 + 1)), (by first | rfl | (simp; done) | (simp [*]; done)), H', ⟨by have := HK1.out; omega⟩, ⟨by (with_reducible repeat (first | apply Kd.R_alloc | apply Kd.R_drewN | apply Kd.R_drew)); exact HO_3.out⟩, ⟨by repeat (first | (with_reducible first | exact HB.out | apply below_alloc | apply pw_below_drewN | apply below_drew1) | exact HB.out)⟩⟩
            · rw [if_neg c8] at H
              exact absurd H (by simp)
          · rw [if_neg c7] at H
            have c7b0 : decide (x4_1 < (x3_1.length : Int)) = false := decide_eq_false c7
            clear c7
            obtain rfl := Option.some.inj H
            obtain ⟨Ao13, co13, eo13⟩ := Kd.R_slice HO_3.out
            subst eo13
            have hcv14 := own_string (P := Tryd.prog) Tryd.underlying47 Tryd.underlying5 Tryd.underlying9 (Kd.own_of_R HO_3.out)
            have hcv14n := fun n_ => own_string (P := Tryd.prog) Tryd.underlying47 Tryd.underlying5 Tryd.underlying9 (Kd.own_of_R (Kd.R_drewN HO_3.out n_))
            go_wp2
            go_ret
            exact ⟨by first | rfl | (simp [errW_none, errW_some] <;> rfl) | (simp only [← hji2]; first | rfl | (simp [errW_none, errW_some] <;> rfl)) | (simp [*, errW_none, errW_some] <;> rfl), by repeat (first | (with_reducible first | exact HB.out | apply below_alloc | apply pw_below_drewN | apply below_drew1) | exact HB.out)⟩
    · rw [if_neg c4] at H
      exact absurd H (by simp)
  · rw [if_neg c3] at H
    exact absurd H (by simp)
/-! ### spec_Together: function 33 -/
def spec_Together.l0 : Nat → List ByteArray → ByteArray → Int → Option (ByteArray)
  | 0, _, _, _ => none
  | k + 1, x0, x3, x4 => if x4 < (x0.length : Int) then (if x4 > 0 then (if x3.size + 1 ≤ 9223372036854775807 then (if 0 ≤ x4 then (if (x3 ++ (⟨#[10]⟩ : ByteArray)).size + (rdOf ByteArray.empty x0 x4).size ≤ 9223372036854775807 then (spec_Together.l0 k x0 ((x3 ++ (⟨#[10]⟩ : ByteArray)) ++ (rdOf ByteArray.empty x0 x4)) (wrap64 (x4 + 1))) else (none)) else (none)) else (none)) else (if 0 ≤ x4 then (if x3.size + (rdOf ByteArray.empty x0 x4).size ≤ 9223372036854775807 then (spec_Together.l0 k x0 (x3 ++ (rdOf ByteArray.empty x0 x4)) (wrap64 (x4 + 1))) else (none)) else (none))) else (some x3)
def spec_Together.f (k : Nat) (l0 : List ByteArray) : Option (ByteArray) := spec_Together.l0 k l0 (⟨#[]⟩ : ByteArray) 0
theorem spec_Together.mono_l : ∀ k, (∀ y0 y1 y2, LeO (spec_Together.l0 k y0 y1 y2) (spec_Together.l0 (k + 1) y0 y1 y2))
  | 0 => fun _ _ _ r h => by simp [spec_Together.l0] at h
  | k + 1 => by
    have ih0 := spec_Together.mono_l k
    · intro y0 y1 y2
      unfold spec_Together.l0
      repeat' first
      | (with_reducible exact ih0 _ _ _)
      | (with_reducible exact LeO.refl _)
      | (with_reducible exact LeO.none _)
      | (with_reducible refine LeO.ite ?_ ?_)
      | (with_reducible refine LeO.bind ?_ (fun _ => ?_))
      | exact ih0 _ _ _
      | exact LeO.none _
      | refine LeO.ite ?_ ?_
      | refine LeO.bind ?_ (fun _ => ?_)
theorem spec_Together.mono : ∀ a0 k, LeO (spec_Together.f k a0) (spec_Together.f (k + 1) a0) := by
  intro a0 k
  have ih0 := spec_Together.mono_l k
  unfold spec_Together.f
  repeat' first
      | (with_reducible exact ih0 _ _ _)
      | (with_reducible exact LeO.refl _)
      | (with_reducible exact LeO.none _)
      | (with_reducible refine LeO.ite ?_ ?_)
      | (with_reducible refine LeO.bind ?_ (fun _ => ?_))
      | exact ih0 _ _ _
      | exact LeO.none _
      | refine LeO.ite ?_ ?_
      | refine LeO.bind ?_ (fun _ => ?_)
set_option maxHeartbeats 8000000 in
set_option maxRecDepth 100000 in
theorem spec_Together.calls (k : Nat) (A0 : Option Addr) (c0 : Nat) (l0 : List ByteArray) (r : ByteArray) (w : World) (hr0 : Kd.C Kd.string w A0 l0.length l0) (hc0 : l0.length ≤ c0) (h : spec_Together.f k l0 = some r) :
    Calls Tryd.prog 33 #[.slice A0 l0.length c0] w fun e w' => e = .returned (.string r) ∧ Drawn0 w w' := by
  have HR0 := Aside0.mk hr0
  have HC0 := Aside0.mk hc0
  clear hr0 hc0
  have H : (spec_Together.l0 k l0 (⟨#[]⟩ : ByteArray) 0) = some r := h
  clear h
  have H' := Aside0.mk H
  clear H
  go_enter Tryd.func33, Tryd.ntmps33
  go_wp2
  go_loopg [3, 4] k (fun kq v3 v4 w' => ∃ (x3_1 : ByteArray) (x4_1 : Int), v3 = .string x3_1 ∧ v4 = .int .i64 x4_1 ∧ Aside0 (spec_Together.l0 kq l0 x3_1 x4_1 = some r) ∧ Aside0 (kq ≤ k) ∧ Drawn0 w w')
  case atStart => exact ⟨((⟨#[]⟩ : ByteArray)), (0), (by first | rfl | (simp; done) | (simp [*]; done)), (by first | rfl | (simp; done) | (simp [*]; done)), H', ⟨Nat.le_refl _⟩, by repeat (first | exact Drawn0.refl _ | apply Drawn0.step)⟩
  case round =>
    clear H'
    obtain ⟨x3_1, x4_1, rfl, rfl, HA, HK1, ⟨m1, rfl⟩⟩ := hrel
    cases gk with
    | zero => exact absurd HA.out (by simp [spec_Together.l0])
    | succ k1 =>
      have H := HA.out
      clear HA
      simp only [spec_Together.l0] at H
      by_cases c2 : x4_1 < (l0.length : Int)
      · rw [if_pos c2] at H
        have c2b0 : decide (x4_1 < (l0.length : Int)) = true := decide_eq_true c2
        clear c2
        by_cases c3 : x4_1 > 0
        · rw [if_pos c3] at H
          have c3b0 : decide (0 < x4_1) = true := decide_eq_true c3
          clear c3
          by_cases c4 : x3_1.size + 1 ≤ 9223372036854775807
          · rw [if_pos c4] at H
            have c4b0 := eq_true c4
            have c4b1 : decide (x3_1.size + 1 ≤ 9223372036854775807) = true := decide_eq_true c4
            try have c4b2 : (9223372036854775807 < x3_1.size + 1) = False := eq_false (Nat.not_lt.2 c4)
            by_cases c5 : 0 ≤ x4_1
            · rw [if_pos c5] at H
              have c5b0 : decide (0 ≤ x4_1) = true := decide_eq_true c5
              clear c5
              by_cases c6 : (x3_1 ++ (⟨#[10]⟩ : ByteArray)).size + (rdOf ByteArray.empty l0 x4_1).size ≤ 9223372036854775807
              · rw [if_pos c6] at H
                have c6b0 := eq_true c6
                have c6b1 : decide ((x3_1 ++ (⟨#[10]⟩ : ByteArray)).size + (rdOf ByteArray.empty l0 x4_1).size ≤ 9223372036854775807) = true := decide_eq_true c6
                try have c6b2 : (9223372036854775807 < (x3_1 ++ (⟨#[10]⟩ : ByteArray)).size + (rdOf ByteArray.empty l0 x4_1).size) = False := eq_false (Nat.not_lt.2 c6)
                have H' := Aside0.mk H
                clear H
                have p111 : 0 ≤ (x4_1 : Int) := of_decide_eq_true (by first | (with_reducible assumption) | assumption)
                have q111 : x4_1 < (l0.length : Int) := of_decide_eq_true (by first | (with_reducible assumption) | assumption)
                obtain ⟨ad111, e111, hx111_0⟩ := Kd.at_string HR0.out x4_1 p111 q111
                cases e111
                replace p111 := eq_true p111
                replace q111 := eq_true q111
                go_wp2
                go_roundg k1
                case measure => have := HK1.out; omega
                case rel => exact ⟨((x3_1 ++ (⟨#[10]⟩ : ByteArray)) ++ (rdOf ByteArray.empty l0 x4_1)), (wrap64 (x4_1 + 1)), (by first | rfl | (simp; done) | (simp [*]; done)), (by first | rfl | (simp; done) | (simp [*]; done)), H', ⟨by have := HK1.out; omega⟩, by repeat (first | exact Drawn0.refl _ | apply Drawn0.step)⟩
              · rw [if_neg c6] at H
                exact absurd H (by simp)
            · rw [if_neg c5] at H
              exact absurd H (by simp)
          · rw [if_neg c4] at H
            exact absurd H (by simp)
        · rw [if_neg c3] at H
          have c3b0 : decide (0 < x4_1) = false := decide_eq_false c3
          clear c3
          by_cases c7 : 0 ≤ x4_1
          · rw [if_pos c7] at H
            have c7b0 : decide (0 ≤ x4_1) = true := decide_eq_true c7
            clear c7
            by_cases c8 : x3_1.size + (rdOf ByteArray.empty l0 x4_1).size ≤ 9223372036854775807
            · rw [if_pos c8] at H
              have c8b0 := eq_true c8
              have c8b1 : decide (x3_1.size + (rdOf ByteArray.empty l0 x4_1).size ≤ 9223372036854775807) = true := decide_eq_true c8
              try have c8b2 : (9223372036854775807 < x3_1.size + (rdOf ByteArray.empty l0 x4_1).size) = False := eq_false (Nat.not_lt.2 c8)
              have H' := Aside0.mk H
              clear H
              have p112 : 0 ≤ (x4_1 : Int) := of_decide_eq_true (by first | (with_reducible assumption) | assumption)
              have q112 : x4_1 < (l0.length : Int) := of_decide_eq_true (by first | (with_reducible assumption) | assumption)
              obtain ⟨ad112, e112, hx112_0⟩ := Kd.at_string HR0.out x4_1 p112 q112
              cases e112
              replace p112 := eq_true p112
              replace q112 := eq_true q112
              go_wp2
              go_roundg k1
              case measure => have := HK1.out; omega
              case rel => exact ⟨(x3_1 ++ (rdOf ByteArray.empty l0 x4_1)), (wrap64 (x4_1 + 1)), (by first | rfl | (simp; done) | (simp [*]; done)), (by first | rfl | (simp; done) | (simp [*]; done)), H', ⟨by have := HK1.out; omega⟩, by repeat (first | exact Drawn0.refl _ | apply Drawn0.step)⟩
            · rw [if_neg c8] at H
              exact absurd H (by simp)
          · rw [if_neg c7] at H
            exact absurd H (by simp)
      · rw [if_neg c2] at H
        have c2b0 : decide (x4_1 < (l0.length : Int)) = false := decide_eq_false c2
        clear c2
        obtain rfl := Option.some.inj H
        go_wp2
        go_ret
        exact ⟨by first | rfl | (simp; done) | (simp [*]; done), by repeat (first | exact Drawn0.refl _ | apply Drawn0.step)⟩
end Go.Proofs.YtanadaamipfmkaaDoor.PFnIndented
