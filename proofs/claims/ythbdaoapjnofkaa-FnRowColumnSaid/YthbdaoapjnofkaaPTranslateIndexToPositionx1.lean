/- Printed by a program of this seat (xprint) out of the translation: Go functions as plain functions, and the walks that show them; no condition. -/
import Derived.Test.YthbdaoapjnofkaaPTranslateIndexToPositionx0
import Derived.Test.YthbdaoapjnofkaaHBisectR
namespace Go.Proofs.Ythbdaoapjnofkaa.PTranslateIndexToPosition
open Go.RowKit Go.Proofs.Ythbdaoapjnofkaa.H Go.Proofs.Ythbdaoapjnofkaa.R Go.Proofs.YthbdaoapjnofkaaW.PrintWords Go.Proofs.YthbdaoapjnofkaaW.PrintLast Go.Proofs.YthbdaoapjnofkaaW.PrintMore
attribute [local go_sem] max2_int min2_int max_two min_two max_three min_three max_four min_four   -- for this text's walks alone
set_option linter.unusedVariables false
set_option linter.unusedSimpArgs false

/-! ### goprompt_zzIndex: function 62 -/
def goprompt_zzIndex.l0 : Nat → ByteArray → ByteArray → Int → Option (Int)
  | 0, _, _, _ => none
  | k + 1, x0, x1, x5 => if (wrap64 (x5 + (x1.size : Int))) ≤ (x0.size : Int) then (if 0 ≤ x5 then (if x5 ≤ (wrap64 (x5 + (x1.size : Int))) then (if (x0.extract (x5 : Int).toNat ((wrap64 (x5 + (x1.size : Int))) : Int).toNat).toList = x1.toList then (some x5) else (goprompt_zzIndex.l0 k x0 x1 (wrap64 (x5 + 1)))) else (none)) else (none)) else (some (-1))
def goprompt_zzIndex.f (k : Nat) (a0 : ByteArray) (a1 : ByteArray) : Option (Int) := goprompt_zzIndex.l0 k a0 a1 0
theorem goprompt_zzIndex.mono_l : ∀ k, (∀ y0 y1 y2, LeO (goprompt_zzIndex.l0 k y0 y1 y2) (goprompt_zzIndex.l0 (k + 1) y0 y1 y2))
  | 0 => fun _ _ _ r h => by simp [goprompt_zzIndex.l0] at h
  | k + 1 => by
    have ih0 := goprompt_zzIndex.mono_l k
    · intro y0 y1 y2
      unfold goprompt_zzIndex.l0
      repeat' first
      | (with_reducible exact ih0 _ _ _)
      | (with_reducible exact LeO.refl _)
      | (with_reducible exact LeO.none _)
      | (with_reducible refine LeO.ite ?_ ?_)
      | (with_reducible refine LeO.bind ?_ (fun _ => ?_))
      | exact ih0 _ _ _
      | exact LeO.none _
      | refine LeO.ite ?_ ?_
      | refine LeO.bind ?_ (fun _ => ?_)
theorem goprompt_zzIndex.mono : ∀ a0 a1 k, LeO (goprompt_zzIndex.f k a0 a1) (goprompt_zzIndex.f (k + 1) a0 a1) := by
  intro a0 a1 k
  have ih0 := goprompt_zzIndex.mono_l k
  unfold goprompt_zzIndex.f
  repeat' first
      | (with_reducible exact ih0 _ _ _)
      | (with_reducible exact LeO.refl _)
      | (with_reducible exact LeO.none _)
      | (with_reducible refine LeO.ite ?_ ?_)
      | (with_reducible refine LeO.bind ?_ (fun _ => ?_))
      | exact ih0 _ _ _
      | exact LeO.none _
      | refine LeO.ite ?_ ?_
      | refine LeO.bind ?_ (fun _ => ?_)
set_option maxHeartbeats 8000000 in
set_option maxRecDepth 100000 in
theorem goprompt_zzIndex.calls (k : Nat) (a0 : ByteArray) (a1 : ByteArray) (r : Int) (w : World) (h : goprompt_zzIndex.f k a0 a1 = some r) :
    Calls Try.prog 62 #[.string a0, .string a1] w fun e w' => e = .returned (.int .i64 r) ∧ Drawn0 w w' := by
  have H : (goprompt_zzIndex.l0 k a0 a1 0) = some r := h
  clear h
  have H' := Aside0.mk H
  clear H
  go_enter Try.func62, Try.ntmps62
  go_wp2
  go_loopg [5] k (fun kq v5 w' => ∃ (x5_1 : Int), v5 = .int .i64 x5_1 ∧ Aside0 (goprompt_zzIndex.l0 kq a0 a1 x5_1 = some r) ∧ Aside0 (kq ≤ k) ∧ Drawn0 w w')
  case atStart => exact ⟨(0), (by first | rfl | (simp; done) | (simp [*]; done)), H', ⟨Nat.le_refl _⟩, by repeat (first | exact Drawn0.refl _ | apply Drawn0.step)⟩
  case round =>
    clear H'
    try clear p2
    obtain ⟨x5_1, rfl, HA, HK1, ⟨m1, rfl⟩⟩ := hrel
    cases gk with
    | zero => exact absurd HA.out (by simp [goprompt_zzIndex.l0])
    | succ k1 =>
      have H := HA.out
      clear HA
      simp only [goprompt_zzIndex.l0] at H
      by_cases c3 : (wrap64 (x5_1 + (a1.size : Int))) ≤ (a0.size : Int)
      · rw [if_pos c3] at H
        have c3b0 : decide ((wrap64 (x5_1 + (a1.size : Int))) ≤ (a0.size : Int)) = true := decide_eq_true c3
        clear c3
        by_cases c4 : 0 ≤ x5_1
        · rw [if_pos c4] at H
          have c4b0 := eq_true c4
          have c4b1 : decide (0 ≤ x5_1) = true := decide_eq_true c4
          clear c4
          by_cases c5 : x5_1 ≤ (wrap64 (x5_1 + (a1.size : Int)))
          · rw [if_pos c5] at H
            have c5b0 := eq_true c5
            have c5b1 : decide (x5_1 ≤ (wrap64 (x5_1 + (a1.size : Int)))) = true := decide_eq_true c5
            have c6b0 := eq_true (of_decide_eq_true (by first | (with_reducible assumption) | assumption) : (wrap64 (x5_1 + (a1.size : Int))) ≤ (a0.size : Int))
            by_cases c7 : (a0.extract (x5_1 : Int).toNat ((wrap64 (x5_1 + (a1.size : Int))) : Int).toNat).toList = a1.toList
            · rw [if_pos c7] at H
              have c7b0 : ((a0.extract (x5_1 : Int).toNat ((wrap64 (x5_1 + (a1.size : Int))) : Int).toNat).toList == a1.toList) = true := beq_iff_eq.mpr c7
              have c7b1 : ((a0.extract (x5_1 : Int).toNat ((wrap64 (x5_1 + (a1.size : Int))) : Int).toNat).toList != a1.toList) = false := bne_eq_false_iff_eq.mpr c7
              clear c7
              obtain rfl := Option.some.inj H
              go_wp2
              go_ret
              exact ⟨by first | rfl | (simp; done) | (simp [*]; done), by repeat (first | exact Drawn0.refl _ | apply Drawn0.step)⟩
            · rw [if_neg c7] at H
              have c7b0 : ((a0.extract (x5_1 : Int).toNat ((wrap64 (x5_1 + (a1.size : Int))) : Int).toNat).toList == a1.toList) = false := beq_eq_false_iff_ne.mpr c7
              have c7b1 : ((a0.extract (x5_1 : Int).toNat ((wrap64 (x5_1 + (a1.size : Int))) : Int).toNat).toList != a1.toList) = true := bne_iff_ne.mpr c7
              have H' := Aside0.mk H
              clear H
              go_wp2
              go_roundg k1
              case measure => have := HK1.out; omega
              case rel => exact ⟨(wrap64 (x5_1 + 1)), (by first | rfl | (simp; done) | (simp [*]; done)), H', ⟨by have := HK1.out; omega⟩, by repeat (first | exact Drawn0.refl _ | apply Drawn0.step)⟩
          · rw [if_neg c5] at H
            exact absurd H (by simp)
        · rw [if_neg c4] at H
          exact absurd H (by simp)
      · rw [if_neg c3] at H
        have c3b0 : decide ((wrap64 (x5_1 + (a1.size : Int))) ≤ (a0.size : Int)) = false := decide_eq_false c3
        clear c3
        obtain rfl := Option.some.inj H
        go_wp2
        go_ret
        exact ⟨by first | rfl | (simp; done) | (simp [*]; done), by repeat (first | exact Drawn0.refl _ | apply Drawn0.step)⟩

/-! ### goprompt_zzSplit: function 60 -/
def goprompt_zzSplit.l1 : Nat → ByteArray → ByteArray → List ByteArray → Option (List ByteArray)
  | 0, _, _, _ => none
  | k + 1, x0, x1, x5 => (goprompt_zzIndex.f k x0 x1).bind fun t101 => (if t101 < 0 then (if x5.length < 8796093022208 then (some (x5 ++ [x0])) else (none)) else (if 0 ≤ t101 then (if t101 ≤ (x0.size : Int) then (if x5.length < 8796093022208 then (if 0 ≤ (wrap64 (t101 + (x1.size : Int))) then (if (wrap64 (t101 + (x1.size : Int))) ≤ (x0.size : Int) then (goprompt_zzSplit.l1 k (x0.extract ((wrap64 (t101 + (x1.size : Int))) : Int).toNat x0.size) x1 (x5 ++ [x0.extract 0 (t101 : Int).toNat])) else (none)) else (none)) else (none)) else (none)) else (none)))
def goprompt_zzSplit.f (k : Nat) (a0 : ByteArray) (a1 : ByteArray) : Option (List ByteArray) := if (a1.size : Int) = 0 then (none) else (goprompt_zzSplit.l1 k a0 a1 ([] : List ByteArray))
theorem goprompt_zzSplit.mono_l : ∀ k, (∀ y0 y1 y2, LeO (goprompt_zzSplit.l1 k y0 y1 y2) (goprompt_zzSplit.l1 (k + 1) y0 y1 y2))
  | 0 => fun _ _ _ r h => by simp [goprompt_zzSplit.l1] at h
  | k + 1 => by
    have ih0 := goprompt_zzSplit.mono_l k
    · intro y0 y1 y2
      unfold goprompt_zzSplit.l1
      repeat' first
      | (with_reducible exact ih0 _ _ _)
      | (with_reducible exact goprompt_zzIndex.mono _ _ _)
      | (with_reducible exact LeO.refl _)
      | (with_reducible exact LeO.none _)
      | (with_reducible refine LeO.ite ?_ ?_)
      | (with_reducible refine LeO.bind ?_ (fun _ => ?_))
      | exact ih0 _ _ _
      | exact goprompt_zzIndex.mono _ _ _
      | exact LeO.none _
      | refine LeO.ite ?_ ?_
      | refine LeO.bind ?_ (fun _ => ?_)
theorem goprompt_zzSplit.mono : ∀ a0 a1 k, LeO (goprompt_zzSplit.f k a0 a1) (goprompt_zzSplit.f (k + 1) a0 a1) := by
  intro a0 a1 k
  have ih0 := goprompt_zzSplit.mono_l k
  unfold goprompt_zzSplit.f
  repeat' first
      | (with_reducible exact ih0 _ _ _)
      | (with_reducible exact goprompt_zzIndex.mono _ _ _)
      | (with_reducible exact LeO.refl _)
      | (with_reducible exact LeO.none _)
      | (with_reducible refine LeO.ite ?_ ?_)
      | (with_reducible refine LeO.bind ?_ (fun _ => ?_))
      | exact ih0 _ _ _
      | exact goprompt_zzIndex.mono _ _ _
      | exact LeO.none _
      | refine LeO.ite ?_ ?_
      | refine LeO.bind ?_ (fun _ => ?_)
set_option maxHeartbeats 8000000 in
set_option maxRecDepth 100000 in
theorem goprompt_zzSplit.calls (k : Nat) (a0 : ByteArray) (a1 : ByteArray) (r : List ByteArray) (w : World) (h : goprompt_zzSplit.f k a0 a1 = some r) :
    Calls Try.prog 60 #[.string a0, .string a1] w fun e w' => ∃ v0_ : Value, e = .returned (v0_) ∧ Kd.R Kd.string 9 w' w.heap.size (fun _ => True) v0_ r ∧ Below w.heap.size w w' := by
  have HB := Aside0.mk (Below.refl w.heap.size w)
  have H : (if (a1.size : Int) = 0 then (none) else (goprompt_zzSplit.l1 k a0 a1 ([] : List ByteArray))) = some r := h
  clear h
  by_cases c3 : (a1.size : Int) = 0
  · rw [if_pos c3] at H
    exact absurd H (by simp)
  · rw [if_neg c3] at H
    have c3b0 : ((a1.size : Int) == 0) = false := beq_eq_false_iff_ne.mpr c3
    have c3b1 : ((a1.size : Int) != 0) = true := bne_iff_ne.mpr c3
    have H' := Aside0.mk H
    clear H
    go_enter Try.func60, Try.ntmps60
    go_wp2
    go_loopg [0, 5] k (fun kq v0 v5 w' => ∃ (x0_1 : ByteArray) (x5_1 : List ByteArray), v0 = .string x0_1 ∧ Aside0 (goprompt_zzSplit.l1 kq x0_1 a1 x5_1 = some r) ∧ Aside0 (kq ≤ k) ∧ Aside0 (Kd.R Kd.string 9 w' w.heap.size (fun _ => True) v5 x5_1) ∧ Aside0 (Below w.heap.size w w'))
    case atStart => exact ⟨(a0), (([] : List ByteArray)), (by first | rfl | (simp; done) | (simp [*]; done)), H', ⟨Nat.le_refl _⟩, ⟨by first | exact Kd.R_nil _ _ _ _ _ | exact Kd.N_nil _ _ _ _ _ | exact Kd.V_nil _ _ _ _ _ | exact Kd.Q_nil _ _ _ _ _ | exact Kd.S_nil _ _ _ _ _⟩, ⟨by repeat (first | (with_reducible first | exact HB.out | apply below_alloc | apply pw_below_drewN | apply below_drew1) | exact HB.out)⟩⟩
    case round =>
      clear H'
      try clear p2
      try clear c3
      try clear c3b0
      try clear c3b1
      obtain ⟨x0_1, x5_1, rfl, HA, HK1, HO_5, HB⟩ := hrel
      cases gk with
      | zero => exact absurd HA.out (by simp [goprompt_zzSplit.l1])
      | succ k1 =>
        have H := HA.out
        clear HA
        simp only [goprompt_zzSplit.l1] at H
        replace H := Option.bind_eq_some_iff.mp H
        obtain ⟨t101, A40, H⟩ := H
        replace H : (if t101 < 0 then (if x5_1.length < 8796093022208 then (some (x5_1 ++ [x0_1])) else (none)) else (if 0 ≤ t101 then (if t101 ≤ (x0_1.size : Int) then (if x5_1.length < 8796093022208 then (if 0 ≤ (wrap64 (t101 + (a1.size : Int))) then (if (wrap64 (t101 + (a1.size : Int))) ≤ (x0_1.size : Int) then (goprompt_zzSplit.l1 k1 (x0_1.extract ((wrap64 (t101 + (a1.size : Int))) : Int).toNat x0_1.size) a1 (x5_1 ++ [x0_1.extract 0 (t101 : Int).toNat])) else (none)) else (none)) else (none)) else (none)) else (none))) = some r := H
        have A4 := Aside0.mk A40
        clear A40
        by_cases c5 : t101 < 0
        · rw [if_pos c5] at H
          have c5b0 : decide (t101 < 0) = true := decide_eq_true c5
          clear c5
          by_cases c6 : x5_1.length < 8796093022208
          · rw [if_pos c6] at H
            have LMc6 := Aside0.mk c6
            clear c6
            obtain ⟨y102, hy102⟩ : ∃ y_ : List ByteArray, y_ = (x5_1 ++ [x0_1]) := ⟨_, rfl⟩
            replace H : (some y102) = some r := by first | (rw [hy102]; with_reducible exact H) | (have H2_ := (Option.bind_some _ _).symm.trans H; rw [hy102]; with_reducible exact H2_) | (have H2_ := (Option.bind_some _ _).symm.trans H; with_reducible exact H2_) | with_reducible exact H | (rw [hy102]; exact H) | exact H
            have Ny102 := Aside0.mk hy102
            clear hy102
            obtain rfl := Option.some.inj H
            go_wp2_with (first | ((with_reducible refine gate_callee (f := 62) rfl ?_); refine goesL_ (some 39) rfl rfl Try.func62 (by kernel_rfl) rfl #[.string x0_1, .string a1] rfl (by (try simp only [List.map_toArray, List.map_cons, List.map_nil]); first | done | rfl | (simp only [List.length_drop, List.length_take]; rfl) | (simp only [Int.toNat_natCast, ByteArray.extract_zero_size]; rfl)) ?_; (with_reducible refine (goprompt_zzIndex.calls k1 x0_1 a1 t101 _ A4.out).mono ?_); rintro e w' ⟨rfl, ⟨nd, rfl⟩⟩; refine ⟨_, rfl, ?_⟩) | ((with_reducible refine gate_builtin (b := .append) (xs := #[.tmp 42, .tmp 44]) rfl ?_); at_builtin; refine Kd.R_append Kd.string (w0 := w) w.heap.size rfl (.tmp 42) (.tmp 44) 22 9 (.string ⟨#[]⟩) 16 rfl Try.underlying22 info9 rfl (by decide) (by omega) u5 x5_1 x0_1 [.string x0_1] (fun _ => True) (fun _ => False) rfl rfl ?aP (fun _ hk => hk.elim) ?aF ?aO ?aB ?aS ?aL ?_; (case aP => exact rfl); (case aB => exact (by repeat (first | (with_reducible first | exact HB.out | apply below_alloc | apply pw_below_drewN | apply below_drew1) | exact HB.out))); (case aF => exact (fun _ _ => trivial)); (case aO => exact (by (with_reducible repeat (first | apply Kd.R_alloc | apply Kd.R_drewN | apply Kd.R_drew)); exact HO_5.out)); (case aS => exact (below_size (by repeat (first | (with_reducible first | exact HB.out | apply below_alloc | apply pw_below_drewN | apply below_drew1) | exact HB.out)))); (case aL => have := LMc6.out; omega); intro v103 w7 ho hb hg hat; rw [← Ny102.out] at ho; have n0_ := Aside0.mk (hb); have n1_ := Aside0.mk (ho); clear HB; clear HO_5; have HB := n0_; have HO104 := n1_; clear n0_ n1_; clear ho hb hg hat))
            go_ret
            exact ⟨_, by first | rfl | (simp [errW_none, errW_some] <;> rfl) | (simp [*, errW_none, errW_some] <;> rfl), by (with_reducible repeat (first | apply Kd.R_alloc | apply Kd.R_drewN | apply Kd.R_drew)); exact HO104.out, by repeat (first | (with_reducible first | exact HB.out | apply below_alloc | apply pw_below_drewN | apply below_drew1) | exact HB.out)⟩
          · rw [if_neg c6] at H
            exact absurd H (by simp)
        · rw [if_neg c5] at H
          have c5b0 : decide (t101 < 0) = false := decide_eq_false c5
          clear c5
          by_cases c8 : 0 ≤ t101
          · rw [if_pos c8] at H
            have c8b0 := eq_true c8
            have c8b1 : decide (0 ≤ t101) = true := decide_eq_true c8
            clear c8
            by_cases c9 : t101 ≤ (x0_1.size : Int)
            · rw [if_pos c9] at H
              have c9b0 := eq_true c9
              have c9b1 : decide (t101 ≤ (x0_1.size : Int)) = true := decide_eq_true c9
              clear c9
              by_cases c10 : x5_1.length < 8796093022208
              · rw [if_pos c10] at H
                have LMc10 := Aside0.mk c10
                clear c10
                obtain ⟨y105, hy105⟩ : ∃ y_ : List ByteArray, y_ = (x5_1 ++ [x0_1.extract 0 (t101 : Int).toNat]) := ⟨_, rfl⟩
                replace H : (if 0 ≤ (wrap64 (t101 + (a1.size : Int))) then (if (wrap64 (t101 + (a1.size : Int))) ≤ (x0_1.size : Int) then (goprompt_zzSplit.l1 k1 (x0_1.extract ((wrap64 (t101 + (a1.size : Int))) : Int).toNat x0_1.size) a1 y105) else (none)) else (none)) = some r := by first | (rw [hy105]; with_reducible exact H) | (have H2_ := (Option.bind_some _ _).symm.trans H; rw [hy105]; with_reducible exact H2_) | (have H2_ := (Option.bind_some _ _).symm.trans H; with_reducible exact H2_) | with_reducible exact H | (rw [hy105]; exact H) | exact H
                have Ny105 := Aside0.mk hy105
                clear hy105
                obtain ⟨ji11, hji11⟩ : ∃ j_ : Int, (wrap64 (t101 + (a1.size : Int))) = j_ := ⟨_, rfl⟩
                replace H : (if 0 ≤ (ji11) then (if (ji11) ≤ (x0_1.size : Int) then (goprompt_zzSplit.l1 k1 (x0_1.extract ((ji11) : Int).toNat x0_1.size) a1 y105) else (none)) else (none)) = some r := by first | (rw [hji11] at H; exact H) | (simp only [hji11] at H ⊢; exact H)
                (try rw [hji11] at A4)
                have hji11w : (IntKind.i64.wrap (t101 + (a1.size : Int))) = ji11 := (i64_w _).trans hji11
                by_cases c12 : 0 ≤ (ji11)
                · rw [if_pos c12] at H
                  have c12b0 := eq_true c12
                  have c12b1 : decide (0 ≤ (ji11)) = true := decide_eq_true c12
                  clear c12
                  by_cases c13 : (ji11) ≤ (x0_1.size : Int)
                  · rw [if_pos c13] at H
                    have c13b0 := eq_true c13
                    have c13b1 : decide ((ji11) ≤ (x0_1.size : Int)) = true := decide_eq_true c13
                    clear c13
                    have H' := Aside0.mk H
                    clear H
                    go_wp2_with (first | ((with_reducible refine gate_callee (f := 62) rfl ?_); refine goesL_ (some 39) rfl rfl Try.func62 (by kernel_rfl) rfl #[.string x0_1, .string a1] rfl (by (try simp only [List.map_toArray, List.map_cons, List.map_nil]); first | done | rfl | (simp only [List.length_drop, List.length_take]; rfl) | (simp only [Int.toNat_natCast, ByteArray.extract_zero_size]; rfl)) ?_; (with_reducible refine (goprompt_zzIndex.calls k1 x0_1 a1 t101 _ A4.out).mono ?_); rintro e w' ⟨rfl, ⟨nd, rfl⟩⟩; refine ⟨_, rfl, ?_⟩) | ((with_reducible refine gate_builtin (b := .append) (xs := #[.tmp 46, .tmp 50]) rfl ?_); at_builtin; refine Kd.R_append Kd.string (w0 := w) w.heap.size rfl (.tmp 46) (.tmp 50) 22 9 (.string ⟨#[]⟩) 16 rfl Try.underlying22 info9 rfl (by decide) (by omega) u5 x5_1 (x0_1.extract 0 (t101 : Int).toNat) [.string (x0_1.extract 0 (t101 : Int).toNat)] (fun _ => True) (fun _ => False) rfl rfl ?aP (fun _ hk => hk.elim) ?aF ?aO ?aB ?aS ?aL ?_; (case aP => exact rfl); (case aB => exact (by repeat (first | (with_reducible first | exact HB.out | apply below_alloc | apply pw_below_drewN | apply below_drew1) | exact HB.out))); (case aF => exact (fun _ _ => trivial)); (case aO => exact (by (with_reducible repeat (first | apply Kd.R_alloc | apply Kd.R_drewN | apply Kd.R_drew)); exact HO_5.out)); (case aS => exact (below_size (by repeat (first | (with_reducible first | exact HB.out | apply below_alloc | apply pw_below_drewN | apply below_drew1) | exact HB.out)))); (case aL => have := LMc10.out; omega); intro v106 w14 ho hb hg hat; rw [← Ny105.out] at ho; have n0_ := Aside0.mk (hb); have n1_ := Aside0.mk (ho); clear HB; clear HO_5; have HB := n0_; have HO107 := n1_; clear n0_ n1_; clear ho hb hg hat))
                    go_roundg k1
                    case measure => have := HK1.out; omega
                    case rel => exact ⟨(x0_1.extract ((ji11) : Int).toNat x0_1.size), (y105), (by first | rfl | (simp; done) | (simp only [← hji11] <;> (first | rfl | simp)) | (simp [*]; done)), (by first | exact H' | (rw [hji11]; exact H')), ⟨by have := HK1.out; omega⟩, ⟨by (with_reducible repeat (first | apply Kd.R_alloc | apply Kd.R_drewN | apply Kd.R_drew)); exact HO107.out⟩, ⟨by repeat (first | (with_reducible first | exact HB.out | apply below_alloc | apply pw_below_drewN | apply below_drew1) | exact HB.out)⟩⟩
                  · rw [if_neg c13] at H
                    exact absurd H (by simp)
                · rw [if_neg c12] at H
                  exact absurd H (by simp)
              · rw [if_neg c10] at H
                exact absurd H (by simp)
            · rw [if_neg c9] at H
              exact absurd H (by simp)
          · rw [if_neg c8] at H
            exact absurd H (by simp)

/-- A state of type 83 at block g of W; what its slices lead to came in by w0. -/
def IsS83 (w0 W : World) (g : Nat) (f0 : ByteArray) (f1 : Int) : Prop := W.heap[g]? = some (.cells #[.string f0, .int .i64 f1] 83 (0, 0)) ∧ w0.heap.size ≤ g
theorem IsS83.grown {w0 W : World} {g : Nat} {f0 : ByteArray} {f1 : Int} {W1 : World} {row : Option Nat} (h : IsS83 w0 W g f0 f1) (hw : W.grownBy W1 row) (hne : some g ≠ row) : IsS83 w0 W1 g f0 f1 := by
  obtain ⟨hb, hg⟩ := h
  exact ⟨blk_grown hb hw hne, hg⟩
theorem IsS83.own_neN {w0 W : World} {g : Nat} {f0 : ByteArray} {f1 : Int} {α : Type} {d : Kd α} {e : Nat} {base : Nat} {ok : Nat → Prop} {v : Value} {xs : List α} (h : IsS83 w0 W g f0 f1) (ho : Kd.N d e W base ok v xs) (ht : e ≠ 83) : some g ≠ v.ownBlock := by
  obtain ⟨hb, hg⟩ := h
  exact Kd.N_ne ho hb ht
theorem IsS83.fresh {w0 W : World} {g : Nat} {f0 : ByteArray} {f1 : Int} (h : IsS83 w0 W g f0 f1) : ∀ k, W.heap.size ≤ k → k ≠ g := by
  obtain ⟨hb, hg⟩ := h
  exact Kd.freshB hb
theorem IsS83.kept {w0 W : World} {g : Nat} {f0 : ByteArray} {f1 : Int} {W1 : World} {S : Nat → Prop} (h : IsS83 w0 W g f0 f1) (hk : Kept W W1 S) (hne : ¬ S g) : IsS83 w0 W1 g f0 f1 := by
  obtain ⟨hb, hg⟩ := h
  exact ⟨blk_kept hb hk hne, hg⟩
theorem IsS83.below {w0 W : World} {g : Nat} {f0 : ByteArray} {f1 : Int} {W1 : World} (h : IsS83 w0 W g f0 f1) (hw : Below W.heap.size W W1) : IsS83 w0 W1 g f0 f1 := h.grown (grown_of_below hw none) (by simp)
theorem IsS83.alloc {w0 W : World} {g : Nat} {f0 : ByteArray} {f1 : Int} (h : IsS83 w0 W g f0 f1) (o : Obj) : IsS83 w0 (W.alloc o) g f0 f1 := h.below (below_alloc (Below.refl _ _) o)
theorem IsS83.drewN {w0 W : World} {g : Nat} {f0 : ByteArray} {f1 : Int} (h : IsS83 w0 W g f0 f1) (m : Nat) : IsS83 w0 (W.drewN m) g f0 f1 := h
theorem IsS83.drew {w0 W : World} {g : Nat} {f0 : ByteArray} {f1 : Int} (h : IsS83 w0 W g f0 f1) : IsS83 w0 W.drew g f0 f1 := h
theorem IsS83.at_ {w0 W : World} {g : Nat} {f0 : ByteArray} {f1 : Int} {w' : World} {m : Nat} (hq : W.drewN m = w') (h : IsS83 w0 W g f0 f1) : IsS83 w0 w' g f0 f1 := by subst hq; exact IsS83.drewN h m
theorem IsS83.apart {w0 W : World} {g : Nat} {f0 : ByteArray} {f1 : Int} {α : Type} {d : Kd α} {e : Nat} {base : Nat} {ok : Nat → Prop} {v : Value} {xs : List α} (h : IsS83 w0 W g f0 f1) (ho : d.R e W base ok v xs) (ht : ∀ q, q ∈ e :: d.E → q ≠ 83) : d.R e W base (fun k => ok k ∧ k ≠ g) v xs := by
  obtain ⟨hb, hg⟩ := h
  exact Kd.R_types ho hb ht
theorem IsS83.own_ne {w0 W : World} {g : Nat} {f0 : ByteArray} {f1 : Int} {α : Type} {d : Kd α} {e : Nat} {base : Nat} {ok : Nat → Prop} {v : Value} {xs : List α} (h : IsS83 w0 W g f0 f1) (ho : d.R e W base ok v xs) (ht : e ≠ 83) : some g ≠ v.ownBlock := by
  obtain ⟨hb, hg⟩ := h
  exact Kd.R_ne ho hb ht
theorem IsS83.apartQ {w0 W : World} {g : Nat} {f0 : ByteArray} {f1 : Int} {α : Type} {d : Kd α} {e : Nat} {base : Nat} {ok : Nat → Prop} {v : Value} {xs : List α} (h : IsS83 w0 W g f0 f1) (ho : d.Q e W base ok v xs) (ht : ∀ q, q ∈ e :: d.E → q ≠ 83) : d.Q e W base (fun k => ok k ∧ k ≠ g) v xs := by
  obtain ⟨hb, hg⟩ := h
  exact Kd.Q_types ho hb ht
theorem IsS83.own_neQ {w0 W : World} {g : Nat} {f0 : ByteArray} {f1 : Int} {α : Type} {d : Kd α} {e : Nat} {base : Nat} {ok : Nat → Prop} {v : Value} {xs : List α} (h : IsS83 w0 W g f0 f1) (ho : d.Q e W base ok v xs) (ht : e ≠ 83) : some g ≠ v.ownBlock := by
  obtain ⟨hb, hg⟩ := h
  exact Kd.Q_ne ho hb ht
theorem IsS83.apartS {w0 W : World} {g : Nat} {f0 : ByteArray} {f1 : Int} {α : Type} {d : Kd α} {e : Nat} {base : Nat} {ok : Nat → Prop} {v : Value} {xs : List α} (h : IsS83 w0 W g f0 f1) (ho : d.S e W base ok v xs) (ht : ∀ q, q ∈ e :: d.E → q ≠ 83) : d.S e W base (fun k => ok k ∧ k ≠ g) v xs := by
  obtain ⟨hb, hg⟩ := h
  exact Kd.S_types ho hb ht
theorem IsS83.own_neS {w0 W : World} {g : Nat} {f0 : ByteArray} {f1 : Int} {α : Type} {d : Kd α} {e : Nat} {base : Nat} {ok : Nat → Prop} {v : Value} {xs : List α} (h : IsS83 w0 W g f0 f1) (ho : d.S e W base ok v xs) (ht : e ≠ 83) : some g ≠ v.ownBlock := by
  obtain ⟨hb, hg⟩ := h
  exact Kd.S_ne ho hb ht
theorem IsS83.lt {w0 W : World} {g : Nat} {f0 : ByteArray} {f1 : Int} (h : IsS83 w0 W g f0 f1) : g < W.heap.size := by
  obtain ⟨hb, hg⟩ := h
  exact blk_lt hb
theorem IsS83.ge {w0 W : World} {g : Nat} {f0 : ByteArray} {f1 : Int} (h : IsS83 w0 W g f0 f1) : w0.heap.size ≤ g := by
  obtain ⟨hb, hg⟩ := h
  exact hg
theorem IsS83.ne_blk {w0 W : World} {g : Nat} {f0 : ByteArray} {f1 : Int} {a : Nat} {cs : Array Value} {t : TypeId} {fr : Nat × Nat} (h : IsS83 w0 W g f0 f1) (hb2 : W.heap[a]? = some (.cells cs t fr)) (ht : t ≠ 83) : g ≠ a := by
  obtain ⟨hb, hg⟩ := h
  rintro rfl
  rw [hb] at hb2
  injection hb2 with hb2
  injection hb2 with _ ht2
  exact ht ht2.symm
theorem IsS83.far {w0 W : World} {g : Nat} {f0 : ByteArray} {f1 : Int} {p : Addr} (h : IsS83 w0 W g f0 f1) (hne : g ≠ p.block) (u : Value) : IsS83 w0 (W.setCell p u) g f0 f1 := by
  obtain ⟨hb, hg⟩ := h
  exact ⟨blk_far hb hne u, hg⟩
theorem cellS83_0 {W : World} {g : Nat} {f0 : ByteArray} {f1 : Int} (h : W.heap[g]? = some (.cells #[.string f0, .int .i64 f1] 83 (0, 0))) : W.cell? ⟨g, 0, none⟩ = some (.string f0) := (blk_cell h 0).trans rfl
theorem IsS83.set_0 {w0 W : World} {g : Nat} {f0 : ByteArray} {f1 : Int} (h : IsS83 w0 W g f0 f1) (x : ByteArray) : IsS83 w0 (W.setCell ⟨g, 0, none⟩ (.string x)) g x f1 := by
  obtain ⟨hb, hg⟩ := h
  exact ⟨by simpa using blk_set hb 0 (.string x), hg⟩
theorem cellS83_1 {W : World} {g : Nat} {f0 : ByteArray} {f1 : Int} (h : W.heap[g]? = some (.cells #[.string f0, .int .i64 f1] 83 (0, 0))) : W.cell? ⟨g, 1, none⟩ = some (.int .i64 f1) := (blk_cell h 1).trans rfl
theorem IsS83.set_1 {w0 W : World} {g : Nat} {f0 : ByteArray} {f1 : Int} (h : IsS83 w0 W g f0 f1) (x : Int) : IsS83 w0 (W.setCell ⟨g, 1, none⟩ (.int .i64 x)) g f0 x := by
  obtain ⟨hb, hg⟩ := h
  exact ⟨by simpa using blk_set hb 1 (.int .i64 x), hg⟩
theorem IsS83.new (w0 W : World) (f0 : ByteArray) (f1 : Int) (hB : Below w0.heap.size w0 W) : IsS83 w0 (W.alloc (.cells #[.string f0, .int .i64 f1] 83)) W.heap.size f0 f1 := ⟨by simpa using heap_alloc_new W _, hB.size⟩

/-! ### goprompt_Document_Lines: function 47 -/
def goprompt_Document_Lines.f (k : Nat) (s0_0 : ByteArray) (s0_1 : Int) : Option (List ByteArray × ByteArray × Int) := (goprompt_zzSplit.f k s0_0 (⟨#[10]⟩ : ByteArray)).bind fun t108 => (some (t108, s0_0, s0_1))
theorem goprompt_Document_Lines.mono : ∀ a0 a1 k, LeO (goprompt_Document_Lines.f k a0 a1) (goprompt_Document_Lines.f (k + 1) a0 a1) := by
  intro a0 a1 k
  unfold goprompt_Document_Lines.f
  repeat' first
      | (with_reducible exact goprompt_zzSplit.mono _ _ _)
      | (with_reducible exact LeO.refl _)
      | (with_reducible exact LeO.none _)
      | (with_reducible refine LeO.ite ?_ ?_)
      | (with_reducible refine LeO.bind ?_ (fun _ => ?_))
      | exact goprompt_zzSplit.mono _ _ _
      | exact LeO.none _
      | refine LeO.ite ?_ ?_
      | refine LeO.bind ?_ (fun _ => ?_)
set_option maxHeartbeats 8000000 in
set_option maxRecDepth 100000 in
theorem goprompt_Document_Lines.calls (k : Nat) (g : Nat) (s0_0 : ByteArray) (s0_1 : Int) (r1 : List ByteArray) (r2 : ByteArray) (r3 : Int) (w0 w : World) (hI : IsS83 w0 w g s0_0 s0_1) (hB : Below w0.heap.size w0 w) (h : goprompt_Document_Lines.f k s0_0 s0_1 = some (r1, r2, r3)) :
    Calls Try.prog 47 #[.pointer (some ⟨g, 0, none⟩)] w fun e w' => ∃ v0_ : Value, e = .returned (v0_) ∧ Kd.R Kd.string 9 w' w.heap.size (fun _ => True) v0_ r1 ∧ IsS83 w0 w' g r2 r3 ∧ Below w0.heap.size w0 w' ∧ KeepBut w w' g none := by
  have HI0 := Aside0.mk hI
  have HK := Aside0.mk (KeepBut.refl w g none)
  have HL := Aside0.mk hB.size
  clear hI
  have HW0 := Aside0.mk hB.size
  have HB := Aside0.mk hB
  clear hB
  have H : ((goprompt_zzSplit.f k s0_0 (⟨#[10]⟩ : ByteArray)).bind fun t108 => (some (t108, s0_0, s0_1))) = some (r1, r2, r3) := h
  clear h
  replace H := Option.bind_eq_some_iff.mp H
  obtain ⟨t108, A20, H⟩ := H
  replace H : (some (t108, s0_0, s0_1)) = some (r1, r2, r3) := H
  have A2 := Aside0.mk A20
  clear A20
  simp only [Option.some.injEq, Prod.mk.injEq] at H
  obtain ⟨rfl, rfl, rfl⟩ := H
  obtain ⟨HGz3, hgz3⟩ := HI0.out
  have hcz3_0 := cellS83_0 HGz3
  have hcz3_1 := cellS83_1 HGz3
  have hfz3_0 := blk_frozen HGz3 0
  have hfz3_1 := blk_frozen HGz3 1
  clear HGz3 hgz3
  go_enter Try.func47, Try.ntmps47
  go_wp2_with (first | ((with_reducible refine gate_callee (f := 60) rfl ?_); refine goesL_ (some 7) rfl rfl Try.func60 (by kernel_rfl) rfl #[.string s0_0, .string (⟨#[10]⟩ : ByteArray)] rfl (by (try simp only [List.map_toArray, List.map_cons, List.map_nil]); first | done | rfl | (simp only [List.length_drop, List.length_take]; rfl) | (simp only [Int.toNat_natCast, ByteArray.extract_zero_size]; rfl)) ?_; (with_reducible refine (goprompt_zzSplit.calls k s0_0 (⟨#[10]⟩ : ByteArray) t108 _ A2.out).mono ?_); rintro e w4 ⟨v109, rfl, ho0, hb⟩; refine ⟨_, rfl, ?_⟩; have n0_ := Aside0.mk (Kd.R_lower ho0 (keep_size (w := w) (g := g) (row := none) (by repeat (first | (with_reducible first | exact HK.out | apply KeepBut.set_ | apply keep_drewN | apply keep_drew | apply keep_alloc) | exact HK.out)))); have n1_ := Aside0.mk (IsS83.below (by repeat (first | (with_reducible first | exact HI0.out | apply IsS83.alloc | apply IsS83.drewN | apply IsS83.drew | apply IsS83.set_0 | apply IsS83.set_1) | exact HI0.out)) hb); have n2_ := Aside0.mk (KeepBut.trans (by repeat (first | (with_reducible first | exact HK.out | apply KeepBut.set_ | apply keep_drewN | apply keep_drew | apply keep_alloc) | exact HK.out)) (KeepBut.of_below hb g none) (.inl rfl)); have n3_ := Aside0.mk (below_step (by repeat (first | (with_reducible first | exact HB.out | apply below_alloc | apply pw_below_drewN | apply below_drew1 | refine below_set ?_ (IsS83.ge HI0.out)) | exact HB.out)) hb); clear HI0; clear HK; clear HB; have HO110 := n0_; have HI0 := n1_; have HK := n2_; have HB := n3_; clear n0_ n1_ n2_ n3_; (try clear hb); (try clear hb2); (try clear hk); (try clear hi); (try clear ho0)))
  go_ret
  exact ⟨_, by first | rfl | (simp [errW_none, errW_some] <;> rfl) | (simp [*, errW_none, errW_some] <;> rfl), by (with_reducible repeat (first | apply Kd.R_alloc | apply Kd.R_drewN | apply Kd.R_drew)); exact HO110.out, by repeat (first | (with_reducible first | exact HI0.out | apply IsS83.alloc | apply IsS83.drewN | apply IsS83.drew | apply IsS83.set_0 | apply IsS83.set_1) | exact HI0.out), by repeat (first | (with_reducible first | exact HB.out | apply below_alloc | apply pw_below_drewN | apply below_drew1 | refine below_set ?_ (IsS83.ge HI0.out)) | exact HB.out), by repeat (first | (with_reducible first | exact HK.out | apply KeepBut.set_ | apply keep_drewN | apply keep_drew | apply keep_alloc) | exact HK.out)⟩

/-! ### goprompt_Document_LineCount: function 59 -/
def goprompt_Document_LineCount.f (k : Nat) (s0_0 : ByteArray) (s0_1 : Int) : Option (Int × ByteArray × Int) := (goprompt_Document_Lines.f k s0_0 s0_1).bind fun bt111 => (some ((bt111.1.length : Int), bt111.2.1, bt111.2.2))
theorem goprompt_Document_LineCount.mono : ∀ a0 a1 k, LeO (goprompt_Document_LineCount.f k a0 a1) (goprompt_Document_LineCount.f (k + 1) a0 a1) := by
  intro a0 a1 k
  unfold goprompt_Document_LineCount.f
  repeat' first
      | (with_reducible exact goprompt_Document_Lines.mono _ _ _)
      | (with_reducible exact LeO.refl _)
      | (with_reducible exact LeO.none _)
      | (with_reducible refine LeO.ite ?_ ?_)
      | (with_reducible refine LeO.bind ?_ (fun _ => ?_))
      | exact goprompt_Document_Lines.mono _ _ _
      | exact LeO.none _
      | refine LeO.ite ?_ ?_
      | refine LeO.bind ?_ (fun _ => ?_)
set_option maxHeartbeats 8000000 in
set_option maxRecDepth 100000 in
theorem goprompt_Document_LineCount.calls (k : Nat) (g : Nat) (s0_0 : ByteArray) (s0_1 : Int) (r1 : Int) (r2 : ByteArray) (r3 : Int) (w0 w : World) (hI : IsS83 w0 w g s0_0 s0_1) (hB : Below w0.heap.size w0 w) (h : goprompt_Document_LineCount.f k s0_0 s0_1 = some (r1, r2, r3)) :
    Calls Try.prog 59 #[.pointer (some ⟨g, 0, none⟩)] w fun e w' => e = .returned (.int .i64 r1) ∧ IsS83 w0 w' g r2 r3 ∧ Below w0.heap.size w0 w' ∧ KeepBut w w' g none := by
  have HI0 := Aside0.mk hI
  have HK := Aside0.mk (KeepBut.refl w g none)
  have HL := Aside0.mk hB.size
  clear hI
  have HW0 := Aside0.mk hB.size
  have HB := Aside0.mk hB
  clear hB
  have H : ((goprompt_Document_Lines.f k s0_0 s0_1).bind fun bt111 => (some ((bt111.1.length : Int), bt111.2.1, bt111.2.2))) = some (r1, r2, r3) := h
  clear h
  replace H := Option.bind_eq_some_iff.mp H
  obtain ⟨⟨t111, t114, t115⟩, A20, H⟩ := H
  replace H : (some ((t111.length : Int), t114, t115)) = some (r1, r2, r3) := H
  have A2 := Aside0.mk A20
  clear A20
  simp only [Option.some.injEq, Prod.mk.injEq] at H
  obtain ⟨rfl, rfl, rfl⟩ := H
  go_enter Try.func59, Try.ntmps59
  go_wp2_with (first | ((with_reducible refine gate_callee (f := 47) rfl ?_); refine goesL_ (some 4) rfl rfl Try.func47 (by kernel_rfl) rfl #[.pointer (some ⟨g, 0, none⟩)] rfl (by (try simp only [List.map_toArray, List.map_cons, List.map_nil]); first | done | rfl | (simp only [List.length_drop, List.length_take]; rfl) | (simp only [Int.toNat_natCast, ByteArray.extract_zero_size]; rfl)) ?_; (with_reducible refine (goprompt_Document_Lines.calls k g s0_0 s0_1 t111 t114 t115 w0 _ ?side1 ?side2 A2.out).mono ?_); (case side1 => repeat (first | (with_reducible first | exact HI0.out | apply IsS83.alloc | apply IsS83.drewN | apply IsS83.drew | apply IsS83.set_0 | apply IsS83.set_1) | exact HI0.out)); (case side2 => repeat (first | (with_reducible first | exact HB.out | apply below_alloc | apply pw_below_drewN | apply below_drew1 | refine below_set ?_ (IsS83.ge HI0.out)) | exact HB.out)); rintro e w3 ⟨v112, rfl, ho0, hi, hb, hk⟩; refine ⟨_, rfl, ?_⟩; have n0_ := Aside0.mk (Kd.R_lower ho0 (keep_size (w := w) (g := g) (row := none) (by repeat (first | (with_reducible first | exact HK.out | apply KeepBut.set_ | apply keep_drewN | apply keep_drew | apply keep_alloc) | exact HK.out)))); have n1_ := Aside0.mk (KeepBut.trans (by repeat (first | (with_reducible first | exact HK.out | apply KeepBut.set_ | apply keep_drewN | apply keep_drew | apply keep_alloc) | exact HK.out)) hk (.inl rfl)); have n2_ := Aside0.mk (hb); have n3_ := Aside0.mk (hi); clear HK; clear HB; clear HI0; have HO113 := n0_; have HK := n1_; have HB := n2_; have HI0 := n3_; clear n0_ n1_ n2_ n3_; (try clear hb); (try clear hb2); (try clear hk); (try clear hi); (try clear ho0); obtain ⟨Ao4, co4, eo4⟩ := Kd.R_slice HO113.out; subst eo4))
  go_ret
  exact ⟨by first | rfl | (simp [errW_none, errW_some] <;> rfl) | (simp [*, errW_none, errW_some] <;> rfl), by repeat (first | (with_reducible first | exact HI0.out | apply IsS83.alloc | apply IsS83.drewN | apply IsS83.drew | apply IsS83.set_0 | apply IsS83.set_1) | exact HI0.out), by repeat (first | (with_reducible first | exact HB.out | apply below_alloc | apply pw_below_drewN | apply below_drew1 | refine below_set ?_ (IsS83.ge HI0.out)) | exact HB.out), by repeat (first | (with_reducible first | exact HK.out | apply KeepBut.set_ | apply keep_drewN | apply keep_drew | apply keep_alloc) | exact HK.out)⟩

/-! ### goprompt_Document_lineStartIndexes: function 46 -/
mutual
def goprompt_Document_lineStartIndexes.l0 : Nat → Int → List Int → List ByteArray → Int → Int → ByteArray → Int → Option (List Int × ByteArray × Int)
  | 0, _, _, _, _, _, _, _ => none
  | k + 1, x3, x4, x16, x17, x18, x1000, x1001 => if x18 < x17 then (if 0 ≤ x18 then (if x18 < (x16.length : Int) then (if x18 < (x4.length : Int) then (goprompt_Document_lineStartIndexes.l0 k x3 (x4.set (x18 : Int).toNat ((rdOf ByteArray.empty x16 x18).size : Int)) x16 x17 (wrap64 (x18 + 1)) x1000 x1001) else (none)) else (none)) else (none)) else (if 0 ≤ (wrap64 (x3 + 1)) then (if (wrap64 (x3 + 1) : Int).toNat ≤ 35184372088832 then ((some (List.replicate (wrap64 (x3 + 1) : Int).toNat 0 : List Int)).bind fun y129 => (if 0 < (y129.length : Int) then (goprompt_Document_lineStartIndexes.l1 k x3 (y129.set (0 : Int).toNat 0) 0 x4 (x4.length : Int) 0 x1000 x1001) else (none))) else (none)) else (none))
def goprompt_Document_lineStartIndexes.l1 : Nat → Int → List Int → Int → List Int → Int → Int → ByteArray → Int → Option (List Int × ByteArray × Int)
  | 0, _, _, _, _, _, _, _, _ => none
  | k + 1, x3, x7, x8, x34, x35, x36, x1000, x1001 => if x36 < x35 then (if 0 ≤ x36 then (if x36 < (x34.length : Int) then (if 0 ≤ (wrap64 (x36 + 1)) then (if (wrap64 (x36 + 1)) < (x7.length : Int) then (goprompt_Document_lineStartIndexes.l1 k x3 (x7.set ((wrap64 (x36 + 1)) : Int).toNat (wrap64 (x8 + (wrap64 ((rd x34 x36) + 1))))) (wrap64 (x8 + (wrap64 ((rd x34 x36) + 1)))) x34 x35 (wrap64 (x36 + 1)) x1000 x1001) else (none)) else (none)) else (none)) else (none)) else (if x3 > 1 then (if 0 ≤ x3 then (if x3 ≤ (x7.length : Int) then (some ((x7.take (x3 : Int).toNat), x1000, x1001)) else (none)) else (none)) else (some (x7, x1000, x1001)))
end
def goprompt_Document_lineStartIndexes.f (k : Nat) (s0_0 : ByteArray) (s0_1 : Int) : Option (List Int × ByteArray × Int) := (goprompt_Document_LineCount.f k s0_0 s0_1).bind fun bt116 => (if 0 ≤ bt116.1 then (if (bt116.1 : Int).toNat ≤ 35184372088832 then ((goprompt_Document_Lines.f k bt116.2.1 bt116.2.2).bind fun bt122 => (goprompt_Document_lineStartIndexes.l0 k bt116.1 (List.replicate (bt116.1 : Int).toNat 0) bt122.1 (bt122.1.length : Int) 0 bt122.2.1 bt122.2.2)) else (none)) else (none))
theorem goprompt_Document_lineStartIndexes.mono_l : ∀ k, (∀ y0 y1 y2 y3 y4 y5 y6, LeO (goprompt_Document_lineStartIndexes.l0 k y0 y1 y2 y3 y4 y5 y6) (goprompt_Document_lineStartIndexes.l0 (k + 1) y0 y1 y2 y3 y4 y5 y6)) ∧ (∀ y0 y1 y2 y3 y4 y5 y6 y7, LeO (goprompt_Document_lineStartIndexes.l1 k y0 y1 y2 y3 y4 y5 y6 y7) (goprompt_Document_lineStartIndexes.l1 (k + 1) y0 y1 y2 y3 y4 y5 y6 y7))
  | 0 => ⟨fun _ _ _ _ _ _ _ r h => by simp [goprompt_Document_lineStartIndexes.l0] at h, fun _ _ _ _ _ _ _ _ r h => by simp [goprompt_Document_lineStartIndexes.l1] at h⟩
  | k + 1 => by
    obtain ⟨ih0, ih1⟩ := goprompt_Document_lineStartIndexes.mono_l k
    refine ⟨?_, ?_⟩
    · intro y0 y1 y2 y3 y4 y5 y6
      unfold goprompt_Document_lineStartIndexes.l0
      repeat' first
      | (with_reducible exact ih0 _ _ _ _ _ _ _)
      | (with_reducible exact ih1 _ _ _ _ _ _ _ _)
      | (with_reducible exact goprompt_Document_LineCount.mono _ _ _)
      | (with_reducible exact goprompt_Document_Lines.mono _ _ _)
      | (with_reducible exact LeO.refl _)
      | (with_reducible exact LeO.none _)
      | (with_reducible refine LeO.ite ?_ ?_)
      | (with_reducible refine LeO.bind ?_ (fun _ => ?_))
      | exact ih0 _ _ _ _ _ _ _
      | exact ih1 _ _ _ _ _ _ _ _
      | exact goprompt_Document_LineCount.mono _ _ _
      | exact goprompt_Document_Lines.mono _ _ _
      | exact LeO.none _
      | refine LeO.ite ?_ ?_
      | refine LeO.bind ?_ (fun _ => ?_)
    · intro y0 y1 y2 y3 y4 y5 y6 y7
      unfold goprompt_Document_lineStartIndexes.l1
      repeat' first
      | (with_reducible exact ih0 _ _ _ _ _ _ _)
      | (with_reducible exact ih1 _ _ _ _ _ _ _ _)
      | (with_reducible exact goprompt_Document_LineCount.mono _ _ _)
      | (with_reducible exact goprompt_Document_Lines.mono _ _ _)
      | (with_reducible exact LeO.refl _)
      | (with_reducible exact LeO.none _)
      | (with_reducible refine LeO.ite ?_ ?_)
      | (with_reducible refine LeO.bind ?_ (fun _ => ?_))
      | exact ih0 _ _ _ _ _ _ _
      | exact ih1 _ _ _ _ _ _ _ _
      | exact goprompt_Document_LineCount.mono _ _ _
      | exact goprompt_Document_Lines.mono _ _ _
      | exact LeO.none _
      | refine LeO.ite ?_ ?_
      | refine LeO.bind ?_ (fun _ => ?_)
theorem goprompt_Document_lineStartIndexes.mono : ∀ a0 a1 k, LeO (goprompt_Document_lineStartIndexes.f k a0 a1) (goprompt_Document_lineStartIndexes.f (k + 1) a0 a1) := by
  intro a0 a1 k
  obtain ⟨ih0, ih1⟩ := goprompt_Document_lineStartIndexes.mono_l k
  unfold goprompt_Document_lineStartIndexes.f
  repeat' first
      | (with_reducible exact ih0 _ _ _ _ _ _ _)
      | (with_reducible exact ih1 _ _ _ _ _ _ _ _)
      | (with_reducible exact goprompt_Document_LineCount.mono _ _ _)
      | (with_reducible exact goprompt_Document_Lines.mono _ _ _)
      | (with_reducible exact LeO.refl _)
      | (with_reducible exact LeO.none _)
      | (with_reducible refine LeO.ite ?_ ?_)
      | (with_reducible refine LeO.bind ?_ (fun _ => ?_))
      | exact ih0 _ _ _ _ _ _ _
      | exact ih1 _ _ _ _ _ _ _ _
      | exact goprompt_Document_LineCount.mono _ _ _
      | exact goprompt_Document_Lines.mono _ _ _
      | exact LeO.none _
      | refine LeO.ite ?_ ?_
      | refine LeO.bind ?_ (fun _ => ?_)
set_option maxHeartbeats 8000000 in
set_option maxRecDepth 100000 in
theorem goprompt_Document_lineStartIndexes.calls (k : Nat) (g : Nat) (s0_0 : ByteArray) (s0_1 : Int) (r1 : List Int) (r2 : ByteArray) (r3 : Int) (w0 w : World) (hI : IsS83 w0 w g s0_0 s0_1) (hB : Below w0.heap.size w0 w) (h : goprompt_Document_lineStartIndexes.f k s0_0 s0_1 = some (r1, r2, r3)) :
    Calls Try.prog 46 #[.pointer (some ⟨g, 0, none⟩)] w fun e w' => ∃ v0_ : Value, e = .returned (v0_) ∧ Kd.R (Kd.int .i64) 3 w' w.heap.size (fun _ => True) v0_ r1 ∧ IsS83 w0 w' g r2 r3 ∧ Below w0.heap.size w0 w' ∧ KeepBut w w' g none := by
  have HI0 := Aside0.mk hI
  have HK := Aside0.mk (KeepBut.refl w g none)
  have HL := Aside0.mk hB.size
  clear hI
  have HW0 := Aside0.mk hB.size
  have HB := Aside0.mk hB
  clear hB
  have H : ((goprompt_Document_LineCount.f k s0_0 s0_1).bind fun bt116 => (if 0 ≤ bt116.1 then (if (bt116.1 : Int).toNat ≤ 35184372088832 then ((goprompt_Document_Lines.f k bt116.2.1 bt116.2.2).bind fun bt122 => (goprompt_Document_lineStartIndexes.l0 k bt116.1 (List.replicate (bt116.1 : Int).toNat 0) bt122.1 (bt122.1.length : Int) 0 bt122.2.1 bt122.2.2)) else (none)) else (none))) = some (r1, r2, r3) := h
  clear h
  replace H := Option.bind_eq_some_iff.mp H
  obtain ⟨⟨t116, t117, t118⟩, A20, H⟩ := H
  replace H : (if 0 ≤ t116 then (if (t116 : Int).toNat ≤ 35184372088832 then ((goprompt_Document_Lines.f k t117 t118).bind fun bt122 => (goprompt_Document_lineStartIndexes.l0 k t116 (List.replicate (t116 : Int).toNat 0) bt122.1 (bt122.1.length : Int) 0 bt122.2.1 bt122.2.2)) else (none)) else (none)) = some (r1, r2, r3) := H
  have A2 := Aside0.mk A20
  clear A20
  by_cases c3 : 0 ≤ t116
  · rw [if_pos c3] at H
    have c3b0 := eq_true c3
    have c3b1 : decide (0 ≤ t116) = true := decide_eq_true c3
    clear c3
    by_cases c4 : (t116 : Int).toNat ≤ 35184372088832
    · rw [if_pos c4] at H
      have c4b0 := eq_true c4
      have c4b1 : decide ((t116 : Int).toNat ≤ 35184372088832) = true := decide_eq_true c4
      clear c4
      obtain ⟨y119, hy119⟩ : ∃ y_ : List Int, y_ = (List.replicate (t116 : Int).toNat 0) := ⟨_, rfl⟩
      replace H : ((goprompt_Document_Lines.f k t117 t118).bind fun bt122 => (goprompt_Document_lineStartIndexes.l0 k t116 y119 bt122.1 (bt122.1.length : Int) 0 bt122.2.1 bt122.2.2)) = some (r1, r2, r3) := by first | (rw [hy119]; with_reducible exact H) | (have H2_ := (Option.bind_some _ _).symm.trans H; rw [hy119]; with_reducible exact H2_) | (have H2_ := (Option.bind_some _ _).symm.trans H; with_reducible exact H2_) | with_reducible exact H | (rw [hy119]; exact H) | exact H
      have Ny119 := Aside0.mk hy119
      clear hy119
      replace H := Option.bind_eq_some_iff.mp H
      obtain ⟨⟨t122, t125, t126⟩, A50, H⟩ := H
      replace H : (goprompt_Document_lineStartIndexes.l0 k t116 y119 t122 (t122.length : Int) 0 t125 t126) = some (r1, r2, r3) := H
      have A5 := Aside0.mk A50
      clear A50
      have H' := Aside0.mk H
      clear H
      go_enter Try.func46, Try.ntmps46
      go_wp2_with (first | ((with_reducible refine gate_callee (f := 59) rfl ?_); refine goesL_ (some 12) rfl rfl Try.func59 (by kernel_rfl) rfl #[.pointer (some ⟨g, 0, none⟩)] rfl (by (try simp only [List.map_toArray, List.map_cons, List.map_nil]); first | done | rfl | (simp only [List.length_drop, List.length_take]; rfl) | (simp only [Int.toNat_natCast, ByteArray.extract_zero_size]; rfl)) ?_; (with_reducible refine (goprompt_Document_LineCount.calls k g s0_0 s0_1 t116 t117 t118 w0 _ ?side1 ?side2 A2.out).mono ?_); (case side1 => repeat (first | (with_reducible first | exact HI0.out | apply IsS83.alloc | apply IsS83.drewN | apply IsS83.drew | apply IsS83.set_0 | apply IsS83.set_1) | exact HI0.out)); (case side2 => repeat (first | (with_reducible first | exact HB.out | apply below_alloc | apply pw_below_drewN | apply below_drew1 | refine below_set ?_ (IsS83.ge HI0.out)) | exact HB.out)); rintro e w6 ⟨rfl, hi, hb, hk⟩; refine ⟨_, rfl, ?_⟩; have n0_ := Aside0.mk (KeepBut.trans (by repeat (first | (with_reducible first | exact HK.out | apply KeepBut.set_ | apply keep_drewN | apply keep_drew | apply keep_alloc) | exact HK.out)) hk (.inl rfl)); have n1_ := Aside0.mk (hb); have n2_ := Aside0.mk (hi); clear HK; clear HB; clear HI0; have HK := n0_; have HB := n1_; have HI0 := n2_; clear n0_ n1_ n2_; (try clear hb); (try clear hb2); (try clear hk); (try clear hi)) | ((with_reducible refine gate_dst (N := 14) rfl ?_); refine Kd.R_make (Kd.int .i64) _ 3 rfl (N := 14) rfl 42 _ _ rfl t116 rfl rfl Try.underlying42 (.int .i64 0) 8 info3 rfl (by decide) (by omega) 0 (ok := fun _ => True) (okp := fun _ => True) rfl (fun _ hk => hk) trivial (of_decide_eq_true (by first | (with_reducible assumption) | assumption)) (Nat.le_trans (Nat.mul_le_mul_right _ (of_decide_eq_true (by first | (with_reducible assumption) | assumption) : t116.toNat ≤ 35184372088832)) (by omega)) (Below.refl _ _) (Nat.le_refl _) ?_; intro v120 w7 ho8 hb hg_ hnew_; clear hg_ hnew_; (first | rw [← Ny119.out] at ho8 | (simp only [Int.reduceToNat] at ho8; rw [← Ny119.out] at ho8)); have n0_ := Aside0.mk (Kd.R_lower ho8 (keep_size (w := w) (g := g) (row := none) (by repeat (first | (with_reducible first | exact HK.out | apply KeepBut.set_ | apply keep_drewN | apply keep_drew | apply keep_alloc) | exact HK.out)))); have n1_ := Aside0.mk (IsS83.below (by repeat (first | (with_reducible first | exact HI0.out | apply IsS83.alloc | apply IsS83.drewN | apply IsS83.drew | apply IsS83.set_0 | apply IsS83.set_1) | exact HI0.out)) hb); have n2_ := Aside0.mk (KeepBut.trans (by repeat (first | (with_reducible first | exact HK.out | apply KeepBut.set_ | apply keep_drewN | apply keep_drew | apply keep_alloc) | exact HK.out)) (KeepBut.of_below hb g none) (.inl rfl)); have n3_ := Aside0.mk (below_step (by repeat (first | (with_reducible first | exact HB.out | apply below_alloc | apply pw_below_drewN | apply below_drew1 | refine below_set ?_ (IsS83.ge HI0.out)) | exact HB.out)) hb); clear HI0; clear HK; clear HB; have HO121 := n0_; have HI0 := n1_; have HK := n2_; have HB := n3_; clear n0_ n1_ n2_ n3_; clear hb ho8) | ((with_reducible refine gate_callee (f := 47) rfl ?_); refine goesL_ (some 16) rfl rfl Try.func47 (by kernel_rfl) rfl #[.pointer (some ⟨g, 0, none⟩)] rfl (by (try simp only [List.map_toArray, List.map_cons, List.map_nil]); first | done | rfl | (simp only [List.length_drop, List.length_take]; rfl) | (simp only [Int.toNat_natCast, ByteArray.extract_zero_size]; rfl)) ?_; (with_reducible refine (goprompt_Document_Lines.calls k g t117 t118 t122 t125 t126 w0 _ ?side1 ?side2 A5.out).mono ?_); (case side1 => repeat (first | (with_reducible first | exact HI0.out | apply IsS83.alloc | apply IsS83.drewN | apply IsS83.drew | apply IsS83.set_0 | apply IsS83.set_1) | exact HI0.out)); (case side2 => repeat (first | (with_reducible first | exact HB.out | apply below_alloc | apply pw_below_drewN | apply below_drew1 | refine below_set ?_ (IsS83.ge HI0.out)) | exact HB.out)); rintro e w9 ⟨v123, rfl, ho0, hi, hb, hk⟩; refine ⟨_, rfl, ?_⟩; have n0_ := Aside0.mk (Kd.R_mono (Kd.R_keep (IsS83.apart (show IsS83 w0 _ g t117 t118 from by repeat (first | (with_reducible first | exact HI0.out | apply IsS83.alloc | apply IsS83.drewN | apply IsS83.drew | apply IsS83.set_0 | apply IsS83.set_1) | exact HI0.out)) (by (with_reducible repeat (first | apply Kd.R_alloc | apply Kd.R_drewN | apply Kd.R_drew)); exact HO121.out) (by decide)) hk (fun _ h => h.2)) (fun _ h => h.1)); have n1_ := Aside0.mk (Kd.R_lower ho0 (keep_size (w := w) (g := g) (row := none) (by repeat (first | (with_reducible first | exact HK.out | apply KeepBut.set_ | apply keep_drewN | apply keep_drew | apply keep_alloc) | exact HK.out)))); have n2_ := Aside0.mk (KeepBut.trans (by repeat (first | (with_reducible first | exact HK.out | apply KeepBut.set_ | apply keep_drewN | apply keep_drew | apply keep_alloc) | exact HK.out)) hk (.inl rfl)); have n3_ := Aside0.mk (hb); have n4_ := Aside0.mk (hi); clear HO121; clear HK; clear HB; clear HI0; have HO121 := n0_; have HO124 := n1_; have HK := n2_; have HB := n3_; have HI0 := n4_; clear n0_ n1_ n2_ n3_ n4_; (try clear hb); (try clear hb2); (try clear hk); (try clear hi); (try clear ho0); obtain ⟨Ao10, co10, eo10⟩ := Kd.R_slice HO124.out; subst eo10))
      go_loopg [18] k (fun kq v18 w' => ∃ (x4_1 : List Int) (x18_1 : Int), v18 = .int .i64 x18_1 ∧ Aside0 (goprompt_Document_lineStartIndexes.l0 kq t116 x4_1 t122 (t122.length : Int) x18_1 t125 t126 = some (r1, r2, r3)) ∧ Aside0 (kq ≤ k) ∧ Aside0 (Kd.R (Kd.int .i64) 3 w' w.heap.size (fun _ => True) v120 x4_1) ∧ Aside0 (Kd.R Kd.string 9 w' w.heap.size (fun _ => True) (.slice Ao10 t122.length co10) t122) ∧ Aside0 (IsS83 w0 w' g t125 t126) ∧ Aside0 (KeepBut w w' g none) ∧ Aside0 (Below w0.heap.size w0 w'))
      case atStart => exact ⟨(y119), (0), (by first | rfl | (simp; done) | (simp [*]; done)), H', ⟨Nat.le_refl _⟩, ⟨by (with_reducible repeat (first | apply Kd.R_alloc | apply Kd.R_drewN | apply Kd.R_drew)); exact HO121.out⟩, ⟨by (with_reducible repeat (first | apply Kd.R_alloc | apply Kd.R_drewN | apply Kd.R_drew)); exact HO124.out⟩, ⟨by repeat (first | (with_reducible first | exact HI0.out | apply IsS83.alloc | apply IsS83.drewN | apply IsS83.drew | apply IsS83.set_0 | apply IsS83.set_1) | exact HI0.out)⟩, ⟨by repeat (first | (with_reducible first | exact HK.out | apply KeepBut.set_ | apply keep_drewN | apply keep_drew | apply keep_alloc) | exact HK.out)⟩, ⟨by repeat (first | (with_reducible first | exact HB.out | apply below_alloc | apply pw_below_drewN | apply below_drew1 | refine below_set ?_ (IsS83.ge HI0.out)) | exact HB.out)⟩⟩
      case round =>
        clear H'
        try clear p2
        try clear c3
        try clear c3b0
        try clear c3b1
        try clear c4
        try clear c4b0
        try clear c4b1
        try clear c5
        obtain ⟨x4_1, x18_1, rfl, HA, HK1, HO_4, HO_16, HI0, HK, HB⟩ := hrel
        cases gk with
        | zero => exact absurd HA.out (by simp [goprompt_Document_lineStartIndexes.l0])
        | succ k1 =>
          have H := HA.out
          clear HA
          simp only [goprompt_Document_lineStartIndexes.l0] at H
          by_cases c11 : x18_1 < (t122.length : Int)
          · rw [if_pos c11] at H
            have c11b0 : decide (x18_1 < (t122.length : Int)) = true := decide_eq_true c11
            clear c11
            by_cases c12 : 0 ≤ x18_1
            · rw [if_pos c12] at H
              have c12b0 : decide (0 ≤ x18_1) = true := decide_eq_true c12
              clear c12
              by_cases c13 : x18_1 < (t122.length : Int)
              · rw [if_pos c13] at H
                have c13b0 : decide (x18_1 < (t122.length : Int)) = true := decide_eq_true c13
                clear c13
                by_cases c14 : x18_1 < (x4_1.length : Int)
                · rw [if_pos c14] at H
                  have c14b0 : decide (x18_1 < (x4_1.length : Int)) = true := decide_eq_true c14
                  clear c14
                  obtain ⟨y128, hy128⟩ : ∃ y_ : List Int, y_ = (x4_1.set (x18_1 : Int).toNat ((rdOf ByteArray.empty t122 x18_1).size : Int)) := ⟨_, rfl⟩
                  replace H : (goprompt_Document_lineStartIndexes.l0 k1 t116 y128 t122 (t122.length : Int) (wrap64 (x18_1 + 1)) t125 t126) = some (r1, r2, r3) := by first | (rw [hy128]; with_reducible exact H) | (have H2_ := (Option.bind_some _ _).symm.trans H; rw [hy128]; with_reducible exact H2_) | (have H2_ := (Option.bind_some _ _).symm.trans H; with_reducible exact H2_) | with_reducible exact H | (rw [hy128]; exact H) | exact H
                  have Ny128 := Aside0.mk hy128
                  clear hy128
                  have H' := Aside0.mk H
                  clear H
                  have p127 : 0 ≤ (x18_1 : Int) := of_decide_eq_true (by first | (with_reducible assumption) | assumption)
                  have q127 : x18_1 < (t122.length : Int) := of_decide_eq_true (by first | (with_reducible assumption) | assumption)
                  obtain ⟨ad127, e127, hx127_0⟩ := Kd.at_string (Kd.R_reads' HO_16.out).2.2 x18_1 p127 q127
                  cases e127
                  replace p127 := eq_true p127
                  replace q127 := eq_true q127
                  have p15 : 0 ≤ (x18_1 : Int) := of_decide_eq_true (by first | (with_reducible assumption) | assumption)
                  have q15 : (x18_1 : Int) < ((x4_1.length : Int) : Int) := of_decide_eq_true (by first | (with_reducible assumption) | assumption)
                  obtain ⟨go15, co15, eo15, gb15, gl15, cl15, HG15⟩ := Kd.R_form HO_4.out (by omega)
                  (first | cases eo15 | (injection eo15 with ea_ en_ ec_; (first | subst ea_ | (injection ea_ with ea_; subst ea_)); subst ec_; clear en_))
                  have GB15 := Aside0.mk gb15
                  have GG15 := Aside0.mk HG15
                  clear gb15 gl15 HG15
                  obtain ⟨hx15_0, hf15_0⟩ := Kd.R_celln 0 HO_4.out (x18_1 : Int) p15 q15
                  replace p15 := eq_true p15
                  replace q15 := eq_true q15
                  have HP16 := Kd.R_putg HO_4.out (x18_1 : Int) ((rdOf ByteArray.empty t122 x18_1).size : Int)
                  go_wp2_with (first | ((with_reducible refine gate_store (t := 3) (p := 27) rfl ?_); refine store_event (t := 3) (p := 27) (v := ?vo_w17) (w1 := (wr.setCell ⟨go15, (x18_1 : Int).toNat, none⟩ (.int .i64 ((rdOf ByteArray.empty t122 x18_1).size : Int)))) ?hg ?ho ?hn ?hr ?_; (case ho => rfl); (case hg => rfl); (case hn => rfl); (case hr => first | (go_simp; done) | (go_simp; rfl)); intro w17 hw; have hg : wr.grownBy w17 (some go15) := (by rw [hw]; exact HP16.2); have hp_ : Kd.R (Kd.int .i64) 3 w17 w.heap.size (fun _ => True) (.slice (some ⟨go15, 0, none⟩) x4_1.length co15) y128 := (by rw [hw, Ny128.out]; exact HP16.1); clear HP16; have n0_ := Aside0.mk (hp_); have n1_ := Aside0.mk (Kd.R_over' (v := (.slice (some ⟨go15, 0, none⟩) x4_1.length co15)) (by (with_reducible repeat (first | apply Kd.R_alloc | apply Kd.R_drewN | apply Kd.R_drew)); exact HO_16.out) (Kd.R_typed HO_4.out) (by decide) hg); have n2_ := Aside0.mk (IsS83.grown (by repeat (first | (with_reducible first | exact HI0.out | apply IsS83.alloc | apply IsS83.drewN | apply IsS83.drew | apply IsS83.set_0 | apply IsS83.set_1) | exact HI0.out)) hg (IsS83.own_ne HI0.out HO_4.out (by decide))); have n3_ := Aside0.mk ((by rw [hw]; exact below_set (HB.out) (Nat.le_trans HL.out GB15.out) : Below w0.heap.size w0 w17)); have n4_ := Aside0.mk (KeepBut.trans (by repeat (first | (with_reducible first | exact HK.out | apply KeepBut.set_ | apply keep_drewN | apply keep_drew | apply keep_alloc) | exact HK.out)) (KeepBut.of_grown hg g) (Kd.R_base2 HO_4.out)); clear HO_4; clear HO_16; clear HI0; clear HB; clear HK; have HO_4 := n0_; have HO_16 := n1_; have HI0 := n2_; have HB := n3_; have HK := n4_; clear n0_ n1_ n2_ n3_ n4_; clear hg hw hp_))
                  go_roundg k1
                  case measure => have := HK1.out; omega
                  case rel => exact ⟨(y128), (wrap64 (x18_1 + 1)), (by first | rfl | (simp; done) | (simp [*]; done)), H', ⟨by have := HK1.out; omega⟩, ⟨by (with_reducible repeat (first | apply Kd.R_alloc | apply Kd.R_drewN | apply Kd.R_drew)); exact HO_4.out⟩, ⟨by (with_reducible repeat (first | apply Kd.R_alloc | apply Kd.R_drewN | apply Kd.R_drew)); exact HO_16.out⟩, ⟨by repeat (first | (with_reducible first | exact HI0.out | apply IsS83.alloc | apply IsS83.drewN | apply IsS83.drew | apply IsS83.set_0 | apply IsS83.set_1) | exact HI0.out)⟩, ⟨by repeat (first | (with_reducible first | exact HK.out | apply KeepBut.set_ | apply keep_drewN | apply keep_drew | apply keep_alloc) | exact HK.out)⟩, ⟨by repeat (first | (with_reducible first | exact HB.out | apply below_alloc | apply pw_below_drewN | apply below_drew1 | refine below_set ?_ (IsS83.ge HI0.out)) | exact HB.out)⟩⟩
                · rw [if_neg c14] at H
                  exact absurd H (by simp)
              · rw [if_neg c13] at H
                exact absurd H (by simp)
            · rw [if_neg c12] at H
              exact absurd H (by simp)
          · rw [if_neg c11] at H
            have c11b0 : decide (x18_1 < (t122.length : Int)) = false := decide_eq_false c11
            clear c11
            obtain ⟨ji18, hji18⟩ : ∃ j_ : Int, (wrap64 (t116 + 1)) = j_ := ⟨_, rfl⟩
            replace H : (if 0 ≤ (ji18) then (if (ji18 : Int).toNat ≤ 35184372088832 then ((some (List.replicate (ji18 : Int).toNat 0 : List Int)).bind fun y129 => (if 0 < (y129.length : Int) then (goprompt_Document_lineStartIndexes.l1 k1 t116 (y129.set (0 : Int).toNat 0) 0 x4_1 (x4_1.length : Int) 0 t125 t126) else (none))) else (none)) else (none)) = some (r1, r2, r3) := by first | (rw [hji18] at H; exact H) | (simp only [hji18] at H ⊢; exact H)
            have hji18w : (IntKind.i64.wrap (t116 + 1)) = ji18 := (i64_w _).trans hji18
            by_cases c19 : 0 ≤ (ji18)
            · rw [if_pos c19] at H
              have c19b0 := eq_true c19
              have c19b1 : decide (0 ≤ (ji18)) = true := decide_eq_true c19
              clear c19
              by_cases c20 : (ji18 : Int).toNat ≤ 35184372088832
              · rw [if_pos c20] at H
                have c20b0 := eq_true c20
                have c20b1 : decide ((ji18 : Int).toNat ≤ 35184372088832) = true := decide_eq_true c20
                clear c20
                obtain ⟨y129, hy129⟩ : ∃ y_ : List Int, y_ = (List.replicate (ji18 : Int).toNat 0) := ⟨_, rfl⟩
                replace H : (if 0 < (y129.length : Int) then (goprompt_Document_lineStartIndexes.l1 k1 t116 (y129.set (0 : Int).toNat 0) 0 x4_1 (x4_1.length : Int) 0 t125 t126) else (none)) = some (r1, r2, r3) := by first | (rw [hy129]; with_reducible exact H) | (have H2_ := (Option.bind_some _ _).symm.trans H; rw [hy129]; with_reducible exact H2_) | (have H2_ := (Option.bind_some _ _).symm.trans H; with_reducible exact H2_) | with_reducible exact H | (rw [hy129]; exact H) | exact H
                have Ny129 := Aside0.mk hy129
                clear hy129
                by_cases c21 : 0 < (y129.length : Int)
                · rw [if_pos c21] at H
                  have c21b0 : decide (0 < (y129.length : Int)) = true := decide_eq_true c21
                  have c21b1 : decide (0 < y129.length) = true := decide_eq_true (by omega)
                  clear c21
                  obtain ⟨y132, hy132⟩ : ∃ y_ : List Int, y_ = (y129.set (0 : Int).toNat 0) := ⟨_, rfl⟩
                  replace H : (goprompt_Document_lineStartIndexes.l1 k1 t116 y132 0 x4_1 (x4_1.length : Int) 0 t125 t126) = some (r1, r2, r3) := by first | (rw [hy132]; with_reducible exact H) | (have H2_ := (Option.bind_some _ _).symm.trans H; rw [hy132]; with_reducible exact H2_) | (have H2_ := (Option.bind_some _ _).symm.trans H; with_reducible exact H2_) | with_reducible exact H | (rw [hy132]; exact H) | exact H
                  have Ny132 := Aside0.mk hy132
                  clear hy132
                  have H' := Aside0.mk H
                  clear H
                  go_wp2_with (first | ((with_reducible refine gate_dst (N := 31) rfl ?_); refine Kd.R_make (Kd.int .i64) _ 3 rfl (N := 31) rfl 42 _ _ rfl ji18 rfl rfl Try.underlying42 (.int .i64 0) 8 info3 rfl (by decide) (by omega) 0 (ok := fun _ => True) (okp := fun _ => True) rfl (fun _ hk => hk) trivial (of_decide_eq_true (by first | (with_reducible assumption) | assumption)) (Nat.le_trans (Nat.mul_le_mul_right _ (of_decide_eq_true (by first | (with_reducible assumption) | assumption) : ji18.toNat ≤ 35184372088832)) (by omega)) (Below.refl _ _) (Nat.le_refl _) ?_; intro v130 w23 ho24 hb hg_ hnew_; clear hg_ hnew_; (first | rw [← Ny129.out] at ho24 | (simp only [Int.reduceToNat] at ho24; rw [← Ny129.out] at ho24)); have n0_ := Aside0.mk (Kd.R_elder' (by (with_reducible repeat (first | apply Kd.R_alloc | apply Kd.R_drewN | apply Kd.R_drew)); exact HO_4.out) (Kd.R_base ho24) hb); have n1_ := Aside0.mk (Kd.R_below (by (with_reducible repeat (first | apply Kd.R_alloc | apply Kd.R_drewN | apply Kd.R_drew)); exact HO_16.out) hb); have n2_ := Aside0.mk (Kd.R_lower (Kd.R_new' ho24 (Kd.R_lt (by (with_reducible repeat (first | apply Kd.R_alloc | apply Kd.R_drewN | apply Kd.R_drew)); exact HO_4.out))) (keep_size (w := w) (g := g) (row := none) (by repeat (first | (with_reducible first | exact HK.out | apply KeepBut.set_ | apply keep_drewN | apply keep_drew | apply keep_alloc) | exact HK.out)))); have n3_ := Aside0.mk (IsS83.below (by repeat (first | (with_reducible first | exact HI0.out | apply IsS83.alloc | apply IsS83.drewN | apply IsS83.drew | apply IsS83.set_0 | apply IsS83.set_1) | exact HI0.out)) hb); have n4_ := Aside0.mk (KeepBut.trans (by repeat (first | (with_reducible first | exact HK.out | apply KeepBut.set_ | apply keep_drewN | apply keep_drew | apply keep_alloc) | exact HK.out)) (KeepBut.of_below hb g none) (.inl rfl)); have n5_ := Aside0.mk (below_step (by repeat (first | (with_reducible first | exact HB.out | apply below_alloc | apply pw_below_drewN | apply below_drew1 | refine below_set ?_ (IsS83.ge HI0.out)) | exact HB.out)) hb); clear HO_4; clear HO_16; clear HI0; clear HK; clear HB; have HO_4 := n0_; have HO_16 := n1_; have HO131 := n2_; have HI0 := n3_; have HK := n4_; have HB := n5_; clear n0_ n1_ n2_ n3_ n4_ n5_; clear hb ho24; have p22 : 0 ≤ (0 : Int) := (by omega); have q22 : (0 : Int) < ((y129.length : Int) : Int) := of_decide_eq_true (by first | (with_reducible assumption) | assumption); have qi22 : (0 < y129.length) = True := eq_true (by omega); obtain ⟨go22, co22, eo22, gb22, gl22, cl22, HG22⟩ := Kd.R_form HO131.out (by omega); (first | cases eo22 | (injection eo22 with ea_ en_ ec_; (first | subst ea_ | (injection ea_ with ea_; subst ea_)); subst ec_; clear en_)); have GB22 := Aside0.mk gb22; have GG22 := Aside0.mk HG22; clear gb22 gl22 HG22; obtain ⟨hx22_0, hf22_0⟩ := Kd.R_celln 0 HO131.out (0 : Int) p22 q22; (try rw [show ((0 : Int)).toNat = 0 from rfl] at hx22_0); (try simp only [Nat.reduceMul, Nat.zero_mul, Nat.zero_add, Nat.reduceAdd] at hx22_0); (try rw [show ((0 : Int)).toNat = 0 from rfl] at hf22_0); (try simp only [Nat.reduceMul, Nat.zero_mul, Nat.zero_add, Nat.reduceAdd] at hf22_0); replace p22 := eq_true p22; replace q22 := eq_true q22; have n_ := Aside0.mk (Kd.R_mono (ok' := (fun k_ => some k_ ≠ (v120 : Value).ownBlock)) HO131.out (fun k_ hk => hk.2)); clear HO131; have HO131 := n_; clear n_; obtain ⟨hy25_, hz25_⟩ := Kd.R_celln 0 HO131.out (0 : Int) (by omega) (of_decide_eq_true (by first | (with_reducible assumption) | assumption)); (try simp only [Int.reduceToNat, Int.toNat_zero, Int.toNat_ofNat, Nat.reduceMul, Nat.zero_mul, Nat.zero_add] at hy25_ hz25_); (try rw [show ((0 : Int)).toNat = 0 from rfl] at hy25_); (try rw [show ((0 : Int)).toNat = 0 from rfl] at hz25_); have HP25 := Kd.R_putg HO131.out (0 : Int) 0) | ((with_reducible refine gate_store (t := 3) (p := 33) rfl ?_); refine store_event (t := 3) (p := 33) (v := ?vo_w26) (w1 := (w23.setCell ⟨go22, (0 : Int).toNat, none⟩ (.int .i64 0))) ?hg ?ho ?hn ?hr ?_; (case ho => rfl); (case hg => rfl); (case hn => rfl); (case hr => first | (go_simp; done) | (go_simp; rfl)); intro w26 hw; have hg : w23.grownBy w26 (some go22) := (by rw [hw]; exact HP25.2); have hp_ : Kd.R (Kd.int .i64) 3 w26 w.heap.size (fun k_ => some k_ ≠ (v120 : Value).ownBlock) (.slice (some ⟨go22, 0, none⟩) y129.length co22) y132 := (by rw [hw, Ny132.out]; exact HP25.1); clear HP25; have n0_ := Aside0.mk (Kd.R_after (v := (.slice (some ⟨go22, 0, none⟩) y129.length co22)) (v1 := (.slice (some ⟨go22, 0, none⟩) y129.length co22)) (ok := (fun _ => True)) (by (with_reducible repeat (first | apply Kd.R_alloc | apply Kd.R_drewN | apply Kd.R_drew)); exact HO_4.out) hg (.inl rfl)); have n1_ := Aside0.mk (Kd.R_over' (v := (.slice (some ⟨go22, 0, none⟩) y129.length co22)) (by (with_reducible repeat (first | apply Kd.R_alloc | apply Kd.R_drewN | apply Kd.R_drew)); exact HO_16.out) (Kd.R_typed HO131.out) (by decide) hg); have n2_ := Aside0.mk (IsS83.grown (by repeat (first | (with_reducible first | exact HI0.out | apply IsS83.alloc | apply IsS83.drewN | apply IsS83.drew | apply IsS83.set_0 | apply IsS83.set_1) | exact HI0.out)) hg (IsS83.own_ne HI0.out HO131.out (by decide))); have n3_ := Aside0.mk (hp_); have n4_ := Aside0.mk ((by rw [hw]; exact below_set (HB.out) (Nat.le_trans HL.out GB22.out) : Below w0.heap.size w0 w26)); have n5_ := Aside0.mk (KeepBut.trans (by repeat (first | (with_reducible first | exact HK.out | apply KeepBut.set_ | apply keep_drewN | apply keep_drew | apply keep_alloc) | exact HK.out)) (KeepBut.of_grown hg g) (Kd.R_base2 HO131.out)); clear HO_4; clear HO_16; clear HI0; clear HO131; clear HB; clear HK; have HO_4 := n0_; have HO_16 := n1_; have HI0 := n2_; have HO131 := n3_; have HB := n4_; have HK := n5_; clear n0_ n1_ n2_ n3_ n4_ n5_; clear hg hw hp_; obtain ⟨Ao27, co27, eo27⟩ := Kd.R_slice HO_4.out; subst eo27))
                  go_loopg [8, 36] k1 (fun kq v8 v36 w' => ∃ (x7_2 : List Int) (x8_2 : Int) (x36_2 : Int), v8 = .int .i64 x8_2 ∧ v36 = .int .i64 x36_2 ∧ Aside0 (goprompt_Document_lineStartIndexes.l1 kq t116 x7_2 x8_2 x4_1 (x4_1.length : Int) x36_2 t125 t126 = some (r1, r2, r3)) ∧ Aside0 (kq ≤ k1) ∧ Aside0 (Kd.R (Kd.int .i64) 3 w' w.heap.size (fun k_ => some k_ ≠ ((.slice Ao27 x4_1.length co27) : Value).ownBlock) (.slice (some ⟨go22, 0, none⟩) y129.length co22) x7_2) ∧ Aside0 (Kd.R (Kd.int .i64) 3 w' w.heap.size (fun k_ => some k_ ≠ ((.slice (some ⟨go22, 0, none⟩) y129.length co22) : Value).ownBlock) (.slice Ao27 x4_1.length co27) x4_1) ∧ Aside0 (IsS83 w0 w' g t125 t126) ∧ Aside0 (KeepBut w w' g none) ∧ Aside0 (Below w0.heap.size w0 w'))
                  case atStart => exact ⟨(y132), (0), (0), (by first | rfl | (simp; done) | (simp [*]; done)), (by first | rfl | (simp; done) | (simp [*]; done)), H', ⟨Nat.le_refl _⟩, ⟨by (with_reducible repeat (first | apply Kd.R_alloc | apply Kd.R_drewN | apply Kd.R_drew)); exact HO131.out⟩, ⟨by (with_reducible repeat (first | apply Kd.R_alloc | apply Kd.R_drewN | apply Kd.R_drew)); exact Kd.R_mono HO_4.out (fun _ hk => hk.2)⟩, ⟨by repeat (first | (with_reducible first | exact HI0.out | apply IsS83.alloc | apply IsS83.drewN | apply IsS83.drew | apply IsS83.set_0 | apply IsS83.set_1) | exact HI0.out)⟩, ⟨by repeat (first | (with_reducible first | exact HK.out | apply KeepBut.set_ | apply keep_drewN | apply keep_drew | apply keep_alloc) | exact HK.out)⟩, ⟨by repeat (first | (with_reducible first | exact HB.out | apply below_alloc | apply pw_below_drewN | apply below_drew1 | refine below_set ?_ (IsS83.ge HI0.out)) | exact HB.out)⟩⟩
                  case round =>
                    clear H'
                    try clear c1
                    try clear p1
                    try clear q1
                    try clear hx1
                    try clear hf1
                    try clear c2
                    try clear p2
                    try clear q2
                    try clear hx2
                    try clear qi2
                    try clear hf2
                    try clear c3
                    try clear c3b0
                    try clear c3b1
                    try clear c4
                    try clear c4b0
                    try clear c4b1
                    try clear c5
                    try clear p6
                    try clear c11
                    try clear c11b0
                    try clear c12
                    try clear c12b0
                    try clear p12
                    try clear q12
                    try clear hx12
                    try clear c13
                    try clear c13b0
                    try clear c14
                    try clear c14b0
                    try clear p15
                    try clear q15
                    try clear hx15
                    try clear hf15
                    try clear c19
                    try clear c19b0
                    try clear c19b1
                    try clear c20
                    try clear c20b0
                    try clear c20b1
                    try clear c21
                    try clear c21b0
                    try clear c21b1
                    try clear p22
                    try clear q22
                    try clear hx22
                    try clear qi22
                    try clear hf22
                    try clear hx127_0
                    try clear hx15_0
                    try clear hx22_0
                    try clear p127
                    try clear p15
                    try clear p2
                    try clear p22
                    try clear q127
                    try clear q15
                    try clear q22
                    obtain ⟨x7_2, x8_2, x36_2, rfl, rfl, HA, HK2, HO_7, HO_34, HI0, HK, HB⟩ := hrel
                    have hl7_2 := (Kd.R_reads' HO_7.out).1
                    rw [hl7_2] at HO_7
                    (try simp only [hl7_2])
                    (try simp only [hl7_2] at HO_34)
                    cases gk with
                    | zero => exact absurd HA.out (by simp [goprompt_Document_lineStartIndexes.l1])
                    | succ k2 =>
                      have H := HA.out
                      clear HA
                      simp only [goprompt_Document_lineStartIndexes.l1] at H
                      by_cases c28 : x36_2 < (x4_1.length : Int)
                      · rw [if_pos c28] at H
                        have c28b0 : decide (x36_2 < (x4_1.length : Int)) = true := decide_eq_true c28
                        clear c28
                        by_cases c29 : 0 ≤ x36_2
                        · rw [if_pos c29] at H
                          have c29b0 : decide (0 ≤ x36_2) = true := decide_eq_true c29
                          clear c29
                          by_cases c30 : x36_2 < (x4_1.length : Int)
                          · rw [if_pos c30] at H
                            have c30b0 : decide (x36_2 < (x4_1.length : Int)) = true := decide_eq_true c30
                            clear c30
                            obtain ⟨ji31, hji31⟩ : ∃ j_ : Int, (wrap64 (x36_2 + 1)) = j_ := ⟨_, rfl⟩
                            replace H : (if 0 ≤ (ji31) then (if (ji31) < (x7_2.length : Int) then (goprompt_Document_lineStartIndexes.l1 k2 t116 (x7_2.set ((ji31) : Int).toNat (wrap64 (x8_2 + (wrap64 ((rd x4_1 x36_2) + 1))))) (wrap64 (x8_2 + (wrap64 ((rd x4_1 x36_2) + 1)))) x4_1 (x4_1.length : Int) ji31 t125 t126) else (none)) else (none)) = some (r1, r2, r3) := by first | (rw [hji31] at H; exact H) | (simp only [hji31] at H ⊢; exact H)
                            have hji31w : (IntKind.i64.wrap (x36_2 + 1)) = ji31 := (i64_w _).trans hji31
                            by_cases c32 : 0 ≤ (ji31)
                            · rw [if_pos c32] at H
                              have c32b0 : decide (0 ≤ (ji31)) = true := decide_eq_true c32
                              clear c32
                              by_cases c33 : (ji31) < (x7_2.length : Int)
                              · rw [if_pos c33] at H
                                have c33b0 : decide ((ji31) < (x7_2.length : Int)) = true := decide_eq_true c33
                                clear c33
                                obtain ⟨y134, hy134⟩ : ∃ y_ : List Int, y_ = (x7_2.set ((ji31) : Int).toNat (wrap64 (x8_2 + (wrap64 ((rd x4_1 x36_2) + 1))))) := ⟨_, rfl⟩
                                replace H : (goprompt_Document_lineStartIndexes.l1 k2 t116 y134 (wrap64 (x8_2 + (wrap64 ((rd x4_1 x36_2) + 1)))) x4_1 (x4_1.length : Int) ji31 t125 t126) = some (r1, r2, r3) := by first | (rw [hy134]; with_reducible exact H) | (have H2_ := (Option.bind_some _ _).symm.trans H; rw [hy134]; with_reducible exact H2_) | (have H2_ := (Option.bind_some _ _).symm.trans H; with_reducible exact H2_) | with_reducible exact H | (rw [hy134]; exact H) | exact H
                                have Ny134 := Aside0.mk hy134
                                clear hy134
                                have H' := Aside0.mk H
                                clear H
                                have p133 : 0 ≤ (x36_2 : Int) := of_decide_eq_true (by first | (with_reducible assumption) | assumption)
                                have q133 : x36_2 < (x4_1.length : Int) := of_decide_eq_true (by first | (with_reducible assumption) | assumption)
                                obtain ⟨ad133, e133, hx133_0⟩ := Kd.at_int (Kd.R_reads' HO_34.out).2.2 x36_2 p133 q133
                                cases e133
                                replace p133 := eq_true p133
                                replace q133 := eq_true q133
                                have p34 : 0 ≤ ((ji31) : Int) := of_decide_eq_true (by first | (with_reducible assumption) | assumption)
                                have q34 : ((ji31) : Int) < ((x7_2.length : Int) : Int) := of_decide_eq_true (by first | (with_reducible assumption) | assumption)
                                obtain ⟨hx34_0, hf34_0⟩ := Kd.R_celln 0 HO_7.out ((ji31) : Int) p34 q34
                                replace p34 := eq_true p34
                                replace q34 := eq_true q34
                                have HP35 := Kd.R_putg HO_7.out ((ji31) : Int) (wrap64 (x8_2 + (wrap64 ((rd x4_1 x36_2) + 1))))
                                go_wp2_with (first | ((with_reducible refine gate_store (t := 3) (p := 49) rfl ?_); refine store_event (t := 3) (p := 49) (v := ?vo_w36) (w1 := (wr.setCell ⟨go22, ((ji31) : Int).toNat, none⟩ (.int .i64 (wrap64 (x8_2 + (wrap64 ((rd x4_1 x36_2) + 1))))))) ?hg ?ho ?hn ?hr ?_; (case ho => rfl); (case hg => rfl); (case hn => rfl); (case hr => first | (go_simp; done) | (go_simp; rfl)); intro w36 hw; have hg : wr.grownBy w36 (some go22) := (by rw [hw]; exact HP35.2); have hp_ : Kd.R (Kd.int .i64) 3 w36 w.heap.size (fun k_ => some k_ ≠ (.slice (some ad133) x4_1.length co27 : Value).ownBlock) (.slice (some ⟨go22, 0, none⟩) x7_2.length co22) y134 := (by rw [hw, Ny134.out]; exact HP35.1); clear HP35; have n0_ := Aside0.mk (hp_); have n1_ := Aside0.mk (Kd.R_after (v := (.slice (some ⟨go22, 0, none⟩) x7_2.length co22)) (v1 := (.slice (some ⟨go22, 0, none⟩) x7_2.length co22)) (ok := (fun _ => True)) (by (with_reducible repeat (first | apply Kd.R_alloc | apply Kd.R_drewN | apply Kd.R_drew)); exact Kd.R_mono HO_34.out (fun _ hk => ⟨trivial, hk⟩)) hg (.inl rfl)); have n2_ := Aside0.mk (IsS83.grown (by repeat (first | (with_reducible first | exact HI0.out | apply IsS83.alloc | apply IsS83.drewN | apply IsS83.drew | apply IsS83.set_0 | apply IsS83.set_1) | exact HI0.out)) hg (IsS83.own_ne HI0.out HO_7.out (by decide))); have n3_ := Aside0.mk ((by rw [hw]; exact below_set (HB.out) (Nat.le_trans HL.out GB22.out) : Below w0.heap.size w0 w36)); have n4_ := Aside0.mk (KeepBut.trans (by repeat (first | (with_reducible first | exact HK.out | apply KeepBut.set_ | apply keep_drewN | apply keep_drew | apply keep_alloc) | exact HK.out)) (KeepBut.of_grown hg g) (Kd.R_base2 HO_7.out)); clear HO_7; clear HO_34; clear HI0; clear HB; clear HK; have HO_7 := n0_; have HO_34 := n1_; have HI0 := n2_; have HB := n3_; have HK := n4_; clear n0_ n1_ n2_ n3_ n4_; clear hg hw hp_))
                                (try simp only [← hl7_2])
                                go_roundg k2
                                case measure => have := HK1.out; have := HK2.out; omega
                                case rel => exact ⟨(y134), (wrap64 (x8_2 + (wrap64 ((rd x4_1 x36_2) + 1)))), (ji31), (by first | rfl | (simp; done) | (simp [*]; done)), (by first | rfl | (simp; done) | (simp only [← hji31] <;> (first | rfl | simp)) | (simp [*]; done)), (by first | exact H' | (rw [hji31]; exact H')), ⟨by have := HK1.out; have := HK2.out; omega⟩, ⟨by (try simp only [hl7_2]); (with_reducible repeat (first | apply Kd.R_alloc | apply Kd.R_drewN | apply Kd.R_drew)); exact HO_7.out⟩, ⟨by (try simp only [hl7_2]); (with_reducible repeat (first | apply Kd.R_alloc | apply Kd.R_drewN | apply Kd.R_drew)); exact Kd.R_mono HO_34.out (fun _ hk => hk.2)⟩, ⟨by repeat (first | (with_reducible first | exact HI0.out | apply IsS83.alloc | apply IsS83.drewN | apply IsS83.drew | apply IsS83.set_0 | apply IsS83.set_1) | exact HI0.out)⟩, ⟨by repeat (first | (with_reducible first | exact HK.out | apply KeepBut.set_ | apply keep_drewN | apply keep_drew | apply keep_alloc) | exact HK.out)⟩, ⟨by repeat (first | (with_reducible first | exact HB.out | apply below_alloc | apply pw_below_drewN | apply below_drew1 | refine below_set ?_ (IsS83.ge HI0.out)) | exact HB.out)⟩⟩
                              · rw [if_neg c33] at H
                                exact absurd H (by simp)
                            · rw [if_neg c32] at H
                              exact absurd H (by simp)
                          · rw [if_neg c30] at H
                            exact absurd H (by simp)
                        · rw [if_neg c29] at H
                          exact absurd H (by simp)
                      · rw [if_neg c28] at H
                        have c28b0 : decide (x36_2 < (x4_1.length : Int)) = false := decide_eq_false c28
                        clear c28
                        by_cases c37 : t116 > 1
                        · rw [if_pos c37] at H
                          have c37b0 : decide (1 < t116) = true := decide_eq_true c37
                          clear c37
                          by_cases c38 : 0 ≤ t116
                          · rw [if_pos c38] at H
                            have c38b0 := eq_true c38
                            have c38b1 : decide (0 ≤ t116) = true := decide_eq_true c38
                            clear c38
                            by_cases c39 : t116 ≤ (x7_2.length : Int)
                            · rw [if_pos c39] at H
                              have c39b0 := eq_true c39
                              have c39b1 : decide (t116 ≤ (x7_2.length : Int)) = true := decide_eq_true c39
                              clear c39
                              obtain ⟨y135, hy135⟩ : ∃ y_ : List Int, y_ = (x7_2.take (t116 : Int).toNat) := ⟨_, rfl⟩
                              replace H : (some (y135, t125, t126)) = some (r1, r2, r3) := by first | (rw [hy135]; with_reducible exact H) | (have H2_ := (Option.bind_some _ _).symm.trans H; rw [hy135]; with_reducible exact H2_) | (have H2_ := (Option.bind_some _ _).symm.trans H; with_reducible exact H2_) | with_reducible exact H | (rw [hy135]; exact H) | exact H
                              have Ny135 := Aside0.mk hy135
                              clear hy135
                              simp only [Option.some.injEq, Prod.mk.injEq] at H
                              obtain ⟨rfl, rfl, rfl⟩ := H
                              have q40 : (t116 : Int) ≤ ((x7_2.length : Int) : Int) := of_decide_eq_true (by first | (with_reducible assumption) | assumption)
                              obtain ⟨i040, hi040, _, hsz40, _⟩ := info_parts info3
                              have hcut40 := cut_to (P := Try.prog) 42 3 .i64 Try.underlying42 hi040 (some ⟨go22, 0, none⟩) x7_2.length co22 t116 (of_decide_eq_true (by first | (with_reducible assumption) | assumption)) q40 (Kd.R_reads' HO_7.out).2.1
                              have hr40 := Kd.R_take (m := (t116 : Int).toNat) HO_7.out (by omega)
                              have hy40 : y135.length = (t116 : Int).toNat := (by rw [Ny135.out, List.length_take]; omega)
                              rw [← Ny135.out] at hr40
                              rw [← hy40] at hr40 hcut40
                              clear hy40 hi040 hsz40 HO_7
                              have HO137 := Aside0.mk hr40
                              clear hr40
                              replace q40 := eq_true q40
                              go_wp2
                              go_ret
                              exact ⟨_, by first | rfl | (simp [errW_none, errW_some] <;> rfl) | (simp only [← hji18]; first | rfl | (simp [errW_none, errW_some] <;> rfl)) | (simp [*, errW_none, errW_some] <;> rfl), by (with_reducible repeat (first | apply Kd.R_alloc | apply Kd.R_drewN | apply Kd.R_drew)); exact Kd.R_mono HO137.out (fun _ hk => trivial), by repeat (first | (with_reducible first | exact HI0.out | apply IsS83.alloc | apply IsS83.drewN | apply IsS83.drew | apply IsS83.set_0 | apply IsS83.set_1) | exact HI0.out), by repeat (first | (with_reducible first | exact HB.out | apply below_alloc | apply pw_below_drewN | apply below_drew1 | refine below_set ?_ (IsS83.ge HI0.out)) | exact HB.out), by repeat (first | (with_reducible first | exact HK.out | apply KeepBut.set_ | apply keep_drewN | apply keep_drew | apply keep_alloc) | exact HK.out)⟩
                            · rw [if_neg c39] at H
                              exact absurd H (by simp)
                          · rw [if_neg c38] at H
                            exact absurd H (by simp)
                        · rw [if_neg c37] at H
                          have c37b0 : decide (1 < t116) = false := decide_eq_false c37
                          clear c37
                          simp only [Option.some.injEq, Prod.mk.injEq] at H
                          obtain ⟨rfl, rfl, rfl⟩ := H
                          go_wp2
                          go_ret
                          exact ⟨_, by first | rfl | (simp [errW_none, errW_some] <;> rfl) | (simp only [← hji18]; first | rfl | (simp [errW_none, errW_some] <;> rfl)) | (simp [*, errW_none, errW_some] <;> rfl), by (with_reducible repeat (first | apply Kd.R_alloc | apply Kd.R_drewN | apply Kd.R_drew)); exact Kd.R_mono HO_7.out (fun _ hk => trivial), by repeat (first | (with_reducible first | exact HI0.out | apply IsS83.alloc | apply IsS83.drewN | apply IsS83.drew | apply IsS83.set_0 | apply IsS83.set_1) | exact HI0.out), by repeat (first | (with_reducible first | exact HB.out | apply below_alloc | apply pw_below_drewN | apply below_drew1 | refine below_set ?_ (IsS83.ge HI0.out)) | exact HB.out), by repeat (first | (with_reducible first | exact HK.out | apply KeepBut.set_ | apply keep_drewN | apply keep_drew | apply keep_alloc) | exact HK.out)⟩
                · rw [if_neg c21] at H
                  exact absurd H (by simp)
              · rw [if_neg c20] at H
                exact absurd H (by simp)
            · rw [if_neg c19] at H
              exact absurd H (by simp)
    · rw [if_neg c4] at H
      exact absurd H (by simp)
  · rw [if_neg c3] at H
    exact absurd H (by simp)

/-! ### goprompt_Document_findLineStartIndex: function 45 -/
def goprompt_Document_findLineStartIndex.f (k : Nat) (s0_0 : ByteArray) (s0_1 : Int) (a1 : Int) : Option (Int × Int × ByteArray × Int) := (goprompt_Document_lineStartIndexes.f k s0_0 s0_1).bind fun bt138 => ((bisect_Right.f bt138.1 a1).bind fun t143 => (if 0 ≤ (wrap64 (t143 - 1)) then (if (wrap64 (t143 - 1)) < (bt138.1.length : Int) then (some (wrap64 (t143 - 1), rd bt138.1 (wrap64 (t143 - 1)), bt138.2.1, bt138.2.2)) else (none)) else (none)))
theorem goprompt_Document_findLineStartIndex.mono : ∀ a0 a1 a2 k, LeO (goprompt_Document_findLineStartIndex.f k a0 a1 a2) (goprompt_Document_findLineStartIndex.f (k + 1) a0 a1 a2) := by
  intro a0 a1 a2 k
  unfold goprompt_Document_findLineStartIndex.f
  repeat' first
      | (with_reducible exact goprompt_Document_lineStartIndexes.mono _ _ _)
      | (with_reducible exact LeO.refl _)
      | (with_reducible exact LeO.none _)
      | (with_reducible refine LeO.ite ?_ ?_)
      | (with_reducible refine LeO.bind ?_ (fun _ => ?_))
      | exact goprompt_Document_lineStartIndexes.mono _ _ _
      | exact LeO.none _
      | refine LeO.ite ?_ ?_
      | refine LeO.bind ?_ (fun _ => ?_)
set_option maxHeartbeats 8000000 in
set_option maxRecDepth 100000 in
theorem goprompt_Document_findLineStartIndex.calls (k : Nat) (g : Nat) (s0_0 : ByteArray) (s0_1 : Int) (a1 : Int) (r1 : Int) (r2 : Int) (r3 : ByteArray) (r4 : Int) (w0 w : World) (hI : IsS83 w0 w g s0_0 s0_1) (hB : Below w0.heap.size w0 w) (h : goprompt_Document_findLineStartIndex.f k s0_0 s0_1 a1 = some (r1, r2, r3, r4)) :
    Calls Try.prog 45 #[.pointer (some ⟨g, 0, none⟩), .int .i64 a1] w fun e w' => e = .returned (.tuple #[.int .i64 r1, .int .i64 r2]) ∧ IsS83 w0 w' g r3 r4 ∧ Below w0.heap.size w0 w' ∧ KeepBut w w' g none := by
  have HI0 := Aside0.mk hI
  have HK := Aside0.mk (KeepBut.refl w g none)
  have HL := Aside0.mk hB.size
  clear hI
  have HW0 := Aside0.mk hB.size
  have HB := Aside0.mk hB
  clear hB
  have H : ((goprompt_Document_lineStartIndexes.f k s0_0 s0_1).bind fun bt138 => ((bisect_Right.f bt138.1 a1).bind fun t143 => (if 0 ≤ (wrap64 (t143 - 1)) then (if (wrap64 (t143 - 1)) < (bt138.1.length : Int) then (some (wrap64 (t143 - 1), rd bt138.1 (wrap64 (t143 - 1)), bt138.2.1, bt138.2.2)) else (none)) else (none)))) = some (r1, r2, r3, r4) := h
  clear h
  replace H := Option.bind_eq_some_iff.mp H
  obtain ⟨⟨t138, t141, t142⟩, A30, H⟩ := H
  replace H : ((bisect_Right.f t138 a1).bind fun t143 => (if 0 ≤ (wrap64 (t143 - 1)) then (if (wrap64 (t143 - 1)) < (t138.length : Int) then (some (wrap64 (t143 - 1), rd t138 (wrap64 (t143 - 1)), t141, t142)) else (none)) else (none))) = some (r1, r2, r3, r4) := H
  have A3 := Aside0.mk A30
  clear A30
  replace H := Option.bind_eq_some_iff.mp H
  obtain ⟨t143, A40, H⟩ := H
  replace H : (if 0 ≤ (wrap64 (t143 - 1)) then (if (wrap64 (t143 - 1)) < (t138.length : Int) then (some (wrap64 (t143 - 1), rd t138 (wrap64 (t143 - 1)), t141, t142)) else (none)) else (none)) = some (r1, r2, r3, r4) := H
  have A4 := Aside0.mk A40
  clear A40
  obtain ⟨ji5, hji5⟩ : ∃ j_ : Int, (wrap64 (t143 - 1)) = j_ := ⟨_, rfl⟩
  replace H : (if 0 ≤ (ji5) then (if (ji5) < (t138.length : Int) then (some (ji5, rd t138 (ji5), t141, t142)) else (none)) else (none)) = some (r1, r2, r3, r4) := by first | (rw [hji5] at H; exact H) | (simp only [hji5] at H ⊢; exact H)
  (try rw [hji5] at A3)
  (try rw [hji5] at A4)
  have hji5w : (IntKind.i64.wrap (t143 - 1)) = ji5 := (i64_w _).trans hji5
  by_cases c6 : 0 ≤ (ji5)
  · rw [if_pos c6] at H
    have c6b0 : decide (0 ≤ (ji5)) = true := decide_eq_true c6
    clear c6
    by_cases c7 : (ji5) < (t138.length : Int)
    · rw [if_pos c7] at H
      have c7b0 : decide ((ji5) < (t138.length : Int)) = true := decide_eq_true c7
      clear c7
      simp only [Option.some.injEq, Prod.mk.injEq] at H
      obtain ⟨rfl, rfl, rfl, rfl⟩ := H
      go_enter Try.func45, Try.ntmps45
      go_wp2_with (first | ((with_reducible refine gate_callee (f := 46) rfl ?_); refine goesL_ (some 8) rfl rfl Try.func46 (by kernel_rfl) rfl #[.pointer (some ⟨g, 0, none⟩)] rfl (by (try simp only [List.map_toArray, List.map_cons, List.map_nil]); first | done | rfl | (simp only [List.length_drop, List.length_take]; rfl) | (simp only [Int.toNat_natCast, ByteArray.extract_zero_size]; rfl)) ?_; (with_reducible refine (goprompt_Document_lineStartIndexes.calls k g s0_0 s0_1 t138 t141 t142 w0 _ ?side1 ?side2 A3.out).mono ?_); (case side1 => repeat (first | (with_reducible first | exact HI0.out | apply IsS83.alloc | apply IsS83.drewN | apply IsS83.drew | apply IsS83.set_0 | apply IsS83.set_1) | exact HI0.out)); (case side2 => repeat (first | (with_reducible first | exact HB.out | apply below_alloc | apply pw_below_drewN | apply below_drew1 | refine below_set ?_ (IsS83.ge HI0.out)) | exact HB.out)); rintro e w8 ⟨v139, rfl, ho0, hi, hb, hk⟩; refine ⟨_, rfl, ?_⟩; have n0_ := Aside0.mk (Kd.R_lower ho0 (keep_size (w := w) (g := g) (row := none) (by repeat (first | (with_reducible first | exact HK.out | apply KeepBut.set_ | apply keep_drewN | apply keep_drew | apply keep_alloc) | exact HK.out)))); have n1_ := Aside0.mk (KeepBut.trans (by repeat (first | (with_reducible first | exact HK.out | apply KeepBut.set_ | apply keep_drewN | apply keep_drew | apply keep_alloc) | exact HK.out)) hk (.inl rfl)); have n2_ := Aside0.mk (hb); have n3_ := Aside0.mk (hi); clear HK; clear HB; clear HI0; have HO140 := n0_; have HK := n1_; have HB := n2_; have HI0 := n3_; clear n0_ n1_ n2_ n3_; (try clear hb); (try clear hb2); (try clear hk); (try clear hi); (try clear ho0); obtain ⟨Ao9, co9, eo9⟩ := Kd.R_slice HO140.out; subst eo9) | ((with_reducible refine gate_callee (f := 58) rfl ?_); refine goesL_ (some 11) rfl rfl Try.func58 (by kernel_rfl) rfl #[.slice Ao9 t138.length co9, .int .i64 a1] rfl (by (try simp only [List.map_toArray, List.map_cons, List.map_nil]); first | done | rfl | (simp only [List.length_drop, List.length_take]; rfl) | (simp only [Int.toNat_natCast, ByteArray.extract_zero_size]; rfl)) ?_; (with_reducible refine (bisect_Right.calls _ _ t138 a1 t143 _ ?side1 ?side2 A4.out).mono ?_); (case side1 => repeat (first | exact (Kd.R_reads' HO140.out).2.2 | (with_reducible refine Kd.C_alloc ?_ _) | (with_reducible refine Kd.C_drewN ?_ _) | (with_reducible refine Kd.C_drew ?_))); (case side2 => exact (Kd.R_reads' HO140.out).2.1); rintro e w10 ⟨rfl, hb⟩; refine ⟨_, rfl, ?_⟩; have n0_ := Aside0.mk (Kd.R_below (by (with_reducible repeat (first | apply Kd.R_alloc | apply Kd.R_drewN | apply Kd.R_drew)); exact HO140.out) hb); have n1_ := Aside0.mk (IsS83.below (by repeat (first | (with_reducible first | exact HI0.out | apply IsS83.alloc | apply IsS83.drewN | apply IsS83.drew | apply IsS83.set_0 | apply IsS83.set_1) | exact HI0.out)) hb); have n2_ := Aside0.mk (KeepBut.trans (by repeat (first | (with_reducible first | exact HK.out | apply KeepBut.set_ | apply keep_drewN | apply keep_drew | apply keep_alloc) | exact HK.out)) (KeepBut.of_below hb g none) (.inl rfl)); have n3_ := Aside0.mk (below_step (by repeat (first | (with_reducible first | exact HB.out | apply below_alloc | apply pw_below_drewN | apply below_drew1 | refine below_set ?_ (IsS83.ge HI0.out)) | exact HB.out)) hb); clear HO140; clear HI0; clear HK; clear HB; have HO140 := n0_; have HI0 := n1_; have HK := n2_; have HB := n3_; clear n0_ n1_ n2_ n3_; (try clear hb); (try clear hb2); (try clear hk); (try clear hi); have p144 : 0 ≤ ((ji5) : Int) := of_decide_eq_true (by first | (with_reducible assumption) | assumption); have q144 : (ji5) < (t138.length : Int) := of_decide_eq_true (by first | (with_reducible assumption) | assumption); obtain ⟨ad144, e144, hx144_0⟩ := Kd.at_int (Kd.R_reads' HO140.out).2.2 (ji5) p144 q144; cases e144; replace p144 := eq_true p144; replace q144 := eq_true q144))
      go_ret2
      exact ⟨by first | rfl | (simp [errW_none, errW_some] <;> rfl) | (simp only [← hji5]; first | rfl | (simp [errW_none, errW_some] <;> rfl)) | (simp [*, errW_none, errW_some] <;> rfl), by repeat (first | (with_reducible first | exact HI0.out | apply IsS83.alloc | apply IsS83.drewN | apply IsS83.drew | apply IsS83.set_0 | apply IsS83.set_1) | exact HI0.out), by repeat (first | (with_reducible first | exact HB.out | apply below_alloc | apply pw_below_drewN | apply below_drew1 | refine below_set ?_ (IsS83.ge HI0.out)) | exact HB.out), by repeat (first | (with_reducible first | exact HK.out | apply KeepBut.set_ | apply keep_drewN | apply keep_drew | apply keep_alloc) | exact HK.out)⟩
    · rw [if_neg c7] at H
      exact absurd H (by simp)
  · rw [if_neg c6] at H
    exact absurd H (by simp)

/-! ### goprompt_Document_TranslateIndexToPosition: function 30 -/
def goprompt_Document_TranslateIndexToPosition.f (k : Nat) (s0_0 : ByteArray) (s0_1 : Int) (a1 : Int) : Option (Int × Int × ByteArray × Int) := (goprompt_Document_findLineStartIndex.f k s0_0 s0_1 a1).bind fun bt145 => (some (bt145.1, wrap64 (a1 - bt145.2.1), bt145.2.2.1, bt145.2.2.2))
theorem goprompt_Document_TranslateIndexToPosition.mono : ∀ a0 a1 a2 k, LeO (goprompt_Document_TranslateIndexToPosition.f k a0 a1 a2) (goprompt_Document_TranslateIndexToPosition.f (k + 1) a0 a1 a2) := by
  intro a0 a1 a2 k
  unfold goprompt_Document_TranslateIndexToPosition.f
  repeat' first
      | (with_reducible exact goprompt_Document_findLineStartIndex.mono _ _ _ _)
      | (with_reducible exact LeO.refl _)
      | (with_reducible exact LeO.none _)
      | (with_reducible refine LeO.ite ?_ ?_)
      | (with_reducible refine LeO.bind ?_ (fun _ => ?_))
      | exact goprompt_Document_findLineStartIndex.mono _ _ _ _
      | exact LeO.none _
      | refine LeO.ite ?_ ?_
      | refine LeO.bind ?_ (fun _ => ?_)
set_option maxHeartbeats 8000000 in
set_option maxRecDepth 100000 in
theorem goprompt_Document_TranslateIndexToPosition.calls (k : Nat) (g : Nat) (s0_0 : ByteArray) (s0_1 : Int) (a1 : Int) (r1 : Int) (r2 : Int) (r3 : ByteArray) (r4 : Int) (w0 w : World) (hI : IsS83 w0 w g s0_0 s0_1) (hB : Below w0.heap.size w0 w) (h : goprompt_Document_TranslateIndexToPosition.f k s0_0 s0_1 a1 = some (r1, r2, r3, r4)) :
    Calls Try.prog 30 #[.pointer (some ⟨g, 0, none⟩), .int .i64 a1] w fun e w' => e = .returned (.tuple #[.int .i64 r1, .int .i64 r2]) ∧ IsS83 w0 w' g r3 r4 ∧ Below w0.heap.size w0 w' ∧ KeepBut w w' g none := by
  have HI0 := Aside0.mk hI
  have HK := Aside0.mk (KeepBut.refl w g none)
  have HL := Aside0.mk hB.size
  clear hI
  have HW0 := Aside0.mk hB.size
  have HB := Aside0.mk hB
  clear hB
  have H : ((goprompt_Document_findLineStartIndex.f k s0_0 s0_1 a1).bind fun bt145 => (some (bt145.1, wrap64 (a1 - bt145.2.1), bt145.2.2.1, bt145.2.2.2))) = some (r1, r2, r3, r4) := h
  clear h
  replace H := Option.bind_eq_some_iff.mp H
  obtain ⟨⟨t145, t146, t147, t148⟩, A30, H⟩ := H
  replace H : (some (t145, wrap64 (a1 - t146), t147, t148)) = some (r1, r2, r3, r4) := H
  have A3 := Aside0.mk A30
  clear A30
  simp only [Option.some.injEq, Prod.mk.injEq] at H
  obtain ⟨rfl, rfl, rfl, rfl⟩ := H
  go_enter Try.func30, Try.ntmps30
  go_wp2_with (first | ((with_reducible refine gate_callee (f := 45) rfl ?_); refine goesL_ (some 10) rfl rfl Try.func45 (by kernel_rfl) rfl #[.pointer (some ⟨g, 0, none⟩), .int .i64 a1] rfl (by (try simp only [List.map_toArray, List.map_cons, List.map_nil]); first | done | rfl | (simp only [List.length_drop, List.length_take]; rfl) | (simp only [Int.toNat_natCast, ByteArray.extract_zero_size]; rfl)) ?_; (with_reducible refine (goprompt_Document_findLineStartIndex.calls k g s0_0 s0_1 a1 t145 t146 t147 t148 w0 _ ?side1 ?side2 A3.out).mono ?_); (case side1 => repeat (first | (with_reducible first | exact HI0.out | apply IsS83.alloc | apply IsS83.drewN | apply IsS83.drew | apply IsS83.set_0 | apply IsS83.set_1) | exact HI0.out)); (case side2 => repeat (first | (with_reducible first | exact HB.out | apply below_alloc | apply pw_below_drewN | apply below_drew1 | refine below_set ?_ (IsS83.ge HI0.out)) | exact HB.out)); rintro e w4 ⟨rfl, hi, hb, hk⟩; refine ⟨_, rfl, ?_⟩; have n0_ := Aside0.mk (KeepBut.trans (by repeat (first | (with_reducible first | exact HK.out | apply KeepBut.set_ | apply keep_drewN | apply keep_drew | apply keep_alloc) | exact HK.out)) hk (.inl rfl)); have n1_ := Aside0.mk (hb); have n2_ := Aside0.mk (hi); clear HK; clear HB; clear HI0; have HK := n0_; have HB := n1_; have HI0 := n2_; clear n0_ n1_ n2_; (try clear hb); (try clear hb2); (try clear hk); (try clear hi)))
  go_ret2
  exact ⟨by first | rfl | (simp [errW_none, errW_some] <;> rfl) | (simp [*, errW_none, errW_some] <;> rfl), by repeat (first | (with_reducible first | exact HI0.out | apply IsS83.alloc | apply IsS83.drewN | apply IsS83.drew | apply IsS83.set_0 | apply IsS83.set_1) | exact HI0.out), by repeat (first | (with_reducible first | exact HB.out | apply below_alloc | apply pw_below_drewN | apply below_drew1 | refine below_set ?_ (IsS83.ge HI0.out)) | exact HB.out), by repeat (first | (with_reducible first | exact HK.out | apply KeepBut.set_ | apply keep_drewN | apply keep_drew | apply keep_alloc) | exact HK.out)⟩

end Go.Proofs.Ythbdaoapjnofkaa.PTranslateIndexToPosition
