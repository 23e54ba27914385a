/- Printed by a program of this seat (xprint) out of the translation: Go functions as plain functions, and the walks that show them; no condition. -/
import Derived.Test.YtanadaamipfmkaaDoorQPFnIndentedx0
import Derived.Test.YtanadaamipfmkaaDoorQHIu
import Derived.Test.YtanadaamipfmkaaDoorQPFnIndentedx1
namespace Go.Proofs.YtanadaamipfmkaaDoor.PFnIndented
open Go.RowKit Go.Proofs.YtanadaamipfmkaaDoor.H Go.Proofs.YtanadaamipfmkaaDoor.R Go.Proofs.YtanadaamipfmkaaDoorW.PrintWords Go.Proofs.YtanadaamipfmkaaDoorW.PrintLast Go.Proofs.YtanadaamipfmkaaDoorW.PrintMore
attribute [local go_sem] max2_int min2_int max_two min_two max_three min_three max_four min_four   -- for this text's walks alone
set_option linter.unusedVariables false
set_option linter.unusedSimpArgs false
/-! ### spec_Indented: function 11 -/
def spec_Indented.l0 : Nat → Int → List ByteArray → Int → Option (ByteArray)
  | 0, _, _, _ => none
  | k + 1, x1, x5, x6 => if x6 < (x5.length : Int) then (if (wrap64 (x6 + 1)) < (x5.length : Int) then ((spec_Blanks.f k x1).bind fun t116 => (if 0 ≤ x6 then (if t116.size + (rdOf ByteArray.empty x5 x6).size ≤ 9223372036854775807 then (spec_Indented.l0 k x1 (x5.set (x6 : Int).toNat (t116 ++ (rdOf ByteArray.empty x5 x6))) (wrap64 (x6 + 1))) else (none)) else (none))) else (if 0 ≤ x6 then (if (rdOf ByteArray.empty x5 x6).toList = ([] : List UInt8) then (spec_Indented.l0 k x1 x5 (wrap64 (x6 + 1))) else ((spec_Blanks.f k x1).bind fun t120 => (if t120.size + (rdOf ByteArray.empty x5 x6).size ≤ 9223372036854775807 then (spec_Indented.l0 k x1 (x5.set (x6 : Int).toNat (t120 ++ (rdOf ByteArray.empty x5 x6))) (wrap64 (x6 + 1))) else (none)))) else (none))) else ((spec_Together.f k x5).bind fun t123 => (some t123))
def spec_Indented.f (k : Nat) (a0 : ByteArray) (a1 : Int) : Option (ByteArray) := (spec_Rows.f k a0).bind fun t113 => (spec_Indented.l0 k a1 t113 0)
theorem spec_Indented.mono_l : ∀ k, (∀ y0 y1 y2, LeO (spec_Indented.l0 k y0 y1 y2) (spec_Indented.l0 (k + 1) y0 y1 y2))
  | 0 => fun _ _ _ r h => by simp [spec_Indented.l0] at h
  | k + 1 => by
    have ih0 := spec_Indented.mono_l k
    · intro y0 y1 y2
      unfold spec_Indented.l0
      repeat' first
      | (with_reducible exact ih0 _ _ _)
      | (with_reducible exact spec_Blanks.mono _ _)
      | (with_reducible exact spec_Rows.mono _ _)
      | (with_reducible exact spec_Together.mono _ _)
      | (with_reducible exact LeO.refl _)
      | (with_reducible exact LeO.none _)
      | (with_reducible refine LeO.ite ?_ ?_)
      | (with_reducible refine LeO.bind ?_ (fun _ => ?_))
      | exact ih0 _ _ _
      | exact spec_Blanks.mono _ _
      | exact spec_Rows.mono _ _
      | exact spec_Together.mono _ _
      | exact LeO.none _
      | refine LeO.ite ?_ ?_
      | refine LeO.bind ?_ (fun _ => ?_)
theorem spec_Indented.mono : ∀ a0 a1 k, LeO (spec_Indented.f k a0 a1) (spec_Indented.f (k + 1) a0 a1) := by
  intro a0 a1 k
  have ih0 := spec_Indented.mono_l k
  unfold spec_Indented.f
  repeat' first
      | (with_reducible exact ih0 _ _ _)
      | (with_reducible exact spec_Blanks.mono _ _)
      | (with_reducible exact spec_Rows.mono _ _)
      | (with_reducible exact spec_Together.mono _ _)
      | (with_reducible exact LeO.refl _)
      | (with_reducible exact LeO.none _)
      | (with_reducible refine LeO.ite ?_ ?_)
      | (with_reducible refine LeO.bind ?_ (fun _ => ?_))
      | exact ih0 _ _ _
      | exact spec_Blanks.mono _ _
      | exact spec_Rows.mono _ _
      | exact spec_Together.mono _ _
      | exact LeO.none _
      | refine LeO.ite ?_ ?_
      | refine LeO.bind ?_ (fun _ => ?_)
def spec_Indented.T6 : Bool × List (List Nat × List Nat) := (true, [([], []), ([], []), ([], []), ([2], [2]), ([], []), ([], []), ([4, 5], [4, 5]), ([6], [6]), ([3, 7], [3, 7]), ([0, 1, 0, 1, 2, 3, 4, 5, 6, 7, 8], [0, 1]), ([9, 8, 3, 0, 1, 2, 3, 4, 5, 6, 7, 8], [8, 9])])
def spec_Indented.B6 : List Nat := [0, 0, 0, 4, 0, 0, 48, 112, 252, 511, 1023]
theorem spec_Indented.tab6 : rtab .any (opsOf Tryd.f11 6) = spec_Indented.T6 := by kernel_rfl
theorem spec_Indented.bits6 : waitsOk spec_Indented.T6.2 spec_Indented.B6 = true := by kernel_rfl
set_option maxHeartbeats 8000000 in
set_option maxRecDepth 100000 in
theorem spec_Indented.calls (k : Nat) (a0 : ByteArray) (a1 : Int) (r : ByteArray) (w : World) (h : spec_Indented.f k a0 a1 = some r) :
    Calls Tryd.prog 11 #[.string a0, .int .i64 a1] w fun e w' => e = .returned (.string r) ∧ Below w.heap.size w w' := by
  have HB := Aside0.mk (Below.refl w.heap.size w)
  have H : ((spec_Rows.f k a0).bind fun t113 => (spec_Indented.l0 k a1 t113 0)) = some r := h
  clear h
  replace H := Option.bind_eq_some_iff.mp H
  obtain ⟨t113, A30, H⟩ := H
  replace H : (spec_Indented.l0 k a1 t113 0) = some r := H
  have A3 := Aside0.mk A30
  clear A30
  have H' := Aside0.mk H
  clear H
  go_enter Tryd.func11, Tryd.ntmps11
  go_wp2_with (first | ((with_reducible refine gate_callee (f := 31) rfl ?_); refine goesL_ (some 8) rfl rfl Tryd.func31 (by kernel_rfl) rfl #[.string a0] rfl (by (try simp only [List.map_toArray, List.map_cons, List.map_nil]); first | done | rfl | (simp only [List.length_drop, List.length_take]; rfl) | (simp only [Int.toNat_natCast, ByteArray.extract_zero_size]; rfl)) ?_; (with_reducible refine (spec_Rows.calls k a0 t113 _ A3.out).mono ?_); rintro e w4 ⟨v114, rfl, ho0, hb⟩; refine ⟨_, rfl, ?_⟩; have n0_ := Aside0.mk (Kd.R_lower ho0 (below_size (by repeat (first | (with_reducible first | exact HB.out | apply below_alloc | apply pw_below_drewN | apply below_drew1) | exact HB.out)))); have n1_ := Aside0.mk (below_step (by repeat (first | (with_reducible first | exact HB.out | apply below_alloc | apply pw_below_drewN | apply below_drew1) | exact HB.out)) hb); clear HB; have HO115 := n0_; have HB := n1_; clear n0_ n1_; (try clear hb); (try clear hb2); (try clear hk); (try clear hi); (try clear ho0)))
  go_loopg [6] k (fun kq v6 w' => ∃ (x5_1 : List ByteArray) (x6_1 : Int), v6 = .int .i64 x6_1 ∧ Aside0 (spec_Indented.l0 kq a1 x5_1 x6_1 = some r) ∧ Aside0 (kq ≤ k) ∧ Aside0 (Kd.R Kd.string 9 w' w.heap.size (fun _ => True) v114 x5_1) ∧ Aside0 (Below w.heap.size w w'))
  case atStart => exact ⟨(t113), (0), (by first | rfl | (simp; done) | (simp [*]; done)), H', ⟨Nat.le_refl _⟩, ⟨by (with_reducible repeat (first | apply Kd.R_alloc | apply Kd.R_drewN | apply Kd.R_drew)); exact HO115.out⟩, ⟨by repeat (first | (with_reducible first | exact HB.out | apply below_alloc | apply pw_below_drewN | apply below_drew1) | exact HB.out)⟩⟩
  case round =>
    clear H'
    try clear c1
    try clear p2
    try clear c3
    obtain ⟨x5_1, x6_1, rfl, HA, HK1, HO_5, HB⟩ := hrel
    cases gk with
    | zero => exact absurd HA.out (by simp [spec_Indented.l0])
    | succ k1 =>
      have H := HA.out
      clear HA
      simp only [spec_Indented.l0] at H
      by_cases c5 : x6_1 < (x5_1.length : Int)
      · rw [if_pos c5] at H
        have c5b0 : decide (x6_1 < (x5_1.length : Int)) = true := decide_eq_true c5
        clear c5
        by_cases c6 : (wrap64 (x6_1 + 1)) < (x5_1.length : Int)
        · rw [if_pos c6] at H
          have c6b0 : decide ((wrap64 (x6_1 + 1)) < (x5_1.length : Int)) = true := decide_eq_true c6
          clear c6
          replace H := Option.bind_eq_some_iff.mp H
          obtain ⟨t116, A70, H⟩ := H
          replace H : (if 0 ≤ x6_1 then (if t116.size + (rdOf ByteArray.empty x5_1 x6_1).size ≤ 9223372036854775807 then (spec_Indented.l0 k1 a1 (x5_1.set (x6_1 : Int).toNat (t116 ++ (rdOf ByteArray.empty x5_1 x6_1))) (wrap64 (x6_1 + 1))) else (none)) else (none)) = some r := H
          have A7 := Aside0.mk A70
          clear A70
          by_cases c8 : 0 ≤ x6_1
          · rw [if_pos c8] at H
            have c8b0 : decide (0 ≤ x6_1) = true := decide_eq_true c8
            clear c8
            by_cases c9 : t116.size + (rdOf ByteArray.empty x5_1 x6_1).size ≤ 9223372036854775807
            · rw [if_pos c9] at H
              have c9b0 := eq_true c9
              have c9b1 : decide (t116.size + (rdOf ByteArray.empty x5_1 x6_1).size ≤ 9223372036854775807) = true := decide_eq_true c9
              try have c9b2 : (9223372036854775807 < t116.size + (rdOf ByteArray.empty x5_1 x6_1).size) = False := eq_false (Nat.not_lt.2 c9)
              obtain ⟨y118, hy118⟩ : ∃ y_ : List ByteArray, y_ = (x5_1.set (x6_1 : Int).toNat (t116 ++ (rdOf ByteArray.empty x5_1 x6_1))) := ⟨_, rfl⟩
              replace H : (spec_Indented.l0 k1 a1 y118 (wrap64 (x6_1 + 1))) = some r := by first | (rw [hy118]; with_reducible exact H) | (have H2_ := (Option.bind_some _ _).symm.trans H; rw [hy118]; with_reducible exact H2_) | (have H2_ := (Option.bind_some _ _).symm.trans H; with_reducible exact H2_) | with_reducible exact H | (rw [hy118]; exact H) | exact H
              have Ny118 := Aside0.mk hy118
              clear hy118
              have H' := Aside0.mk H
              clear H
              obtain ⟨Ao11, co11, eo11⟩ := Kd.R_slice HO_5.out
              subst eo11
              try go_wp2
              have n0_ := Aside0.mk (Kd.R_drew HO_5.out)
              have n1_ := Aside0.mk (below_drew1 HB.out)
              clear HO_5
              clear HB
              have HO_5 := n0_
              have HB := n1_
              clear n0_ n1_
              have p117 : 0 ≤ (x6_1 : Int) := of_decide_eq_true (by first | (with_reducible assumption) | assumption)
              have q117 : x6_1 < (x5_1.length : Int) := of_decide_eq_true (by first | (with_reducible assumption) | assumption)
              obtain ⟨ad117, e117, hx117_0⟩ := Kd.at_string (Kd.R_reads' HO_5.out).2.2 x6_1 p117 q117
              cases e117
              replace p117 := eq_true p117
              replace q117 := eq_true q117
              refine start_ (n := 11) (S := fun w' => w'.cell? (ad117.add (x6_1).toNat) = some (.string (rdOf ByteArray.empty x5_1 x6_1))) (ds := [10]) #[false, false, false, false, false, false, false, false, false, false, false] (by kernel_rfl) rfl rfl (hx117_0) (fun hHeld => ?_); refine with_tabW spec_Indented.tab6 spec_Indented.bits6 (fun HT_ HW_ => ?_)
              generalize wr.drew = w12 at HO_5 HB hx117_0 hHeld ⊢
              refine pure_ (i := 0) (N := some 27) (v := ?_) (a' := ?_) #[true, false, false, false, false, false, false, false, false, false, false] rfl rfl (any_of HT_.out (by kernel_rfl)) (fun _ _ _ h => h) (Or.inl ⟨by rfl, ?_⟩) ?_ ?_
              rotate_left
              · intro w'
                go_simp
                with_reducible rfl
              rotate_left
              · simp only [Act.put, List.setIfInBounds_toArray, List.set_cons_zero, List.set_cons_succ, i64_w, i32_w]
                rfl
              refine pure_ (i := 1) (N := some 28) (v := ?_) (a' := ?_) #[true, true, false, false, false, false, false, false, false, false, false] rfl rfl (any_of HT_.out (by kernel_rfl)) (fun _ _ _ h => h) (Or.inl ⟨by rfl, ?_⟩) ?_ ?_
              rotate_left
              · intro w'
                go_simp
                with_reducible rfl
              rotate_left
              · simp only [Act.put, List.setIfInBounds_toArray, List.set_cons_zero, List.set_cons_succ, i64_w, i32_w]
                rfl
              refine pure_ (i := 2) (N := some 29) (v := ?_) (a' := ?_) #[true, true, true, false, false, false, false, false, false, false, false] rfl rfl (any_of HT_.out (by kernel_rfl)) (fun _ _ _ h => h) (Or.inl ⟨by rfl, ?_⟩) ?_ ?_
              rotate_left
              · intro w'
                go_simp
                with_reducible rfl
              rotate_left
              · simp only [Act.put, List.setIfInBounds_toArray, List.set_cons_zero, List.set_cons_succ, i64_w, i32_w]
                rfl
              refine pure_ (i := 4) (N := some 31) (v := ?_) (a' := ?_) #[true, true, true, false, true, false, false, false, false, false, false] rfl rfl (any_of HT_.out (by kernel_rfl)) (fun _ _ _ h => h) (Or.inl ⟨by rfl, ?_⟩) ?_ ?_
              rotate_left
              · intro w'
                go_simp
                with_reducible rfl
              rotate_left
              · simp only [Act.put, List.setIfInBounds_toArray, List.set_cons_zero, List.set_cons_succ, i64_w, i32_w]
                rfl
              refine pure_ (i := 5) (N := some 32) (v := ?_) (a' := ?_) #[true, true, true, false, true, true, false, false, false, false, false] rfl rfl (any_of HT_.out (by kernel_rfl)) (fun _ _ _ h => h) (Or.inl ⟨by rfl, ?_⟩) ?_ ?_
              rotate_left
              · intro w'
                go_simp
                with_reducible rfl
              rotate_left
              · simp only [Act.put, List.setIfInBounds_toArray, List.set_cons_zero, List.set_cons_succ, i64_w, i32_w]
                rfl
              refine pure_ (i := 6) (N := some 33) (v := ?_) (a' := ?_) #[true, true, true, false, true, true, true, false, false, false, false] rfl rfl (any_of HT_.out (by kernel_rfl)) (fun _ _ _ h => h) (Or.inl ⟨by rfl, ?_⟩) ?_ ?_
              rotate_left
              · intro w'
                go_simp
                with_reducible rfl
              rotate_left
              · simp only [Act.put, List.setIfInBounds_toArray, List.set_cons_zero, List.set_cons_succ, i64_w, i32_w]
                rfl
              refine take_ (i := 7) (N := some 34) (v := ?_) (a' := ?_) #[true, true, true, false, true, true, true, true, false, false, false] rfl rfl (take_ofW HT_.out HW_.out (by kernel_rfl)) (fun _ _ _ h => h) (Or.inl ⟨by rfl, ?_⟩) hHeld ?_ ?_
              rotate_left
              · intro w' s0
                go_simp
                with_reducible rfl
              rotate_left
              · simp only [Act.put, List.setIfInBounds_toArray, List.set_cons_zero, List.set_cons_succ, i64_w, i32_w]
                rfl
              refine one_ (i := 3) (N := some 30) #[true, true, true, true, true, true, true, true, false, false, false] rfl rfl (one_of HT_.out (by kernel_rfl)) (by decide) (fun K hK => ?_)
              refine goes_ Tryd.func32 (by kernel_rfl) rfl #[.int .i64 a1] (by rfl) rfl rfl (by (try simp only [List.map_toArray, List.map_cons, List.map_nil]); first | done | rfl | (simp only [List.length_drop, List.length_take]; rfl) | (simp only [Int.toNat_natCast, ByteArray.extract_zero_size]; rfl)) ?_
              with_reducible refine (spec_Blanks.calls k1 a1 t116 _ A7.out).mono ?_
              rintro e w13 ⟨rfl, hb⟩
              have HS0_ := (hb.cell (World.block_lt_of_cell? _ _ (hHeld))).trans (hHeld)
              refine ⟨_, rfl, ?_⟩
              have n0_ := Aside0.mk (Kd.R_below (by (with_reducible repeat (first | apply Kd.R_alloc | apply Kd.R_drewN | apply Kd.R_drew)); exact HO_5.out) hb)
              have n1_ := Aside0.mk (below_step (by repeat (first | (with_reducible first | exact HB.out | apply below_alloc | apply pw_below_drewN | apply below_drew1) | exact HB.out)) hb)
              clear HO_5
              clear HB
              have HO_5 := n0_
              have HB := n1_
              clear n0_ n1_
              (try clear hb)
              (try clear hb2)
              (try clear hk)
              (try clear hi)
              have p10 : 0 ≤ (x6_1 : Int) := of_decide_eq_true (by first | (with_reducible assumption) | assumption)
              have q10 : (x6_1 : Int) < ((x5_1.length : Int) : Int) := of_decide_eq_true (by first | (with_reducible assumption) | assumption)
              obtain ⟨go10, co10, eo10, gb10, gl10, cl10, HG10⟩ := Kd.R_form HO_5.out (by omega)
              (first | cases eo10 | (injection eo10 with ea_ en_ ec_; (first | subst ea_ | (injection ea_ with ea_; subst ea_)); subst ec_; clear en_))
              have GB10 := Aside0.mk gb10
              have GG10 := Aside0.mk HG10
              clear gb10 gl10 HG10
              (first | simp only [add_plain] at hx117_0 | skip)
              obtain ⟨hx10_0, hf10_0⟩ := Kd.R_celln (⟨#[]⟩ : ByteArray) HO_5.out (x6_1 : Int) p10 q10
              replace p10 := eq_true p10
              replace q10 := eq_true q10
              have HP14 := Kd.R_putn HO_5.out (x6_1 : Int) (t116 ++ (rdOf ByteArray.empty x5_1 x6_1))
              rw [← Ny118.out] at HP14
              have HQ14 := Aside0.mk HP14
              clear HP14
              refine hK.out _ _ (HS0_) (fun hHeld => ?_)
              clear hK K
              refine norm_ (a' := ?_) ?_ ?_
              rotate_left
              · show Act.put _ (some 30) _ = _
                simp only [Act.put, List.setIfInBounds_toArray, List.set_cons_zero, List.set_cons_succ, i64_w, i32_w]
                rfl
              refine pure_ (i := 8) (N := some 35) (v := ?_) (a' := ?_) #[true, true, true, true, true, true, true, true, true, false, false] rfl rfl (any_of HT_.out (by kernel_rfl)) (fun _ _ _ h => h) (Or.inl ⟨by rfl, ?_⟩) ?_ ?_
              rotate_left
              · intro w'
                go_simp
                with_reducible rfl
              rotate_left
              · simp only [Act.put, List.setIfInBounds_toArray, List.set_cons_zero, List.set_cons_succ, i64_w, i32_w]
                rfl
              refine pure_ (i := 9) (N := some 36) (v := ?_) (a' := ?_) #[true, true, true, true, true, true, true, true, true, true, false] rfl rfl (any_of HT_.out (by kernel_rfl)) (fun _ _ _ h => h) (Or.inl ⟨by rfl, ?_⟩) ?_ ?_
              rotate_left
              · intro w'
                go_simp
                with_reducible rfl
              rotate_left
              · simp only [Act.put, List.setIfInBounds_toArray, List.set_cons_zero, List.set_cons_succ, i64_w, i32_w]
                rfl
              refine last_ (i := 10) (N := none) #[true, true, true, true, true, true, true, true, true, true, true] rfl rfl (one_of HT_.out (by kernel_rfl)) (by decide) (fun K hK => ?_)
              refine skip_ (w1 := ?_) (by rfl) rfl ?_ ?_
              rotate_left
              · go_simp
                rfl
              refine hK.out _ _ ?_
              clear hK K
              refine done_ (done_of HT_.out (by kernel_rfl)) ?_
              try go_wp2
              go_roundg k1
              case measure => have := HK1.out; omega
              case rel => exact ⟨(y118), (wrap64 (x6_1 + 1)), (by first | rfl | (simp; done) | (simp [*]; done)), H', ⟨by have := HK1.out; omega⟩, ⟨by (with_reducible repeat (first | apply Kd.R_alloc | apply Kd.R_drewN | apply Kd.R_drew)); exact HQ14.out⟩, ⟨by repeat (first | (with_reducible first | exact HB.out | apply below_alloc | apply pw_below_drewN | apply below_drew1 | refine below_set ?_ GB10.out) | exact HB.out)⟩⟩
            · rw [if_neg c9] at H
              exact absurd H (by simp)
          · rw [if_neg c8] at H
            exact absurd H (by simp)
        · rw [if_neg c6] at H
          have c6b0 : decide ((wrap64 (x6_1 + 1)) < (x5_1.length : Int)) = false := decide_eq_false c6
          clear c6
          by_cases c15 : 0 ≤ x6_1
          · rw [if_pos c15] at H
            have c15b0 : decide (0 ≤ x6_1) = true := decide_eq_true c15
            clear c15
            by_cases c16 : (rdOf ByteArray.empty x5_1 x6_1).toList = ([] : List UInt8)
            · rw [if_pos c16] at H
              have c16b0 : ((rdOf ByteArray.empty x5_1 x6_1).toList == ([] : List UInt8)) = true := beq_iff_eq.mpr c16
              have c16b1 : ((rdOf ByteArray.empty x5_1 x6_1).toList != ([] : List UInt8)) = false := bne_eq_false_iff_eq.mpr c16
              clear c16
              have H' := Aside0.mk H
              clear H
              obtain ⟨Ao17, co17, eo17⟩ := Kd.R_slice HO_5.out
              subst eo17
              have p119 : 0 ≤ (x6_1 : Int) := of_decide_eq_true (by first | (with_reducible assumption) | assumption)
              have q119 : x6_1 < (x5_1.length : Int) := of_decide_eq_true (by first | (with_reducible assumption) | assumption)
              obtain ⟨ad119, e119, hx119_0⟩ := Kd.at_string (Kd.R_reads' HO_5.out).2.2 x6_1 p119 q119
              cases e119
              replace p119 := eq_true p119
              replace q119 := eq_true q119
              go_wp2
              go_roundg k1
              case measure => have := HK1.out; omega
              case rel => exact ⟨(x5_1), (wrap64 (x6_1 + 1)), (by first | rfl | (simp; done) | (simp [*]; done)), H', ⟨by have := HK1.out; omega⟩, ⟨by (with_reducible repeat (first | apply Kd.R_alloc | apply Kd.R_drewN | apply Kd.R_drew)); exact HO_5.out⟩, ⟨by repeat (first | (with_reducible first | exact HB.out | apply below_alloc | apply pw_below_drewN | apply below_drew1) | exact HB.out)⟩⟩
            · rw [if_neg c16] at H
              have c16b0 : ((rdOf ByteArray.empty x5_1 x6_1).toList == ([] : List UInt8)) = false := beq_eq_false_iff_ne.mpr c16
              have c16b1 : ((rdOf ByteArray.empty x5_1 x6_1).toList != ([] : List UInt8)) = true := bne_iff_ne.mpr c16
              replace H := Option.bind_eq_some_iff.mp H
              obtain ⟨t120, A180, H⟩ := H
              replace H : (if t120.size + (rdOf ByteArray.empty x5_1 x6_1).size ≤ 9223372036854775807 then (spec_Indented.l0 k1 a1 (x5_1.set (x6_1 : Int).toNat (t120 ++ (rdOf ByteArray.empty x5_1 x6_1))) (wrap64 (x6_1 + 1))) else (none)) = some r := H
              have A18 := Aside0.mk A180
              clear A180
              by_cases c19 : t120.size + (rdOf ByteArray.empty x5_1 x6_1).size ≤ 9223372036854775807
              · rw [if_pos c19] at H
                have c19b0 := eq_true c19
                have c19b1 : decide (t120.size + (rdOf ByteArray.empty x5_1 x6_1).size ≤ 9223372036854775807) = true := decide_eq_true c19
                try have c19b2 : (9223372036854775807 < t120.size + (rdOf ByteArray.empty x5_1 x6_1).size) = False := eq_false (Nat.not_lt.2 c19)
                obtain ⟨y122, hy122⟩ : ∃ y_ : List ByteArray, y_ = (x5_1.set (x6_1 : Int).toNat (t120 ++ (rdOf ByteArray.empty x5_1 x6_1))) := ⟨_, rfl⟩
                replace H : (spec_Indented.l0 k1 a1 y122 (wrap64 (x6_1 + 1))) = some r := by first | (rw [hy122]; with_reducible exact H) | (have H2_ := (Option.bind_some _ _).symm.trans H; rw [hy122]; with_reducible exact H2_) | (have H2_ := (Option.bind_some _ _).symm.trans H; with_reducible exact H2_) | with_reducible exact H | (rw [hy122]; exact H) | exact H
                have Ny122 := Aside0.mk hy122
                clear hy122
                have H' := Aside0.mk H
                clear H
                obtain ⟨Ao21, co21, eo21⟩ := Kd.R_slice HO_5.out
                subst eo21
                have p119 : 0 ≤ (x6_1 : Int) := of_decide_eq_true (by first | (with_reducible assumption) | assumption)
                have q119 : x6_1 < (x5_1.length : Int) := of_decide_eq_true (by first | (with_reducible assumption) | assumption)
                obtain ⟨ad119, e119, hx119_0⟩ := Kd.at_string (Kd.R_reads' HO_5.out).2.2 x6_1 p119 q119
                cases e119
                replace p119 := eq_true p119
                replace q119 := eq_true q119
                try go_wp2
                have n0_ := Aside0.mk (Kd.R_drew HO_5.out)
                have n1_ := Aside0.mk (below_drew1 HB.out)
                clear HO_5
                clear HB
                have HO_5 := n0_
                have HB := n1_
                clear n0_ n1_
                have p121 : 0 ≤ (x6_1 : Int) := of_decide_eq_true (by first | (with_reducible assumption) | assumption)
                have q121 : x6_1 < (x5_1.length : Int) := of_decide_eq_true (by first | (with_reducible assumption) | assumption)
                obtain ⟨ad121, e121, hx121_0⟩ := Kd.at_string (Kd.R_reads' HO_5.out).2.2 x6_1 p121 q121
                obtain rfl : ad119 = ad121 := (by injection e121)
                replace p121 := eq_true p121
                replace q121 := eq_true q121
                refine start_ (n := 11) (S := fun w' => w'.cell? (ad119.add (x6_1).toNat) = some (.string (rdOf ByteArray.empty x5_1 x6_1))) (ds := [10]) #[false, false, false, false, false, false, false, false, false, false, false] (by kernel_rfl) rfl rfl (hx121_0) (fun hHeld => ?_); refine with_tabW spec_Indented.tab6 spec_Indented.bits6 (fun HT_ HW_ => ?_)
                generalize wr.drew = w22 at HO_5 HB hx121_0 hHeld ⊢
                refine pure_ (i := 0) (N := some 27) (v := ?_) (a' := ?_) #[true, false, false, false, false, false, false, false, false, false, false] rfl rfl (any_of HT_.out (by kernel_rfl)) (fun _ _ _ h => h) (Or.inl ⟨by rfl, ?_⟩) ?_ ?_
                rotate_left
                · intro w'
                  go_simp
                  with_reducible rfl
                rotate_left
                · simp only [Act.put, List.setIfInBounds_toArray, List.set_cons_zero, List.set_cons_succ, i64_w, i32_w]
                  rfl
                refine pure_ (i := 1) (N := some 28) (v := ?_) (a' := ?_) #[true, true, false, false, false, false, false, false, false, false, false] rfl rfl (any_of HT_.out (by kernel_rfl)) (fun _ _ _ h => h) (Or.inl ⟨by rfl, ?_⟩) ?_ ?_
                rotate_left
                · intro w'
                  go_simp
                  with_reducible rfl
                rotate_left
                · simp only [Act.put, List.setIfInBounds_toArray, List.set_cons_zero, List.set_cons_succ, i64_w, i32_w]
                  rfl
                refine pure_ (i := 2) (N := some 29) (v := ?_) (a' := ?_) #[true, true, true, false, false, false, false, false, false, false, false] rfl rfl (any_of HT_.out (by kernel_rfl)) (fun _ _ _ h => h) (Or.inl ⟨by rfl, ?_⟩) ?_ ?_
                rotate_left
                · intro w'
                  go_simp
                  with_reducible rfl
                rotate_left
                · simp only [Act.put, List.setIfInBounds_toArray, List.set_cons_zero, List.set_cons_succ, i64_w, i32_w]
                  rfl
                refine pure_ (i := 4) (N := some 31) (v := ?_) (a' := ?_) #[true, true, true, false, true, false, false, false, false, false, false] rfl rfl (any_of HT_.out (by kernel_rfl)) (fun _ _ _ h => h) (Or.inl ⟨by rfl, ?_⟩) ?_ ?_
                rotate_left
                · intro w'
                  go_simp
                  with_reducible rfl
                rotate_left
                · simp only [Act.put, List.setIfInBounds_toArray, List.set_cons_zero, List.set_cons_succ, i64_w, i32_w]
                  rfl
                refine pure_ (i := 5) (N := some 32) (v := ?_) (a' := ?_) #[true, true, true, false, true, true, false, false, false, false, false] rfl rfl (any_of HT_.out (by kernel_rfl)) (fun _ _ _ h => h) (Or.inl ⟨by rfl, ?_⟩) ?_ ?_
                rotate_left
                · intro w'
                  go_simp
                  with_reducible rfl
                rotate_left
                · simp only [Act.put, List.setIfInBounds_toArray, List.set_cons_zero, List.set_cons_succ, i64_w, i32_w]
                  rfl
                refine pure_ (i := 6) (N := some 33) (v := ?_) (a' := ?_) #[true, true, true, false, true, true, true, false, false, false, false] rfl rfl (any_of HT_.out (by kernel_rfl)) (fun _ _ _ h => h) (Or.inl ⟨by rfl, ?_⟩) ?_ ?_
                rotate_left
                · intro w'
                  go_simp
                  with_reducible rfl
                rotate_left
                · simp only [Act.put, List.setIfInBounds_toArray, List.set_cons_zero, List.set_cons_succ, i64_w, i32_w]
                  rfl
                refine take_ (i := 7) (N := some 34) (v := ?_) (a' := ?_) #[true, true, true, false, true, true, true, true, false, false, false] rfl rfl (take_ofW HT_.out HW_.out (by kernel_rfl)) (fun _ _ _ h => h) (Or.inl ⟨by rfl, ?_⟩) hHeld ?_ ?_
                rotate_left
                · intro w' s0
                  go_simp
                  with_reducible rfl
                rotate_left
                · simp only [Act.put, List.setIfInBounds_toArray, List.set_cons_zero, List.set_cons_succ, i64_w, i32_w]
                  rfl
                refine one_ (i := 3) (N := some 30) #[true, true, true, true, true, true, true, true, false, false, false] rfl rfl (one_of HT_.out (by kernel_rfl)) (by decide) (fun K hK => ?_)
                refine goes_ Tryd.func32 (by kernel_rfl) rfl #[.int .i64 a1] (by rfl) rfl rfl (by (try simp only [List.map_toArray, List.map_cons, List.map_nil]); first | done | rfl | (simp only [List.length_drop, List.length_take]; rfl) | (simp only [Int.toNat_natCast, ByteArray.extract_zero_size]; rfl)) ?_
                with_reducible refine (spec_Blanks.calls k1 a1 t120 _ A18.out).mono ?_
                rintro e w23 ⟨rfl, hb⟩
                have HS0_ := (hb.cell (World.block_lt_of_cell? _ _ (hHeld))).trans (hHeld)
                refine ⟨_, rfl, ?_⟩
                have n0_ := Aside0.mk (Kd.R_below (by (with_reducible repeat (first | apply Kd.R_alloc | apply Kd.R_drewN | apply Kd.R_drew)); exact HO_5.out) hb)
                have n1_ := Aside0.mk (below_step (by repeat (first | (with_reducible first | exact HB.out | apply below_alloc | apply pw_below_drewN | apply below_drew1) | exact HB.out)) hb)
                clear HO_5
                clear HB
                have HO_5 := n0_
                have HB := n1_
                clear n0_ n1_
                (try clear hb)
                (try clear hb2)
                (try clear hk)
                (try clear hi)
                have p20 : 0 ≤ (x6_1 : Int) := of_decide_eq_true (by first | (with_reducible assumption) | assumption)
                have q20 : (x6_1 : Int) < ((x5_1.length : Int) : Int) := of_decide_eq_true (by first | (with_reducible assumption) | assumption)
                obtain ⟨go20, co20, eo20, gb20, gl20, cl20, HG20⟩ := Kd.R_form HO_5.out (by omega)
                (first | cases eo20 | (injection eo20 with ea_ en_ ec_; (first | subst ea_ | (injection ea_ with ea_; subst ea_)); subst ec_; clear en_))
                have GB20 := Aside0.mk gb20
                have GG20 := Aside0.mk HG20
                clear gb20 gl20 HG20
                (first | simp only [add_plain] at hx119_0 | skip)
                (first | simp only [add_plain] at hx121_0 | skip)
                obtain ⟨hx20_0, hf20_0⟩ := Kd.R_celln (⟨#[]⟩ : ByteArray) HO_5.out (x6_1 : Int) p20 q20
                replace p20 := eq_true p20
                replace q20 := eq_true q20
                have HP24 := Kd.R_putn HO_5.out (x6_1 : Int) (t120 ++ (rdOf ByteArray.empty x5_1 x6_1))
                rw [← Ny122.out] at HP24
                have HQ24 := Aside0.mk HP24
                clear HP24
                refine hK.out _ _ (HS0_) (fun hHeld => ?_)
                clear hK K
                refine norm_ (a' := ?_) ?_ ?_
                rotate_left
                · show Act.put _ (some 30) _ = _
                  simp only [Act.put, List.setIfInBounds_toArray, List.set_cons_zero, List.set_cons_succ, i64_w, i32_w]
                  rfl
                refine pure_ (i := 8) (N := some 35) (v := ?_) (a' := ?_) #[true, true, true, true, true, true, true, true, true, false, false] rfl rfl (any_of HT_.out (by kernel_rfl)) (fun _ _ _ h => h) (Or.inl ⟨by rfl, ?_⟩) ?_ ?_
                rotate_left
                · intro w'
                  go_simp
                  with_reducible rfl
                rotate_left
                · simp only [Act.put, List.setIfInBounds_toArray, List.set_cons_zero, List.set_cons_succ, i64_w, i32_w]
                  rfl
                refine pure_ (i := 9) (N := some 36) (v := ?_) (a' := ?_) #[true, true, true, true, true, true, true, true, true, true, false] rfl rfl (any_of HT_.out (by kernel_rfl)) (fun _ _ _ h => h) (Or.inl ⟨by rfl, ?_⟩) ?_ ?_
                rotate_left
                · intro w'
                  go_simp
                  with_reducible rfl
                rotate_left
                · simp only [Act.put, List.setIfInBounds_toArray, List.set_cons_zero, List.set_cons_succ, i64_w, i32_w]
                  rfl
                refine last_ (i := 10) (N := none) #[true, true, true, true, true, true, true, true, true, true, true] rfl rfl (one_of HT_.out (by kernel_rfl)) (by decide) (fun K hK => ?_)
                refine skip_ (w1 := ?_) (by rfl) rfl ?_ ?_
                rotate_left
                · go_simp
                  rfl
                refine hK.out _ _ ?_
                clear hK K
                refine done_ (done_of HT_.out (by kernel_rfl)) ?_
                try go_wp2
                go_roundg k1
                case measure => have := HK1.out; omega
                case rel => exact ⟨(y122), (wrap64 (x6_1 + 1)), (by first | rfl | (simp; done) | (simp [*]; done)), H', ⟨by have := HK1.out; omega⟩, ⟨by (with_reducible repeat (first | apply Kd.R_alloc | apply Kd.R_drewN | apply Kd.R_drew)); exact HQ24.out⟩, ⟨by repeat (first | (with_reducible first | exact HB.out | apply below_alloc | apply pw_below_drewN | apply below_drew1 | refine below_set ?_ GB20.out) | exact HB.out)⟩⟩
              · rw [if_neg c19] at H
                exact absurd H (by simp)
          · rw [if_neg c15] at H
            exact absurd H (by simp)
      · rw [if_neg c5] at H
        have c5b0 : decide (x6_1 < (x5_1.length : Int)) = false := decide_eq_false c5
        clear c5
        replace H := Option.bind_eq_some_iff.mp H
        obtain ⟨t123, A250, H⟩ := H
        replace H : (some t123) = some r := H
        have A25 := Aside0.mk A250
        clear A250
        obtain rfl := Option.some.inj H
        obtain ⟨Ao26, co26, eo26⟩ := Kd.R_slice HO_5.out
        subst eo26
        go_wp2_with (first | ((with_reducible refine gate_callee (f := 33) rfl ?_); refine goesL_ (some 38) rfl rfl Tryd.func33 (by kernel_rfl) rfl #[.slice Ao26 x5_1.length co26] rfl (by (try simp only [List.map_toArray, List.map_cons, List.map_nil]); first | done | rfl | (simp only [List.length_drop, List.length_take]; rfl) | (simp only [Int.toNat_natCast, ByteArray.extract_zero_size]; rfl)) ?_; (with_reducible refine (spec_Together.calls k1 _ _ x5_1 t123 _ ?side1 ?side2 A25.out).mono ?_); (case side1 => repeat (first | exact (Kd.R_reads' HO_5.out).2.2 | (with_reducible refine Kd.C_alloc ?_ _) | (with_reducible refine Kd.C_drewN ?_ _) | (with_reducible refine Kd.C_drew ?_))); (case side2 => exact (Kd.R_reads' HO_5.out).2.1); rintro e w' ⟨rfl, ⟨nd, rfl⟩⟩; refine ⟨_, rfl, ?_⟩))
        go_ret
        exact ⟨by first | rfl | (simp [errW_none, errW_some] <;> rfl) | (simp [*, errW_none, errW_some] <;> rfl), by repeat (first | (with_reducible first | exact HB.out | apply below_alloc | apply pw_below_drewN | apply below_drew1) | exact HB.out)⟩
/-! ### spec_Plain: function 45 -/
def spec_Plain.l0 : Nat → ByteArray → Int → Option (Bool)
  | 0, _, _ => none
  | k + 1, x0, x3 => if x3 < (x0.size : Int) then (if 0 ≤ x3 then (if (bt x0 x3) = 10 then (spec_Plain.l0 k x0 (wrap64 (x3 + 1))) else (if (bt x0 x3) < 32 then (some false) else (if (bt x0 x3) > 126 then (some false) else (spec_Plain.l0 k x0 (wrap64 (x3 + 1)))))) else (none)) else (some true)
def spec_Plain.f (k : Nat) (a0 : ByteArray) : Option (Bool) := spec_Plain.l0 k a0 0
theorem spec_Plain.mono_l : ∀ k, (∀ y0 y1, LeO (spec_Plain.l0 k y0 y1) (spec_Plain.l0 (k + 1) y0 y1))
  | 0 => fun _ _ r h => by simp [spec_Plain.l0] at h
  | k + 1 => by
    have ih0 := spec_Plain.mono_l k
    · intro y0 y1
      unfold spec_Plain.l0
      repeat' first
      | (with_reducible exact ih0 _ _)
      | (with_reducible exact LeO.refl _)
      | (with_reducible exact LeO.none _)
      | (with_reducible refine LeO.ite ?_ ?_)
      | (with_reducible refine LeO.bind ?_ (fun _ => ?_))
      | exact ih0 _ _
      | exact LeO.none _
      | refine LeO.ite ?_ ?_
      | refine LeO.bind ?_ (fun _ => ?_)
theorem spec_Plain.mono : ∀ a0 k, LeO (spec_Plain.f k a0) (spec_Plain.f (k + 1) a0) := by
  intro a0 k
  have ih0 := spec_Plain.mono_l k
  unfold spec_Plain.f
  repeat' first
      | (with_reducible exact ih0 _ _)
      | (with_reducible exact LeO.refl _)
      | (with_reducible exact LeO.none _)
      | (with_reducible refine LeO.ite ?_ ?_)
      | (with_reducible refine LeO.bind ?_ (fun _ => ?_))
      | exact ih0 _ _
      | exact LeO.none _
      | refine LeO.ite ?_ ?_
      | refine LeO.bind ?_ (fun _ => ?_)
set_option maxHeartbeats 8000000 in
set_option maxRecDepth 100000 in
theorem spec_Plain.calls (k : Nat) (a0 : ByteArray) (r : Bool) (w : World) (h : spec_Plain.f k a0 = some r) :
    Calls Tryd.prog 45 #[.string a0] w fun e w' => e = .returned (.bool r) ∧ Drawn0 w w' := by
  have H : (spec_Plain.l0 k a0 0) = some r := h
  clear h
  have H' := Aside0.mk H
  clear H
  go_enter Tryd.func45, Tryd.ntmps45
  go_wp2
  go_loopg [3] k (fun kq v3 w' => ∃ (x3_1 : Int), v3 = .int .i64 x3_1 ∧ Aside0 (spec_Plain.l0 kq a0 x3_1 = some r) ∧ Aside0 (kq ≤ k) ∧ Drawn0 w w')
  case atStart => exact ⟨(0), (by first | rfl | (simp; done) | (simp [*]; done)), H', ⟨Nat.le_refl _⟩, by repeat (first | exact Drawn0.refl _ | apply Drawn0.step)⟩
  case round =>
    clear H'
    obtain ⟨x3_1, rfl, HA, HK1, ⟨m1, rfl⟩⟩ := hrel
    cases gk with
    | zero => exact absurd HA.out (by simp [spec_Plain.l0])
    | succ k1 =>
      have H := HA.out
      clear HA
      simp only [spec_Plain.l0] at H
      by_cases c2 : x3_1 < (a0.size : Int)
      · rw [if_pos c2] at H
        have c2b0 : decide (x3_1 < (a0.size : Int)) = true := decide_eq_true c2
        clear c2
        by_cases c3 : 0 ≤ x3_1
        · rw [if_pos c3] at H
          have c3b0 : decide (0 ≤ x3_1) = true := decide_eq_true c3
          clear c3
          by_cases c5 : (bt a0 x3_1) = 10
          · rw [if_pos c5] at H
            have c5b0 : ((bt a0 x3_1) == 10) = true := beq_iff_eq.mpr c5
            have c5b1 : ((bt a0 x3_1) != 10) = false := bne_eq_false_iff_eq.mpr c5
            clear c5
            have H' := Aside0.mk H
            clear H
            have p4 : 0 ≤ (x3_1 : Int) := of_decide_eq_true (by first | (with_reducible assumption) | assumption)
            have q4 : x3_1 < (a0.size : Int) := of_decide_eq_true (by first | (with_reducible assumption) | assumption)
            have hx4 := bt_at a0 x3_1
            replace p4 := eq_true p4
            replace q4 := eq_true q4
            go_wp2
            go_roundg k1
            case measure => have := HK1.out; omega
            case rel => exact ⟨(wrap64 (x3_1 + 1)), (by first | rfl | (simp; done) | (simp [*]; done)), H', ⟨by have := HK1.out; omega⟩, by repeat (first | exact Drawn0.refl _ | apply Drawn0.step)⟩
          · rw [if_neg c5] at H
            have c5b0 : ((bt a0 x3_1) == 10) = false := beq_eq_false_iff_ne.mpr c5
            have c5b1 : ((bt a0 x3_1) != 10) = true := bne_iff_ne.mpr c5
            by_cases c7 : (bt a0 x3_1) < 32
            · rw [if_pos c7] at H
              have c7b0 : decide ((bt a0 x3_1) < 32) = true := decide_eq_true c7
              clear c7
              obtain rfl := Option.some.inj H
              have p4 : 0 ≤ (x3_1 : Int) := of_decide_eq_true (by first | (with_reducible assumption) | assumption)
              have q4 : x3_1 < (a0.size : Int) := of_decide_eq_true (by first | (with_reducible assumption) | assumption)
              have hx4 := bt_at a0 x3_1
              replace p4 := eq_true p4
              replace q4 := eq_true q4
              have p6 : 0 ≤ (x3_1 : Int) := of_decide_eq_true (by first | (with_reducible assumption) | assumption)
              have q6 : x3_1 < (a0.size : Int) := of_decide_eq_true (by first | (with_reducible assumption) | assumption)
              have hx6 := bt_at a0 x3_1
              replace p6 := eq_true p6
              replace q6 := eq_true q6
              go_wp2
              go_ret
              exact ⟨by first | rfl | (simp; done) | (simp [*]; done), by repeat (first | exact Drawn0.refl _ | apply Drawn0.step)⟩
            · rw [if_neg c7] at H
              have c7b0 : decide ((bt a0 x3_1) < 32) = false := decide_eq_false c7
              clear c7
              by_cases c9 : (bt a0 x3_1) > 126
              · rw [if_pos c9] at H
                have c9b0 : decide (126 < (bt a0 x3_1)) = true := decide_eq_true c9
                clear c9
                obtain rfl := Option.some.inj H
                have p4 : 0 ≤ (x3_1 : Int) := of_decide_eq_true (by first | (with_reducible assumption) | assumption)
                have q4 : x3_1 < (a0.size : Int) := of_decide_eq_true (by first | (with_reducible assumption) | assumption)
                have hx4 := bt_at a0 x3_1
                replace p4 := eq_true p4
                replace q4 := eq_true q4
                have p6 : 0 ≤ (x3_1 : Int) := of_decide_eq_true (by first | (with_reducible assumption) | assumption)
                have q6 : x3_1 < (a0.size : Int) := of_decide_eq_true (by first | (with_reducible assumption) | assumption)
                have hx6 := bt_at a0 x3_1
                replace p6 := eq_true p6
                replace q6 := eq_true q6
                have p8 : 0 ≤ (x3_1 : Int) := of_decide_eq_true (by first | (with_reducible assumption) | assumption)
                have q8 : x3_1 < (a0.size : Int) := of_decide_eq_true (by first | (with_reducible assumption) | assumption)
                have hx8 := bt_at a0 x3_1
                replace p8 := eq_true p8
                replace q8 := eq_true q8
                go_wp2
                go_ret
                exact ⟨by first | rfl | (simp; done) | (simp [*]; done), by repeat (first | exact Drawn0.refl _ | apply Drawn0.step)⟩
              · rw [if_neg c9] at H
                have c9b0 : decide (126 < (bt a0 x3_1)) = false := decide_eq_false c9
                clear c9
                have H' := Aside0.mk H
                clear H
                have p4 : 0 ≤ (x3_1 : Int) := of_decide_eq_true (by first | (with_reducible assumption) | assumption)
                have q4 : x3_1 < (a0.size : Int) := of_decide_eq_true (by first | (with_reducible assumption) | assumption)
                have hx4 := bt_at a0 x3_1
                replace p4 := eq_true p4
                replace q4 := eq_true q4
                have p6 : 0 ≤ (x3_1 : Int) := of_decide_eq_true (by first | (with_reducible assumption) | assumption)
                have q6 : x3_1 < (a0.size : Int) := of_decide_eq_true (by first | (with_reducible assumption) | assumption)
                have hx6 := bt_at a0 x3_1
                replace p6 := eq_true p6
                replace q6 := eq_true q6
                have p8 : 0 ≤ (x3_1 : Int) := of_decide_eq_true (by first | (with_reducible assumption) | assumption)
                have q8 : x3_1 < (a0.size : Int) := of_decide_eq_true (by first | (with_reducible assumption) | assumption)
                have hx8 := bt_at a0 x3_1
                replace p8 := eq_true p8
                replace q8 := eq_true q8
                go_wp2
                go_roundg k1
                case measure => have := HK1.out; omega
                case rel => exact ⟨(wrap64 (x3_1 + 1)), (by first | rfl | (simp; done) | (simp [*]; done)), H', ⟨by have := HK1.out; omega⟩, by repeat (first | exact Drawn0.refl _ | apply Drawn0.step)⟩
        · rw [if_neg c3] at H
          exact absurd H (by simp)
      · rw [if_neg c2] at H
        have c2b0 : decide (x3_1 < (a0.size : Int)) = false := decide_eq_false c2
        clear c2
        obtain rfl := Option.some.inj H
        go_wp2
        go_ret
        exact ⟨by first | rfl | (simp; done) | (simp [*]; done), by repeat (first | exact Drawn0.refl _ | apply Drawn0.step)⟩
/-! ### laws_plain16: function 22 -/
def laws_plain16.f (k : Nat) (a0 : ByteArray) : Option (Bool) := if (a0.size : Int) ≤ 2000 then ((spec_Plain.f k a0).bind fun t124 => (some t124)) else (some false)
theorem laws_plain16.mono : ∀ a0 k, LeO (laws_plain16.f k a0) (laws_plain16.f (k + 1) a0) := by
  intro a0 k
  unfold laws_plain16.f
  repeat' first
      | (with_reducible exact spec_Plain.mono _ _)
      | (with_reducible exact LeO.refl _)
      | (with_reducible exact LeO.none _)
      | (with_reducible refine LeO.ite ?_ ?_)
      | (with_reducible refine LeO.bind ?_ (fun _ => ?_))
      | exact spec_Plain.mono _ _
      | exact LeO.none _
      | refine LeO.ite ?_ ?_
      | refine LeO.bind ?_ (fun _ => ?_)
set_option maxHeartbeats 8000000 in
set_option maxRecDepth 100000 in
theorem laws_plain16.calls (k : Nat) (a0 : ByteArray) (r : Bool) (w : World) (h : laws_plain16.f k a0 = some r) :
    Calls Tryd.prog 22 #[.string a0] w fun e w' => e = .returned (.bool r) ∧ Drawn0 w w' := by
  have H : (if (a0.size : Int) ≤ 2000 then ((spec_Plain.f k a0).bind fun t124 => (some t124)) else (some false)) = some r := h
  clear h
  by_cases c2 : (a0.size : Int) ≤ 2000
  · rw [if_pos c2] at H
    have c2b0 : decide ((a0.size : Int) ≤ 2000) = true := decide_eq_true c2
    have c2b1 : decide (a0.size ≤ 2000) = true := decide_eq_true (by omega)
    clear c2
    replace H := Option.bind_eq_some_iff.mp H
    obtain ⟨t124, A30, H⟩ := H
    replace H : (some t124) = some r := H
    have A3 := Aside0.mk A30
    clear A30
    obtain rfl := Option.some.inj H
    go_enter Tryd.func22, Tryd.ntmps22
    go_wp2_with (first | (go_at_call 45; (with_reducible refine (spec_Plain.calls k a0 t124 _ A3.out).mono ?_); rintro e w' ⟨rfl, ⟨nd, rfl⟩⟩))
    go_ret
    exact ⟨by first | rfl | (simp; done) | (simp [*]; done), by repeat (first | exact Drawn0.refl _ | apply Drawn0.step)⟩
  · rw [if_neg c2] at H
    have c2b0 : decide ((a0.size : Int) ≤ 2000) = false := decide_eq_false c2
    have c2b1 : decide (a0.size ≤ 2000) = false := decide_eq_false (by omega)
    clear c2
    obtain rfl := Option.some.inj H
    go_enter Tryd.func22, Tryd.ntmps22
    go_wp2
    go_ret
    exact ⟨by first | rfl | (simp; done) | (simp [*]; done), by repeat (first | exact Drawn0.refl _ | apply Drawn0.step)⟩
/-! ### laws_FnIndented: function 6 -/
def laws_FnIndented.j0 : Nat → ByteArray → Int → Bool → Option (Bool)
  | 0, _, _, _ => none
  | k + 1, x0, x1, x14 => if x14 = true then (some true) else ((impl_Indented.f x0 (IntKind.u64.wrap (x1))).bind fun t126 => ((spec_Indented.f k x0 (wrap64 (x1))).bind fun t127 => (if t126.toList = t127.toList then ((impl_Indented.f (⟨#[97]⟩ : ByteArray) 1).bind fun t128 => (some (t128.toList == ([32, 97] : List UInt8)))) else (some false))))
def laws_FnIndented.f (k : Nat) (a0 : ByteArray) (a1 : Int) : Option (Bool) := if (a0.size : Int) > 2147483647 then (some true) else ((laws_plain16.f k a0).bind fun t125 => (if t125 = true then (laws_FnIndented.j0 k a0 a1 (decide (a1 > 100))) else (laws_FnIndented.j0 k a0 a1 true)))
theorem laws_FnIndented.mono_l : ∀ k, (∀ y0 y1 y2, LeO (laws_FnIndented.j0 k y0 y1 y2) (laws_FnIndented.j0 (k + 1) y0 y1 y2))
  | 0 => fun _ _ _ r h => by simp [laws_FnIndented.j0] at h
  | k + 1 => by
    have ih0 := laws_FnIndented.mono_l k
    · intro y0 y1 y2
      unfold laws_FnIndented.j0
      repeat' first
      | (with_reducible exact ih0 _ _ _)
      | (with_reducible exact laws_plain16.mono _ _)
      | (with_reducible exact spec_Indented.mono _ _ _)
      | (with_reducible exact LeO.refl _)
      | (with_reducible exact LeO.none _)
      | (with_reducible refine LeO.ite ?_ ?_)
      | (with_reducible refine LeO.bind ?_ (fun _ => ?_))
      | exact ih0 _ _ _
      | exact laws_plain16.mono _ _
      | exact spec_Indented.mono _ _ _
      | exact LeO.none _
      | refine LeO.ite ?_ ?_
      | refine LeO.bind ?_ (fun _ => ?_)
theorem laws_FnIndented.mono : ∀ a0 a1 k, LeO (laws_FnIndented.f k a0 a1) (laws_FnIndented.f (k + 1) a0 a1) := by
  intro a0 a1 k
  have ih0 := laws_FnIndented.mono_l k
  unfold laws_FnIndented.f
  repeat' first
      | (with_reducible exact ih0 _ _ _)
      | (with_reducible exact laws_plain16.mono _ _)
      | (with_reducible exact spec_Indented.mono _ _ _)
      | (with_reducible exact LeO.refl _)
      | (with_reducible exact LeO.none _)
      | (with_reducible refine LeO.ite ?_ ?_)
      | (with_reducible refine LeO.bind ?_ (fun _ => ?_))
      | exact ih0 _ _ _
      | exact laws_plain16.mono _ _
      | exact spec_Indented.mono _ _ _
      | exact LeO.none _
      | refine LeO.ite ?_ ?_
      | refine LeO.bind ?_ (fun _ => ?_)
set_option maxHeartbeats 8000000 in
set_option maxRecDepth 100000 in
theorem laws_FnIndented.calls (k : Nat) (a0 : ByteArray) (a1 : Int) (r : Bool) (w : World) (h : laws_FnIndented.f k a0 a1 = some r) :
    Calls Tryd.prog 6 #[.string a0, .int .u8 a1] w fun e w' => e = .returned (.bool r) ∧ Below w.heap.size w w' := by
  have HB := Aside0.mk (Below.refl w.heap.size w)
  have H : (if (a0.size : Int) > 2147483647 then (some true) else ((laws_plain16.f k a0).bind fun t125 => (if t125 = true then (laws_FnIndented.j0 k a0 a1 (decide (a1 > 100))) else (laws_FnIndented.j0 k a0 a1 true)))) = some r := h
  clear h
  by_cases c3 : (a0.size : Int) > 2147483647
  · rw [if_pos c3] at H
    have c3b0 : decide (2147483647 < (a0.size : Int)) = true := decide_eq_true c3
    have c3b1 : decide (2147483647 < a0.size) = true := decide_eq_true (by omega)
    clear c3
    obtain rfl := Option.some.inj H
    go_enter Tryd.func6, Tryd.ntmps6
    go_wp2
    go_ret
    exact ⟨by first | rfl | (simp [errW_none, errW_some] <;> rfl) | (simp [*, errW_none, errW_some] <;> rfl), by repeat (first | (with_reducible first | exact HB.out | apply below_alloc | apply pw_below_drewN | apply below_drew1) | exact HB.out)⟩
  · rw [if_neg c3] at H
    have c3b0 : decide (2147483647 < (a0.size : Int)) = false := decide_eq_false c3
    have c3b1 : decide (2147483647 < a0.size) = false := decide_eq_false (by omega)
    clear c3
    have HC4 := Aside0.mk H
    clear H
    go_enter Tryd.func6, Tryd.ntmps6
    go_upto_region 3 with (fail)
    go_cut [14] (fun v14 wc => ∃ (kq : Nat) (x14_3 : Bool), v14 = .bool x14_3 ∧ Aside0 (laws_FnIndented.j0 kq a0 a1 x14_3 = some r) ∧ Aside0 (kq ≤ k) ∧ Aside0 (Below w.heap.size w wc))
    case first =>
      have H := HC4.out
      clear HC4
      replace H := Option.bind_eq_some_iff.mp H
      obtain ⟨t125, A50, H⟩ := H
      replace H : (if t125 = true then (laws_FnIndented.j0 k a0 a1 (decide (a1 > 100))) else (laws_FnIndented.j0 k a0 a1 true)) = some r := H
      have A5 := Aside0.mk A50
      clear A50
      by_cases c6 : t125 = true
      · subst c6
        have H1 : (laws_FnIndented.j0 k a0 a1 (decide (a1 > 100))) = some r := by rw [if_pos rfl] at H; exact H
        clear H
        have H := H1
        clear H1
        have H' := Aside0.mk H
        clear H
        go_wp2_with (first | ((with_reducible refine gate_callee (f := 22) rfl ?_); refine goesL_ (some 9) rfl rfl Tryd.func22 (by kernel_rfl) rfl #[.string a0] rfl (by (try simp only [List.map_toArray, List.map_cons, List.map_nil]); first | done | rfl | (simp only [List.length_drop, List.length_take]; rfl) | (simp only [Int.toNat_natCast, ByteArray.extract_zero_size]; rfl)) ?_; (with_reducible refine (laws_plain16.calls k a0 true _ A5.out).mono ?_); rintro e w' ⟨rfl, ⟨nd, rfl⟩⟩; refine ⟨_, rfl, ?_⟩))
        go_meet
        case rel => exact ⟨_, (decide (a1 > 100)), (by first | rfl | (simp; done) | (simp [*]; done)), H', ⟨by first | omega | exact Nat.le_refl _⟩, ⟨by repeat (first | (with_reducible first | exact HB.out | apply below_alloc | apply pw_below_drewN | apply below_drew1) | exact HB.out)⟩⟩
      · replace c6 := Bool.eq_false_iff.mpr c6
        subst c6
        have H1 : (laws_FnIndented.j0 k a0 a1 true) = some r := by rw [if_neg (show ¬ (false = true) by decide)] at H; exact H
        clear H
        have H := H1
        clear H1
        have H' := Aside0.mk H
        clear H
        go_wp2_with (first | ((with_reducible refine gate_callee (f := 22) rfl ?_); refine goesL_ (some 9) rfl rfl Tryd.func22 (by kernel_rfl) rfl #[.string a0] rfl (by (try simp only [List.map_toArray, List.map_cons, List.map_nil]); first | done | rfl | (simp only [List.length_drop, List.length_take]; rfl) | (simp only [Int.toNat_natCast, ByteArray.extract_zero_size]; rfl)) ?_; (with_reducible refine (laws_plain16.calls k a0 false _ A5.out).mono ?_); rintro e w' ⟨rfl, ⟨nd, rfl⟩⟩; refine ⟨_, rfl, ?_⟩))
        go_meet
        case rel => exact ⟨_, (true), (by first | rfl | (simp; done) | (simp [*]; done)), H', ⟨by first | omega | exact Nat.le_refl _⟩, ⟨by repeat (first | (with_reducible first | exact HB.out | apply below_alloc | apply pw_below_drewN | apply below_drew1) | exact HB.out)⟩⟩
    case rest =>
      clear HC4
      try clear c2
      try clear p2
      try clear c3
      try clear c3b0
      try clear c3b1
      try clear c6
      obtain ⟨kq, x14_3, rfl, HA, HJ3, HB⟩ := hcut
      cases kq with
      | zero => exact absurd HA.out (by simp [laws_FnIndented.j0])
      | succ kj3 =>
        have H := HA.out
        clear HA
        simp only [laws_FnIndented.j0] at H
        by_cases c7 : x14_3 = true
        · subst c7
          have H1 : (some true) = some r := by rw [if_pos rfl] at H; exact H
          clear H
          have H := H1
          clear H1
          obtain rfl := Option.some.inj H
          go_wp2
          go_ret
          exact ⟨by first | rfl | (simp [errW_none, errW_some] <;> rfl) | (simp [*, errW_none, errW_some] <;> rfl), by repeat (first | (with_reducible first | exact HB.out | apply below_alloc | apply pw_below_drewN | apply below_drew1) | exact HB.out)⟩
        · replace c7 := Bool.eq_false_iff.mpr c7
          subst c7
          have H1 : ((impl_Indented.f a0 (IntKind.u64.wrap (a1))).bind fun t126 => ((spec_Indented.f kj3 a0 (wrap64 (a1))).bind fun t127 => (if t126.toList = t127.toList then ((impl_Indented.f (⟨#[97]⟩ : ByteArray) 1).bind fun t128 => (some (t128.toList == ([32, 97] : List UInt8)))) else (some false)))) = some r := by rw [if_neg (show ¬ (false = true) by decide)] at H; exact H
          clear H
          have H := H1
          clear H1
          replace H := Option.bind_eq_some_iff.mp H
          obtain ⟨t126, A80, H⟩ := H
          replace H : ((spec_Indented.f kj3 a0 (wrap64 (a1))).bind fun t127 => (if t126.toList = t127.toList then ((impl_Indented.f (⟨#[97]⟩ : ByteArray) 1).bind fun t128 => (some (t128.toList == ([32, 97] : List UInt8)))) else (some false))) = some r := H
          have A8 := Aside0.mk A80
          clear A80
          replace H := Option.bind_eq_some_iff.mp H
          obtain ⟨t127, A90, H⟩ := H
          replace H : (if t126.toList = t127.toList then ((impl_Indented.f (⟨#[97]⟩ : ByteArray) 1).bind fun t128 => (some (t128.toList == ([32, 97] : List UInt8)))) else (some false)) = some r := H
          have A9 := Aside0.mk A90
          clear A90
          by_cases c10 : t126.toList = t127.toList
          · rw [if_pos c10] at H
            have c10b0 : (t126.toList == t127.toList) = true := beq_iff_eq.mpr c10
            have c10b1 : (t126.toList != t127.toList) = false := bne_eq_false_iff_eq.mpr c10
            clear c10
            replace H := Option.bind_eq_some_iff.mp H
            obtain ⟨t128, A110, H⟩ := H
            replace H : (some (t128.toList == ([32, 97] : List UInt8))) = some r := H
            have A11 := Aside0.mk A110
            clear A110
            obtain rfl := Option.some.inj H
            go_wp2_with (first | ((with_reducible refine gate_callee (f := 23) rfl ?_); refine goesL_ (some 18) rfl rfl Tryd.func23 (by kernel_rfl) rfl #[.string a0, .int .u64 (IntKind.u64.wrap (a1))] rfl (by (try simp only [List.map_toArray, List.map_cons, List.map_nil]); first | done | rfl | (simp only [List.length_drop, List.length_take]; rfl) | (simp only [Int.toNat_natCast, ByteArray.extract_zero_size]; rfl)) ?_; (with_reducible refine (impl_Indented.calls a0 (IntKind.u64.wrap (a1)) t126 _ A8.out).mono ?_); rintro e w12 ⟨rfl, hb⟩; refine ⟨_, rfl, ?_⟩; have n0_ := Aside0.mk (below_step (by repeat (first | (with_reducible first | exact HB.out | apply below_alloc | apply pw_below_drewN | apply below_drew1) | exact HB.out)) hb); clear HB; have HB := n0_; clear n0_; (try clear hb); (try clear hb2); (try clear hk); (try clear hi)) | ((with_reducible refine gate_callee (f := 11) rfl ?_); refine goesL_ (some 22) rfl rfl Tryd.func11 (by kernel_rfl) rfl #[.string a0, .int .i64 (wrap64 (a1))] rfl (by (try simp only [List.map_toArray, List.map_cons, List.map_nil]); first | done | rfl | (simp only [List.length_drop, List.length_take]; rfl) | (simp only [Int.toNat_natCast, ByteArray.extract_zero_size]; rfl)) ?_; (with_reducible refine (spec_Indented.calls kj3 a0 (wrap64 (a1)) t127 _ A9.out).mono ?_); rintro e w13 ⟨rfl, hb⟩; refine ⟨_, rfl, ?_⟩; have n0_ := Aside0.mk (below_step (by repeat (first | (with_reducible first | exact HB.out | apply below_alloc | apply pw_below_drewN | apply below_drew1) | exact HB.out)) hb); clear HB; have HB := n0_; clear n0_; (try clear hb); (try clear hb2); (try clear hk); (try clear hi)) | (go_at_call 23; (with_reducible refine (impl_Indented.calls (⟨#[97]⟩ : ByteArray) 1 t128 _ A11.out).mono ?_); rintro e w14 ⟨rfl, hb⟩; have n0_ := Aside0.mk (below_step (by repeat (first | (with_reducible first | exact HB.out | apply below_alloc | apply pw_below_drewN | apply below_drew1) | exact HB.out)) hb); clear HB; have HB := n0_; clear n0_; (try clear hb); (try clear hb2); (try clear hk); (try clear hi)))
            go_ret
            exact ⟨by first | rfl | (simp [errW_none, errW_some] <;> rfl) | (simp [*, errW_none, errW_some] <;> rfl), by repeat (first | (with_reducible first | exact HB.out | apply below_alloc | apply pw_below_drewN | apply below_drew1) | exact HB.out)⟩
          · rw [if_neg c10] at H
            have c10b0 : (t126.toList == t127.toList) = false := beq_eq_false_iff_ne.mpr c10
            have c10b1 : (t126.toList != t127.toList) = true := bne_iff_ne.mpr c10
            obtain rfl := Option.some.inj H
            go_wp2_with (first | ((with_reducible refine gate_callee (f := 23) rfl ?_); refine goesL_ (some 18) rfl rfl Tryd.func23 (by kernel_rfl) rfl #[.string a0, .int .u64 (IntKind.u64.wrap (a1))] rfl (by (try simp only [List.map_toArray, List.map_cons, List.map_nil]); first | done | rfl | (simp only [List.length_drop, List.length_take]; rfl) | (simp only [Int.toNat_natCast, ByteArray.extract_zero_size]; rfl)) ?_; (with_reducible refine (impl_Indented.calls a0 (IntKind.u64.wrap (a1)) t126 _ A8.out).mono ?_); rintro e w15 ⟨rfl, hb⟩; refine ⟨_, rfl, ?_⟩; have n0_ := Aside0.mk (below_step (by repeat (first | (with_reducible first | exact HB.out | apply below_alloc | apply pw_below_drewN | apply below_drew1) | exact HB.out)) hb); clear HB; have HB := n0_; clear n0_; (try clear hb); (try clear hb2); (try clear hk); (try clear hi)) | ((with_reducible refine gate_callee (f := 11) rfl ?_); refine goesL_ (some 22) rfl rfl Tryd.func11 (by kernel_rfl) rfl #[.string a0, .int .i64 (wrap64 (a1))] rfl (by (try simp only [List.map_toArray, List.map_cons, List.map_nil]); first | done | rfl | (simp only [List.length_drop, List.length_take]; rfl) | (simp only [Int.toNat_natCast, ByteArray.extract_zero_size]; rfl)) ?_; (with_reducible refine (spec_Indented.calls kj3 a0 (wrap64 (a1)) t127 _ A9.out).mono ?_); rintro e w16 ⟨rfl, hb⟩; refine ⟨_, rfl, ?_⟩; have n0_ := Aside0.mk (below_step (by repeat (first | (with_reducible first | exact HB.out | apply below_alloc | apply pw_below_drewN | apply below_drew1) | exact HB.out)) hb); clear HB; have HB := n0_; clear n0_; (try clear hb); (try clear hb2); (try clear hk); (try clear hi)))
            go_ret
            exact ⟨by first | rfl | (simp [errW_none, errW_some] <;> rfl) | (simp [*, errW_none, errW_some] <;> rfl), by repeat (first | (with_reducible first | exact HB.out | apply below_alloc | apply pw_below_drewN | apply below_drew1) | exact HB.out)⟩
/-- THE ONE PURE STATEMENT of laws_FnIndented: yours. -/
def laws_FnIndented.Pure : Prop := ∀ (a0 : ByteArray) (a1 : Int), a0.size ≤ 140737488351232 → (Lit.int .u8 a1).wf = true → ∃ k, laws_FnIndented.f k a0 a1 = some true
theorem laws_FnIndented.walk (P : laws_FnIndented.Pure) (a0 : ByteArray) (a1 : Int) (w : World) (w0 : a0.size ≤ 140737488351232) (w1 : (Lit.int .u8 a1).wf = true) :
    Calls Tryd.prog 6 #[.string a0, .int .u8 a1] w fun e w' => e = .returned (.bool true) ∧ Below w.heap.size w w' := by
  obtain ⟨k, h⟩ := P a0 a1 w0 w1
  refine (laws_FnIndented.calls k a0 a1 true w h).mono ?_
  rintro e w' ⟨rfl, hd⟩
  exact ⟨rfl, hd⟩
end Go.Proofs.YtanadaamipfmkaaDoor.PFnIndented
