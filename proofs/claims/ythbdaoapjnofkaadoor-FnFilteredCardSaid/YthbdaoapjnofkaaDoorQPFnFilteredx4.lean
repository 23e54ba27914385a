/- Printed by a program of this seat (xprint) out of the translation: Go functions as plain functions, and the walks that show them; no condition. -/
import Derived.Test.YthbdaoapjnofkaaDoorQPFnFilteredx0
import Derived.Test.YthbdaoapjnofkaaDoorQHFilX
import Derived.Test.YthbdaoapjnofkaaDoorQHLow
import Derived.Test.YthbdaoapjnofkaaDoorQPFnFilteredx1
namespace Go.Proofs.YthbdaoapjnofkaaDoor.PFnFiltered
open Go.RowKit Go.Proofs.YthbdaoapjnofkaaDoor.H Go.Proofs.YthbdaoapjnofkaaDoor.R Go.Proofs.YthbdaoapjnofkaaDoorW.PrintWords Go.Proofs.YthbdaoapjnofkaaDoorW.PrintLast Go.Proofs.YthbdaoapjnofkaaDoorW.PrintMore
attribute [local go_sem] max2_int min2_int max_two min_two max_three min_three max_four min_four   -- for this text's walks alone
set_option linter.unusedVariables false
set_option linter.unusedSimpArgs false
attribute [local go_sem high] eqA55
/-! ### impl_Filtered: function 36 -/
mutual
def impl_Filtered.l0 : Nat → Int → ByteArray → Bool → List (S96) → List (S55) → Int → Int → Option ((List (S55)))
  | 0, _, _, _, _, _, _, _ => none
  | k + 1, x0, x2, x3, x9, x16, x17, x18 => if x18 < x17 then (if 0 ≤ x18 then (if x18 < (x16.length : Int) then (if x9.length < 4398046511104 then (impl_Filtered.l0 k x0 x2 x3 (x9 ++ [(⟨(rd_T55 x16 x18).f0, (rd_T55 x16 x18).f1⟩ : S96)]) x16 x17 (wrap64 (x18 + 1))) else (none)) else (none)) else (none)) else (if x0 = 1 then ((goprompt_FilterHasPrefix.f k x9 x2 x3).bind fun t117 => (impl_Filtered.j1 k t117)) else (if x0 = 2 then ((goprompt_FilterHasSuffix.f k x9 x2 x3).bind fun t120 => (impl_Filtered.j1 k t120)) else (if x0 = 3 then ((goprompt_FilterContains.f k x9 x2 x3).bind fun t123 => (impl_Filtered.j1 k t123)) else (if x0 = 4 then ((goprompt_FilterFuzzy.f k x9 x2 x3).bind fun t126 => (impl_Filtered.j1 k t126)) else (impl_Filtered.j1 k ([] : List (S96)))))))
def impl_Filtered.j1 : Nat → List (S96) → Option ((List (S55)))
  | 0, _ => none
  | k + 1, x12 => impl_Filtered.l1 k ([] : List (S55)) x12 (x12.length : Int) 0
def impl_Filtered.l1 : Nat → List (S55) → List (S96) → Int → Int → Option ((List (S55)))
  | 0, _, _, _, _ => none
  | k + 1, x13, x56, x57, x58 => if x58 < x57 then (if 0 ≤ x58 then (if x58 < (x56.length : Int) then (if x13.length < 4398046511104 then (impl_Filtered.l1 k (x13 ++ [(⟨(rd_T96 x56 x58).f0, (rd_T96 x56 x58).f1⟩ : S55)]) x56 x57 (wrap64 (x58 + 1))) else (none)) else (none)) else (none)) else (some x13)
end
def impl_Filtered.f (k : Nat) (a0 : Int) (l1 : List (S55)) (a2 : ByteArray) (a3 : Bool) : Option ((List (S55))) := impl_Filtered.l0 k a0 a2 a3 ([] : List (S96)) l1 (l1.length : Int) 0
theorem impl_Filtered.mono_l : ∀ k, (∀ y0 y1 y2 y3 y4 y5 y6, LeO (impl_Filtered.l0 k y0 y1 y2 y3 y4 y5 y6) (impl_Filtered.l0 (k + 1) y0 y1 y2 y3 y4 y5 y6)) ∧ (∀ y0, LeO (impl_Filtered.j1 k y0) (impl_Filtered.j1 (k + 1) y0)) ∧ (∀ y0 y1 y2 y3, LeO (impl_Filtered.l1 k y0 y1 y2 y3) (impl_Filtered.l1 (k + 1) y0 y1 y2 y3))
  | 0 => ⟨fun _ _ _ _ _ _ _ r h => by simp [impl_Filtered.l0] at h, fun _ r h => by simp [impl_Filtered.j1] at h, fun _ _ _ _ r h => by simp [impl_Filtered.l1] at h⟩
  | k + 1 => by
    obtain ⟨ih0, ih1, ih2⟩ := impl_Filtered.mono_l k
    refine ⟨?_, ?_, ?_⟩
    · intro y0 y1 y2 y3 y4 y5 y6
      unfold impl_Filtered.l0
      repeat' first
      | (with_reducible exact ih0 _ _ _ _ _ _ _)
      | (with_reducible exact ih1 _)
      | (with_reducible exact ih2 _ _ _ _)
      | (with_reducible exact goprompt_FilterContains.mono _ _ _ _)
      | (with_reducible exact goprompt_FilterFuzzy.mono _ _ _ _)
      | (with_reducible exact goprompt_FilterHasPrefix.mono _ _ _ _)
      | (with_reducible exact goprompt_FilterHasSuffix.mono _ _ _ _)
      | (with_reducible exact LeO.refl _)
      | (with_reducible exact LeO.none _)
      | (with_reducible refine LeO.ite ?_ ?_)
      | (with_reducible refine LeO.bind ?_ (fun _ => ?_))
      | exact ih0 _ _ _ _ _ _ _
      | exact ih1 _
      | exact ih2 _ _ _ _
      | exact goprompt_FilterContains.mono _ _ _ _
      | exact goprompt_FilterFuzzy.mono _ _ _ _
      | exact goprompt_FilterHasPrefix.mono _ _ _ _
      | exact goprompt_FilterHasSuffix.mono _ _ _ _
      | exact LeO.none _
      | refine LeO.ite ?_ ?_
      | refine LeO.bind ?_ (fun _ => ?_)
    · intro y0
      unfold impl_Filtered.j1
      repeat' first
      | (with_reducible exact ih0 _ _ _ _ _ _ _)
      | (with_reducible exact ih1 _)
      | (with_reducible exact ih2 _ _ _ _)
      | (with_reducible exact goprompt_FilterContains.mono _ _ _ _)
      | (with_reducible exact goprompt_FilterFuzzy.mono _ _ _ _)
      | (with_reducible exact goprompt_FilterHasPrefix.mono _ _ _ _)
      | (with_reducible exact goprompt_FilterHasSuffix.mono _ _ _ _)
      | (with_reducible exact LeO.refl _)
      | (with_reducible exact LeO.none _)
      | (with_reducible refine LeO.ite ?_ ?_)
      | (with_reducible refine LeO.bind ?_ (fun _ => ?_))
      | exact ih0 _ _ _ _ _ _ _
      | exact ih1 _
      | exact ih2 _ _ _ _
      | exact goprompt_FilterContains.mono _ _ _ _
      | exact goprompt_FilterFuzzy.mono _ _ _ _
      | exact goprompt_FilterHasPrefix.mono _ _ _ _
      | exact goprompt_FilterHasSuffix.mono _ _ _ _
      | exact LeO.none _
      | refine LeO.ite ?_ ?_
      | refine LeO.bind ?_ (fun _ => ?_)
    · intro y0 y1 y2 y3
      unfold impl_Filtered.l1
      repeat' first
      | (with_reducible exact ih0 _ _ _ _ _ _ _)
      | (with_reducible exact ih1 _)
      | (with_reducible exact ih2 _ _ _ _)
      | (with_reducible exact goprompt_FilterContains.mono _ _ _ _)
      | (with_reducible exact goprompt_FilterFuzzy.mono _ _ _ _)
      | (with_reducible exact goprompt_FilterHasPrefix.mono _ _ _ _)
      | (with_reducible exact goprompt_FilterHasSuffix.mono _ _ _ _)
      | (with_reducible exact LeO.refl _)
      | (with_reducible exact LeO.none _)
      | (with_reducible refine LeO.ite ?_ ?_)
      | (with_reducible refine LeO.bind ?_ (fun _ => ?_))
      | exact ih0 _ _ _ _ _ _ _
      | exact ih1 _
      | exact ih2 _ _ _ _
      | exact goprompt_FilterContains.mono _ _ _ _
      | exact goprompt_FilterFuzzy.mono _ _ _ _
      | exact goprompt_FilterHasPrefix.mono _ _ _ _
      | exact goprompt_FilterHasSuffix.mono _ _ _ _
      | exact LeO.none _
      | refine LeO.ite ?_ ?_
      | refine LeO.bind ?_ (fun _ => ?_)
theorem impl_Filtered.mono : ∀ a0 a1 a2 a3 k, LeO (impl_Filtered.f k a0 a1 a2 a3) (impl_Filtered.f (k + 1) a0 a1 a2 a3) := by
  intro a0 a1 a2 a3 k
  obtain ⟨ih0, ih1, ih2⟩ := impl_Filtered.mono_l k
  unfold impl_Filtered.f
  repeat' first
      | (with_reducible exact ih0 _ _ _ _ _ _ _)
      | (with_reducible exact ih1 _)
      | (with_reducible exact ih2 _ _ _ _)
      | (with_reducible exact goprompt_FilterContains.mono _ _ _ _)
      | (with_reducible exact goprompt_FilterFuzzy.mono _ _ _ _)
      | (with_reducible exact goprompt_FilterHasPrefix.mono _ _ _ _)
      | (with_reducible exact goprompt_FilterHasSuffix.mono _ _ _ _)
      | (with_reducible exact LeO.refl _)
      | (with_reducible exact LeO.none _)
      | (with_reducible refine LeO.ite ?_ ?_)
      | (with_reducible refine LeO.bind ?_ (fun _ => ?_))
      | exact ih0 _ _ _ _ _ _ _
      | exact ih1 _
      | exact ih2 _ _ _ _
      | exact goprompt_FilterContains.mono _ _ _ _
      | exact goprompt_FilterFuzzy.mono _ _ _ _
      | exact goprompt_FilterHasPrefix.mono _ _ _ _
      | exact goprompt_FilterHasSuffix.mono _ _ _ _
      | exact LeO.none _
      | refine LeO.ite ?_ ?_
      | refine LeO.bind ?_ (fun _ => ?_)
set_option maxHeartbeats 8000000 in
set_option maxRecDepth 100000 in
theorem impl_Filtered.calls (k : Nat) (a0 : Int) (A1 : Option Addr) (c1 : Nat) (l1 : List (S55)) (a2 : ByteArray) (a3 : Bool) (r : List (S55)) (w : World) (hr1 : Kd.C k55 w A1 l1.length l1) (hc1 : l1.length ≤ c1) (h : impl_Filtered.f k a0 l1 a2 a3 = some r) :
    Calls Tryd.prog 36 #[.int .i64 a0, .slice A1 l1.length c1, .string a2, .bool a3] w fun e w' => ∃ v0_ : Value, e = .returned (v0_) ∧ Kd.R k55 55 w' w.heap.size (fun _ => True) v0_ r ∧ Below w.heap.size w w' := by
  have hu55 := Tryd.underlying55
  have hu96 := Tryd.underlying96
  have HR1 := Aside0.mk hr1
  have HC1 := Aside0.mk hc1
  clear hr1 hc1
  have HB := Aside0.mk (Below.refl w.heap.size w)
  have H : (impl_Filtered.l0 k a0 a2 a3 ([] : List (S96)) l1 (l1.length : Int) 0) = some r := h
  clear h
  have H' := Aside0.mk H
  clear H
  go_enter Tryd.func36, Tryd.ntmps36
  go_wp2
  go_loopg [9, 18] k (fun kq v9 v18 w' => ∃ (x9_1 : List (S96)) (x18_1 : Int), v18 = .int .i64 x18_1 ∧ Aside0 (impl_Filtered.l0 kq a0 a2 a3 x9_1 l1 (l1.length : Int) x18_1 = some r) ∧ Aside0 (kq ≤ k) ∧ Aside0 (Kd.R k96 96 w' w.heap.size (fun _ => True) v9 x9_1) ∧ Aside0 (Below w.heap.size w w'))
  case atStart => exact ⟨(([] : List (S96))), (0), (by first | rfl | (simp; done) | (simp [*]; done)), H', ⟨Nat.le_refl _⟩, ⟨by first | exact Kd.R_nil _ _ _ _ _ | exact Kd.N_nil _ _ _ _ _ | exact Kd.V_nil _ _ _ _ _ | exact Kd.Q_nil _ _ _ _ _ | exact Kd.S_nil _ _ _ _ _⟩, ⟨by repeat (first | (with_reducible first | exact HB.out | apply below_alloc | apply pw_below_drewN | apply below_drew1) | exact HB.out)⟩⟩
  case round =>
    clear H'
    try clear c1
    try clear p2
    try clear c3
    obtain ⟨x9_1, x18_1, rfl, HA, HK1, HO_9, HB⟩ := hrel
    cases gk with
    | zero => exact absurd HA.out (by simp [impl_Filtered.l0])
    | succ k1 =>
      have H := HA.out
      clear HA
      simp only [impl_Filtered.l0] at H
      by_cases c5 : x18_1 < (l1.length : Int)
      · rw [if_pos c5] at H
        have c5b0 : decide (x18_1 < (l1.length : Int)) = true := decide_eq_true c5
        clear c5
        by_cases c6 : 0 ≤ x18_1
        · rw [if_pos c6] at H
          have c6b0 : decide (0 ≤ x18_1) = true := decide_eq_true c6
          clear c6
          by_cases c7 : x18_1 < (l1.length : Int)
          · rw [if_pos c7] at H
            have c7b0 : decide (x18_1 < (l1.length : Int)) = true := decide_eq_true c7
            clear c7
            by_cases c8 : x9_1.length < 4398046511104
            · rw [if_pos c8] at H
              have LMc8 := Aside0.mk c8
              clear c8
              obtain ⟨y114, hy114⟩ : ∃ y_ : List (S96), y_ = (x9_1 ++ [(⟨(rd_T55 l1 x18_1).f0, (rd_T55 l1 x18_1).f1⟩ : S96)]) := ⟨_, rfl⟩
              replace H : (impl_Filtered.l0 k1 a0 a2 a3 y114 l1 (l1.length : Int) (wrap64 (x18_1 + 1))) = some r := by first | (rw [hy114]; with_reducible exact H) | (have H2_ := (Option.bind_some _ _).symm.trans H; rw [hy114]; with_reducible exact H2_) | (have H2_ := (Option.bind_some _ _).symm.trans H; with_reducible exact H2_) | with_reducible exact H | (rw [hy114]; exact H) | exact H
              have Ny114 := Aside0.mk hy114
              clear hy114
              have H' := Aside0.mk H
              clear H
              have p112 : 0 ≤ (x18_1 : Int) := of_decide_eq_true (by first | (with_reducible assumption) | assumption)
              have q112 : x18_1 < (l1.length : Int) := of_decide_eq_true (by first | (with_reducible assumption) | assumption)
              obtain ⟨ad112, e112, hx112_0, hx112_1⟩ := at_T55 HR1.out x18_1 p112 q112
              cases e112
              replace hx112_0 := (HB.out.cell (World.block_lt_of_cell? w _ hx112_0)).trans hx112_0
              replace hx112_1 := (HB.out.cell (World.block_lt_of_cell? w _ hx112_1)).trans hx112_1
              replace p112 := eq_true p112
              replace q112 := eq_true q112
              go_wp2_with (first | ((with_reducible refine gate_dst (N := 11) rfl ?_); refine box_event ?hg (N := 11) ?hd (cs := #[.string (⟨#[]⟩ : ByteArray), .string (⟨#[]⟩ : ByteArray)]) (t := 55) ?hr ?_; (case hd => rfl); (case hg => rfl); (case hr => first | (go_simp; done) | (go_simp; rfl)); intro gb113 hg w9 hbox hb; have n0_ := Aside0.mk (Kd.R_below (by (with_reducible repeat (first | apply Kd.R_alloc | apply Kd.R_drewN | apply Kd.R_drew)); exact HO_9.out) hb); have n1_ := Aside0.mk (below_step (by repeat (first | (with_reducible first | exact HB.out | apply below_alloc | apply pw_below_drewN | apply below_drew1) | exact HB.out)) hb); have n2_ := Aside0.mk (hbox); have n3_ := Aside0.mk ((by rw [hg]; exact (below_size (by repeat (first | (with_reducible first | exact HB.out | apply below_alloc | apply pw_below_drewN | apply below_drew1) | exact HB.out))) : w.heap.size ≤ gb113)); have n4_ := Aside0.mk ((by rw [hg]; exact (below_size (by repeat (first | (with_reducible first | exact HB.out | apply below_alloc | apply pw_below_drewN | apply below_drew1) | exact HB.out))) : w.heap.size ≤ gb113)); clear HO_9; clear HB; have HO_9 := n0_; have HB := n1_; have BK113 := n2_; have GW113 := n3_; have GE113 := n4_; clear n0_ n1_ n2_ n3_ n4_; clear hb hbox hg; have hcz10_0 : w9.cell? ⟨gb113, 0, none⟩ = some (.string (⟨#[]⟩ : ByteArray)) := (blk_cell BK113.out 0).trans rfl; have hcz10_1 : w9.cell? ⟨gb113, 1, none⟩ = some (.string (⟨#[]⟩ : ByteArray)) := (blk_cell BK113.out 1).trans rfl; have hfz10_0 := blk_frozen BK113.out 0; have hfz10_1 := blk_frozen BK113.out 1) | ((with_reducible refine gate_builtin (b := .append) (xs := #[.tmp 22, .tmp 28]) rfl ?_); at_builtin; refine Kd.R_append k96 (w0 := w) w.heap.size rfl (.tmp 22) (.tmp 28) 95 96 (.agg #[(.string ⟨#[]⟩), (.string ⟨#[]⟩)]) 32 rfl Tryd.underlying95 info96 rfl (by decide) (by omega) u9 x9_1 (⟨(rd_T55 l1 x18_1).f0, (rd_T55 l1 x18_1).f1⟩ : S96) [.string ((rd_T55 l1 x18_1).f0), .string ((rd_T55 l1 x18_1).f1)] (fun _ => True) (fun _ => False) rfl (by first | (go_simp; done) | (go_simp; rfl)) ?aP (fun _ hk => hk.elim) ?aF ?aO ?aB ?aS ?aL ?_; (case aP => exact k96_mkM _ _ _ (⟨(rd_T55 l1 x18_1).f0, (rd_T55 l1 x18_1).f1⟩ : S96)); (case aB => exact (by repeat (first | (with_reducible first | exact HB.out | apply below_alloc | apply pw_below_drewN | apply below_drew1 | refine below_set ?_ GE113.out) | exact HB.out))); (case aF => exact (fun _ _ => trivial)); (case aO => exact (by (with_reducible repeat (first | apply Kd.R_alloc | apply Kd.R_drewN | apply Kd.R_drew)); exact Kd.R_mono (Kd.R_far (p := ⟨gb113, 1, none⟩) (Kd.R_far (p := ⟨gb113, 0, none⟩) (Kd.R_types HO_9.out BK113.out (by decide)) (fun _ hk => hk.2) (.string ((rd_T55 l1 x18_1).f0))) (fun _ hk => hk.2) (.string ((rd_T55 l1 x18_1).f1))) (fun _ hk => trivial))); (case aS => exact (below_size (by repeat (first | (with_reducible first | exact HB.out | apply below_alloc | apply pw_below_drewN | apply below_drew1 | refine below_set ?_ GE113.out) | exact HB.out)))); (case aL => have := LMc8.out; omega); intro v115 w11 ho hb hg hat; rw [← Ny114.out] at ho; have n0_ := Aside0.mk (blk_grown (g := gb113) (o := .cells #[.string ((rd_T55 l1 x18_1).f0), .string ((rd_T55 l1 x18_1).f1)] 55 (0, 0)) (by (with_reducible repeat (first | refine blk_drewN ?_ _ | refine blk_drew ?_ | refine blk_alloc ?_ _)); refine blk_put (cs := #[.string ((rd_T55 l1 x18_1).f0), .string (⟨#[]⟩ : ByteArray)]) ?_ 1 _ rfl; (with_reducible repeat (first | refine blk_drewN ?_ _ | refine blk_drew ?_ | refine blk_alloc ?_ _)); refine blk_put (cs := #[.string (⟨#[]⟩ : ByteArray), .string (⟨#[]⟩ : ByteArray)]) ?_ 0 _ rfl; (with_reducible repeat (first | refine blk_drewN ?_ _ | refine blk_drew ?_ | refine blk_alloc ?_ _)); exact BK113.out) hg (Kd.R_ne HO_9.out BK113.out (by decide))); have n1_ := Aside0.mk (hb); have n2_ := Aside0.mk (ho); clear BK113; clear HB; clear HO_9; have BK113 := n0_; have HB := n1_; have HO116 := n2_; clear n0_ n1_ n2_; clear ho hb hg hat))
              go_roundg k1
              case measure => have := HK1.out; omega
              case rel => exact ⟨(y114), (wrap64 (x18_1 + 1)), (by first | rfl | (simp; done) | (simp [*]; done)), H', ⟨by have := HK1.out; omega⟩, ⟨by (with_reducible repeat (first | apply Kd.R_alloc | apply Kd.R_drewN | apply Kd.R_drew)); exact HO116.out⟩, ⟨by repeat (first | (with_reducible first | exact HB.out | apply below_alloc | apply pw_below_drewN | apply below_drew1 | refine below_set ?_ GE113.out) | exact HB.out)⟩⟩
            · rw [if_neg c8] at H
              exact absurd H (by simp)
          · rw [if_neg c7] at H
            exact absurd H (by simp)
        · rw [if_neg c6] at H
          exact absurd H (by simp)
      · rw [if_neg c5] at H
        have c5b0 : decide (x18_1 < (l1.length : Int)) = false := decide_eq_false c5
        clear c5
        have HC12 := Aside0.mk H
        clear H
        go_upto_block 2 with (fail)
        go_cut [12] (fun v12 wc => ∃ (kq : Nat) (x12_11 : List (S96)), Aside0 (impl_Filtered.j1 kq x12_11 = some r) ∧ Aside0 (kq ≤ k1) ∧ Aside0 (Kd.R k96 96 wc w.heap.size (fun _ => True) v12 x12_11) ∧ Aside0 (Below w.heap.size w wc))
        case first =>
          have H := HC12.out
          clear HC12
          by_cases c13 : a0 = 1
          · rw [if_pos c13] at H
            have c13b0 : (a0 == 1) = true := beq_iff_eq.mpr c13
            have c13b1 : (a0 != 1) = false := bne_eq_false_iff_eq.mpr c13
            clear c13
            (first | rw [c13b0] | (simp only [i64_w, i32_w]; rw [c13b0]) | skip)
            replace H := Option.bind_eq_some_iff.mp H
            obtain ⟨t117, A140, H⟩ := H
            replace H : (impl_Filtered.j1 k1 t117) = some r := H
            have A14 := Aside0.mk A140
            clear A140
            have H' := Aside0.mk H
            clear H
            obtain ⟨Ao15, co15, eo15⟩ := Kd.R_slice HO_9.out
            subst eo15
            go_wp2_with (first | ((with_reducible refine gate_callee (f := 65) rfl ?_); refine goesL_ (some 37) rfl rfl Tryd.func65 (by kernel_rfl) rfl #[.slice Ao15 x9_1.length co15, .string a2, .bool a3] rfl (by (try simp only [List.map_toArray, List.map_cons, List.map_nil]); first | done | rfl | (simp only [List.length_drop, List.length_take]; rfl) | (simp only [Int.toNat_natCast, ByteArray.extract_zero_size]; rfl)) ?_; (with_reducible refine (goprompt_FilterHasPrefix.calls k1 _ _ x9_1 a2 a3 t117 _ ?side1 ?side2 A14.out).mono ?_); (case side1 => repeat (first | exact (Kd.R_reads' HO_9.out).2.2 | (with_reducible refine Kd.C_alloc ?_ _) | (with_reducible refine Kd.C_drewN ?_ _) | (with_reducible refine Kd.C_drew ?_))); (case side2 => exact (Kd.R_reads' HO_9.out).2.1); rintro e w16 ⟨v118, rfl, ho0, hb⟩; refine ⟨_, rfl, ?_⟩; have n0_ := Aside0.mk trivial; have n1_ : Aside0 (Kd.R k96 96 w16 w.heap.size (fun _ => True) v118 t117) := Aside0.mk (ho0.elim (fun ho0 => Kd.R_mono (Kd.R_lower (Kd.R_new' ho0 (Kd.R_lt (by (with_reducible repeat (first | apply Kd.R_alloc | apply Kd.R_drewN | apply Kd.R_drew)); exact HO_9.out))) (below_size (by repeat (first | (with_reducible first | exact HB.out | apply below_alloc | apply pw_below_drewN | apply below_drew1) | exact HB.out)))) (fun _ _ => trivial)) (fun h_ => by rw [h_.1, h_.2]; exact Kd.R_below (by (with_reducible repeat (first | apply Kd.R_alloc | apply Kd.R_drewN | apply Kd.R_drew)); exact HO_9.out) hb)); have n2_ := Aside0.mk (below_step (by repeat (first | (with_reducible first | exact HB.out | apply below_alloc | apply pw_below_drewN | apply below_drew1) | exact HB.out)) hb); clear HO_9; clear HB; have HO_9 := n0_; have HO119 := n1_; have HB := n2_; clear n0_ n1_ n2_; (try clear hb); (try clear hb2); (try clear hk); (try clear hi); (try clear ho0)))
            go_meet
            case rel => exact ⟨_, (t117), H', ⟨by have := HK1.out; first | omega | exact Nat.le_refl _⟩, ⟨by (with_reducible repeat (first | apply Kd.R_alloc | apply Kd.R_drewN | apply Kd.R_drew)); exact Kd.R_mono HO119.out (fun _ hk => trivial)⟩, ⟨by repeat (first | (with_reducible first | exact HB.out | apply below_alloc | apply pw_below_drewN | apply below_drew1) | exact HB.out)⟩⟩
          · rw [if_neg c13] at H
            have c13b0 : (a0 == 1) = false := beq_eq_false_iff_ne.mpr c13
            have c13b1 : (a0 != 1) = true := bne_iff_ne.mpr c13
            (first | rw [c13b0] | (simp only [i64_w, i32_w]; rw [c13b0]) | skip)
            by_cases c17 : a0 = 2
            · rw [if_pos c17] at H
              have c17b0 : (a0 == 2) = true := beq_iff_eq.mpr c17
              have c17b1 : (a0 != 2) = false := bne_eq_false_iff_eq.mpr c17
              clear c17
              replace H := Option.bind_eq_some_iff.mp H
              obtain ⟨t120, A180, H⟩ := H
              replace H : (impl_Filtered.j1 k1 t120) = some r := H
              have A18 := Aside0.mk A180
              clear A180
              have H' := Aside0.mk H
              clear H
              obtain ⟨Ao19, co19, eo19⟩ := Kd.R_slice HO_9.out
              subst eo19
              go_wp2_with (first | ((with_reducible refine gate_callee (f := 66) rfl ?_); refine goesL_ (some 43) rfl rfl Tryd.func66 (by kernel_rfl) rfl #[.slice Ao19 x9_1.length co19, .string a2, .bool a3] rfl (by (try simp only [List.map_toArray, List.map_cons, List.map_nil]); first | done | rfl | (simp only [List.length_drop, List.length_take]; rfl) | (simp only [Int.toNat_natCast, ByteArray.extract_zero_size]; rfl)) ?_; (with_reducible refine (goprompt_FilterHasSuffix.calls k1 _ _ x9_1 a2 a3 t120 _ ?side1 ?side2 A18.out).mono ?_); (case side1 => repeat (first | exact (Kd.R_reads' HO_9.out).2.2 | (with_reducible refine Kd.C_alloc ?_ _) | (with_reducible refine Kd.C_drewN ?_ _) | (with_reducible refine Kd.C_drew ?_))); (case side2 => exact (Kd.R_reads' HO_9.out).2.1); rintro e w20 ⟨v121, rfl, ho0, hb⟩; refine ⟨_, rfl, ?_⟩; have n0_ := Aside0.mk trivial; have n1_ : Aside0 (Kd.R k96 96 w20 w.heap.size (fun _ => True) v121 t120) := Aside0.mk (ho0.elim (fun ho0 => Kd.R_mono (Kd.R_lower (Kd.R_new' ho0 (Kd.R_lt (by (with_reducible repeat (first | apply Kd.R_alloc | apply Kd.R_drewN | apply Kd.R_drew)); exact HO_9.out))) (below_size (by repeat (first | (with_reducible first | exact HB.out | apply below_alloc | apply pw_below_drewN | apply below_drew1) | exact HB.out)))) (fun _ _ => trivial)) (fun h_ => by rw [h_.1, h_.2]; exact Kd.R_below (by (with_reducible repeat (first | apply Kd.R_alloc | apply Kd.R_drewN | apply Kd.R_drew)); exact HO_9.out) hb)); have n2_ := Aside0.mk (below_step (by repeat (first | (with_reducible first | exact HB.out | apply below_alloc | apply pw_below_drewN | apply below_drew1) | exact HB.out)) hb); clear HO_9; clear HB; have HO_9 := n0_; have HO122 := n1_; have HB := n2_; clear n0_ n1_ n2_; (try clear hb); (try clear hb2); (try clear hk); (try clear hi); (try clear ho0)))
              go_meet
              case rel => exact ⟨_, (t120), H', ⟨by have := HK1.out; first | omega | exact Nat.le_refl _⟩, ⟨by (with_reducible repeat (first | apply Kd.R_alloc | apply Kd.R_drewN | apply Kd.R_drew)); exact Kd.R_mono HO122.out (fun _ hk => trivial)⟩, ⟨by repeat (first | (with_reducible first | exact HB.out | apply below_alloc | apply pw_below_drewN | apply below_drew1) | exact HB.out)⟩⟩
            · rw [if_neg c17] at H
              have c17b0 : (a0 == 2) = false := beq_eq_false_iff_ne.mpr c17
              have c17b1 : (a0 != 2) = true := bne_iff_ne.mpr c17
              by_cases c21 : a0 = 3
              · rw [if_pos c21] at H
                have c21b0 : (a0 == 3) = true := beq_iff_eq.mpr c21
                have c21b1 : (a0 != 3) = false := bne_eq_false_iff_eq.mpr c21
                clear c21
                replace H := Option.bind_eq_some_iff.mp H
                obtain ⟨t123, A220, H⟩ := H
                replace H : (impl_Filtered.j1 k1 t123) = some r := H
                have A22 := Aside0.mk A220
                clear A220
                have H' := Aside0.mk H
                clear H
                obtain ⟨Ao23, co23, eo23⟩ := Kd.R_slice HO_9.out
                subst eo23
                go_wp2_with (first | ((with_reducible refine gate_callee (f := 67) rfl ?_); refine goesL_ (some 49) rfl rfl Tryd.func67 (by kernel_rfl) rfl #[.slice Ao23 x9_1.length co23, .string a2, .bool a3] rfl (by (try simp only [List.map_toArray, List.map_cons, List.map_nil]); first | done | rfl | (simp only [List.length_drop, List.length_take]; rfl) | (simp only [Int.toNat_natCast, ByteArray.extract_zero_size]; rfl)) ?_; (with_reducible refine (goprompt_FilterContains.calls k1 _ _ x9_1 a2 a3 t123 _ ?side1 ?side2 A22.out).mono ?_); (case side1 => repeat (first | exact (Kd.R_reads' HO_9.out).2.2 | (with_reducible refine Kd.C_alloc ?_ _) | (with_reducible refine Kd.C_drewN ?_ _) | (with_reducible refine Kd.C_drew ?_))); (case side2 => exact (Kd.R_reads' HO_9.out).2.1); rintro e w24 ⟨v124, rfl, ho0, hb⟩; refine ⟨_, rfl, ?_⟩; have n0_ := Aside0.mk trivial; have n1_ : Aside0 (Kd.R k96 96 w24 w.heap.size (fun _ => True) v124 t123) := Aside0.mk (ho0.elim (fun ho0 => Kd.R_mono (Kd.R_lower (Kd.R_new' ho0 (Kd.R_lt (by (with_reducible repeat (first | apply Kd.R_alloc | apply Kd.R_drewN | apply Kd.R_drew)); exact HO_9.out))) (below_size (by repeat (first | (with_reducible first | exact HB.out | apply below_alloc | apply pw_below_drewN | apply below_drew1) | exact HB.out)))) (fun _ _ => trivial)) (fun h_ => by rw [h_.1, h_.2]; exact Kd.R_below (by (with_reducible repeat (first | apply Kd.R_alloc | apply Kd.R_drewN | apply Kd.R_drew)); exact HO_9.out) hb)); have n2_ := Aside0.mk (below_step (by repeat (first | (with_reducible first | exact HB.out | apply below_alloc | apply pw_below_drewN | apply below_drew1) | exact HB.out)) hb); clear HO_9; clear HB; have HO_9 := n0_; have HO125 := n1_; have HB := n2_; clear n0_ n1_ n2_; (try clear hb); (try clear hb2); (try clear hk); (try clear hi); (try clear ho0)))
                go_meet
                case rel => exact ⟨_, (t123), H', ⟨by have := HK1.out; first | omega | exact Nat.le_refl _⟩, ⟨by (with_reducible repeat (first | apply Kd.R_alloc | apply Kd.R_drewN | apply Kd.R_drew)); exact Kd.R_mono HO125.out (fun _ hk => trivial)⟩, ⟨by repeat (first | (with_reducible first | exact HB.out | apply below_alloc | apply pw_below_drewN | apply below_drew1) | exact HB.out)⟩⟩
              · rw [if_neg c21] at H
                have c21b0 : (a0 == 3) = false := beq_eq_false_iff_ne.mpr c21
                have c21b1 : (a0 != 3) = true := bne_iff_ne.mpr c21
                by_cases c25 : a0 = 4
                · rw [if_pos c25] at H
                  have c25b0 : (a0 == 4) = true := beq_iff_eq.mpr c25
                  have c25b1 : (a0 != 4) = false := bne_eq_false_iff_eq.mpr c25
                  clear c25
                  replace H := Option.bind_eq_some_iff.mp H
                  obtain ⟨t126, A260, H⟩ := H
                  replace H : (impl_Filtered.j1 k1 t126) = some r := H
                  have A26 := Aside0.mk A260
                  clear A260
                  have H' := Aside0.mk H
                  clear H
                  obtain ⟨Ao27, co27, eo27⟩ := Kd.R_slice HO_9.out
                  subst eo27
                  go_wp2_with (first | ((with_reducible refine gate_callee (f := 68) rfl ?_); refine goesL_ (some 55) rfl rfl Tryd.func68 (by kernel_rfl) rfl #[.slice Ao27 x9_1.length co27, .string a2, .bool a3] rfl (by (try simp only [List.map_toArray, List.map_cons, List.map_nil]); first | done | rfl | (simp only [List.length_drop, List.length_take]; rfl) | (simp only [Int.toNat_natCast, ByteArray.extract_zero_size]; rfl)) ?_; (with_reducible refine (goprompt_FilterFuzzy.calls k1 _ _ x9_1 a2 a3 t126 _ ?side1 ?side2 A26.out).mono ?_); (case side1 => repeat (first | exact (Kd.R_reads' HO_9.out).2.2 | (with_reducible refine Kd.C_alloc ?_ _) | (with_reducible refine Kd.C_drewN ?_ _) | (with_reducible refine Kd.C_drew ?_))); (case side2 => exact (Kd.R_reads' HO_9.out).2.1); rintro e w28 ⟨v127, rfl, ho0, hb⟩; refine ⟨_, rfl, ?_⟩; have n0_ := Aside0.mk trivial; have n1_ : Aside0 (Kd.R k96 96 w28 w.heap.size (fun _ => True) v127 t126) := Aside0.mk (ho0.elim (fun ho0 => Kd.R_mono (Kd.R_lower (Kd.R_new' ho0 (Kd.R_lt (by (with_reducible repeat (first | apply Kd.R_alloc | apply Kd.R_drewN | apply Kd.R_drew)); exact HO_9.out))) (below_size (by repeat (first | (with_reducible first | exact HB.out | apply below_alloc | apply pw_below_drewN | apply below_drew1) | exact HB.out)))) (fun _ _ => trivial)) (fun h_ => by rw [h_.1, h_.2]; exact Kd.R_below (by (with_reducible repeat (first | apply Kd.R_alloc | apply Kd.R_drewN | apply Kd.R_drew)); exact HO_9.out) hb)); have n2_ := Aside0.mk (below_step (by repeat (first | (with_reducible first | exact HB.out | apply below_alloc | apply pw_below_drewN | apply below_drew1) | exact HB.out)) hb); clear HO_9; clear HB; have HO_9 := n0_; have HO128 := n1_; have HB := n2_; clear n0_ n1_ n2_; (try clear hb); (try clear hb2); (try clear hk); (try clear hi); (try clear ho0)))
                  go_meet
                  case rel => exact ⟨_, (t126), H', ⟨by have := HK1.out; first | omega | exact Nat.le_refl _⟩, ⟨by (with_reducible repeat (first | apply Kd.R_alloc | apply Kd.R_drewN | apply Kd.R_drew)); exact Kd.R_mono HO128.out (fun _ hk => trivial)⟩, ⟨by repeat (first | (with_reducible first | exact HB.out | apply below_alloc | apply pw_below_drewN | apply below_drew1) | exact HB.out)⟩⟩
                · rw [if_neg c25] at H
                  have c25b0 : (a0 == 4) = false := beq_eq_false_iff_ne.mpr c25
                  have c25b1 : (a0 != 4) = true := bne_iff_ne.mpr c25
                  have H' := Aside0.mk H
                  clear H
                  go_wp2
                  go_meet
                  case rel => exact ⟨_, (([] : List (S96))), H', ⟨by have := HK1.out; first | omega | exact Nat.le_refl _⟩, ⟨by first | exact Kd.R_nil _ _ _ _ _ | exact Kd.N_nil _ _ _ _ _ | exact Kd.V_nil _ _ _ _ _ | exact Kd.Q_nil _ _ _ _ _ | exact Kd.S_nil _ _ _ _ _⟩, ⟨by repeat (first | (with_reducible first | exact HB.out | apply below_alloc | apply pw_below_drewN | apply below_drew1) | exact HB.out)⟩⟩
        case rest =>
          clear HC12
          try clear c1
          try clear p1
          try clear q1
          try clear hx1
          try clear c2
          try clear p2
          try clear c3
          try clear c5
          try clear c5b0
          try clear c6
          try clear c6b0
          try clear p6
          try clear c7
          try clear c7b0
          try clear c8
          try clear p11
          try clear q11
          try clear hx11
          try clear c13
          try clear c13b0
          try clear c13b1
          try clear c17
          try clear c17b0
          try clear c17b1
          try clear c21
          try clear c21b0
          try clear c21b1
          try clear c25
          try clear c25b0
          try clear c25b1
          try clear hcz10_0
          try clear hcz10_1
          try clear hfz10_0
          try clear hfz10_1
          try clear hx112_0
          try clear hx112_1
          try clear p112
          try clear p2
          try clear q112
          obtain ⟨kq, x12_11, HA, HJ11, HO_12, HB⟩ := hcut
          cases kq with
          | zero => exact absurd HA.out (by simp [impl_Filtered.j1])
          | succ kj11 =>
            have H := HA.out
            clear HA
            simp only [impl_Filtered.j1] at H
            have H' := Aside0.mk H
            clear H
            obtain ⟨Ao29, co29, eo29⟩ := Kd.R_slice HO_12.out
            subst eo29
            go_wp2
            go_loopg [13, 58] kj11 (fun kq v13 v58 w' => ∃ (x13_3 : List (S55)) (x58_3 : Int), v58 = .int .i64 x58_3 ∧ Aside0 (impl_Filtered.l1 kq x13_3 x12_11 (x12_11.length : Int) x58_3 = some r) ∧ Aside0 (kq ≤ kj11) ∧ Aside0 (Kd.R k55 55 w' w.heap.size (fun _ => True) v13 x13_3) ∧ Aside0 (Kd.R k96 96 w' w.heap.size (fun _ => True) (.slice Ao29 x12_11.length co29) x12_11) ∧ Aside0 (Below w.heap.size w w'))
            case atStart => exact ⟨(([] : List (S55))), (0), (by first | rfl | (simp; done) | (simp [*]; done)), H', ⟨Nat.le_refl _⟩, ⟨by first | exact Kd.R_nil _ _ _ _ _ | exact Kd.N_nil _ _ _ _ _ | exact Kd.V_nil _ _ _ _ _ | exact Kd.Q_nil _ _ _ _ _ | exact Kd.S_nil _ _ _ _ _⟩, ⟨by (with_reducible repeat (first | apply Kd.R_alloc | apply Kd.R_drewN | apply Kd.R_drew)); exact HO_12.out⟩, ⟨by repeat (first | (with_reducible first | exact HB.out | apply below_alloc | apply pw_below_drewN | apply below_drew1) | exact HB.out)⟩⟩
            case round =>
              clear H'
              try clear c1
              try clear p1
              try clear q1
              try clear hx1
              try clear c2
              try clear p2
              try clear c3
              try clear c5
              try clear c5b0
              try clear c6
              try clear c6b0
              try clear p6
              try clear c7
              try clear c7b0
              try clear c8
              try clear p11
              try clear q11
              try clear hx11
              try clear c13
              try clear c13b0
              try clear c13b1
              try clear c17
              try clear c17b0
              try clear c17b1
              try clear c21
              try clear c21b0
              try clear c21b1
              try clear c25
              try clear c25b0
              try clear c25b1
              try clear hcz10_0
              try clear hcz10_1
              try clear hfz10_0
              try clear hfz10_1
              try clear hx112_0
              try clear hx112_1
              try clear p1
              try clear p11
              try clear p112
              try clear p2
              try clear p6
              try clear q1
              try clear q11
              try clear q112
              obtain ⟨x13_3, x58_3, rfl, HA, HK3, HO_13, HO_56, HB⟩ := hrel
              cases gk with
              | zero => exact absurd HA.out (by simp [impl_Filtered.l1])
              | succ k3 =>
                have H := HA.out
                clear HA
                simp only [impl_Filtered.l1] at H
                by_cases c30 : x58_3 < (x12_11.length : Int)
                · rw [if_pos c30] at H
                  have c30b0 : decide (x58_3 < (x12_11.length : Int)) = true := decide_eq_true c30
                  clear c30
                  by_cases c31 : 0 ≤ x58_3
                  · rw [if_pos c31] at H
                    have c31b0 : decide (0 ≤ x58_3) = true := decide_eq_true c31
                    clear c31
                    by_cases c32 : x58_3 < (x12_11.length : Int)
                    · rw [if_pos c32] at H
                      have c32b0 : decide (x58_3 < (x12_11.length : Int)) = true := decide_eq_true c32
                      clear c32
                      by_cases c33 : x13_3.length < 4398046511104
                      · rw [if_pos c33] at H
                        have LMc33 := Aside0.mk c33
                        clear c33
                        obtain ⟨y131, hy131⟩ : ∃ y_ : List (S55), y_ = (x13_3 ++ [(⟨(rd_T96 x12_11 x58_3).f0, (rd_T96 x12_11 x58_3).f1⟩ : S55)]) := ⟨_, rfl⟩
                        replace H : (impl_Filtered.l1 k3 y131 x12_11 (x12_11.length : Int) (wrap64 (x58_3 + 1))) = some r := by first | (rw [hy131]; with_reducible exact H) | (have H2_ := (Option.bind_some _ _).symm.trans H; rw [hy131]; with_reducible exact H2_) | (have H2_ := (Option.bind_some _ _).symm.trans H; with_reducible exact H2_) | with_reducible exact H | (rw [hy131]; exact H) | exact H
                        have Ny131 := Aside0.mk hy131
                        clear hy131
                        have H' := Aside0.mk H
                        clear H
                        have p129 : 0 ≤ (x58_3 : Int) := of_decide_eq_true (by first | (with_reducible assumption) | assumption)
                        have q129 : x58_3 < (x12_11.length : Int) := of_decide_eq_true (by first | (with_reducible assumption) | assumption)
                        obtain ⟨ad129, e129, hx129_0, hx129_1⟩ := at_T96 (Kd.R_reads' HO_56.out).2.2 x58_3 p129 q129
                        cases e129
                        replace p129 := eq_true p129
                        replace q129 := eq_true q129
                        go_wp2_with (first | ((with_reducible refine gate_dst (N := 15) rfl ?_); refine box_event ?hg (N := 15) ?hd (cs := #[.string (⟨#[]⟩ : ByteArray), .string (⟨#[]⟩ : ByteArray)]) (t := 96) ?hr ?_; (case hd => rfl); (case hg => rfl); (case hr => first | (go_simp; done) | (go_simp; rfl)); intro gb130 hg w34 hbox hb; have n0_ := Aside0.mk (Kd.R_below (by (with_reducible repeat (first | apply Kd.R_alloc | apply Kd.R_drewN | apply Kd.R_drew)); exact HO_13.out) hb); have n1_ := Aside0.mk (Kd.R_below (Kd.R_elderB (by (with_reducible repeat (first | apply Kd.R_alloc | apply Kd.R_drewN | apply Kd.R_drew)); exact HO_56.out) gb130 (Nat.le_of_eq hg.symm)) hb); have n2_ := Aside0.mk (below_step (by repeat (first | (with_reducible first | exact HB.out | apply below_alloc | apply pw_below_drewN | apply below_drew1) | exact HB.out)) hb); have n3_ := Aside0.mk (hbox); have n4_ := Aside0.mk ((by rw [hg]; exact (below_size (by repeat (first | (with_reducible first | exact HB.out | apply below_alloc | apply pw_below_drewN | apply below_drew1) | exact HB.out))) : w.heap.size ≤ gb130)); have n5_ := Aside0.mk ((by rw [hg]; exact (below_size (by repeat (first | (with_reducible first | exact HB.out | apply below_alloc | apply pw_below_drewN | apply below_drew1) | exact HB.out))) : w.heap.size ≤ gb130)); clear HO_13; clear HO_56; clear HB; have HO_13 := n0_; have HO_56 := n1_; have HB := n2_; have BK130 := n3_; have GW130 := n4_; have GE130 := n5_; clear n0_ n1_ n2_ n3_ n4_ n5_; clear hb hbox hg; have hcz35_0 : w34.cell? ⟨gb130, 0, none⟩ = some (.string (⟨#[]⟩ : ByteArray)) := (blk_cell BK130.out 0).trans rfl; have hcz35_1 : w34.cell? ⟨gb130, 1, none⟩ = some (.string (⟨#[]⟩ : ByteArray)) := (blk_cell BK130.out 1).trans rfl; have hfz35_0 := blk_frozen BK130.out 0; have hfz35_1 := blk_frozen BK130.out 1) | ((with_reducible refine gate_builtin (b := .append) (xs := #[.tmp 62, .tmp 68]) rfl ?_); at_builtin; refine Kd.R_append k55 (w0 := w) w.heap.size rfl (.tmp 62) (.tmp 68) 50 55 (.agg #[(.string ⟨#[]⟩), (.string ⟨#[]⟩)]) 32 rfl Tryd.underlying50 info55 rfl (by decide) (by omega) u13 x13_3 (⟨(rd_T96 x12_11 x58_3).f0, (rd_T96 x12_11 x58_3).f1⟩ : S55) [.string ((rd_T96 x12_11 x58_3).f0), .string ((rd_T96 x12_11 x58_3).f1)] (fun _ => True) (fun _ => False) rfl (by first | (go_simp; done) | (go_simp; rfl)) ?aP (fun _ hk => hk.elim) ?aF ?aO ?aB ?aS ?aL ?_; (case aP => exact k55_mkM _ _ _ (⟨(rd_T96 x12_11 x58_3).f0, (rd_T96 x12_11 x58_3).f1⟩ : S55)); (case aB => exact (by repeat (first | (with_reducible first | exact HB.out | apply below_alloc | apply pw_below_drewN | apply below_drew1 | refine below_set ?_ GE130.out) | exact HB.out))); (case aF => exact (fun _ _ => trivial)); (case aO => exact (by (with_reducible repeat (first | apply Kd.R_alloc | apply Kd.R_drewN | apply Kd.R_drew)); exact Kd.R_mono (Kd.R_far (p := ⟨gb130, 1, none⟩) (Kd.R_far (p := ⟨gb130, 0, none⟩) (Kd.R_types HO_13.out BK130.out (by decide)) (fun _ hk => hk.2) (.string ((rd_T96 x12_11 x58_3).f0))) (fun _ hk => hk.2) (.string ((rd_T96 x12_11 x58_3).f1))) (fun _ hk => trivial))); (case aS => exact (below_size (by repeat (first | (with_reducible first | exact HB.out | apply below_alloc | apply pw_below_drewN | apply below_drew1 | refine below_set ?_ GE130.out) | exact HB.out)))); (case aL => have := LMc33.out; omega); intro v132 w36 ho hb hg hat; rw [← Ny131.out] at ho; have n0_ := Aside0.mk (Kd.R_over' (by (with_reducible repeat (first | apply Kd.R_alloc | apply Kd.R_drewN | apply Kd.R_drew)); exact (Kd.R_mono (Kd.R_far (p := ⟨gb130, 1, none⟩) (Kd.R_far (p := ⟨gb130, 0, none⟩) (Kd.R_mono HO_56.out (fun k_ hk => (⟨hk, hk.2⟩ : _ ∧ k_ ≠ gb130))) (fun _ hk => hk.2) (.string ((rd_T96 x12_11 x58_3).f0))) (fun _ hk => hk.2) (.string ((rd_T96 x12_11 x58_3).f1))) (fun _ h_ => h_.1))) (Kd.R_typed (by (with_reducible repeat (first | apply Kd.R_alloc | apply Kd.R_drewN | apply Kd.R_drew)); exact (Kd.R_mono (Kd.R_far (p := ⟨gb130, 1, none⟩) (Kd.R_far (p := ⟨gb130, 0, none⟩) (Kd.R_types HO_13.out BK130.out (by decide)) (fun _ hk => hk.2) (.string ((rd_T96 x12_11 x58_3).f0))) (fun _ hk => hk.2) (.string ((rd_T96 x12_11 x58_3).f1))) (fun _ h_ => h_.1)))) (by decide) hg); have n1_ := Aside0.mk (blk_grown (g := gb130) (o := .cells #[.string ((rd_T96 x12_11 x58_3).f0), .string ((rd_T96 x12_11 x58_3).f1)] 96 (0, 0)) (by (with_reducible repeat (first | refine blk_drewN ?_ _ | refine blk_drew ?_ | refine blk_alloc ?_ _)); refine blk_put (cs := #[.string ((rd_T96 x12_11 x58_3).f0), .string (⟨#[]⟩ : ByteArray)]) ?_ 1 _ rfl; (with_reducible repeat (first | refine blk_drewN ?_ _ | refine blk_drew ?_ | refine blk_alloc ?_ _)); refine blk_put (cs := #[.string (⟨#[]⟩ : ByteArray), .string (⟨#[]⟩ : ByteArray)]) ?_ 0 _ rfl; (with_reducible repeat (first | refine blk_drewN ?_ _ | refine blk_drew ?_ | refine blk_alloc ?_ _)); exact BK130.out) hg (Kd.R_ne HO_13.out BK130.out (by decide))); have n2_ := Aside0.mk (hb); have n3_ := Aside0.mk (ho); clear HO_56; clear BK130; clear HB; clear HO_13; have HO_56 := n0_; have BK130 := n1_; have HB := n2_; have HO133 := n3_; clear n0_ n1_ n2_ n3_; clear ho hb hg hat))
                        go_roundg k3
                        case measure => have := HK1.out; have := HJ11.out; have := HK3.out; omega
                        case rel => exact ⟨(y131), (wrap64 (x58_3 + 1)), (by first | rfl | (simp; done) | (simp [*]; done)), H', ⟨by have := HK1.out; have := HJ11.out; have := HK3.out; omega⟩, ⟨by (with_reducible repeat (first | apply Kd.R_alloc | apply Kd.R_drewN | apply Kd.R_drew)); exact HO133.out⟩, ⟨by (with_reducible repeat (first | apply Kd.R_alloc | apply Kd.R_drewN | apply Kd.R_drew)); exact Kd.R_mono HO_56.out (fun _ hk => trivial)⟩, ⟨by repeat (first | (with_reducible first | exact HB.out | apply below_alloc | apply pw_below_drewN | apply below_drew1 | refine below_set ?_ GE130.out) | exact HB.out)⟩⟩
                      · rw [if_neg c33] at H
                        exact absurd H (by simp)
                    · rw [if_neg c32] at H
                      exact absurd H (by simp)
                  · rw [if_neg c31] at H
                    exact absurd H (by simp)
                · rw [if_neg c30] at H
                  have c30b0 : decide (x58_3 < (x12_11.length : Int)) = false := decide_eq_false c30
                  clear c30
                  obtain rfl := Option.some.inj H
                  go_wp2
                  go_ret
                  exact ⟨_, by first | rfl | (simp [errW_none, errW_some] <;> rfl) | (simp [*, errW_none, errW_some] <;> rfl), by (with_reducible repeat (first | apply Kd.R_alloc | apply Kd.R_drewN | apply Kd.R_drew)); exact HO_13.out, by repeat (first | (with_reducible first | exact HB.out | apply below_alloc | apply pw_below_drewN | apply below_drew1) | exact HB.out)⟩
/-! ### laws_samePicks7: function 37 -/
mutual
def laws_samePicks7.l0 : Nat → List (S55) → List (S55) → Int → Option (Bool)
  | 0, _, _, _ => none
  | k + 1, x0, x1, x5 => if x5 < (x0.length : Int) then (laws_samePicks7.j1 k x0 x1 x5 (decide (x5 < (x1.length : Int)))) else (laws_samePicks7.j1 k x0 x1 x5 false)
def laws_samePicks7.j1 : Nat → List (S55) → List (S55) → Int → Bool → Option (Bool)
  | 0, _, _, _, _ => none
  | k + 1, x0, x1, x5, x15 => if x15 = true then (if 0 ≤ x5 then (if x5 < (x0.length : Int) then (if x5 < (x1.length : Int) then (if (!((((rd_T55 x0 x5).f0).toList) == (((rd_T55 x1 x5).f0).toList)) || (!((((rd_T55 x0 x5).f1).toList) == (((rd_T55 x1 x5).f1).toList)))) = true then (some false) else (laws_samePicks7.l0 k x0 x1 (wrap64 (x5 + 1)))) else (none)) else (none)) else (none)) else (some ((x0.length : Int) == (x1.length : Int)))
end
def laws_samePicks7.f (k : Nat) (l0 : List (S55)) (l1 : List (S55)) : Option (Bool) := laws_samePicks7.l0 k l0 l1 0
theorem laws_samePicks7.mono_l : ∀ k, (∀ y0 y1 y2, LeO (laws_samePicks7.l0 k y0 y1 y2) (laws_samePicks7.l0 (k + 1) y0 y1 y2)) ∧ (∀ y0 y1 y2 y3, LeO (laws_samePicks7.j1 k y0 y1 y2 y3) (laws_samePicks7.j1 (k + 1) y0 y1 y2 y3))
  | 0 => ⟨fun _ _ _ r h => by simp [laws_samePicks7.l0] at h, fun _ _ _ _ r h => by simp [laws_samePicks7.j1] at h⟩
  | k + 1 => by
    obtain ⟨ih0, ih1⟩ := laws_samePicks7.mono_l k
    refine ⟨?_, ?_⟩
    · intro y0 y1 y2
      unfold laws_samePicks7.l0
      repeat' first
      | (with_reducible exact ih0 _ _ _)
      | (with_reducible exact ih1 _ _ _ _)
      | (with_reducible exact LeO.refl _)
      | (with_reducible exact LeO.none _)
      | (with_reducible refine LeO.ite ?_ ?_)
      | (with_reducible refine LeO.bind ?_ (fun _ => ?_))
      | exact ih0 _ _ _
      | exact ih1 _ _ _ _
      | exact LeO.none _
      | refine LeO.ite ?_ ?_
      | refine LeO.bind ?_ (fun _ => ?_)
    · intro y0 y1 y2 y3
      unfold laws_samePicks7.j1
      repeat' first
      | (with_reducible exact ih0 _ _ _)
      | (with_reducible exact ih1 _ _ _ _)
      | (with_reducible exact LeO.refl _)
      | (with_reducible exact LeO.none _)
      | (with_reducible refine LeO.ite ?_ ?_)
      | (with_reducible refine LeO.bind ?_ (fun _ => ?_))
      | exact ih0 _ _ _
      | exact ih1 _ _ _ _
      | exact LeO.none _
      | refine LeO.ite ?_ ?_
      | refine LeO.bind ?_ (fun _ => ?_)
theorem laws_samePicks7.mono : ∀ a0 a1 k, LeO (laws_samePicks7.f k a0 a1) (laws_samePicks7.f (k + 1) a0 a1) := by
  intro a0 a1 k
  obtain ⟨ih0, ih1⟩ := laws_samePicks7.mono_l k
  unfold laws_samePicks7.f
  repeat' first
      | (with_reducible exact ih0 _ _ _)
      | (with_reducible exact ih1 _ _ _ _)
      | (with_reducible exact LeO.refl _)
      | (with_reducible exact LeO.none _)
      | (with_reducible refine LeO.ite ?_ ?_)
      | (with_reducible refine LeO.bind ?_ (fun _ => ?_))
      | exact ih0 _ _ _
      | exact ih1 _ _ _ _
      | exact LeO.none _
      | refine LeO.ite ?_ ?_
      | refine LeO.bind ?_ (fun _ => ?_)
set_option maxHeartbeats 8000000 in
set_option maxRecDepth 100000 in
theorem laws_samePicks7.calls (k : Nat) (A0 : Option Addr) (c0 : Nat) (l0 : List (S55)) (A1 : Option Addr) (c1 : Nat) (l1 : List (S55)) (r : Bool) (w : World) (hr0 : Kd.C k55 w A0 l0.length l0) (hc0 : l0.length ≤ c0) (hr1 : Kd.C k55 w A1 l1.length l1) (hc1 : l1.length ≤ c1) (h : laws_samePicks7.f k l0 l1 = some r) :
    Calls Tryd.prog 37 #[.slice A0 l0.length c0, .slice A1 l1.length c1] w fun e w' => e = .returned (.bool r) ∧ Drawn0 w w' := by
  have hu55 := Tryd.underlying55
  have HR0 := Aside0.mk hr0
  have HC0 := Aside0.mk hc0
  clear hr0 hc0
  have HR1 := Aside0.mk hr1
  have HC1 := Aside0.mk hc1
  clear hr1 hc1
  have H : (laws_samePicks7.l0 k l0 l1 0) = some r := h
  clear h
  have H' := Aside0.mk H
  clear H
  go_enter Tryd.func37, Tryd.ntmps37
  go_wp2
  repeat (go_quiet (fail); try go_wp2)
  go_loopg [5] k (fun kq v5 w' => ∃ (x5_1 : Int), v5 = .int .i64 x5_1 ∧ Aside0 (laws_samePicks7.l0 kq l0 l1 x5_1 = some r) ∧ Aside0 (kq ≤ k) ∧ Drawn0 w w')
  case atStart => exact ⟨(0), (by first | rfl | (simp; done) | (simp [*]; done)), H', ⟨Nat.le_refl _⟩, by repeat (first | exact Drawn0.refl _ | apply Drawn0.step)⟩
  case round =>
    clear H'
    try clear c1
    try clear p2
    obtain ⟨x5_1, rfl, HA, HK1, ⟨m1, rfl⟩⟩ := hrel
    cases gk with
    | zero => exact absurd HA.out (by simp [laws_samePicks7.l0])
    | succ k1 =>
      have H := HA.out
      clear HA
      simp only [laws_samePicks7.l0] at H
      have HC3 := Aside0.mk H
      clear H
      go_upto_region 2 with (fail)
      repeat (go_quiet (fail); go_upto_region 2 with (fail))
      go_cut [15] (fun v15 wc => ∃ (kq : Nat) (x15_2 : Bool), v15 = .bool x15_2 ∧ Aside0 (laws_samePicks7.j1 kq l0 l1 x5_1 x15_2 = some r) ∧ Aside0 (kq ≤ k1) ∧ Drawn0 w wc)
      case first =>
        have H := HC3.out
        clear HC3
        by_cases c4 : x5_1 < (l0.length : Int)
        · rw [if_pos c4] at H
          have c4b0 : decide (x5_1 < (l0.length : Int)) = true := decide_eq_true c4
          clear c4
          (first | rw [c4b0] | (simp only [i64_w, i32_w]; rw [c4b0]) | skip)
          have H' := Aside0.mk H
          clear H
          go_wp2
          repeat (go_quiet (fail); try go_wp2)
          go_meet
          case rel => exact ⟨_, (decide (x5_1 < (l1.length : Int))), (by first | rfl | (simp; done) | (simp [*]; done)), H', ⟨by have := HK1.out; first | omega | exact Nat.le_refl _⟩, by repeat (first | exact Drawn0.refl _ | apply Drawn0.step)⟩
        · rw [if_neg c4] at H
          have c4b0 : decide (x5_1 < (l0.length : Int)) = false := decide_eq_false c4
          clear c4
          (first | rw [c4b0] | (simp only [i64_w, i32_w]; rw [c4b0]) | skip)
          have H' := Aside0.mk H
          clear H
          go_wp2
          repeat (go_quiet (fail); try go_wp2)
          go_meet
          case rel => exact ⟨_, (false), (by first | rfl | (simp; done) | (simp [*]; done)), H', ⟨by have := HK1.out; first | omega | exact Nat.le_refl _⟩, by repeat (first | exact Drawn0.refl _ | apply Drawn0.step)⟩
      case rest =>
        clear HC3
        try clear c1
        try clear p2
        try clear c3
        try clear c4
        try clear c4b0
        try clear p2
        obtain ⟨kq, x15_2, rfl, HA, HJ2, ⟨mc2, rfl⟩⟩ := hcut
        cases kq with
        | zero => exact absurd HA.out (by simp [laws_samePicks7.j1])
        | succ kj2 =>
          have H := HA.out
          clear HA
          simp only [laws_samePicks7.j1] at H
          by_cases c5 : x15_2 = true
          · subst c5
            have H1 : (if 0 ≤ x5_1 then (if x5_1 < (l0.length : Int) then (if x5_1 < (l1.length : Int) then (if (!((((rd_T55 l0 x5_1).f0).toList) == (((rd_T55 l1 x5_1).f0).toList)) || (!((((rd_T55 l0 x5_1).f1).toList) == (((rd_T55 l1 x5_1).f1).toList)))) = true then (some false) else (laws_samePicks7.l0 kj2 l0 l1 (wrap64 (x5_1 + 1)))) else (none)) else (none)) else (none)) = some r := by rw [if_pos rfl] at H; exact H
            clear H
            have H := H1
            clear H1
            by_cases c6 : 0 ≤ x5_1
            · rw [if_pos c6] at H
              have c6b0 : decide (0 ≤ x5_1) = true := decide_eq_true c6
              clear c6
              by_cases c7 : x5_1 < (l0.length : Int)
              · rw [if_pos c7] at H
                have c7b0 : decide (x5_1 < (l0.length : Int)) = true := decide_eq_true c7
                clear c7
                by_cases c8 : x5_1 < (l1.length : Int)
                · rw [if_pos c8] at H
                  have c8b0 : decide (x5_1 < (l1.length : Int)) = true := decide_eq_true c8
                  clear c8
                  by_cases c9 : (!((((rd_T55 l0 x5_1).f0).toList) == (((rd_T55 l1 x5_1).f0).toList)) || (!((((rd_T55 l0 x5_1).f1).toList) == (((rd_T55 l1 x5_1).f1).toList)))) = true
                  · rw [if_pos c9] at H
                    have c9b0 : (!((((rd_T55 l0 x5_1).f0).toList) == (((rd_T55 l1 x5_1).f0).toList)) || (!((((rd_T55 l0 x5_1).f1).toList) == (((rd_T55 l1 x5_1).f1).toList)))) = true := c9
                    clear c9
                    obtain rfl := Option.some.inj H
                    have p134 : 0 ≤ (x5_1 : Int) := of_decide_eq_true (by first | (with_reducible assumption) | assumption)
                    have q134 : x5_1 < (l0.length : Int) := of_decide_eq_true (by first | (with_reducible assumption) | assumption)
                    obtain ⟨ad134, e134, hx134_0, hx134_1⟩ := at_T55 HR0.out x5_1 p134 q134
                    cases e134
                    replace p134 := eq_true p134
                    replace q134 := eq_true q134
                    have p135 : 0 ≤ (x5_1 : Int) := of_decide_eq_true (by first | (with_reducible assumption) | assumption)
                    have q135 : x5_1 < (l1.length : Int) := of_decide_eq_true (by first | (with_reducible assumption) | assumption)
                    obtain ⟨ad135, e135, hx135_0, hx135_1⟩ := at_T55 HR1.out x5_1 p135 q135
                    cases e135
                    replace p135 := eq_true p135
                    replace q135 := eq_true q135
                    go_wp2
                    repeat (go_quiet (fail); try go_wp2)
                    go_ret
                    exact ⟨by first | rfl | (simp; done) | (simp [*]; done), by repeat (first | exact Drawn0.refl _ | apply Drawn0.step)⟩
                  · rw [if_neg c9] at H
                    have c9b0 : (!((((rd_T55 l0 x5_1).f0).toList) == (((rd_T55 l1 x5_1).f0).toList)) || (!((((rd_T55 l0 x5_1).f1).toList) == (((rd_T55 l1 x5_1).f1).toList)))) = false := by simpa using c9
                    clear c9
                    have H' := Aside0.mk H
                    clear H
                    have p134 : 0 ≤ (x5_1 : Int) := of_decide_eq_true (by first | (with_reducible assumption) | assumption)
                    have q134 : x5_1 < (l0.length : Int) := of_decide_eq_true (by first | (with_reducible assumption) | assumption)
                    obtain ⟨ad134, e134, hx134_0, hx134_1⟩ := at_T55 HR0.out x5_1 p134 q134
                    cases e134
                    replace p134 := eq_true p134
                    replace q134 := eq_true q134
                    have p135 : 0 ≤ (x5_1 : Int) := of_decide_eq_true (by first | (with_reducible assumption) | assumption)
                    have q135 : x5_1 < (l1.length : Int) := of_decide_eq_true (by first | (with_reducible assumption) | assumption)
                    obtain ⟨ad135, e135, hx135_0, hx135_1⟩ := at_T55 HR1.out x5_1 p135 q135
                    cases e135
                    replace p135 := eq_true p135
                    replace q135 := eq_true q135
                    go_wp2
                    repeat (go_quiet (fail); try go_wp2)
                    go_roundg kj2
                    case measure => have := HK1.out; have := HJ2.out; omega
                    case rel => exact ⟨(wrap64 (x5_1 + 1)), (by first | rfl | (simp; done) | (simp [*]; done)), H', ⟨by have := HK1.out; have := HJ2.out; omega⟩, by repeat (first | exact Drawn0.refl _ | apply Drawn0.step)⟩
                · rw [if_neg c8] at H
                  exact absurd H (by simp)
              · rw [if_neg c7] at H
                exact absurd H (by simp)
            · rw [if_neg c6] at H
              exact absurd H (by simp)
          · replace c5 := Bool.eq_false_iff.mpr c5
            subst c5
            have H1 : (some ((l0.length : Int) == (l1.length : Int))) = some r := by rw [if_neg (show ¬ (false = true) by decide)] at H; exact H
            clear H
            have H := H1
            clear H1
            obtain rfl := Option.some.inj H
            go_wp2
            repeat (go_quiet (fail); try go_wp2)
            go_ret
            exact ⟨by first | rfl | (simp; done) | (simp [*]; done), by repeat (first | exact Drawn0.refl _ | apply Drawn0.step)⟩
end Go.Proofs.YthbdaoapjnofkaaDoor.PFnFiltered
