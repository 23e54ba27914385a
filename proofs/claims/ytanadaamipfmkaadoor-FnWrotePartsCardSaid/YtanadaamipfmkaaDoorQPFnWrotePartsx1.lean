/- Printed by a program of this seat (xprint) out of the translation: Go functions as plain functions, and the walks that show them; no condition. -/
import Derived.Test.YtanadaamipfmkaaDoorQPFnWrotePartsx0
import Derived.Test.YtanadaamipfmkaaDoorQHUtf8
import Derived.Test.YtanadaamipfmkaaDoorQHWrFnWroteParts
namespace Go.Proofs.YtanadaamipfmkaaDoor.PFnWroteParts
open Go.RowKit Go.Proofs.YtanadaamipfmkaaDoor.H Go.Proofs.YtanadaamipfmkaaDoor.R Go.Proofs.YtanadaamipfmkaaDoorW.PrintWords Go.Proofs.YtanadaamipfmkaaDoorW.PrintLast Go.Proofs.YtanadaamipfmkaaDoorW.PrintMore
attribute [local go_sem] max2_int min2_int max_two min_two max_three min_three max_four min_four   -- for this text's walks alone
set_option linter.unusedVariables false
set_option linter.unusedSimpArgs false
/-! ### laws_zzFits10: function 41 -/
def laws_zzFits10.f (a0_0 : Int) (a0_1 : Int) (a0_2 : Int) (a0_3 : ByteArray) : Option (Bool) := if (a0_3.size : Int) > 2147483647 then (some false) else (some true)
set_option maxHeartbeats 8000000 in
set_option maxRecDepth 100000 in
theorem laws_zzFits10.calls (a0_0 : Int) (a0_1 : Int) (a0_2 : Int) (a0_3 : ByteArray) (r : Bool) (w : World) (h : laws_zzFits10.f a0_0 a0_1 a0_2 a0_3 = some r) :
    Calls Tryd.prog 41 #[.agg #[.int .i64 a0_0, .int .i64 a0_1, .int .i64 a0_2, .string a0_3]] w fun e w' => e = .returned (.bool r) ∧ Below w.heap.size w w' := by
  have hu38 := Tryd.underlying38
  have HB := Aside0.mk (Below.refl w.heap.size w)
  have H : (if (a0_3.size : Int) > 2147483647 then (some false) else (some true)) = some r := h
  clear h
  by_cases c2 : (a0_3.size : Int) > 2147483647
  · rw [if_pos c2] at H
    have c2b0 : decide (2147483647 < (a0_3.size : Int)) = true := decide_eq_true c2
    have c2b1 : decide (2147483647 < a0_3.size) = true := decide_eq_true (by omega)
    clear c2
    obtain rfl := Option.some.inj H
    go_enter Tryd.func41, Tryd.ntmps41
    go_wp2_with (first | ((with_reducible refine gate_dst (N := 1) rfl ?_); refine box_event ?hg (N := 1) ?hd (cs := #[.int .i64 a0_0, .int .i64 a0_1, .int .i64 a0_2, .string a0_3]) (t := 38) ?hr ?_; (case hd => rfl); (case hg => rfl); (case hr => first | (go_simp; done) | (go_simp; rfl)); intro gb101 hg w3 hbox hb; have n0_ := Aside0.mk (below_step (by repeat (first | (with_reducible first | exact HB.out | apply below_alloc | apply pw_below_drewN | apply below_drew1) | exact HB.out)) hb); have n1_ := Aside0.mk (hbox); have n2_ := Aside0.mk ((by rw [hg]; exact (below_size (by repeat (first | (with_reducible first | exact HB.out | apply below_alloc | apply pw_below_drewN | apply below_drew1) | exact HB.out))) : w.heap.size ≤ gb101)); have n3_ := Aside0.mk ((by rw [hg]; exact (below_size (by repeat (first | (with_reducible first | exact HB.out | apply below_alloc | apply pw_below_drewN | apply below_drew1) | exact HB.out))) : w.heap.size ≤ gb101)); clear HB; have HB := n0_; have BK101 := n1_; have GW101 := n2_; have GE101 := n3_; clear n0_ n1_ n2_ n3_; clear hb hbox hg; have hcz4_0 : w3.cell? ⟨gb101, 0, none⟩ = some (.int .i64 a0_0) := (blk_cell BK101.out 0).trans rfl; have hcz4_1 : w3.cell? ⟨gb101, 1, none⟩ = some (.int .i64 a0_1) := (blk_cell BK101.out 1).trans rfl; have hcz4_2 : w3.cell? ⟨gb101, 2, none⟩ = some (.int .i64 a0_2) := (blk_cell BK101.out 2).trans rfl; have hcz4_3 : w3.cell? ⟨gb101, 3, none⟩ = some (.string a0_3) := (blk_cell BK101.out 3).trans rfl; have hfz4_0 := blk_frozen BK101.out 0; have hfz4_1 := blk_frozen BK101.out 1; have hfz4_2 := blk_frozen BK101.out 2; have hfz4_3 := blk_frozen BK101.out 3))
    go_ret
    exact ⟨by first | rfl | (simp [errW_none, errW_some] <;> rfl) | (simp [*, errW_none, errW_some] <;> rfl), by repeat (first | (with_reducible first | exact HB.out | apply below_alloc | apply pw_below_drewN | apply below_drew1 | refine below_set ?_ GE101.out) | exact HB.out)⟩
  · rw [if_neg c2] at H
    have c2b0 : decide (2147483647 < (a0_3.size : Int)) = false := decide_eq_false c2
    have c2b1 : decide (2147483647 < a0_3.size) = false := decide_eq_false (by omega)
    clear c2
    obtain rfl := Option.some.inj H
    go_enter Tryd.func41, Tryd.ntmps41
    go_wp2_with (first | ((with_reducible refine gate_dst (N := 1) rfl ?_); refine box_event ?hg (N := 1) ?hd (cs := #[.int .i64 a0_0, .int .i64 a0_1, .int .i64 a0_2, .string a0_3]) (t := 38) ?hr ?_; (case hd => rfl); (case hg => rfl); (case hr => first | (go_simp; done) | (go_simp; rfl)); intro gb101 hg w5 hbox hb; have n0_ := Aside0.mk (below_step (by repeat (first | (with_reducible first | exact HB.out | apply below_alloc | apply pw_below_drewN | apply below_drew1) | exact HB.out)) hb); have n1_ := Aside0.mk (hbox); have n2_ := Aside0.mk ((by rw [hg]; exact (below_size (by repeat (first | (with_reducible first | exact HB.out | apply below_alloc | apply pw_below_drewN | apply below_drew1) | exact HB.out))) : w.heap.size ≤ gb101)); have n3_ := Aside0.mk ((by rw [hg]; exact (below_size (by repeat (first | (with_reducible first | exact HB.out | apply below_alloc | apply pw_below_drewN | apply below_drew1) | exact HB.out))) : w.heap.size ≤ gb101)); clear HB; have HB := n0_; have BK101 := n1_; have GW101 := n2_; have GE101 := n3_; clear n0_ n1_ n2_ n3_; clear hb hbox hg; have hcz6_0 : w5.cell? ⟨gb101, 0, none⟩ = some (.int .i64 a0_0) := (blk_cell BK101.out 0).trans rfl; have hcz6_1 : w5.cell? ⟨gb101, 1, none⟩ = some (.int .i64 a0_1) := (blk_cell BK101.out 1).trans rfl; have hcz6_2 : w5.cell? ⟨gb101, 2, none⟩ = some (.int .i64 a0_2) := (blk_cell BK101.out 2).trans rfl; have hcz6_3 : w5.cell? ⟨gb101, 3, none⟩ = some (.string a0_3) := (blk_cell BK101.out 3).trans rfl; have hfz6_0 := blk_frozen BK101.out 0; have hfz6_1 := blk_frozen BK101.out 1; have hfz6_2 := blk_frozen BK101.out 2; have hfz6_3 := blk_frozen BK101.out 3))
    go_ret
    exact ⟨by first | rfl | (simp [errW_none, errW_some] <;> rfl) | (simp [*, errW_none, errW_some] <;> rfl), by repeat (first | (with_reducible first | exact HB.out | apply below_alloc | apply pw_below_drewN | apply below_drew1 | refine below_set ?_ GE101.out) | exact HB.out)⟩
/-! ### laws_zzFits9: function 18 -/
def laws_zzFits9.l0 : Nat → List (S38) → Int → Int → Option (Bool)
  | 0, _, _, _ => none
  | k + 1, x8, x9, x10 => if x10 < x9 then (if 0 ≤ x10 then (if x10 < (x8.length : Int) then ((laws_zzFits10.f ((rd_T38 x8 x10).f0) ((rd_T38 x8 x10).f1) ((rd_T38 x8 x10).f2) ((rd_T38 x8 x10).f3)).bind fun t104 => (if t104 = true then (laws_zzFits9.l0 k x8 x9 (wrap64 (x10 + 1))) else (some false))) else (none)) else (none)) else (some true)
def laws_zzFits9.f (k : Nat) (l0 : List (S38)) : Option (Bool) := if (l0.length : Int) > 2147483647 then (some false) else (laws_zzFits9.l0 k l0 (l0.length : Int) 0)
theorem laws_zzFits9.mono_l : ∀ k, (∀ y0 y1 y2, LeO (laws_zzFits9.l0 k y0 y1 y2) (laws_zzFits9.l0 (k + 1) y0 y1 y2))
  | 0 => fun _ _ _ r h => by simp [laws_zzFits9.l0] at h
  | k + 1 => by
    have ih0 := laws_zzFits9.mono_l k
    · intro y0 y1 y2
      unfold laws_zzFits9.l0
      repeat' first
      | (with_reducible exact ih0 _ _ _)
      | (with_reducible exact LeO.refl _)
      | (with_reducible exact LeO.none _)
      | (with_reducible refine LeO.ite ?_ ?_)
      | (with_reducible refine LeO.bind ?_ (fun _ => ?_))
      | exact ih0 _ _ _
      | exact LeO.none _
      | refine LeO.ite ?_ ?_
      | refine LeO.bind ?_ (fun _ => ?_)
theorem laws_zzFits9.mono : ∀ a0 k, LeO (laws_zzFits9.f k a0) (laws_zzFits9.f (k + 1) a0) := by
  intro a0 k
  have ih0 := laws_zzFits9.mono_l k
  unfold laws_zzFits9.f
  repeat' first
      | (with_reducible exact ih0 _ _ _)
      | (with_reducible exact LeO.refl _)
      | (with_reducible exact LeO.none _)
      | (with_reducible refine LeO.ite ?_ ?_)
      | (with_reducible refine LeO.bind ?_ (fun _ => ?_))
      | exact ih0 _ _ _
      | exact LeO.none _
      | refine LeO.ite ?_ ?_
      | refine LeO.bind ?_ (fun _ => ?_)
set_option maxHeartbeats 8000000 in
set_option maxRecDepth 100000 in
theorem laws_zzFits9.calls (k : Nat) (A0 : Option Addr) (c0 : Nat) (l0 : List (S38)) (r : Bool) (w : World) (hr0 : Kd.C k38 w A0 l0.length l0) (hc0 : l0.length ≤ c0) (h : laws_zzFits9.f k l0 = some r) :
    Calls Tryd.prog 18 #[.slice A0 l0.length c0] w fun e w' => e = .returned (.bool r) ∧ Below w.heap.size w w' := by
  have hu38 := Tryd.underlying38
  have HR0 := Aside0.mk hr0
  have HC0 := Aside0.mk hc0
  clear hr0 hc0
  have HB := Aside0.mk (Below.refl w.heap.size w)
  have H : (if (l0.length : Int) > 2147483647 then (some false) else (laws_zzFits9.l0 k l0 (l0.length : Int) 0)) = some r := h
  clear h
  by_cases c2 : (l0.length : Int) > 2147483647
  · rw [if_pos c2] at H
    have c2b0 : decide (2147483647 < (l0.length : Int)) = true := decide_eq_true c2
    have c2b1 : decide (2147483647 < l0.length) = true := decide_eq_true (by omega)
    clear c2
    obtain rfl := Option.some.inj H
    go_enter Tryd.func18, Tryd.ntmps18
    go_wp2
    go_ret
    exact ⟨by first | rfl | (simp [errW_none, errW_some] <;> rfl) | (simp [*, errW_none, errW_some] <;> rfl), by repeat (first | (with_reducible first | exact HB.out | apply below_alloc | apply pw_below_drewN | apply below_drew1) | exact HB.out)⟩
  · rw [if_neg c2] at H
    have c2b0 : decide (2147483647 < (l0.length : Int)) = false := decide_eq_false c2
    have c2b1 : decide (2147483647 < l0.length) = false := decide_eq_false (by omega)
    clear c2
    have H' := Aside0.mk H
    clear H
    go_enter Tryd.func18, Tryd.ntmps18
    go_wp2
    go_loopg [10] k (fun kq v10 w' => ∃ (x10_1 : Int), v10 = .int .i64 x10_1 ∧ Aside0 (laws_zzFits9.l0 kq l0 (l0.length : Int) x10_1 = some r) ∧ Aside0 (kq ≤ k) ∧ Aside0 (Below w.heap.size w w'))
    case atStart => exact ⟨(0), (by first | rfl | (simp; done) | (simp [*]; done)), H', ⟨Nat.le_refl _⟩, ⟨by repeat (first | (with_reducible first | exact HB.out | apply below_alloc | apply pw_below_drewN | apply below_drew1) | exact HB.out)⟩⟩
    case round =>
      clear H'
      try clear c1
      try clear c2
      try clear c2b0
      try clear c2b1
      try clear p2
      obtain ⟨x10_1, rfl, HA, HK1, HB⟩ := hrel
      cases gk with
      | zero => exact absurd HA.out (by simp [laws_zzFits9.l0])
      | succ k1 =>
        have H := HA.out
        clear HA
        simp only [laws_zzFits9.l0] at H
        by_cases c3 : x10_1 < (l0.length : Int)
        · rw [if_pos c3] at H
          have c3b0 : decide (x10_1 < (l0.length : Int)) = true := decide_eq_true c3
          clear c3
          by_cases c4 : 0 ≤ x10_1
          · rw [if_pos c4] at H
            have c4b0 : decide (0 ≤ x10_1) = true := decide_eq_true c4
            clear c4
            by_cases c5 : x10_1 < (l0.length : Int)
            · rw [if_pos c5] at H
              have c5b0 : decide (x10_1 < (l0.length : Int)) = true := decide_eq_true c5
              clear c5
              replace H := Option.bind_eq_some_iff.mp H
              obtain ⟨t104, A60, H⟩ := H
              replace H : (if t104 = true then (laws_zzFits9.l0 k1 l0 (l0.length : Int) (wrap64 (x10_1 + 1))) else (some false)) = some r := H
              have A6 := Aside0.mk A60
              clear A60
              by_cases c7 : t104 = true
              · subst c7
                have H1 : (laws_zzFits9.l0 k1 l0 (l0.length : Int) (wrap64 (x10_1 + 1))) = some r := by rw [if_pos rfl] at H; exact H
                clear H
                have H := H1
                clear H1
                have H' := Aside0.mk H
                clear H
                have p102 : 0 ≤ (x10_1 : Int) := of_decide_eq_true (by first | (with_reducible assumption) | assumption)
                have q102 : x10_1 < (l0.length : Int) := of_decide_eq_true (by first | (with_reducible assumption) | assumption)
                obtain ⟨ad102, e102, hx102_0, hx102_1, hx102_2, hx102_3⟩ := at_T38 HR0.out x10_1 p102 q102
                cases e102
                replace hx102_0 := (HB.out.cell (World.block_lt_of_cell? w _ hx102_0)).trans hx102_0
                replace hx102_1 := (HB.out.cell (World.block_lt_of_cell? w _ hx102_1)).trans hx102_1
                replace hx102_2 := (HB.out.cell (World.block_lt_of_cell? w _ hx102_2)).trans hx102_2
                replace hx102_3 := (HB.out.cell (World.block_lt_of_cell? w _ hx102_3)).trans hx102_3
                replace p102 := eq_true p102
                replace q102 := eq_true q102
                go_wp2_with (first | ((with_reducible refine gate_dst (N := 4) rfl ?_); refine box_event ?hg (N := 4) ?hd (cs := #[.int .i64 0, .int .i64 0, .int .i64 0, .string (⟨#[]⟩ : ByteArray)]) (t := 38) ?hr ?_; (case hd => rfl); (case hg => rfl); (case hr => first | (go_simp; done) | (go_simp; rfl)); intro gb103 hg w8 hbox hb; have n0_ := Aside0.mk (below_step (by repeat (first | (with_reducible first | exact HB.out | apply below_alloc | apply pw_below_drewN | apply below_drew1) | exact HB.out)) hb); have n1_ := Aside0.mk (hbox); have n2_ := Aside0.mk ((by rw [hg]; exact (below_size (by repeat (first | (with_reducible first | exact HB.out | apply below_alloc | apply pw_below_drewN | apply below_drew1) | exact HB.out))) : w.heap.size ≤ gb103)); have n3_ := Aside0.mk ((by rw [hg]; exact (below_size (by repeat (first | (with_reducible first | exact HB.out | apply below_alloc | apply pw_below_drewN | apply below_drew1) | exact HB.out))) : w.heap.size ≤ gb103)); clear HB; have HB := n0_; have BK103 := n1_; have GW103 := n2_; have GE103 := n3_; clear n0_ n1_ n2_ n3_; clear hb hbox hg; have hcz9_0 : w8.cell? ⟨gb103, 0, none⟩ = some (.int .i64 0) := (blk_cell BK103.out 0).trans rfl; have hcz9_1 : w8.cell? ⟨gb103, 1, none⟩ = some (.int .i64 0) := (blk_cell BK103.out 1).trans rfl; have hcz9_2 : w8.cell? ⟨gb103, 2, none⟩ = some (.int .i64 0) := (blk_cell BK103.out 2).trans rfl; have hcz9_3 : w8.cell? ⟨gb103, 3, none⟩ = some (.string (⟨#[]⟩ : ByteArray)) := (blk_cell BK103.out 3).trans rfl; have hfz9_0 := blk_frozen BK103.out 0; have hfz9_1 := blk_frozen BK103.out 1; have hfz9_2 := blk_frozen BK103.out 2; have hfz9_3 := blk_frozen BK103.out 3) | ((with_reducible refine gate_callee (f := 41) rfl ?_); refine goesL_ (some 15) rfl rfl Tryd.func41 (by kernel_rfl) rfl #[.agg #[.int .i64 ((rd_T38 l0 x10_1).f0), .int .i64 ((rd_T38 l0 x10_1).f1), .int .i64 ((rd_T38 l0 x10_1).f2), .string ((rd_T38 l0 x10_1).f3)]] rfl (by (try simp only [List.map_toArray, List.map_cons, List.map_nil]); first | done | rfl | (simp only [List.length_drop, List.length_take]; rfl) | (simp only [Int.toNat_natCast, ByteArray.extract_zero_size]; rfl)) ?_; (with_reducible refine (laws_zzFits10.calls ((rd_T38 l0 x10_1).f0) ((rd_T38 l0 x10_1).f1) ((rd_T38 l0 x10_1).f2) ((rd_T38 l0 x10_1).f3) true _ A6.out).mono ?_); rintro e w10 ⟨rfl, hb⟩; refine ⟨_, rfl, ?_⟩; have n0_ := Aside0.mk (blk_below (g := gb103) (o := .cells #[.int .i64 ((rd_T38 l0 x10_1).f0), .int .i64 ((rd_T38 l0 x10_1).f1), .int .i64 ((rd_T38 l0 x10_1).f2), .string ((rd_T38 l0 x10_1).f3)] 38 (0, 0)) (by (with_reducible repeat (first | refine blk_drewN ?_ _ | refine blk_drew ?_ | refine blk_alloc ?_ _)); refine blk_put (cs := #[.int .i64 ((rd_T38 l0 x10_1).f0), .int .i64 ((rd_T38 l0 x10_1).f1), .int .i64 ((rd_T38 l0 x10_1).f2), .string (⟨#[]⟩ : ByteArray)]) ?_ 3 _ rfl; (with_reducible repeat (first | refine blk_drewN ?_ _ | refine blk_drew ?_ | refine blk_alloc ?_ _)); refine blk_put (cs := #[.int .i64 ((rd_T38 l0 x10_1).f0), .int .i64 ((rd_T38 l0 x10_1).f1), .int .i64 0, .string (⟨#[]⟩ : ByteArray)]) ?_ 2 _ rfl; (with_reducible repeat (first | refine blk_drewN ?_ _ | refine blk_drew ?_ | refine blk_alloc ?_ _)); refine blk_put (cs := #[.int .i64 ((rd_T38 l0 x10_1).f0), .int .i64 0, .int .i64 0, .string (⟨#[]⟩ : ByteArray)]) ?_ 1 _ rfl; (with_reducible repeat (first | refine blk_drewN ?_ _ | refine blk_drew ?_ | refine blk_alloc ?_ _)); refine blk_put (cs := #[.int .i64 0, .int .i64 0, .int .i64 0, .string (⟨#[]⟩ : ByteArray)]) ?_ 0 _ rfl; (with_reducible repeat (first | refine blk_drewN ?_ _ | refine blk_drew ?_ | refine blk_alloc ?_ _)); exact BK103.out) hb); have n1_ := Aside0.mk (below_step (by repeat (first | (with_reducible first | exact HB.out | apply below_alloc | apply pw_below_drewN | apply below_drew1 | refine below_set ?_ GE103.out) | exact HB.out)) hb); clear BK103; clear HB; have BK103 := n0_; have HB := n1_; clear n0_ n1_; (try clear hb); (try clear hb2); (try clear hk); (try clear hi)))
                go_roundg k1
                case measure => have := HK1.out; omega
                case rel => exact ⟨(wrap64 (x10_1 + 1)), (by first | rfl | (simp; done) | (simp [*]; done)), H', ⟨by have := HK1.out; omega⟩, ⟨by repeat (first | (with_reducible first | exact HB.out | apply below_alloc | apply pw_below_drewN | apply below_drew1 | refine below_set ?_ GE103.out) | exact HB.out)⟩⟩
              · replace c7 := Bool.eq_false_iff.mpr c7
                subst c7
                have H1 : (some false) = some r := by rw [if_neg (show ¬ (false = true) by decide)] at H; exact H
                clear H
                have H := H1
                clear H1
                obtain rfl := Option.some.inj H
                have p102 : 0 ≤ (x10_1 : Int) := of_decide_eq_true (by first | (with_reducible assumption) | assumption)
                have q102 : x10_1 < (l0.length : Int) := of_decide_eq_true (by first | (with_reducible assumption) | assumption)
                obtain ⟨ad102, e102, hx102_0, hx102_1, hx102_2, hx102_3⟩ := at_T38 HR0.out x10_1 p102 q102
                cases e102
                replace hx102_0 := (HB.out.cell (World.block_lt_of_cell? w _ hx102_0)).trans hx102_0
                replace hx102_1 := (HB.out.cell (World.block_lt_of_cell? w _ hx102_1)).trans hx102_1
                replace hx102_2 := (HB.out.cell (World.block_lt_of_cell? w _ hx102_2)).trans hx102_2
                replace hx102_3 := (HB.out.cell (World.block_lt_of_cell? w _ hx102_3)).trans hx102_3
                replace p102 := eq_true p102
                replace q102 := eq_true q102
                go_wp2_with (first | ((with_reducible refine gate_dst (N := 4) rfl ?_); refine box_event ?hg (N := 4) ?hd (cs := #[.int .i64 0, .int .i64 0, .int .i64 0, .string (⟨#[]⟩ : ByteArray)]) (t := 38) ?hr ?_; (case hd => rfl); (case hg => rfl); (case hr => first | (go_simp; done) | (go_simp; rfl)); intro gb103 hg w11 hbox hb; have n0_ := Aside0.mk (below_step (by repeat (first | (with_reducible first | exact HB.out | apply below_alloc | apply pw_below_drewN | apply below_drew1) | exact HB.out)) hb); have n1_ := Aside0.mk (hbox); have n2_ := Aside0.mk ((by rw [hg]; exact (below_size (by repeat (first | (with_reducible first | exact HB.out | apply below_alloc | apply pw_below_drewN | apply below_drew1) | exact HB.out))) : w.heap.size ≤ gb103)); have n3_ := Aside0.mk ((by rw [hg]; exact (below_size (by repeat (first | (with_reducible first | exact HB.out | apply below_alloc | apply pw_below_drewN | apply below_drew1) | exact HB.out))) : w.heap.size ≤ gb103)); clear HB; have HB := n0_; have BK103 := n1_; have GW103 := n2_; have GE103 := n3_; clear n0_ n1_ n2_ n3_; clear hb hbox hg; have hcz12_0 : w11.cell? ⟨gb103, 0, none⟩ = some (.int .i64 0) := (blk_cell BK103.out 0).trans rfl; have hcz12_1 : w11.cell? ⟨gb103, 1, none⟩ = some (.int .i64 0) := (blk_cell BK103.out 1).trans rfl; have hcz12_2 : w11.cell? ⟨gb103, 2, none⟩ = some (.int .i64 0) := (blk_cell BK103.out 2).trans rfl; have hcz12_3 : w11.cell? ⟨gb103, 3, none⟩ = some (.string (⟨#[]⟩ : ByteArray)) := (blk_cell BK103.out 3).trans rfl; have hfz12_0 := blk_frozen BK103.out 0; have hfz12_1 := blk_frozen BK103.out 1; have hfz12_2 := blk_frozen BK103.out 2; have hfz12_3 := blk_frozen BK103.out 3) | ((with_reducible refine gate_callee (f := 41) rfl ?_); refine goesL_ (some 15) rfl rfl Tryd.func41 (by kernel_rfl) rfl #[.agg #[.int .i64 ((rd_T38 l0 x10_1).f0), .int .i64 ((rd_T38 l0 x10_1).f1), .int .i64 ((rd_T38 l0 x10_1).f2), .string ((rd_T38 l0 x10_1).f3)]] rfl (by (try simp only [List.map_toArray, List.map_cons, List.map_nil]); first | done | rfl | (simp only [List.length_drop, List.length_take]; rfl) | (simp only [Int.toNat_natCast, ByteArray.extract_zero_size]; rfl)) ?_; (with_reducible refine (laws_zzFits10.calls ((rd_T38 l0 x10_1).f0) ((rd_T38 l0 x10_1).f1) ((rd_T38 l0 x10_1).f2) ((rd_T38 l0 x10_1).f3) false _ A6.out).mono ?_); rintro e w13 ⟨rfl, hb⟩; refine ⟨_, rfl, ?_⟩; have n0_ := Aside0.mk (blk_below (g := gb103) (o := .cells #[.int .i64 ((rd_T38 l0 x10_1).f0), .int .i64 ((rd_T38 l0 x10_1).f1), .int .i64 ((rd_T38 l0 x10_1).f2), .string ((rd_T38 l0 x10_1).f3)] 38 (0, 0)) (by (with_reducible repeat (first | refine blk_drewN ?_ _ | refine blk_drew ?_ | refine blk_alloc ?_ _)); refine blk_put (cs := #[.int .i64 ((rd_T38 l0 x10_1).f0), .int .i64 ((rd_T38 l0 x10_1).f1), .int .i64 ((rd_T38 l0 x10_1).f2), .string (⟨#[]⟩ : ByteArray)]) ?_ 3 _ rfl; (with_reducible repeat (first | refine blk_drewN ?_ _ | refine blk_drew ?_ | refine blk_alloc ?_ _)); refine blk_put (cs := #[.int .i64 ((rd_T38 l0 x10_1).f0), .int .i64 ((rd_T38 l0 x10_1).f1), .int .i64 0, .string (⟨#[]⟩ : ByteArray)]) ?_ 2 _ rfl; (with_reducible repeat (first | refine blk_drewN ?_ _ | refine blk_drew ?_ | refine blk_alloc ?_ _)); refine blk_put (cs := #[.int .i64 ((rd_T38 l0 x10_1).f0), .int .i64 0, .int .i64 0, .string (⟨#[]⟩ : ByteArray)]) ?_ 1 _ rfl; (with_reducible repeat (first | refine blk_drewN ?_ _ | refine blk_drew ?_ | refine blk_alloc ?_ _)); refine blk_put (cs := #[.int .i64 0, .int .i64 0, .int .i64 0, .string (⟨#[]⟩ : ByteArray)]) ?_ 0 _ rfl; (with_reducible repeat (first | refine blk_drewN ?_ _ | refine blk_drew ?_ | refine blk_alloc ?_ _)); exact BK103.out) hb); have n1_ := Aside0.mk (below_step (by repeat (first | (with_reducible first | exact HB.out | apply below_alloc | apply pw_below_drewN | apply below_drew1 | refine below_set ?_ GE103.out) | exact HB.out)) hb); clear BK103; clear HB; have BK103 := n0_; have HB := n1_; clear n0_ n1_; (try clear hb); (try clear hb2); (try clear hk); (try clear hi)))
                go_ret
                exact ⟨by first | rfl | (simp [errW_none, errW_some] <;> rfl) | (simp [*, errW_none, errW_some] <;> rfl), by repeat (first | (with_reducible first | exact HB.out | apply below_alloc | apply pw_below_drewN | apply below_drew1 | refine below_set ?_ GE103.out) | exact HB.out)⟩
            · rw [if_neg c5] at H
              exact absurd H (by simp)
          · rw [if_neg c4] at H
            exact absurd H (by simp)
        · rw [if_neg c3] at H
          have c3b0 : decide (x10_1 < (l0.length : Int)) = false := decide_eq_false c3
          clear c3
          obtain rfl := Option.some.inj H
          go_wp2
          go_ret
          exact ⟨by first | rfl | (simp [errW_none, errW_some] <;> rfl) | (simp [*, errW_none, errW_some] <;> rfl), by repeat (first | (with_reducible first | exact HB.out | apply below_alloc | apply pw_below_drewN | apply below_drew1) | exact HB.out)⟩
/-! ### spec_hasByte: function 59 -/
def spec_hasByte.l0 : Nat → ByteArray → Int → Int → Option (Bool)
  | 0, _, _, _ => none
  | k + 1, x0, x1, x5 => if x5 < (x0.size : Int) then (if 0 ≤ x5 then (if (bt x0 x5) = x1 then (some true) else (spec_hasByte.l0 k x0 x1 (wrap64 (x5 + 1)))) else (none)) else (some false)
def spec_hasByte.f (k : Nat) (a0 : ByteArray) (a1 : Int) : Option (Bool) := spec_hasByte.l0 k a0 a1 0
theorem spec_hasByte.mono_l : ∀ k, (∀ y0 y1 y2, LeO (spec_hasByte.l0 k y0 y1 y2) (spec_hasByte.l0 (k + 1) y0 y1 y2))
  | 0 => fun _ _ _ r h => by simp [spec_hasByte.l0] at h
  | k + 1 => by
    have ih0 := spec_hasByte.mono_l k
    · intro y0 y1 y2
      unfold spec_hasByte.l0
      repeat' first
      | (with_reducible exact ih0 _ _ _)
      | (with_reducible exact LeO.refl _)
      | (with_reducible exact LeO.none _)
      | (with_reducible refine LeO.ite ?_ ?_)
      | (with_reducible refine LeO.bind ?_ (fun _ => ?_))
      | exact ih0 _ _ _
      | exact LeO.none _
      | refine LeO.ite ?_ ?_
      | refine LeO.bind ?_ (fun _ => ?_)
theorem spec_hasByte.mono : ∀ a0 a1 k, LeO (spec_hasByte.f k a0 a1) (spec_hasByte.f (k + 1) a0 a1) := by
  intro a0 a1 k
  have ih0 := spec_hasByte.mono_l k
  unfold spec_hasByte.f
  repeat' first
      | (with_reducible exact ih0 _ _ _)
      | (with_reducible exact LeO.refl _)
      | (with_reducible exact LeO.none _)
      | (with_reducible refine LeO.ite ?_ ?_)
      | (with_reducible refine LeO.bind ?_ (fun _ => ?_))
      | exact ih0 _ _ _
      | exact LeO.none _
      | refine LeO.ite ?_ ?_
      | refine LeO.bind ?_ (fun _ => ?_)
set_option maxHeartbeats 8000000 in
set_option maxRecDepth 100000 in
theorem spec_hasByte.calls (k : Nat) (a0 : ByteArray) (a1 : Int) (r : Bool) (w : World) (h : spec_hasByte.f k a0 a1 = some r) :
    Calls Tryd.prog 59 #[.string a0, .int .u8 a1] w fun e w' => e = .returned (.bool r) ∧ Drawn0 w w' := by
  have H : (spec_hasByte.l0 k a0 a1 0) = some r := h
  clear h
  have H' := Aside0.mk H
  clear H
  go_enter Tryd.func59, Tryd.ntmps59
  go_wp2
  go_loopg [5] k (fun kq v5 w' => ∃ (x5_1 : Int), v5 = .int .i64 x5_1 ∧ Aside0 (spec_hasByte.l0 kq a0 a1 x5_1 = some r) ∧ Aside0 (kq ≤ k) ∧ Drawn0 w w')
  case atStart => exact ⟨(0), (by first | rfl | (simp; done) | (simp [*]; done)), H', ⟨Nat.le_refl _⟩, by repeat (first | exact Drawn0.refl _ | apply Drawn0.step)⟩
  case round =>
    clear H'
    try clear p2
    obtain ⟨x5_1, rfl, HA, HK1, ⟨m1, rfl⟩⟩ := hrel
    cases gk with
    | zero => exact absurd HA.out (by simp [spec_hasByte.l0])
    | succ k1 =>
      have H := HA.out
      clear HA
      simp only [spec_hasByte.l0] at H
      by_cases c3 : x5_1 < (a0.size : Int)
      · rw [if_pos c3] at H
        have c3b0 : decide (x5_1 < (a0.size : Int)) = true := decide_eq_true c3
        clear c3
        by_cases c4 : 0 ≤ x5_1
        · rw [if_pos c4] at H
          have c4b0 : decide (0 ≤ x5_1) = true := decide_eq_true c4
          clear c4
          by_cases c6 : (bt a0 x5_1) = a1
          · rw [if_pos c6] at H
            have c6b0 : ((bt a0 x5_1) == a1) = true := beq_iff_eq.mpr c6
            have c6b1 : ((bt a0 x5_1) != a1) = false := bne_eq_false_iff_eq.mpr c6
            clear c6
            obtain rfl := Option.some.inj H
            have p5 : 0 ≤ (x5_1 : Int) := of_decide_eq_true (by first | (with_reducible assumption) | assumption)
            have q5 : x5_1 < (a0.size : Int) := of_decide_eq_true (by first | (with_reducible assumption) | assumption)
            have hx5 := bt_at a0 x5_1
            replace p5 := eq_true p5
            replace q5 := eq_true q5
            go_wp2
            go_ret
            exact ⟨by first | rfl | (simp; done) | (simp [*]; done), by repeat (first | exact Drawn0.refl _ | apply Drawn0.step)⟩
          · rw [if_neg c6] at H
            have c6b0 : ((bt a0 x5_1) == a1) = false := beq_eq_false_iff_ne.mpr c6
            have c6b1 : ((bt a0 x5_1) != a1) = true := bne_iff_ne.mpr c6
            have H' := Aside0.mk H
            clear H
            have p5 : 0 ≤ (x5_1 : Int) := of_decide_eq_true (by first | (with_reducible assumption) | assumption)
            have q5 : x5_1 < (a0.size : Int) := of_decide_eq_true (by first | (with_reducible assumption) | assumption)
            have hx5 := bt_at a0 x5_1
            replace p5 := eq_true p5
            replace q5 := eq_true q5
            go_wp2
            go_roundg k1
            case measure => have := HK1.out; omega
            case rel => exact ⟨(wrap64 (x5_1 + 1)), (by first | rfl | (simp; done) | (simp [*]; done)), H', ⟨by have := HK1.out; omega⟩, by repeat (first | exact Drawn0.refl _ | apply Drawn0.step)⟩
        · rw [if_neg c4] at H
          exact absurd H (by simp)
      · rw [if_neg c3] at H
        have c3b0 : decide (x5_1 < (a0.size : Int)) = false := decide_eq_false c3
        clear c3
        obtain rfl := Option.some.inj H
        go_wp2
        go_ret
        exact ⟨by first | rfl | (simp; done) | (simp [*]; done), by repeat (first | exact Drawn0.refl _ | apply Drawn0.step)⟩
/-! ### spec_first: function 42 -/
def spec_first.l0 : Nat → ByteArray → ByteArray → Bool → Int → Option (Int)
  | 0, _, _, _, _ => none
  | k + 1, x0, x1, x2, x7 => if x7 < (x0.size : Int) then (if 0 ≤ x7 then ((spec_hasByte.f k x1 (bt x0 x7)).bind fun t105 => (if (t105 != x2) = true then (some x7) else (spec_first.l0 k x0 x1 x2 (wrap64 (x7 + 1))))) else (none)) else (some (-1))
def spec_first.f (k : Nat) (a0 : ByteArray) (a1 : ByteArray) (a2 : Bool) : Option (Int) := spec_first.l0 k a0 a1 a2 0
theorem spec_first.mono_l : ∀ k, (∀ y0 y1 y2 y3, LeO (spec_first.l0 k y0 y1 y2 y3) (spec_first.l0 (k + 1) y0 y1 y2 y3))
  | 0 => fun _ _ _ _ r h => by simp [spec_first.l0] at h
  | k + 1 => by
    have ih0 := spec_first.mono_l k
    · intro y0 y1 y2 y3
      unfold spec_first.l0
      repeat' first
      | (with_reducible exact ih0 _ _ _ _)
      | (with_reducible exact spec_hasByte.mono _ _ _)
      | (with_reducible exact LeO.refl _)
      | (with_reducible exact LeO.none _)
      | (with_reducible refine LeO.ite ?_ ?_)
      | (with_reducible refine LeO.bind ?_ (fun _ => ?_))
      | exact ih0 _ _ _ _
      | exact spec_hasByte.mono _ _ _
      | exact LeO.none _
      | refine LeO.ite ?_ ?_
      | refine LeO.bind ?_ (fun _ => ?_)
theorem spec_first.mono : ∀ a0 a1 a2 k, LeO (spec_first.f k a0 a1 a2) (spec_first.f (k + 1) a0 a1 a2) := by
  intro a0 a1 a2 k
  have ih0 := spec_first.mono_l k
  unfold spec_first.f
  repeat' first
      | (with_reducible exact ih0 _ _ _ _)
      | (with_reducible exact spec_hasByte.mono _ _ _)
      | (with_reducible exact LeO.refl _)
      | (with_reducible exact LeO.none _)
      | (with_reducible refine LeO.ite ?_ ?_)
      | (with_reducible refine LeO.bind ?_ (fun _ => ?_))
      | exact ih0 _ _ _ _
      | exact spec_hasByte.mono _ _ _
      | exact LeO.none _
      | refine LeO.ite ?_ ?_
      | refine LeO.bind ?_ (fun _ => ?_)
set_option maxHeartbeats 8000000 in
set_option maxRecDepth 100000 in
theorem spec_first.calls (k : Nat) (a0 : ByteArray) (a1 : ByteArray) (a2 : Bool) (r : Int) (w : World) (h : spec_first.f k a0 a1 a2 = some r) :
    Calls Tryd.prog 42 #[.string a0, .string a1, .bool a2] w fun e w' => e = .returned (.int .i64 r) ∧ Drawn0 w w' := by
  have H : (spec_first.l0 k a0 a1 a2 0) = some r := h
  clear h
  have H' := Aside0.mk H
  clear H
  go_enter Tryd.func42, Tryd.ntmps42
  go_wp2
  go_loopg [7] k (fun kq v7 w' => ∃ (x7_1 : Int), v7 = .int .i64 x7_1 ∧ Aside0 (spec_first.l0 kq a0 a1 a2 x7_1 = some r) ∧ Aside0 (kq ≤ k) ∧ Drawn0 w w')
  case atStart => exact ⟨(0), (by first | rfl | (simp; done) | (simp [*]; done)), H', ⟨Nat.le_refl _⟩, by repeat (first | exact Drawn0.refl _ | apply Drawn0.step)⟩
  case round =>
    clear H'
    try clear p2
    obtain ⟨x7_1, rfl, HA, HK1, ⟨m1, rfl⟩⟩ := hrel
    cases gk with
    | zero => exact absurd HA.out (by simp [spec_first.l0])
    | succ k1 =>
      have H := HA.out
      clear HA
      simp only [spec_first.l0] at H
      by_cases c4 : x7_1 < (a0.size : Int)
      · rw [if_pos c4] at H
        have c4b0 : decide (x7_1 < (a0.size : Int)) = true := decide_eq_true c4
        clear c4
        by_cases c5 : 0 ≤ x7_1
        · rw [if_pos c5] at H
          have c5b0 : decide (0 ≤ x7_1) = true := decide_eq_true c5
          clear c5
          replace H := Option.bind_eq_some_iff.mp H
          obtain ⟨t105, A70, H⟩ := H
          replace H : (if (t105 != a2) = true then (some x7_1) else (spec_first.l0 k1 a0 a1 a2 (wrap64 (x7_1 + 1)))) = some r := H
          have A7 := Aside0.mk A70
          clear A70
          by_cases c8 : (t105 != a2) = true
          · rw [if_pos c8] at H
            have c8b0 : (t105 != a2) = true := c8
            (try (have c8b1 : decide (t105 = a2) = false := by simpa using c8))
            (try (have c8b2 : (t105 == a2) = false := by simpa using c8))
            (try (have c8b3 : ¬ (t105 = a2) := by simpa using c8))
            clear c8
            obtain rfl := Option.some.inj H
            have p6 : 0 ≤ (x7_1 : Int) := of_decide_eq_true (by first | (with_reducible assumption) | assumption)
            have q6 : x7_1 < (a0.size : Int) := of_decide_eq_true (by first | (with_reducible assumption) | assumption)
            have hx6 := bt_at a0 x7_1
            replace p6 := eq_true p6
            replace q6 := eq_true q6
            go_wp2_with (first | ((with_reducible refine gate_callee (f := 59) rfl ?_); refine goesL_ (some 18) rfl rfl Tryd.func59 (by kernel_rfl) rfl #[.string a1, .int .u8 (bt a0 x7_1)] rfl (by (try simp only [List.map_toArray, List.map_cons, List.map_nil]); first | done | rfl | (simp only [List.length_drop, List.length_take]; rfl) | (simp only [Int.toNat_natCast, ByteArray.extract_zero_size]; rfl)) ?_; (with_reducible refine (spec_hasByte.calls k1 a1 (bt a0 x7_1) t105 _ A7.out).mono ?_); rintro e w' ⟨rfl, ⟨nd, rfl⟩⟩; refine ⟨_, rfl, ?_⟩))
            go_ret
            exact ⟨by first | rfl | (simp; done) | (simp [*]; done), by repeat (first | exact Drawn0.refl _ | apply Drawn0.step)⟩
          · rw [if_neg c8] at H
            have c8b0 : (t105 != a2) = false := by simpa using c8
            (try (have c8b1 : decide (t105 = a2) = true := by simpa using c8))
            (try (have c8b2 : (t105 == a2) = true := by simpa using c8))
            clear c8
            have H' := Aside0.mk H
            clear H
            have p6 : 0 ≤ (x7_1 : Int) := of_decide_eq_true (by first | (with_reducible assumption) | assumption)
            have q6 : x7_1 < (a0.size : Int) := of_decide_eq_true (by first | (with_reducible assumption) | assumption)
            have hx6 := bt_at a0 x7_1
            replace p6 := eq_true p6
            replace q6 := eq_true q6
            go_wp2_with (first | ((with_reducible refine gate_callee (f := 59) rfl ?_); refine goesL_ (some 18) rfl rfl Tryd.func59 (by kernel_rfl) rfl #[.string a1, .int .u8 (bt a0 x7_1)] rfl (by (try simp only [List.map_toArray, List.map_cons, List.map_nil]); first | done | rfl | (simp only [List.length_drop, List.length_take]; rfl) | (simp only [Int.toNat_natCast, ByteArray.extract_zero_size]; rfl)) ?_; (with_reducible refine (spec_hasByte.calls k1 a1 (bt a0 x7_1) t105 _ A7.out).mono ?_); rintro e w' ⟨rfl, ⟨nd, rfl⟩⟩; refine ⟨_, rfl, ?_⟩))
            go_roundg k1
            case measure => have := HK1.out; omega
            case rel => exact ⟨(wrap64 (x7_1 + 1)), (by first | rfl | (simp; done) | (simp [*]; done)), H', ⟨by have := HK1.out; omega⟩, by repeat (first | exact Drawn0.refl _ | apply Drawn0.step)⟩
        · rw [if_neg c5] at H
          exact absurd H (by simp)
      · rw [if_neg c4] at H
        have c4b0 : decide (x7_1 < (a0.size : Int)) = false := decide_eq_false c4
        clear c4
        obtain rfl := Option.some.inj H
        go_wp2
        go_ret
        exact ⟨by first | rfl | (simp; done) | (simp [*]; done), by repeat (first | exact Drawn0.refl _ | apply Drawn0.step)⟩
/-! ### spec_OutRight: function 19 -/
def spec_OutRight.f (k : Nat) (a0_0 : Int) (a0_1 : Int) (a0_2 : Int) (a0_3 : ByteArray) : Option (Bool) := if a0_0 < 1 then (some false) else (if a0_0 > 22 then (some false) else ((spec_UTF8.f a0_3).bind fun t107 => (if t107 = true then (if a0_1 < (-9999) then (some false) else (if a0_1 > 9999 then (some false) else (if a0_2 < 0 then (some false) else (if a0_2 > 9999 then (some false) else (if a0_0 = 7 then (if a0_1 < 0 then (some false) else (if a0_0 = 21 then ((spec_first.f k a0_3 (⟨#[19, 7, 27]⟩ : ByteArray) false).bind fun t108 => (some (decide (t108 < 0)))) else (some true))) else (if a0_0 = 21 then ((spec_first.f k a0_3 (⟨#[19, 7, 27]⟩ : ByteArray) false).bind fun t109 => (some (decide (t109 < 0)))) else (some true))))))) else (some false))))
theorem spec_OutRight.mono : ∀ a0 a1 a2 a3 k, LeO (spec_OutRight.f k a0 a1 a2 a3) (spec_OutRight.f (k + 1) a0 a1 a2 a3) := by
  intro a0 a1 a2 a3 k
  unfold spec_OutRight.f
  repeat' first
      | (with_reducible exact spec_first.mono _ _ _ _)
      | (with_reducible exact LeO.refl _)
      | (with_reducible exact LeO.none _)
      | (with_reducible refine LeO.ite ?_ ?_)
      | (with_reducible refine LeO.bind ?_ (fun _ => ?_))
      | exact spec_first.mono _ _ _ _
      | exact LeO.none _
      | refine LeO.ite ?_ ?_
      | refine LeO.bind ?_ (fun _ => ?_)
set_option maxHeartbeats 8000000 in
set_option maxRecDepth 100000 in
theorem spec_OutRight.calls (k : Nat) (a0_0 : Int) (a0_1 : Int) (a0_2 : Int) (a0_3 : ByteArray) (r : Bool) (w : World) (h : spec_OutRight.f k a0_0 a0_1 a0_2 a0_3 = some r) :
    Calls Tryd.prog 19 #[.agg #[.int .i64 a0_0, .int .i64 a0_1, .int .i64 a0_2, .string a0_3]] w fun e w' => e = .returned (.bool r) ∧ Below w.heap.size w w' := by
  have hu38 := Tryd.underlying38
  have HB := Aside0.mk (Below.refl w.heap.size w)
  have H : (if a0_0 < 1 then (some false) else (if a0_0 > 22 then (some false) else ((spec_UTF8.f a0_3).bind fun t107 => (if t107 = true then (if a0_1 < (-9999) then (some false) else (if a0_1 > 9999 then (some false) else (if a0_2 < 0 then (some false) else (if a0_2 > 9999 then (some false) else (if a0_0 = 7 then (if a0_1 < 0 then (some false) else (if a0_0 = 21 then ((spec_first.f k a0_3 (⟨#[19, 7, 27]⟩ : ByteArray) false).bind fun t108 => (some (decide (t108 < 0)))) else (some true))) else (if a0_0 = 21 then ((spec_first.f k a0_3 (⟨#[19, 7, 27]⟩ : ByteArray) false).bind fun t109 => (some (decide (t109 < 0)))) else (some true))))))) else (some false))))) = some r := h
  clear h
  by_cases c2 : a0_0 < 1
  · rw [if_pos c2] at H
    have c2b0 : decide (a0_0 < 1) = true := decide_eq_true c2
    clear c2
    obtain rfl := Option.some.inj H
    go_enter Tryd.func19, Tryd.ntmps19
    go_wp2_with (first | ((with_reducible refine gate_dst (N := 1) rfl ?_); refine box_event ?hg (N := 1) ?hd (cs := #[.int .i64 a0_0, .int .i64 a0_1, .int .i64 a0_2, .string a0_3]) (t := 38) ?hr ?_; (case hd => rfl); (case hg => rfl); (case hr => first | (go_simp; done) | (go_simp; rfl)); intro gb106 hg w3 hbox hb; have n0_ := Aside0.mk (below_step (by repeat (first | (with_reducible first | exact HB.out | apply below_alloc | apply pw_below_drewN | apply below_drew1) | exact HB.out)) hb); have n1_ := Aside0.mk (hbox); have n2_ := Aside0.mk ((by rw [hg]; exact (below_size (by repeat (first | (with_reducible first | exact HB.out | apply below_alloc | apply pw_below_drewN | apply below_drew1) | exact HB.out))) : w.heap.size ≤ gb106)); have n3_ := Aside0.mk ((by rw [hg]; exact (below_size (by repeat (first | (with_reducible first | exact HB.out | apply below_alloc | apply pw_below_drewN | apply below_drew1) | exact HB.out))) : w.heap.size ≤ gb106)); clear HB; have HB := n0_; have BK106 := n1_; have GW106 := n2_; have GE106 := n3_; clear n0_ n1_ n2_ n3_; clear hb hbox hg; have hcz4_0 : w3.cell? ⟨gb106, 0, none⟩ = some (.int .i64 a0_0) := (blk_cell BK106.out 0).trans rfl; have hcz4_1 : w3.cell? ⟨gb106, 1, none⟩ = some (.int .i64 a0_1) := (blk_cell BK106.out 1).trans rfl; have hcz4_2 : w3.cell? ⟨gb106, 2, none⟩ = some (.int .i64 a0_2) := (blk_cell BK106.out 2).trans rfl; have hcz4_3 : w3.cell? ⟨gb106, 3, none⟩ = some (.string a0_3) := (blk_cell BK106.out 3).trans rfl; have hfz4_0 := blk_frozen BK106.out 0; have hfz4_1 := blk_frozen BK106.out 1; have hfz4_2 := blk_frozen BK106.out 2; have hfz4_3 := blk_frozen BK106.out 3))
    go_ret
    exact ⟨by first | rfl | (simp [errW_none, errW_some] <;> rfl) | (simp [*, errW_none, errW_some] <;> rfl), by repeat (first | (with_reducible first | exact HB.out | apply below_alloc | apply pw_below_drewN | apply below_drew1 | refine below_set ?_ GE106.out) | exact HB.out)⟩
  · rw [if_neg c2] at H
    have c2b0 : decide (a0_0 < 1) = false := decide_eq_false c2
    clear c2
    by_cases c5 : a0_0 > 22
    · rw [if_pos c5] at H
      have c5b0 : decide (22 < a0_0) = true := decide_eq_true c5
      clear c5
      obtain rfl := Option.some.inj H
      go_enter Tryd.func19, Tryd.ntmps19
      go_wp2_with (first | ((with_reducible refine gate_dst (N := 1) rfl ?_); refine box_event ?hg (N := 1) ?hd (cs := #[.int .i64 a0_0, .int .i64 a0_1, .int .i64 a0_2, .string a0_3]) (t := 38) ?hr ?_; (case hd => rfl); (case hg => rfl); (case hr => first | (go_simp; done) | (go_simp; rfl)); intro gb106 hg w6 hbox hb; have n0_ := Aside0.mk (below_step (by repeat (first | (with_reducible first | exact HB.out | apply below_alloc | apply pw_below_drewN | apply below_drew1) | exact HB.out)) hb); have n1_ := Aside0.mk (hbox); have n2_ := Aside0.mk ((by rw [hg]; exact (below_size (by repeat (first | (with_reducible first | exact HB.out | apply below_alloc | apply pw_below_drewN | apply below_drew1) | exact HB.out))) : w.heap.size ≤ gb106)); have n3_ := Aside0.mk ((by rw [hg]; exact (below_size (by repeat (first | (with_reducible first | exact HB.out | apply below_alloc | apply pw_below_drewN | apply below_drew1) | exact HB.out))) : w.heap.size ≤ gb106)); clear HB; have HB := n0_; have BK106 := n1_; have GW106 := n2_; have GE106 := n3_; clear n0_ n1_ n2_ n3_; clear hb hbox hg; have hcz7_0 : w6.cell? ⟨gb106, 0, none⟩ = some (.int .i64 a0_0) := (blk_cell BK106.out 0).trans rfl; have hcz7_1 : w6.cell? ⟨gb106, 1, none⟩ = some (.int .i64 a0_1) := (blk_cell BK106.out 1).trans rfl; have hcz7_2 : w6.cell? ⟨gb106, 2, none⟩ = some (.int .i64 a0_2) := (blk_cell BK106.out 2).trans rfl; have hcz7_3 : w6.cell? ⟨gb106, 3, none⟩ = some (.string a0_3) := (blk_cell BK106.out 3).trans rfl; have hfz7_0 := blk_frozen BK106.out 0; have hfz7_1 := blk_frozen BK106.out 1; have hfz7_2 := blk_frozen BK106.out 2; have hfz7_3 := blk_frozen BK106.out 3))
      go_ret
      exact ⟨by first | rfl | (simp [errW_none, errW_some] <;> rfl) | (simp [*, errW_none, errW_some] <;> rfl), by repeat (first | (with_reducible first | exact HB.out | apply below_alloc | apply pw_below_drewN | apply below_drew1 | refine below_set ?_ GE106.out) | exact HB.out)⟩
    · rw [if_neg c5] at H
      have c5b0 : decide (22 < a0_0) = false := decide_eq_false c5
      clear c5
      replace H := Option.bind_eq_some_iff.mp H
      obtain ⟨t107, A80, H⟩ := H
      replace H : (if t107 = true then (if a0_1 < (-9999) then (some false) else (if a0_1 > 9999 then (some false) else (if a0_2 < 0 then (some false) else (if a0_2 > 9999 then (some false) else (if a0_0 = 7 then (if a0_1 < 0 then (some false) else (if a0_0 = 21 then ((spec_first.f k a0_3 (⟨#[19, 7, 27]⟩ : ByteArray) false).bind fun t108 => (some (decide (t108 < 0)))) else (some true))) else (if a0_0 = 21 then ((spec_first.f k a0_3 (⟨#[19, 7, 27]⟩ : ByteArray) false).bind fun t109 => (some (decide (t109 < 0)))) else (some true))))))) else (some false)) = some r := H
      have A8 := Aside0.mk A80
      clear A80
      by_cases c9 : t107 = true
      · subst c9
        have H1 : (if a0_1 < (-9999) then (some false) else (if a0_1 > 9999 then (some false) else (if a0_2 < 0 then (some false) else (if a0_2 > 9999 then (some false) else (if a0_0 = 7 then (if a0_1 < 0 then (some false) else (if a0_0 = 21 then ((spec_first.f k a0_3 (⟨#[19, 7, 27]⟩ : ByteArray) false).bind fun t108 => (some (decide (t108 < 0)))) else (some true))) else (if a0_0 = 21 then ((spec_first.f k a0_3 (⟨#[19, 7, 27]⟩ : ByteArray) false).bind fun t109 => (some (decide (t109 < 0)))) else (some true))))))) = some r := by rw [if_pos rfl] at H; exact H
        clear H
        have H := H1
        clear H1
        by_cases c10 : a0_1 < (-9999)
        · rw [if_pos c10] at H
          have c10b0 : decide (a0_1 < (-9999)) = true := decide_eq_true c10
          clear c10
          obtain rfl := Option.some.inj H
          go_enter Tryd.func19, Tryd.ntmps19
          go_wp2_with (first | ((with_reducible refine gate_dst (N := 1) rfl ?_); refine box_event ?hg (N := 1) ?hd (cs := #[.int .i64 a0_0, .int .i64 a0_1, .int .i64 a0_2, .string a0_3]) (t := 38) ?hr ?_; (case hd => rfl); (case hg => rfl); (case hr => first | (go_simp; done) | (go_simp; rfl)); intro gb106 hg w11 hbox hb; have n0_ := Aside0.mk (below_step (by repeat (first | (with_reducible first | exact HB.out | apply below_alloc | apply pw_below_drewN | apply below_drew1) | exact HB.out)) hb); have n1_ := Aside0.mk (hbox); have n2_ := Aside0.mk ((by rw [hg]; exact (below_size (by repeat (first | (with_reducible first | exact HB.out | apply below_alloc | apply pw_below_drewN | apply below_drew1) | exact HB.out))) : w.heap.size ≤ gb106)); have n3_ := Aside0.mk ((by rw [hg]; exact (below_size (by repeat (first | (with_reducible first | exact HB.out | apply below_alloc | apply pw_below_drewN | apply below_drew1) | exact HB.out))) : w.heap.size ≤ gb106)); clear HB; have HB := n0_; have BK106 := n1_; have GW106 := n2_; have GE106 := n3_; clear n0_ n1_ n2_ n3_; clear hb hbox hg; have hcz12_0 : w11.cell? ⟨gb106, 0, none⟩ = some (.int .i64 a0_0) := (blk_cell BK106.out 0).trans rfl; have hcz12_1 : w11.cell? ⟨gb106, 1, none⟩ = some (.int .i64 a0_1) := (blk_cell BK106.out 1).trans rfl; have hcz12_2 : w11.cell? ⟨gb106, 2, none⟩ = some (.int .i64 a0_2) := (blk_cell BK106.out 2).trans rfl; have hcz12_3 : w11.cell? ⟨gb106, 3, none⟩ = some (.string a0_3) := (blk_cell BK106.out 3).trans rfl; have hfz12_0 := blk_frozen BK106.out 0; have hfz12_1 := blk_frozen BK106.out 1; have hfz12_2 := blk_frozen BK106.out 2; have hfz12_3 := blk_frozen BK106.out 3) | (go_at_call 21; (with_reducible refine (spec_UTF8.calls a0_3 true _ A8.out).mono ?_); rintro e w13 ⟨rfl, hb⟩; have n0_ := Aside0.mk (blk_below (g := gb106) (o := .cells #[.int .i64 a0_0, .int .i64 a0_1, .int .i64 a0_2, .string a0_3] 38 (0, 0)) (by (with_reducible repeat (first | refine blk_drewN ?_ _ | refine blk_drew ?_ | refine blk_alloc ?_ _)); exact BK106.out) hb); have n1_ := Aside0.mk (below_step (by repeat (first | (with_reducible first | exact HB.out | apply below_alloc | apply pw_below_drewN | apply below_drew1 | refine below_set ?_ GE106.out) | exact HB.out)) hb); clear BK106; clear HB; have BK106 := n0_; have HB := n1_; clear n0_ n1_; (try clear hb); (try clear hb2); (try clear hk); (try clear hi); have hcz14_0 : w13.cell? ⟨gb106, 0, none⟩ = some (.int .i64 a0_0) := (blk_cell BK106.out 0).trans rfl; have hcz14_1 : w13.cell? ⟨gb106, 1, none⟩ = some (.int .i64 a0_1) := (blk_cell BK106.out 1).trans rfl; have hcz14_2 : w13.cell? ⟨gb106, 2, none⟩ = some (.int .i64 a0_2) := (blk_cell BK106.out 2).trans rfl; have hcz14_3 : w13.cell? ⟨gb106, 3, none⟩ = some (.string a0_3) := (blk_cell BK106.out 3).trans rfl; have hfz14_0 := blk_frozen BK106.out 0; have hfz14_1 := blk_frozen BK106.out 1; have hfz14_2 := blk_frozen BK106.out 2; have hfz14_3 := blk_frozen BK106.out 3))
          go_ret
          exact ⟨by first | rfl | (simp [errW_none, errW_some] <;> rfl) | (simp [*, errW_none, errW_some] <;> rfl), by repeat (first | (with_reducible first | exact HB.out | apply below_alloc | apply pw_below_drewN | apply below_drew1 | refine below_set ?_ GE106.out) | exact HB.out)⟩
        · rw [if_neg c10] at H
          have c10b0 : decide (a0_1 < (-9999)) = false := decide_eq_false c10
          clear c10
          by_cases c15 : a0_1 > 9999
          · rw [if_pos c15] at H
            have c15b0 : decide (9999 < a0_1) = true := decide_eq_true c15
            clear c15
            obtain rfl := Option.some.inj H
            go_enter Tryd.func19, Tryd.ntmps19
            go_wp2_with (first | ((with_reducible refine gate_dst (N := 1) rfl ?_); refine box_event ?hg (N := 1) ?hd (cs := #[.int .i64 a0_0, .int .i64 a0_1, .int .i64 a0_2, .string a0_3]) (t := 38) ?hr ?_; (case hd => rfl); (case hg => rfl); (case hr => first | (go_simp; done) | (go_simp; rfl)); intro gb106 hg w16 hbox hb; have n0_ := Aside0.mk (below_step (by repeat (first | (with_reducible first | exact HB.out | apply below_alloc | apply pw_below_drewN | apply below_drew1) | exact HB.out)) hb); have n1_ := Aside0.mk (hbox); have n2_ := Aside0.mk ((by rw [hg]; exact (below_size (by repeat (first | (with_reducible first | exact HB.out | apply below_alloc | apply pw_below_drewN | apply below_drew1) | exact HB.out))) : w.heap.size ≤ gb106)); have n3_ := Aside0.mk ((by rw [hg]; exact (below_size (by repeat (first | (with_reducible first | exact HB.out | apply below_alloc | apply pw_below_drewN | apply below_drew1) | exact HB.out))) : w.heap.size ≤ gb106)); clear HB; have HB := n0_; have BK106 := n1_; have GW106 := n2_; have GE106 := n3_; clear n0_ n1_ n2_ n3_; clear hb hbox hg; have hcz17_0 : w16.cell? ⟨gb106, 0, none⟩ = some (.int .i64 a0_0) := (blk_cell BK106.out 0).trans rfl; have hcz17_1 : w16.cell? ⟨gb106, 1, none⟩ = some (.int .i64 a0_1) := (blk_cell BK106.out 1).trans rfl; have hcz17_2 : w16.cell? ⟨gb106, 2, none⟩ = some (.int .i64 a0_2) := (blk_cell BK106.out 2).trans rfl; have hcz17_3 : w16.cell? ⟨gb106, 3, none⟩ = some (.string a0_3) := (blk_cell BK106.out 3).trans rfl; have hfz17_0 := blk_frozen BK106.out 0; have hfz17_1 := blk_frozen BK106.out 1; have hfz17_2 := blk_frozen BK106.out 2; have hfz17_3 := blk_frozen BK106.out 3) | (go_at_call 21; (with_reducible refine (spec_UTF8.calls a0_3 true _ A8.out).mono ?_); rintro e w18 ⟨rfl, hb⟩; have n0_ := Aside0.mk (blk_below (g := gb106) (o := .cells #[.int .i64 a0_0, .int .i64 a0_1, .int .i64 a0_2, .string a0_3] 38 (0, 0)) (by (with_reducible repeat (first | refine blk_drewN ?_ _ | refine blk_drew ?_ | refine blk_alloc ?_ _)); exact BK106.out) hb); have n1_ := Aside0.mk (below_step (by repeat (first | (with_reducible first | exact HB.out | apply below_alloc | apply pw_below_drewN | apply below_drew1 | refine below_set ?_ GE106.out) | exact HB.out)) hb); clear BK106; clear HB; have BK106 := n0_; have HB := n1_; clear n0_ n1_; (try clear hb); (try clear hb2); (try clear hk); (try clear hi); have hcz19_0 : w18.cell? ⟨gb106, 0, none⟩ = some (.int .i64 a0_0) := (blk_cell BK106.out 0).trans rfl; have hcz19_1 : w18.cell? ⟨gb106, 1, none⟩ = some (.int .i64 a0_1) := (blk_cell BK106.out 1).trans rfl; have hcz19_2 : w18.cell? ⟨gb106, 2, none⟩ = some (.int .i64 a0_2) := (blk_cell BK106.out 2).trans rfl; have hcz19_3 : w18.cell? ⟨gb106, 3, none⟩ = some (.string a0_3) := (blk_cell BK106.out 3).trans rfl; have hfz19_0 := blk_frozen BK106.out 0; have hfz19_1 := blk_frozen BK106.out 1; have hfz19_2 := blk_frozen BK106.out 2; have hfz19_3 := blk_frozen BK106.out 3))
            go_ret
            exact ⟨by first | rfl | (simp [errW_none, errW_some] <;> rfl) | (simp [*, errW_none, errW_some] <;> rfl), by repeat (first | (with_reducible first | exact HB.out | apply below_alloc | apply pw_below_drewN | apply below_drew1 | refine below_set ?_ GE106.out) | exact HB.out)⟩
          · rw [if_neg c15] at H
            have c15b0 : decide (9999 < a0_1) = false := decide_eq_false c15
            clear c15
            by_cases c20 : a0_2 < 0
            · rw [if_pos c20] at H
              have c20b0 : decide (a0_2 < 0) = true := decide_eq_true c20
              clear c20
              obtain rfl := Option.some.inj H
              go_enter Tryd.func19, Tryd.ntmps19
              go_wp2_with (first | ((with_reducible refine gate_dst (N := 1) rfl ?_); refine box_event ?hg (N := 1) ?hd (cs := #[.int .i64 a0_0, .int .i64 a0_1, .int .i64 a0_2, .string a0_3]) (t := 38) ?hr ?_; (case hd => rfl); (case hg => rfl); (case hr => first | (go_simp; done) | (go_simp; rfl)); intro gb106 hg w21 hbox hb; have n0_ := Aside0.mk (below_step (by repeat (first | (with_reducible first | exact HB.out | apply below_alloc | apply pw_below_drewN | apply below_drew1) | exact HB.out)) hb); have n1_ := Aside0.mk (hbox); have n2_ := Aside0.mk ((by rw [hg]; exact (below_size (by repeat (first | (with_reducible first | exact HB.out | apply below_alloc | apply pw_below_drewN | apply below_drew1) | exact HB.out))) : w.heap.size ≤ gb106)); have n3_ := Aside0.mk ((by rw [hg]; exact (below_size (by repeat (first | (with_reducible first | exact HB.out | apply below_alloc | apply pw_below_drewN | apply below_drew1) | exact HB.out))) : w.heap.size ≤ gb106)); clear HB; have HB := n0_; have BK106 := n1_; have GW106 := n2_; have GE106 := n3_; clear n0_ n1_ n2_ n3_; clear hb hbox hg; have hcz22_0 : w21.cell? ⟨gb106, 0, none⟩ = some (.int .i64 a0_0) := (blk_cell BK106.out 0).trans rfl; have hcz22_1 : w21.cell? ⟨gb106, 1, none⟩ = some (.int .i64 a0_1) := (blk_cell BK106.out 1).trans rfl; have hcz22_2 : w21.cell? ⟨gb106, 2, none⟩ = some (.int .i64 a0_2) := (blk_cell BK106.out 2).trans rfl; have hcz22_3 : w21.cell? ⟨gb106, 3, none⟩ = some (.string a0_3) := (blk_cell BK106.out 3).trans rfl; have hfz22_0 := blk_frozen BK106.out 0; have hfz22_1 := blk_frozen BK106.out 1; have hfz22_2 := blk_frozen BK106.out 2; have hfz22_3 := blk_frozen BK106.out 3) | (go_at_call 21; (with_reducible refine (spec_UTF8.calls a0_3 true _ A8.out).mono ?_); rintro e w23 ⟨rfl, hb⟩; have n0_ := Aside0.mk (blk_below (g := gb106) (o := .cells #[.int .i64 a0_0, .int .i64 a0_1, .int .i64 a0_2, .string a0_3] 38 (0, 0)) (by (with_reducible repeat (first | refine blk_drewN ?_ _ | refine blk_drew ?_ | refine blk_alloc ?_ _)); exact BK106.out) hb); have n1_ := Aside0.mk (below_step (by repeat (first | (with_reducible first | exact HB.out | apply below_alloc | apply pw_below_drewN | apply below_drew1 | refine below_set ?_ GE106.out) | exact HB.out)) hb); clear BK106; clear HB; have BK106 := n0_; have HB := n1_; clear n0_ n1_; (try clear hb); (try clear hb2); (try clear hk); (try clear hi); have hcz24_0 : w23.cell? ⟨gb106, 0, none⟩ = some (.int .i64 a0_0) := (blk_cell BK106.out 0).trans rfl; have hcz24_1 : w23.cell? ⟨gb106, 1, none⟩ = some (.int .i64 a0_1) := (blk_cell BK106.out 1).trans rfl; have hcz24_2 : w23.cell? ⟨gb106, 2, none⟩ = some (.int .i64 a0_2) := (blk_cell BK106.out 2).trans rfl; have hcz24_3 : w23.cell? ⟨gb106, 3, none⟩ = some (.string a0_3) := (blk_cell BK106.out 3).trans rfl; have hfz24_0 := blk_frozen BK106.out 0; have hfz24_1 := blk_frozen BK106.out 1; have hfz24_2 := blk_frozen BK106.out 2; have hfz24_3 := blk_frozen BK106.out 3))
              go_ret
              exact ⟨by first | rfl | (simp [errW_none, errW_some] <;> rfl) | (simp [*, errW_none, errW_some] <;> rfl), by repeat (first | (with_reducible first | exact HB.out | apply below_alloc | apply pw_below_drewN | apply below_drew1 | refine below_set ?_ GE106.out) | exact HB.out)⟩
            · rw [if_neg c20] at H
              have c20b0 : decide (a0_2 < 0) = false := decide_eq_false c20
              clear c20
              by_cases c25 : a0_2 > 9999
              · rw [if_pos c25] at H
                have c25b0 : decide (9999 < a0_2) = true := decide_eq_true c25
                clear c25
                obtain rfl := Option.some.inj H
                go_enter Tryd.func19, Tryd.ntmps19
                go_wp2_with (first | ((with_reducible refine gate_dst (N := 1) rfl ?_); refine box_event ?hg (N := 1) ?hd (cs := #[.int .i64 a0_0, .int .i64 a0_1, .int .i64 a0_2, .string a0_3]) (t := 38) ?hr ?_; (case hd => rfl); (case hg => rfl); (case hr => first | (go_simp; done) | (go_simp; rfl)); intro gb106 hg w26 hbox hb; have n0_ := Aside0.mk (below_step (by repeat (first | (with_reducible first | exact HB.out | apply below_alloc | apply pw_below_drewN | apply below_drew1) | exact HB.out)) hb); have n1_ := Aside0.mk (hbox); have n2_ := Aside0.mk ((by rw [hg]; exact (below_size (by repeat (first | (with_reducible first | exact HB.out | apply below_alloc | apply pw_below_drewN | apply below_drew1) | exact HB.out))) : w.heap.size ≤ gb106)); have n3_ := Aside0.mk ((by rw [hg]; exact (below_size (by repeat (first | (with_reducible first | exact HB.out | apply below_alloc | apply pw_below_drewN | apply below_drew1) | exact HB.out))) : w.heap.size ≤ gb106)); clear HB; have HB := n0_; have BK106 := n1_; have GW106 := n2_; have GE106 := n3_; clear n0_ n1_ n2_ n3_; clear hb hbox hg; have hcz27_0 : w26.cell? ⟨gb106, 0, none⟩ = some (.int .i64 a0_0) := (blk_cell BK106.out 0).trans rfl; have hcz27_1 : w26.cell? ⟨gb106, 1, none⟩ = some (.int .i64 a0_1) := (blk_cell BK106.out 1).trans rfl; have hcz27_2 : w26.cell? ⟨gb106, 2, none⟩ = some (.int .i64 a0_2) := (blk_cell BK106.out 2).trans rfl; have hcz27_3 : w26.cell? ⟨gb106, 3, none⟩ = some (.string a0_3) := (blk_cell BK106.out 3).trans rfl; have hfz27_0 := blk_frozen BK106.out 0; have hfz27_1 := blk_frozen BK106.out 1; have hfz27_2 := blk_frozen BK106.out 2; have hfz27_3 := blk_frozen BK106.out 3) | (go_at_call 21; (with_reducible refine (spec_UTF8.calls a0_3 true _ A8.out).mono ?_); rintro e w28 ⟨rfl, hb⟩; have n0_ := Aside0.mk (blk_below (g := gb106) (o := .cells #[.int .i64 a0_0, .int .i64 a0_1, .int .i64 a0_2, .string a0_3] 38 (0, 0)) (by (with_reducible repeat (first | refine blk_drewN ?_ _ | refine blk_drew ?_ | refine blk_alloc ?_ _)); exact BK106.out) hb); have n1_ := Aside0.mk (below_step (by repeat (first | (with_reducible first | exact HB.out | apply below_alloc | apply pw_below_drewN | apply below_drew1 | refine below_set ?_ GE106.out) | exact HB.out)) hb); clear BK106; clear HB; have BK106 := n0_; have HB := n1_; clear n0_ n1_; (try clear hb); (try clear hb2); (try clear hk); (try clear hi); have hcz29_0 : w28.cell? ⟨gb106, 0, none⟩ = some (.int .i64 a0_0) := (blk_cell BK106.out 0).trans rfl; have hcz29_1 : w28.cell? ⟨gb106, 1, none⟩ = some (.int .i64 a0_1) := (blk_cell BK106.out 1).trans rfl; have hcz29_2 : w28.cell? ⟨gb106, 2, none⟩ = some (.int .i64 a0_2) := (blk_cell BK106.out 2).trans rfl; have hcz29_3 : w28.cell? ⟨gb106, 3, none⟩ = some (.string a0_3) := (blk_cell BK106.out 3).trans rfl; have hfz29_0 := blk_frozen BK106.out 0; have hfz29_1 := blk_frozen BK106.out 1; have hfz29_2 := blk_frozen BK106.out 2; have hfz29_3 := blk_frozen BK106.out 3))
                go_ret
                exact ⟨by first | rfl | (simp [errW_none, errW_some] <;> rfl) | (simp [*, errW_none, errW_some] <;> rfl), by repeat (first | (with_reducible first | exact HB.out | apply below_alloc | apply pw_below_drewN | apply below_drew1 | refine below_set ?_ GE106.out) | exact HB.out)⟩
              · rw [if_neg c25] at H
                have c25b0 : decide (9999 < a0_2) = false := decide_eq_false c25
                clear c25
                by_cases c30 : a0_0 = 7
                · rw [if_pos c30] at H
                  have c30b0 : (a0_0 == 7) = true := beq_iff_eq.mpr c30
                  have c30b1 : (a0_0 != 7) = false := bne_eq_false_iff_eq.mpr c30
                  clear c30
                  by_cases c31 : a0_1 < 0
                  · rw [if_pos c31] at H
                    have c31b0 : decide (a0_1 < 0) = true := decide_eq_true c31
                    clear c31
                    obtain rfl := Option.some.inj H
                    go_enter Tryd.func19, Tryd.ntmps19
                    go_wp2_with (first | ((with_reducible refine gate_dst (N := 1) rfl ?_); refine box_event ?hg (N := 1) ?hd (cs := #[.int .i64 a0_0, .int .i64 a0_1, .int .i64 a0_2, .string a0_3]) (t := 38) ?hr ?_; (case hd => rfl); (case hg => rfl); (case hr => first | (go_simp; done) | (go_simp; rfl)); intro gb106 hg w32 hbox hb; have n0_ := Aside0.mk (below_step (by repeat (first | (with_reducible first | exact HB.out | apply below_alloc | apply pw_below_drewN | apply below_drew1) | exact HB.out)) hb); have n1_ := Aside0.mk (hbox); have n2_ := Aside0.mk ((by rw [hg]; exact (below_size (by repeat (first | (with_reducible first | exact HB.out | apply below_alloc | apply pw_below_drewN | apply below_drew1) | exact HB.out))) : w.heap.size ≤ gb106)); have n3_ := Aside0.mk ((by rw [hg]; exact (below_size (by repeat (first | (with_reducible first | exact HB.out | apply below_alloc | apply pw_below_drewN | apply below_drew1) | exact HB.out))) : w.heap.size ≤ gb106)); clear HB; have HB := n0_; have BK106 := n1_; have GW106 := n2_; have GE106 := n3_; clear n0_ n1_ n2_ n3_; clear hb hbox hg; have hcz33_0 : w32.cell? ⟨gb106, 0, none⟩ = some (.int .i64 a0_0) := (blk_cell BK106.out 0).trans rfl; have hcz33_1 : w32.cell? ⟨gb106, 1, none⟩ = some (.int .i64 a0_1) := (blk_cell BK106.out 1).trans rfl; have hcz33_2 : w32.cell? ⟨gb106, 2, none⟩ = some (.int .i64 a0_2) := (blk_cell BK106.out 2).trans rfl; have hcz33_3 : w32.cell? ⟨gb106, 3, none⟩ = some (.string a0_3) := (blk_cell BK106.out 3).trans rfl; have hfz33_0 := blk_frozen BK106.out 0; have hfz33_1 := blk_frozen BK106.out 1; have hfz33_2 := blk_frozen BK106.out 2; have hfz33_3 := blk_frozen BK106.out 3) | (go_at_call 21; (with_reducible refine (spec_UTF8.calls a0_3 true _ A8.out).mono ?_); rintro e w34 ⟨rfl, hb⟩; have n0_ := Aside0.mk (blk_below (g := gb106) (o := .cells #[.int .i64 a0_0, .int .i64 a0_1, .int .i64 a0_2, .string a0_3] 38 (0, 0)) (by (with_reducible repeat (first | refine blk_drewN ?_ _ | refine blk_drew ?_ | refine blk_alloc ?_ _)); exact BK106.out) hb); have n1_ := Aside0.mk (below_step (by repeat (first | (with_reducible first | exact HB.out | apply below_alloc | apply pw_below_drewN | apply below_drew1 | refine below_set ?_ GE106.out) | exact HB.out)) hb); clear BK106; clear HB; have BK106 := n0_; have HB := n1_; clear n0_ n1_; (try clear hb); (try clear hb2); (try clear hk); (try clear hi); have hcz35_0 : w34.cell? ⟨gb106, 0, none⟩ = some (.int .i64 a0_0) := (blk_cell BK106.out 0).trans rfl; have hcz35_1 : w34.cell? ⟨gb106, 1, none⟩ = some (.int .i64 a0_1) := (blk_cell BK106.out 1).trans rfl; have hcz35_2 : w34.cell? ⟨gb106, 2, none⟩ = some (.int .i64 a0_2) := (blk_cell BK106.out 2).trans rfl; have hcz35_3 : w34.cell? ⟨gb106, 3, none⟩ = some (.string a0_3) := (blk_cell BK106.out 3).trans rfl; have hfz35_0 := blk_frozen BK106.out 0; have hfz35_1 := blk_frozen BK106.out 1; have hfz35_2 := blk_frozen BK106.out 2; have hfz35_3 := blk_frozen BK106.out 3))
                    go_ret
                    exact ⟨by first | rfl | (simp [errW_none, errW_some] <;> rfl) | (simp [*, errW_none, errW_some] <;> rfl), by repeat (first | (with_reducible first | exact HB.out | apply below_alloc | apply pw_below_drewN | apply below_drew1 | refine below_set ?_ GE106.out) | exact HB.out)⟩
                  · rw [if_neg c31] at H
                    have c31b0 : decide (a0_1 < 0) = false := decide_eq_false c31
                    clear c31
                    by_cases c36 : a0_0 = 21
                    · rw [if_pos c36] at H
                      have c36b0 : (a0_0 == 21) = true := beq_iff_eq.mpr c36
                      have c36b1 : (a0_0 != 21) = false := bne_eq_false_iff_eq.mpr c36
                      clear c36
                      replace H := Option.bind_eq_some_iff.mp H
                      obtain ⟨t108, A370, H⟩ := H
                      replace H : (some (decide (t108 < 0))) = some r := H
                      have A37 := Aside0.mk A370
                      clear A370
                      obtain rfl := Option.some.inj H
                      go_enter Tryd.func19, Tryd.ntmps19
                      go_wp2_with (first | ((with_reducible refine gate_dst (N := 1) rfl ?_); refine box_event ?hg (N := 1) ?hd (cs := #[.int .i64 a0_0, .int .i64 a0_1, .int .i64 a0_2, .string a0_3]) (t := 38) ?hr ?_; (case hd => rfl); (case hg => rfl); (case hr => first | (go_simp; done) | (go_simp; rfl)); intro gb106 hg w38 hbox hb; have n0_ := Aside0.mk (below_step (by repeat (first | (with_reducible first | exact HB.out | apply below_alloc | apply pw_below_drewN | apply below_drew1) | exact HB.out)) hb); have n1_ := Aside0.mk (hbox); have n2_ := Aside0.mk ((by rw [hg]; exact (below_size (by repeat (first | (with_reducible first | exact HB.out | apply below_alloc | apply pw_below_drewN | apply below_drew1) | exact HB.out))) : w.heap.size ≤ gb106)); have n3_ := Aside0.mk ((by rw [hg]; exact (below_size (by repeat (first | (with_reducible first | exact HB.out | apply below_alloc | apply pw_below_drewN | apply below_drew1) | exact HB.out))) : w.heap.size ≤ gb106)); clear HB; have HB := n0_; have BK106 := n1_; have GW106 := n2_; have GE106 := n3_; clear n0_ n1_ n2_ n3_; clear hb hbox hg; have hcz39_0 : w38.cell? ⟨gb106, 0, none⟩ = some (.int .i64 a0_0) := (blk_cell BK106.out 0).trans rfl; have hcz39_1 : w38.cell? ⟨gb106, 1, none⟩ = some (.int .i64 a0_1) := (blk_cell BK106.out 1).trans rfl; have hcz39_2 : w38.cell? ⟨gb106, 2, none⟩ = some (.int .i64 a0_2) := (blk_cell BK106.out 2).trans rfl; have hcz39_3 : w38.cell? ⟨gb106, 3, none⟩ = some (.string a0_3) := (blk_cell BK106.out 3).trans rfl; have hfz39_0 := blk_frozen BK106.out 0; have hfz39_1 := blk_frozen BK106.out 1; have hfz39_2 := blk_frozen BK106.out 2; have hfz39_3 := blk_frozen BK106.out 3) | (go_at_call 21; (with_reducible refine (spec_UTF8.calls a0_3 true _ A8.out).mono ?_); rintro e w40 ⟨rfl, hb⟩; have n0_ := Aside0.mk (blk_below (g := gb106) (o := .cells #[.int .i64 a0_0, .int .i64 a0_1, .int .i64 a0_2, .string a0_3] 38 (0, 0)) (by (with_reducible repeat (first | refine blk_drewN ?_ _ | refine blk_drew ?_ | refine blk_alloc ?_ _)); exact BK106.out) hb); have n1_ := Aside0.mk (below_step (by repeat (first | (with_reducible first | exact HB.out | apply below_alloc | apply pw_below_drewN | apply below_drew1 | refine below_set ?_ GE106.out) | exact HB.out)) hb); clear BK106; clear HB; have BK106 := n0_; have HB := n1_; clear n0_ n1_; (try clear hb); (try clear hb2); (try clear hk); (try clear hi); have hcz41_0 : w40.cell? ⟨gb106, 0, none⟩ = some (.int .i64 a0_0) := (blk_cell BK106.out 0).trans rfl; have hcz41_1 : w40.cell? ⟨gb106, 1, none⟩ = some (.int .i64 a0_1) := (blk_cell BK106.out 1).trans rfl; have hcz41_2 : w40.cell? ⟨gb106, 2, none⟩ = some (.int .i64 a0_2) := (blk_cell BK106.out 2).trans rfl; have hcz41_3 : w40.cell? ⟨gb106, 3, none⟩ = some (.string a0_3) := (blk_cell BK106.out 3).trans rfl; have hfz41_0 := blk_frozen BK106.out 0; have hfz41_1 := blk_frozen BK106.out 1; have hfz41_2 := blk_frozen BK106.out 2; have hfz41_3 := blk_frozen BK106.out 3) | (go_at_call 42; (with_reducible refine (spec_first.calls k a0_3 (⟨#[19, 7, 27]⟩ : ByteArray) false t108 _ A37.out).mono ?_); rintro e w' ⟨rfl, ⟨nd, rfl⟩⟩))
                      go_ret
                      exact ⟨by first | rfl | (simp [errW_none, errW_some] <;> rfl) | (simp [*, errW_none, errW_some] <;> rfl), by repeat (first | (with_reducible first | exact HB.out | apply below_alloc | apply pw_below_drewN | apply below_drew1 | refine below_set ?_ GE106.out) | exact HB.out)⟩
                    · rw [if_neg c36] at H
                      have c36b0 : (a0_0 == 21) = false := beq_eq_false_iff_ne.mpr c36
                      have c36b1 : (a0_0 != 21) = true := bne_iff_ne.mpr c36
                      obtain rfl := Option.some.inj H
                      go_enter Tryd.func19, Tryd.ntmps19
                      go_wp2_with (first | ((with_reducible refine gate_dst (N := 1) rfl ?_); refine box_event ?hg (N := 1) ?hd (cs := #[.int .i64 a0_0, .int .i64 a0_1, .int .i64 a0_2, .string a0_3]) (t := 38) ?hr ?_; (case hd => rfl); (case hg => rfl); (case hr => first | (go_simp; done) | (go_simp; rfl)); intro gb106 hg w42 hbox hb; have n0_ := Aside0.mk (below_step (by repeat (first | (with_reducible first | exact HB.out | apply below_alloc | apply pw_below_drewN | apply below_drew1) | exact HB.out)) hb); have n1_ := Aside0.mk (hbox); have n2_ := Aside0.mk ((by rw [hg]; exact (below_size (by repeat (first | (with_reducible first | exact HB.out | apply below_alloc | apply pw_below_drewN | apply below_drew1) | exact HB.out))) : w.heap.size ≤ gb106)); have n3_ := Aside0.mk ((by rw [hg]; exact (below_size (by repeat (first | (with_reducible first | exact HB.out | apply below_alloc | apply pw_below_drewN | apply below_drew1) | exact HB.out))) : w.heap.size ≤ gb106)); clear HB; have HB := n0_; have BK106 := n1_; have GW106 := n2_; have GE106 := n3_; clear n0_ n1_ n2_ n3_; clear hb hbox hg; have hcz43_0 : w42.cell? ⟨gb106, 0, none⟩ = some (.int .i64 a0_0) := (blk_cell BK106.out 0).trans rfl; have hcz43_1 : w42.cell? ⟨gb106, 1, none⟩ = some (.int .i64 a0_1) := (blk_cell BK106.out 1).trans rfl; have hcz43_2 : w42.cell? ⟨gb106, 2, none⟩ = some (.int .i64 a0_2) := (blk_cell BK106.out 2).trans rfl; have hcz43_3 : w42.cell? ⟨gb106, 3, none⟩ = some (.string a0_3) := (blk_cell BK106.out 3).trans rfl; have hfz43_0 := blk_frozen BK106.out 0; have hfz43_1 := blk_frozen BK106.out 1; have hfz43_2 := blk_frozen BK106.out 2; have hfz43_3 := blk_frozen BK106.out 3) | (go_at_call 21; (with_reducible refine (spec_UTF8.calls a0_3 true _ A8.out).mono ?_); rintro e w44 ⟨rfl, hb⟩; have n0_ := Aside0.mk (blk_below (g := gb106) (o := .cells #[.int .i64 a0_0, .int .i64 a0_1, .int .i64 a0_2, .string a0_3] 38 (0, 0)) (by (with_reducible repeat (first | refine blk_drewN ?_ _ | refine blk_drew ?_ | refine blk_alloc ?_ _)); exact BK106.out) hb); have n1_ := Aside0.mk (below_step (by repeat (first | (with_reducible first | exact HB.out | apply below_alloc | apply pw_below_drewN | apply below_drew1 | refine below_set ?_ GE106.out) | exact HB.out)) hb); clear BK106; clear HB; have BK106 := n0_; have HB := n1_; clear n0_ n1_; (try clear hb); (try clear hb2); (try clear hk); (try clear hi); have hcz45_0 : w44.cell? ⟨gb106, 0, none⟩ = some (.int .i64 a0_0) := (blk_cell BK106.out 0).trans rfl; have hcz45_1 : w44.cell? ⟨gb106, 1, none⟩ = some (.int .i64 a0_1) := (blk_cell BK106.out 1).trans rfl; have hcz45_2 : w44.cell? ⟨gb106, 2, none⟩ = some (.int .i64 a0_2) := (blk_cell BK106.out 2).trans rfl; have hcz45_3 : w44.cell? ⟨gb106, 3, none⟩ = some (.string a0_3) := (blk_cell BK106.out 3).trans rfl; have hfz45_0 := blk_frozen BK106.out 0; have hfz45_1 := blk_frozen BK106.out 1; have hfz45_2 := blk_frozen BK106.out 2; have hfz45_3 := blk_frozen BK106.out 3))
                      go_ret
                      exact ⟨by first | rfl | (simp [errW_none, errW_some] <;> rfl) | (simp [*, errW_none, errW_some] <;> rfl), by repeat (first | (with_reducible first | exact HB.out | apply below_alloc | apply pw_below_drewN | apply below_drew1 | refine below_set ?_ GE106.out) | exact HB.out)⟩
                · rw [if_neg c30] at H
                  have c30b0 : (a0_0 == 7) = false := beq_eq_false_iff_ne.mpr c30
                  have c30b1 : (a0_0 != 7) = true := bne_iff_ne.mpr c30
                  by_cases c46 : a0_0 = 21
                  · rw [if_pos c46] at H
                    have c46b0 : (a0_0 == 21) = true := beq_iff_eq.mpr c46
                    have c46b1 : (a0_0 != 21) = false := bne_eq_false_iff_eq.mpr c46
                    clear c46
                    replace H := Option.bind_eq_some_iff.mp H
                    obtain ⟨t109, A470, H⟩ := H
                    replace H : (some (decide (t109 < 0))) = some r := H
                    have A47 := Aside0.mk A470
                    clear A470
                    obtain rfl := Option.some.inj H
                    go_enter Tryd.func19, Tryd.ntmps19
                    go_wp2_with (first | ((with_reducible refine gate_dst (N := 1) rfl ?_); refine box_event ?hg (N := 1) ?hd (cs := #[.int .i64 a0_0, .int .i64 a0_1, .int .i64 a0_2, .string a0_3]) (t := 38) ?hr ?_; (case hd => rfl); (case hg => rfl); (case hr => first | (go_simp; done) | (go_simp; rfl)); intro gb106 hg w48 hbox hb; have n0_ := Aside0.mk (below_step (by repeat (first | (with_reducible first | exact HB.out | apply below_alloc | apply pw_below_drewN | apply below_drew1) | exact HB.out)) hb); have n1_ := Aside0.mk (hbox); have n2_ := Aside0.mk ((by rw [hg]; exact (below_size (by repeat (first | (with_reducible first | exact HB.out | apply below_alloc | apply pw_below_drewN | apply below_drew1) | exact HB.out))) : w.heap.size ≤ gb106)); have n3_ := Aside0.mk ((by rw [hg]; exact (below_size (by repeat (first | (with_reducible first | exact HB.out | apply below_alloc | apply pw_below_drewN | apply below_drew1) | exact HB.out))) : w.heap.size ≤ gb106)); clear HB; have HB := n0_; have BK106 := n1_; have GW106 := n2_; have GE106 := n3_; clear n0_ n1_ n2_ n3_; clear hb hbox hg; have hcz49_0 : w48.cell? ⟨gb106, 0, none⟩ = some (.int .i64 a0_0) := (blk_cell BK106.out 0).trans rfl; have hcz49_1 : w48.cell? ⟨gb106, 1, none⟩ = some (.int .i64 a0_1) := (blk_cell BK106.out 1).trans rfl; have hcz49_2 : w48.cell? ⟨gb106, 2, none⟩ = some (.int .i64 a0_2) := (blk_cell BK106.out 2).trans rfl; have hcz49_3 : w48.cell? ⟨gb106, 3, none⟩ = some (.string a0_3) := (blk_cell BK106.out 3).trans rfl; have hfz49_0 := blk_frozen BK106.out 0; have hfz49_1 := blk_frozen BK106.out 1; have hfz49_2 := blk_frozen BK106.out 2; have hfz49_3 := blk_frozen BK106.out 3) | (go_at_call 21; (with_reducible refine (spec_UTF8.calls a0_3 true _ A8.out).mono ?_); rintro e w50 ⟨rfl, hb⟩; have n0_ := Aside0.mk (blk_below (g := gb106) (o := .cells #[.int .i64 a0_0, .int .i64 a0_1, .int .i64 a0_2, .string a0_3] 38 (0, 0)) (by (with_reducible repeat (first | refine blk_drewN ?_ _ | refine blk_drew ?_ | refine blk_alloc ?_ _)); exact BK106.out) hb); have n1_ := Aside0.mk (below_step (by repeat (first | (with_reducible first | exact HB.out | apply below_alloc | apply pw_below_drewN | apply below_drew1 | refine below_set ?_ GE106.out) | exact HB.out)) hb); clear BK106; clear HB; have BK106 := n0_; have HB := n1_; clear n0_ n1_; (try clear hb); (try clear hb2); (try clear hk); (try clear hi); have hcz51_0 : w50.cell? ⟨gb106, 0, none⟩ = some (.int .i64 a0_0) := (blk_cell BK106.out 0).trans rfl; have hcz51_1 : w50.cell? ⟨gb106, 1, none⟩ = some (.int .i64 a0_1) := (blk_cell BK106.out 1).trans rfl; have hcz51_2 : w50.cell? ⟨gb106, 2, none⟩ = some (.int .i64 a0_2) := (blk_cell BK106.out 2).trans rfl; have hcz51_3 : w50.cell? ⟨gb106, 3, none⟩ = some (.string a0_3) := (blk_cell BK106.out 3).trans rfl; have hfz51_0 := blk_frozen BK106.out 0; have hfz51_1 := blk_frozen BK106.out 1; have hfz51_2 := blk_frozen BK106.out 2; have hfz51_3 := blk_frozen BK106.out 3) | (go_at_call 42; (with_reducible refine (spec_first.calls k a0_3 (⟨#[19, 7, 27]⟩ : ByteArray) false t109 _ A47.out).mono ?_); rintro e w' ⟨rfl, ⟨nd, rfl⟩⟩))
                    go_ret
                    exact ⟨by first | rfl | (simp [errW_none, errW_some] <;> rfl) | (simp [*, errW_none, errW_some] <;> rfl), by repeat (first | (with_reducible first | exact HB.out | apply below_alloc | apply pw_below_drewN | apply below_drew1 | refine below_set ?_ GE106.out) | exact HB.out)⟩
                  · rw [if_neg c46] at H
                    have c46b0 : (a0_0 == 21) = false := beq_eq_false_iff_ne.mpr c46
                    have c46b1 : (a0_0 != 21) = true := bne_iff_ne.mpr c46
                    obtain rfl := Option.some.inj H
                    go_enter Tryd.func19, Tryd.ntmps19
                    go_wp2_with (first | ((with_reducible refine gate_dst (N := 1) rfl ?_); refine box_event ?hg (N := 1) ?hd (cs := #[.int .i64 a0_0, .int .i64 a0_1, .int .i64 a0_2, .string a0_3]) (t := 38) ?hr ?_; (case hd => rfl); (case hg => rfl); (case hr => first | (go_simp; done) | (go_simp; rfl)); intro gb106 hg w52 hbox hb; have n0_ := Aside0.mk (below_step (by repeat (first | (with_reducible first | exact HB.out | apply below_alloc | apply pw_below_drewN | apply below_drew1) | exact HB.out)) hb); have n1_ := Aside0.mk (hbox); have n2_ := Aside0.mk ((by rw [hg]; exact (below_size (by repeat (first | (with_reducible first | exact HB.out | apply below_alloc | apply pw_below_drewN | apply below_drew1) | exact HB.out))) : w.heap.size ≤ gb106)); have n3_ := Aside0.mk ((by rw [hg]; exact (below_size (by repeat (first | (with_reducible first | exact HB.out | apply below_alloc | apply pw_below_drewN | apply below_drew1) | exact HB.out))) : w.heap.size ≤ gb106)); clear HB; have HB := n0_; have BK106 := n1_; have GW106 := n2_; have GE106 := n3_; clear n0_ n1_ n2_ n3_; clear hb hbox hg; have hcz53_0 : w52.cell? ⟨gb106, 0, none⟩ = some (.int .i64 a0_0) := (blk_cell BK106.out 0).trans rfl; have hcz53_1 : w52.cell? ⟨gb106, 1, none⟩ = some (.int .i64 a0_1) := (blk_cell BK106.out 1).trans rfl; have hcz53_2 : w52.cell? ⟨gb106, 2, none⟩ = some (.int .i64 a0_2) := (blk_cell BK106.out 2).trans rfl; have hcz53_3 : w52.cell? ⟨gb106, 3, none⟩ = some (.string a0_3) := (blk_cell BK106.out 3).trans rfl; have hfz53_0 := blk_frozen BK106.out 0; have hfz53_1 := blk_frozen BK106.out 1; have hfz53_2 := blk_frozen BK106.out 2; have hfz53_3 := blk_frozen BK106.out 3) | (go_at_call 21; (with_reducible refine (spec_UTF8.calls a0_3 true _ A8.out).mono ?_); rintro e w54 ⟨rfl, hb⟩; have n0_ := Aside0.mk (blk_below (g := gb106) (o := .cells #[.int .i64 a0_0, .int .i64 a0_1, .int .i64 a0_2, .string a0_3] 38 (0, 0)) (by (with_reducible repeat (first | refine blk_drewN ?_ _ | refine blk_drew ?_ | refine blk_alloc ?_ _)); exact BK106.out) hb); have n1_ := Aside0.mk (below_step (by repeat (first | (with_reducible first | exact HB.out | apply below_alloc | apply pw_below_drewN | apply below_drew1 | refine below_set ?_ GE106.out) | exact HB.out)) hb); clear BK106; clear HB; have BK106 := n0_; have HB := n1_; clear n0_ n1_; (try clear hb); (try clear hb2); (try clear hk); (try clear hi); have hcz55_0 : w54.cell? ⟨gb106, 0, none⟩ = some (.int .i64 a0_0) := (blk_cell BK106.out 0).trans rfl; have hcz55_1 : w54.cell? ⟨gb106, 1, none⟩ = some (.int .i64 a0_1) := (blk_cell BK106.out 1).trans rfl; have hcz55_2 : w54.cell? ⟨gb106, 2, none⟩ = some (.int .i64 a0_2) := (blk_cell BK106.out 2).trans rfl; have hcz55_3 : w54.cell? ⟨gb106, 3, none⟩ = some (.string a0_3) := (blk_cell BK106.out 3).trans rfl; have hfz55_0 := blk_frozen BK106.out 0; have hfz55_1 := blk_frozen BK106.out 1; have hfz55_2 := blk_frozen BK106.out 2; have hfz55_3 := blk_frozen BK106.out 3))
                    go_ret
                    exact ⟨by first | rfl | (simp [errW_none, errW_some] <;> rfl) | (simp [*, errW_none, errW_some] <;> rfl), by repeat (first | (with_reducible first | exact HB.out | apply below_alloc | apply pw_below_drewN | apply below_drew1 | refine below_set ?_ GE106.out) | exact HB.out)⟩
      · replace c9 := Bool.eq_false_iff.mpr c9
        subst c9
        have H1 : (some false) = some r := by rw [if_neg (show ¬ (false = true) by decide)] at H; exact H
        clear H
        have H := H1
        clear H1
        obtain rfl := Option.some.inj H
        go_enter Tryd.func19, Tryd.ntmps19
        go_wp2_with (first | ((with_reducible refine gate_dst (N := 1) rfl ?_); refine box_event ?hg (N := 1) ?hd (cs := #[.int .i64 a0_0, .int .i64 a0_1, .int .i64 a0_2, .string a0_3]) (t := 38) ?hr ?_; (case hd => rfl); (case hg => rfl); (case hr => first | (go_simp; done) | (go_simp; rfl)); intro gb106 hg w56 hbox hb; have n0_ := Aside0.mk (below_step (by repeat (first | (with_reducible first | exact HB.out | apply below_alloc | apply pw_below_drewN | apply below_drew1) | exact HB.out)) hb); have n1_ := Aside0.mk (hbox); have n2_ := Aside0.mk ((by rw [hg]; exact (below_size (by repeat (first | (with_reducible first | exact HB.out | apply below_alloc | apply pw_below_drewN | apply below_drew1) | exact HB.out))) : w.heap.size ≤ gb106)); have n3_ := Aside0.mk ((by rw [hg]; exact (below_size (by repeat (first | (with_reducible first | exact HB.out | apply below_alloc | apply pw_below_drewN | apply below_drew1) | exact HB.out))) : w.heap.size ≤ gb106)); clear HB; have HB := n0_; have BK106 := n1_; have GW106 := n2_; have GE106 := n3_; clear n0_ n1_ n2_ n3_; clear hb hbox hg; have hcz57_0 : w56.cell? ⟨gb106, 0, none⟩ = some (.int .i64 a0_0) := (blk_cell BK106.out 0).trans rfl; have hcz57_1 : w56.cell? ⟨gb106, 1, none⟩ = some (.int .i64 a0_1) := (blk_cell BK106.out 1).trans rfl; have hcz57_2 : w56.cell? ⟨gb106, 2, none⟩ = some (.int .i64 a0_2) := (blk_cell BK106.out 2).trans rfl; have hcz57_3 : w56.cell? ⟨gb106, 3, none⟩ = some (.string a0_3) := (blk_cell BK106.out 3).trans rfl; have hfz57_0 := blk_frozen BK106.out 0; have hfz57_1 := blk_frozen BK106.out 1; have hfz57_2 := blk_frozen BK106.out 2; have hfz57_3 := blk_frozen BK106.out 3) | (go_at_call 21; (with_reducible refine (spec_UTF8.calls a0_3 false _ A8.out).mono ?_); rintro e w58 ⟨rfl, hb⟩; have n0_ := Aside0.mk (blk_below (g := gb106) (o := .cells #[.int .i64 a0_0, .int .i64 a0_1, .int .i64 a0_2, .string a0_3] 38 (0, 0)) (by (with_reducible repeat (first | refine blk_drewN ?_ _ | refine blk_drew ?_ | refine blk_alloc ?_ _)); exact BK106.out) hb); have n1_ := Aside0.mk (below_step (by repeat (first | (with_reducible first | exact HB.out | apply below_alloc | apply pw_below_drewN | apply below_drew1 | refine below_set ?_ GE106.out) | exact HB.out)) hb); clear BK106; clear HB; have BK106 := n0_; have HB := n1_; clear n0_ n1_; (try clear hb); (try clear hb2); (try clear hk); (try clear hi)))
        go_ret
        exact ⟨by first | rfl | (simp [errW_none, errW_some] <;> rfl) | (simp [*, errW_none, errW_some] <;> rfl), by repeat (first | (with_reducible first | exact HB.out | apply below_alloc | apply pw_below_drewN | apply below_drew1 | refine below_set ?_ GE106.out) | exact HB.out)⟩
end Go.Proofs.YtanadaamipfmkaaDoor.PFnWroteParts
