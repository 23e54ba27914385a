/- Printed by a program of this seat (xprint) out of the translation: Go functions as plain functions, and the walks that show them; no condition. -/
import Derived.Test.YtkfmjkiefckgoaaGreatDoorQPFnUpDownx0
import Derived.Test.YtkfmjkiefckgoaaGreatDoorQHEdFnUpDown
import Derived.Test.YtkfmjkiefckgoaaGreatDoorQPFnUpDownx1
namespace Go.Proofs.YtkfmjkiefckgoaaGreatDoor.PFnUpDown
open Go.RowKit Go.Proofs.YtkfmjkiefckgoaaGreatDoor.H Go.Proofs.YtkfmjkiefckgoaaGreatDoor.PAroundOf Go.Proofs.YtkfmjkiefckgoaaGreatDoor.R Go.Proofs.YtkfmjkiefckgoaaGreatDoorW.PrintWords Go.Proofs.YtkfmjkiefckgoaaGreatDoorW.PrintLast Go.Proofs.YtkfmjkiefckgoaaGreatDoorW.PrintMore
attribute [local go_sem] max2_int min2_int max_two min_two max_three min_three max_four min_four   -- for this text's walks alone
set_option linter.unusedVariables false
set_option linter.unusedSimpArgs false
/-! ### laws_one7: function 14 -/
def laws_one7.f (a0_0 : ByteArray) (a0_1 : Int) (a1_0 : Int) (a1_1 : Int) (a1_2 : ByteArray) (a1_3 : Bool) : Option (ByteArray × Int × ByteArray × Bool) := (impl_EditedFrom.f a0_0 a0_1 (([(⟨a1_0, a1_1, a1_2, a1_3⟩ : S31)] : List (S31)))).bind fun bt131 => (if bt131.2.2.2 = true then (if (bt131.2.2.1.length : Int) = 1 then (if 0 < (bt131.2.2.1.length : Int) then (some (bt131.1, bt131.2.1, rdOf ByteArray.empty bt131.2.2.1 0, true)) else (none)) else (some (a0_0, a0_1, (⟨#[]⟩ : ByteArray), false))) else (none))
set_option maxHeartbeats 8000000 in
set_option maxRecDepth 100000 in
theorem laws_one7.calls (a0_0 : ByteArray) (a0_1 : Int) (a1_0 : Int) (a1_1 : Int) (a1_2 : ByteArray) (a1_3 : Bool) (r1 : ByteArray) (r2 : Int) (r3 : ByteArray) (r4 : Bool) (w : World) (h : laws_one7.f a0_0 a0_1 a1_0 a1_1 a1_2 a1_3 = some (r1, r2, r3, r4)) :
    Calls Tryz.prog 14 #[.agg #[.string a0_0, .int .i64 a0_1], .agg #[.int .i64 a1_0, .int .i64 a1_1, .string a1_2, .bool a1_3]] w fun e w' => e = .returned (.tuple #[.agg #[.string r1, .int .i64 r2], .string r3, .bool r4]) ∧ Below w.heap.size w w' := by
  have hu23 := Tryz.underlying23
  have hu31 := Tryz.underlying31
  have HB := Aside0.mk (Below.refl w.heap.size w)
  have H : ((impl_EditedFrom.f a0_0 a0_1 (([(⟨a1_0, a1_1, a1_2, a1_3⟩ : S31)] : List (S31)))).bind fun bt131 => (if bt131.2.2.2 = true then (if (bt131.2.2.1.length : Int) = 1 then (if 0 < (bt131.2.2.1.length : Int) then (some (bt131.1, bt131.2.1, rdOf ByteArray.empty bt131.2.2.1 0, true)) else (none)) else (some (a0_0, a0_1, (⟨#[]⟩ : ByteArray), false))) else (none))) = some (r1, r2, r3, r4) := h
  clear h
  obtain ⟨y128, hy128⟩ : ∃ y_ : List (S31), y_ = (([(⟨a1_0, a1_1, a1_2, a1_3⟩ : S31)] : List (S31))) := ⟨_, rfl⟩
  replace H : ((impl_EditedFrom.f a0_0 a0_1 y128).bind fun bt131 => (if bt131.2.2.2 = true then (if (bt131.2.2.1.length : Int) = 1 then (if 0 < (bt131.2.2.1.length : Int) then (some (bt131.1, bt131.2.1, rdOf ByteArray.empty bt131.2.2.1 0, true)) else (none)) else (some (a0_0, a0_1, (⟨#[]⟩ : ByteArray), false))) else (none))) = some (r1, r2, r3, r4) := by first | (rw [hy128]; with_reducible exact H) | (have H2_ := (Option.bind_some _ _).symm.trans H; rw [hy128]; with_reducible exact H2_) | (have H2_ := (Option.bind_some _ _).symm.trans H; with_reducible exact H2_) | with_reducible exact H | (rw [hy128]; exact H) | exact H
  have Ny128 := Aside0.mk hy128
  clear hy128
  replace H := Option.bind_eq_some_iff.mp H
  obtain ⟨⟨t131, t132, t133, t136⟩, A30, H⟩ := H
  replace H : (if t136 = true then (if (t133.length : Int) = 1 then (if 0 < (t133.length : Int) then (some (t131, t132, rdOf ByteArray.empty t133 0, true)) else (none)) else (some (a0_0, a0_1, (⟨#[]⟩ : ByteArray), false))) else (none)) = some (r1, r2, r3, r4) := H
  have A3 := Aside0.mk A30
  clear A30
  by_cases c4 : t136 = true
  · subst c4
    have H1 : (if (t133.length : Int) = 1 then (if 0 < (t133.length : Int) then (some (t131, t132, rdOf ByteArray.empty t133 0, true)) else (none)) else (some (a0_0, a0_1, (⟨#[]⟩ : ByteArray), false))) = some (r1, r2, r3, r4) := by rw [if_pos rfl] at H; exact H
    clear H
    have H := H1
    clear H1
    by_cases c5 : (t133.length : Int) = 1
    · rw [if_pos c5] at H
      have c5b0 : ((t133.length : Int) == 1) = true := beq_iff_eq.mpr c5
      have c5b1 : ((t133.length : Int) != 1) = false := bne_eq_false_iff_eq.mpr c5
      clear c5
      by_cases c6 : 0 < (t133.length : Int)
      · rw [if_pos c6] at H
        have c6b0 : decide (0 < (t133.length : Int)) = true := decide_eq_true c6
        have c6b1 : decide (0 < t133.length) = true := decide_eq_true (by omega)
        clear c6
        simp only [Option.some.injEq, Prod.mk.injEq] at H
        obtain ⟨rfl, rfl, rfl, rfl⟩ := H
        go_enter Tryz.func14, Tryz.ntmps14
        try go_wp2_with (first | ((with_reducible refine gate_dst (N := 2) rfl ?_); (try (refine gate_guard (by rfl) ?_; dsimp only)); refine box_event ?hg (N := 2) ?hd (cs := #[.string a0_0, .int .i64 a0_1]) (t := 23) ?hr ?_; (case hd => rfl); (case hg => rfl); (case hr => first | (go_simp; done) | (go_simp; rfl)); intro gb125 hg w7 hbox hb; have n0_ := Aside0.mk (below_step (by repeat (first | (with_reducible first | exact HB.out | apply below_alloc | apply pw_below_drewN | apply below_drew1) | exact HB.out)) hb); have n1_ := Aside0.mk (hbox); have n2_ := Aside0.mk ((by rw [hg]; exact (below_size (by repeat (first | (with_reducible first | exact HB.out | apply below_alloc | apply pw_below_drewN | apply below_drew1) | exact HB.out))) : w.heap.size ≤ gb125)); have n3_ := Aside0.mk ((by rw [hg]; exact (below_size (by repeat (first | (with_reducible first | exact HB.out | apply below_alloc | apply pw_below_drewN | apply below_drew1) | exact HB.out))) : w.heap.size ≤ gb125)); clear HB; have HB := n0_; have BK125 := n1_; have GW125 := n2_; have GE125 := n3_; clear n0_ n1_ n2_ n3_; clear hb hbox hg) | ((with_reducible refine gate_dst (N := 3) rfl ?_); (try (refine gate_guard (by rfl) ?_; dsimp only)); refine box_event ?hg (N := 3) ?hd (cs := #[.int .i64 a1_0, .int .i64 a1_1, .string a1_2, .bool a1_3]) (t := 31) ?hr ?_; (case hd => rfl); (case hg => rfl); (case hr => first | (go_simp; done) | (go_simp; rfl)); intro gb126 hg w8 hbox hb; have n0_ := Aside0.mk (blk_below (g := gb125) (o := .cells #[.string a0_0, .int .i64 a0_1] 23 (0, 0)) (by (with_reducible repeat (first | refine blk_drewN ?_ _ | refine blk_drew ?_ | refine blk_alloc ?_ _)); exact BK125.out) hb); have n1_ := Aside0.mk (below_step (by repeat (first | (with_reducible first | exact HB.out | apply below_alloc | apply pw_below_drewN | apply below_drew1 | refine below_set ?_ GE125.out) | exact HB.out)) hb); have n2_ := Aside0.mk (hbox); have n3_ := Aside0.mk ((by rw [hg]; exact (below_size (by repeat (first | (with_reducible first | exact HB.out | apply below_alloc | apply pw_below_drewN | apply below_drew1 | refine below_set ?_ GE125.out) | exact HB.out))) : w.heap.size ≤ gb126)); have n4_ := Aside0.mk ((by rw [hg]; exact (below_size (by repeat (first | (with_reducible first | exact HB.out | apply below_alloc | apply pw_below_drewN | apply below_drew1 | refine below_set ?_ GE125.out) | exact HB.out))) : w.heap.size ≤ gb126)); have n5_ := Aside0.mk ((by rw [hg]; exact Nat.ne_of_lt (blk_lt (g := gb125) (o := .cells #[.string a0_0, .int .i64 a0_1] 23 (0, 0)) (by (with_reducible repeat (first | refine blk_drewN ?_ _ | refine blk_drew ?_ | refine blk_alloc ?_ _)); exact BK125.out)) : gb125 ≠ gb126)); have n6_ := Aside0.mk ((by rw [hg]; exact Nat.ne_of_gt (blk_lt (g := gb125) (o := .cells #[.string a0_0, .int .i64 a0_1] 23 (0, 0)) (by (with_reducible repeat (first | refine blk_drewN ?_ _ | refine blk_drew ?_ | refine blk_alloc ?_ _)); exact BK125.out)) : gb126 ≠ gb125)); clear BK125; clear HB; have BK125 := n0_; have HB := n1_; have BK126 := n2_; have GW126 := n3_; have GE126 := n4_; have NB125_126 := n5_; have NB126_125 := n6_; clear n0_ n1_ n2_ n3_ n4_ n5_ n6_; clear hb hbox hg) | ((with_reducible refine gate_dst (N := 4) rfl ?_); (try (refine gate_guard (by rfl) ?_; dsimp only)); refine box_event ?hg (N := 4) ?hd (cs := #[.string (⟨#[]⟩ : ByteArray), .int .i64 0]) (t := 23) ?hr ?_; (case hd => rfl); (case hg => rfl); (case hr => first | (go_simp; done) | (go_simp; rfl)); intro gb127 hg w9 hbox hb; have n0_ := Aside0.mk (blk_below (g := gb125) (o := .cells #[.string a0_0, .int .i64 a0_1] 23 (0, 0)) (by (with_reducible repeat (first | refine blk_drewN ?_ _ | refine blk_drew ?_ | refine blk_alloc ?_ _)); exact BK125.out) hb); have n1_ := Aside0.mk (blk_below (g := gb126) (o := .cells #[.int .i64 a1_0, .int .i64 a1_1, .string a1_2, .bool a1_3] 31 (0, 0)) (by (with_reducible repeat (first | refine blk_drewN ?_ _ | refine blk_drew ?_ | refine blk_alloc ?_ _)); exact BK126.out) hb); have n2_ := Aside0.mk (below_step (by repeat (first | (with_reducible first | exact HB.out | apply below_alloc | apply pw_below_drewN | apply below_drew1 | refine below_set ?_ GE125.out | refine below_set ?_ GE126.out) | exact HB.out)) hb); have n3_ := Aside0.mk (hbox); have n4_ := Aside0.mk ((by rw [hg]; exact (below_size (by repeat (first | (with_reducible first | exact HB.out | apply below_alloc | apply pw_below_drewN | apply below_drew1 | refine below_set ?_ GE125.out | refine below_set ?_ GE126.out) | exact HB.out))) : w.heap.size ≤ gb127)); have n5_ := Aside0.mk ((by rw [hg]; exact (below_size (by repeat (first | (with_reducible first | exact HB.out | apply below_alloc | apply pw_below_drewN | apply below_drew1 | refine below_set ?_ GE125.out | refine below_set ?_ GE126.out) | exact HB.out))) : w.heap.size ≤ gb127)); have n6_ := Aside0.mk ((by rw [hg]; exact Nat.ne_of_lt (blk_lt (g := gb125) (o := .cells #[.string a0_0, .int .i64 a0_1] 23 (0, 0)) (by (with_reducible repeat (first | refine blk_drewN ?_ _ | refine blk_drew ?_ | refine blk_alloc ?_ _)); exact BK125.out)) : gb125 ≠ gb127)); have n7_ := Aside0.mk ((by rw [hg]; exact Nat.ne_of_gt (blk_lt (g := gb125) (o := .cells #[.string a0_0, .int .i64 a0_1] 23 (0, 0)) (by (with_reducible repeat (first | refine blk_drewN ?_ _ | refine blk_drew ?_ | refine blk_alloc ?_ _)); exact BK125.out)) : gb127 ≠ gb125)); have n8_ := Aside0.mk ((by rw [hg]; exact Nat.ne_of_lt (blk_lt (g := gb126) (o := .cells #[.int .i64 a1_0, .int .i64 a1_1, .string a1_2, .bool a1_3] 31 (0, 0)) (by (with_reducible repeat (first | refine blk_drewN ?_ _ | refine blk_drew ?_ | refine blk_alloc ?_ _)); exact BK126.out)) : gb126 ≠ gb127)); have n9_ := Aside0.mk ((by rw [hg]; exact Nat.ne_of_gt (blk_lt (g := gb126) (o := .cells #[.int .i64 a1_0, .int .i64 a1_1, .string a1_2, .bool a1_3] 31 (0, 0)) (by (with_reducible repeat (first | refine blk_drewN ?_ _ | refine blk_drew ?_ | refine blk_alloc ?_ _)); exact BK126.out)) : gb127 ≠ gb126)); clear BK125; clear BK126; clear HB; have BK125 := n0_; have BK126 := n1_; have HB := n2_; have BK127 := n3_; have GW127 := n4_; have GE127 := n5_; have NB125_127 := n6_; have NB127_125 := n7_; have NB126_127 := n8_; have NB127_126 := n9_; clear n0_ n1_ n2_ n3_ n4_ n5_ n6_ n7_ n8_ n9_; clear hb hbox hg; have hnb10 := NB125_126.out; have hnc10 := NB126_125.out; have hnb11 := NB125_127.out; have hnc11 := NB127_125.out; have hcz12_0 : w9.cell? ⟨gb125, 0, none⟩ = some (.string a0_0) := (blk_cell BK125.out 0).trans rfl; have hcz12_1 : w9.cell? ⟨gb125, 1, none⟩ = some (.int .i64 a0_1) := (blk_cell BK125.out 1).trans rfl; have hfz12_0 := blk_frozen BK125.out 0; have hfz12_1 := blk_frozen BK125.out 1; have hnb13 := NB126_127.out; have hnc13 := NB127_126.out; have hcz14_0 : w9.cell? ⟨gb126, 0, none⟩ = some (.int .i64 a1_0) := (blk_cell BK126.out 0).trans rfl; have hcz14_1 : w9.cell? ⟨gb126, 1, none⟩ = some (.int .i64 a1_1) := (blk_cell BK126.out 1).trans rfl; have hcz14_2 : w9.cell? ⟨gb126, 2, none⟩ = some (.string a1_2) := (blk_cell BK126.out 2).trans rfl; have hcz14_3 : w9.cell? ⟨gb126, 3, none⟩ = some (.bool a1_3) := (blk_cell BK126.out 3).trans rfl; have hfz14_0 := blk_frozen BK126.out 0; have hfz14_1 := blk_frozen BK126.out 1; have hfz14_2 := blk_frozen BK126.out 2; have hfz14_3 := blk_frozen BK126.out 3) | ((with_reducible refine gate_dst (N := 13) rfl ?_); (try (refine gate_guard (by rfl) ?_; dsimp only)); refine Kd.R_lit k31 _ 31 ?hg (N := 13) ?hd (xs := ([(⟨a1_0, a1_1, a1_2, a1_3⟩ : S31)] : List (S31))) (inner := [.int .i64 a1_0, .int .i64 a1_1, .string a1_2, .bool a1_3]) (ok := fun _ => True) (okp := fun _ => True) ?hr ?hp (fun _ hk => hk) trivial (Below.refl _ _) (Nat.le_refl _) (by simp) ?_; (case hd => rfl); (case hg => rfl); (case hr => first | (go_simp; done) | (go_simp; rfl)); (case hp => exact (Reps.c4 (show Kd.M k31 _ _ _ (⟨a1_0, a1_1, a1_2, a1_3⟩ : S31) [.int .i64 a1_0, .int .i64 a1_1, .string a1_2, .bool a1_3] from (k31_mkM _ _ _ (⟨a1_0, a1_1, a1_2, a1_3⟩ : S31) )) (Reps.none _ _))); intro v129 w15 ho16 hb hg_ hnew_; clear hg_ hnew_; (first | rw [← Ny128.out] at ho16 | (simp only [Int.reduceToNat] at ho16; rw [← Ny128.out] at ho16)); have n0_ := Aside0.mk (Kd.R_lower (Kd.R_newB ho16 (g := gb126) (o := .cells #[.int .i64 a1_0, .int .i64 a1_1, .string a1_2, .bool a1_3] 31 (0, 0)) (by (with_reducible repeat (first | refine blk_drewN ?_ _ | refine blk_drew ?_ | refine blk_alloc ?_ _)); exact BK126.out)) (below_size (by repeat (first | (with_reducible first | exact HB.out | apply below_alloc | apply pw_below_drewN | apply below_drew1 | refine below_set ?_ GE125.out | refine below_set ?_ GE126.out | refine below_set ?_ GE127.out) | exact HB.out)))); have n1_ := Aside0.mk (blk_below (g := gb125) (o := .cells #[.string a0_0, .int .i64 a0_1] 23 (0, 0)) (by (with_reducible repeat (first | refine blk_drewN ?_ _ | refine blk_drew ?_ | refine blk_alloc ?_ _)); exact BK125.out) hb); have n2_ := Aside0.mk (blk_below (g := gb126) (o := .cells #[.int .i64 a1_0, .int .i64 a1_1, .string a1_2, .bool a1_3] 31 (0, 0)) (by (with_reducible repeat (first | refine blk_drewN ?_ _ | refine blk_drew ?_ | refine blk_alloc ?_ _)); exact BK126.out) hb); have n3_ := Aside0.mk (blk_below (g := gb127) (o := .cells #[.string (⟨#[]⟩ : ByteArray), .int .i64 0] 23 (0, 0)) (by (with_reducible repeat (first | refine blk_drewN ?_ _ | refine blk_drew ?_ | refine blk_alloc ?_ _)); exact BK127.out) hb); have n4_ := Aside0.mk (below_step (by repeat (first | (with_reducible first | exact HB.out | apply below_alloc | apply pw_below_drewN | apply below_drew1 | refine below_set ?_ GE125.out | refine below_set ?_ GE126.out | refine below_set ?_ GE127.out) | exact HB.out)) hb); clear BK125; clear BK126; clear BK127; clear HB; have HO130 := n0_; have BK125 := n1_; have BK126 := n2_; have BK127 := n3_; have HB := n4_; clear n0_ n1_ n2_ n3_ n4_; clear hb ho16; obtain ⟨Ao17, co17, eo17⟩ := Kd.R_slice HO130.out; subst eo17) | ((with_reducible refine gate_callee (f := 9) rfl ?_); refine goesL_ (some 14) rfl rfl Tryz.func9 (by kernel_rfl) rfl #[.agg #[.string a0_0, .int .i64 a0_1], .slice Ao17 y128.length co17] rfl (by (try simp only [List.map_toArray, List.map_cons, List.map_nil]); first | done | rfl | (simp only [List.length_drop, List.length_take]; rfl) | (simp only [Int.toNat_natCast, ByteArray.extract_zero_size]; rfl)) ?_; (with_reducible refine (impl_EditedFrom.calls a0_0 a0_1 _ _ y128 t131 t132 t133 true _ ?side1 ?side2 A3.out).mono ?_); (case side1 => repeat (first | exact (Kd.R_reads' HO130.out).2.2 | (with_reducible refine Kd.C_alloc ?_ _) | (with_reducible refine Kd.C_drewN ?_ _) | (with_reducible refine Kd.C_drew ?_))); (case side2 => exact (Kd.R_reads' HO130.out).2.1); rintro e w18 ⟨v134, rfl, ho0, hb⟩; refine ⟨_, rfl, ?_⟩; have n0_ := Aside0.mk (Kd.R_below (by (with_reducible repeat (first | apply Kd.R_alloc | apply Kd.R_drewN | apply Kd.R_drew)); exact HO130.out) hb); have n1_ := Aside0.mk (Kd.R_lower ho0 (below_size (by repeat (first | (with_reducible first | exact HB.out | apply below_alloc | apply pw_below_drewN | apply below_drew1 | refine below_set ?_ GE125.out | refine below_set ?_ GE126.out | refine below_set ?_ GE127.out) | exact HB.out)))); have n2_ := Aside0.mk (blk_below (g := gb125) (o := .cells #[.string a0_0, .int .i64 a0_1] 23 (0, 0)) (by (with_reducible repeat (first | refine blk_drewN ?_ _ | refine blk_drew ?_ | refine blk_alloc ?_ _)); exact BK125.out) hb); have n3_ := Aside0.mk (blk_below (g := gb126) (o := .cells #[.int .i64 a1_0, .int .i64 a1_1, .string a1_2, .bool a1_3] 31 (0, 0)) (by (with_reducible repeat (first | refine blk_drewN ?_ _ | refine blk_drew ?_ | refine blk_alloc ?_ _)); exact BK126.out) hb); have n4_ := Aside0.mk (blk_below (g := gb127) (o := .cells #[.string (⟨#[]⟩ : ByteArray), .int .i64 0] 23 (0, 0)) (by (with_reducible repeat (first | refine blk_drewN ?_ _ | refine blk_drew ?_ | refine blk_alloc ?_ _)); exact BK127.out) hb); have n5_ := Aside0.mk (below_step (by repeat (first | (with_reducible first | exact HB.out | apply below_alloc | apply pw_below_drewN | apply below_drew1 | refine below_set ?_ GE125.out | refine below_set ?_ GE126.out | refine below_set ?_ GE127.out) | exact HB.out)) hb); clear HO130; clear BK125; clear BK126; clear BK127; clear HB; have HO130 := n0_; have HO135 := n1_; have BK125 := n2_; have BK126 := n3_; have BK127 := n4_; have HB := n5_; clear n0_ n1_ n2_ n3_ n4_ n5_; (try clear hb); (try clear hb2); (try clear hk); (try clear hi); (try clear ho0)) | ((with_reducible refine gate_dst (N := 7) rfl ?_); (try (refine gate_guard (by rfl) ?_; dsimp only)); refine box_event ?hg (N := 7) ?hd (cs := #[.string (⟨#[]⟩ : ByteArray), .int .i64 0]) (t := 23) ?hr ?_; (case hd => rfl); (case hg => rfl); (case hr => first | (go_simp; done) | (go_simp; rfl)); intro gb137 hg w19 hbox hb; have n0_ := Aside0.mk (Kd.R_below (by (with_reducible repeat (first | apply Kd.R_alloc | apply Kd.R_drewN | apply Kd.R_drew)); exact HO130.out) hb); have n1_ := Aside0.mk (Kd.R_below (by (with_reducible repeat (first | apply Kd.R_alloc | apply Kd.R_drewN | apply Kd.R_drew)); exact HO135.out) hb); have n2_ := Aside0.mk (blk_below (g := gb125) (o := .cells #[.string a0_0, .int .i64 a0_1] 23 (0, 0)) (by (with_reducible repeat (first | refine blk_drewN ?_ _ | refine blk_drew ?_ | refine blk_alloc ?_ _)); exact BK125.out) hb); have n3_ := Aside0.mk (blk_below (g := gb126) (o := .cells #[.int .i64 a1_0, .int .i64 a1_1, .string a1_2, .bool a1_3] 31 (0, 0)) (by (with_reducible repeat (first | refine blk_drewN ?_ _ | refine blk_drew ?_ | refine blk_alloc ?_ _)); exact BK126.out) hb); have n4_ := Aside0.mk (blk_below (g := gb127) (o := .cells #[.string (⟨#[]⟩ : ByteArray), .int .i64 0] 23 (0, 0)) (by (with_reducible repeat (first | refine blk_drewN ?_ _ | refine blk_drew ?_ | refine blk_alloc ?_ _)); exact BK127.out) hb); have n5_ := Aside0.mk (below_step (by repeat (first | (with_reducible first | exact HB.out | apply below_alloc | apply pw_below_drewN | apply below_drew1 | refine below_set ?_ GE125.out | refine below_set ?_ GE126.out | refine below_set ?_ GE127.out) | exact HB.out)) hb); have n6_ := Aside0.mk (hbox); have n7_ := Aside0.mk ((by rw [hg]; exact (below_size (by repeat (first | (with_reducible first | exact HB.out | apply below_alloc | apply pw_below_drewN | apply below_drew1 | refine below_set ?_ GE125.out | refine below_set ?_ GE126.out | refine below_set ?_ GE127.out) | exact HB.out))) : w.heap.size ≤ gb137)); have n8_ := Aside0.mk ((by rw [hg]; exact (below_size (by repeat (first | (with_reducible first | exact HB.out | apply below_alloc | apply pw_below_drewN | apply below_drew1 | refine below_set ?_ GE125.out | refine below_set ?_ GE126.out | refine below_set ?_ GE127.out) | exact HB.out))) : w.heap.size ≤ gb137)); have n9_ := Aside0.mk ((by rw [hg]; exact Nat.ne_of_lt (blk_lt (g := gb125) (o := .cells #[.string a0_0, .int .i64 a0_1] 23 (0, 0)) (by (with_reducible repeat (first | refine blk_drewN ?_ _ | refine blk_drew ?_ | refine blk_alloc ?_ _)); exact BK125.out)) : gb125 ≠ gb137)); have n10_ := Aside0.mk ((by rw [hg]; exact Nat.ne_of_gt (blk_lt (g := gb125) (o := .cells #[.string a0_0, .int .i64 a0_1] 23 (0, 0)) (by (with_reducible repeat (first | refine blk_drewN ?_ _ | refine blk_drew ?_ | refine blk_alloc ?_ _)); exact BK125.out)) : gb137 ≠ gb125)); have n11_ := Aside0.mk ((by rw [hg]; exact Nat.ne_of_lt (blk_lt (g := gb126) (o := .cells #[.int .i64 a1_0, .int .i64 a1_1, .string a1_2, .bool a1_3] 31 (0, 0)) (by (with_reducible repeat (first | refine blk_drewN ?_ _ | refine blk_drew ?_ | refine blk_alloc ?_ _)); exact BK126.out)) : gb126 ≠ gb137)); have n12_ := Aside0.mk ((by rw [hg]; exact Nat.ne_of_gt (blk_lt (g := gb126) (o := .cells #[.int .i64 a1_0, .int .i64 a1_1, .string a1_2, .bool a1_3] 31 (0, 0)) (by (with_reducible repeat (first | refine blk_drewN ?_ _ | refine blk_drew ?_ | refine blk_alloc ?_ _)); exact BK126.out)) : gb137 ≠ gb126)); have n13_ := Aside0.mk ((by rw [hg]; exact Nat.ne_of_lt (blk_lt (g := gb127) (o := .cells #[.string (⟨#[]⟩ : ByteArray), .int .i64 0] 23 (0, 0)) (by (with_reducible repeat (first | refine blk_drewN ?_ _ | refine blk_drew ?_ | refine blk_alloc ?_ _)); exact BK127.out)) : gb127 ≠ gb137)); have n14_ := Aside0.mk ((by rw [hg]; exact Nat.ne_of_gt (blk_lt (g := gb127) (o := .cells #[.string (⟨#[]⟩ : ByteArray), .int .i64 0] 23 (0, 0)) (by (with_reducible repeat (first | refine blk_drewN ?_ _ | refine blk_drew ?_ | refine blk_alloc ?_ _)); exact BK127.out)) : gb137 ≠ gb127)); clear HO130; clear HO135; clear BK125; clear BK126; clear BK127; clear HB; have HO130 := n0_; have HO135 := n1_; have BK125 := n2_; have BK126 := n3_; have BK127 := n4_; have HB := n5_; have BK137 := n6_; have GW137 := n7_; have GE137 := n8_; have NB125_137 := n9_; have NB137_125 := n10_; have NB126_137 := n11_; have NB137_126 := n12_; have NB127_137 := n13_; have NB137_127 := n14_; clear n0_ n1_ n2_ n3_ n4_ n5_ n6_ n7_ n8_ n9_ n10_ n11_ n12_ n13_ n14_; clear hb hbox hg; have hnb20 := NB137_125.out; have hnc20 := NB125_137.out; have hnb21 := NB137_126.out; have hnc21 := NB126_137.out; have hnb22 := NB137_127.out; have hnc22 := NB127_137.out; have hcz23_0 : w19.cell? ⟨gb137, 0, none⟩ = some (.string (⟨#[]⟩ : ByteArray)) := (blk_cell BK137.out 0).trans rfl; have hcz23_1 : w19.cell? ⟨gb137, 1, none⟩ = some (.int .i64 0) := (blk_cell BK137.out 1).trans rfl; have hfz23_0 := blk_frozen BK137.out 0; have hfz23_1 := blk_frozen BK137.out 1; obtain ⟨Ao24, co24, eo24⟩ := Kd.R_slice HO135.out; subst eo24))
        have n0_ : Aside0 (Kd.R k31 31 ((w19.setCell ⟨gb137, 0, none⟩ (.string t131)).setCell ⟨gb137, 1, none⟩ (.int .i64 t132)) w.heap.size (fun k_ => k_ ≠ gb126) (.slice Ao17 y128.length co17) y128) := ⟨by (with_reducible repeat (first | apply Kd.R_alloc | apply Kd.R_drewN | apply Kd.R_drew)); exact Kd.R_mono (Kd.R_far (p := ⟨gb137, 1, none⟩) (Kd.R_far (p := ⟨gb137, 0, none⟩) (Kd.R_types HO130.out BK137.out (by decide)) (fun _ hk => hk.2) (.string t131)) (fun _ hk => hk.2) (.int .i64 t132)) (fun _ hk => hk.1.2)⟩
        have n1_ : Aside0 (Kd.R Kd.string 9 ((w19.setCell ⟨gb137, 0, none⟩ (.string t131)).setCell ⟨gb137, 1, none⟩ (.int .i64 t132)) w.heap.size (fun _ => True) (.slice Ao24 t133.length co24) t133) := ⟨by (with_reducible repeat (first | apply Kd.R_alloc | apply Kd.R_drewN | apply Kd.R_drew)); exact Kd.R_mono (Kd.R_far (p := ⟨gb137, 1, none⟩) (Kd.R_far (p := ⟨gb137, 0, none⟩) (Kd.R_types HO135.out BK137.out (by decide)) (fun _ hk => hk.2) (.string t131)) (fun _ hk => hk.2) (.int .i64 t132)) (fun _ hk => trivial)⟩
        have n2_ : Aside0 (((w19.setCell ⟨gb137, 0, none⟩ (.string t131)).setCell ⟨gb137, 1, none⟩ (.int .i64 t132)).heap[gb125]? = some (.cells #[.string a0_0, .int .i64 a0_1] 23 (0, 0))) := ⟨by (with_reducible repeat (first | refine blk_drewN ?_ _ | refine blk_drew ?_ | refine blk_alloc ?_ _)); refine blk_far ?_ NB125_137.out _; (with_reducible repeat (first | refine blk_drewN ?_ _ | refine blk_drew ?_ | refine blk_alloc ?_ _)); refine blk_far ?_ NB125_137.out _; (with_reducible repeat (first | refine blk_drewN ?_ _ | refine blk_drew ?_ | refine blk_alloc ?_ _)); exact BK125.out⟩
        have n3_ : Aside0 (((w19.setCell ⟨gb137, 0, none⟩ (.string t131)).setCell ⟨gb137, 1, none⟩ (.int .i64 t132)).heap[gb126]? = some (.cells #[.int .i64 a1_0, .int .i64 a1_1, .string a1_2, .bool a1_3] 31 (0, 0))) := ⟨by (with_reducible repeat (first | refine blk_drewN ?_ _ | refine blk_drew ?_ | refine blk_alloc ?_ _)); refine blk_far ?_ NB126_137.out _; (with_reducible repeat (first | refine blk_drewN ?_ _ | refine blk_drew ?_ | refine blk_alloc ?_ _)); refine blk_far ?_ NB126_137.out _; (with_reducible repeat (first | refine blk_drewN ?_ _ | refine blk_drew ?_ | refine blk_alloc ?_ _)); exact BK126.out⟩
        have n4_ : Aside0 (((w19.setCell ⟨gb137, 0, none⟩ (.string t131)).setCell ⟨gb137, 1, none⟩ (.int .i64 t132)).heap[gb127]? = some (.cells #[.string (⟨#[]⟩ : ByteArray), .int .i64 0] 23 (0, 0))) := ⟨by (with_reducible repeat (first | refine blk_drewN ?_ _ | refine blk_drew ?_ | refine blk_alloc ?_ _)); refine blk_far ?_ NB127_137.out _; (with_reducible repeat (first | refine blk_drewN ?_ _ | refine blk_drew ?_ | refine blk_alloc ?_ _)); refine blk_far ?_ NB127_137.out _; (with_reducible repeat (first | refine blk_drewN ?_ _ | refine blk_drew ?_ | refine blk_alloc ?_ _)); exact BK127.out⟩
        have n5_ : Aside0 (((w19.setCell ⟨gb137, 0, none⟩ (.string t131)).setCell ⟨gb137, 1, none⟩ (.int .i64 t132)).heap[gb137]? = some (.cells #[.string t131, .int .i64 t132] 23 (0, 0))) := ⟨by (with_reducible repeat (first | refine blk_drewN ?_ _ | refine blk_drew ?_ | refine blk_alloc ?_ _)); refine blk_put (cs := #[.string t131, .int .i64 0]) ?_ 1 _ rfl; (with_reducible repeat (first | refine blk_drewN ?_ _ | refine blk_drew ?_ | refine blk_alloc ?_ _)); refine blk_put (cs := #[.string (⟨#[]⟩ : ByteArray), .int .i64 0]) ?_ 0 _ rfl; (with_reducible repeat (first | refine blk_drewN ?_ _ | refine blk_drew ?_ | refine blk_alloc ?_ _)); exact BK137.out⟩
        have n6_ : Aside0 (Below w.heap.size w ((w19.setCell ⟨gb137, 0, none⟩ (.string t131)).setCell ⟨gb137, 1, none⟩ (.int .i64 t132))) := ⟨by repeat (first | (with_reducible first | exact HB.out | apply below_alloc | apply pw_below_drewN | apply below_drew1 | refine below_set ?_ GE125.out | refine below_set ?_ GE126.out | refine below_set ?_ GE127.out | refine below_set ?_ GE137.out) | exact HB.out)⟩
        (try clear HO130)
        (try clear HO135)
        (try clear BK125)
        (try clear BK126)
        (try clear BK127)
        (try clear BK137)
        (try clear HB)
        generalize ((w19.setCell ⟨gb137, 0, none⟩ (.string t131)).setCell ⟨gb137, 1, none⟩ (.int .i64 t132)) = w25 at n0_ n1_ n2_ n3_ n4_ n5_ n6_ ⊢
        have HO130 := n0_
        have HO135 := n1_
        have BK125 := n2_
        have BK126 := n3_
        have BK127 := n4_
        have BK137 := n5_
        have HB := n6_
        clear n0_ n1_ n2_ n3_ n4_ n5_ n6_
        have n0_ := Aside0.mk (Kd.R_drew HO130.out)
        have n1_ := Aside0.mk (Kd.R_drew HO135.out)
        have n2_ := Aside0.mk (blk_drew BK125.out)
        have n3_ := Aside0.mk (blk_drew BK126.out)
        have n4_ := Aside0.mk (blk_drew BK127.out)
        have n5_ := Aside0.mk (blk_drew BK137.out)
        have n6_ := Aside0.mk (below_drew1 HB.out)
        clear HO130
        clear HO135
        clear BK125
        clear BK126
        clear BK127
        clear BK137
        clear HB
        have HO130 := n0_
        have HO135 := n1_
        have BK125 := n2_
        have BK126 := n3_
        have BK127 := n4_
        have BK137 := n5_
        have HB := n6_
        clear n0_ n1_ n2_ n3_ n4_ n5_ n6_
        have p138 : 0 ≤ (0 : Int) := (by omega)
        have q138 : 0 < (t133.length : Int) := of_decide_eq_true (by first | (with_reducible assumption) | assumption)
        obtain ⟨ad138, e138, hx138_0⟩ := Kd.at_string (Kd.R_reads' HO135.out).2.2 0 p138 q138
        cases e138
        have qi138 : (0 < t133.length) = True := eq_true (by omega)
        (try rw [show ((0 : Int)).toNat = 0 from rfl] at hx138_0)
        (try rw [Addr.add_zero'] at hx138_0)
        replace p138 := eq_true p138
        replace q138 := eq_true q138
        refine start_ (n := 7) (S := fun w' => w'.cell? ⟨gb137, 0, none⟩ = some (.string t131) ∧ w'.cell? ⟨gb137, 1, none⟩ = some (.int .i64 t132) ∧ w'.cell? ad138 = some (.string (rdOf ByteArray.empty t133 0))) (ds := []) #[false, false, false, false, false, false, false] (by kernel_rfl) rfl rfl ⟨(blk_cell BK137.out 0).trans rfl, (blk_cell BK137.out 1).trans rfl, hx138_0⟩ (fun hHeld => ?_)
        generalize w25.drew = w26 at HO130 HO135 BK125 BK126 BK127 BK137 HB hx138_0 hHeld ⊢
        refine pure_ (i := 1) (N := some 27) (v := ?_) (a' := ?_) #[false, true, false, false, false, false, false] rfl rfl (by kernel_rfl) (fun _ _ _ h => h) (Or.inl ⟨by rfl, ?_⟩) ?_ ?_
        rotate_left
        · intro w'
          go_simp
          with_reducible rfl
        rotate_left
        · simp only [Act.put, List.setIfInBounds_toArray, List.set_cons_zero, List.set_cons_succ, i64_w, i32_w]
          rfl
        refine pure_ (i := 2) (N := some 28) (v := ?_) (a' := ?_) #[false, true, true, false, false, false, false] rfl rfl (by kernel_rfl) (fun _ _ _ h => h) (Or.inl ⟨by rfl, ?_⟩) ?_ ?_
        rotate_left
        · intro w'
          go_simp
          with_reducible rfl
        rotate_left
        · simp only [Act.put, List.setIfInBounds_toArray, List.set_cons_zero, List.set_cons_succ, i64_w, i32_w]
          rfl
        refine take_ (i := 0) (N := some 26) (v := ?_) (a' := ?_) #[true, true, true, false, false, false, false] rfl rfl (by kernel_rfl) (fun _ _ _ h => h) (Or.inl ⟨by rfl, ?_⟩) hHeld ?_ ?_
        rotate_left
        · rintro w' ⟨s0, s1, s2⟩
          go_simp
          with_reducible rfl
        rotate_left
        · simp only [Act.put, List.setIfInBounds_toArray, List.set_cons_zero, List.set_cons_succ, i64_w, i32_w]
          rfl
        refine take_ (i := 3) (N := some 29) (v := ?_) (a' := ?_) #[true, true, true, true, false, false, false] rfl rfl (by kernel_rfl) (fun _ _ _ h => h) (Or.inl ⟨by rfl, ?_⟩) hHeld ?_ ?_
        rotate_left
        · rintro w' ⟨s0, s1, s2⟩
          go_simp
          with_reducible rfl
        rotate_left
        · simp only [Act.put, List.setIfInBounds_toArray, List.set_cons_zero, List.set_cons_succ, i64_w, i32_w]
          rfl
        refine one_ (i := 4) (N := none) #[true, true, true, true, true, false, false] rfl rfl (by kernel_rfl) (by decide) (fun K hK => ?_)
        have hs27 : w26.cell? ⟨gb127, 0, none⟩ = some (.string (⟨#[]⟩ : ByteArray)) := (blk_cell BK127.out 0).trans rfl
        have hfs27 := blk_frozen BK127.out 0
        have hns27_0 := NB125_127.out
        have hns27_1 := NB126_127.out
        have hns27_3 := NB137_127.out
        have hms27_0 := NB127_125.out
        have hms27_1 := NB127_126.out
        have hms27_3 := NB127_137.out
        have hs28 : w26.cell? ⟨gb127, 1, none⟩ = some (.int .i64 0) := (blk_cell BK127.out 1).trans rfl
        have hfs28 := blk_frozen BK127.out 1
        have hns28_0 := NB125_127.out
        have hns28_1 := NB126_127.out
        have hns28_3 := NB137_127.out
        have hms28_0 := NB127_125.out
        have hms28_1 := NB127_126.out
        have hms28_3 := NB127_137.out
        refine skip_ (w1 := ?_) (by rfl) rfl ?_ ?_
        rotate_left
        · go_simp
          rfl
        refine hK.out _ _ ⟨((cell_far (p := ⟨gb127, _, none⟩) NB137_127.out _).trans (((cell_far (p := ⟨gb127, _, none⟩) NB137_127.out _).trans (hHeld.1)))), ((cell_far (p := ⟨gb127, _, none⟩) NB137_127.out _).trans (((cell_far (p := ⟨gb127, _, none⟩) NB137_127.out _).trans (hHeld.2.1)))), ((cell_far (p := ⟨gb127, _, none⟩) (by first | exact Kd.own_blk (Kd.R_ne HO135.out BK127.out (by decide)) | (rw [Go.Proofs.YtkfmjkiefckgoaaGreatDoorW.PrintWords.add_block]; exact Kd.own_blk (Kd.R_ne HO135.out BK127.out (by decide))) | (show (Addr.add _ _).block ≠ _; rw [Go.Proofs.YtkfmjkiefckgoaaGreatDoorW.PrintWords.add_block]; exact Kd.own_blk (Kd.R_ne HO135.out BK127.out (by decide))) | (dsimp only; exact Kd.own_blk (Kd.R_ne HO135.out BK127.out (by decide)))) _).trans (((cell_far (p := ⟨gb127, _, none⟩) (by first | exact Kd.own_blk (Kd.R_ne HO135.out BK127.out (by decide)) | (rw [Go.Proofs.YtkfmjkiefckgoaaGreatDoorW.PrintWords.add_block]; exact Kd.own_blk (Kd.R_ne HO135.out BK127.out (by decide))) | (show (Addr.add _ _).block ≠ _; rw [Go.Proofs.YtkfmjkiefckgoaaGreatDoorW.PrintWords.add_block]; exact Kd.own_blk (Kd.R_ne HO135.out BK127.out (by decide))) | (dsimp only; exact Kd.own_blk (Kd.R_ne HO135.out BK127.out (by decide)))) _).trans (hHeld.2.2))))⟩ (fun hHeld => ?_)
        clear hK K
        refine pure_ (i := 5) (N := some 5) (v := ?_) (a' := ?_) #[true, true, true, true, true, true, false] rfl rfl (by kernel_rfl) (fun _ _ _ h => h) (Or.inl ⟨by rfl, ?_⟩) ?_ ?_
        rotate_left
        · intro w'
          go_simp
          with_reducible rfl
        rotate_left
        · simp only [Act.put, List.setIfInBounds_toArray, List.set_cons_zero, List.set_cons_succ, i64_w, i32_w]
          rfl
        refine pure_ (i := 6) (N := some 6) (v := ?_) (a' := ?_) #[true, true, true, true, true, true, true] rfl rfl (by kernel_rfl) (fun _ _ _ h => h) (Or.inl ⟨by rfl, ?_⟩) ?_ ?_
        rotate_left
        · intro w'
          go_simp
          with_reducible rfl
        rotate_left
        · simp only [Act.put, List.setIfInBounds_toArray, List.set_cons_zero, List.set_cons_succ, i64_w, i32_w]
          rfl
        refine done_ (by kernel_rfl) ?_
        try go_wp2
        refine bodyPost_ret (results_ctt rfl _ _ gb127 23 #[.string t131, .int .i64 t132] (0, 0) _ rfl (by (with_reducible repeat (first | refine blk_drewN ?_ _ | refine blk_drew ?_ | refine blk_alloc ?_ _)); refine blk_put (cs := #[.string t131, .int .i64 0]) ?_ 1 _ rfl; (with_reducible repeat (first | refine blk_drewN ?_ _ | refine blk_drew ?_ | refine blk_alloc ?_ _)); refine blk_put (cs := #[.string (⟨#[]⟩ : ByteArray), .int .i64 0]) ?_ 0 _ rfl; (with_reducible repeat (first | refine blk_drewN ?_ _ | refine blk_drew ?_ | refine blk_alloc ?_ _)); exact BK127.out) Tryz.underlying23 rfl (by kernel_rfl)) rfl ?_
        exact ⟨by first | rfl | (simp [errW_none, errW_some] <;> rfl) | (simp [*, errW_none, errW_some] <;> rfl), by repeat (first | (with_reducible first | exact HB.out | apply below_alloc | apply pw_below_drewN | apply below_drew1 | refine below_set ?_ GE125.out | refine below_set ?_ GE126.out | refine below_set ?_ GE127.out | refine below_set ?_ GE137.out) | exact HB.out)⟩
      · rw [if_neg c6] at H
        exact absurd H (by simp)
    · rw [if_neg c5] at H
      have c5b0 : ((t133.length : Int) == 1) = false := beq_eq_false_iff_ne.mpr c5
      have c5b1 : ((t133.length : Int) != 1) = true := bne_iff_ne.mpr c5
      simp only [Option.some.injEq, Prod.mk.injEq] at H
      obtain ⟨rfl, rfl, rfl, rfl⟩ := H
      go_enter Tryz.func14, Tryz.ntmps14
      go_wp2_with (first | ((with_reducible refine gate_dst (N := 2) rfl ?_); (try (refine gate_guard (by rfl) ?_; dsimp only)); refine box_event ?hg (N := 2) ?hd (cs := #[.string a0_0, .int .i64 a0_1]) (t := 23) ?hr ?_; (case hd => rfl); (case hg => rfl); (case hr => first | (go_simp; done) | (go_simp; rfl)); intro gb125 hg w29 hbox hb; have n0_ := Aside0.mk (below_step (by repeat (first | (with_reducible first | exact HB.out | apply below_alloc | apply pw_below_drewN | apply below_drew1) | exact HB.out)) hb); have n1_ := Aside0.mk (hbox); have n2_ := Aside0.mk ((by rw [hg]; exact (below_size (by repeat (first | (with_reducible first | exact HB.out | apply below_alloc | apply pw_below_drewN | apply below_drew1) | exact HB.out))) : w.heap.size ≤ gb125)); have n3_ := Aside0.mk ((by rw [hg]; exact (below_size (by repeat (first | (with_reducible first | exact HB.out | apply below_alloc | apply pw_below_drewN | apply below_drew1) | exact HB.out))) : w.heap.size ≤ gb125)); clear HB; have HB := n0_; have BK125 := n1_; have GW125 := n2_; have GE125 := n3_; clear n0_ n1_ n2_ n3_; clear hb hbox hg) | ((with_reducible refine gate_dst (N := 3) rfl ?_); (try (refine gate_guard (by rfl) ?_; dsimp only)); refine box_event ?hg (N := 3) ?hd (cs := #[.int .i64 a1_0, .int .i64 a1_1, .string a1_2, .bool a1_3]) (t := 31) ?hr ?_; (case hd => rfl); (case hg => rfl); (case hr => first | (go_simp; done) | (go_simp; rfl)); intro gb126 hg w30 hbox hb; have n0_ := Aside0.mk (blk_below (g := gb125) (o := .cells #[.string a0_0, .int .i64 a0_1] 23 (0, 0)) (by (with_reducible repeat (first | refine blk_drewN ?_ _ | refine blk_drew ?_ | refine blk_alloc ?_ _)); exact BK125.out) hb); have n1_ := Aside0.mk (below_step (by repeat (first | (with_reducible first | exact HB.out | apply below_alloc | apply pw_below_drewN | apply below_drew1 | refine below_set ?_ GE125.out) | exact HB.out)) hb); have n2_ := Aside0.mk (hbox); have n3_ := Aside0.mk ((by rw [hg]; exact (below_size (by repeat (first | (with_reducible first | exact HB.out | apply below_alloc | apply pw_below_drewN | apply below_drew1 | refine below_set ?_ GE125.out) | exact HB.out))) : w.heap.size ≤ gb126)); have n4_ := Aside0.mk ((by rw [hg]; exact (below_size (by repeat (first | (with_reducible first | exact HB.out | apply below_alloc | apply pw_below_drewN | apply below_drew1 | refine below_set ?_ GE125.out) | exact HB.out))) : w.heap.size ≤ gb126)); have n5_ := Aside0.mk ((by rw [hg]; exact Nat.ne_of_lt (blk_lt (g := gb125) (o := .cells #[.string a0_0, .int .i64 a0_1] 23 (0, 0)) (by (with_reducible repeat (first | refine blk_drewN ?_ _ | refine blk_drew ?_ | refine blk_alloc ?_ _)); exact BK125.out)) : gb125 ≠ gb126)); have n6_ := Aside0.mk ((by rw [hg]; exact Nat.ne_of_gt (blk_lt (g := gb125) (o := .cells #[.string a0_0, .int .i64 a0_1] 23 (0, 0)) (by (with_reducible repeat (first | refine blk_drewN ?_ _ | refine blk_drew ?_ | refine blk_alloc ?_ _)); exact BK125.out)) : gb126 ≠ gb125)); clear BK125; clear HB; have BK125 := n0_; have HB := n1_; have BK126 := n2_; have GW126 := n3_; have GE126 := n4_; have NB125_126 := n5_; have NB126_125 := n6_; clear n0_ n1_ n2_ n3_ n4_ n5_ n6_; clear hb hbox hg) | ((with_reducible refine gate_dst (N := 4) rfl ?_); (try (refine gate_guard (by rfl) ?_; dsimp only)); refine box_event ?hg (N := 4) ?hd (cs := #[.string (⟨#[]⟩ : ByteArray), .int .i64 0]) (t := 23) ?hr ?_; (case hd => rfl); (case hg => rfl); (case hr => first | (go_simp; done) | (go_simp; rfl)); intro gb127 hg w31 hbox hb; have n0_ := Aside0.mk (blk_below (g := gb125) (o := .cells #[.string a0_0, .int .i64 a0_1] 23 (0, 0)) (by (with_reducible repeat (first | refine blk_drewN ?_ _ | refine blk_drew ?_ | refine blk_alloc ?_ _)); exact BK125.out) hb); have n1_ := Aside0.mk (blk_below (g := gb126) (o := .cells #[.int .i64 a1_0, .int .i64 a1_1, .string a1_2, .bool a1_3] 31 (0, 0)) (by (with_reducible repeat (first | refine blk_drewN ?_ _ | refine blk_drew ?_ | refine blk_alloc ?_ _)); exact BK126.out) hb); have n2_ := Aside0.mk (below_step (by repeat (first | (with_reducible first | exact HB.out | apply below_alloc | apply pw_below_drewN | apply below_drew1 | refine below_set ?_ GE125.out | refine below_set ?_ GE126.out) | exact HB.out)) hb); have n3_ := Aside0.mk (hbox); have n4_ := Aside0.mk ((by rw [hg]; exact (below_size (by repeat (first | (with_reducible first | exact HB.out | apply below_alloc | apply pw_below_drewN | apply below_drew1 | refine below_set ?_ GE125.out | refine below_set ?_ GE126.out) | exact HB.out))) : w.heap.size ≤ gb127)); have n5_ := Aside0.mk ((by rw [hg]; exact (below_size (by repeat (first | (with_reducible first | exact HB.out | apply below_alloc | apply pw_below_drewN | apply below_drew1 | refine below_set ?_ GE125.out | refine below_set ?_ GE126.out) | exact HB.out))) : w.heap.size ≤ gb127)); have n6_ := Aside0.mk ((by rw [hg]; exact Nat.ne_of_lt (blk_lt (g := gb125) (o := .cells #[.string a0_0, .int .i64 a0_1] 23 (0, 0)) (by (with_reducible repeat (first | refine blk_drewN ?_ _ | refine blk_drew ?_ | refine blk_alloc ?_ _)); exact BK125.out)) : gb125 ≠ gb127)); have n7_ := Aside0.mk ((by rw [hg]; exact Nat.ne_of_gt (blk_lt (g := gb125) (o := .cells #[.string a0_0, .int .i64 a0_1] 23 (0, 0)) (by (with_reducible repeat (first | refine blk_drewN ?_ _ | refine blk_drew ?_ | refine blk_alloc ?_ _)); exact BK125.out)) : gb127 ≠ gb125)); have n8_ := Aside0.mk ((by rw [hg]; exact Nat.ne_of_lt (blk_lt (g := gb126) (o := .cells #[.int .i64 a1_0, .int .i64 a1_1, .string a1_2, .bool a1_3] 31 (0, 0)) (by (with_reducible repeat (first | refine blk_drewN ?_ _ | refine blk_drew ?_ | refine blk_alloc ?_ _)); exact BK126.out)) : gb126 ≠ gb127)); have n9_ := Aside0.mk ((by rw [hg]; exact Nat.ne_of_gt (blk_lt (g := gb126) (o := .cells #[.int .i64 a1_0, .int .i64 a1_1, .string a1_2, .bool a1_3] 31 (0, 0)) (by (with_reducible repeat (first | refine blk_drewN ?_ _ | refine blk_drew ?_ | refine blk_alloc ?_ _)); exact BK126.out)) : gb127 ≠ gb126)); clear BK125; clear BK126; clear HB; have BK125 := n0_; have BK126 := n1_; have HB := n2_; have BK127 := n3_; have GW127 := n4_; have GE127 := n5_; have NB125_127 := n6_; have NB127_125 := n7_; have NB126_127 := n8_; have NB127_126 := n9_; clear n0_ n1_ n2_ n3_ n4_ n5_ n6_ n7_ n8_ n9_; clear hb hbox hg; have hnb32 := NB125_126.out; have hnc32 := NB126_125.out; have hnb33 := NB125_127.out; have hnc33 := NB127_125.out; have hcz34_0 : w31.cell? ⟨gb125, 0, none⟩ = some (.string a0_0) := (blk_cell BK125.out 0).trans rfl; have hcz34_1 : w31.cell? ⟨gb125, 1, none⟩ = some (.int .i64 a0_1) := (blk_cell BK125.out 1).trans rfl; have hfz34_0 := blk_frozen BK125.out 0; have hfz34_1 := blk_frozen BK125.out 1; have hnb35 := NB126_127.out; have hnc35 := NB127_126.out; have hcz36_0 : w31.cell? ⟨gb126, 0, none⟩ = some (.int .i64 a1_0) := (blk_cell BK126.out 0).trans rfl; have hcz36_1 : w31.cell? ⟨gb126, 1, none⟩ = some (.int .i64 a1_1) := (blk_cell BK126.out 1).trans rfl; have hcz36_2 : w31.cell? ⟨gb126, 2, none⟩ = some (.string a1_2) := (blk_cell BK126.out 2).trans rfl; have hcz36_3 : w31.cell? ⟨gb126, 3, none⟩ = some (.bool a1_3) := (blk_cell BK126.out 3).trans rfl; have hfz36_0 := blk_frozen BK126.out 0; have hfz36_1 := blk_frozen BK126.out 1; have hfz36_2 := blk_frozen BK126.out 2; have hfz36_3 := blk_frozen BK126.out 3) | ((with_reducible refine gate_dst (N := 13) rfl ?_); (try (refine gate_guard (by rfl) ?_; dsimp only)); refine Kd.R_lit k31 _ 31 ?hg (N := 13) ?hd (xs := ([(⟨a1_0, a1_1, a1_2, a1_3⟩ : S31)] : List (S31))) (inner := [.int .i64 a1_0, .int .i64 a1_1, .string a1_2, .bool a1_3]) (ok := fun _ => True) (okp := fun _ => True) ?hr ?hp (fun _ hk => hk) trivial (Below.refl _ _) (Nat.le_refl _) (by simp) ?_; (case hd => rfl); (case hg => rfl); (case hr => first | (go_simp; done) | (go_simp; rfl)); (case hp => exact (Reps.c4 (show Kd.M k31 _ _ _ (⟨a1_0, a1_1, a1_2, a1_3⟩ : S31) [.int .i64 a1_0, .int .i64 a1_1, .string a1_2, .bool a1_3] from (k31_mkM _ _ _ (⟨a1_0, a1_1, a1_2, a1_3⟩ : S31) )) (Reps.none _ _))); intro v129 w37 ho38 hb hg_ hnew_; clear hg_ hnew_; (first | rw [← Ny128.out] at ho38 | (simp only [Int.reduceToNat] at ho38; rw [← Ny128.out] at ho38)); have n0_ := Aside0.mk (Kd.R_lower (Kd.R_newB ho38 (g := gb126) (o := .cells #[.int .i64 a1_0, .int .i64 a1_1, .string a1_2, .bool a1_3] 31 (0, 0)) (by (with_reducible repeat (first | refine blk_drewN ?_ _ | refine blk_drew ?_ | refine blk_alloc ?_ _)); exact BK126.out)) (below_size (by repeat (first | (with_reducible first | exact HB.out | apply below_alloc | apply pw_below_drewN | apply below_drew1 | refine below_set ?_ GE125.out | refine below_set ?_ GE126.out | refine below_set ?_ GE127.out) | exact HB.out)))); have n1_ := Aside0.mk (blk_below (g := gb125) (o := .cells #[.string a0_0, .int .i64 a0_1] 23 (0, 0)) (by (with_reducible repeat (first | refine blk_drewN ?_ _ | refine blk_drew ?_ | refine blk_alloc ?_ _)); exact BK125.out) hb); have n2_ := Aside0.mk (blk_below (g := gb126) (o := .cells #[.int .i64 a1_0, .int .i64 a1_1, .string a1_2, .bool a1_3] 31 (0, 0)) (by (with_reducible repeat (first | refine blk_drewN ?_ _ | refine blk_drew ?_ | refine blk_alloc ?_ _)); exact BK126.out) hb); have n3_ := Aside0.mk (blk_below (g := gb127) (o := .cells #[.string (⟨#[]⟩ : ByteArray), .int .i64 0] 23 (0, 0)) (by (with_reducible repeat (first | refine blk_drewN ?_ _ | refine blk_drew ?_ | refine blk_alloc ?_ _)); exact BK127.out) hb); have n4_ := Aside0.mk (below_step (by repeat (first | (with_reducible first | exact HB.out | apply below_alloc | apply pw_below_drewN | apply below_drew1 | refine below_set ?_ GE125.out | refine below_set ?_ GE126.out | refine below_set ?_ GE127.out) | exact HB.out)) hb); clear BK125; clear BK126; clear BK127; clear HB; have HO130 := n0_; have BK125 := n1_; have BK126 := n2_; have BK127 := n3_; have HB := n4_; clear n0_ n1_ n2_ n3_ n4_; clear hb ho38; obtain ⟨Ao39, co39, eo39⟩ := Kd.R_slice HO130.out; subst eo39) | ((with_reducible refine gate_callee (f := 9) rfl ?_); refine goesL_ (some 14) rfl rfl Tryz.func9 (by kernel_rfl) rfl #[.agg #[.string a0_0, .int .i64 a0_1], .slice Ao39 y128.length co39] rfl (by (try simp only [List.map_toArray, List.map_cons, List.map_nil]); first | done | rfl | (simp only [List.length_drop, List.length_take]; rfl) | (simp only [Int.toNat_natCast, ByteArray.extract_zero_size]; rfl)) ?_; (with_reducible refine (impl_EditedFrom.calls a0_0 a0_1 _ _ y128 t131 t132 t133 true _ ?side1 ?side2 A3.out).mono ?_); (case side1 => repeat (first | exact (Kd.R_reads' HO130.out).2.2 | (with_reducible refine Kd.C_alloc ?_ _) | (with_reducible refine Kd.C_drewN ?_ _) | (with_reducible refine Kd.C_drew ?_))); (case side2 => exact (Kd.R_reads' HO130.out).2.1); rintro e w40 ⟨v134, rfl, ho0, hb⟩; refine ⟨_, rfl, ?_⟩; have n0_ := Aside0.mk (Kd.R_below (by (with_reducible repeat (first | apply Kd.R_alloc | apply Kd.R_drewN | apply Kd.R_drew)); exact HO130.out) hb); have n1_ := Aside0.mk (Kd.R_lower ho0 (below_size (by repeat (first | (with_reducible first | exact HB.out | apply below_alloc | apply pw_below_drewN | apply below_drew1 | refine below_set ?_ GE125.out | refine below_set ?_ GE126.out | refine below_set ?_ GE127.out) | exact HB.out)))); have n2_ := Aside0.mk (blk_below (g := gb125) (o := .cells #[.string a0_0, .int .i64 a0_1] 23 (0, 0)) (by (with_reducible repeat (first | refine blk_drewN ?_ _ | refine blk_drew ?_ | refine blk_alloc ?_ _)); exact BK125.out) hb); have n3_ := Aside0.mk (blk_below (g := gb126) (o := .cells #[.int .i64 a1_0, .int .i64 a1_1, .string a1_2, .bool a1_3] 31 (0, 0)) (by (with_reducible repeat (first | refine blk_drewN ?_ _ | refine blk_drew ?_ | refine blk_alloc ?_ _)); exact BK126.out) hb); have n4_ := Aside0.mk (blk_below (g := gb127) (o := .cells #[.string (⟨#[]⟩ : ByteArray), .int .i64 0] 23 (0, 0)) (by (with_reducible repeat (first | refine blk_drewN ?_ _ | refine blk_drew ?_ | refine blk_alloc ?_ _)); exact BK127.out) hb); have n5_ := Aside0.mk (below_step (by repeat (first | (with_reducible first | exact HB.out | apply below_alloc | apply pw_below_drewN | apply below_drew1 | refine below_set ?_ GE125.out | refine below_set ?_ GE126.out | refine below_set ?_ GE127.out) | exact HB.out)) hb); clear HO130; clear BK125; clear BK126; clear BK127; clear HB; have HO130 := n0_; have HO135 := n1_; have BK125 := n2_; have BK126 := n3_; have BK127 := n4_; have HB := n5_; clear n0_ n1_ n2_ n3_ n4_ n5_; (try clear hb); (try clear hb2); (try clear hk); (try clear hi); (try clear ho0)) | ((with_reducible refine gate_dst (N := 7) rfl ?_); (try (refine gate_guard (by rfl) ?_; dsimp only)); refine box_event ?hg (N := 7) ?hd (cs := #[.string (⟨#[]⟩ : ByteArray), .int .i64 0]) (t := 23) ?hr ?_; (case hd => rfl); (case hg => rfl); (case hr => first | (go_simp; done) | (go_simp; rfl)); intro gb137 hg w41 hbox hb; have n0_ := Aside0.mk (Kd.R_below (by (with_reducible repeat (first | apply Kd.R_alloc | apply Kd.R_drewN | apply Kd.R_drew)); exact HO130.out) hb); have n1_ := Aside0.mk (Kd.R_below (by (with_reducible repeat (first | apply Kd.R_alloc | apply Kd.R_drewN | apply Kd.R_drew)); exact HO135.out) hb); have n2_ := Aside0.mk (blk_below (g := gb125) (o := .cells #[.string a0_0, .int .i64 a0_1] 23 (0, 0)) (by (with_reducible repeat (first | refine blk_drewN ?_ _ | refine blk_drew ?_ | refine blk_alloc ?_ _)); exact BK125.out) hb); have n3_ := Aside0.mk (blk_below (g := gb126) (o := .cells #[.int .i64 a1_0, .int .i64 a1_1, .string a1_2, .bool a1_3] 31 (0, 0)) (by (with_reducible repeat (first | refine blk_drewN ?_ _ | refine blk_drew ?_ | refine blk_alloc ?_ _)); exact BK126.out) hb); have n4_ := Aside0.mk (blk_below (g := gb127) (o := .cells #[.string (⟨#[]⟩ : ByteArray), .int .i64 0] 23 (0, 0)) (by (with_reducible repeat (first | refine blk_drewN ?_ _ | refine blk_drew ?_ | refine blk_alloc ?_ _)); exact BK127.out) hb); have n5_ := Aside0.mk (below_step (by repeat (first | (with_reducible first | exact HB.out | apply below_alloc | apply pw_below_drewN | apply below_drew1 | refine below_set ?_ GE125.out | refine below_set ?_ GE126.out | refine below_set ?_ GE127.out) | exact HB.out)) hb); have n6_ := Aside0.mk (hbox); have n7_ := Aside0.mk ((by rw [hg]; exact (below_size (by repeat (first | (with_reducible first | exact HB.out | apply below_alloc | apply pw_below_drewN | apply below_drew1 | refine below_set ?_ GE125.out | refine below_set ?_ GE126.out | refine below_set ?_ GE127.out) | exact HB.out))) : w.heap.size ≤ gb137)); have n8_ := Aside0.mk ((by rw [hg]; exact (below_size (by repeat (first | (with_reducible first | exact HB.out | apply below_alloc | apply pw_below_drewN | apply below_drew1 | refine below_set ?_ GE125.out | refine below_set ?_ GE126.out | refine below_set ?_ GE127.out) | exact HB.out))) : w.heap.size ≤ gb137)); have n9_ := Aside0.mk ((by rw [hg]; exact Nat.ne_of_lt (blk_lt (g := gb125) (o := .cells #[.string a0_0, .int .i64 a0_1] 23 (0, 0)) (by (with_reducible repeat (first | refine blk_drewN ?_ _ | refine blk_drew ?_ | refine blk_alloc ?_ _)); exact BK125.out)) : gb125 ≠ gb137)); have n10_ := Aside0.mk ((by rw [hg]; exact Nat.ne_of_gt (blk_lt (g := gb125) (o := .cells #[.string a0_0, .int .i64 a0_1] 23 (0, 0)) (by (with_reducible repeat (first | refine blk_drewN ?_ _ | refine blk_drew ?_ | refine blk_alloc ?_ _)); exact BK125.out)) : gb137 ≠ gb125)); have n11_ := Aside0.mk ((by rw [hg]; exact Nat.ne_of_lt (blk_lt (g := gb126) (o := .cells #[.int .i64 a1_0, .int .i64 a1_1, .string a1_2, .bool a1_3] 31 (0, 0)) (by (with_reducible repeat (first | refine blk_drewN ?_ _ | refine blk_drew ?_ | refine blk_alloc ?_ _)); exact BK126.out)) : gb126 ≠ gb137)); have n12_ := Aside0.mk ((by rw [hg]; exact Nat.ne_of_gt (blk_lt (g := gb126) (o := .cells #[.int .i64 a1_0, .int .i64 a1_1, .string a1_2, .bool a1_3] 31 (0, 0)) (by (with_reducible repeat (first | refine blk_drewN ?_ _ | refine blk_drew ?_ | refine blk_alloc ?_ _)); exact BK126.out)) : gb137 ≠ gb126)); have n13_ := Aside0.mk ((by rw [hg]; exact Nat.ne_of_lt (blk_lt (g := gb127) (o := .cells #[.string (⟨#[]⟩ : ByteArray), .int .i64 0] 23 (0, 0)) (by (with_reducible repeat (first | refine blk_drewN ?_ _ | refine blk_drew ?_ | refine blk_alloc ?_ _)); exact BK127.out)) : gb127 ≠ gb137)); have n14_ := Aside0.mk ((by rw [hg]; exact Nat.ne_of_gt (blk_lt (g := gb127) (o := .cells #[.string (⟨#[]⟩ : ByteArray), .int .i64 0] 23 (0, 0)) (by (with_reducible repeat (first | refine blk_drewN ?_ _ | refine blk_drew ?_ | refine blk_alloc ?_ _)); exact BK127.out)) : gb137 ≠ gb127)); clear HO130; clear HO135; clear BK125; clear BK126; clear BK127; clear HB; have HO130 := n0_; have HO135 := n1_; have BK125 := n2_; have BK126 := n3_; have BK127 := n4_; have HB := n5_; have BK137 := n6_; have GW137 := n7_; have GE137 := n8_; have NB125_137 := n9_; have NB137_125 := n10_; have NB126_137 := n11_; have NB137_126 := n12_; have NB127_137 := n13_; have NB137_127 := n14_; clear n0_ n1_ n2_ n3_ n4_ n5_ n6_ n7_ n8_ n9_ n10_ n11_ n12_ n13_ n14_; clear hb hbox hg; have hnb42 := NB137_125.out; have hnc42 := NB125_137.out; have hnb43 := NB137_126.out; have hnc43 := NB126_137.out; have hnb44 := NB137_127.out; have hnc44 := NB127_137.out; have hcz45_0 : w41.cell? ⟨gb137, 0, none⟩ = some (.string (⟨#[]⟩ : ByteArray)) := (blk_cell BK137.out 0).trans rfl; have hcz45_1 : w41.cell? ⟨gb137, 1, none⟩ = some (.int .i64 0) := (blk_cell BK137.out 1).trans rfl; have hfz45_0 := blk_frozen BK137.out 0; have hfz45_1 := blk_frozen BK137.out 1; obtain ⟨Ao46, co46, eo46⟩ := Kd.R_slice HO135.out; subst eo46; have hcz47_0 : w41.cell? ⟨gb125, 0, none⟩ = some (.string a0_0) := (blk_cell BK125.out 0).trans rfl; have hcz47_1 : w41.cell? ⟨gb125, 1, none⟩ = some (.int .i64 a0_1) := (blk_cell BK125.out 1).trans rfl; have hfz47_0 := blk_frozen BK125.out 0; have hfz47_1 := blk_frozen BK125.out 1; have hcz48_0 : w41.cell? ⟨gb127, 0, none⟩ = some (.string (⟨#[]⟩ : ByteArray)) := (blk_cell BK127.out 0).trans rfl; have hcz48_1 : w41.cell? ⟨gb127, 1, none⟩ = some (.int .i64 0) := (blk_cell BK127.out 1).trans rfl; have hfz48_0 := blk_frozen BK127.out 0; have hfz48_1 := blk_frozen BK127.out 1))
      refine bodyPost_ret (results_ctt rfl _ _ gb127 23 #[.string a0_0, .int .i64 a0_1] (0, 0) _ rfl (by (with_reducible repeat (first | refine blk_drewN ?_ _ | refine blk_drew ?_ | refine blk_alloc ?_ _)); refine blk_put (cs := #[.string a0_0, .int .i64 0]) ?_ 1 _ rfl; (with_reducible repeat (first | refine blk_drewN ?_ _ | refine blk_drew ?_ | refine blk_alloc ?_ _)); refine blk_put (cs := #[.string (⟨#[]⟩ : ByteArray), .int .i64 0]) ?_ 0 _ rfl; (with_reducible repeat (first | refine blk_drewN ?_ _ | refine blk_drew ?_ | refine blk_alloc ?_ _)); refine blk_far ?_ NB127_137.out _; (with_reducible repeat (first | refine blk_drewN ?_ _ | refine blk_drew ?_ | refine blk_alloc ?_ _)); refine blk_far ?_ NB127_137.out _; (with_reducible repeat (first | refine blk_drewN ?_ _ | refine blk_drew ?_ | refine blk_alloc ?_ _)); exact BK127.out) Tryz.underlying23 rfl (by kernel_rfl)) rfl ?_
      exact ⟨by first | rfl | (simp [errW_none, errW_some] <;> rfl) | (simp [*, errW_none, errW_some] <;> rfl), by repeat (first | (with_reducible first | exact HB.out | apply below_alloc | apply pw_below_drewN | apply below_drew1 | refine below_set ?_ GE125.out | refine below_set ?_ GE126.out | refine below_set ?_ GE127.out | refine below_set ?_ GE137.out) | exact HB.out)⟩
  · replace c4 := Bool.eq_false_iff.mpr c4
    subst c4
    have H1 : (none) = some (r1, r2, r3, r4) := by rw [if_neg (show ¬ (false = true) by decide)] at H; exact H
    clear H
    have H := H1
    clear H1
    exact absurd H (by simp)
/-! ### spec_count: function 54 -/
def spec_count.f (a0 : ByteArray) : Option (Int) := if (runesOf a0).length ≤ 70368744177664 then (some ((runesOf a0).length : Int)) else (none)
set_option maxHeartbeats 8000000 in
set_option maxRecDepth 100000 in
theorem spec_count.calls (a0 : ByteArray) (r : Int) (w : World) (h : spec_count.f a0 = some r) :
    Calls Tryz.prog 54 #[.string a0] w fun e w' => e = .returned (.int .i64 r) ∧ Below w.heap.size w w' := by
  have HB := Aside0.mk (Below.refl w.heap.size w)
  have H : (if (runesOf a0).length ≤ 70368744177664 then (some ((runesOf a0).length : Int)) else (none)) = some r := h
  clear h
  by_cases c2 : (runesOf a0).length ≤ 70368744177664
  · rw [if_pos c2] at H
    have c2b0 := eq_true c2
    have c2b1 : decide ((runesOf a0).length ≤ 70368744177664) = true := decide_eq_true c2
    clear c2
    obtain ⟨y139, hy139⟩ : ∃ y_ : List Int, y_ = (runesOf a0) := ⟨_, rfl⟩
    replace H : (some (y139.length : Int)) = some r := by first | (rw [hy139]; with_reducible exact H) | (have H2_ := (Option.bind_some _ _).symm.trans H; rw [hy139]; with_reducible exact H2_) | (have H2_ := (Option.bind_some _ _).symm.trans H; with_reducible exact H2_) | with_reducible exact H | (rw [hy139]; exact H) | exact H
    have Ny139 := Aside0.mk hy139
    clear hy139
    obtain rfl := Option.some.inj H
    go_enter Tryz.func54, Tryz.ntmps54
    go_wp2_with (first | ((with_reducible refine gate_dst (N := 4) rfl ?_); refine R_runes _ 21 rfl (N := 4) rfl 9 58 _ rfl a0 rfl Tryz.underlying9 Tryz.underlying58 Tryz.underlying21 (ok := fun _ => True) (okp := fun _ => True) (fun _ hk => hk) trivial (of_decide_eq_true (by first | (with_reducible assumption) | assumption)) (Below.refl _ _) (Nat.le_refl _) ?_; intro v140 w3 ho4 hb hg_ hnew_; clear hg_ hnew_; (first | rw [← Ny139.out] at ho4 | (simp only [Int.reduceToNat] at ho4; rw [← Ny139.out] at ho4)); have n0_ := Aside0.mk (Kd.R_lower ho4 (below_size (by repeat (first | (with_reducible first | exact HB.out | apply below_alloc | apply pw_below_drewN | apply below_drew1) | exact HB.out)))); have n1_ := Aside0.mk (below_step (by repeat (first | (with_reducible first | exact HB.out | apply below_alloc | apply pw_below_drewN | apply below_drew1) | exact HB.out)) hb); clear HB; have HO141 := n0_; have HB := n1_; clear n0_ n1_; clear hb ho4; obtain ⟨Ao5, co5, eo5⟩ := Kd.R_slice HO141.out; subst eo5))
    go_ret
    exact ⟨by first | rfl | (simp [errW_none, errW_some] <;> rfl) | (simp [*, errW_none, errW_some] <;> rfl), by repeat (first | (with_reducible first | exact HB.out | apply below_alloc | apply pw_below_drewN | apply below_drew1) | exact HB.out)⟩
  · rw [if_neg c2] at H
    exact absurd H (by simp)
/-! ### spec_last: function 43 -/
def spec_last.l0 : Nat → ByteArray → ByteArray → Bool → Int → Option (Int)
  | 0, _, _, _, _ => none
  | k + 1, x0, x1, x2, x7 => if x7 ≥ 0 then (if 0 ≤ x7 then (if x7 < (x0.size : Int) then ((spec_hasByte.f k x1 (bt x0 x7)).bind fun t142 => (if (t142 != x2) = true then (some x7) else (spec_last.l0 k x0 x1 x2 (wrap64 (x7 - 1))))) else (none)) else (none)) else (some (-1))
def spec_last.f (k : Nat) (a0 : ByteArray) (a1 : ByteArray) (a2 : Bool) : Option (Int) := spec_last.l0 k a0 a1 a2 (wrap64 ((a0.size : Int) - 1))
theorem spec_last.mono_l : ∀ k, (∀ y0 y1 y2 y3, LeO (spec_last.l0 k y0 y1 y2 y3) (spec_last.l0 (k + 1) y0 y1 y2 y3))
  | 0 => fun _ _ _ _ r h => by simp [spec_last.l0] at h
  | k + 1 => by
    have ih0 := spec_last.mono_l k
    · intro y0 y1 y2 y3
      unfold spec_last.l0
      repeat' first
      | (with_reducible exact ih0 _ _ _ _)
      | (with_reducible exact spec_hasByte.mono _ _ _)
      | (with_reducible exact LeO.refl _)
      | (with_reducible exact LeO.none _)
      | (with_reducible refine LeO.ite ?_ ?_)
      | (with_reducible refine LeO.bind ?_ (fun _ => ?_))
      | exact ih0 _ _ _ _
      | exact spec_hasByte.mono _ _ _
      | exact LeO.none _
      | refine LeO.ite ?_ ?_
      | refine LeO.bind ?_ (fun _ => ?_)
theorem spec_last.mono : ∀ a0 a1 a2 k, LeO (spec_last.f k a0 a1 a2) (spec_last.f (k + 1) a0 a1 a2) := by
  intro a0 a1 a2 k
  have ih0 := spec_last.mono_l k
  unfold spec_last.f
  repeat' first
      | (with_reducible exact ih0 _ _ _ _)
      | (with_reducible exact spec_hasByte.mono _ _ _)
      | (with_reducible exact LeO.refl _)
      | (with_reducible exact LeO.none _)
      | (with_reducible refine LeO.ite ?_ ?_)
      | (with_reducible refine LeO.bind ?_ (fun _ => ?_))
      | exact ih0 _ _ _ _
      | exact spec_hasByte.mono _ _ _
      | exact LeO.none _
      | refine LeO.ite ?_ ?_
      | refine LeO.bind ?_ (fun _ => ?_)
set_option maxHeartbeats 8000000 in
set_option maxRecDepth 100000 in
theorem spec_last.calls (k : Nat) (a0 : ByteArray) (a1 : ByteArray) (a2 : Bool) (r : Int) (w : World) (h : spec_last.f k a0 a1 a2 = some r) :
    Calls Tryz.prog 43 #[.string a0, .string a1, .bool a2] w fun e w' => e = .returned (.int .i64 r) ∧ Drawn0 w w' := by
  have H : (spec_last.l0 k a0 a1 a2 (wrap64 ((a0.size : Int) - 1))) = some r := h
  clear h
  have H' := Aside0.mk H
  clear H
  go_enter Tryz.func43, Tryz.ntmps43
  go_wp2
  go_loopg [7] k (fun kq v7 w' => ∃ (x7_1 : Int), v7 = .int .i64 x7_1 ∧ Aside0 (spec_last.l0 kq a0 a1 a2 x7_1 = some r) ∧ Aside0 (kq ≤ k) ∧ Drawn0 w w')
  case atStart => exact ⟨(wrap64 ((a0.size : Int) - 1)), (by first | rfl | (simp; done) | (simp [*]; done)), H', ⟨Nat.le_refl _⟩, by repeat (first | exact Drawn0.refl _ | apply Drawn0.step)⟩
  case round =>
    clear H'
    try clear p2
    obtain ⟨x7_1, rfl, HA, HK1, ⟨m1, rfl⟩⟩ := hrel
    cases gk with
    | zero => exact absurd HA.out (by simp [spec_last.l0])
    | succ k1 =>
      have H := HA.out
      clear HA
      simp only [spec_last.l0] at H
      by_cases c4 : x7_1 ≥ 0
      · rw [if_pos c4] at H
        have c4b0 : decide (0 ≤ x7_1) = true := decide_eq_true c4
        clear c4
        by_cases c5 : 0 ≤ x7_1
        · rw [if_pos c5] at H
          have c5b0 : decide (0 ≤ x7_1) = true := decide_eq_true c5
          clear c5
          by_cases c6 : x7_1 < (a0.size : Int)
          · rw [if_pos c6] at H
            have c6b0 : decide (x7_1 < (a0.size : Int)) = true := decide_eq_true c6
            clear c6
            replace H := Option.bind_eq_some_iff.mp H
            obtain ⟨t142, A80, H⟩ := H
            replace H : (if (t142 != a2) = true then (some x7_1) else (spec_last.l0 k1 a0 a1 a2 (wrap64 (x7_1 - 1)))) = some r := H
            have A8 := Aside0.mk A80
            clear A80
            by_cases c9 : (t142 != a2) = true
            · rw [if_pos c9] at H
              have c9b0 : (t142 != a2) = true := c9
              (try (have c9b1 : decide (t142 = a2) = false := by simpa using c9))
              (try (have c9b2 : (t142 == a2) = false := by simpa using c9))
              (try (have c9b3 : ¬ (t142 = a2) := by simpa using c9))
              clear c9
              obtain rfl := Option.some.inj H
              have p7 : 0 ≤ (x7_1 : Int) := of_decide_eq_true (by first | (with_reducible assumption) | assumption)
              have q7 : x7_1 < (a0.size : Int) := of_decide_eq_true (by first | (with_reducible assumption) | assumption)
              have hx7 := bt_at a0 x7_1
              replace p7 := eq_true p7
              replace q7 := eq_true q7
              go_wp2_with (first | ((with_reducible refine gate_callee (f := 53) rfl ?_); refine goesL_ (some 19) rfl rfl Tryz.func53 (by kernel_rfl) rfl #[.string a1, .int .u8 (bt a0 x7_1)] rfl (by (try simp only [List.map_toArray, List.map_cons, List.map_nil]); first | done | rfl | (simp only [List.length_drop, List.length_take]; rfl) | (simp only [Int.toNat_natCast, ByteArray.extract_zero_size]; rfl)) ?_; (with_reducible refine (spec_hasByte.calls k1 a1 (bt a0 x7_1) t142 _ A8.out).mono ?_); rintro e w' ⟨rfl, ⟨nd, rfl⟩⟩; refine ⟨_, rfl, ?_⟩))
              go_ret
              exact ⟨by first | rfl | (simp; done) | (simp [*]; done), by repeat (first | exact Drawn0.refl _ | apply Drawn0.step)⟩
            · rw [if_neg c9] at H
              have c9b0 : (t142 != a2) = false := by simpa using c9
              (try (have c9b1 : decide (t142 = a2) = true := by simpa using c9))
              (try (have c9b2 : (t142 == a2) = true := by simpa using c9))
              clear c9
              have H' := Aside0.mk H
              clear H
              have p7 : 0 ≤ (x7_1 : Int) := of_decide_eq_true (by first | (with_reducible assumption) | assumption)
              have q7 : x7_1 < (a0.size : Int) := of_decide_eq_true (by first | (with_reducible assumption) | assumption)
              have hx7 := bt_at a0 x7_1
              replace p7 := eq_true p7
              replace q7 := eq_true q7
              go_wp2_with (first | ((with_reducible refine gate_callee (f := 53) rfl ?_); refine goesL_ (some 19) rfl rfl Tryz.func53 (by kernel_rfl) rfl #[.string a1, .int .u8 (bt a0 x7_1)] rfl (by (try simp only [List.map_toArray, List.map_cons, List.map_nil]); first | done | rfl | (simp only [List.length_drop, List.length_take]; rfl) | (simp only [Int.toNat_natCast, ByteArray.extract_zero_size]; rfl)) ?_; (with_reducible refine (spec_hasByte.calls k1 a1 (bt a0 x7_1) t142 _ A8.out).mono ?_); rintro e w' ⟨rfl, ⟨nd, rfl⟩⟩; refine ⟨_, rfl, ?_⟩))
              go_roundg k1
              case measure => have := HK1.out; omega
              case rel => exact ⟨(wrap64 (x7_1 - 1)), (by first | rfl | (simp; done) | (simp [*]; done)), H', ⟨by have := HK1.out; omega⟩, by repeat (first | exact Drawn0.refl _ | apply Drawn0.step)⟩
          · rw [if_neg c6] at H
            exact absurd H (by simp)
        · rw [if_neg c5] at H
          exact absurd H (by simp)
      · rw [if_neg c4] at H
        have c4b0 : decide (0 ≤ x7_1) = false := decide_eq_false c4
        clear c4
        obtain rfl := Option.some.inj H
        go_wp2
        go_ret
        exact ⟨by first | rfl | (simp; done) | (simp [*]; done), by repeat (first | exact Drawn0.refl _ | apply Drawn0.step)⟩
/-! ### spec_LineBefore: function 55 -/
def spec_LineBefore.f (k : Nat) (a0_0 : ByteArray) (a0_1 : Int) : Option (ByteArray) := (spec_Before.f a0_0 a0_1).bind fun t144 => ((spec_last.f k t144 (⟨#[10]⟩ : ByteArray) false).bind fun t145 => (if 0 ≤ (wrap64 (t145 + 1)) then (if (wrap64 (t145 + 1)) ≤ (t144.size : Int) then (some (t144.extract ((wrap64 (t145 + 1)) : Int).toNat t144.size)) else (none)) else (none)))
theorem spec_LineBefore.mono : ∀ a0 a1 k, LeO (spec_LineBefore.f k a0 a1) (spec_LineBefore.f (k + 1) a0 a1) := by
  intro a0 a1 k
  unfold spec_LineBefore.f
  repeat' first
      | (with_reducible exact spec_last.mono _ _ _ _)
      | (with_reducible exact LeO.refl _)
      | (with_reducible exact LeO.none _)
      | (with_reducible refine LeO.ite ?_ ?_)
      | (with_reducible refine LeO.bind ?_ (fun _ => ?_))
      | exact spec_last.mono _ _ _ _
      | exact LeO.none _
      | refine LeO.ite ?_ ?_
      | refine LeO.bind ?_ (fun _ => ?_)
set_option maxHeartbeats 8000000 in
set_option maxRecDepth 100000 in
theorem spec_LineBefore.calls (k : Nat) (a0_0 : ByteArray) (a0_1 : Int) (r : ByteArray) (w : World) (h : spec_LineBefore.f k a0_0 a0_1 = some r) :
    Calls Tryz.prog 55 #[.agg #[.string a0_0, .int .i64 a0_1]] w fun e w' => e = .returned (.string r) ∧ Below w.heap.size w w' := by
  have hu23 := Tryz.underlying23
  have HB := Aside0.mk (Below.refl w.heap.size w)
  have H : ((spec_Before.f a0_0 a0_1).bind fun t144 => ((spec_last.f k t144 (⟨#[10]⟩ : ByteArray) false).bind fun t145 => (if 0 ≤ (wrap64 (t145 + 1)) then (if (wrap64 (t145 + 1)) ≤ (t144.size : Int) then (some (t144.extract ((wrap64 (t145 + 1)) : Int).toNat t144.size)) else (none)) else (none)))) = some r := h
  clear h
  replace H := Option.bind_eq_some_iff.mp H
  obtain ⟨t144, A20, H⟩ := H
  replace H : ((spec_last.f k t144 (⟨#[10]⟩ : ByteArray) false).bind fun t145 => (if 0 ≤ (wrap64 (t145 + 1)) then (if (wrap64 (t145 + 1)) ≤ (t144.size : Int) then (some (t144.extract ((wrap64 (t145 + 1)) : Int).toNat t144.size)) else (none)) else (none))) = some r := H
  have A2 := Aside0.mk A20
  clear A20
  replace H := Option.bind_eq_some_iff.mp H
  obtain ⟨t145, A30, H⟩ := H
  replace H : (if 0 ≤ (wrap64 (t145 + 1)) then (if (wrap64 (t145 + 1)) ≤ (t144.size : Int) then (some (t144.extract ((wrap64 (t145 + 1)) : Int).toNat t144.size)) else (none)) else (none)) = some r := H
  have A3 := Aside0.mk A30
  clear A30
  obtain ⟨ji4, hji4⟩ : ∃ j_ : Int, (wrap64 (t145 + 1)) = j_ := ⟨_, rfl⟩
  replace H : (if 0 ≤ (ji4) then (if (ji4) ≤ (t144.size : Int) then (some (t144.extract ((ji4) : Int).toNat t144.size)) else (none)) else (none)) = some r := by first | (rw [hji4] at H; exact H) | (simp only [hji4] at H ⊢; exact H)
  (try rw [hji4] at A2)
  (try rw [hji4] at A3)
  have hji4w : (IntKind.i64.wrap (t145 + 1)) = ji4 := (i64_w _).trans hji4
  by_cases c5 : 0 ≤ (ji4)
  · rw [if_pos c5] at H
    have c5b0 := eq_true c5
    have c5b1 : decide (0 ≤ (ji4)) = true := decide_eq_true c5
    clear c5
    by_cases c6 : (ji4) ≤ (t144.size : Int)
    · rw [if_pos c6] at H
      have c6b0 := eq_true c6
      have c6b1 : decide ((ji4) ≤ (t144.size : Int)) = true := decide_eq_true c6
      clear c6
      obtain rfl := Option.some.inj H
      go_enter Tryz.func55, Tryz.ntmps55
      go_wp2_with (first | ((with_reducible refine gate_dst (N := 1) rfl ?_); refine box_event ?hg (N := 1) ?hd (cs := #[.string a0_0, .int .i64 a0_1]) (t := 23) ?hr ?_; (case hd => rfl); (case hg => rfl); (case hr => first | (go_simp; done) | (go_simp; rfl)); intro gb143 hg w7 hbox hb; have n0_ := Aside0.mk (below_step (by repeat (first | (with_reducible first | exact HB.out | apply below_alloc | apply pw_below_drewN | apply below_drew1) | exact HB.out)) hb); have n1_ := Aside0.mk (hbox); have n2_ := Aside0.mk ((by rw [hg]; exact (below_size (by repeat (first | (with_reducible first | exact HB.out | apply below_alloc | apply pw_below_drewN | apply below_drew1) | exact HB.out))) : w.heap.size ≤ gb143)); have n3_ := Aside0.mk ((by rw [hg]; exact (below_size (by repeat (first | (with_reducible first | exact HB.out | apply below_alloc | apply pw_below_drewN | apply below_drew1) | exact HB.out))) : w.heap.size ≤ gb143)); clear HB; have HB := n0_; have BK143 := n1_; have GW143 := n2_; have GE143 := n3_; clear n0_ n1_ n2_ n3_; clear hb hbox hg; have hcz8_0 : w7.cell? ⟨gb143, 0, none⟩ = some (.string a0_0) := (blk_cell BK143.out 0).trans rfl; have hcz8_1 : w7.cell? ⟨gb143, 1, none⟩ = some (.int .i64 a0_1) := (blk_cell BK143.out 1).trans rfl; have hfz8_0 := blk_frozen BK143.out 0; have hfz8_1 := blk_frozen BK143.out 1) | ((with_reducible refine gate_callee (f := 27) rfl ?_); refine goesL_ (some 5) rfl rfl Tryz.func27 (by kernel_rfl) rfl #[.agg #[.string a0_0, .int .i64 a0_1]] rfl (by (try simp only [List.map_toArray, List.map_cons, List.map_nil]); first | done | rfl | (simp only [List.length_drop, List.length_take]; rfl) | (simp only [Int.toNat_natCast, ByteArray.extract_zero_size]; rfl)) ?_; (with_reducible refine (spec_Before.calls a0_0 a0_1 t144 _ A2.out).mono ?_); rintro e w9 ⟨rfl, hb⟩; refine ⟨_, rfl, ?_⟩; have n0_ := Aside0.mk (blk_below (g := gb143) (o := .cells #[.string a0_0, .int .i64 a0_1] 23 (0, 0)) (by (with_reducible repeat (first | refine blk_drewN ?_ _ | refine blk_drew ?_ | refine blk_alloc ?_ _)); exact BK143.out) hb); have n1_ := Aside0.mk (below_step (by repeat (first | (with_reducible first | exact HB.out | apply below_alloc | apply pw_below_drewN | apply below_drew1 | refine below_set ?_ GE143.out) | exact HB.out)) hb); clear BK143; clear HB; have BK143 := n0_; have HB := n1_; clear n0_ n1_; (try clear hb); (try clear hb2); (try clear hk); (try clear hi)) | ((with_reducible refine gate_callee (f := 43) rfl ?_); refine goesL_ (some 8) rfl rfl Tryz.func43 (by kernel_rfl) rfl #[.string t144, .string (⟨#[10]⟩ : ByteArray), .bool false] rfl (by (try simp only [List.map_toArray, List.map_cons, List.map_nil]); first | done | rfl | (simp only [List.length_drop, List.length_take]; rfl) | (simp only [Int.toNat_natCast, ByteArray.extract_zero_size]; rfl)) ?_; (with_reducible refine (spec_last.calls k t144 (⟨#[10]⟩ : ByteArray) false t145 _ A3.out).mono ?_); rintro e w' ⟨rfl, ⟨nd, rfl⟩⟩; refine ⟨_, rfl, ?_⟩))
      go_ret
      exact ⟨by first | rfl | (simp [errW_none, errW_some] <;> rfl) | (simp only [← hji4]; first | rfl | (simp [errW_none, errW_some] <;> rfl)) | (simp [*, errW_none, errW_some] <;> rfl), by repeat (first | (with_reducible first | exact HB.out | apply below_alloc | apply pw_below_drewN | apply below_drew1 | refine below_set ?_ GE143.out) | exact HB.out)⟩
    · rw [if_neg c6] at H
      exact absurd H (by simp)
  · rw [if_neg c5] at H
    exact absurd H (by simp)
/-! ### spec_Column: function 28 -/
def spec_Column.f (k : Nat) (a0_0 : ByteArray) (a0_1 : Int) : Option (Int) := (spec_LineBefore.f k a0_0 a0_1).bind fun t147 => ((spec_count.f t147).bind fun t148 => (some t148))
theorem spec_Column.mono : ∀ a0 a1 k, LeO (spec_Column.f k a0 a1) (spec_Column.f (k + 1) a0 a1) := by
  intro a0 a1 k
  unfold spec_Column.f
  repeat' first
      | (with_reducible exact spec_LineBefore.mono _ _ _)
      | (with_reducible exact LeO.refl _)
      | (with_reducible exact LeO.none _)
      | (with_reducible refine LeO.ite ?_ ?_)
      | (with_reducible refine LeO.bind ?_ (fun _ => ?_))
      | exact spec_LineBefore.mono _ _ _
      | exact LeO.none _
      | refine LeO.ite ?_ ?_
      | refine LeO.bind ?_ (fun _ => ?_)
set_option maxHeartbeats 8000000 in
set_option maxRecDepth 100000 in
theorem spec_Column.calls (k : Nat) (a0_0 : ByteArray) (a0_1 : Int) (r : Int) (w : World) (h : spec_Column.f k a0_0 a0_1 = some r) :
    Calls Tryz.prog 28 #[.agg #[.string a0_0, .int .i64 a0_1]] w fun e w' => e = .returned (.int .i64 r) ∧ Below w.heap.size w w' := by
  have hu23 := Tryz.underlying23
  have HB := Aside0.mk (Below.refl w.heap.size w)
  have H : ((spec_LineBefore.f k a0_0 a0_1).bind fun t147 => ((spec_count.f t147).bind fun t148 => (some t148))) = some r := h
  clear h
  replace H := Option.bind_eq_some_iff.mp H
  obtain ⟨t147, A20, H⟩ := H
  replace H : ((spec_count.f t147).bind fun t148 => (some t148)) = some r := H
  have A2 := Aside0.mk A20
  clear A20
  replace H := Option.bind_eq_some_iff.mp H
  obtain ⟨t148, A30, H⟩ := H
  replace H : (some t148) = some r := H
  have A3 := Aside0.mk A30
  clear A30
  obtain rfl := Option.some.inj H
  go_enter Tryz.func28, Tryz.ntmps28
  go_wp2_with (first | ((with_reducible refine gate_dst (N := 1) rfl ?_); refine box_event ?hg (N := 1) ?hd (cs := #[.string a0_0, .int .i64 a0_1]) (t := 23) ?hr ?_; (case hd => rfl); (case hg => rfl); (case hr => first | (go_simp; done) | (go_simp; rfl)); intro gb146 hg w4 hbox hb; have n0_ := Aside0.mk (below_step (by repeat (first | (with_reducible first | exact HB.out | apply below_alloc | apply pw_below_drewN | apply below_drew1) | exact HB.out)) hb); have n1_ := Aside0.mk (hbox); have n2_ := Aside0.mk ((by rw [hg]; exact (below_size (by repeat (first | (with_reducible first | exact HB.out | apply below_alloc | apply pw_below_drewN | apply below_drew1) | exact HB.out))) : w.heap.size ≤ gb146)); have n3_ := Aside0.mk ((by rw [hg]; exact (below_size (by repeat (first | (with_reducible first | exact HB.out | apply below_alloc | apply pw_below_drewN | apply below_drew1) | exact HB.out))) : w.heap.size ≤ gb146)); clear HB; have HB := n0_; have BK146 := n1_; have GW146 := n2_; have GE146 := n3_; clear n0_ n1_ n2_ n3_; clear hb hbox hg; have hcz5_0 : w4.cell? ⟨gb146, 0, none⟩ = some (.string a0_0) := (blk_cell BK146.out 0).trans rfl; have hcz5_1 : w4.cell? ⟨gb146, 1, none⟩ = some (.int .i64 a0_1) := (blk_cell BK146.out 1).trans rfl; have hfz5_0 := blk_frozen BK146.out 0; have hfz5_1 := blk_frozen BK146.out 1) | ((with_reducible refine gate_callee (f := 55) rfl ?_); refine goesL_ (some 4) rfl rfl Tryz.func55 (by kernel_rfl) rfl #[.agg #[.string a0_0, .int .i64 a0_1]] rfl (by (try simp only [List.map_toArray, List.map_cons, List.map_nil]); first | done | rfl | (simp only [List.length_drop, List.length_take]; rfl) | (simp only [Int.toNat_natCast, ByteArray.extract_zero_size]; rfl)) ?_; (with_reducible refine (spec_LineBefore.calls k a0_0 a0_1 t147 _ A2.out).mono ?_); rintro e w6 ⟨rfl, hb⟩; refine ⟨_, rfl, ?_⟩; have n0_ := Aside0.mk (blk_below (g := gb146) (o := .cells #[.string a0_0, .int .i64 a0_1] 23 (0, 0)) (by (with_reducible repeat (first | refine blk_drewN ?_ _ | refine blk_drew ?_ | refine blk_alloc ?_ _)); exact BK146.out) hb); have n1_ := Aside0.mk (below_step (by repeat (first | (with_reducible first | exact HB.out | apply below_alloc | apply pw_below_drewN | apply below_drew1 | refine below_set ?_ GE146.out) | exact HB.out)) hb); clear BK146; clear HB; have BK146 := n0_; have HB := n1_; clear n0_ n1_; (try clear hb); (try clear hb2); (try clear hk); (try clear hi)) | ((with_reducible refine gate_callee (f := 54) rfl ?_); refine goesL_ (some 5) rfl rfl Tryz.func54 (by kernel_rfl) rfl #[.string t147] rfl (by (try simp only [List.map_toArray, List.map_cons, List.map_nil]); first | done | rfl | (simp only [List.length_drop, List.length_take]; rfl) | (simp only [Int.toNat_natCast, ByteArray.extract_zero_size]; rfl)) ?_; (with_reducible refine (spec_count.calls t147 t148 _ A3.out).mono ?_); rintro e w7 ⟨rfl, hb⟩; refine ⟨_, rfl, ?_⟩; have n0_ := Aside0.mk (blk_below (g := gb146) (o := .cells #[.string a0_0, .int .i64 a0_1] 23 (0, 0)) (by (with_reducible repeat (first | refine blk_drewN ?_ _ | refine blk_drew ?_ | refine blk_alloc ?_ _)); exact BK146.out) hb); have n1_ := Aside0.mk (below_step (by repeat (first | (with_reducible first | exact HB.out | apply below_alloc | apply pw_below_drewN | apply below_drew1 | refine below_set ?_ GE146.out) | exact HB.out)) hb); clear BK146; clear HB; have BK146 := n0_; have HB := n1_; clear n0_ n1_; (try clear hb); (try clear hb2); (try clear hk); (try clear hi)))
  go_ret
  exact ⟨by first | rfl | (simp [errW_none, errW_some] <;> rfl) | (simp [*, errW_none, errW_some] <;> rfl), by repeat (first | (with_reducible first | exact HB.out | apply below_alloc | apply pw_below_drewN | apply below_drew1 | refine below_set ?_ GE146.out) | exact HB.out)⟩
end Go.Proofs.YtkfmjkiefckgoaaGreatDoor.PFnUpDown
