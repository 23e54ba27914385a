/- Printed by a program of this seat (xprint) out of the translation: Go functions as plain functions, and the walks that show them; no condition. -/
import Derived.Test.YtdinikcfhpfojaaDoorQPDox0
import Derived.Test.YtdinikcfhpfojaaDoorQHWhole
import Derived.Test.YtdinikcfhpfojaaDoorQPDox1
import Derived.Test.YtdinikcfhpfojaaDoorQPDox3
namespace Go.Proofs.YtdinikcfhpfojaaDoor.PDo
open Go.RowKit Go.Proofs.YtdinikcfhpfojaaDoor.H Go.Proofs.YtdinikcfhpfojaaDoor.R Go.Proofs.YtdinikcfhpfojaaDoorW.PrintWords Go.Proofs.YtdinikcfhpfojaaDoorW.PrintLast Go.Proofs.YtdinikcfhpfojaaDoorW.PrintMore
attribute [local go_sem] max2_int min2_int max_two min_two max_three min_three max_four min_four   -- for this text's walks alone
set_option linter.unusedVariables false
set_option linter.unusedSimpArgs false
/-! ### spec_Editor_Do: function 31 -/
def spec_Editor_Do.j0 : Nat → Bool → List Int → Int → List Int → Bool → Bool → Int → ByteArray → Int → Bool → Bool → Option (Int × Int × Bool × Bool)
  | 0, _, _, _, _, _, _, _, _, _, _, _ => none
  | k + 1, x16, x1000, x1001, x1002, x1003, x1004, x166000, x166001, x166002, x166003, x166004 => if x16 = true then (some ((-1), x1001, x1003, x1004)) else (if x166000 = 1 then (if (runesOf x166001).length ≤ 70368744177664 then (none) else (none)) else (if x166000 = 2 then (some ((-1), mn (wrap64 (x1001 + 1)) (x1000.length : Int), x1003, x1004)) else (if x166000 = 3 then (some ((-1), mx (wrap64 (x1001 - 1)) 0, x1003, x1004)) else (if x166000 = 4 then (some ((-1), 0, x1003, x1004)) else (if x166000 = 5 then (some ((-1), (x1000.length : Int), x1003, x1004)) else (if x166000 = 6 then (if x1001 = (x1000.length : Int) then (some (0, x1001, x1003, x1004)) else (none)) else (if x166000 = 7 then (if x1001 > 0 then (none) else (some ((-1), x1001, x1003, x1004))) else (if x166000 = 8 then (if x1001 = (x1000.length : Int) then (some ((-1), x1001, true, x1004)) else (none)) else (if x166000 = 9 then (none) else (if x166000 = 10 then ((spec_Editor_before.f k x1000 x1001 x1002 x1003 x1004 x1001).bind fun bt172 => ((spec_told.f (decide (x1001 > 0))).bind fun t176 => (some (t176, mx bt172.1 0, bt172.2.2.1, bt172.2.2.2)))) else (if x166000 = 11 then ((spec_Editor_after.f k x1000 x1001 x1002 x1003 x1004 x1001).bind fun bt177 => (if bt177.1 < 0 then (some ((-1), (x1000.length : Int), bt177.2.2.1, bt177.2.2.2)) else (some ((-1), bt177.1, bt177.2.2.1, bt177.2.2.2)))) else ((spec_Editor_more.f k x1000 x1001 x1002 x1003 x1004 x166000 x166001 x166002 x166003 x166004).bind fun bt181 => (some (bt181.1, bt181.2.1, bt181.2.2.1, bt181.2.2.2))))))))))))))
def spec_Editor_Do.f (k : Nat) (s0_0 : List Int) (s0_1 : Int) (s0_2 : List Int) (s0_3 : Bool) (s0_4 : Bool) (a1_0 : Int) (a1_1 : ByteArray) (a1_2 : Int) (a1_3 : Bool) (a1_4 : Bool) : Option (Int × Int × Bool × Bool) := if s0_3 = true then (spec_Editor_Do.j0 k true s0_0 s0_1 s0_2 s0_3 s0_4 a1_0 a1_1 a1_2 a1_3 a1_4) else (spec_Editor_Do.j0 k s0_4 s0_0 s0_1 s0_2 s0_3 s0_4 a1_0 a1_1 a1_2 a1_3 a1_4)
theorem spec_Editor_Do.mono_l : ∀ k, (∀ y0 y1 y2 y3 y4 y5 y6 y7 y8 y9 y10, LeO (spec_Editor_Do.j0 k y0 y1 y2 y3 y4 y5 y6 y7 y8 y9 y10) (spec_Editor_Do.j0 (k + 1) y0 y1 y2 y3 y4 y5 y6 y7 y8 y9 y10))
  | 0 => fun _ _ _ _ _ _ _ _ _ _ _ r h => by simp [spec_Editor_Do.j0] at h
  | k + 1 => by
    have ih0 := spec_Editor_Do.mono_l k
    · intro y0 y1 y2 y3 y4 y5 y6 y7 y8 y9 y10
      unfold spec_Editor_Do.j0
      repeat' first
      | (with_reducible exact ih0 _ _ _ _ _ _ _ _ _ _ _)
      | (with_reducible exact spec_Editor_after.mono _ _ _ _ _ _ _)
      | (with_reducible exact spec_Editor_before.mono _ _ _ _ _ _ _)
      | (with_reducible exact spec_Editor_more.mono _ _ _ _ _ _ _ _ _ _ _)
      | (with_reducible exact LeO.refl _)
      | (with_reducible exact LeO.none _)
      | (with_reducible refine LeO.ite ?_ ?_)
      | (with_reducible refine LeO.bind ?_ (fun _ => ?_))
      | exact ih0 _ _ _ _ _ _ _ _ _ _ _
      | exact spec_Editor_after.mono _ _ _ _ _ _ _
      | exact spec_Editor_before.mono _ _ _ _ _ _ _
      | exact spec_Editor_more.mono _ _ _ _ _ _ _ _ _ _ _
      | exact LeO.none _
      | refine LeO.ite ?_ ?_
      | refine LeO.bind ?_ (fun _ => ?_)
theorem spec_Editor_Do.mono : ∀ a0 a1 a2 a3 a4 a5 a6 a7 a8 a9 k, LeO (spec_Editor_Do.f k a0 a1 a2 a3 a4 a5 a6 a7 a8 a9) (spec_Editor_Do.f (k + 1) a0 a1 a2 a3 a4 a5 a6 a7 a8 a9) := by
  intro a0 a1 a2 a3 a4 a5 a6 a7 a8 a9 k
  have ih0 := spec_Editor_Do.mono_l k
  unfold spec_Editor_Do.f
  repeat' first
      | (with_reducible exact ih0 _ _ _ _ _ _ _ _ _ _ _)
      | (with_reducible exact spec_Editor_after.mono _ _ _ _ _ _ _)
      | (with_reducible exact spec_Editor_before.mono _ _ _ _ _ _ _)
      | (with_reducible exact spec_Editor_more.mono _ _ _ _ _ _ _ _ _ _ _)
      | (with_reducible exact LeO.refl _)
      | (with_reducible exact LeO.none _)
      | (with_reducible refine LeO.ite ?_ ?_)
      | (with_reducible refine LeO.bind ?_ (fun _ => ?_))
      | exact ih0 _ _ _ _ _ _ _ _ _ _ _
      | exact spec_Editor_after.mono _ _ _ _ _ _ _
      | exact spec_Editor_before.mono _ _ _ _ _ _ _
      | exact spec_Editor_more.mono _ _ _ _ _ _ _ _ _ _ _
      | exact LeO.none _
      | refine LeO.ite ?_ ?_
      | refine LeO.bind ?_ (fun _ => ?_)
set_option maxHeartbeats 8000000 in
set_option maxRecDepth 100000 in
theorem spec_Editor_Do.calls (k : Nat) (g : Nat) (s0_0 : List Int) (s0_1 : Int) (s0_2 : List Int) (s0_3 : Bool) (s0_4 : Bool) (a1_0 : Int) (a1_1 : ByteArray) (a1_2 : Int) (a1_3 : Bool) (a1_4 : Bool) (r1 : Int) (r2 : Int) (r3 : Bool) (r4 : Bool) (w0 w : World) (hI : IsS91 w0 w g s0_0 s0_1 s0_2 s0_3 s0_4) (hB : Below w0.heap.size w0 w) (h : spec_Editor_Do.f k s0_0 s0_1 s0_2 s0_3 s0_4 a1_0 a1_1 a1_2 a1_3 a1_4 = some (r1, r2, r3, r4)) :
    Calls Tryd.prog 31 #[.pointer (some ⟨g, 0, none⟩), .agg #[.int .i64 a1_0, .string a1_1, .int .i64 a1_2, .bool a1_3, .bool a1_4]] w fun e w' => e = .returned (.int .i64 r1) ∧ IsS91 w0 w' g s0_0 r2 s0_2 r3 r4 ∧ Below w0.heap.size w0 w' ∧ KeepBut w w' g none := by
  have hu29 := Tryd.underlying29
  have HI0 := Aside0.mk hI
  have HK := Aside0.mk (KeepBut.refl w g none)
  have HL := Aside0.mk hB.size
  clear hI
  have HW0 := Aside0.mk hB.size
  have HB := Aside0.mk hB
  clear hB
  have H : (if s0_3 = true then (spec_Editor_Do.j0 k true s0_0 s0_1 s0_2 s0_3 s0_4 a1_0 a1_1 a1_2 a1_3 a1_4) else (spec_Editor_Do.j0 k s0_4 s0_0 s0_1 s0_2 s0_3 s0_4 a1_0 a1_1 a1_2 a1_3 a1_4)) = some (r1, r2, r3, r4) := h
  clear h
  have HC3 := Aside0.mk H
  clear H
  go_enter Tryd.func31, Tryd.ntmps31
  go_upto_region 1 with (first | ((with_reducible refine gate_dst (N := 3) rfl ?_); refine box_event ?hg (N := 3) ?hd (cs := #[.int .i64 a1_0, .string a1_1, .int .i64 a1_2, .bool a1_3, .bool a1_4]) (t := 29) ?hr ?_; (case hd => rfl); (case hg => rfl); (case hr => first | (go_simp; done) | (go_simp; rfl)); intro gb165 hg w4 hbox hb; have n0_ := Aside0.mk (IsS91.below (by repeat (first | (with_reducible first | exact HI0.out | apply IsS91.alloc | apply IsS91.drewN | apply IsS91.drew | apply IsS91.set_1 | apply IsS91.set_3 | apply IsS91.set_4) | exact HI0.out)) hb); have n1_ := Aside0.mk (KeepBut.trans (by repeat (first | (with_reducible first | exact HK.out | apply KeepBut.set_ | apply keep_drewN | apply keep_drew | apply keep_alloc) | exact HK.out)) (KeepBut.of_below hb g none) (.inl rfl)); have n2_ := Aside0.mk (below_step (by repeat (first | (with_reducible first | exact HB.out | apply below_alloc | apply pw_below_drewN | apply below_drew1 | refine below_set ?_ (IsS91.ge HI0.out)) | exact HB.out)) hb); have n3_ := Aside0.mk (hbox); have n4_ := Aside0.mk ((by rw [hg]; exact (keep_size (w := w) (g := g) (row := none) (by repeat (first | (with_reducible first | exact HK.out | apply KeepBut.set_ | apply keep_drewN | apply keep_drew | apply keep_alloc) | exact HK.out))) : w.heap.size ≤ gb165)); have n5_ := Aside0.mk ((Nat.le_trans HW0.out (by rw [hg]; exact (keep_size (w := w) (g := g) (row := none) (by repeat (first | (with_reducible first | exact HK.out | apply KeepBut.set_ | apply keep_drewN | apply keep_drew | apply keep_alloc) | exact HK.out))) : w.heap.size ≤ gb165) : w0.heap.size ≤ gb165)); have n6_ := Aside0.mk ((by rw [hg]; exact Nat.ne_of_lt (IsS91.lt (show IsS91 w0 _ g s0_0 s0_1 s0_2 s0_3 s0_4 from by repeat (first | (with_reducible first | exact HI0.out | apply IsS91.alloc | apply IsS91.drewN | apply IsS91.drew | apply IsS91.set_1 | apply IsS91.set_3 | apply IsS91.set_4) | exact HI0.out))) : g ≠ gb165)); have n7_ := Aside0.mk ((by rw [hg]; exact Nat.ne_of_gt (IsS91.lt (show IsS91 w0 _ g s0_0 s0_1 s0_2 s0_3 s0_4 from by repeat (first | (with_reducible first | exact HI0.out | apply IsS91.alloc | apply IsS91.drewN | apply IsS91.drew | apply IsS91.set_1 | apply IsS91.set_3 | apply IsS91.set_4) | exact HI0.out))) : gb165 ≠ g)); clear HI0; clear HK; clear HB; have HI0 := n0_; have HK := n1_; have HB := n2_; have BK165 := n3_; have GW165 := n4_; have GE165 := n5_; have NB0_165 := n6_; have NB165_0 := n7_; clear n0_ n1_ n2_ n3_ n4_ n5_ n6_ n7_; clear hb hbox hg))
  (try simp only [Act.put, List.setIfInBounds_toArray, List.set_cons_zero, List.set_cons_succ])
  go_cut [16] (fun v16 wc => ∃ (kq : Nat) (x16_2 : Bool), v16 = .bool x16_2 ∧ Aside0 (spec_Editor_Do.j0 kq x16_2 s0_0 s0_1 s0_2 s0_3 s0_4 a1_0 a1_1 a1_2 a1_3 a1_4 = some (r1, r2, r3, r4)) ∧ Aside0 (kq ≤ k) ∧ Aside0 (wc.heap[gb165]? = some (.cells #[.int .i64 a1_0, .string a1_1, .int .i64 a1_2, .bool a1_3, .bool a1_4] 29 (0, 0))) ∧ Aside0 (IsS91 w0 wc g s0_0 s0_1 s0_2 s0_3 s0_4) ∧ Aside0 (KeepBut w wc g none) ∧ Aside0 (Below w0.heap.size w0 wc))
  case first =>
    have H := HC3.out
    clear HC3
    by_cases c5 : s0_3 = true
    · subst c5
      have H1 : (spec_Editor_Do.j0 k true s0_0 s0_1 s0_2 true s0_4 a1_0 a1_1 a1_2 a1_3 a1_4) = some (r1, r2, r3, r4) := by rw [if_pos rfl] at H; exact H
      clear H
      have H := H1
      clear H1
      have H' := Aside0.mk H
      clear H
      obtain ⟨ASz6_0, cSz6_0, ASz6_2, cSz6_2, HGz6, hgz6, HSz6_0, HSz6_2⟩ := HI0.out
      have hcz6_0 := cellS91_0 HGz6
      have hcz6_1 := cellS91_1 HGz6
      have hcz6_2 := cellS91_2 HGz6
      have hcz6_3 := cellS91_3 HGz6
      have hcz6_4 := cellS91_4 HGz6
      have hfz6_1 := blk_frozen HGz6 1
      have hfz6_3 := blk_frozen HGz6 3
      have hfz6_4 := blk_frozen HGz6 4
      clear HGz6 hgz6
      go_wp2
      go_meet
      case rel => exact ⟨_, (true), (by first | rfl | (simp; done) | (simp [*]; done)), H', ⟨by first | omega | exact Nat.le_refl _⟩, ⟨by (with_reducible repeat (first | refine blk_drewN ?_ _ | refine blk_drew ?_ | refine blk_alloc ?_ _)); exact BK165.out⟩, ⟨by repeat (first | (with_reducible first | exact HI0.out | apply IsS91.alloc | apply IsS91.drewN | apply IsS91.drew | apply IsS91.set_1 | apply IsS91.set_3 | apply IsS91.set_4 | refine IsS91.far ?_ NB0_165.out _) | exact HI0.out)⟩, ⟨by repeat (first | (with_reducible first | exact HK.out | apply KeepBut.set_ | apply keep_drewN | apply keep_drew | apply keep_alloc | refine keep_far ?_ GW165.out _) | exact HK.out)⟩, ⟨by repeat (first | (with_reducible first | exact HB.out | apply below_alloc | apply pw_below_drewN | apply below_drew1 | refine below_set ?_ (IsS91.ge HI0.out) | refine below_set ?_ GE165.out) | exact HB.out)⟩⟩
    · replace c5 := Bool.eq_false_iff.mpr c5
      subst c5
      have H1 : (spec_Editor_Do.j0 k s0_4 s0_0 s0_1 s0_2 false s0_4 a1_0 a1_1 a1_2 a1_3 a1_4) = some (r1, r2, r3, r4) := by rw [if_neg (show ¬ (false = true) by decide)] at H; exact H
      clear H
      have H := H1
      clear H1
      have H' := Aside0.mk H
      clear H
      obtain ⟨ASz7_0, cSz7_0, ASz7_2, cSz7_2, HGz7, hgz7, HSz7_0, HSz7_2⟩ := HI0.out
      have hcz7_0 := cellS91_0 HGz7
      have hcz7_1 := cellS91_1 HGz7
      have hcz7_2 := cellS91_2 HGz7
      have hcz7_3 := cellS91_3 HGz7
      have hcz7_4 := cellS91_4 HGz7
      have hfz7_1 := blk_frozen HGz7 1
      have hfz7_3 := blk_frozen HGz7 3
      have hfz7_4 := blk_frozen HGz7 4
      clear HGz7 hgz7
      go_wp2
      go_meet
      case rel => exact ⟨_, (s0_4), (by first | rfl | (simp; done) | (simp [*]; done)), H', ⟨by first | omega | exact Nat.le_refl _⟩, ⟨by (with_reducible repeat (first | refine blk_drewN ?_ _ | refine blk_drew ?_ | refine blk_alloc ?_ _)); exact BK165.out⟩, ⟨by repeat (first | (with_reducible first | exact HI0.out | apply IsS91.alloc | apply IsS91.drewN | apply IsS91.drew | apply IsS91.set_1 | apply IsS91.set_3 | apply IsS91.set_4 | refine IsS91.far ?_ NB0_165.out _) | exact HI0.out)⟩, ⟨by repeat (first | (with_reducible first | exact HK.out | apply KeepBut.set_ | apply keep_drewN | apply keep_drew | apply keep_alloc | refine keep_far ?_ GW165.out _) | exact HK.out)⟩, ⟨by repeat (first | (with_reducible first | exact HB.out | apply below_alloc | apply pw_below_drewN | apply below_drew1 | refine below_set ?_ (IsS91.ge HI0.out) | refine below_set ?_ GE165.out) | exact HB.out)⟩⟩
  case rest =>
    clear HC3
    try clear p2
    try clear c3
    try clear c5
    try clear hcz6_0
    try clear hcz6_1
    try clear hcz6_2
    try clear hcz6_3
    try clear hcz6_4
    try clear hcz7_0
    try clear hcz7_1
    try clear hcz7_2
    try clear hcz7_3
    try clear hcz7_4
    try clear hfz6_1
    try clear hfz6_3
    try clear hfz6_4
    try clear hfz7_1
    try clear hfz7_3
    try clear hfz7_4
    obtain ⟨kq, x16_2, rfl, HA, HJ2, BK165, HI0, HK, HB⟩ := hcut
    cases kq with
    | zero => exact absurd HA.out (by simp [spec_Editor_Do.j0])
    | succ kj2 =>
      have H := HA.out
      clear HA
      simp only [spec_Editor_Do.j0] at H
      by_cases c8 : x16_2 = true
      · subst c8
        have H1 : (some ((-1), s0_1, s0_3, s0_4)) = some (r1, r2, r3, r4) := by rw [if_pos rfl] at H; exact H
        clear H
        have H := H1
        clear H1
        simp only [Option.some.injEq, Prod.mk.injEq] at H
        obtain ⟨rfl, rfl, rfl, rfl⟩ := H
        go_wp2
        go_ret
        exact ⟨by first | rfl | (simp [errW_none, errW_some] <;> rfl) | (simp [*, errW_none, errW_some] <;> rfl), by repeat (first | (with_reducible first | exact HI0.out | apply IsS91.alloc | apply IsS91.drewN | apply IsS91.drew | apply IsS91.set_1 | apply IsS91.set_3 | apply IsS91.set_4 | refine IsS91.far ?_ NB0_165.out _) | exact HI0.out), by repeat (first | (with_reducible first | exact HB.out | apply below_alloc | apply pw_below_drewN | apply below_drew1 | refine below_set ?_ (IsS91.ge HI0.out) | refine below_set ?_ GE165.out) | exact HB.out), by repeat (first | (with_reducible first | exact HK.out | apply KeepBut.set_ | apply keep_drewN | apply keep_drew | apply keep_alloc | refine keep_far ?_ GW165.out _) | exact HK.out)⟩
      · replace c8 := Bool.eq_false_iff.mpr c8
        subst c8
        have H1 : (if a1_0 = 1 then (if (runesOf a1_1).length ≤ 70368744177664 then (none) else (none)) else (if a1_0 = 2 then (some ((-1), mn (wrap64 (s0_1 + 1)) (s0_0.length : Int), s0_3, s0_4)) else (if a1_0 = 3 then (some ((-1), mx (wrap64 (s0_1 - 1)) 0, s0_3, s0_4)) else (if a1_0 = 4 then (some ((-1), 0, s0_3, s0_4)) else (if a1_0 = 5 then (some ((-1), (s0_0.length : Int), s0_3, s0_4)) else (if a1_0 = 6 then (if s0_1 = (s0_0.length : Int) then (some (0, s0_1, s0_3, s0_4)) else (none)) else (if a1_0 = 7 then (if s0_1 > 0 then (none) else (some ((-1), s0_1, s0_3, s0_4))) else (if a1_0 = 8 then (if s0_1 = (s0_0.length : Int) then (some ((-1), s0_1, true, s0_4)) else (none)) else (if a1_0 = 9 then (none) else (if a1_0 = 10 then ((spec_Editor_before.f kj2 s0_0 s0_1 s0_2 s0_3 s0_4 s0_1).bind fun bt172 => ((spec_told.f (decide (s0_1 > 0))).bind fun t176 => (some (t176, mx bt172.1 0, bt172.2.2.1, bt172.2.2.2)))) else (if a1_0 = 11 then ((spec_Editor_after.f kj2 s0_0 s0_1 s0_2 s0_3 s0_4 s0_1).bind fun bt177 => (if bt177.1 < 0 then (some ((-1), (s0_0.length : Int), bt177.2.2.1, bt177.2.2.2)) else (some ((-1), bt177.1, bt177.2.2.1, bt177.2.2.2)))) else ((spec_Editor_more.f kj2 s0_0 s0_1 s0_2 s0_3 s0_4 a1_0 a1_1 a1_2 a1_3 a1_4).bind fun bt181 => (some (bt181.1, bt181.2.1, bt181.2.2.1, bt181.2.2.2)))))))))))))) = some (r1, r2, r3, r4) := by rw [if_neg (show ¬ (false = true) by decide)] at H; exact H
        clear H
        have H := H1
        clear H1
        by_cases c9 : a1_0 = 1
        · rw [if_pos c9] at H
          have c9b0 : (a1_0 == 1) = true := beq_iff_eq.mpr c9
          have c9b1 : (a1_0 != 1) = false := bne_eq_false_iff_eq.mpr c9
          clear c9
          by_cases c10 : (runesOf a1_1).length ≤ 70368744177664
          · rw [if_pos c10] at H
            exact absurd H (by simp)
          · rw [if_neg c10] at H
            exact absurd H (by simp)
        · rw [if_neg c9] at H
          have c9b0 : (a1_0 == 1) = false := beq_eq_false_iff_ne.mpr c9
          have c9b1 : (a1_0 != 1) = true := bne_iff_ne.mpr c9
          by_cases c11 : a1_0 = 2
          · rw [if_pos c11] at H
            have c11b0 : (a1_0 == 2) = true := beq_iff_eq.mpr c11
            have c11b1 : (a1_0 != 2) = false := bne_eq_false_iff_eq.mpr c11
            clear c11
            obtain ⟨ji12, hji12⟩ : ∃ j_ : Int, (mn (wrap64 (s0_1 + 1)) (s0_0.length : Int)) = j_ := ⟨_, rfl⟩
            replace H : (some ((-1), ji12, s0_3, s0_4)) = some (r1, r2, r3, r4) := by first | (rw [hji12] at H; exact H) | (simp only [hji12] at H ⊢; exact H)
            have hji12_ : (if (s0_0.length : Int) < (wrap64 (s0_1 + 1)) then (s0_0.length : Int) else (wrap64 (s0_1 + 1))) = ji12 := hji12
            simp only [Option.some.injEq, Prod.mk.injEq] at H
            obtain ⟨rfl, rfl, rfl, rfl⟩ := H
            obtain ⟨ASz13_0, cSz13_0, ASz13_2, cSz13_2, HGz13, hgz13, HSz13_0, HSz13_2⟩ := HI0.out
            have hcz13_0 := cellS91_0 HGz13
            have hcz13_1 := cellS91_1 HGz13
            have hcz13_2 := cellS91_2 HGz13
            have hcz13_3 := cellS91_3 HGz13
            have hcz13_4 := cellS91_4 HGz13
            have hfz13_1 := blk_frozen HGz13 1
            have hfz13_3 := blk_frozen HGz13 3
            have hfz13_4 := blk_frozen HGz13 4
            clear HGz13 hgz13
            have hnb14 := NB165_0.out
            have hnc14 := NB0_165.out
            have hcz15_0 : wc.cell? ⟨gb165, 0, none⟩ = some (.int .i64 a1_0) := (blk_cell BK165.out 0).trans rfl
            have hcz15_1 : wc.cell? ⟨gb165, 1, none⟩ = some (.string a1_1) := (blk_cell BK165.out 1).trans rfl
            have hcz15_2 : wc.cell? ⟨gb165, 2, none⟩ = some (.int .i64 a1_2) := (blk_cell BK165.out 2).trans rfl
            have hcz15_3 : wc.cell? ⟨gb165, 3, none⟩ = some (.bool a1_3) := (blk_cell BK165.out 3).trans rfl
            have hcz15_4 : wc.cell? ⟨gb165, 4, none⟩ = some (.bool a1_4) := (blk_cell BK165.out 4).trans rfl
            have hfz15_0 := blk_frozen BK165.out 0
            have hfz15_1 := blk_frozen BK165.out 1
            have hfz15_2 := blk_frozen BK165.out 2
            have hfz15_3 := blk_frozen BK165.out 3
            have hfz15_4 := blk_frozen BK165.out 4
            go_wp2
            go_ret
            exact ⟨by first | rfl | (simp [errW_none, errW_some] <;> rfl) | (simp only [← hji12]; first | rfl | (simp [errW_none, errW_some] <;> rfl)) | (simp [*, errW_none, errW_some] <;> rfl), by repeat (first | (with_reducible first | exact HI0.out | apply IsS91.alloc | apply IsS91.drewN | apply IsS91.drew | apply IsS91.set_1 | apply IsS91.set_3 | apply IsS91.set_4 | refine IsS91.far ?_ NB0_165.out _) | exact HI0.out), by repeat (first | (with_reducible first | exact HB.out | apply below_alloc | apply pw_below_drewN | apply below_drew1 | refine below_set ?_ (IsS91.ge HI0.out) | refine below_set ?_ GE165.out) | exact HB.out), by repeat (first | (with_reducible first | exact HK.out | apply KeepBut.set_ | apply keep_drewN | apply keep_drew | apply keep_alloc | refine keep_far ?_ GW165.out _) | exact HK.out)⟩
          · rw [if_neg c11] at H
            have c11b0 : (a1_0 == 2) = false := beq_eq_false_iff_ne.mpr c11
            have c11b1 : (a1_0 != 2) = true := bne_iff_ne.mpr c11
            by_cases c16 : a1_0 = 3
            · rw [if_pos c16] at H
              have c16b0 : (a1_0 == 3) = true := beq_iff_eq.mpr c16
              have c16b1 : (a1_0 != 3) = false := bne_eq_false_iff_eq.mpr c16
              clear c16
              obtain ⟨ji17, hji17⟩ : ∃ j_ : Int, (mx (wrap64 (s0_1 - 1)) 0) = j_ := ⟨_, rfl⟩
              replace H : (some ((-1), ji17, s0_3, s0_4)) = some (r1, r2, r3, r4) := by first | (rw [hji17] at H; exact H) | (simp only [hji17] at H ⊢; exact H)
              have hji17_ : (if (wrap64 (s0_1 - 1)) < 0 then 0 else (wrap64 (s0_1 - 1))) = ji17 := hji17
              simp only [Option.some.injEq, Prod.mk.injEq] at H
              obtain ⟨rfl, rfl, rfl, rfl⟩ := H
              obtain ⟨ASz18_0, cSz18_0, ASz18_2, cSz18_2, HGz18, hgz18, HSz18_0, HSz18_2⟩ := HI0.out
              have hcz18_0 := cellS91_0 HGz18
              have hcz18_1 := cellS91_1 HGz18
              have hcz18_2 := cellS91_2 HGz18
              have hcz18_3 := cellS91_3 HGz18
              have hcz18_4 := cellS91_4 HGz18
              have hfz18_1 := blk_frozen HGz18 1
              have hfz18_3 := blk_frozen HGz18 3
              have hfz18_4 := blk_frozen HGz18 4
              clear HGz18 hgz18
              have hnb19 := NB165_0.out
              have hnc19 := NB0_165.out
              have hcz20_0 : wc.cell? ⟨gb165, 0, none⟩ = some (.int .i64 a1_0) := (blk_cell BK165.out 0).trans rfl
              have hcz20_1 : wc.cell? ⟨gb165, 1, none⟩ = some (.string a1_1) := (blk_cell BK165.out 1).trans rfl
              have hcz20_2 : wc.cell? ⟨gb165, 2, none⟩ = some (.int .i64 a1_2) := (blk_cell BK165.out 2).trans rfl
              have hcz20_3 : wc.cell? ⟨gb165, 3, none⟩ = some (.bool a1_3) := (blk_cell BK165.out 3).trans rfl
              have hcz20_4 : wc.cell? ⟨gb165, 4, none⟩ = some (.bool a1_4) := (blk_cell BK165.out 4).trans rfl
              have hfz20_0 := blk_frozen BK165.out 0
              have hfz20_1 := blk_frozen BK165.out 1
              have hfz20_2 := blk_frozen BK165.out 2
              have hfz20_3 := blk_frozen BK165.out 3
              have hfz20_4 := blk_frozen BK165.out 4
              go_wp2
              go_ret
              exact ⟨by first | rfl | (simp [errW_none, errW_some] <;> rfl) | (simp only [← hji17]; first | rfl | (simp [errW_none, errW_some] <;> rfl)) | (simp [*, errW_none, errW_some] <;> rfl), by repeat (first | (with_reducible first | exact HI0.out | apply IsS91.alloc | apply IsS91.drewN | apply IsS91.drew | apply IsS91.set_1 | apply IsS91.set_3 | apply IsS91.set_4 | refine IsS91.far ?_ NB0_165.out _) | exact HI0.out), by repeat (first | (with_reducible first | exact HB.out | apply below_alloc | apply pw_below_drewN | apply below_drew1 | refine below_set ?_ (IsS91.ge HI0.out) | refine below_set ?_ GE165.out) | exact HB.out), by repeat (first | (with_reducible first | exact HK.out | apply KeepBut.set_ | apply keep_drewN | apply keep_drew | apply keep_alloc | refine keep_far ?_ GW165.out _) | exact HK.out)⟩
            · rw [if_neg c16] at H
              have c16b0 : (a1_0 == 3) = false := beq_eq_false_iff_ne.mpr c16
              have c16b1 : (a1_0 != 3) = true := bne_iff_ne.mpr c16
              by_cases c21 : a1_0 = 4
              · rw [if_pos c21] at H
                have c21b0 : (a1_0 == 4) = true := beq_iff_eq.mpr c21
                have c21b1 : (a1_0 != 4) = false := bne_eq_false_iff_eq.mpr c21
                clear c21
                simp only [Option.some.injEq, Prod.mk.injEq] at H
                obtain ⟨rfl, rfl, rfl, rfl⟩ := H
                obtain ⟨ASz22_0, cSz22_0, ASz22_2, cSz22_2, HGz22, hgz22, HSz22_0, HSz22_2⟩ := HI0.out
                have hcz22_0 := cellS91_0 HGz22
                have hcz22_1 := cellS91_1 HGz22
                have hcz22_2 := cellS91_2 HGz22
                have hcz22_3 := cellS91_3 HGz22
                have hcz22_4 := cellS91_4 HGz22
                have hfz22_1 := blk_frozen HGz22 1
                have hfz22_3 := blk_frozen HGz22 3
                have hfz22_4 := blk_frozen HGz22 4
                clear HGz22 hgz22
                have hnb23 := NB165_0.out
                have hnc23 := NB0_165.out
                have hcz24_0 : wc.cell? ⟨gb165, 0, none⟩ = some (.int .i64 a1_0) := (blk_cell BK165.out 0).trans rfl
                have hcz24_1 : wc.cell? ⟨gb165, 1, none⟩ = some (.string a1_1) := (blk_cell BK165.out 1).trans rfl
                have hcz24_2 : wc.cell? ⟨gb165, 2, none⟩ = some (.int .i64 a1_2) := (blk_cell BK165.out 2).trans rfl
                have hcz24_3 : wc.cell? ⟨gb165, 3, none⟩ = some (.bool a1_3) := (blk_cell BK165.out 3).trans rfl
                have hcz24_4 : wc.cell? ⟨gb165, 4, none⟩ = some (.bool a1_4) := (blk_cell BK165.out 4).trans rfl
                have hfz24_0 := blk_frozen BK165.out 0
                have hfz24_1 := blk_frozen BK165.out 1
                have hfz24_2 := blk_frozen BK165.out 2
                have hfz24_3 := blk_frozen BK165.out 3
                have hfz24_4 := blk_frozen BK165.out 4
                go_wp2
                go_ret
                exact ⟨by first | rfl | (simp [errW_none, errW_some] <;> rfl) | (simp [*, errW_none, errW_some] <;> rfl), by repeat (first | (with_reducible first | exact HI0.out | apply IsS91.alloc | apply IsS91.drewN | apply IsS91.drew | apply IsS91.set_1 | apply IsS91.set_3 | apply IsS91.set_4 | refine IsS91.far ?_ NB0_165.out _) | exact HI0.out), by repeat (first | (with_reducible first | exact HB.out | apply below_alloc | apply pw_below_drewN | apply below_drew1 | refine below_set ?_ (IsS91.ge HI0.out) | refine below_set ?_ GE165.out) | exact HB.out), by repeat (first | (with_reducible first | exact HK.out | apply KeepBut.set_ | apply keep_drewN | apply keep_drew | apply keep_alloc | refine keep_far ?_ GW165.out _) | exact HK.out)⟩
              · rw [if_neg c21] at H
                have c21b0 : (a1_0 == 4) = false := beq_eq_false_iff_ne.mpr c21
                have c21b1 : (a1_0 != 4) = true := bne_iff_ne.mpr c21
                by_cases c25 : a1_0 = 5
                · rw [if_pos c25] at H
                  have c25b0 : (a1_0 == 5) = true := beq_iff_eq.mpr c25
                  have c25b1 : (a1_0 != 5) = false := bne_eq_false_iff_eq.mpr c25
                  clear c25
                  simp only [Option.some.injEq, Prod.mk.injEq] at H
                  obtain ⟨rfl, rfl, rfl, rfl⟩ := H
                  obtain ⟨ASz26_0, cSz26_0, ASz26_2, cSz26_2, HGz26, hgz26, HSz26_0, HSz26_2⟩ := HI0.out
                  have hcz26_0 := cellS91_0 HGz26
                  have hcz26_1 := cellS91_1 HGz26
                  have hcz26_2 := cellS91_2 HGz26
                  have hcz26_3 := cellS91_3 HGz26
                  have hcz26_4 := cellS91_4 HGz26
                  have hfz26_1 := blk_frozen HGz26 1
                  have hfz26_3 := blk_frozen HGz26 3
                  have hfz26_4 := blk_frozen HGz26 4
                  clear HGz26 hgz26
                  have hnb27 := NB165_0.out
                  have hnc27 := NB0_165.out
                  have hcz28_0 : wc.cell? ⟨gb165, 0, none⟩ = some (.int .i64 a1_0) := (blk_cell BK165.out 0).trans rfl
                  have hcz28_1 : wc.cell? ⟨gb165, 1, none⟩ = some (.string a1_1) := (blk_cell BK165.out 1).trans rfl
                  have hcz28_2 : wc.cell? ⟨gb165, 2, none⟩ = some (.int .i64 a1_2) := (blk_cell BK165.out 2).trans rfl
                  have hcz28_3 : wc.cell? ⟨gb165, 3, none⟩ = some (.bool a1_3) := (blk_cell BK165.out 3).trans rfl
                  have hcz28_4 : wc.cell? ⟨gb165, 4, none⟩ = some (.bool a1_4) := (blk_cell BK165.out 4).trans rfl
                  have hfz28_0 := blk_frozen BK165.out 0
                  have hfz28_1 := blk_frozen BK165.out 1
                  have hfz28_2 := blk_frozen BK165.out 2
                  have hfz28_3 := blk_frozen BK165.out 3
                  have hfz28_4 := blk_frozen BK165.out 4
                  go_wp2
                  go_ret
                  exact ⟨by first | rfl | (simp [errW_none, errW_some] <;> rfl) | (simp [*, errW_none, errW_some] <;> rfl), by repeat (first | (with_reducible first | exact HI0.out | apply IsS91.alloc | apply IsS91.drewN | apply IsS91.drew | apply IsS91.set_1 | apply IsS91.set_3 | apply IsS91.set_4 | refine IsS91.far ?_ NB0_165.out _) | exact HI0.out), by repeat (first | (with_reducible first | exact HB.out | apply below_alloc | apply pw_below_drewN | apply below_drew1 | refine below_set ?_ (IsS91.ge HI0.out) | refine below_set ?_ GE165.out) | exact HB.out), by repeat (first | (with_reducible first | exact HK.out | apply KeepBut.set_ | apply keep_drewN | apply keep_drew | apply keep_alloc | refine keep_far ?_ GW165.out _) | exact HK.out)⟩
                · rw [if_neg c25] at H
                  have c25b0 : (a1_0 == 5) = false := beq_eq_false_iff_ne.mpr c25
                  have c25b1 : (a1_0 != 5) = true := bne_iff_ne.mpr c25
                  by_cases c29 : a1_0 = 6
                  · rw [if_pos c29] at H
                    have c29b0 : (a1_0 == 6) = true := beq_iff_eq.mpr c29
                    have c29b1 : (a1_0 != 6) = false := bne_eq_false_iff_eq.mpr c29
                    clear c29
                    by_cases c30 : s0_1 = (s0_0.length : Int)
                    · rw [if_pos c30] at H
                      have c30b0 : (s0_1 == (s0_0.length : Int)) = true := beq_iff_eq.mpr c30
                      have c30b1 : (s0_1 != (s0_0.length : Int)) = false := bne_eq_false_iff_eq.mpr c30
                      clear c30
                      simp only [Option.some.injEq, Prod.mk.injEq] at H
                      obtain ⟨rfl, rfl, rfl, rfl⟩ := H
                      obtain ⟨ASz31_0, cSz31_0, ASz31_2, cSz31_2, HGz31, hgz31, HSz31_0, HSz31_2⟩ := HI0.out
                      have hcz31_0 := cellS91_0 HGz31
                      have hcz31_1 := cellS91_1 HGz31
                      have hcz31_2 := cellS91_2 HGz31
                      have hcz31_3 := cellS91_3 HGz31
                      have hcz31_4 := cellS91_4 HGz31
                      have hfz31_1 := blk_frozen HGz31 1
                      have hfz31_3 := blk_frozen HGz31 3
                      have hfz31_4 := blk_frozen HGz31 4
                      clear HGz31 hgz31
                      have hnb32 := NB165_0.out
                      have hnc32 := NB0_165.out
                      have hcz33_0 : wc.cell? ⟨gb165, 0, none⟩ = some (.int .i64 a1_0) := (blk_cell BK165.out 0).trans rfl
                      have hcz33_1 : wc.cell? ⟨gb165, 1, none⟩ = some (.string a1_1) := (blk_cell BK165.out 1).trans rfl
                      have hcz33_2 : wc.cell? ⟨gb165, 2, none⟩ = some (.int .i64 a1_2) := (blk_cell BK165.out 2).trans rfl
                      have hcz33_3 : wc.cell? ⟨gb165, 3, none⟩ = some (.bool a1_3) := (blk_cell BK165.out 3).trans rfl
                      have hcz33_4 : wc.cell? ⟨gb165, 4, none⟩ = some (.bool a1_4) := (blk_cell BK165.out 4).trans rfl
                      have hfz33_0 := blk_frozen BK165.out 0
                      have hfz33_1 := blk_frozen BK165.out 1
                      have hfz33_2 := blk_frozen BK165.out 2
                      have hfz33_3 := blk_frozen BK165.out 3
                      have hfz33_4 := blk_frozen BK165.out 4
                      go_wp2
                      go_ret
                      exact ⟨by first | rfl | (simp [errW_none, errW_some] <;> rfl) | (simp [*, errW_none, errW_some] <;> rfl), by repeat (first | (with_reducible first | exact HI0.out | apply IsS91.alloc | apply IsS91.drewN | apply IsS91.drew | apply IsS91.set_1 | apply IsS91.set_3 | apply IsS91.set_4 | refine IsS91.far ?_ NB0_165.out _) | exact HI0.out), by repeat (first | (with_reducible first | exact HB.out | apply below_alloc | apply pw_below_drewN | apply below_drew1 | refine below_set ?_ (IsS91.ge HI0.out) | refine below_set ?_ GE165.out) | exact HB.out), by repeat (first | (with_reducible first | exact HK.out | apply KeepBut.set_ | apply keep_drewN | apply keep_drew | apply keep_alloc | refine keep_far ?_ GW165.out _) | exact HK.out)⟩
                    · rw [if_neg c30] at H
                      exact absurd H (by simp)
                  · rw [if_neg c29] at H
                    have c29b0 : (a1_0 == 6) = false := beq_eq_false_iff_ne.mpr c29
                    have c29b1 : (a1_0 != 6) = true := bne_iff_ne.mpr c29
                    by_cases c34 : a1_0 = 7
                    · rw [if_pos c34] at H
                      have c34b0 : (a1_0 == 7) = true := beq_iff_eq.mpr c34
                      have c34b1 : (a1_0 != 7) = false := bne_eq_false_iff_eq.mpr c34
                      clear c34
                      by_cases c35 : s0_1 > 0
                      · rw [if_pos c35] at H
                        exact absurd H (by simp)
                      · rw [if_neg c35] at H
                        have c35b0 : decide (0 < s0_1) = false := decide_eq_false c35
                        clear c35
                        simp only [Option.some.injEq, Prod.mk.injEq] at H
                        obtain ⟨rfl, rfl, rfl, rfl⟩ := H
                        obtain ⟨ASz36_0, cSz36_0, ASz36_2, cSz36_2, HGz36, hgz36, HSz36_0, HSz36_2⟩ := HI0.out
                        have hcz36_0 := cellS91_0 HGz36
                        have hcz36_1 := cellS91_1 HGz36
                        have hcz36_2 := cellS91_2 HGz36
                        have hcz36_3 := cellS91_3 HGz36
                        have hcz36_4 := cellS91_4 HGz36
                        have hfz36_1 := blk_frozen HGz36 1
                        have hfz36_3 := blk_frozen HGz36 3
                        have hfz36_4 := blk_frozen HGz36 4
                        clear HGz36 hgz36
                        have hnb37 := NB165_0.out
                        have hnc37 := NB0_165.out
                        have hcz38_0 : wc.cell? ⟨gb165, 0, none⟩ = some (.int .i64 a1_0) := (blk_cell BK165.out 0).trans rfl
                        have hcz38_1 : wc.cell? ⟨gb165, 1, none⟩ = some (.string a1_1) := (blk_cell BK165.out 1).trans rfl
                        have hcz38_2 : wc.cell? ⟨gb165, 2, none⟩ = some (.int .i64 a1_2) := (blk_cell BK165.out 2).trans rfl
                        have hcz38_3 : wc.cell? ⟨gb165, 3, none⟩ = some (.bool a1_3) := (blk_cell BK165.out 3).trans rfl
                        have hcz38_4 : wc.cell? ⟨gb165, 4, none⟩ = some (.bool a1_4) := (blk_cell BK165.out 4).trans rfl
                        have hfz38_0 := blk_frozen BK165.out 0
                        have hfz38_1 := blk_frozen BK165.out 1
                        have hfz38_2 := blk_frozen BK165.out 2
                        have hfz38_3 := blk_frozen BK165.out 3
                        have hfz38_4 := blk_frozen BK165.out 4
                        go_wp2
                        go_ret
                        exact ⟨by first | rfl | (simp [errW_none, errW_some] <;> rfl) | (simp [*, errW_none, errW_some] <;> rfl), by repeat (first | (with_reducible first | exact HI0.out | apply IsS91.alloc | apply IsS91.drewN | apply IsS91.drew | apply IsS91.set_1 | apply IsS91.set_3 | apply IsS91.set_4 | refine IsS91.far ?_ NB0_165.out _) | exact HI0.out), by repeat (first | (with_reducible first | exact HB.out | apply below_alloc | apply pw_below_drewN | apply below_drew1 | refine below_set ?_ (IsS91.ge HI0.out) | refine below_set ?_ GE165.out) | exact HB.out), by repeat (first | (with_reducible first | exact HK.out | apply KeepBut.set_ | apply keep_drewN | apply keep_drew | apply keep_alloc | refine keep_far ?_ GW165.out _) | exact HK.out)⟩
                    · rw [if_neg c34] at H
                      have c34b0 : (a1_0 == 7) = false := beq_eq_false_iff_ne.mpr c34
                      have c34b1 : (a1_0 != 7) = true := bne_iff_ne.mpr c34
                      by_cases c39 : a1_0 = 8
                      · rw [if_pos c39] at H
                        have c39b0 : (a1_0 == 8) = true := beq_iff_eq.mpr c39
                        have c39b1 : (a1_0 != 8) = false := bne_eq_false_iff_eq.mpr c39
                        clear c39
                        by_cases c40 : s0_1 = (s0_0.length : Int)
                        · rw [if_pos c40] at H
                          have c40b0 : (s0_1 == (s0_0.length : Int)) = true := beq_iff_eq.mpr c40
                          have c40b1 : (s0_1 != (s0_0.length : Int)) = false := bne_eq_false_iff_eq.mpr c40
                          clear c40
                          simp only [Option.some.injEq, Prod.mk.injEq] at H
                          obtain ⟨rfl, rfl, rfl, rfl⟩ := H
                          obtain ⟨ASz41_0, cSz41_0, ASz41_2, cSz41_2, HGz41, hgz41, HSz41_0, HSz41_2⟩ := HI0.out
                          have hcz41_0 := cellS91_0 HGz41
                          have hcz41_1 := cellS91_1 HGz41
                          have hcz41_2 := cellS91_2 HGz41
                          have hcz41_3 := cellS91_3 HGz41
                          have hcz41_4 := cellS91_4 HGz41
                          have hfz41_1 := blk_frozen HGz41 1
                          have hfz41_3 := blk_frozen HGz41 3
                          have hfz41_4 := blk_frozen HGz41 4
                          clear HGz41 hgz41
                          have hnb42 := NB165_0.out
                          have hnc42 := NB0_165.out
                          have hcz43_0 : wc.cell? ⟨gb165, 0, none⟩ = some (.int .i64 a1_0) := (blk_cell BK165.out 0).trans rfl
                          have hcz43_1 : wc.cell? ⟨gb165, 1, none⟩ = some (.string a1_1) := (blk_cell BK165.out 1).trans rfl
                          have hcz43_2 : wc.cell? ⟨gb165, 2, none⟩ = some (.int .i64 a1_2) := (blk_cell BK165.out 2).trans rfl
                          have hcz43_3 : wc.cell? ⟨gb165, 3, none⟩ = some (.bool a1_3) := (blk_cell BK165.out 3).trans rfl
                          have hcz43_4 : wc.cell? ⟨gb165, 4, none⟩ = some (.bool a1_4) := (blk_cell BK165.out 4).trans rfl
                          have hfz43_0 := blk_frozen BK165.out 0
                          have hfz43_1 := blk_frozen BK165.out 1
                          have hfz43_2 := blk_frozen BK165.out 2
                          have hfz43_3 := blk_frozen BK165.out 3
                          have hfz43_4 := blk_frozen BK165.out 4
                          go_wp2
                          go_ret
                          exact ⟨by first | rfl | (simp [errW_none, errW_some] <;> rfl) | (simp [*, errW_none, errW_some] <;> rfl), by repeat (first | (with_reducible first | exact HI0.out | apply IsS91.alloc | apply IsS91.drewN | apply IsS91.drew | apply IsS91.set_1 | apply IsS91.set_3 | apply IsS91.set_4 | refine IsS91.far ?_ NB0_165.out _) | exact HI0.out), by repeat (first | (with_reducible first | exact HB.out | apply below_alloc | apply pw_below_drewN | apply below_drew1 | refine below_set ?_ (IsS91.ge HI0.out) | refine below_set ?_ GE165.out) | exact HB.out), by repeat (first | (with_reducible first | exact HK.out | apply KeepBut.set_ | apply keep_drewN | apply keep_drew | apply keep_alloc | refine keep_far ?_ GW165.out _) | exact HK.out)⟩
                        · rw [if_neg c40] at H
                          exact absurd H (by simp)
                      · rw [if_neg c39] at H
                        have c39b0 : (a1_0 == 8) = false := beq_eq_false_iff_ne.mpr c39
                        have c39b1 : (a1_0 != 8) = true := bne_iff_ne.mpr c39
                        by_cases c44 : a1_0 = 9
                        · rw [if_pos c44] at H
                          exact absurd H (by simp)
                        · rw [if_neg c44] at H
                          have c44b0 : (a1_0 == 9) = false := beq_eq_false_iff_ne.mpr c44
                          have c44b1 : (a1_0 != 9) = true := bne_iff_ne.mpr c44
                          by_cases c45 : a1_0 = 10
                          · rw [if_pos c45] at H
                            have c45b0 : (a1_0 == 10) = true := beq_iff_eq.mpr c45
                            have c45b1 : (a1_0 != 10) = false := bne_eq_false_iff_eq.mpr c45
                            clear c45
                            replace H := Option.bind_eq_some_iff.mp H
                            obtain ⟨⟨t172, t173, t174, t175⟩, A460, H⟩ := H
                            replace H : ((spec_told.f (decide (s0_1 > 0))).bind fun t176 => (some (t176, mx t172 0, t174, t175))) = some (r1, r2, r3, r4) := H
                            have A46 := Aside0.mk A460
                            clear A460
                            obtain ⟨ji47, hji47⟩ : ∃ j_ : Int, (mx t172 0) = j_ := ⟨_, rfl⟩
                            replace H : ((spec_told.f (decide (s0_1 > 0))).bind fun t176 => (some (t176, ji47, t174, t175))) = some (r1, r2, r3, r4) := by first | (rw [hji47] at H; exact H) | (simp only [hji47] at H ⊢; exact H)
                            (try rw [hji47] at A46)
                            (try (have hji47l : 0 ≤ ji47 := by (rw [← hji47]; unfold mx; (repeat' split) <;> omega)))
                            (try (have hji47m : 0 ≤ ji47 := by omega))
                            have hji47_ : (if t172 < 0 then 0 else t172) = ji47 := hji47
                            replace H := Option.bind_eq_some_iff.mp H
                            obtain ⟨t176, A480, H⟩ := H
                            replace H : (some (t176, ji47, t174, t175)) = some (r1, r2, r3, r4) := H
                            have A48 := Aside0.mk A480
                            clear A480
                            simp only [Option.some.injEq, Prod.mk.injEq] at H
                            obtain ⟨rfl, rfl, rfl, rfl⟩ := H
                            obtain ⟨ASz49_0, cSz49_0, ASz49_2, cSz49_2, HGz49, hgz49, HSz49_0, HSz49_2⟩ := HI0.out
                            have hcz49_0 := cellS91_0 HGz49
                            have hcz49_1 := cellS91_1 HGz49
                            have hcz49_2 := cellS91_2 HGz49
                            have hcz49_3 := cellS91_3 HGz49
                            have hcz49_4 := cellS91_4 HGz49
                            have hfz49_1 := blk_frozen HGz49 1
                            have hfz49_3 := blk_frozen HGz49 3
                            have hfz49_4 := blk_frozen HGz49 4
                            clear HGz49 hgz49
                            have hnb50 := NB165_0.out
                            have hnc50 := NB0_165.out
                            have hcz51_0 : wc.cell? ⟨gb165, 0, none⟩ = some (.int .i64 a1_0) := (blk_cell BK165.out 0).trans rfl
                            have hcz51_1 : wc.cell? ⟨gb165, 1, none⟩ = some (.string a1_1) := (blk_cell BK165.out 1).trans rfl
                            have hcz51_2 : wc.cell? ⟨gb165, 2, none⟩ = some (.int .i64 a1_2) := (blk_cell BK165.out 2).trans rfl
                            have hcz51_3 : wc.cell? ⟨gb165, 3, none⟩ = some (.bool a1_3) := (blk_cell BK165.out 3).trans rfl
                            have hcz51_4 : wc.cell? ⟨gb165, 4, none⟩ = some (.bool a1_4) := (blk_cell BK165.out 4).trans rfl
                            have hfz51_0 := blk_frozen BK165.out 0
                            have hfz51_1 := blk_frozen BK165.out 1
                            have hfz51_2 := blk_frozen BK165.out 2
                            have hfz51_3 := blk_frozen BK165.out 3
                            have hfz51_4 := blk_frozen BK165.out 4
                            go_wp2_with (first | ((with_reducible refine gate_callee (f := 55) rfl ?_); refine goesL_ (some 164) rfl rfl Tryd.func55 (by kernel_rfl) rfl #[.pointer (some ⟨g, 0, none⟩), .int .i64 s0_1] rfl (by (try simp only [List.map_toArray, List.map_cons, List.map_nil]); first | done | rfl | (simp only [List.length_drop, List.length_take]; rfl) | (simp only [Int.toNat_natCast, ByteArray.extract_zero_size]; rfl)) ?_; (with_reducible refine (spec_Editor_before.calls kj2 g s0_0 s0_1 s0_2 s0_3 s0_4 s0_1 t172 t173 t174 t175 w0 _ ?side1 ?side2 A46.out).mono ?_); (case side1 => repeat (first | (with_reducible first | exact HI0.out | apply IsS91.alloc | apply IsS91.drewN | apply IsS91.drew | apply IsS91.set_1 | apply IsS91.set_3 | apply IsS91.set_4 | refine IsS91.far ?_ NB0_165.out _) | exact HI0.out)); (case side2 => repeat (first | (with_reducible first | exact HB.out | apply below_alloc | apply pw_below_drewN | apply below_drew1 | refine below_set ?_ (IsS91.ge HI0.out) | refine below_set ?_ GE165.out) | exact HB.out)); rintro e w52 ⟨rfl, hi, hb, hk⟩; refine ⟨_, rfl, ?_⟩; have n0_ := Aside0.mk (KeepBut.blk hk (g' := gb165) (o := .cells #[.int .i64 a1_0, .string a1_1, .int .i64 a1_2, .bool a1_3, .bool a1_4] 29 (0, 0)) (by (with_reducible repeat (first | refine blk_drewN ?_ _ | refine blk_drew ?_ | refine blk_alloc ?_ _)); exact BK165.out) NB165_0.out (by simp)); have n1_ := Aside0.mk (KeepBut.trans (by repeat (first | (with_reducible first | exact HK.out | apply KeepBut.set_ | apply keep_drewN | apply keep_drew | apply keep_alloc | refine keep_far ?_ GW165.out _) | exact HK.out)) hk (.inl rfl)); have n2_ := Aside0.mk (hb); have n3_ := Aside0.mk (hi); clear BK165; clear HK; clear HB; clear HI0; have BK165 := n0_; have HK := n1_; have HB := n2_; have HI0 := n3_; clear n0_ n1_ n2_ n3_; (try clear hb); (try clear hb2); (try clear hk); (try clear hi); obtain ⟨ASz53_0, cSz53_0, ASz53_2, cSz53_2, HGz53, hgz53, HSz53_0, HSz53_2⟩ := HI0.out; have hcz53_0 := cellS91_0 HGz53; have hcz53_1 := cellS91_1 HGz53; have hcz53_2 := cellS91_2 HGz53; have hcz53_3 := cellS91_3 HGz53; have hcz53_4 := cellS91_4 HGz53; have hfz53_1 := blk_frozen HGz53 1; have hfz53_3 := blk_frozen HGz53 3; have hfz53_4 := blk_frozen HGz53 4; clear HGz53 hgz53) | ((with_reducible refine gate_callee (f := 56) rfl ?_); refine goesL_ (some 169) rfl rfl Tryd.func56 (by kernel_rfl) rfl #[.bool (decide (s0_1 > 0))] rfl (by (try simp only [List.map_toArray, List.map_cons, List.map_nil]); first | done | rfl | (simp only [List.length_drop, List.length_take]; rfl) | (simp only [Int.toNat_natCast, ByteArray.extract_zero_size]; rfl)) ?_; (with_reducible refine (spec_told.calls (decide (s0_1 > 0)) t176 _ A48.out).mono ?_); rintro e w' ⟨rfl, ⟨nd, rfl⟩⟩; refine ⟨_, rfl, ?_⟩))
                            go_ret
                            exact ⟨by first | rfl | (simp [errW_none, errW_some] <;> rfl) | (simp only [← hji47]; first | rfl | (simp [errW_none, errW_some] <;> rfl)) | (simp [*, errW_none, errW_some] <;> rfl), by repeat (first | (with_reducible first | exact HI0.out | apply IsS91.alloc | apply IsS91.drewN | apply IsS91.drew | apply IsS91.set_1 | apply IsS91.set_3 | apply IsS91.set_4 | refine IsS91.far ?_ NB0_165.out _) | exact HI0.out), by repeat (first | (with_reducible first | exact HB.out | apply below_alloc | apply pw_below_drewN | apply below_drew1 | refine below_set ?_ (IsS91.ge HI0.out) | refine below_set ?_ GE165.out) | exact HB.out), by repeat (first | (with_reducible first | exact HK.out | apply KeepBut.set_ | apply keep_drewN | apply keep_drew | apply keep_alloc | refine keep_far ?_ GW165.out _) | exact HK.out)⟩
                          · rw [if_neg c45] at H
                            have c45b0 : (a1_0 == 10) = false := beq_eq_false_iff_ne.mpr c45
                            have c45b1 : (a1_0 != 10) = true := bne_iff_ne.mpr c45
                            by_cases c54 : a1_0 = 11
                            · rw [if_pos c54] at H
                              have c54b0 : (a1_0 == 11) = true := beq_iff_eq.mpr c54
                              have c54b1 : (a1_0 != 11) = false := bne_eq_false_iff_eq.mpr c54
                              clear c54
                              replace H := Option.bind_eq_some_iff.mp H
                              obtain ⟨⟨t177, t178, t179, t180⟩, A550, H⟩ := H
                              replace H : (if t177 < 0 then (some ((-1), (s0_0.length : Int), t179, t180)) else (some ((-1), t177, t179, t180))) = some (r1, r2, r3, r4) := H
                              have A55 := Aside0.mk A550
                              clear A550
                              by_cases c56 : t177 < 0
                              · rw [if_pos c56] at H
                                have c56b0 : decide (t177 < 0) = true := decide_eq_true c56
                                clear c56
                                simp only [Option.some.injEq, Prod.mk.injEq] at H
                                obtain ⟨rfl, rfl, rfl, rfl⟩ := H
                                obtain ⟨ASz57_0, cSz57_0, ASz57_2, cSz57_2, HGz57, hgz57, HSz57_0, HSz57_2⟩ := HI0.out
                                have hcz57_0 := cellS91_0 HGz57
                                have hcz57_1 := cellS91_1 HGz57
                                have hcz57_2 := cellS91_2 HGz57
                                have hcz57_3 := cellS91_3 HGz57
                                have hcz57_4 := cellS91_4 HGz57
                                have hfz57_1 := blk_frozen HGz57 1
                                have hfz57_3 := blk_frozen HGz57 3
                                have hfz57_4 := blk_frozen HGz57 4
                                clear HGz57 hgz57
                                have hnb58 := NB165_0.out
                                have hnc58 := NB0_165.out
                                have hcz59_0 : wc.cell? ⟨gb165, 0, none⟩ = some (.int .i64 a1_0) := (blk_cell BK165.out 0).trans rfl
                                have hcz59_1 : wc.cell? ⟨gb165, 1, none⟩ = some (.string a1_1) := (blk_cell BK165.out 1).trans rfl
                                have hcz59_2 : wc.cell? ⟨gb165, 2, none⟩ = some (.int .i64 a1_2) := (blk_cell BK165.out 2).trans rfl
                                have hcz59_3 : wc.cell? ⟨gb165, 3, none⟩ = some (.bool a1_3) := (blk_cell BK165.out 3).trans rfl
                                have hcz59_4 : wc.cell? ⟨gb165, 4, none⟩ = some (.bool a1_4) := (blk_cell BK165.out 4).trans rfl
                                have hfz59_0 := blk_frozen BK165.out 0
                                have hfz59_1 := blk_frozen BK165.out 1
                                have hfz59_2 := blk_frozen BK165.out 2
                                have hfz59_3 := blk_frozen BK165.out 3
                                have hfz59_4 := blk_frozen BK165.out 4
                                go_wp2_with (first | ((with_reducible refine gate_callee (f := 57) rfl ?_); refine goesL_ (some 178) rfl rfl Tryd.func57 (by kernel_rfl) rfl #[.pointer (some ⟨g, 0, none⟩), .int .i64 s0_1] rfl (by (try simp only [List.map_toArray, List.map_cons, List.map_nil]); first | done | rfl | (simp only [List.length_drop, List.length_take]; rfl) | (simp only [Int.toNat_natCast, ByteArray.extract_zero_size]; rfl)) ?_; (with_reducible refine (spec_Editor_after.calls kj2 g s0_0 s0_1 s0_2 s0_3 s0_4 s0_1 t177 t178 t179 t180 w0 _ ?side1 ?side2 A55.out).mono ?_); (case side1 => repeat (first | (with_reducible first | exact HI0.out | apply IsS91.alloc | apply IsS91.drewN | apply IsS91.drew | apply IsS91.set_1 | apply IsS91.set_3 | apply IsS91.set_4 | refine IsS91.far ?_ NB0_165.out _) | exact HI0.out)); (case side2 => repeat (first | (with_reducible first | exact HB.out | apply below_alloc | apply pw_below_drewN | apply below_drew1 | refine below_set ?_ (IsS91.ge HI0.out) | refine below_set ?_ GE165.out) | exact HB.out)); rintro e w60 ⟨rfl, hi, hb, hk⟩; refine ⟨_, rfl, ?_⟩; have n0_ := Aside0.mk (KeepBut.blk hk (g' := gb165) (o := .cells #[.int .i64 a1_0, .string a1_1, .int .i64 a1_2, .bool a1_3, .bool a1_4] 29 (0, 0)) (by (with_reducible repeat (first | refine blk_drewN ?_ _ | refine blk_drew ?_ | refine blk_alloc ?_ _)); exact BK165.out) NB165_0.out (by simp)); have n1_ := Aside0.mk (KeepBut.trans (by repeat (first | (with_reducible first | exact HK.out | apply KeepBut.set_ | apply keep_drewN | apply keep_drew | apply keep_alloc | refine keep_far ?_ GW165.out _) | exact HK.out)) hk (.inl rfl)); have n2_ := Aside0.mk (hb); have n3_ := Aside0.mk (hi); clear BK165; clear HK; clear HB; clear HI0; have BK165 := n0_; have HK := n1_; have HB := n2_; have HI0 := n3_; clear n0_ n1_ n2_ n3_; (try clear hb); (try clear hb2); (try clear hk); (try clear hi); obtain ⟨ASz61_0, cSz61_0, ASz61_2, cSz61_2, HGz61, hgz61, HSz61_0, HSz61_2⟩ := HI0.out; have hcz61_0 := cellS91_0 HGz61; have hcz61_1 := cellS91_1 HGz61; have hcz61_2 := cellS91_2 HGz61; have hcz61_3 := cellS91_3 HGz61; have hcz61_4 := cellS91_4 HGz61; have hfz61_1 := blk_frozen HGz61 1; have hfz61_3 := blk_frozen HGz61 3; have hfz61_4 := blk_frozen HGz61 4; clear HGz61 hgz61))
                                go_ret
                                exact ⟨by first | rfl | (simp [errW_none, errW_some] <;> rfl) | (simp [*, errW_none, errW_some] <;> rfl), by repeat (first | (with_reducible first | exact HI0.out | apply IsS91.alloc | apply IsS91.drewN | apply IsS91.drew | apply IsS91.set_1 | apply IsS91.set_3 | apply IsS91.set_4 | refine IsS91.far ?_ NB0_165.out _) | exact HI0.out), by repeat (first | (with_reducible first | exact HB.out | apply below_alloc | apply pw_below_drewN | apply below_drew1 | refine below_set ?_ (IsS91.ge HI0.out) | refine below_set ?_ GE165.out) | exact HB.out), by repeat (first | (with_reducible first | exact HK.out | apply KeepBut.set_ | apply keep_drewN | apply keep_drew | apply keep_alloc | refine keep_far ?_ GW165.out _) | exact HK.out)⟩
                              · rw [if_neg c56] at H
                                have c56b0 : decide (t177 < 0) = false := decide_eq_false c56
                                clear c56
                                simp only [Option.some.injEq, Prod.mk.injEq] at H
                                obtain ⟨rfl, rfl, rfl, rfl⟩ := H
                                obtain ⟨ASz62_0, cSz62_0, ASz62_2, cSz62_2, HGz62, hgz62, HSz62_0, HSz62_2⟩ := HI0.out
                                have hcz62_0 := cellS91_0 HGz62
                                have hcz62_1 := cellS91_1 HGz62
                                have hcz62_2 := cellS91_2 HGz62
                                have hcz62_3 := cellS91_3 HGz62
                                have hcz62_4 := cellS91_4 HGz62
                                have hfz62_1 := blk_frozen HGz62 1
                                have hfz62_3 := blk_frozen HGz62 3
                                have hfz62_4 := blk_frozen HGz62 4
                                clear HGz62 hgz62
                                have hnb63 := NB165_0.out
                                have hnc63 := NB0_165.out
                                have hcz64_0 : wc.cell? ⟨gb165, 0, none⟩ = some (.int .i64 a1_0) := (blk_cell BK165.out 0).trans rfl
                                have hcz64_1 : wc.cell? ⟨gb165, 1, none⟩ = some (.string a1_1) := (blk_cell BK165.out 1).trans rfl
                                have hcz64_2 : wc.cell? ⟨gb165, 2, none⟩ = some (.int .i64 a1_2) := (blk_cell BK165.out 2).trans rfl
                                have hcz64_3 : wc.cell? ⟨gb165, 3, none⟩ = some (.bool a1_3) := (blk_cell BK165.out 3).trans rfl
                                have hcz64_4 : wc.cell? ⟨gb165, 4, none⟩ = some (.bool a1_4) := (blk_cell BK165.out 4).trans rfl
                                have hfz64_0 := blk_frozen BK165.out 0
                                have hfz64_1 := blk_frozen BK165.out 1
                                have hfz64_2 := blk_frozen BK165.out 2
                                have hfz64_3 := blk_frozen BK165.out 3
                                have hfz64_4 := blk_frozen BK165.out 4
                                go_wp2_with (first | ((with_reducible refine gate_callee (f := 57) rfl ?_); refine goesL_ (some 178) rfl rfl Tryd.func57 (by kernel_rfl) rfl #[.pointer (some ⟨g, 0, none⟩), .int .i64 s0_1] rfl (by (try simp only [List.map_toArray, List.map_cons, List.map_nil]); first | done | rfl | (simp only [List.length_drop, List.length_take]; rfl) | (simp only [Int.toNat_natCast, ByteArray.extract_zero_size]; rfl)) ?_; (with_reducible refine (spec_Editor_after.calls kj2 g s0_0 s0_1 s0_2 s0_3 s0_4 s0_1 t177 t178 t179 t180 w0 _ ?side1 ?side2 A55.out).mono ?_); (case side1 => repeat (first | (with_reducible first | exact HI0.out | apply IsS91.alloc | apply IsS91.drewN | apply IsS91.drew | apply IsS91.set_1 | apply IsS91.set_3 | apply IsS91.set_4 | refine IsS91.far ?_ NB0_165.out _) | exact HI0.out)); (case side2 => repeat (first | (with_reducible first | exact HB.out | apply below_alloc | apply pw_below_drewN | apply below_drew1 | refine below_set ?_ (IsS91.ge HI0.out) | refine below_set ?_ GE165.out) | exact HB.out)); rintro e w65 ⟨rfl, hi, hb, hk⟩; refine ⟨_, rfl, ?_⟩; have n0_ := Aside0.mk (KeepBut.blk hk (g' := gb165) (o := .cells #[.int .i64 a1_0, .string a1_1, .int .i64 a1_2, .bool a1_3, .bool a1_4] 29 (0, 0)) (by (with_reducible repeat (first | refine blk_drewN ?_ _ | refine blk_drew ?_ | refine blk_alloc ?_ _)); exact BK165.out) NB165_0.out (by simp)); have n1_ := Aside0.mk (KeepBut.trans (by repeat (first | (with_reducible first | exact HK.out | apply KeepBut.set_ | apply keep_drewN | apply keep_drew | apply keep_alloc | refine keep_far ?_ GW165.out _) | exact HK.out)) hk (.inl rfl)); have n2_ := Aside0.mk (hb); have n3_ := Aside0.mk (hi); clear BK165; clear HK; clear HB; clear HI0; have BK165 := n0_; have HK := n1_; have HB := n2_; have HI0 := n3_; clear n0_ n1_ n2_ n3_; (try clear hb); (try clear hb2); (try clear hk); (try clear hi); obtain ⟨ASz66_0, cSz66_0, ASz66_2, cSz66_2, HGz66, hgz66, HSz66_0, HSz66_2⟩ := HI0.out; have hcz66_0 := cellS91_0 HGz66; have hcz66_1 := cellS91_1 HGz66; have hcz66_2 := cellS91_2 HGz66; have hcz66_3 := cellS91_3 HGz66; have hcz66_4 := cellS91_4 HGz66; have hfz66_1 := blk_frozen HGz66 1; have hfz66_3 := blk_frozen HGz66 3; have hfz66_4 := blk_frozen HGz66 4; clear HGz66 hgz66))
                                go_ret
                                exact ⟨by first | rfl | (simp [errW_none, errW_some] <;> rfl) | (simp [*, errW_none, errW_some] <;> rfl), by repeat (first | (with_reducible first | exact HI0.out | apply IsS91.alloc | apply IsS91.drewN | apply IsS91.drew | apply IsS91.set_1 | apply IsS91.set_3 | apply IsS91.set_4 | refine IsS91.far ?_ NB0_165.out _) | exact HI0.out), by repeat (first | (with_reducible first | exact HB.out | apply below_alloc | apply pw_below_drewN | apply below_drew1 | refine below_set ?_ (IsS91.ge HI0.out) | refine below_set ?_ GE165.out) | exact HB.out), by repeat (first | (with_reducible first | exact HK.out | apply KeepBut.set_ | apply keep_drewN | apply keep_drew | apply keep_alloc | refine keep_far ?_ GW165.out _) | exact HK.out)⟩
                            · rw [if_neg c54] at H
                              have c54b0 : (a1_0 == 11) = false := beq_eq_false_iff_ne.mpr c54
                              have c54b1 : (a1_0 != 11) = true := bne_iff_ne.mpr c54
                              replace H := Option.bind_eq_some_iff.mp H
                              obtain ⟨⟨t181, t182, t183, t184⟩, A670, H⟩ := H
                              replace H : (some (t181, t182, t183, t184)) = some (r1, r2, r3, r4) := H
                              have A67 := Aside0.mk A670
                              clear A670
                              simp only [Option.some.injEq, Prod.mk.injEq] at H
                              obtain ⟨rfl, rfl, rfl, rfl⟩ := H
                              obtain ⟨ASz68_0, cSz68_0, ASz68_2, cSz68_2, HGz68, hgz68, HSz68_0, HSz68_2⟩ := HI0.out
                              have hcz68_0 := cellS91_0 HGz68
                              have hcz68_1 := cellS91_1 HGz68
                              have hcz68_2 := cellS91_2 HGz68
                              have hcz68_3 := cellS91_3 HGz68
                              have hcz68_4 := cellS91_4 HGz68
                              have hfz68_1 := blk_frozen HGz68 1
                              have hfz68_3 := blk_frozen HGz68 3
                              have hfz68_4 := blk_frozen HGz68 4
                              clear HGz68 hgz68
                              have hnb69 := NB165_0.out
                              have hnc69 := NB0_165.out
                              have hcz70_0 : wc.cell? ⟨gb165, 0, none⟩ = some (.int .i64 a1_0) := (blk_cell BK165.out 0).trans rfl
                              have hcz70_1 : wc.cell? ⟨gb165, 1, none⟩ = some (.string a1_1) := (blk_cell BK165.out 1).trans rfl
                              have hcz70_2 : wc.cell? ⟨gb165, 2, none⟩ = some (.int .i64 a1_2) := (blk_cell BK165.out 2).trans rfl
                              have hcz70_3 : wc.cell? ⟨gb165, 3, none⟩ = some (.bool a1_3) := (blk_cell BK165.out 3).trans rfl
                              have hcz70_4 : wc.cell? ⟨gb165, 4, none⟩ = some (.bool a1_4) := (blk_cell BK165.out 4).trans rfl
                              have hfz70_0 := blk_frozen BK165.out 0
                              have hfz70_1 := blk_frozen BK165.out 1
                              have hfz70_2 := blk_frozen BK165.out 2
                              have hfz70_3 := blk_frozen BK165.out 3
                              have hfz70_4 := blk_frozen BK165.out 4
                              go_wp2_with (first | ((with_reducible refine gate_callee (f := 58) rfl ?_); refine goesL_ (some 26) rfl rfl Tryd.func58 (by kernel_rfl) rfl #[.pointer (some ⟨g, 0, none⟩), .agg #[.int .i64 a1_0, .string a1_1, .int .i64 a1_2, .bool a1_3, .bool a1_4]] rfl (by (try simp only [List.map_toArray, List.map_cons, List.map_nil]); first | done | rfl | (simp only [List.length_drop, List.length_take]; rfl) | (simp only [Int.toNat_natCast, ByteArray.extract_zero_size]; rfl)) ?_; (with_reducible refine (spec_Editor_more.calls kj2 g s0_0 s0_1 s0_2 s0_3 s0_4 a1_0 a1_1 a1_2 a1_3 a1_4 t181 t182 t183 t184 w0 _ ?side1 ?side2 A67.out).mono ?_); (case side1 => repeat (first | (with_reducible first | exact HI0.out | apply IsS91.alloc | apply IsS91.drewN | apply IsS91.drew | apply IsS91.set_1 | apply IsS91.set_3 | apply IsS91.set_4 | refine IsS91.far ?_ NB0_165.out _) | exact HI0.out)); (case side2 => repeat (first | (with_reducible first | exact HB.out | apply below_alloc | apply pw_below_drewN | apply below_drew1 | refine below_set ?_ (IsS91.ge HI0.out) | refine below_set ?_ GE165.out) | exact HB.out)); rintro e w71 ⟨rfl, hi, hb, hk⟩; refine ⟨_, rfl, ?_⟩; have n0_ := Aside0.mk (KeepBut.blk hk (g' := gb165) (o := .cells #[.int .i64 a1_0, .string a1_1, .int .i64 a1_2, .bool a1_3, .bool a1_4] 29 (0, 0)) (by (with_reducible repeat (first | refine blk_drewN ?_ _ | refine blk_drew ?_ | refine blk_alloc ?_ _)); exact BK165.out) NB165_0.out (by simp)); have n1_ := Aside0.mk (KeepBut.trans (by repeat (first | (with_reducible first | exact HK.out | apply KeepBut.set_ | apply keep_drewN | apply keep_drew | apply keep_alloc | refine keep_far ?_ GW165.out _) | exact HK.out)) hk (.inl rfl)); have n2_ := Aside0.mk (hb); have n3_ := Aside0.mk (hi); clear BK165; clear HK; clear HB; clear HI0; have BK165 := n0_; have HK := n1_; have HB := n2_; have HI0 := n3_; clear n0_ n1_ n2_ n3_; (try clear hb); (try clear hb2); (try clear hk); (try clear hi)))
                              go_ret
                              exact ⟨by first | rfl | (simp [errW_none, errW_some] <;> rfl) | (simp [*, errW_none, errW_some] <;> rfl), by repeat (first | (with_reducible first | exact HI0.out | apply IsS91.alloc | apply IsS91.drewN | apply IsS91.drew | apply IsS91.set_1 | apply IsS91.set_3 | apply IsS91.set_4 | refine IsS91.far ?_ NB0_165.out _) | exact HI0.out), by repeat (first | (with_reducible first | exact HB.out | apply below_alloc | apply pw_below_drewN | apply below_drew1 | refine below_set ?_ (IsS91.ge HI0.out) | refine below_set ?_ GE165.out) | exact HB.out), by repeat (first | (with_reducible first | exact HK.out | apply KeepBut.set_ | apply keep_drewN | apply keep_drew | apply keep_alloc | refine keep_far ?_ GW165.out _) | exact HK.out)⟩
/-! ### spec_Editor_Open: function 32 -/
def spec_Editor_Open.f (s0_0 : List Int) (s0_1 : Int) (s0_2 : List Int) (s0_3 : Bool) (s0_4 : Bool) : Option (Bool × Int × Bool × Bool) := some (s0_4, s0_1, s0_3, s0_4)
set_option maxHeartbeats 8000000 in
set_option maxRecDepth 100000 in
theorem spec_Editor_Open.calls (g : Nat) (s0_0 : List Int) (s0_1 : Int) (s0_2 : List Int) (s0_3 : Bool) (s0_4 : Bool) (r1 : Bool) (r2 : Int) (r3 : Bool) (r4 : Bool) (w0 w : World) (hI : IsS91 w0 w g s0_0 s0_1 s0_2 s0_3 s0_4) (hB : Below w0.heap.size w0 w) (h : spec_Editor_Open.f s0_0 s0_1 s0_2 s0_3 s0_4 = some (r1, r2, r3, r4)) :
    Calls Tryd.prog 32 #[.pointer (some ⟨g, 0, none⟩)] w fun e w' => e = .returned (.bool r1) ∧ IsS91 w0 w' g s0_0 r2 s0_2 r3 r4 ∧ Below w0.heap.size w0 w' ∧ KeepBut w w' g none := by
  have HI0 := Aside0.mk hI
  have HK := Aside0.mk (KeepBut.refl w g none)
  have HL := Aside0.mk hB.size
  clear hI
  have HW0 := Aside0.mk hB.size
  have HB := Aside0.mk hB
  clear hB
  have H : (some (s0_4, s0_1, s0_3, s0_4)) = some (r1, r2, r3, r4) := h
  clear h
  simp only [Option.some.injEq, Prod.mk.injEq] at H
  obtain ⟨rfl, rfl, rfl, rfl⟩ := H
  obtain ⟨ASz2_0, cSz2_0, ASz2_2, cSz2_2, HGz2, hgz2, HSz2_0, HSz2_2⟩ := HI0.out
  have hcz2_0 := cellS91_0 HGz2
  have hcz2_1 := cellS91_1 HGz2
  have hcz2_2 := cellS91_2 HGz2
  have hcz2_3 := cellS91_3 HGz2
  have hcz2_4 := cellS91_4 HGz2
  have hfz2_1 := blk_frozen HGz2 1
  have hfz2_3 := blk_frozen HGz2 3
  have hfz2_4 := blk_frozen HGz2 4
  clear HGz2 hgz2
  go_enter Tryd.func32, Tryd.ntmps32
  go_wp2
  go_ret
  exact ⟨by first | rfl | (simp [errW_none, errW_some] <;> rfl) | (simp [*, errW_none, errW_some] <;> rfl), by repeat (first | (with_reducible first | exact HI0.out | apply IsS91.alloc | apply IsS91.drewN | apply IsS91.drew | apply IsS91.set_1 | apply IsS91.set_3 | apply IsS91.set_4) | exact HI0.out), by repeat (first | (with_reducible first | exact HB.out | apply below_alloc | apply pw_below_drewN | apply below_drew1 | refine below_set ?_ (IsS91.ge HI0.out)) | exact HB.out), by repeat (first | (with_reducible first | exact HK.out | apply KeepBut.set_ | apply keep_drewN | apply keep_drew | apply keep_alloc) | exact HK.out)⟩
/-! ### spec_Editor_Bad: function 33 -/
def spec_Editor_Bad.f (s0_0 : List Int) (s0_1 : Int) (s0_2 : List Int) (s0_3 : Bool) (s0_4 : Bool) : Option (Bool × Int × Bool × Bool) := some (s0_3, s0_1, s0_3, s0_4)
set_option maxHeartbeats 8000000 in
set_option maxRecDepth 100000 in
theorem spec_Editor_Bad.calls (g : Nat) (s0_0 : List Int) (s0_1 : Int) (s0_2 : List Int) (s0_3 : Bool) (s0_4 : Bool) (r1 : Bool) (r2 : Int) (r3 : Bool) (r4 : Bool) (w0 w : World) (hI : IsS91 w0 w g s0_0 s0_1 s0_2 s0_3 s0_4) (hB : Below w0.heap.size w0 w) (h : spec_Editor_Bad.f s0_0 s0_1 s0_2 s0_3 s0_4 = some (r1, r2, r3, r4)) :
    Calls Tryd.prog 33 #[.pointer (some ⟨g, 0, none⟩)] w fun e w' => e = .returned (.bool r1) ∧ IsS91 w0 w' g s0_0 r2 s0_2 r3 r4 ∧ Below w0.heap.size w0 w' ∧ KeepBut w w' g none := by
  have HI0 := Aside0.mk hI
  have HK := Aside0.mk (KeepBut.refl w g none)
  have HL := Aside0.mk hB.size
  clear hI
  have HW0 := Aside0.mk hB.size
  have HB := Aside0.mk hB
  clear hB
  have H : (some (s0_3, s0_1, s0_3, s0_4)) = some (r1, r2, r3, r4) := h
  clear h
  simp only [Option.some.injEq, Prod.mk.injEq] at H
  obtain ⟨rfl, rfl, rfl, rfl⟩ := H
  obtain ⟨ASz2_0, cSz2_0, ASz2_2, cSz2_2, HGz2, hgz2, HSz2_0, HSz2_2⟩ := HI0.out
  have hcz2_0 := cellS91_0 HGz2
  have hcz2_1 := cellS91_1 HGz2
  have hcz2_2 := cellS91_2 HGz2
  have hcz2_3 := cellS91_3 HGz2
  have hcz2_4 := cellS91_4 HGz2
  have hfz2_1 := blk_frozen HGz2 1
  have hfz2_3 := blk_frozen HGz2 3
  have hfz2_4 := blk_frozen HGz2 4
  clear HGz2 hgz2
  go_enter Tryd.func33, Tryd.ntmps33
  go_wp2
  go_ret
  exact ⟨by first | rfl | (simp [errW_none, errW_some] <;> rfl) | (simp [*, errW_none, errW_some] <;> rfl), by repeat (first | (with_reducible first | exact HI0.out | apply IsS91.alloc | apply IsS91.drewN | apply IsS91.drew | apply IsS91.set_1 | apply IsS91.set_3 | apply IsS91.set_4) | exact HI0.out), by repeat (first | (with_reducible first | exact HB.out | apply below_alloc | apply pw_below_drewN | apply below_drew1 | refine below_set ?_ (IsS91.ge HI0.out)) | exact HB.out), by repeat (first | (with_reducible first | exact HK.out | apply KeepBut.set_ | apply keep_drewN | apply keep_drew | apply keep_alloc) | exact HK.out)⟩
/-! ### laws_ascii9: function 16 -/
def laws_ascii9.l0 : Nat → ByteArray → Int → Int → Option (Bool)
  | 0, _, _, _ => none
  | k + 1, x0, x5, x6 => if x6 < x5 then (if 0 ≤ x6 then (if x6 < (x0.size : Int) then (if (bt x0 x6) ≥ 128 then (some false) else (laws_ascii9.l0 k x0 x5 (wrap64 (x6 + 1)))) else (none)) else (none)) else (some (decide ((x0.size : Int) ≤ 300)))
def laws_ascii9.f (k : Nat) (a0 : ByteArray) : Option (Bool) := laws_ascii9.l0 k a0 (a0.size : Int) 0
theorem laws_ascii9.mono_l : ∀ k, (∀ y0 y1 y2, LeO (laws_ascii9.l0 k y0 y1 y2) (laws_ascii9.l0 (k + 1) y0 y1 y2))
  | 0 => fun _ _ _ r h => by simp [laws_ascii9.l0] at h
  | k + 1 => by
    have ih0 := laws_ascii9.mono_l k
    · intro y0 y1 y2
      unfold laws_ascii9.l0
      repeat' first
      | (with_reducible exact ih0 _ _ _)
      | (with_reducible exact LeO.refl _)
      | (with_reducible exact LeO.none _)
      | (with_reducible refine LeO.ite ?_ ?_)
      | (with_reducible refine LeO.bind ?_ (fun _ => ?_))
      | exact ih0 _ _ _
      | exact LeO.none _
      | refine LeO.ite ?_ ?_
      | refine LeO.bind ?_ (fun _ => ?_)
theorem laws_ascii9.mono : ∀ a0 k, LeO (laws_ascii9.f k a0) (laws_ascii9.f (k + 1) a0) := by
  intro a0 k
  have ih0 := laws_ascii9.mono_l k
  unfold laws_ascii9.f
  repeat' first
      | (with_reducible exact ih0 _ _ _)
      | (with_reducible exact LeO.refl _)
      | (with_reducible exact LeO.none _)
      | (with_reducible refine LeO.ite ?_ ?_)
      | (with_reducible refine LeO.bind ?_ (fun _ => ?_))
      | exact ih0 _ _ _
      | exact LeO.none _
      | refine LeO.ite ?_ ?_
      | refine LeO.bind ?_ (fun _ => ?_)
set_option maxHeartbeats 8000000 in
set_option maxRecDepth 100000 in
theorem laws_ascii9.calls (k : Nat) (a0 : ByteArray) (r : Bool) (w : World) (h : laws_ascii9.f k a0 = some r) :
    Calls Tryd.prog 16 #[.string a0] w fun e w' => e = .returned (.bool r) ∧ Drawn0 w w' := by
  have H : (laws_ascii9.l0 k a0 (a0.size : Int) 0) = some r := h
  clear h
  have H' := Aside0.mk H
  clear H
  go_enter Tryd.func16, Tryd.ntmps16
  go_wp2
  go_loopg [6] k (fun kq v6 w' => ∃ (x6_1 : Int), v6 = .int .i64 x6_1 ∧ Aside0 (laws_ascii9.l0 kq a0 (a0.size : Int) x6_1 = some r) ∧ Aside0 (kq ≤ k) ∧ Drawn0 w w')
  case atStart => exact ⟨(0), (by first | rfl | (simp; done) | (simp [*]; done)), H', ⟨Nat.le_refl _⟩, by repeat (first | exact Drawn0.refl _ | apply Drawn0.step)⟩
  case round =>
    clear H'
    try clear c1
    obtain ⟨x6_1, rfl, HA, HK1, ⟨m1, rfl⟩⟩ := hrel
    cases gk with
    | zero => exact absurd HA.out (by simp [laws_ascii9.l0])
    | succ k1 =>
      have H := HA.out
      clear HA
      simp only [laws_ascii9.l0] at H
      by_cases c2 : x6_1 < (a0.size : Int)
      · rw [if_pos c2] at H
        have c2b0 : decide (x6_1 < (a0.size : Int)) = true := decide_eq_true c2
        clear c2
        by_cases c3 : 0 ≤ x6_1
        · rw [if_pos c3] at H
          have c3b0 : decide (0 ≤ x6_1) = true := decide_eq_true c3
          clear c3
          by_cases c4 : x6_1 < (a0.size : Int)
          · rw [if_pos c4] at H
            have c4b0 : decide (x6_1 < (a0.size : Int)) = true := decide_eq_true c4
            clear c4
            by_cases c6 : (bt a0 x6_1) ≥ 128
            · rw [if_pos c6] at H
              have c6b0 : decide (128 ≤ (bt a0 x6_1)) = true := decide_eq_true c6
              clear c6
              obtain rfl := Option.some.inj H
              have p5 : 0 ≤ (x6_1 : Int) := of_decide_eq_true (by first | (with_reducible assumption) | assumption)
              have q5 : x6_1 < (a0.size : Int) := of_decide_eq_true (by first | (with_reducible assumption) | assumption)
              have hx5 := bt_at a0 x6_1
              replace p5 := eq_true p5
              replace q5 := eq_true q5
              go_wp2
              go_ret
              exact ⟨by first | rfl | (simp; done) | (simp [*]; done), by repeat (first | exact Drawn0.refl _ | apply Drawn0.step)⟩
            · rw [if_neg c6] at H
              have c6b0 : decide (128 ≤ (bt a0 x6_1)) = false := decide_eq_false c6
              clear c6
              have H' := Aside0.mk H
              clear H
              have p5 : 0 ≤ (x6_1 : Int) := of_decide_eq_true (by first | (with_reducible assumption) | assumption)
              have q5 : x6_1 < (a0.size : Int) := of_decide_eq_true (by first | (with_reducible assumption) | assumption)
              have hx5 := bt_at a0 x6_1
              replace p5 := eq_true p5
              replace q5 := eq_true q5
              go_wp2
              go_roundg k1
              case measure => have := HK1.out; omega
              case rel => exact ⟨(wrap64 (x6_1 + 1)), (by first | rfl | (simp; done) | (simp [*]; done)), H', ⟨by have := HK1.out; omega⟩, by repeat (first | exact Drawn0.refl _ | apply Drawn0.step)⟩
          · rw [if_neg c4] at H
            exact absurd H (by simp)
        · rw [if_neg c3] at H
          exact absurd H (by simp)
      · rw [if_neg c2] at H
        have c2b0 : decide (x6_1 < (a0.size : Int)) = false := decide_eq_false c2
        clear c2
        obtain rfl := Option.some.inj H
        go_wp2
        go_ret
        exact ⟨by first | rfl | (simp; done) | (simp [*]; done), by repeat (first | exact Drawn0.refl _ | apply Drawn0.step)⟩
/-! ### laws_line9: function 18 -/
def laws_line9.f (k : Nat) (a0_0 : ByteArray) (a0_1 : Int) : Option (Bool) := (laws_ascii9.f k a0_0).bind fun t186 => (if t186 = true then (if a0_1 ≥ 0 then (some (decide (a0_1 ≤ (a0_0.size : Int)))) else (some false)) else (some false))
theorem laws_line9.mono : ∀ a0 a1 k, LeO (laws_line9.f k a0 a1) (laws_line9.f (k + 1) a0 a1) := by
  intro a0 a1 k
  unfold laws_line9.f
  repeat' first
      | (with_reducible exact laws_ascii9.mono _ _)
      | (with_reducible exact LeO.refl _)
      | (with_reducible exact LeO.none _)
      | (with_reducible refine LeO.ite ?_ ?_)
      | (with_reducible refine LeO.bind ?_ (fun _ => ?_))
      | exact laws_ascii9.mono _ _
      | exact LeO.none _
      | refine LeO.ite ?_ ?_
      | refine LeO.bind ?_ (fun _ => ?_)
set_option maxHeartbeats 8000000 in
set_option maxRecDepth 100000 in
theorem laws_line9.calls (k : Nat) (a0_0 : ByteArray) (a0_1 : Int) (r : Bool) (w : World) (h : laws_line9.f k a0_0 a0_1 = some r) :
    Calls Tryd.prog 18 #[.agg #[.string a0_0, .int .i64 a0_1]] w fun e w' => e = .returned (.bool r) ∧ Below w.heap.size w w' := by
  have hu23 := Tryd.underlying23
  have HB := Aside0.mk (Below.refl w.heap.size w)
  have H : ((laws_ascii9.f k a0_0).bind fun t186 => (if t186 = true then (if a0_1 ≥ 0 then (some (decide (a0_1 ≤ (a0_0.size : Int)))) else (some false)) else (some false))) = some r := h
  clear h
  replace H := Option.bind_eq_some_iff.mp H
  obtain ⟨t186, A20, H⟩ := H
  replace H : (if t186 = true then (if a0_1 ≥ 0 then (some (decide (a0_1 ≤ (a0_0.size : Int)))) else (some false)) else (some false)) = some r := H
  have A2 := Aside0.mk A20
  clear A20
  by_cases c3 : t186 = true
  · subst c3
    have H1 : (if a0_1 ≥ 0 then (some (decide (a0_1 ≤ (a0_0.size : Int)))) else (some false)) = some r := by rw [if_pos rfl] at H; exact H
    clear H
    have H := H1
    clear H1
    by_cases c4 : a0_1 ≥ 0
    · rw [if_pos c4] at H
      have c4b0 : decide (0 ≤ a0_1) = true := decide_eq_true c4
      clear c4
      obtain rfl := Option.some.inj H
      go_enter Tryd.func18, Tryd.ntmps18
      go_wp2_with (first | ((with_reducible refine gate_dst (N := 1) rfl ?_); (try (refine gate_guard (by rfl) ?_; dsimp only)); refine box_event ?hg (N := 1) ?hd (cs := #[.string a0_0, .int .i64 a0_1]) (t := 23) ?hr ?_; (case hd => rfl); (case hg => rfl); (case hr => first | (go_simp; done) | (go_simp; rfl)); intro gb185 hg w5 hbox hb; have n0_ := Aside0.mk (below_step (by repeat (first | (with_reducible first | exact HB.out | apply below_alloc | apply pw_below_drewN | apply below_drew1) | exact HB.out)) hb); have n1_ := Aside0.mk (hbox); have n2_ := Aside0.mk ((by rw [hg]; exact (below_size (by repeat (first | (with_reducible first | exact HB.out | apply below_alloc | apply pw_below_drewN | apply below_drew1) | exact HB.out))) : w.heap.size ≤ gb185)); have n3_ := Aside0.mk ((by rw [hg]; exact (below_size (by repeat (first | (with_reducible first | exact HB.out | apply below_alloc | apply pw_below_drewN | apply below_drew1) | exact HB.out))) : w.heap.size ≤ gb185)); clear HB; have HB := n0_; have BK185 := n1_; have GW185 := n2_; have GE185 := n3_; clear n0_ n1_ n2_ n3_; clear hb hbox hg; have hcz6_0 : w5.cell? ⟨gb185, 0, none⟩ = some (.string a0_0) := (blk_cell BK185.out 0).trans rfl; have hcz6_1 : w5.cell? ⟨gb185, 1, none⟩ = some (.int .i64 a0_1) := (blk_cell BK185.out 1).trans rfl; have hfz6_0 := blk_frozen BK185.out 0; have hfz6_1 := blk_frozen BK185.out 1) | ((with_reducible refine gate_callee (f := 16) rfl ?_); refine goesL_ (some 5) rfl rfl Tryd.func16 (by kernel_rfl) rfl #[.string a0_0] rfl (by (try simp only [List.map_toArray, List.map_cons, List.map_nil]); first | done | rfl | (simp only [List.length_drop, List.length_take]; rfl) | (simp only [Int.toNat_natCast, ByteArray.extract_zero_size]; rfl)) ?_; (with_reducible refine (laws_ascii9.calls k a0_0 true _ A2.out).mono ?_); rintro e w' ⟨rfl, ⟨nd, rfl⟩⟩; refine ⟨_, rfl, ?_⟩))
      go_ret
      exact ⟨by first | rfl | (simp [errW_none, errW_some] <;> rfl) | (simp [*, errW_none, errW_some] <;> rfl), by repeat (first | (with_reducible first | exact HB.out | apply below_alloc | apply pw_below_drewN | apply below_drew1 | refine below_set ?_ GE185.out) | exact HB.out)⟩
    · rw [if_neg c4] at H
      have c4b0 : decide (0 ≤ a0_1) = false := decide_eq_false c4
      clear c4
      obtain rfl := Option.some.inj H
      go_enter Tryd.func18, Tryd.ntmps18
      go_wp2_with (first | ((with_reducible refine gate_dst (N := 1) rfl ?_); (try (refine gate_guard (by rfl) ?_; dsimp only)); refine box_event ?hg (N := 1) ?hd (cs := #[.string a0_0, .int .i64 a0_1]) (t := 23) ?hr ?_; (case hd => rfl); (case hg => rfl); (case hr => first | (go_simp; done) | (go_simp; rfl)); intro gb185 hg w7 hbox hb; have n0_ := Aside0.mk (below_step (by repeat (first | (with_reducible first | exact HB.out | apply below_alloc | apply pw_below_drewN | apply below_drew1) | exact HB.out)) hb); have n1_ := Aside0.mk (hbox); have n2_ := Aside0.mk ((by rw [hg]; exact (below_size (by repeat (first | (with_reducible first | exact HB.out | apply below_alloc | apply pw_below_drewN | apply below_drew1) | exact HB.out))) : w.heap.size ≤ gb185)); have n3_ := Aside0.mk ((by rw [hg]; exact (below_size (by repeat (first | (with_reducible first | exact HB.out | apply below_alloc | apply pw_below_drewN | apply below_drew1) | exact HB.out))) : w.heap.size ≤ gb185)); clear HB; have HB := n0_; have BK185 := n1_; have GW185 := n2_; have GE185 := n3_; clear n0_ n1_ n2_ n3_; clear hb hbox hg; have hcz8_0 : w7.cell? ⟨gb185, 0, none⟩ = some (.string a0_0) := (blk_cell BK185.out 0).trans rfl; have hcz8_1 : w7.cell? ⟨gb185, 1, none⟩ = some (.int .i64 a0_1) := (blk_cell BK185.out 1).trans rfl; have hfz8_0 := blk_frozen BK185.out 0; have hfz8_1 := blk_frozen BK185.out 1) | ((with_reducible refine gate_callee (f := 16) rfl ?_); refine goesL_ (some 5) rfl rfl Tryd.func16 (by kernel_rfl) rfl #[.string a0_0] rfl (by (try simp only [List.map_toArray, List.map_cons, List.map_nil]); first | done | rfl | (simp only [List.length_drop, List.length_take]; rfl) | (simp only [Int.toNat_natCast, ByteArray.extract_zero_size]; rfl)) ?_; (with_reducible refine (laws_ascii9.calls k a0_0 true _ A2.out).mono ?_); rintro e w' ⟨rfl, ⟨nd, rfl⟩⟩; refine ⟨_, rfl, ?_⟩))
      go_ret
      exact ⟨by first | rfl | (simp [errW_none, errW_some] <;> rfl) | (simp [*, errW_none, errW_some] <;> rfl), by repeat (first | (with_reducible first | exact HB.out | apply below_alloc | apply pw_below_drewN | apply below_drew1 | refine below_set ?_ GE185.out) | exact HB.out)⟩
  · replace c3 := Bool.eq_false_iff.mpr c3
    subst c3
    have H1 : (some false) = some r := by rw [if_neg (show ¬ (false = true) by decide)] at H; exact H
    clear H
    have H := H1
    clear H1
    obtain rfl := Option.some.inj H
    go_enter Tryd.func18, Tryd.ntmps18
    go_wp2_with (first | ((with_reducible refine gate_dst (N := 1) rfl ?_); (try (refine gate_guard (by rfl) ?_; dsimp only)); refine box_event ?hg (N := 1) ?hd (cs := #[.string a0_0, .int .i64 a0_1]) (t := 23) ?hr ?_; (case hd => rfl); (case hg => rfl); (case hr => first | (go_simp; done) | (go_simp; rfl)); intro gb185 hg w9 hbox hb; have n0_ := Aside0.mk (below_step (by repeat (first | (with_reducible first | exact HB.out | apply below_alloc | apply pw_below_drewN | apply below_drew1) | exact HB.out)) hb); have n1_ := Aside0.mk (hbox); have n2_ := Aside0.mk ((by rw [hg]; exact (below_size (by repeat (first | (with_reducible first | exact HB.out | apply below_alloc | apply pw_below_drewN | apply below_drew1) | exact HB.out))) : w.heap.size ≤ gb185)); have n3_ := Aside0.mk ((by rw [hg]; exact (below_size (by repeat (first | (with_reducible first | exact HB.out | apply below_alloc | apply pw_below_drewN | apply below_drew1) | exact HB.out))) : w.heap.size ≤ gb185)); clear HB; have HB := n0_; have BK185 := n1_; have GW185 := n2_; have GE185 := n3_; clear n0_ n1_ n2_ n3_; clear hb hbox hg; have hcz10_0 : w9.cell? ⟨gb185, 0, none⟩ = some (.string a0_0) := (blk_cell BK185.out 0).trans rfl; have hcz10_1 : w9.cell? ⟨gb185, 1, none⟩ = some (.int .i64 a0_1) := (blk_cell BK185.out 1).trans rfl; have hfz10_0 := blk_frozen BK185.out 0; have hfz10_1 := blk_frozen BK185.out 1) | ((with_reducible refine gate_callee (f := 16) rfl ?_); refine goesL_ (some 5) rfl rfl Tryd.func16 (by kernel_rfl) rfl #[.string a0_0] rfl (by (try simp only [List.map_toArray, List.map_cons, List.map_nil]); first | done | rfl | (simp only [List.length_drop, List.length_take]; rfl) | (simp only [Int.toNat_natCast, ByteArray.extract_zero_size]; rfl)) ?_; (with_reducible refine (laws_ascii9.calls k a0_0 false _ A2.out).mono ?_); rintro e w' ⟨rfl, ⟨nd, rfl⟩⟩; refine ⟨_, rfl, ?_⟩))
    go_ret
    exact ⟨by first | rfl | (simp [errW_none, errW_some] <;> rfl) | (simp [*, errW_none, errW_some] <;> rfl), by repeat (first | (with_reducible first | exact HB.out | apply below_alloc | apply pw_below_drewN | apply below_drew1 | refine below_set ?_ GE185.out) | exact HB.out)⟩
/-- THE ONE PURE STATEMENT of laws_line9: yours. -/
def laws_line9.Pure : Prop := ∀ (a0_0 : ByteArray) (a0_1 : Int), a0_0.size ≤ maxLen → (Lit.int .i64 a0_1).wf = true → ∃ k, laws_line9.f k a0_0 a0_1 = some true
theorem laws_line9.walk (P : laws_line9.Pure) (a0_0 : ByteArray) (a0_1 : Int) (w : World) (hg0_0 : a0_0.size ≤ maxLen) (hg0_1 : (Lit.int .i64 a0_1).wf = true) :
    Calls Tryd.prog 18 #[.agg #[.string a0_0, .int .i64 a0_1]] w fun e w' => e = .returned (.bool true) ∧ Below w.heap.size w w' := by
  obtain ⟨k, h⟩ := P a0_0 a0_1 hg0_0 hg0_1
  refine (laws_line9.calls k a0_0 a0_1 true w h).mono ?_
  rintro e w' ⟨rfl, hd⟩
  exact ⟨rfl, hd⟩
end Go.Proofs.YtdinikcfhpfojaaDoor.PDo
