/- Printed by a program of this seat (xprint) out of the translation: Go functions as plain functions, and the walks that show them; no condition. -/
import Derived.Test.YtkfmjkiefckgoaaGreatDoorQPFnUpDownx0
import Derived.Test.YtkfmjkiefckgoaaGreatDoorQHEdFnUpDown
namespace Go.Proofs.YtkfmjkiefckgoaaGreatDoor.PFnUpDown
open Go.RowKit Go.Proofs.YtkfmjkiefckgoaaGreatDoor.H Go.Proofs.YtkfmjkiefckgoaaGreatDoor.PAroundOf Go.Proofs.YtkfmjkiefckgoaaGreatDoor.R Go.Proofs.YtkfmjkiefckgoaaGreatDoorW.PrintWords Go.Proofs.YtkfmjkiefckgoaaGreatDoorW.PrintLast Go.Proofs.YtkfmjkiefckgoaaGreatDoorW.PrintMore
attribute [local go_sem] max2_int min2_int max_two min_two max_three min_three max_four min_four   -- for this text's walks alone
set_option linter.unusedVariables false
set_option linter.unusedSimpArgs false
/-! ### laws_zzFits2: function 6 -/
def laws_zzFits2.f (a0_0 : ByteArray) (a0_1 : Int) : Option (Bool) := if (a0_0.size : Int) > 2147483647 then (some false) else (some true)
set_option maxHeartbeats 8000000 in
set_option maxRecDepth 100000 in
theorem laws_zzFits2.calls (a0_0 : ByteArray) (a0_1 : Int) (r : Bool) (w : World) (h : laws_zzFits2.f a0_0 a0_1 = some r) :
    Calls Tryz.prog 6 #[.agg #[.string a0_0, .int .i64 a0_1]] w fun e w' => e = .returned (.bool r) ∧ Below w.heap.size w w' := by
  have hu23 := Tryz.underlying23
  have HB := Aside0.mk (Below.refl w.heap.size w)
  have H : (if (a0_0.size : Int) > 2147483647 then (some false) else (some true)) = some r := h
  clear h
  by_cases c2 : (a0_0.size : Int) > 2147483647
  · rw [if_pos c2] at H
    have c2b0 : decide (2147483647 < (a0_0.size : Int)) = true := decide_eq_true c2
    have c2b1 : decide (2147483647 < a0_0.size) = true := decide_eq_true (by omega)
    clear c2
    obtain rfl := Option.some.inj H
    go_enter Tryz.func6, Tryz.ntmps6
    go_wp2_with (first | ((with_reducible refine gate_dst (N := 1) rfl ?_); refine box_event ?hg (N := 1) ?hd (cs := #[.string a0_0, .int .i64 a0_1]) (t := 23) ?hr ?_; (case hd => rfl); (case hg => rfl); (case hr => first | (go_simp; done) | (go_simp; rfl)); intro gb101 hg w3 hbox hb; have n0_ := Aside0.mk (below_step (by repeat (first | (with_reducible first | exact HB.out | apply below_alloc | apply pw_below_drewN | apply below_drew1) | exact HB.out)) hb); have n1_ := Aside0.mk (hbox); have n2_ := Aside0.mk ((by rw [hg]; exact (below_size (by repeat (first | (with_reducible first | exact HB.out | apply below_alloc | apply pw_below_drewN | apply below_drew1) | exact HB.out))) : w.heap.size ≤ gb101)); have n3_ := Aside0.mk ((by rw [hg]; exact (below_size (by repeat (first | (with_reducible first | exact HB.out | apply below_alloc | apply pw_below_drewN | apply below_drew1) | exact HB.out))) : w.heap.size ≤ gb101)); clear HB; have HB := n0_; have BK101 := n1_; have GW101 := n2_; have GE101 := n3_; clear n0_ n1_ n2_ n3_; clear hb hbox hg; have hcz4_0 : w3.cell? ⟨gb101, 0, none⟩ = some (.string a0_0) := (blk_cell BK101.out 0).trans rfl; have hcz4_1 : w3.cell? ⟨gb101, 1, none⟩ = some (.int .i64 a0_1) := (blk_cell BK101.out 1).trans rfl; have hfz4_0 := blk_frozen BK101.out 0; have hfz4_1 := blk_frozen BK101.out 1))
    go_ret
    exact ⟨by first | rfl | (simp [errW_none, errW_some] <;> rfl) | (simp [*, errW_none, errW_some] <;> rfl), by repeat (first | (with_reducible first | exact HB.out | apply below_alloc | apply pw_below_drewN | apply below_drew1 | refine below_set ?_ GE101.out) | exact HB.out)⟩
  · rw [if_neg c2] at H
    have c2b0 : decide (2147483647 < (a0_0.size : Int)) = false := decide_eq_false c2
    have c2b1 : decide (2147483647 < a0_0.size) = false := decide_eq_false (by omega)
    clear c2
    obtain rfl := Option.some.inj H
    go_enter Tryz.func6, Tryz.ntmps6
    go_wp2_with (first | ((with_reducible refine gate_dst (N := 1) rfl ?_); refine box_event ?hg (N := 1) ?hd (cs := #[.string a0_0, .int .i64 a0_1]) (t := 23) ?hr ?_; (case hd => rfl); (case hg => rfl); (case hr => first | (go_simp; done) | (go_simp; rfl)); intro gb101 hg w5 hbox hb; have n0_ := Aside0.mk (below_step (by repeat (first | (with_reducible first | exact HB.out | apply below_alloc | apply pw_below_drewN | apply below_drew1) | exact HB.out)) hb); have n1_ := Aside0.mk (hbox); have n2_ := Aside0.mk ((by rw [hg]; exact (below_size (by repeat (first | (with_reducible first | exact HB.out | apply below_alloc | apply pw_below_drewN | apply below_drew1) | exact HB.out))) : w.heap.size ≤ gb101)); have n3_ := Aside0.mk ((by rw [hg]; exact (below_size (by repeat (first | (with_reducible first | exact HB.out | apply below_alloc | apply pw_below_drewN | apply below_drew1) | exact HB.out))) : w.heap.size ≤ gb101)); clear HB; have HB := n0_; have BK101 := n1_; have GW101 := n2_; have GE101 := n3_; clear n0_ n1_ n2_ n3_; clear hb hbox hg; have hcz6_0 : w5.cell? ⟨gb101, 0, none⟩ = some (.string a0_0) := (blk_cell BK101.out 0).trans rfl; have hcz6_1 : w5.cell? ⟨gb101, 1, none⟩ = some (.int .i64 a0_1) := (blk_cell BK101.out 1).trans rfl; have hfz6_0 := blk_frozen BK101.out 0; have hfz6_1 := blk_frozen BK101.out 1))
    go_ret
    exact ⟨by first | rfl | (simp [errW_none, errW_some] <;> rfl) | (simp [*, errW_none, errW_some] <;> rfl), by repeat (first | (with_reducible first | exact HB.out | apply below_alloc | apply pw_below_drewN | apply below_drew1 | refine below_set ?_ GE101.out) | exact HB.out)⟩
/-! ### spec_ASCII: function 25 -/
def spec_ASCII.l0 : Nat → ByteArray → Int → Option (Bool)
  | 0, _, _ => none
  | k + 1, x0, x3 => if x3 < (x0.size : Int) then (if 0 ≤ x3 then (if (bt x0 x3) ≥ 128 then (some false) else (spec_ASCII.l0 k x0 (wrap64 (x3 + 1)))) else (none)) else (some (decide ((x0.size : Int) ≤ 1000)))
def spec_ASCII.f (k : Nat) (a0 : ByteArray) : Option (Bool) := spec_ASCII.l0 k a0 0
theorem spec_ASCII.mono_l : ∀ k, (∀ y0 y1, LeO (spec_ASCII.l0 k y0 y1) (spec_ASCII.l0 (k + 1) y0 y1))
  | 0 => fun _ _ r h => by simp [spec_ASCII.l0] at h
  | k + 1 => by
    have ih0 := spec_ASCII.mono_l k
    · intro y0 y1
      unfold spec_ASCII.l0
      repeat' first
      | (with_reducible exact ih0 _ _)
      | (with_reducible exact LeO.refl _)
      | (with_reducible exact LeO.none _)
      | (with_reducible refine LeO.ite ?_ ?_)
      | (with_reducible refine LeO.bind ?_ (fun _ => ?_))
      | exact ih0 _ _
      | exact LeO.none _
      | refine LeO.ite ?_ ?_
      | refine LeO.bind ?_ (fun _ => ?_)
theorem spec_ASCII.mono : ∀ a0 k, LeO (spec_ASCII.f k a0) (spec_ASCII.f (k + 1) a0) := by
  intro a0 k
  have ih0 := spec_ASCII.mono_l k
  unfold spec_ASCII.f
  repeat' first
      | (with_reducible exact ih0 _ _)
      | (with_reducible exact LeO.refl _)
      | (with_reducible exact LeO.none _)
      | (with_reducible refine LeO.ite ?_ ?_)
      | (with_reducible refine LeO.bind ?_ (fun _ => ?_))
      | exact ih0 _ _
      | exact LeO.none _
      | refine LeO.ite ?_ ?_
      | refine LeO.bind ?_ (fun _ => ?_)
set_option maxHeartbeats 8000000 in
set_option maxRecDepth 100000 in
theorem spec_ASCII.calls (k : Nat) (a0 : ByteArray) (r : Bool) (w : World) (h : spec_ASCII.f k a0 = some r) :
    Calls Tryz.prog 25 #[.string a0] w fun e w' => e = .returned (.bool r) ∧ Drawn0 w w' := by
  have H : (spec_ASCII.l0 k a0 0) = some r := h
  clear h
  have H' := Aside0.mk H
  clear H
  go_enter Tryz.func25, Tryz.ntmps25
  go_wp2
  go_loopg [3] k (fun kq v3 w' => ∃ (x3_1 : Int), v3 = .int .i64 x3_1 ∧ Aside0 (spec_ASCII.l0 kq a0 x3_1 = some r) ∧ Aside0 (kq ≤ k) ∧ Drawn0 w w')
  case atStart => exact ⟨(0), (by first | rfl | (simp; done) | (simp [*]; done)), H', ⟨Nat.le_refl _⟩, by repeat (first | exact Drawn0.refl _ | apply Drawn0.step)⟩
  case round =>
    clear H'
    obtain ⟨x3_1, rfl, HA, HK1, ⟨m1, rfl⟩⟩ := hrel
    cases gk with
    | zero => exact absurd HA.out (by simp [spec_ASCII.l0])
    | succ k1 =>
      have H := HA.out
      clear HA
      simp only [spec_ASCII.l0] at H
      by_cases c2 : x3_1 < (a0.size : Int)
      · rw [if_pos c2] at H
        have c2b0 : decide (x3_1 < (a0.size : Int)) = true := decide_eq_true c2
        clear c2
        by_cases c3 : 0 ≤ x3_1
        · rw [if_pos c3] at H
          have c3b0 : decide (0 ≤ x3_1) = true := decide_eq_true c3
          clear c3
          by_cases c5 : (bt a0 x3_1) ≥ 128
          · rw [if_pos c5] at H
            have c5b0 : decide (128 ≤ (bt a0 x3_1)) = true := decide_eq_true c5
            clear c5
            obtain rfl := Option.some.inj H
            have p4 : 0 ≤ (x3_1 : Int) := of_decide_eq_true (by first | (with_reducible assumption) | assumption)
            have q4 : x3_1 < (a0.size : Int) := of_decide_eq_true (by first | (with_reducible assumption) | assumption)
            have hx4 := bt_at a0 x3_1
            replace p4 := eq_true p4
            replace q4 := eq_true q4
            go_wp2
            go_ret
            exact ⟨by first | rfl | (simp; done) | (simp [*]; done), by repeat (first | exact Drawn0.refl _ | apply Drawn0.step)⟩
          · rw [if_neg c5] at H
            have c5b0 : decide (128 ≤ (bt a0 x3_1)) = false := decide_eq_false c5
            clear c5
            have H' := Aside0.mk H
            clear H
            have p4 : 0 ≤ (x3_1 : Int) := of_decide_eq_true (by first | (with_reducible assumption) | assumption)
            have q4 : x3_1 < (a0.size : Int) := of_decide_eq_true (by first | (with_reducible assumption) | assumption)
            have hx4 := bt_at a0 x3_1
            replace p4 := eq_true p4
            replace q4 := eq_true q4
            go_wp2
            go_roundg k1
            case measure => have := HK1.out; omega
            case rel => exact ⟨(wrap64 (x3_1 + 1)), (by first | rfl | (simp; done) | (simp [*]; done)), H', ⟨by have := HK1.out; omega⟩, by repeat (first | exact Drawn0.refl _ | apply Drawn0.step)⟩
        · rw [if_neg c3] at H
          exact absurd H (by simp)
      · rw [if_neg c2] at H
        have c2b0 : decide (x3_1 < (a0.size : Int)) = false := decide_eq_false c2
        clear c2
        obtain rfl := Option.some.inj H
        go_wp2
        go_ret
        exact ⟨by first | rfl | (simp; done) | (simp [*]; done), by repeat (first | exact Drawn0.refl _ | apply Drawn0.step)⟩
/-! ### spec_DocRight: function 11 -/
def spec_DocRight.f (k : Nat) (a0_0 : ByteArray) (a0_1 : Int) : Option (Bool) := (spec_ASCII.f k a0_0).bind fun t103 => (if t103 = true then (if a0_1 ≥ 0 then (some (decide (a0_1 ≤ (a0_0.size : Int)))) else (some false)) else (some false))
theorem spec_DocRight.mono : ∀ a0 a1 k, LeO (spec_DocRight.f k a0 a1) (spec_DocRight.f (k + 1) a0 a1) := by
  intro a0 a1 k
  unfold spec_DocRight.f
  repeat' first
      | (with_reducible exact spec_ASCII.mono _ _)
      | (with_reducible exact LeO.refl _)
      | (with_reducible exact LeO.none _)
      | (with_reducible refine LeO.ite ?_ ?_)
      | (with_reducible refine LeO.bind ?_ (fun _ => ?_))
      | exact spec_ASCII.mono _ _
      | exact LeO.none _
      | refine LeO.ite ?_ ?_
      | refine LeO.bind ?_ (fun _ => ?_)
set_option maxHeartbeats 8000000 in
set_option maxRecDepth 100000 in
theorem spec_DocRight.calls (k : Nat) (a0_0 : ByteArray) (a0_1 : Int) (r : Bool) (w : World) (h : spec_DocRight.f k a0_0 a0_1 = some r) :
    Calls Tryz.prog 11 #[.agg #[.string a0_0, .int .i64 a0_1]] w fun e w' => e = .returned (.bool r) ∧ Below w.heap.size w w' := by
  have hu23 := Tryz.underlying23
  have HB := Aside0.mk (Below.refl w.heap.size w)
  have H : ((spec_ASCII.f k a0_0).bind fun t103 => (if t103 = true then (if a0_1 ≥ 0 then (some (decide (a0_1 ≤ (a0_0.size : Int)))) else (some false)) else (some false))) = some r := h
  clear h
  replace H := Option.bind_eq_some_iff.mp H
  obtain ⟨t103, A20, H⟩ := H
  replace H : (if t103 = true then (if a0_1 ≥ 0 then (some (decide (a0_1 ≤ (a0_0.size : Int)))) else (some false)) else (some false)) = some r := H
  have A2 := Aside0.mk A20
  clear A20
  by_cases c3 : t103 = true
  · subst c3
    have H1 : (if a0_1 ≥ 0 then (some (decide (a0_1 ≤ (a0_0.size : Int)))) else (some false)) = some r := by rw [if_pos rfl] at H; exact H
    clear H
    have H := H1
    clear H1
    by_cases c4 : a0_1 ≥ 0
    · rw [if_pos c4] at H
      have c4b0 : decide (0 ≤ a0_1) = true := decide_eq_true c4
      clear c4
      obtain rfl := Option.some.inj H
      go_enter Tryz.func11, Tryz.ntmps11
      go_wp2_with (first | ((with_reducible refine gate_dst (N := 1) rfl ?_); (try (refine gate_guard (by rfl) ?_; dsimp only)); refine box_event ?hg (N := 1) ?hd (cs := #[.string a0_0, .int .i64 a0_1]) (t := 23) ?hr ?_; (case hd => rfl); (case hg => rfl); (case hr => first | (go_simp; done) | (go_simp; rfl)); intro gb102 hg w5 hbox hb; have n0_ := Aside0.mk (below_step (by repeat (first | (with_reducible first | exact HB.out | apply below_alloc | apply pw_below_drewN | apply below_drew1) | exact HB.out)) hb); have n1_ := Aside0.mk (hbox); have n2_ := Aside0.mk ((by rw [hg]; exact (below_size (by repeat (first | (with_reducible first | exact HB.out | apply below_alloc | apply pw_below_drewN | apply below_drew1) | exact HB.out))) : w.heap.size ≤ gb102)); have n3_ := Aside0.mk ((by rw [hg]; exact (below_size (by repeat (first | (with_reducible first | exact HB.out | apply below_alloc | apply pw_below_drewN | apply below_drew1) | exact HB.out))) : w.heap.size ≤ gb102)); clear HB; have HB := n0_; have BK102 := n1_; have GW102 := n2_; have GE102 := n3_; clear n0_ n1_ n2_ n3_; clear hb hbox hg; have hcz6_0 : w5.cell? ⟨gb102, 0, none⟩ = some (.string a0_0) := (blk_cell BK102.out 0).trans rfl; have hcz6_1 : w5.cell? ⟨gb102, 1, none⟩ = some (.int .i64 a0_1) := (blk_cell BK102.out 1).trans rfl; have hfz6_0 := blk_frozen BK102.out 0; have hfz6_1 := blk_frozen BK102.out 1) | ((with_reducible refine gate_callee (f := 25) rfl ?_); refine goesL_ (some 5) rfl rfl Tryz.func25 (by kernel_rfl) rfl #[.string a0_0] rfl (by (try simp only [List.map_toArray, List.map_cons, List.map_nil]); first | done | rfl | (simp only [List.length_drop, List.length_take]; rfl) | (simp only [Int.toNat_natCast, ByteArray.extract_zero_size]; rfl)) ?_; (with_reducible refine (spec_ASCII.calls k a0_0 true _ A2.out).mono ?_); rintro e w' ⟨rfl, ⟨nd, rfl⟩⟩; refine ⟨_, rfl, ?_⟩))
      go_ret
      exact ⟨by first | rfl | (simp [errW_none, errW_some] <;> rfl) | (simp [*, errW_none, errW_some] <;> rfl), by repeat (first | (with_reducible first | exact HB.out | apply below_alloc | apply pw_below_drewN | apply below_drew1 | refine below_set ?_ GE102.out) | exact HB.out)⟩
    · rw [if_neg c4] at H
      have c4b0 : decide (0 ≤ a0_1) = false := decide_eq_false c4
      clear c4
      obtain rfl := Option.some.inj H
      go_enter Tryz.func11, Tryz.ntmps11
      go_wp2_with (first | ((with_reducible refine gate_dst (N := 1) rfl ?_); (try (refine gate_guard (by rfl) ?_; dsimp only)); refine box_event ?hg (N := 1) ?hd (cs := #[.string a0_0, .int .i64 a0_1]) (t := 23) ?hr ?_; (case hd => rfl); (case hg => rfl); (case hr => first | (go_simp; done) | (go_simp; rfl)); intro gb102 hg w7 hbox hb; have n0_ := Aside0.mk (below_step (by repeat (first | (with_reducible first | exact HB.out | apply below_alloc | apply pw_below_drewN | apply below_drew1) | exact HB.out)) hb); have n1_ := Aside0.mk (hbox); have n2_ := Aside0.mk ((by rw [hg]; exact (below_size (by repeat (first | (with_reducible first | exact HB.out | apply below_alloc | apply pw_below_drewN | apply below_drew1) | exact HB.out))) : w.heap.size ≤ gb102)); have n3_ := Aside0.mk ((by rw [hg]; exact (below_size (by repeat (first | (with_reducible first | exact HB.out | apply below_alloc | apply pw_below_drewN | apply below_drew1) | exact HB.out))) : w.heap.size ≤ gb102)); clear HB; have HB := n0_; have BK102 := n1_; have GW102 := n2_; have GE102 := n3_; clear n0_ n1_ n2_ n3_; clear hb hbox hg; have hcz8_0 : w7.cell? ⟨gb102, 0, none⟩ = some (.string a0_0) := (blk_cell BK102.out 0).trans rfl; have hcz8_1 : w7.cell? ⟨gb102, 1, none⟩ = some (.int .i64 a0_1) := (blk_cell BK102.out 1).trans rfl; have hfz8_0 := blk_frozen BK102.out 0; have hfz8_1 := blk_frozen BK102.out 1) | ((with_reducible refine gate_callee (f := 25) rfl ?_); refine goesL_ (some 5) rfl rfl Tryz.func25 (by kernel_rfl) rfl #[.string a0_0] rfl (by (try simp only [List.map_toArray, List.map_cons, List.map_nil]); first | done | rfl | (simp only [List.length_drop, List.length_take]; rfl) | (simp only [Int.toNat_natCast, ByteArray.extract_zero_size]; rfl)) ?_; (with_reducible refine (spec_ASCII.calls k a0_0 true _ A2.out).mono ?_); rintro e w' ⟨rfl, ⟨nd, rfl⟩⟩; refine ⟨_, rfl, ?_⟩))
      go_ret
      exact ⟨by first | rfl | (simp [errW_none, errW_some] <;> rfl) | (simp [*, errW_none, errW_some] <;> rfl), by repeat (first | (with_reducible first | exact HB.out | apply below_alloc | apply pw_below_drewN | apply below_drew1 | refine below_set ?_ GE102.out) | exact HB.out)⟩
  · replace c3 := Bool.eq_false_iff.mpr c3
    subst c3
    have H1 : (some false) = some r := by rw [if_neg (show ¬ (false = true) by decide)] at H; exact H
    clear H
    have H := H1
    clear H1
    obtain rfl := Option.some.inj H
    go_enter Tryz.func11, Tryz.ntmps11
    go_wp2_with (first | ((with_reducible refine gate_dst (N := 1) rfl ?_); (try (refine gate_guard (by rfl) ?_; dsimp only)); refine box_event ?hg (N := 1) ?hd (cs := #[.string a0_0, .int .i64 a0_1]) (t := 23) ?hr ?_; (case hd => rfl); (case hg => rfl); (case hr => first | (go_simp; done) | (go_simp; rfl)); intro gb102 hg w9 hbox hb; have n0_ := Aside0.mk (below_step (by repeat (first | (with_reducible first | exact HB.out | apply below_alloc | apply pw_below_drewN | apply below_drew1) | exact HB.out)) hb); have n1_ := Aside0.mk (hbox); have n2_ := Aside0.mk ((by rw [hg]; exact (below_size (by repeat (first | (with_reducible first | exact HB.out | apply below_alloc | apply pw_below_drewN | apply below_drew1) | exact HB.out))) : w.heap.size ≤ gb102)); have n3_ := Aside0.mk ((by rw [hg]; exact (below_size (by repeat (first | (with_reducible first | exact HB.out | apply below_alloc | apply pw_below_drewN | apply below_drew1) | exact HB.out))) : w.heap.size ≤ gb102)); clear HB; have HB := n0_; have BK102 := n1_; have GW102 := n2_; have GE102 := n3_; clear n0_ n1_ n2_ n3_; clear hb hbox hg; have hcz10_0 : w9.cell? ⟨gb102, 0, none⟩ = some (.string a0_0) := (blk_cell BK102.out 0).trans rfl; have hcz10_1 : w9.cell? ⟨gb102, 1, none⟩ = some (.int .i64 a0_1) := (blk_cell BK102.out 1).trans rfl; have hfz10_0 := blk_frozen BK102.out 0; have hfz10_1 := blk_frozen BK102.out 1) | ((with_reducible refine gate_callee (f := 25) rfl ?_); refine goesL_ (some 5) rfl rfl Tryz.func25 (by kernel_rfl) rfl #[.string a0_0] rfl (by (try simp only [List.map_toArray, List.map_cons, List.map_nil]); first | done | rfl | (simp only [List.length_drop, List.length_take]; rfl) | (simp only [Int.toNat_natCast, ByteArray.extract_zero_size]; rfl)) ?_; (with_reducible refine (spec_ASCII.calls k a0_0 false _ A2.out).mono ?_); rintro e w' ⟨rfl, ⟨nd, rfl⟩⟩; refine ⟨_, rfl, ?_⟩))
    go_ret
    exact ⟨by first | rfl | (simp [errW_none, errW_some] <;> rfl) | (simp [*, errW_none, errW_some] <;> rfl), by repeat (first | (with_reducible first | exact HB.out | apply below_alloc | apply pw_below_drewN | apply below_drew1 | refine below_set ?_ GE102.out) | exact HB.out)⟩
/-! ### spec_hasByte: function 53 -/
def spec_hasByte.l0 : Nat → ByteArray → Int → Int → Option (Bool)
  | 0, _, _, _ => none
  | k + 1, x0, x1, x5 => if x5 < (x0.size : Int) then (if 0 ≤ x5 then (if (bt x0 x5) = x1 then (some true) else (spec_hasByte.l0 k x0 x1 (wrap64 (x5 + 1)))) else (none)) else (some false)
def spec_hasByte.f (k : Nat) (a0 : ByteArray) (a1 : Int) : Option (Bool) := spec_hasByte.l0 k a0 a1 0
theorem spec_hasByte.mono_l : ∀ k, (∀ y0 y1 y2, LeO (spec_hasByte.l0 k y0 y1 y2) (spec_hasByte.l0 (k + 1) y0 y1 y2))
  | 0 => fun _ _ _ r h => by simp [spec_hasByte.l0] at h
  | k + 1 => by
    have ih0 := spec_hasByte.mono_l k
    · intro y0 y1 y2
      unfold spec_hasByte.l0
      repeat' first
      | (with_reducible exact ih0 _ _ _)
      | (with_reducible exact LeO.refl _)
      | (with_reducible exact LeO.none _)
      | (with_reducible refine LeO.ite ?_ ?_)
      | (with_reducible refine LeO.bind ?_ (fun _ => ?_))
      | exact ih0 _ _ _
      | exact LeO.none _
      | refine LeO.ite ?_ ?_
      | refine LeO.bind ?_ (fun _ => ?_)
theorem spec_hasByte.mono : ∀ a0 a1 k, LeO (spec_hasByte.f k a0 a1) (spec_hasByte.f (k + 1) a0 a1) := by
  intro a0 a1 k
  have ih0 := spec_hasByte.mono_l k
  unfold spec_hasByte.f
  repeat' first
      | (with_reducible exact ih0 _ _ _)
      | (with_reducible exact LeO.refl _)
      | (with_reducible exact LeO.none _)
      | (with_reducible refine LeO.ite ?_ ?_)
      | (with_reducible refine LeO.bind ?_ (fun _ => ?_))
      | exact ih0 _ _ _
      | exact LeO.none _
      | refine LeO.ite ?_ ?_
      | refine LeO.bind ?_ (fun _ => ?_)
set_option maxHeartbeats 8000000 in
set_option maxRecDepth 100000 in
theorem spec_hasByte.calls (k : Nat) (a0 : ByteArray) (a1 : Int) (r : Bool) (w : World) (h : spec_hasByte.f k a0 a1 = some r) :
    Calls Tryz.prog 53 #[.string a0, .int .u8 a1] w fun e w' => e = .returned (.bool r) ∧ Drawn0 w w' := by
  have H : (spec_hasByte.l0 k a0 a1 0) = some r := h
  clear h
  have H' := Aside0.mk H
  clear H
  go_enter Tryz.func53, Tryz.ntmps53
  go_wp2
  go_loopg [5] k (fun kq v5 w' => ∃ (x5_1 : Int), v5 = .int .i64 x5_1 ∧ Aside0 (spec_hasByte.l0 kq a0 a1 x5_1 = some r) ∧ Aside0 (kq ≤ k) ∧ Drawn0 w w')
  case atStart => exact ⟨(0), (by first | rfl | (simp; done) | (simp [*]; done)), H', ⟨Nat.le_refl _⟩, by repeat (first | exact Drawn0.refl _ | apply Drawn0.step)⟩
  case round =>
    clear H'
    try clear p2
    obtain ⟨x5_1, rfl, HA, HK1, ⟨m1, rfl⟩⟩ := hrel
    cases gk with
    | zero => exact absurd HA.out (by simp [spec_hasByte.l0])
    | succ k1 =>
      have H := HA.out
      clear HA
      simp only [spec_hasByte.l0] at H
      by_cases c3 : x5_1 < (a0.size : Int)
      · rw [if_pos c3] at H
        have c3b0 : decide (x5_1 < (a0.size : Int)) = true := decide_eq_true c3
        clear c3
        by_cases c4 : 0 ≤ x5_1
        · rw [if_pos c4] at H
          have c4b0 : decide (0 ≤ x5_1) = true := decide_eq_true c4
          clear c4
          by_cases c6 : (bt a0 x5_1) = a1
          · rw [if_pos c6] at H
            have c6b0 : ((bt a0 x5_1) == a1) = true := beq_iff_eq.mpr c6
            have c6b1 : ((bt a0 x5_1) != a1) = false := bne_eq_false_iff_eq.mpr c6
            clear c6
            obtain rfl := Option.some.inj H
            have p5 : 0 ≤ (x5_1 : Int) := of_decide_eq_true (by first | (with_reducible assumption) | assumption)
            have q5 : x5_1 < (a0.size : Int) := of_decide_eq_true (by first | (with_reducible assumption) | assumption)
            have hx5 := bt_at a0 x5_1
            replace p5 := eq_true p5
            replace q5 := eq_true q5
            go_wp2
            go_ret
            exact ⟨by first | rfl | (simp; done) | (simp [*]; done), by repeat (first | exact Drawn0.refl _ | apply Drawn0.step)⟩
          · rw [if_neg c6] at H
            have c6b0 : ((bt a0 x5_1) == a1) = false := beq_eq_false_iff_ne.mpr c6
            have c6b1 : ((bt a0 x5_1) != a1) = true := bne_iff_ne.mpr c6
            have H' := Aside0.mk H
            clear H
            have p5 : 0 ≤ (x5_1 : Int) := of_decide_eq_true (by first | (with_reducible assumption) | assumption)
            have q5 : x5_1 < (a0.size : Int) := of_decide_eq_true (by first | (with_reducible assumption) | assumption)
            have hx5 := bt_at a0 x5_1
            replace p5 := eq_true p5
            replace q5 := eq_true q5
            go_wp2
            go_roundg k1
            case measure => have := HK1.out; omega
            case rel => exact ⟨(wrap64 (x5_1 + 1)), (by first | rfl | (simp; done) | (simp [*]; done)), H', ⟨by have := HK1.out; omega⟩, by repeat (first | exact Drawn0.refl _ | apply Drawn0.step)⟩
        · rw [if_neg c4] at H
          exact absurd H (by simp)
      · rw [if_neg c3] at H
        have c3b0 : decide (x5_1 < (a0.size : Int)) = false := decide_eq_false c3
        clear c3
        obtain rfl := Option.some.inj H
        go_wp2
        go_ret
        exact ⟨by first | rfl | (simp; done) | (simp [*]; done), by repeat (first | exact Drawn0.refl _ | apply Drawn0.step)⟩
/-! ### spec_first: function 26 -/
def spec_first.l0 : Nat → ByteArray → ByteArray → Bool → Int → Option (Int)
  | 0, _, _, _, _ => none
  | k + 1, x0, x1, x2, x7 => if x7 < (x0.size : Int) then (if 0 ≤ x7 then ((spec_hasByte.f k x1 (bt x0 x7)).bind fun t104 => (if (t104 != x2) = true then (some x7) else (spec_first.l0 k x0 x1 x2 (wrap64 (x7 + 1))))) else (none)) else (some (-1))
def spec_first.f (k : Nat) (a0 : ByteArray) (a1 : ByteArray) (a2 : Bool) : Option (Int) := spec_first.l0 k a0 a1 a2 0
theorem spec_first.mono_l : ∀ k, (∀ y0 y1 y2 y3, LeO (spec_first.l0 k y0 y1 y2 y3) (spec_first.l0 (k + 1) y0 y1 y2 y3))
  | 0 => fun _ _ _ _ r h => by simp [spec_first.l0] at h
  | k + 1 => by
    have ih0 := spec_first.mono_l k
    · intro y0 y1 y2 y3
      unfold spec_first.l0
      repeat' first
      | (with_reducible exact ih0 _ _ _ _)
      | (with_reducible exact spec_hasByte.mono _ _ _)
      | (with_reducible exact LeO.refl _)
      | (with_reducible exact LeO.none _)
      | (with_reducible refine LeO.ite ?_ ?_)
      | (with_reducible refine LeO.bind ?_ (fun _ => ?_))
      | exact ih0 _ _ _ _
      | exact spec_hasByte.mono _ _ _
      | exact LeO.none _
      | refine LeO.ite ?_ ?_
      | refine LeO.bind ?_ (fun _ => ?_)
theorem spec_first.mono : ∀ a0 a1 a2 k, LeO (spec_first.f k a0 a1 a2) (spec_first.f (k + 1) a0 a1 a2) := by
  intro a0 a1 a2 k
  have ih0 := spec_first.mono_l k
  unfold spec_first.f
  repeat' first
      | (with_reducible exact ih0 _ _ _ _)
      | (with_reducible exact spec_hasByte.mono _ _ _)
      | (with_reducible exact LeO.refl _)
      | (with_reducible exact LeO.none _)
      | (with_reducible refine LeO.ite ?_ ?_)
      | (with_reducible refine LeO.bind ?_ (fun _ => ?_))
      | exact ih0 _ _ _ _
      | exact spec_hasByte.mono _ _ _
      | exact LeO.none _
      | refine LeO.ite ?_ ?_
      | refine LeO.bind ?_ (fun _ => ?_)
set_option maxHeartbeats 8000000 in
set_option maxRecDepth 100000 in
theorem spec_first.calls (k : Nat) (a0 : ByteArray) (a1 : ByteArray) (a2 : Bool) (r : Int) (w : World) (h : spec_first.f k a0 a1 a2 = some r) :
    Calls Tryz.prog 26 #[.string a0, .string a1, .bool a2] w fun e w' => e = .returned (.int .i64 r) ∧ Drawn0 w w' := by
  have H : (spec_first.l0 k a0 a1 a2 0) = some r := h
  clear h
  have H' := Aside0.mk H
  clear H
  go_enter Tryz.func26, Tryz.ntmps26
  go_wp2
  go_loopg [7] k (fun kq v7 w' => ∃ (x7_1 : Int), v7 = .int .i64 x7_1 ∧ Aside0 (spec_first.l0 kq a0 a1 a2 x7_1 = some r) ∧ Aside0 (kq ≤ k) ∧ Drawn0 w w')
  case atStart => exact ⟨(0), (by first | rfl | (simp; done) | (simp [*]; done)), H', ⟨Nat.le_refl _⟩, by repeat (first | exact Drawn0.refl _ | apply Drawn0.step)⟩
  case round =>
    clear H'
    try clear c2
    try clear p2
    obtain ⟨x7_1, rfl, HA, HK1, ⟨m1, rfl⟩⟩ := hrel
    cases gk with
    | zero => exact absurd HA.out (by simp [spec_first.l0])
    | succ k1 =>
      have H := HA.out
      clear HA
      simp only [spec_first.l0] at H
      by_cases c4 : x7_1 < (a0.size : Int)
      · rw [if_pos c4] at H
        have c4b0 : decide (x7_1 < (a0.size : Int)) = true := decide_eq_true c4
        clear c4
        by_cases c5 : 0 ≤ x7_1
        · rw [if_pos c5] at H
          have c5b0 : decide (0 ≤ x7_1) = true := decide_eq_true c5
          clear c5
          replace H := Option.bind_eq_some_iff.mp H
          obtain ⟨t104, A70, H⟩ := H
          replace H : (if (t104 != a2) = true then (some x7_1) else (spec_first.l0 k1 a0 a1 a2 (wrap64 (x7_1 + 1)))) = some r := H
          have A7 := Aside0.mk A70
          clear A70
          by_cases c8 : (t104 != a2) = true
          · rw [if_pos c8] at H
            have c8b0 : (t104 != a2) = true := c8
            (try (have c8b1 : decide (t104 = a2) = false := by simpa using c8))
            (try (have c8b2 : (t104 == a2) = false := by simpa using c8))
            (try (have c8b3 : ¬ (t104 = a2) := by simpa using c8))
            clear c8
            obtain rfl := Option.some.inj H
            have p6 : 0 ≤ (x7_1 : Int) := of_decide_eq_true (by first | (with_reducible assumption) | assumption)
            have q6 : x7_1 < (a0.size : Int) := of_decide_eq_true (by first | (with_reducible assumption) | assumption)
            have hx6 := bt_at a0 x7_1
            replace p6 := eq_true p6
            replace q6 := eq_true q6
            go_wp2_with (first | ((with_reducible refine gate_callee (f := 53) rfl ?_); refine goesL_ (some 18) rfl rfl Tryz.func53 (by kernel_rfl) rfl #[.string a1, .int .u8 (bt a0 x7_1)] rfl (by (try simp only [List.map_toArray, List.map_cons, List.map_nil]); first | done | rfl | (simp only [List.length_drop, List.length_take]; rfl) | (simp only [Int.toNat_natCast, ByteArray.extract_zero_size]; rfl)) ?_; (with_reducible refine (spec_hasByte.calls k1 a1 (bt a0 x7_1) t104 _ A7.out).mono ?_); rintro e w' ⟨rfl, ⟨nd, rfl⟩⟩; refine ⟨_, rfl, ?_⟩))
            go_ret
            exact ⟨by first | rfl | (simp; done) | (simp [*]; done), by repeat (first | exact Drawn0.refl _ | apply Drawn0.step)⟩
          · rw [if_neg c8] at H
            have c8b0 : (t104 != a2) = false := by simpa using c8
            (try (have c8b1 : decide (t104 = a2) = true := by simpa using c8))
            (try (have c8b2 : (t104 == a2) = true := by simpa using c8))
            clear c8
            have H' := Aside0.mk H
            clear H
            have p6 : 0 ≤ (x7_1 : Int) := of_decide_eq_true (by first | (with_reducible assumption) | assumption)
            have q6 : x7_1 < (a0.size : Int) := of_decide_eq_true (by first | (with_reducible assumption) | assumption)
            have hx6 := bt_at a0 x7_1
            replace p6 := eq_true p6
            replace q6 := eq_true q6
            go_wp2_with (first | ((with_reducible refine gate_callee (f := 53) rfl ?_); refine goesL_ (some 18) rfl rfl Tryz.func53 (by kernel_rfl) rfl #[.string a1, .int .u8 (bt a0 x7_1)] rfl (by (try simp only [List.map_toArray, List.map_cons, List.map_nil]); first | done | rfl | (simp only [List.length_drop, List.length_take]; rfl) | (simp only [Int.toNat_natCast, ByteArray.extract_zero_size]; rfl)) ?_; (with_reducible refine (spec_hasByte.calls k1 a1 (bt a0 x7_1) t104 _ A7.out).mono ?_); rintro e w' ⟨rfl, ⟨nd, rfl⟩⟩; refine ⟨_, rfl, ?_⟩))
            go_roundg k1
            case measure => have := HK1.out; omega
            case rel => exact ⟨(wrap64 (x7_1 + 1)), (by first | rfl | (simp; done) | (simp [*]; done)), H', ⟨by have := HK1.out; omega⟩, by repeat (first | exact Drawn0.refl _ | apply Drawn0.step)⟩
        · rw [if_neg c5] at H
          exact absurd H (by simp)
      · rw [if_neg c4] at H
        have c4b0 : decide (x7_1 < (a0.size : Int)) = false := decide_eq_false c4
        clear c4
        obtain rfl := Option.some.inj H
        go_wp2
        go_ret
        exact ⟨by first | rfl | (simp; done) | (simp [*]; done), by repeat (first | exact Drawn0.refl _ | apply Drawn0.step)⟩
/-! ### spec_Lines: function 12 -/
def spec_Lines.l0 : Nat → ByteArray → List ByteArray → Option (List ByteArray)
  | 0, _, _ => none
  | k + 1, x0, x3 => (spec_first.f k x0 (⟨#[10]⟩ : ByteArray) false).bind fun t105 => (if t105 < 0 then (if x3.length < 8796093022208 then (some (x3 ++ [x0])) else (none)) else (if 0 ≤ t105 then (if t105 ≤ (x0.size : Int) then (if x3.length < 8796093022208 then (if 0 ≤ (wrap64 (t105 + 1)) then (if (wrap64 (t105 + 1)) ≤ (x0.size : Int) then (spec_Lines.l0 k (x0.extract ((wrap64 (t105 + 1)) : Int).toNat x0.size) (x3 ++ [x0.extract 0 (t105 : Int).toNat])) else (none)) else (none)) else (none)) else (none)) else (none)))
def spec_Lines.f (k : Nat) (a0 : ByteArray) : Option (List ByteArray) := spec_Lines.l0 k a0 ([] : List ByteArray)
theorem spec_Lines.mono_l : ∀ k, (∀ y0 y1, LeO (spec_Lines.l0 k y0 y1) (spec_Lines.l0 (k + 1) y0 y1))
  | 0 => fun _ _ r h => by simp [spec_Lines.l0] at h
  | k + 1 => by
    have ih0 := spec_Lines.mono_l k
    · intro y0 y1
      unfold spec_Lines.l0
      repeat' first
      | (with_reducible exact ih0 _ _)
      | (with_reducible exact spec_first.mono _ _ _ _)
      | (with_reducible exact LeO.refl _)
      | (with_reducible exact LeO.none _)
      | (with_reducible refine LeO.ite ?_ ?_)
      | (with_reducible refine LeO.bind ?_ (fun _ => ?_))
      | exact ih0 _ _
      | exact spec_first.mono _ _ _ _
      | exact LeO.none _
      | refine LeO.ite ?_ ?_
      | refine LeO.bind ?_ (fun _ => ?_)
theorem spec_Lines.mono : ∀ a0 k, LeO (spec_Lines.f k a0) (spec_Lines.f (k + 1) a0) := by
  intro a0 k
  have ih0 := spec_Lines.mono_l k
  unfold spec_Lines.f
  repeat' first
      | (with_reducible exact ih0 _ _)
      | (with_reducible exact spec_first.mono _ _ _ _)
      | (with_reducible exact LeO.refl _)
      | (with_reducible exact LeO.none _)
      | (with_reducible refine LeO.ite ?_ ?_)
      | (with_reducible refine LeO.bind ?_ (fun _ => ?_))
      | exact ih0 _ _
      | exact spec_first.mono _ _ _ _
      | exact LeO.none _
      | refine LeO.ite ?_ ?_
      | refine LeO.bind ?_ (fun _ => ?_)
def spec_Lines.T5 : Bool × List (List Nat × List Nat) := (true, [([], []), ([], []), ([], []), ([1, 2], [1, 2]), ([3], [3]), ([0, 4], [0, 4]), ([], []), ([], []), ([7], [7]), ([6, 8], [6, 8]), ([5, 5, 0, 1, 2, 3, 4, 5], [0, 5]), ([9, 10, 0, 1, 2, 3, 4, 5, 6, 7, 8, 9, 10], [1, 6, 9])])
def spec_Lines.B5 : List Nat := [0, 0, 0, 6, 14, 31, 0, 0, 128, 448, 63, 2047]
theorem spec_Lines.tab5 : rtab .any (opsOf Tryz.f12 5) = spec_Lines.T5 := by kernel_rfl
theorem spec_Lines.bits5 : waitsOk spec_Lines.T5.2 spec_Lines.B5 = true := by kernel_rfl
set_option maxHeartbeats 8000000 in
set_option maxRecDepth 100000 in
theorem spec_Lines.calls (k : Nat) (a0 : ByteArray) (r : List ByteArray) (w : World) (h : spec_Lines.f k a0 = some r) :
    Calls Tryz.prog 12 #[.string a0] w fun e w' => ∃ v0_ : Value, e = .returned (v0_) ∧ Kd.R Kd.string 9 w' w.heap.size (fun _ => True) v0_ r ∧ Below w.heap.size w w' := by
  have HB := Aside0.mk (Below.refl w.heap.size w)
  have H : (spec_Lines.l0 k a0 ([] : List ByteArray)) = some r := h
  clear h
  have H' := Aside0.mk H
  clear H
  go_enter Tryz.func12, Tryz.ntmps12
  go_wp2
  go_loopg [0, 3] k (fun kq v0 v3 w' => ∃ (x0_1 : ByteArray) (x3_1 : List ByteArray), v0 = .string x0_1 ∧ Aside0 (spec_Lines.l0 kq x0_1 x3_1 = some r) ∧ Aside0 (kq ≤ k) ∧ Aside0 (Kd.R Kd.string 9 w' w.heap.size (fun _ => True) v3 x3_1) ∧ Aside0 (Below w.heap.size w w'))
  case atStart => exact ⟨(a0), (([] : List ByteArray)), (by first | rfl | (simp; done) | (simp [*]; done)), H', ⟨Nat.le_refl _⟩, ⟨by first | exact Kd.R_nil _ _ _ _ _ | exact Kd.N_nil _ _ _ _ _ | exact Kd.V_nil _ _ _ _ _ | exact Kd.Q_nil _ _ _ _ _ | exact Kd.S_nil _ _ _ _ _⟩, ⟨by repeat (first | (with_reducible first | exact HB.out | apply below_alloc | apply pw_below_drewN | apply below_drew1) | exact HB.out)⟩⟩
  case round =>
    clear H'
    try clear c1
    obtain ⟨x0_1, x3_1, rfl, HA, HK1, HO_3, HB⟩ := hrel
    cases gk with
    | zero => exact absurd HA.out (by simp [spec_Lines.l0])
    | succ k1 =>
      have H := HA.out
      clear HA
      simp only [spec_Lines.l0] at H
      replace H := Option.bind_eq_some_iff.mp H
      obtain ⟨t105, A20, H⟩ := H
      replace H : (if t105 < 0 then (if x3_1.length < 8796093022208 then (some (x3_1 ++ [x0_1])) else (none)) else (if 0 ≤ t105 then (if t105 ≤ (x0_1.size : Int) then (if x3_1.length < 8796093022208 then (if 0 ≤ (wrap64 (t105 + 1)) then (if (wrap64 (t105 + 1)) ≤ (x0_1.size : Int) then (spec_Lines.l0 k1 (x0_1.extract ((wrap64 (t105 + 1)) : Int).toNat x0_1.size) (x3_1 ++ [x0_1.extract 0 (t105 : Int).toNat])) else (none)) else (none)) else (none)) else (none)) else (none))) = some r := H
      have A2 := Aside0.mk A20
      clear A20
      by_cases c3 : t105 < 0
      · rw [if_pos c3] at H
        have c3b0 : decide (t105 < 0) = true := decide_eq_true c3
        clear c3
        by_cases c4 : x3_1.length < 8796093022208
        · rw [if_pos c4] at H
          have LMc4 := Aside0.mk c4
          clear c4
          obtain ⟨y106, hy106⟩ : ∃ y_ : List ByteArray, y_ = (x3_1 ++ [x0_1]) := ⟨_, rfl⟩
          replace H : (some y106) = some r := by first | (rw [hy106]; with_reducible exact H) | (have H2_ := (Option.bind_some _ _).symm.trans H; rw [hy106]; with_reducible exact H2_) | (have H2_ := (Option.bind_some _ _).symm.trans H; with_reducible exact H2_) | with_reducible exact H | (rw [hy106]; exact H) | exact H
          have Ny106 := Aside0.mk hy106
          clear hy106
          obtain rfl := Option.some.inj H
          go_wp2_with (first | ((with_reducible refine gate_callee (f := 26) rfl ?_); refine goesL_ (some 6) rfl rfl Tryz.func26 (by kernel_rfl) rfl #[.string x0_1, .string (⟨#[10]⟩ : ByteArray), .bool false] rfl (by (try simp only [List.map_toArray, List.map_cons, List.map_nil]); first | done | rfl | (simp only [List.length_drop, List.length_take]; rfl) | (simp only [Int.toNat_natCast, ByteArray.extract_zero_size]; rfl)) ?_; (with_reducible refine (spec_first.calls k1 x0_1 (⟨#[10]⟩ : ByteArray) false t105 _ A2.out).mono ?_); rintro e w' ⟨rfl, ⟨nd, rfl⟩⟩; refine ⟨_, rfl, ?_⟩) | ((with_reducible refine gate_builtin (b := .append) (xs := #[.tmp 9, .tmp 11]) rfl ?_); at_builtin; refine Kd.R_append Kd.string (w0 := w) w.heap.size rfl (.tmp 9) (.tmp 11) 27 9 (.string ⟨#[]⟩) 16 rfl Tryz.underlying27 info9 rfl (by decide) (by omega) u3 x3_1 x0_1 [.string x0_1] (fun _ => True) (fun _ => False) rfl rfl ?aP (fun _ hk => hk.elim) ?aF ?aO ?aB ?aS ?aL ?_; (case aP => exact rfl); (case aB => exact (by repeat (first | (with_reducible first | exact HB.out | apply below_alloc | apply pw_below_drewN | apply below_drew1) | exact HB.out))); (case aF => exact (fun _ _ => trivial)); (case aO => exact (by (with_reducible repeat (first | apply Kd.R_alloc | apply Kd.R_drewN | apply Kd.R_drew)); exact HO_3.out)); (case aS => exact (below_size (by repeat (first | (with_reducible first | exact HB.out | apply below_alloc | apply pw_below_drewN | apply below_drew1) | exact HB.out)))); (case aL => have := LMc4.out; omega); intro v107 w5 ho hb hg hat; rw [← Ny106.out] at ho; have n0_ := Aside0.mk (hb); have n1_ := Aside0.mk (ho); clear HB; clear HO_3; have HB := n0_; have HO108 := n1_; clear n0_ n1_; clear ho hb hg hat))
          go_ret
          exact ⟨_, by first | rfl | (simp [errW_none, errW_some] <;> rfl) | (simp [*, errW_none, errW_some] <;> rfl), by (with_reducible repeat (first | apply Kd.R_alloc | apply Kd.R_drewN | apply Kd.R_drew)); exact HO108.out, by repeat (first | (with_reducible first | exact HB.out | apply below_alloc | apply pw_below_drewN | apply below_drew1) | exact HB.out)⟩
        · rw [if_neg c4] at H
          exact absurd H (by simp)
      · rw [if_neg c3] at H
        have c3b0 : decide (t105 < 0) = false := decide_eq_false c3
        clear c3
        by_cases c6 : 0 ≤ t105
        · rw [if_pos c6] at H
          have c6b0 := eq_true c6
          have c6b1 : decide (0 ≤ t105) = true := decide_eq_true c6
          clear c6
          by_cases c7 : t105 ≤ (x0_1.size : Int)
          · rw [if_pos c7] at H
            have c7b0 := eq_true c7
            have c7b1 : decide (t105 ≤ (x0_1.size : Int)) = true := decide_eq_true c7
            clear c7
            by_cases c8 : x3_1.length < 8796093022208
            · rw [if_pos c8] at H
              have LMc8 := Aside0.mk c8
              clear c8
              obtain ⟨y109, hy109⟩ : ∃ y_ : List ByteArray, y_ = (x3_1 ++ [x0_1.extract 0 (t105 : Int).toNat]) := ⟨_, rfl⟩
              replace H : (if 0 ≤ (wrap64 (t105 + 1)) then (if (wrap64 (t105 + 1)) ≤ (x0_1.size : Int) then (spec_Lines.l0 k1 (x0_1.extract ((wrap64 (t105 + 1)) : Int).toNat x0_1.size) y109) else (none)) else (none)) = some r := by first | (rw [hy109]; with_reducible exact H) | (have H2_ := (Option.bind_some _ _).symm.trans H; rw [hy109]; with_reducible exact H2_) | (have H2_ := (Option.bind_some _ _).symm.trans H; with_reducible exact H2_) | with_reducible exact H | (rw [hy109]; exact H) | exact H
              have Ny109 := Aside0.mk hy109
              clear hy109
              obtain ⟨ji9, hji9⟩ : ∃ j_ : Int, (wrap64 (t105 + 1)) = j_ := ⟨_, rfl⟩
              replace H : (if 0 ≤ (ji9) then (if (ji9) ≤ (x0_1.size : Int) then (spec_Lines.l0 k1 (x0_1.extract ((ji9) : Int).toNat x0_1.size) y109) else (none)) else (none)) = some r := by first | (rw [hji9] at H; exact H) | (simp only [hji9] at H ⊢; exact H)
              (try rw [hji9] at A2)
              have hji9w : (IntKind.i64.wrap (t105 + 1)) = ji9 := (i64_w _).trans hji9
              by_cases c10 : 0 ≤ (ji9)
              · rw [if_pos c10] at H
                have c10b0 := eq_true c10
                have c10b1 : decide (0 ≤ (ji9)) = true := decide_eq_true c10
                clear c10
                by_cases c11 : (ji9) ≤ (x0_1.size : Int)
                · rw [if_pos c11] at H
                  have c11b0 := eq_true c11
                  have c11b1 : decide ((ji9) ≤ (x0_1.size : Int)) = true := decide_eq_true c11
                  clear c11
                  have H' := Aside0.mk H
                  clear H
                  try go_wp2_with (first | ((with_reducible refine gate_callee (f := 26) rfl ?_); refine goesL_ (some 6) rfl rfl Tryz.func26 (by kernel_rfl) rfl #[.string x0_1, .string (⟨#[10]⟩ : ByteArray), .bool false] rfl (by (try simp only [List.map_toArray, List.map_cons, List.map_nil]); first | done | rfl | (simp only [List.length_drop, List.length_take]; rfl) | (simp only [Int.toNat_natCast, ByteArray.extract_zero_size]; rfl)) ?_; (with_reducible refine (spec_first.calls k1 x0_1 (⟨#[10]⟩ : ByteArray) false t105 _ A2.out).mono ?_); rintro e w' ⟨rfl, ⟨nd, rfl⟩⟩; refine ⟨_, rfl, ?_⟩))
                  (try (rw [drewN_self wr]; generalize hq_ : World.drewN wr _ = wr; have n0_ : Aside0 (Kd.R Kd.string 9 wr w.heap.size (fun _ => True) u3 x3_1) := ⟨by rw [← hq_]; exact (by (with_reducible repeat (first | apply Kd.R_alloc | apply Kd.R_drewN | apply Kd.R_drew)); exact HO_3.out)⟩; have n1_ : Aside0 (Below w.heap.size w wr) := ⟨by rw [← hq_]; exact (by repeat (first | (with_reducible first | exact HB.out | apply below_alloc | apply pw_below_drewN | apply below_drew1) | exact HB.out))⟩; clear HO_3 HB hq_; have HO_3 := n0_; have HB := n1_; clear n0_ n1_))
                  have n0_ := Aside0.mk (Kd.R_drew HO_3.out)
                  have n1_ := Aside0.mk (below_drew1 HB.out)
                  clear HO_3
                  clear HB
                  have HO_3 := n0_
                  have HB := n1_
                  clear n0_ n1_
                  refine start_ (n := 12) (S := fun w' => True) (ds := []) #[false, false, false, false, false, false, false, false, false, false, false, false] (by kernel_rfl) rfl rfl trivial (fun hHeld => ?_); refine with_tabW spec_Lines.tab5 spec_Lines.bits5 (fun HT_ HW_ => ?_)
                  generalize wr.drew = w12 at HO_3 HB hHeld ⊢
                  refine pure_ (i := 0) (N := some 13) (v := ?_) (a' := ?_) #[true, false, false, false, false, false, false, false, false, false, false, false] rfl rfl (any_of HT_.out (by kernel_rfl)) (fun _ _ _ h => h) (Or.inl ⟨by rfl, ?_⟩) ?_ ?_
                  rotate_left
                  · intro w'
                    go_simp
                    with_reducible rfl
                  rotate_left
                  · simp only [Act.put, List.setIfInBounds_toArray, List.set_cons_zero, List.set_cons_succ, i64_w, i32_w]
                    rfl
                  refine pure_ (i := 1) (N := some 14) (v := ?_) (a' := ?_) #[true, true, false, false, false, false, false, false, false, false, false, false] rfl rfl (any_of HT_.out (by kernel_rfl)) (fun _ _ _ h => h) (Or.inl ⟨by rfl, ?_⟩) ?_ ?_
                  rotate_left
                  · intro w'
                    go_simp
                    with_reducible rfl
                  rotate_left
                  · simp only [Act.put, List.setIfInBounds_toArray, List.set_cons_zero, List.set_cons_succ, i64_w, i32_w]
                    rfl
                  refine pure_ (i := 2) (N := some 15) (v := ?_) (a' := ?_) #[true, true, true, false, false, false, false, false, false, false, false, false] rfl rfl (any_of HT_.out (by kernel_rfl)) (fun _ _ _ h => h) (Or.inl ⟨by rfl, ?_⟩) ?_ ?_
                  rotate_left
                  · intro w'
                    go_simp
                    with_reducible rfl
                  rotate_left
                  · simp only [Act.put, List.setIfInBounds_toArray, List.set_cons_zero, List.set_cons_succ, i64_w, i32_w]
                    rfl
                  refine pure_ (i := 3) (N := some 16) (v := ?_) (a' := ?_) #[true, true, true, true, false, false, false, false, false, false, false, false] rfl rfl (any_of HT_.out (by kernel_rfl)) (fun _ _ _ h => h) (Or.inl ⟨by rfl, ?_⟩) ?_ ?_
                  rotate_left
                  · intro w'
                    go_simp
                    with_reducible rfl
                  rotate_left
                  · simp only [Act.put, List.setIfInBounds_toArray, List.set_cons_zero, List.set_cons_succ, i64_w, i32_w]
                    rfl
                  refine pure_ (i := 6) (N := some 19) (v := ?_) (a' := ?_) #[true, true, true, true, false, false, true, false, false, false, false, false] rfl rfl (any_of HT_.out (by kernel_rfl)) (fun _ _ _ h => h) (Or.inl ⟨by rfl, ?_⟩) ?_ ?_
                  rotate_left
                  · intro w'
                    go_simp
                    with_reducible rfl
                  rotate_left
                  · simp only [Act.put, List.setIfInBounds_toArray, List.set_cons_zero, List.set_cons_succ, i64_w, i32_w]
                    rfl
                  refine pure_ (i := 7) (N := some 20) (v := ?_) (a' := ?_) #[true, true, true, true, false, false, true, true, false, false, false, false] rfl rfl (any_of HT_.out (by kernel_rfl)) (fun _ _ _ h => h) (Or.inl ⟨by rfl, ?_⟩) ?_ ?_
                  rotate_left
                  · intro w'
                    go_simp
                    with_reducible rfl
                  rotate_left
                  · simp only [Act.put, List.setIfInBounds_toArray, List.set_cons_zero, List.set_cons_succ, i64_w, i32_w]
                    rfl
                  refine pure_ (i := 8) (N := some 21) (v := ?_) (a' := ?_) #[true, true, true, true, false, false, true, true, true, false, false, false] rfl rfl (any_of HT_.out (by kernel_rfl)) (fun _ _ _ h => h) (Or.inl ⟨by rfl, ?_⟩) ?_ ?_
                  rotate_left
                  · intro w'
                    go_simp
                    with_reducible rfl
                  rotate_left
                  · simp only [Act.put, List.setIfInBounds_toArray, List.set_cons_zero, List.set_cons_succ, i64_w, i32_w]
                    rfl
                  refine pure_ (i := 9) (N := some 22) (v := ?_) (a' := ?_) #[true, true, true, true, false, false, true, true, true, true, false, false] rfl rfl (any_of HT_.out (by kernel_rfl)) (fun _ _ _ h => h) (Or.inl ⟨by rfl, ?_⟩) ?_ ?_
                  rotate_left
                  · intro w'
                    go_simp
                    with_reducible rfl
                  rotate_left
                  · simp only [Act.put, List.setIfInBounds_toArray, List.set_cons_zero, List.set_cons_succ, i64_w, i32_w]
                    rfl
                  refine one_ (i := 4) (N := some 17) #[true, true, true, true, true, false, true, true, true, true, false, false] rfl rfl (one_of HT_.out (by kernel_rfl)) (by decide) (fun K hK => ?_)
                  refine value_ (w1 := ?_) (v := ?_) (by rfl) rfl ?_ ?_
                  rotate_left 2
                  · go_simp
                    constructor
                    · rfl
                    · rfl
                  refine hK.out _ _ trivial (fun hHeld => ?_)
                  clear hK K
                  refine norm_ (a' := ?_) ?_ ?_
                  rotate_left
                  · show Act.put _ (some 17) _ = _
                    simp only [Act.put, List.setIfInBounds_toArray, List.set_cons_zero, List.set_cons_succ, i64_w, i32_w]
                    rfl
                  refine one_ (i := 5) (N := some 18) #[true, true, true, true, true, true, true, true, true, true, false, false] rfl rfl (one_of HT_.out (by kernel_rfl)) (by decide) (fun K hK => ?_)
                  refine Kd.R_append_step Kd.string (w0 := w) w.heap.size (by rfl) (.tmp 13) (.tmp 17) 27 9 (.string ⟨#[]⟩) 16 rfl Tryz.underlying27 info9 rfl (by decide) (by omega) u3 x3_1 (x0_1.extract 0 (t105 : Int).toNat) [.string (x0_1.extract 0 (t105 : Int).toNat)] (fun _ => True) (fun _ => False) rfl rfl ?aP (fun _ hk => hk.elim) ?aF ?aO ?aB ?aS ?aL ?_
                  (case aP => exact rfl)
                  (case aB => exact (by repeat (first | (with_reducible first | exact HB.out | apply below_alloc | apply pw_below_drewN | apply below_drew1) | exact HB.out)))
                  (case aF => exact (fun _ _ => trivial))
                  (case aO => exact (by (with_reducible repeat (first | apply Kd.R_alloc | apply Kd.R_drewN | apply Kd.R_drew)); exact HO_3.out))
                  (case aS => exact (below_size (by repeat (first | (with_reducible first | exact HB.out | apply below_alloc | apply pw_below_drewN | apply below_drew1) | exact HB.out))))
                  (case aL => have := LMc8.out; omega)
                  intro v110 w13 ho hb hg hat
                  rw [← Ny109.out] at ho
                  have n0_ := Aside0.mk (hb)
                  have n1_ := Aside0.mk (ho)
                  clear HB
                  clear HO_3
                  have HB := n0_
                  have HO111 := n1_
                  clear n0_ n1_
                  clear ho hb hg hat
                  refine hK.out _ _ trivial (fun hHeld => ?_)
                  clear hK K
                  refine norm_ (a' := ?_) ?_ ?_
                  rotate_left
                  · show Act.put _ (some 18) _ = _
                    simp only [Act.put, List.setIfInBounds_toArray, List.set_cons_zero, List.set_cons_succ, i64_w, i32_w]
                    rfl
                  refine pure_ (i := 10) (N := some 3) (v := ?_) (a' := ?_) #[true, true, true, true, true, true, true, true, true, true, true, false] rfl rfl (any_of HT_.out (by kernel_rfl)) (fun _ _ _ h => h) (Or.inl ⟨by rfl, ?_⟩) ?_ ?_
                  rotate_left
                  · intro w'
                    go_simp
                    with_reducible rfl
                  rotate_left
                  · simp only [Act.put, List.setIfInBounds_toArray, List.set_cons_zero, List.set_cons_succ, i64_w, i32_w]
                    rfl
                  refine pure_ (i := 11) (N := some 0) (v := ?_) (a' := ?_) #[true, true, true, true, true, true, true, true, true, true, true, true] rfl rfl (any_of HT_.out (by kernel_rfl)) (fun _ _ _ h => h) (Or.inl ⟨by rfl, ?_⟩) ?_ ?_
                  rotate_left
                  · intro w'
                    go_simp
                    with_reducible rfl
                  rotate_left
                  · simp only [Act.put, List.setIfInBounds_toArray, List.set_cons_zero, List.set_cons_succ, i64_w, i32_w]
                    rfl
                  refine done_ (done_of HT_.out (by kernel_rfl)) ?_
                  try go_wp2
                  go_roundg k1
                  case measure => have := HK1.out; omega
                  case rel => exact ⟨(x0_1.extract ((ji9) : Int).toNat x0_1.size), (y109), (by first | rfl | (simp; done) | (simp only [← hji9] <;> (first | rfl | simp)) | (simp [*]; done)), (by first | exact H' | (rw [hji9]; exact H')), ⟨by have := HK1.out; omega⟩, ⟨by (with_reducible repeat (first | apply Kd.R_alloc | apply Kd.R_drewN | apply Kd.R_drew)); exact HO111.out⟩, ⟨by repeat (first | (with_reducible first | exact HB.out | apply below_alloc | apply pw_below_drewN | apply below_drew1) | exact HB.out)⟩⟩
                · rw [if_neg c11] at H
                  exact absurd H (by simp)
              · rw [if_neg c10] at H
                exact absurd H (by simp)
            · rw [if_neg c8] at H
              exact absurd H (by simp)
          · rw [if_neg c7] at H
            exact absurd H (by simp)
        · rw [if_neg c6] at H
          exact absurd H (by simp)
/-! ### spec_Before: function 27 -/
def spec_Before.f (a0_0 : ByteArray) (a0_1 : Int) : Option (ByteArray) := if (runesOf a0_0).length ≤ 70368744177664 then ((some (runesOf a0_0 : List Int)).bind fun y113 => (if 0 ≤ a0_1 then (if a0_1 ≤ (y113.length : Int) then (some (runesBytes (y113.take (a0_1 : Int).toNat))) else (none)) else (none))) else (none)
set_option maxHeartbeats 8000000 in
set_option maxRecDepth 100000 in
theorem spec_Before.calls (a0_0 : ByteArray) (a0_1 : Int) (r : ByteArray) (w : World) (h : spec_Before.f a0_0 a0_1 = some r) :
    Calls Tryz.prog 27 #[.agg #[.string a0_0, .int .i64 a0_1]] w fun e w' => e = .returned (.string r) ∧ Below w.heap.size w w' := by
  have hu23 := Tryz.underlying23
  have HB := Aside0.mk (Below.refl w.heap.size w)
  have H : (if (runesOf a0_0).length ≤ 70368744177664 then ((some (runesOf a0_0 : List Int)).bind fun y113 => (if 0 ≤ a0_1 then (if a0_1 ≤ (y113.length : Int) then (some (runesBytes (y113.take (a0_1 : Int).toNat))) else (none)) else (none))) else (none)) = some r := h
  clear h
  by_cases c2 : (runesOf a0_0).length ≤ 70368744177664
  · rw [if_pos c2] at H
    have c2b0 := eq_true c2
    have c2b1 : decide ((runesOf a0_0).length ≤ 70368744177664) = true := decide_eq_true c2
    clear c2
    obtain ⟨y113, hy113⟩ : ∃ y_ : List Int, y_ = (runesOf a0_0) := ⟨_, rfl⟩
    replace H : (if 0 ≤ a0_1 then (if a0_1 ≤ (y113.length : Int) then (some (runesBytes (y113.take (a0_1 : Int).toNat))) else (none)) else (none)) = some r := by first | (rw [hy113]; with_reducible exact H) | (have H2_ := (Option.bind_some _ _).symm.trans H; rw [hy113]; with_reducible exact H2_) | (have H2_ := (Option.bind_some _ _).symm.trans H; with_reducible exact H2_) | with_reducible exact H | (rw [hy113]; exact H) | exact H
    have Ny113 := Aside0.mk hy113
    clear hy113
    by_cases c3 : 0 ≤ a0_1
    · rw [if_pos c3] at H
      have c3b0 := eq_true c3
      have c3b1 : decide (0 ≤ a0_1) = true := decide_eq_true c3
      clear c3
      by_cases c4 : a0_1 ≤ (y113.length : Int)
      · rw [if_pos c4] at H
        have c4b0 := eq_true c4
        have c4b1 : decide (a0_1 ≤ (y113.length : Int)) = true := decide_eq_true c4
        clear c4
        obtain ⟨y116, hy116⟩ : ∃ y_ : List Int, y_ = (y113.take (a0_1 : Int).toNat) := ⟨_, rfl⟩
        replace H : (some (runesBytes y116)) = some r := by first | (rw [hy116]; with_reducible exact H) | (have H2_ := (Option.bind_some _ _).symm.trans H; rw [hy116]; with_reducible exact H2_) | (have H2_ := (Option.bind_some _ _).symm.trans H; with_reducible exact H2_) | with_reducible exact H | (rw [hy116]; exact H) | exact H
        have Ny116 := Aside0.mk hy116
        clear hy116
        obtain rfl := Option.some.inj H
        go_enter Tryz.func27, Tryz.ntmps27
        go_wp2_with (first | ((with_reducible refine gate_dst (N := 1) rfl ?_); refine box_event ?hg (N := 1) ?hd (cs := #[.string a0_0, .int .i64 a0_1]) (t := 23) ?hr ?_; (case hd => rfl); (case hg => rfl); (case hr => first | (go_simp; done) | (go_simp; rfl)); intro gb112 hg w5 hbox hb; have n0_ := Aside0.mk (below_step (by repeat (first | (with_reducible first | exact HB.out | apply below_alloc | apply pw_below_drewN | apply below_drew1) | exact HB.out)) hb); have n1_ := Aside0.mk (hbox); have n2_ := Aside0.mk ((by rw [hg]; exact (below_size (by repeat (first | (with_reducible first | exact HB.out | apply below_alloc | apply pw_below_drewN | apply below_drew1) | exact HB.out))) : w.heap.size ≤ gb112)); have n3_ := Aside0.mk ((by rw [hg]; exact (below_size (by repeat (first | (with_reducible first | exact HB.out | apply below_alloc | apply pw_below_drewN | apply below_drew1) | exact HB.out))) : w.heap.size ≤ gb112)); clear HB; have HB := n0_; have BK112 := n1_; have GW112 := n2_; have GE112 := n3_; clear n0_ n1_ n2_ n3_; clear hb hbox hg; have hcz6_0 : w5.cell? ⟨gb112, 0, none⟩ = some (.string a0_0) := (blk_cell BK112.out 0).trans rfl; have hcz6_1 : w5.cell? ⟨gb112, 1, none⟩ = some (.int .i64 a0_1) := (blk_cell BK112.out 1).trans rfl; have hfz6_0 := blk_frozen BK112.out 0; have hfz6_1 := blk_frozen BK112.out 1) | ((with_reducible refine gate_dst (N := 5) rfl ?_); refine R_runes _ 21 rfl (N := 5) rfl 9 58 _ rfl a0_0 rfl Tryz.underlying9 Tryz.underlying58 Tryz.underlying21 (ok := fun _ => True) (okp := fun _ => True) (fun _ hk => hk) trivial (of_decide_eq_true (by first | (with_reducible assumption) | assumption)) (Below.refl _ _) (Nat.le_refl _) ?_; intro v114 w7 ho8 hb hg_ hnew_; clear hg_ hnew_; (first | rw [← Ny113.out] at ho8 | (simp only [Int.reduceToNat] at ho8; rw [← Ny113.out] at ho8)); have n0_ := Aside0.mk (Kd.R_lower ho8 (below_size (by repeat (first | (with_reducible first | exact HB.out | apply below_alloc | apply pw_below_drewN | apply below_drew1 | refine below_set ?_ GE112.out) | exact HB.out)))); have n1_ := Aside0.mk (blk_below (g := gb112) (o := .cells #[.string a0_0, .int .i64 a0_1] 23 (0, 0)) (by (with_reducible repeat (first | refine blk_drewN ?_ _ | refine blk_drew ?_ | refine blk_alloc ?_ _)); exact BK112.out) hb); have n2_ := Aside0.mk (below_step (by repeat (first | (with_reducible first | exact HB.out | apply below_alloc | apply pw_below_drewN | apply below_drew1 | refine below_set ?_ GE112.out) | exact HB.out)) hb); clear BK112; clear HB; have HO115 := n0_; have BK112 := n1_; have HB := n2_; clear n0_ n1_ n2_; clear hb ho8; have hcz9_0 : w7.cell? ⟨gb112, 0, none⟩ = some (.string a0_0) := (blk_cell BK112.out 0).trans rfl; have hcz9_1 : w7.cell? ⟨gb112, 1, none⟩ = some (.int .i64 a0_1) := (blk_cell BK112.out 1).trans rfl; have hfz9_0 := blk_frozen BK112.out 0; have hfz9_1 := blk_frozen BK112.out 1; obtain ⟨Ao11, co11, eo11⟩ := Kd.R_slice HO115.out; subst eo11; have q10 : (a0_1 : Int) ≤ ((y113.length : Int) : Int) := of_decide_eq_true (by first | (with_reducible assumption) | assumption); obtain ⟨i010, hi010, _, hsz10, _⟩ := info_parts info21; have hroom10 : y113.length ≤ co11 := (Kd.R_reads' HO115.out).2.1; have hC10 : Kd.C (Kd.int .i32) _ Ao11 y113.length y113 := (Kd.R_reads' HO115.out).2.2; have hcut10 := cut_to (P := Tryz.prog) 58 21 .i64 Tryz.underlying58 hi010 Ao11 y113.length co11 a0_1 (of_decide_eq_true (by first | (with_reducible assumption) | assumption)) q10 hroom10; have hr10 := Kd.C_take (m := (a0_1 : Int).toNat) hC10 (by omega); have hy10 : y116.length = (a0_1 : Int).toNat := (by rw [Ny116.out, List.length_take]; omega); rw [← Ny116.out] at hr10; rw [← hy10] at hcut10; have HR119 := Aside0.mk hr10; have HC119 := Aside0.mk (show y116.length ≤ co11 from by omega); clear hr10 hC10 hroom10 hi010 hsz10; have KY10 := Aside0.mk hy10; clear hy10; have KL10 := Aside0.mk (show (a0_1 : Int).toNat ≤ y113.length from by omega); replace q10 := eq_true q10; have hcv12 := C_runes (P := Tryz.prog) (A := Ao11) (c := co11) Tryz.underlying58 Tryz.underlying21 Tryz.underlying9 (by repeat (first | (with_reducible exact HR119.out) | (with_reducible refine Kd.C_alloc ?_ _) | (with_reducible refine Kd.C_drewN ?_ _) | (with_reducible refine Kd.C_drew ?_) | exact HR119.out))))
        go_ret
        exact ⟨by first | rfl | (simp [errW_none, errW_some] <;> rfl) | (simp [*, errW_none, errW_some] <;> rfl), by repeat (first | (with_reducible first | exact HB.out | apply below_alloc | apply pw_below_drewN | apply below_drew1 | refine below_set ?_ GE112.out) | exact HB.out)⟩
      · rw [if_neg c4] at H
        exact absurd H (by simp)
    · rw [if_neg c3] at H
      exact absurd H (by simp)
  · rw [if_neg c2] at H
    exact absurd H (by simp)
/-! ### spec_Row: function 13 -/
def spec_Row.f (k : Nat) (a0_0 : ByteArray) (a0_1 : Int) : Option (Int) := (spec_Before.f a0_0 a0_1).bind fun t121 => ((spec_Lines.f k t121).bind fun t122 => (some (wrap64 ((t122.length : Int) - 1))))
theorem spec_Row.mono : ∀ a0 a1 k, LeO (spec_Row.f k a0 a1) (spec_Row.f (k + 1) a0 a1) := by
  intro a0 a1 k
  unfold spec_Row.f
  repeat' first
      | (with_reducible exact spec_Lines.mono _ _)
      | (with_reducible exact LeO.refl _)
      | (with_reducible exact LeO.none _)
      | (with_reducible refine LeO.ite ?_ ?_)
      | (with_reducible refine LeO.bind ?_ (fun _ => ?_))
      | exact spec_Lines.mono _ _
      | exact LeO.none _
      | refine LeO.ite ?_ ?_
      | refine LeO.bind ?_ (fun _ => ?_)
set_option maxHeartbeats 8000000 in
set_option maxRecDepth 100000 in
theorem spec_Row.calls (k : Nat) (a0_0 : ByteArray) (a0_1 : Int) (r : Int) (w : World) (h : spec_Row.f k a0_0 a0_1 = some r) :
    Calls Tryz.prog 13 #[.agg #[.string a0_0, .int .i64 a0_1]] w fun e w' => e = .returned (.int .i64 r) ∧ Below w.heap.size w w' := by
  have hu23 := Tryz.underlying23
  have HB := Aside0.mk (Below.refl w.heap.size w)
  have H : ((spec_Before.f a0_0 a0_1).bind fun t121 => ((spec_Lines.f k t121).bind fun t122 => (some (wrap64 ((t122.length : Int) - 1))))) = some r := h
  clear h
  replace H := Option.bind_eq_some_iff.mp H
  obtain ⟨t121, A20, H⟩ := H
  replace H : ((spec_Lines.f k t121).bind fun t122 => (some (wrap64 ((t122.length : Int) - 1)))) = some r := H
  have A2 := Aside0.mk A20
  clear A20
  replace H := Option.bind_eq_some_iff.mp H
  obtain ⟨t122, A30, H⟩ := H
  replace H : (some (wrap64 ((t122.length : Int) - 1))) = some r := H
  have A3 := Aside0.mk A30
  clear A30
  obtain rfl := Option.some.inj H
  go_enter Tryz.func13, Tryz.ntmps13
  go_wp2_with (first | ((with_reducible refine gate_dst (N := 1) rfl ?_); refine box_event ?hg (N := 1) ?hd (cs := #[.string a0_0, .int .i64 a0_1]) (t := 23) ?hr ?_; (case hd => rfl); (case hg => rfl); (case hr => first | (go_simp; done) | (go_simp; rfl)); intro gb120 hg w4 hbox hb; have n0_ := Aside0.mk (below_step (by repeat (first | (with_reducible first | exact HB.out | apply below_alloc | apply pw_below_drewN | apply below_drew1) | exact HB.out)) hb); have n1_ := Aside0.mk (hbox); have n2_ := Aside0.mk ((by rw [hg]; exact (below_size (by repeat (first | (with_reducible first | exact HB.out | apply below_alloc | apply pw_below_drewN | apply below_drew1) | exact HB.out))) : w.heap.size ≤ gb120)); have n3_ := Aside0.mk ((by rw [hg]; exact (below_size (by repeat (first | (with_reducible first | exact HB.out | apply below_alloc | apply pw_below_drewN | apply below_drew1) | exact HB.out))) : w.heap.size ≤ gb120)); clear HB; have HB := n0_; have BK120 := n1_; have GW120 := n2_; have GE120 := n3_; clear n0_ n1_ n2_ n3_; clear hb hbox hg; have hcz5_0 : w4.cell? ⟨gb120, 0, none⟩ = some (.string a0_0) := (blk_cell BK120.out 0).trans rfl; have hcz5_1 : w4.cell? ⟨gb120, 1, none⟩ = some (.int .i64 a0_1) := (blk_cell BK120.out 1).trans rfl; have hfz5_0 := blk_frozen BK120.out 0; have hfz5_1 := blk_frozen BK120.out 1) | ((with_reducible refine gate_callee (f := 27) rfl ?_); refine goesL_ (some 4) rfl rfl Tryz.func27 (by kernel_rfl) rfl #[.agg #[.string a0_0, .int .i64 a0_1]] rfl (by (try simp only [List.map_toArray, List.map_cons, List.map_nil]); first | done | rfl | (simp only [List.length_drop, List.length_take]; rfl) | (simp only [Int.toNat_natCast, ByteArray.extract_zero_size]; rfl)) ?_; (with_reducible refine (spec_Before.calls a0_0 a0_1 t121 _ A2.out).mono ?_); rintro e w6 ⟨rfl, hb⟩; refine ⟨_, rfl, ?_⟩; have n0_ := Aside0.mk (blk_below (g := gb120) (o := .cells #[.string a0_0, .int .i64 a0_1] 23 (0, 0)) (by (with_reducible repeat (first | refine blk_drewN ?_ _ | refine blk_drew ?_ | refine blk_alloc ?_ _)); exact BK120.out) hb); have n1_ := Aside0.mk (below_step (by repeat (first | (with_reducible first | exact HB.out | apply below_alloc | apply pw_below_drewN | apply below_drew1 | refine below_set ?_ GE120.out) | exact HB.out)) hb); clear BK120; clear HB; have BK120 := n0_; have HB := n1_; clear n0_ n1_; (try clear hb); (try clear hb2); (try clear hk); (try clear hi)) | ((with_reducible refine gate_callee (f := 12) rfl ?_); refine goesL_ (some 5) rfl rfl Tryz.func12 (by kernel_rfl) rfl #[.string t121] rfl (by (try simp only [List.map_toArray, List.map_cons, List.map_nil]); first | done | rfl | (simp only [List.length_drop, List.length_take]; rfl) | (simp only [Int.toNat_natCast, ByteArray.extract_zero_size]; rfl)) ?_; (with_reducible refine (spec_Lines.calls k t121 t122 _ A3.out).mono ?_); rintro e w7 ⟨v123, rfl, ho0, hb⟩; refine ⟨_, rfl, ?_⟩; have n0_ := Aside0.mk (Kd.R_lower ho0 (below_size (by repeat (first | (with_reducible first | exact HB.out | apply below_alloc | apply pw_below_drewN | apply below_drew1 | refine below_set ?_ GE120.out) | exact HB.out)))); have n1_ := Aside0.mk (blk_below (g := gb120) (o := .cells #[.string a0_0, .int .i64 a0_1] 23 (0, 0)) (by (with_reducible repeat (first | refine blk_drewN ?_ _ | refine blk_drew ?_ | refine blk_alloc ?_ _)); exact BK120.out) hb); have n2_ := Aside0.mk (below_step (by repeat (first | (with_reducible first | exact HB.out | apply below_alloc | apply pw_below_drewN | apply below_drew1 | refine below_set ?_ GE120.out) | exact HB.out)) hb); clear BK120; clear HB; have HO124 := n0_; have BK120 := n1_; have HB := n2_; clear n0_ n1_ n2_; (try clear hb); (try clear hb2); (try clear hk); (try clear hi); (try clear ho0); obtain ⟨Ao8, co8, eo8⟩ := Kd.R_slice HO124.out; subst eo8))
  go_ret
  exact ⟨by first | rfl | (simp [errW_none, errW_some] <;> rfl) | (simp [*, errW_none, errW_some] <;> rfl), by repeat (first | (with_reducible first | exact HB.out | apply below_alloc | apply pw_below_drewN | apply below_drew1 | refine below_set ?_ GE120.out) | exact HB.out)⟩
end Go.Proofs.YtkfmjkiefckgoaaGreatDoor.PFnUpDown
