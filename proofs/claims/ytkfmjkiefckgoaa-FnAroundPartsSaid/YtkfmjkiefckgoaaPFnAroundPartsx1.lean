/- Printed by a program of this seat (xprint) out of the translation: Go functions as plain functions, and the walks that show them; no condition. -/
import Derived.Test.YtkfmjkiefckgoaaPFnAroundPartsx0
import Derived.Test.YtkfmjkiefckgoaaPAroundOfx3
namespace Go.Proofs.Ytkfmjkiefckgoaa.PFnAroundParts
open Go.RowKit Go.Proofs.Ytkfmjkiefckgoaa.PAroundOf Go.Proofs.Ytkfmjkiefckgoaa.R Go.Proofs.YtkfmjkiefckgoaaW.PrintWords Go.Proofs.YtkfmjkiefckgoaaW.PrintLast Go.Proofs.YtkfmjkiefckgoaaW.PrintMore
attribute [local go_sem] max2_int min2_int max_two min_two max_three min_three max_four min_four   -- for this text's walks alone
set_option linter.unusedVariables false
set_option linter.unusedSimpArgs false

/-! ### laws_zzFits2: function 5 -/
def laws_zzFits2.f (a0_0 : ByteArray) (a0_1 : Int) : Option (Bool) := if (a0_0.size : Int) > 2147483647 then (some false) else (some true)
set_option maxHeartbeats 8000000 in
set_option maxRecDepth 100000 in
theorem laws_zzFits2.calls (a0_0 : ByteArray) (a0_1 : Int) (r : Bool) (w : World) (h : laws_zzFits2.f a0_0 a0_1 = some r) :
    Calls Try.prog 5 #[.agg #[.string a0_0, .int .i64 a0_1]] w fun e w' => e = .returned (.bool r) ∧ Below w.heap.size w w' := by
  have hu23 := Try.underlying23
  have HB := Aside0.mk (Below.refl w.heap.size w)
  have H : (if (a0_0.size : Int) > 2147483647 then (some false) else (some true)) = some r := h
  clear h
  by_cases c2 : (a0_0.size : Int) > 2147483647
  · rw [if_pos c2] at H
    have c2b0 : decide (2147483647 < (a0_0.size : Int)) = true := decide_eq_true c2
    have c2b1 : decide (2147483647 < a0_0.size) = true := decide_eq_true (by omega)
    clear c2
    obtain rfl := Option.some.inj H
    go_enter Try.func5, Try.ntmps5
    go_wp2_with (first | ((with_reducible refine gate_dst (N := 1) rfl ?_); refine box_event ?hg (N := 1) ?hd (cs := #[.string a0_0, .int .i64 a0_1]) (t := 23) ?hr ?_; (case hd => rfl); (case hg => rfl); (case hr => first | (go_simp; done) | (go_simp; rfl)); intro gb101 hg w3 hbox hb; have n0_ := Aside0.mk (below_step (by repeat (first | (with_reducible first | exact HB.out | apply below_alloc | apply pw_below_drewN | apply below_drew1) | exact HB.out)) hb); have n1_ := Aside0.mk (hbox); have n2_ := Aside0.mk ((by rw [hg]; exact (below_size (by repeat (first | (with_reducible first | exact HB.out | apply below_alloc | apply pw_below_drewN | apply below_drew1) | exact HB.out))) : w.heap.size ≤ gb101)); have n3_ := Aside0.mk ((by rw [hg]; exact (below_size (by repeat (first | (with_reducible first | exact HB.out | apply below_alloc | apply pw_below_drewN | apply below_drew1) | exact HB.out))) : w.heap.size ≤ gb101)); clear HB; have HB := n0_; have BK101 := n1_; have GW101 := n2_; have GE101 := n3_; clear n0_ n1_ n2_ n3_; clear hb hbox hg; have hcz4_0 : w3.cell? ⟨gb101, 0, none⟩ = some (.string a0_0) := (blk_cell BK101.out 0).trans rfl; have hcz4_1 : w3.cell? ⟨gb101, 1, none⟩ = some (.int .i64 a0_1) := (blk_cell BK101.out 1).trans rfl; have hfz4_0 := blk_frozen BK101.out 0; have hfz4_1 := blk_frozen BK101.out 1))
    go_ret
    exact ⟨by first | rfl | (simp [errW_none, errW_some] <;> rfl) | (simp [*, errW_none, errW_some] <;> rfl), by repeat (first | (with_reducible first | exact HB.out | apply below_alloc | apply pw_below_drewN | apply below_drew1 | refine below_set ?_ GE101.out) | exact HB.out)⟩
  · rw [if_neg c2] at H
    have c2b0 : decide (2147483647 < (a0_0.size : Int)) = false := decide_eq_false c2
    have c2b1 : decide (2147483647 < a0_0.size) = false := decide_eq_false (by omega)
    clear c2
    obtain rfl := Option.some.inj H
    go_enter Try.func5, Try.ntmps5
    go_wp2_with (first | ((with_reducible refine gate_dst (N := 1) rfl ?_); refine box_event ?hg (N := 1) ?hd (cs := #[.string a0_0, .int .i64 a0_1]) (t := 23) ?hr ?_; (case hd => rfl); (case hg => rfl); (case hr => first | (go_simp; done) | (go_simp; rfl)); intro gb101 hg w5 hbox hb; have n0_ := Aside0.mk (below_step (by repeat (first | (with_reducible first | exact HB.out | apply below_alloc | apply pw_below_drewN | apply below_drew1) | exact HB.out)) hb); have n1_ := Aside0.mk (hbox); have n2_ := Aside0.mk ((by rw [hg]; exact (below_size (by repeat (first | (with_reducible first | exact HB.out | apply below_alloc | apply pw_below_drewN | apply below_drew1) | exact HB.out))) : w.heap.size ≤ gb101)); have n3_ := Aside0.mk ((by rw [hg]; exact (below_size (by repeat (first | (with_reducible first | exact HB.out | apply below_alloc | apply pw_below_drewN | apply below_drew1) | exact HB.out))) : w.heap.size ≤ gb101)); clear HB; have HB := n0_; have BK101 := n1_; have GW101 := n2_; have GE101 := n3_; clear n0_ n1_ n2_ n3_; clear hb hbox hg; have hcz6_0 : w5.cell? ⟨gb101, 0, none⟩ = some (.string a0_0) := (blk_cell BK101.out 0).trans rfl; have hcz6_1 : w5.cell? ⟨gb101, 1, none⟩ = some (.int .i64 a0_1) := (blk_cell BK101.out 1).trans rfl; have hfz6_0 := blk_frozen BK101.out 0; have hfz6_1 := blk_frozen BK101.out 1))
    go_ret
    exact ⟨by first | rfl | (simp [errW_none, errW_some] <;> rfl) | (simp [*, errW_none, errW_some] <;> rfl), by repeat (first | (with_reducible first | exact HB.out | apply below_alloc | apply pw_below_drewN | apply below_drew1 | refine below_set ?_ GE101.out) | exact HB.out)⟩

/-! ### spec_ASCII: function 9 -/
def spec_ASCII.l0 : Nat → ByteArray → Int → Option (Bool)
  | 0, _, _ => none
  | k + 1, x0, x3 => if x3 < (x0.size : Int) then (if 0 ≤ x3 then (if (bt x0 x3) ≥ 128 then (some false) else (spec_ASCII.l0 k x0 (wrap64 (x3 + 1)))) else (none)) else (some (decide ((x0.size : Int) ≤ 1000)))
def spec_ASCII.f (k : Nat) (a0 : ByteArray) : Option (Bool) := spec_ASCII.l0 k a0 0
theorem spec_ASCII.mono_l : ∀ k, (∀ y0 y1, LeO (spec_ASCII.l0 k y0 y1) (spec_ASCII.l0 (k + 1) y0 y1))
  | 0 => fun _ _ r h => by simp [spec_ASCII.l0] at h
  | k + 1 => by
    have ih0 := spec_ASCII.mono_l k
    · intro y0 y1
      unfold spec_ASCII.l0
      repeat' first
      | (with_reducible exact ih0 _ _)
      | (with_reducible exact LeO.refl _)
      | (with_reducible exact LeO.none _)
      | (with_reducible refine LeO.ite ?_ ?_)
      | (with_reducible refine LeO.bind ?_ (fun _ => ?_))
      | exact ih0 _ _
      | exact LeO.none _
      | refine LeO.ite ?_ ?_
      | refine LeO.bind ?_ (fun _ => ?_)
theorem spec_ASCII.mono : ∀ a0 k, LeO (spec_ASCII.f k a0) (spec_ASCII.f (k + 1) a0) := by
  intro a0 k
  have ih0 := spec_ASCII.mono_l k
  unfold spec_ASCII.f
  repeat' first
      | (with_reducible exact ih0 _ _)
      | (with_reducible exact LeO.refl _)
      | (with_reducible exact LeO.none _)
      | (with_reducible refine LeO.ite ?_ ?_)
      | (with_reducible refine LeO.bind ?_ (fun _ => ?_))
      | exact ih0 _ _
      | exact LeO.none _
      | refine LeO.ite ?_ ?_
      | refine LeO.bind ?_ (fun _ => ?_)
set_option maxHeartbeats 8000000 in
set_option maxRecDepth 100000 in
theorem spec_ASCII.calls (k : Nat) (a0 : ByteArray) (r : Bool) (w : World) (h : spec_ASCII.f k a0 = some r) :
    Calls Try.prog 9 #[.string a0] w fun e w' => e = .returned (.bool r) ∧ Drawn0 w w' := by
  have H : (spec_ASCII.l0 k a0 0) = some r := h
  clear h
  have H' := Aside0.mk H
  clear H
  go_enter Try.func9, Try.ntmps9
  go_wp2
  go_loopg [3] k (fun kq v3 w' => ∃ (x3_1 : Int), v3 = .int .i64 x3_1 ∧ Aside0 (spec_ASCII.l0 kq a0 x3_1 = some r) ∧ Aside0 (kq ≤ k) ∧ Drawn0 w w')
  case atStart => exact ⟨(0), (by first | rfl | (simp; done) | (simp [*]; done)), H', ⟨Nat.le_refl _⟩, by repeat (first | exact Drawn0.refl _ | apply Drawn0.step)⟩
  case round =>
    clear H'
    obtain ⟨x3_1, rfl, HA, HK1, ⟨m1, rfl⟩⟩ := hrel
    cases gk with
    | zero => exact absurd HA.out (by simp [spec_ASCII.l0])
    | succ k1 =>
      have H := HA.out
      clear HA
      simp only [spec_ASCII.l0] at H
      by_cases c2 : x3_1 < (a0.size : Int)
      · rw [if_pos c2] at H
        have c2b0 : decide (x3_1 < (a0.size : Int)) = true := decide_eq_true c2
        clear c2
        by_cases c3 : 0 ≤ x3_1
        · rw [if_pos c3] at H
          have c3b0 : decide (0 ≤ x3_1) = true := decide_eq_true c3
          clear c3
          by_cases c5 : (bt a0 x3_1) ≥ 128
          · rw [if_pos c5] at H
            have c5b0 : decide (128 ≤ (bt a0 x3_1)) = true := decide_eq_true c5
            clear c5
            obtain rfl := Option.some.inj H
            have p4 : 0 ≤ (x3_1 : Int) := of_decide_eq_true (by first | (with_reducible assumption) | assumption)
            have q4 : x3_1 < (a0.size : Int) := of_decide_eq_true (by first | (with_reducible assumption) | assumption)
            have hx4 := bt_at a0 x3_1
            replace p4 := eq_true p4
            replace q4 := eq_true q4
            go_wp2
            go_ret
            exact ⟨by first | rfl | (simp; done) | (simp [*]; done), by repeat (first | exact Drawn0.refl _ | apply Drawn0.step)⟩
          · rw [if_neg c5] at H
            have c5b0 : decide (128 ≤ (bt a0 x3_1)) = false := decide_eq_false c5
            clear c5
            have H' := Aside0.mk H
            clear H
            have p4 : 0 ≤ (x3_1 : Int) := of_decide_eq_true (by first | (with_reducible assumption) | assumption)
            have q4 : x3_1 < (a0.size : Int) := of_decide_eq_true (by first | (with_reducible assumption) | assumption)
            have hx4 := bt_at a0 x3_1
            replace p4 := eq_true p4
            replace q4 := eq_true q4
            go_wp2
            go_roundg k1
            case measure => have := HK1.out; omega
            case rel => exact ⟨(wrap64 (x3_1 + 1)), (by first | rfl | (simp; done) | (simp [*]; done)), H', ⟨by have := HK1.out; omega⟩, by repeat (first | exact Drawn0.refl _ | apply Drawn0.step)⟩
        · rw [if_neg c3] at H
          exact absurd H (by simp)
      · rw [if_neg c2] at H
        have c2b0 : decide (x3_1 < (a0.size : Int)) = false := decide_eq_false c2
        clear c2
        obtain rfl := Option.some.inj H
        go_wp2
        go_ret
        exact ⟨by first | rfl | (simp; done) | (simp [*]; done), by repeat (first | exact Drawn0.refl _ | apply Drawn0.step)⟩

/-! ### spec_DocRight: function 6 -/
def spec_DocRight.f (k : Nat) (a0_0 : ByteArray) (a0_1 : Int) : Option (Bool) := (spec_ASCII.f k a0_0).bind fun t103 => (if t103 = true then (if a0_1 ≥ 0 then (some (decide (a0_1 ≤ (a0_0.size : Int)))) else (some false)) else (some false))
theorem spec_DocRight.mono : ∀ a0 a1 k, LeO (spec_DocRight.f k a0 a1) (spec_DocRight.f (k + 1) a0 a1) := by
  intro a0 a1 k
  unfold spec_DocRight.f
  repeat' first
      | (with_reducible exact spec_ASCII.mono _ _)
      | (with_reducible exact LeO.refl _)
      | (with_reducible exact LeO.none _)
      | (with_reducible refine LeO.ite ?_ ?_)
      | (with_reducible refine LeO.bind ?_ (fun _ => ?_))
      | exact spec_ASCII.mono _ _
      | exact LeO.none _
      | refine LeO.ite ?_ ?_
      | refine LeO.bind ?_ (fun _ => ?_)
set_option maxHeartbeats 8000000 in
set_option maxRecDepth 100000 in
theorem spec_DocRight.calls (k : Nat) (a0_0 : ByteArray) (a0_1 : Int) (r : Bool) (w : World) (h : spec_DocRight.f k a0_0 a0_1 = some r) :
    Calls Try.prog 6 #[.agg #[.string a0_0, .int .i64 a0_1]] w fun e w' => e = .returned (.bool r) ∧ Below w.heap.size w w' := by
  have hu23 := Try.underlying23
  have HB := Aside0.mk (Below.refl w.heap.size w)
  have H : ((spec_ASCII.f k a0_0).bind fun t103 => (if t103 = true then (if a0_1 ≥ 0 then (some (decide (a0_1 ≤ (a0_0.size : Int)))) else (some false)) else (some false))) = some r := h
  clear h
  replace H := Option.bind_eq_some_iff.mp H
  obtain ⟨t103, A20, H⟩ := H
  replace H : (if t103 = true then (if a0_1 ≥ 0 then (some (decide (a0_1 ≤ (a0_0.size : Int)))) else (some false)) else (some false)) = some r := H
  have A2 := Aside0.mk A20
  clear A20
  by_cases c3 : t103 = true
  · subst c3
    have H1 : (if a0_1 ≥ 0 then (some (decide (a0_1 ≤ (a0_0.size : Int)))) else (some false)) = some r := by rw [if_pos rfl] at H; exact H
    clear H
    have H := H1
    clear H1
    by_cases c4 : a0_1 ≥ 0
    · rw [if_pos c4] at H
      have c4b0 : decide (0 ≤ a0_1) = true := decide_eq_true c4
      clear c4
      obtain rfl := Option.some.inj H
      go_enter Try.func6, Try.ntmps6
      go_wp2_with (first | ((with_reducible refine gate_dst (N := 1) rfl ?_); (try (refine gate_guard (by rfl) ?_; dsimp only)); refine box_event ?hg (N := 1) ?hd (cs := #[.string a0_0, .int .i64 a0_1]) (t := 23) ?hr ?_; (case hd => rfl); (case hg => rfl); (case hr => first | (go_simp; done) | (go_simp; rfl)); intro gb102 hg w5 hbox hb; have n0_ := Aside0.mk (below_step (by repeat (first | (with_reducible first | exact HB.out | apply below_alloc | apply pw_below_drewN | apply below_drew1) | exact HB.out)) hb); have n1_ := Aside0.mk (hbox); have n2_ := Aside0.mk ((by rw [hg]; exact (below_size (by repeat (first | (with_reducible first | exact HB.out | apply below_alloc | apply pw_below_drewN | apply below_drew1) | exact HB.out))) : w.heap.size ≤ gb102)); have n3_ := Aside0.mk ((by rw [hg]; exact (below_size (by repeat (first | (with_reducible first | exact HB.out | apply below_alloc | apply pw_below_drewN | apply below_drew1) | exact HB.out))) : w.heap.size ≤ gb102)); clear HB; have HB := n0_; have BK102 := n1_; have GW102 := n2_; have GE102 := n3_; clear n0_ n1_ n2_ n3_; clear hb hbox hg; have hcz6_0 : w5.cell? ⟨gb102, 0, none⟩ = some (.string a0_0) := (blk_cell BK102.out 0).trans rfl; have hcz6_1 : w5.cell? ⟨gb102, 1, none⟩ = some (.int .i64 a0_1) := (blk_cell BK102.out 1).trans rfl; have hfz6_0 := blk_frozen BK102.out 0; have hfz6_1 := blk_frozen BK102.out 1) | ((with_reducible refine gate_callee (f := 9) rfl ?_); refine goesL_ (some 5) rfl rfl Try.func9 (by kernel_rfl) rfl #[.string a0_0] rfl (by (try simp only [List.map_toArray, List.map_cons, List.map_nil]); first | done | rfl | (simp only [List.length_drop, List.length_take]; rfl) | (simp only [Int.toNat_natCast, ByteArray.extract_zero_size]; rfl)) ?_; (with_reducible refine (spec_ASCII.calls k a0_0 true _ A2.out).mono ?_); rintro e w' ⟨rfl, ⟨nd, rfl⟩⟩; refine ⟨_, rfl, ?_⟩))
      go_ret
      exact ⟨by first | rfl | (simp [errW_none, errW_some] <;> rfl) | (simp [*, errW_none, errW_some] <;> rfl), by repeat (first | (with_reducible first | exact HB.out | apply below_alloc | apply pw_below_drewN | apply below_drew1 | refine below_set ?_ GE102.out) | exact HB.out)⟩
    · rw [if_neg c4] at H
      have c4b0 : decide (0 ≤ a0_1) = false := decide_eq_false c4
      clear c4
      obtain rfl := Option.some.inj H
      go_enter Try.func6, Try.ntmps6
      go_wp2_with (first | ((with_reducible refine gate_dst (N := 1) rfl ?_); (try (refine gate_guard (by rfl) ?_; dsimp only)); refine box_event ?hg (N := 1) ?hd (cs := #[.string a0_0, .int .i64 a0_1]) (t := 23) ?hr ?_; (case hd => rfl); (case hg => rfl); (case hr => first | (go_simp; done) | (go_simp; rfl)); intro gb102 hg w7 hbox hb; have n0_ := Aside0.mk (below_step (by repeat (first | (with_reducible first | exact HB.out | apply below_alloc | apply pw_below_drewN | apply below_drew1) | exact HB.out)) hb); have n1_ := Aside0.mk (hbox); have n2_ := Aside0.mk ((by rw [hg]; exact (below_size (by repeat (first | (with_reducible first | exact HB.out | apply below_alloc | apply pw_below_drewN | apply below_drew1) | exact HB.out))) : w.heap.size ≤ gb102)); have n3_ := Aside0.mk ((by rw [hg]; exact (below_size (by repeat (first | (with_reducible first | exact HB.out | apply below_alloc | apply pw_below_drewN | apply below_drew1) | exact HB.out))) : w.heap.size ≤ gb102)); clear HB; have HB := n0_; have BK102 := n1_; have GW102 := n2_; have GE102 := n3_; clear n0_ n1_ n2_ n3_; clear hb hbox hg; have hcz8_0 : w7.cell? ⟨gb102, 0, none⟩ = some (.string a0_0) := (blk_cell BK102.out 0).trans rfl; have hcz8_1 : w7.cell? ⟨gb102, 1, none⟩ = some (.int .i64 a0_1) := (blk_cell BK102.out 1).trans rfl; have hfz8_0 := blk_frozen BK102.out 0; have hfz8_1 := blk_frozen BK102.out 1) | ((with_reducible refine gate_callee (f := 9) rfl ?_); refine goesL_ (some 5) rfl rfl Try.func9 (by kernel_rfl) rfl #[.string a0_0] rfl (by (try simp only [List.map_toArray, List.map_cons, List.map_nil]); first | done | rfl | (simp only [List.length_drop, List.length_take]; rfl) | (simp only [Int.toNat_natCast, ByteArray.extract_zero_size]; rfl)) ?_; (with_reducible refine (spec_ASCII.calls k a0_0 true _ A2.out).mono ?_); rintro e w' ⟨rfl, ⟨nd, rfl⟩⟩; refine ⟨_, rfl, ?_⟩))
      go_ret
      exact ⟨by first | rfl | (simp [errW_none, errW_some] <;> rfl) | (simp [*, errW_none, errW_some] <;> rfl), by repeat (first | (with_reducible first | exact HB.out | apply below_alloc | apply pw_below_drewN | apply below_drew1 | refine below_set ?_ GE102.out) | exact HB.out)⟩
  · replace c3 := Bool.eq_false_iff.mpr c3
    subst c3
    have H1 : (some false) = some r := by rw [if_neg (show ¬ (false = true) by decide)] at H; exact H
    clear H
    have H := H1
    clear H1
    obtain rfl := Option.some.inj H
    go_enter Try.func6, Try.ntmps6
    go_wp2_with (first | ((with_reducible refine gate_dst (N := 1) rfl ?_); (try (refine gate_guard (by rfl) ?_; dsimp only)); refine box_event ?hg (N := 1) ?hd (cs := #[.string a0_0, .int .i64 a0_1]) (t := 23) ?hr ?_; (case hd => rfl); (case hg => rfl); (case hr => first | (go_simp; done) | (go_simp; rfl)); intro gb102 hg w9 hbox hb; have n0_ := Aside0.mk (below_step (by repeat (first | (with_reducible first | exact HB.out | apply below_alloc | apply pw_below_drewN | apply below_drew1) | exact HB.out)) hb); have n1_ := Aside0.mk (hbox); have n2_ := Aside0.mk ((by rw [hg]; exact (below_size (by repeat (first | (with_reducible first | exact HB.out | apply below_alloc | apply pw_below_drewN | apply below_drew1) | exact HB.out))) : w.heap.size ≤ gb102)); have n3_ := Aside0.mk ((by rw [hg]; exact (below_size (by repeat (first | (with_reducible first | exact HB.out | apply below_alloc | apply pw_below_drewN | apply below_drew1) | exact HB.out))) : w.heap.size ≤ gb102)); clear HB; have HB := n0_; have BK102 := n1_; have GW102 := n2_; have GE102 := n3_; clear n0_ n1_ n2_ n3_; clear hb hbox hg; have hcz10_0 : w9.cell? ⟨gb102, 0, none⟩ = some (.string a0_0) := (blk_cell BK102.out 0).trans rfl; have hcz10_1 : w9.cell? ⟨gb102, 1, none⟩ = some (.int .i64 a0_1) := (blk_cell BK102.out 1).trans rfl; have hfz10_0 := blk_frozen BK102.out 0; have hfz10_1 := blk_frozen BK102.out 1) | ((with_reducible refine gate_callee (f := 9) rfl ?_); refine goesL_ (some 5) rfl rfl Try.func9 (by kernel_rfl) rfl #[.string a0_0] rfl (by (try simp only [List.map_toArray, List.map_cons, List.map_nil]); first | done | rfl | (simp only [List.length_drop, List.length_take]; rfl) | (simp only [Int.toNat_natCast, ByteArray.extract_zero_size]; rfl)) ?_; (with_reducible refine (spec_ASCII.calls k a0_0 false _ A2.out).mono ?_); rintro e w' ⟨rfl, ⟨nd, rfl⟩⟩; refine ⟨_, rfl, ?_⟩))
    go_ret
    exact ⟨by first | rfl | (simp [errW_none, errW_some] <;> rfl) | (simp [*, errW_none, errW_some] <;> rfl), by repeat (first | (with_reducible first | exact HB.out | apply below_alloc | apply pw_below_drewN | apply below_drew1 | refine below_set ?_ GE102.out) | exact HB.out)⟩

/-! ### laws_FnAroundParts: function 3 -/
def laws_FnAroundParts.l0 : Nat → ByteArray → Int → ByteArray → Int → ByteArray → ByteArray → ByteArray → ByteArray → ByteArray → Int → Int → List ByteArray → Bool → Int → ByteArray → ByteArray → ByteArray → ByteArray → Option (Bool)
  | 0, _, _, _, _, _, _, _, _, _, _, _, _, _, _, _, _, _, _ => none
  | k + 1, x4, x5, x105000, x105001, x124000, x124001, x124002, x124003, x124004, x124005, x124006, x124007, x124008, x124009, x124010, x124011, x124012, x124013 => if x5 < (x124007.length : Int) then (if x5 > 0 then (if x4.size + 1 ≤ 9223372036854775807 then (if 0 ≤ x5 then (if (x4 ++ (⟨#[10]⟩ : ByteArray)).size + (rdOf ByteArray.empty x124007 x5).size ≤ 9223372036854775807 then (laws_FnAroundParts.l0 k ((x4 ++ (⟨#[10]⟩ : ByteArray)) ++ (rdOf ByteArray.empty x124007 x5)) (wrap64 (x5 + 1)) x105000 x105001 x124000 x124001 x124002 x124003 x124004 x124005 x124006 x124007 x124008 x124009 x124010 x124011 x124012 x124013) else (none)) else (none)) else (none)) else (if 0 ≤ x5 then (if x4.size + (rdOf ByteArray.empty x124007 x5).size ≤ 9223372036854775807 then (laws_FnAroundParts.l0 k (x4 ++ (rdOf ByteArray.empty x124007 x5)) (wrap64 (x5 + 1)) x105000 x105001 x124000 x124001 x124002 x124003 x124004 x124005 x124006 x124007 x124008 x124009 x124010 x124011 x124012 x124013) else (none)) else (none))) else (if x124000.size + x124001.size ≤ 9223372036854775807 then (if (x124000 ++ x124001).toList = x105000.toList then (if x124002.size + x124003.size ≤ 9223372036854775807 then (if (x124002 ++ x124003).toList = x124004.toList then (if x4.toList = x105000.toList then (if x124005 ≥ 0 then (if x124005 < (x124007.length : Int) then (if 0 ≤ x124005 then (some ((rdOf ByteArray.empty x124007 x124005).toList == x124004.toList)) else (none)) else (some false)) else (some false)) else (some false)) else (some false)) else (none)) else (some false)) else (none))
def laws_FnAroundParts.f (k : Nat) (a0_0 : ByteArray) (a0_1 : Int) : Option (Bool) := (laws_zzFits2.f a0_0 a0_1).bind fun t105 => (if t105 = true then ((spec_DocRight.f k a0_0 a0_1).bind fun t106 => (if t106 = true then ((impl_AroundOf.f k a0_0 a0_1).bind fun bt107 => (laws_FnAroundParts.l0 k (⟨#[]⟩ : ByteArray) 0 a0_0 a0_1 bt107.1 bt107.2.1 bt107.2.2.1 bt107.2.2.2.1 bt107.2.2.2.2.1 bt107.2.2.2.2.2.1 bt107.2.2.2.2.2.2.1 bt107.2.2.2.2.2.2.2.1 bt107.2.2.2.2.2.2.2.2.1 bt107.2.2.2.2.2.2.2.2.2.1 bt107.2.2.2.2.2.2.2.2.2.2.1 bt107.2.2.2.2.2.2.2.2.2.2.2.1 bt107.2.2.2.2.2.2.2.2.2.2.2.2.1 bt107.2.2.2.2.2.2.2.2.2.2.2.2.2)) else (some true))) else (some true))
theorem laws_FnAroundParts.mono_l : ∀ k, (∀ y0 y1 y2 y3 y4 y5 y6 y7 y8 y9 y10 y11 y12 y13 y14 y15 y16 y17, LeO (laws_FnAroundParts.l0 k y0 y1 y2 y3 y4 y5 y6 y7 y8 y9 y10 y11 y12 y13 y14 y15 y16 y17) (laws_FnAroundParts.l0 (k + 1) y0 y1 y2 y3 y4 y5 y6 y7 y8 y9 y10 y11 y12 y13 y14 y15 y16 y17))
  | 0 => fun _ _ _ _ _ _ _ _ _ _ _ _ _ _ _ _ _ _ r h => by simp [laws_FnAroundParts.l0] at h
  | k + 1 => by
    have ih0 := laws_FnAroundParts.mono_l k
    · intro y0 y1 y2 y3 y4 y5 y6 y7 y8 y9 y10 y11 y12 y13 y14 y15 y16 y17
      unfold laws_FnAroundParts.l0
      repeat' first
      | (with_reducible exact ih0 _ _ _ _ _ _ _ _ _ _ _ _ _ _ _ _ _ _)
      | (with_reducible exact impl_AroundOf.mono _ _ _)
      | (with_reducible exact spec_DocRight.mono _ _ _)
      | (with_reducible exact LeO.refl _)
      | (with_reducible exact LeO.none _)
      | (with_reducible refine LeO.ite ?_ ?_)
      | (with_reducible refine LeO.bind ?_ (fun _ => ?_))
      | exact ih0 _ _ _ _ _ _ _ _ _ _ _ _ _ _ _ _ _ _
      | exact impl_AroundOf.mono _ _ _
      | exact spec_DocRight.mono _ _ _
      | exact LeO.none _
      | refine LeO.ite ?_ ?_
      | refine LeO.bind ?_ (fun _ => ?_)
theorem laws_FnAroundParts.mono : ∀ a0 a1 k, LeO (laws_FnAroundParts.f k a0 a1) (laws_FnAroundParts.f (k + 1) a0 a1) := by
  intro a0 a1 k
  have ih0 := laws_FnAroundParts.mono_l k
  unfold laws_FnAroundParts.f
  repeat' first
      | (with_reducible exact ih0 _ _ _ _ _ _ _ _ _ _ _ _ _ _ _ _ _ _)
      | (with_reducible exact impl_AroundOf.mono _ _ _)
      | (with_reducible exact spec_DocRight.mono _ _ _)
      | (with_reducible exact LeO.refl _)
      | (with_reducible exact LeO.none _)
      | (with_reducible refine LeO.ite ?_ ?_)
      | (with_reducible refine LeO.bind ?_ (fun _ => ?_))
      | exact ih0 _ _ _ _ _ _ _ _ _ _ _ _ _ _ _ _ _ _
      | exact impl_AroundOf.mono _ _ _
      | exact spec_DocRight.mono _ _ _
      | exact LeO.none _
      | refine LeO.ite ?_ ?_
      | refine LeO.bind ?_ (fun _ => ?_)
set_option maxHeartbeats 8000000 in
set_option maxRecDepth 100000 in
theorem laws_FnAroundParts.calls (k : Nat) (a0_0 : ByteArray) (a0_1 : Int) (r : Bool) (w : World) (h : laws_FnAroundParts.f k a0_0 a0_1 = some r) :
    Calls Try.prog 3 #[.agg #[.string a0_0, .int .i64 a0_1]] w fun e w' => e = .returned (.bool r) ∧ Below w.heap.size w w' := by
  have hu23 := Try.underlying23
  have hu27 := Try.underlying27
  have HB := Aside0.mk (Below.refl w.heap.size w)
  have H : ((laws_zzFits2.f a0_0 a0_1).bind fun t105 => (if t105 = true then ((spec_DocRight.f k a0_0 a0_1).bind fun t106 => (if t106 = true then ((impl_AroundOf.f k a0_0 a0_1).bind fun bt107 => (laws_FnAroundParts.l0 k (⟨#[]⟩ : ByteArray) 0 a0_0 a0_1 bt107.1 bt107.2.1 bt107.2.2.1 bt107.2.2.2.1 bt107.2.2.2.2.1 bt107.2.2.2.2.2.1 bt107.2.2.2.2.2.2.1 bt107.2.2.2.2.2.2.2.1 bt107.2.2.2.2.2.2.2.2.1 bt107.2.2.2.2.2.2.2.2.2.1 bt107.2.2.2.2.2.2.2.2.2.2.1 bt107.2.2.2.2.2.2.2.2.2.2.2.1 bt107.2.2.2.2.2.2.2.2.2.2.2.2.1 bt107.2.2.2.2.2.2.2.2.2.2.2.2.2)) else (some true))) else (some true))) = some r := h
  clear h
  replace H := Option.bind_eq_some_iff.mp H
  obtain ⟨t105, A20, H⟩ := H
  replace H : (if t105 = true then ((spec_DocRight.f k a0_0 a0_1).bind fun t106 => (if t106 = true then ((impl_AroundOf.f k a0_0 a0_1).bind fun bt107 => (laws_FnAroundParts.l0 k (⟨#[]⟩ : ByteArray) 0 a0_0 a0_1 bt107.1 bt107.2.1 bt107.2.2.1 bt107.2.2.2.1 bt107.2.2.2.2.1 bt107.2.2.2.2.2.1 bt107.2.2.2.2.2.2.1 bt107.2.2.2.2.2.2.2.1 bt107.2.2.2.2.2.2.2.2.1 bt107.2.2.2.2.2.2.2.2.2.1 bt107.2.2.2.2.2.2.2.2.2.2.1 bt107.2.2.2.2.2.2.2.2.2.2.2.1 bt107.2.2.2.2.2.2.2.2.2.2.2.2.1 bt107.2.2.2.2.2.2.2.2.2.2.2.2.2)) else (some true))) else (some true)) = some r := H
  have A2 := Aside0.mk A20
  clear A20
  by_cases c3 : t105 = true
  · subst c3
    have H1 : ((spec_DocRight.f k a0_0 a0_1).bind fun t106 => (if t106 = true then ((impl_AroundOf.f k a0_0 a0_1).bind fun bt107 => (laws_FnAroundParts.l0 k (⟨#[]⟩ : ByteArray) 0 a0_0 a0_1 bt107.1 bt107.2.1 bt107.2.2.1 bt107.2.2.2.1 bt107.2.2.2.2.1 bt107.2.2.2.2.2.1 bt107.2.2.2.2.2.2.1 bt107.2.2.2.2.2.2.2.1 bt107.2.2.2.2.2.2.2.2.1 bt107.2.2.2.2.2.2.2.2.2.1 bt107.2.2.2.2.2.2.2.2.2.2.1 bt107.2.2.2.2.2.2.2.2.2.2.2.1 bt107.2.2.2.2.2.2.2.2.2.2.2.2.1 bt107.2.2.2.2.2.2.2.2.2.2.2.2.2)) else (some true))) = some r := by rw [if_pos rfl] at H; exact H
    clear H
    have H := H1
    clear H1
    replace H := Option.bind_eq_some_iff.mp H
    obtain ⟨t106, A40, H⟩ := H
    replace H : (if t106 = true then ((impl_AroundOf.f k a0_0 a0_1).bind fun bt107 => (laws_FnAroundParts.l0 k (⟨#[]⟩ : ByteArray) 0 a0_0 a0_1 bt107.1 bt107.2.1 bt107.2.2.1 bt107.2.2.2.1 bt107.2.2.2.2.1 bt107.2.2.2.2.2.1 bt107.2.2.2.2.2.2.1 bt107.2.2.2.2.2.2.2.1 bt107.2.2.2.2.2.2.2.2.1 bt107.2.2.2.2.2.2.2.2.2.1 bt107.2.2.2.2.2.2.2.2.2.2.1 bt107.2.2.2.2.2.2.2.2.2.2.2.1 bt107.2.2.2.2.2.2.2.2.2.2.2.2.1 bt107.2.2.2.2.2.2.2.2.2.2.2.2.2)) else (some true)) = some r := H
    have A4 := Aside0.mk A40
    clear A40
    by_cases c5 : t106 = true
    · subst c5
      have H1 : ((impl_AroundOf.f k a0_0 a0_1).bind fun bt107 => (laws_FnAroundParts.l0 k (⟨#[]⟩ : ByteArray) 0 a0_0 a0_1 bt107.1 bt107.2.1 bt107.2.2.1 bt107.2.2.2.1 bt107.2.2.2.2.1 bt107.2.2.2.2.2.1 bt107.2.2.2.2.2.2.1 bt107.2.2.2.2.2.2.2.1 bt107.2.2.2.2.2.2.2.2.1 bt107.2.2.2.2.2.2.2.2.2.1 bt107.2.2.2.2.2.2.2.2.2.2.1 bt107.2.2.2.2.2.2.2.2.2.2.2.1 bt107.2.2.2.2.2.2.2.2.2.2.2.2.1 bt107.2.2.2.2.2.2.2.2.2.2.2.2.2)) = some r := by rw [if_pos rfl] at H; exact H
      clear H
      have H := H1
      clear H1
      replace H := Option.bind_eq_some_iff.mp H
      obtain ⟨⟨t107, t108, t109, t110, t111, t112, t113, t114, t117, t118, t119, t120, t121, t122⟩, A60, H⟩ := H
      replace H : (laws_FnAroundParts.l0 k (⟨#[]⟩ : ByteArray) 0 a0_0 a0_1 t107 t108 t109 t110 t111 t112 t113 t114 t117 t118 t119 t120 t121 t122) = some r := H
      have A6 := Aside0.mk A60
      clear A60
      have H' := Aside0.mk H
      clear H
      go_enter Try.func3, Try.ntmps3
      go_wp2_with (first | ((with_reducible refine gate_dst (N := 1) rfl ?_); (try (refine gate_guard (by rfl) ?_; dsimp only)); refine box_event ?hg (N := 1) ?hd (cs := #[.string a0_0, .int .i64 a0_1]) (t := 23) ?hr ?_; (case hd => rfl); (case hg => rfl); (case hr => first | (go_simp; done) | (go_simp; rfl)); intro gb104 hg w7 hbox hb; have n0_ := Aside0.mk (below_step (by repeat (first | (with_reducible first | exact HB.out | apply below_alloc | apply pw_below_drewN | apply below_drew1) | exact HB.out)) hb); have n1_ := Aside0.mk (hbox); have n2_ := Aside0.mk ((by rw [hg]; exact (below_size (by repeat (first | (with_reducible first | exact HB.out | apply below_alloc | apply pw_below_drewN | apply below_drew1) | exact HB.out))) : w.heap.size ≤ gb104)); have n3_ := Aside0.mk ((by rw [hg]; exact (below_size (by repeat (first | (with_reducible first | exact HB.out | apply below_alloc | apply pw_below_drewN | apply below_drew1) | exact HB.out))) : w.heap.size ≤ gb104)); clear HB; have HB := n0_; have BK104 := n1_; have GW104 := n2_; have GE104 := n3_; clear n0_ n1_ n2_ n3_; clear hb hbox hg; have hcz8_0 : w7.cell? ⟨gb104, 0, none⟩ = some (.string a0_0) := (blk_cell BK104.out 0).trans rfl; have hcz8_1 : w7.cell? ⟨gb104, 1, none⟩ = some (.int .i64 a0_1) := (blk_cell BK104.out 1).trans rfl; have hfz8_0 := blk_frozen BK104.out 0; have hfz8_1 := blk_frozen BK104.out 1) | (go_at_call 5; (with_reducible refine (laws_zzFits2.calls a0_0 a0_1 true _ A2.out).mono ?_); rintro e w9 ⟨rfl, hb⟩; have n0_ := Aside0.mk (blk_below (g := gb104) (o := .cells #[.string a0_0, .int .i64 a0_1] 23 (0, 0)) (by (with_reducible repeat (first | refine blk_drewN ?_ _ | refine blk_drew ?_ | refine blk_alloc ?_ _)); exact BK104.out) hb); have n1_ := Aside0.mk (below_step (by repeat (first | (with_reducible first | exact HB.out | apply below_alloc | apply pw_below_drewN | apply below_drew1 | refine below_set ?_ GE104.out) | exact HB.out)) hb); clear BK104; clear HB; have BK104 := n0_; have HB := n1_; clear n0_ n1_; (try clear hb); (try clear hb2); (try clear hk); (try clear hi); have hcz10_0 : w9.cell? ⟨gb104, 0, none⟩ = some (.string a0_0) := (blk_cell BK104.out 0).trans rfl; have hcz10_1 : w9.cell? ⟨gb104, 1, none⟩ = some (.int .i64 a0_1) := (blk_cell BK104.out 1).trans rfl; have hfz10_0 := blk_frozen BK104.out 0; have hfz10_1 := blk_frozen BK104.out 1) | (go_at_call 6; (with_reducible refine (spec_DocRight.calls k a0_0 a0_1 true _ A4.out).mono ?_); rintro e w11 ⟨rfl, hb⟩; have n0_ := Aside0.mk (blk_below (g := gb104) (o := .cells #[.string a0_0, .int .i64 a0_1] 23 (0, 0)) (by (with_reducible repeat (first | refine blk_drewN ?_ _ | refine blk_drew ?_ | refine blk_alloc ?_ _)); exact BK104.out) hb); have n1_ := Aside0.mk (below_step (by repeat (first | (with_reducible first | exact HB.out | apply below_alloc | apply pw_below_drewN | apply below_drew1 | refine below_set ?_ GE104.out) | exact HB.out)) hb); clear BK104; clear HB; have BK104 := n0_; have HB := n1_; clear n0_ n1_; (try clear hb); (try clear hb2); (try clear hk); (try clear hi); have hcz12_0 : w11.cell? ⟨gb104, 0, none⟩ = some (.string a0_0) := (blk_cell BK104.out 0).trans rfl; have hcz12_1 : w11.cell? ⟨gb104, 1, none⟩ = some (.int .i64 a0_1) := (blk_cell BK104.out 1).trans rfl; have hfz12_0 := blk_frozen BK104.out 0; have hfz12_1 := blk_frozen BK104.out 1) | (go_at_call 7; (with_reducible refine (impl_AroundOf.calls k a0_0 a0_1 t107 t108 t109 t110 t111 t112 t113 t114 t117 t118 t119 t120 t121 t122 _ A6.out).mono ?_); rintro e w13 ⟨v115, rfl, ho0, hb⟩; have n0_ := Aside0.mk (Kd.R_lower ho0 (below_size (by repeat (first | (with_reducible first | exact HB.out | apply below_alloc | apply pw_below_drewN | apply below_drew1 | refine below_set ?_ GE104.out) | exact HB.out)))); have n1_ := Aside0.mk (blk_below (g := gb104) (o := .cells #[.string a0_0, .int .i64 a0_1] 23 (0, 0)) (by (with_reducible repeat (first | refine blk_drewN ?_ _ | refine blk_drew ?_ | refine blk_alloc ?_ _)); exact BK104.out) hb); have n2_ := Aside0.mk (below_step (by repeat (first | (with_reducible first | exact HB.out | apply below_alloc | apply pw_below_drewN | apply below_drew1 | refine below_set ?_ GE104.out) | exact HB.out)) hb); clear BK104; clear HB; have HO116 := n0_; have BK104 := n1_; have HB := n2_; clear n0_ n1_ n2_; (try clear hb); (try clear hb2); (try clear hk); (try clear hi); (try clear ho0)) | ((with_reducible refine gate_dst (N := 3) rfl ?_); (try (refine gate_guard (by rfl) ?_; dsimp only)); refine box_event ?hg (N := 3) ?hd (cs := #[.string (⟨#[]⟩ : ByteArray), .string (⟨#[]⟩ : ByteArray), .string (⟨#[]⟩ : ByteArray), .string (⟨#[]⟩ : ByteArray), .string (⟨#[]⟩ : ByteArray), .int .i64 0, .int .i64 0, .slice none 0 0, .bool false, .int .i64 0, .string (⟨#[]⟩ : ByteArray), .string (⟨#[]⟩ : ByteArray), .string (⟨#[]⟩ : ByteArray), .string (⟨#[]⟩ : ByteArray)]) (t := 27) ?hr ?_; (case hd => rfl); (case hg => rfl); (case hr => first | (go_simp; done) | (go_simp; rfl)); intro gb123 hg w14 hbox hb; have n0_ := Aside0.mk (Kd.R_below (by (with_reducible repeat (first | apply Kd.R_alloc | apply Kd.R_drewN | apply Kd.R_drew)); exact HO116.out) hb); have n1_ := Aside0.mk (blk_below (g := gb104) (o := .cells #[.string a0_0, .int .i64 a0_1] 23 (0, 0)) (by (with_reducible repeat (first | refine blk_drewN ?_ _ | refine blk_drew ?_ | refine blk_alloc ?_ _)); exact BK104.out) hb); have n2_ := Aside0.mk (below_step (by repeat (first | (with_reducible first | exact HB.out | apply below_alloc | apply pw_below_drewN | apply below_drew1 | refine below_set ?_ GE104.out) | exact HB.out)) hb); have n3_ := Aside0.mk (hbox); have n4_ := Aside0.mk ((by rw [hg]; exact (below_size (by repeat (first | (with_reducible first | exact HB.out | apply below_alloc | apply pw_below_drewN | apply below_drew1 | refine below_set ?_ GE104.out) | exact HB.out))) : w.heap.size ≤ gb123)); have n5_ := Aside0.mk ((by rw [hg]; exact (below_size (by repeat (first | (with_reducible first | exact HB.out | apply below_alloc | apply pw_below_drewN | apply below_drew1 | refine below_set ?_ GE104.out) | exact HB.out))) : w.heap.size ≤ gb123)); have n6_ := Aside0.mk ((by rw [hg]; exact Nat.ne_of_lt (blk_lt (g := gb104) (o := .cells #[.string a0_0, .int .i64 a0_1] 23 (0, 0)) (by (with_reducible repeat (first | refine blk_drewN ?_ _ | refine blk_drew ?_ | refine blk_alloc ?_ _)); exact BK104.out)) : gb104 ≠ gb123)); have n7_ := Aside0.mk ((by rw [hg]; exact Nat.ne_of_gt (blk_lt (g := gb104) (o := .cells #[.string a0_0, .int .i64 a0_1] 23 (0, 0)) (by (with_reducible repeat (first | refine blk_drewN ?_ _ | refine blk_drew ?_ | refine blk_alloc ?_ _)); exact BK104.out)) : gb123 ≠ gb104)); clear HO116; clear BK104; clear HB; have HO116 := n0_; have BK104 := n1_; have HB := n2_; have BK123 := n3_; have GW123 := n4_; have GE123 := n5_; have NB104_123 := n6_; have NB123_104 := n7_; clear n0_ n1_ n2_ n3_ n4_ n5_ n6_ n7_; clear hb hbox hg; have hnb15 := NB123_104.out; have hnc15 := NB104_123.out; have hcz16_0 : w14.cell? ⟨gb123, 0, none⟩ = some (.string (⟨#[]⟩ : ByteArray)) := (blk_cell BK123.out 0).trans rfl; have hcz16_1 : w14.cell? ⟨gb123, 1, none⟩ = some (.string (⟨#[]⟩ : ByteArray)) := (blk_cell BK123.out 1).trans rfl; have hcz16_2 : w14.cell? ⟨gb123, 2, none⟩ = some (.string (⟨#[]⟩ : ByteArray)) := (blk_cell BK123.out 2).trans rfl; have hcz16_3 : w14.cell? ⟨gb123, 3, none⟩ = some (.string (⟨#[]⟩ : ByteArray)) := (blk_cell BK123.out 3).trans rfl; have hcz16_4 : w14.cell? ⟨gb123, 4, none⟩ = some (.string (⟨#[]⟩ : ByteArray)) := (blk_cell BK123.out 4).trans rfl; have hcz16_5 : w14.cell? ⟨gb123, 5, none⟩ = some (.int .i64 0) := (blk_cell BK123.out 5).trans rfl; have hcz16_6 : w14.cell? ⟨gb123, 6, none⟩ = some (.int .i64 0) := (blk_cell BK123.out 6).trans rfl; have hcz16_7 : w14.cell? ⟨gb123, 7, none⟩ = some (.slice none 0 0) := (blk_cell BK123.out 7).trans rfl; have hcz16_8 : w14.cell? ⟨gb123, 8, none⟩ = some (.bool false) := (blk_cell BK123.out 8).trans rfl; have hcz16_9 : w14.cell? ⟨gb123, 9, none⟩ = some (.int .i64 0) := (blk_cell BK123.out 9).trans rfl; have hcz16_10 : w14.cell? ⟨gb123, 10, none⟩ = some (.string (⟨#[]⟩ : ByteArray)) := (blk_cell BK123.out 10).trans rfl; have hcz16_11 : w14.cell? ⟨gb123, 11, none⟩ = some (.string (⟨#[]⟩ : ByteArray)) := (blk_cell BK123.out 11).trans rfl; have hcz16_12 : w14.cell? ⟨gb123, 12, none⟩ = some (.string (⟨#[]⟩ : ByteArray)) := (blk_cell BK123.out 12).trans rfl; have hcz16_13 : w14.cell? ⟨gb123, 13, none⟩ = some (.string (⟨#[]⟩ : ByteArray)) := (blk_cell BK123.out 13).trans rfl; have hfz16_0 := blk_frozen BK123.out 0; have hfz16_1 := blk_frozen BK123.out 1; have hfz16_2 := blk_frozen BK123.out 2; have hfz16_3 := blk_frozen BK123.out 3; have hfz16_4 := blk_frozen BK123.out 4; have hfz16_5 := blk_frozen BK123.out 5; have hfz16_6 := blk_frozen BK123.out 6; have hfz16_7 := blk_frozen BK123.out 7; have hfz16_8 := blk_frozen BK123.out 8; have hfz16_9 := blk_frozen BK123.out 9; have hfz16_10 := blk_frozen BK123.out 10; have hfz16_11 := blk_frozen BK123.out 11; have hfz16_12 := blk_frozen BK123.out 12; have hfz16_13 := blk_frozen BK123.out 13; obtain ⟨Ao17, co17, eo17⟩ := Kd.R_slice HO116.out; subst eo17))
      repeat (go_quiet (first | ((with_reducible refine gate_dst (N := 1) rfl ?_); (try (refine gate_guard (by rfl) ?_; dsimp only)); refine box_event ?hg (N := 1) ?hd (cs := #[.string a0_0, .int .i64 a0_1]) (t := 23) ?hr ?_; (case hd => rfl); (case hg => rfl); (case hr => first | (go_simp; done) | (go_simp; rfl)); intro gb104 hg w7 hbox hb; have n0_ := Aside0.mk (below_step (by repeat (first | (with_reducible first | exact HB.out | apply below_alloc | apply pw_below_drewN | apply below_drew1) | exact HB.out)) hb); have n1_ := Aside0.mk (hbox); have n2_ := Aside0.mk ((by rw [hg]; exact (below_size (by repeat (first | (with_reducible first | exact HB.out | apply below_alloc | apply pw_below_drewN | apply below_drew1) | exact HB.out))) : w.heap.size ≤ gb104)); have n3_ := Aside0.mk ((by rw [hg]; exact (below_size (by repeat (first | (with_reducible first | exact HB.out | apply below_alloc | apply pw_below_drewN | apply below_drew1) | exact HB.out))) : w.heap.size ≤ gb104)); clear HB; have HB := n0_; have BK104 := n1_; have GW104 := n2_; have GE104 := n3_; clear n0_ n1_ n2_ n3_; clear hb hbox hg; have hcz8_0 : w7.cell? ⟨gb104, 0, none⟩ = some (.string a0_0) := (blk_cell BK104.out 0).trans rfl; have hcz8_1 : w7.cell? ⟨gb104, 1, none⟩ = some (.int .i64 a0_1) := (blk_cell BK104.out 1).trans rfl; have hfz8_0 := blk_frozen BK104.out 0; have hfz8_1 := blk_frozen BK104.out 1) | (go_at_call 5; (with_reducible refine (laws_zzFits2.calls a0_0 a0_1 true _ A2.out).mono ?_); rintro e w9 ⟨rfl, hb⟩; have n0_ := Aside0.mk (blk_below (g := gb104) (o := .cells #[.string a0_0, .int .i64 a0_1] 23 (0, 0)) (by (with_reducible repeat (first | refine blk_drewN ?_ _ | refine blk_drew ?_ | refine blk_alloc ?_ _)); exact BK104.out) hb); have n1_ := Aside0.mk (below_step (by repeat (first | (with_reducible first | exact HB.out | apply below_alloc | apply pw_below_drewN | apply below_drew1 | refine below_set ?_ GE104.out) | exact HB.out)) hb); clear BK104; clear HB; have BK104 := n0_; have HB := n1_; clear n0_ n1_; (try clear hb); (try clear hb2); (try clear hk); (try clear hi); have hcz10_0 : w9.cell? ⟨gb104, 0, none⟩ = some (.string a0_0) := (blk_cell BK104.out 0).trans rfl; have hcz10_1 : w9.cell? ⟨gb104, 1, none⟩ = some (.int .i64 a0_1) := (blk_cell BK104.out 1).trans rfl; have hfz10_0 := blk_frozen BK104.out 0; have hfz10_1 := blk_frozen BK104.out 1) | (go_at_call 6; (with_reducible refine (spec_DocRight.calls k a0_0 a0_1 true _ A4.out).mono ?_); rintro e w11 ⟨rfl, hb⟩; have n0_ := Aside0.mk (blk_below (g := gb104) (o := .cells #[.string a0_0, .int .i64 a0_1] 23 (0, 0)) (by (with_reducible repeat (first | refine blk_drewN ?_ _ | refine blk_drew ?_ | refine blk_alloc ?_ _)); exact BK104.out) hb); have n1_ := Aside0.mk (below_step (by repeat (first | (with_reducible first | exact HB.out | apply below_alloc | apply pw_below_drewN | apply below_drew1 | refine below_set ?_ GE104.out) | exact HB.out)) hb); clear BK104; clear HB; have BK104 := n0_; have HB := n1_; clear n0_ n1_; (try clear hb); (try clear hb2); (try clear hk); (try clear hi); have hcz12_0 : w11.cell? ⟨gb104, 0, none⟩ = some (.string a0_0) := (blk_cell BK104.out 0).trans rfl; have hcz12_1 : w11.cell? ⟨gb104, 1, none⟩ = some (.int .i64 a0_1) := (blk_cell BK104.out 1).trans rfl; have hfz12_0 := blk_frozen BK104.out 0; have hfz12_1 := blk_frozen BK104.out 1) | (go_at_call 7; (with_reducible refine (impl_AroundOf.calls k a0_0 a0_1 t107 t108 t109 t110 t111 t112 t113 t114 t117 t118 t119 t120 t121 t122 _ A6.out).mono ?_); rintro e w13 ⟨v115, rfl, ho0, hb⟩; have n0_ := Aside0.mk (Kd.R_lower ho0 (below_size (by repeat (first | (with_reducible first | exact HB.out | apply below_alloc | apply pw_below_drewN | apply below_drew1 | refine below_set ?_ GE104.out) | exact HB.out)))); have n1_ := Aside0.mk (blk_below (g := gb104) (o := .cells #[.string a0_0, .int .i64 a0_1] 23 (0, 0)) (by (with_reducible repeat (first | refine blk_drewN ?_ _ | refine blk_drew ?_ | refine blk_alloc ?_ _)); exact BK104.out) hb); have n2_ := Aside0.mk (below_step (by repeat (first | (with_reducible first | exact HB.out | apply below_alloc | apply pw_below_drewN | apply below_drew1 | refine below_set ?_ GE104.out) | exact HB.out)) hb); clear BK104; clear HB; have HO116 := n0_; have BK104 := n1_; have HB := n2_; clear n0_ n1_ n2_; (try clear hb); (try clear hb2); (try clear hk); (try clear hi); (try clear ho0)) | ((with_reducible refine gate_dst (N := 3) rfl ?_); (try (refine gate_guard (by rfl) ?_; dsimp only)); refine box_event ?hg (N := 3) ?hd (cs := #[.string (⟨#[]⟩ : ByteArray), .string (⟨#[]⟩ : ByteArray), .string (⟨#[]⟩ : ByteArray), .string (⟨#[]⟩ : ByteArray), .string (⟨#[]⟩ : ByteArray), .int .i64 0, .int .i64 0, .slice none 0 0, .bool false, .int .i64 0, .string (⟨#[]⟩ : ByteArray), .string (⟨#[]⟩ : ByteArray), .string (⟨#[]⟩ : ByteArray), .string (⟨#[]⟩ : ByteArray)]) (t := 27) ?hr ?_; (case hd => rfl); (case hg => rfl); (case hr => first | (go_simp; done) | (go_simp; rfl)); intro gb123 hg w14 hbox hb; have n0_ := Aside0.mk (Kd.R_below (by (with_reducible repeat (first | apply Kd.R_alloc | apply Kd.R_drewN | apply Kd.R_drew)); exact HO116.out) hb); have n1_ := Aside0.mk (blk_below (g := gb104) (o := .cells #[.string a0_0, .int .i64 a0_1] 23 (0, 0)) (by (with_reducible repeat (first | refine blk_drewN ?_ _ | refine blk_drew ?_ | refine blk_alloc ?_ _)); exact BK104.out) hb); have n2_ := Aside0.mk (below_step (by repeat (first | (with_reducible first | exact HB.out | apply below_alloc | apply pw_below_drewN | apply below_drew1 | refine below_set ?_ GE104.out) | exact HB.out)) hb); have n3_ := Aside0.mk (hbox); have n4_ := Aside0.mk ((by rw [hg]; exact (below_size (by repeat (first | (with_reducible first | exact HB.out | apply below_alloc | apply pw_below_drewN | apply below_drew1 | refine below_set ?_ GE104.out) | exact HB.out))) : w.heap.size ≤ gb123)); have n5_ := Aside0.mk ((by rw [hg]; exact (below_size (by repeat (first | (with_reducible first | exact HB.out | apply below_alloc | apply pw_below_drewN | apply below_drew1 | refine below_set ?_ GE104.out) | exact HB.out))) : w.heap.size ≤ gb123)); have n6_ := Aside0.mk ((by rw [hg]; exact Nat.ne_of_lt (blk_lt (g := gb104) (o := .cells #[.string a0_0, .int .i64 a0_1] 23 (0, 0)) (by (with_reducible repeat (first | refine blk_drewN ?_ _ | refine blk_drew ?_ | refine blk_alloc ?_ _)); exact BK104.out)) : gb104 ≠ gb123)); have n7_ := Aside0.mk ((by rw [hg]; exact Nat.ne_of_gt (blk_lt (g := gb104) (o := .cells #[.string a0_0, .int .i64 a0_1] 23 (0, 0)) (by (with_reducible repeat (first | refine blk_drewN ?_ _ | refine blk_drew ?_ | refine blk_alloc ?_ _)); exact BK104.out)) : gb123 ≠ gb104)); clear HO116; clear BK104; clear HB; have HO116 := n0_; have BK104 := n1_; have HB := n2_; have BK123 := n3_; have GW123 := n4_; have GE123 := n5_; have NB104_123 := n6_; have NB123_104 := n7_; clear n0_ n1_ n2_ n3_ n4_ n5_ n6_ n7_; clear hb hbox hg; have hnb15 := NB123_104.out; have hnc15 := NB104_123.out; have hcz16_0 : w14.cell? ⟨gb123, 0, none⟩ = some (.string (⟨#[]⟩ : ByteArray)) := (blk_cell BK123.out 0).trans rfl; have hcz16_1 : w14.cell? ⟨gb123, 1, none⟩ = some (.string (⟨#[]⟩ : ByteArray)) := (blk_cell BK123.out 1).trans rfl; have hcz16_2 : w14.cell? ⟨gb123, 2, none⟩ = some (.string (⟨#[]⟩ : ByteArray)) := (blk_cell BK123.out 2).trans rfl; have hcz16_3 : w14.cell? ⟨gb123, 3, none⟩ = some (.string (⟨#[]⟩ : ByteArray)) := (blk_cell BK123.out 3).trans rfl; have hcz16_4 : w14.cell? ⟨gb123, 4, none⟩ = some (.string (⟨#[]⟩ : ByteArray)) := (blk_cell BK123.out 4).trans rfl; have hcz16_5 : w14.cell? ⟨gb123, 5, none⟩ = some (.int .i64 0) := (blk_cell BK123.out 5).trans rfl; have hcz16_6 : w14.cell? ⟨gb123, 6, none⟩ = some (.int .i64 0) := (blk_cell BK123.out 6).trans rfl; have hcz16_7 : w14.cell? ⟨gb123, 7, none⟩ = some (.slice none 0 0) := (blk_cell BK123.out 7).trans rfl; have hcz16_8 : w14.cell? ⟨gb123, 8, none⟩ = some (.bool false) := (blk_cell BK123.out 8).trans rfl; have hcz16_9 : w14.cell? ⟨gb123, 9, none⟩ = some (.int .i64 0) := (blk_cell BK123.out 9).trans rfl; have hcz16_10 : w14.cell? ⟨gb123, 10, none⟩ = some (.string (⟨#[]⟩ : ByteArray)) := (blk_cell BK123.out 10).trans rfl; have hcz16_11 : w14.cell? ⟨gb123, 11, none⟩ = some (.string (⟨#[]⟩ : ByteArray)) := (blk_cell BK123.out 11).trans rfl; have hcz16_12 : w14.cell? ⟨gb123, 12, none⟩ = some (.string (⟨#[]⟩ : ByteArray)) := (blk_cell BK123.out 12).trans rfl; have hcz16_13 : w14.cell? ⟨gb123, 13, none⟩ = some (.string (⟨#[]⟩ : ByteArray)) := (blk_cell BK123.out 13).trans rfl; have hfz16_0 := blk_frozen BK123.out 0; have hfz16_1 := blk_frozen BK123.out 1; have hfz16_2 := blk_frozen BK123.out 2; have hfz16_3 := blk_frozen BK123.out 3; have hfz16_4 := blk_frozen BK123.out 4; have hfz16_5 := blk_frozen BK123.out 5; have hfz16_6 := blk_frozen BK123.out 6; have hfz16_7 := blk_frozen BK123.out 7; have hfz16_8 := blk_frozen BK123.out 8; have hfz16_9 := blk_frozen BK123.out 9; have hfz16_10 := blk_frozen BK123.out 10; have hfz16_11 := blk_frozen BK123.out 11; have hfz16_12 := blk_frozen BK123.out 12; have hfz16_13 := blk_frozen BK123.out 13; obtain ⟨Ao17, co17, eo17⟩ := Kd.R_slice HO116.out; subst eo17)); try go_wp2_with (first | ((with_reducible refine gate_dst (N := 1) rfl ?_); (try (refine gate_guard (by rfl) ?_; dsimp only)); refine box_event ?hg (N := 1) ?hd (cs := #[.string a0_0, .int .i64 a0_1]) (t := 23) ?hr ?_; (case hd => rfl); (case hg => rfl); (case hr => first | (go_simp; done) | (go_simp; rfl)); intro gb104 hg w7 hbox hb; have n0_ := Aside0.mk (below_step (by repeat (first | (with_reducible first | exact HB.out | apply below_alloc | apply pw_below_drewN | apply below_drew1) | exact HB.out)) hb); have n1_ := Aside0.mk (hbox); have n2_ := Aside0.mk ((by rw [hg]; exact (below_size (by repeat (first | (with_reducible first | exact HB.out | apply below_alloc | apply pw_below_drewN | apply below_drew1) | exact HB.out))) : w.heap.size ≤ gb104)); have n3_ := Aside0.mk ((by rw [hg]; exact (below_size (by repeat (first | (with_reducible first | exact HB.out | apply below_alloc | apply pw_below_drewN | apply below_drew1) | exact HB.out))) : w.heap.size ≤ gb104)); clear HB; have HB := n0_; have BK104 := n1_; have GW104 := n2_; have GE104 := n3_; clear n0_ n1_ n2_ n3_; clear hb hbox hg; have hcz8_0 : w7.cell? ⟨gb104, 0, none⟩ = some (.string a0_0) := (blk_cell BK104.out 0).trans rfl; have hcz8_1 : w7.cell? ⟨gb104, 1, none⟩ = some (.int .i64 a0_1) := (blk_cell BK104.out 1).trans rfl; have hfz8_0 := blk_frozen BK104.out 0; have hfz8_1 := blk_frozen BK104.out 1) | (go_at_call 5; (with_reducible refine (laws_zzFits2.calls a0_0 a0_1 true _ A2.out).mono ?_); rintro e w9 ⟨rfl, hb⟩; have n0_ := Aside0.mk (blk_below (g := gb104) (o := .cells #[.string a0_0, .int .i64 a0_1] 23 (0, 0)) (by (with_reducible repeat (first | refine blk_drewN ?_ _ | refine blk_drew ?_ | refine blk_alloc ?_ _)); exact BK104.out) hb); have n1_ := Aside0.mk (below_step (by repeat (first | (with_reducible first | exact HB.out | apply below_alloc | apply pw_below_drewN | apply below_drew1 | refine below_set ?_ GE104.out) | exact HB.out)) hb); clear BK104; clear HB; have BK104 := n0_; have HB := n1_; clear n0_ n1_; (try clear hb); (try clear hb2); (try clear hk); (try clear hi); have hcz10_0 : w9.cell? ⟨gb104, 0, none⟩ = some (.string a0_0) := (blk_cell BK104.out 0).trans rfl; have hcz10_1 : w9.cell? ⟨gb104, 1, none⟩ = some (.int .i64 a0_1) := (blk_cell BK104.out 1).trans rfl; have hfz10_0 := blk_frozen BK104.out 0; have hfz10_1 := blk_frozen BK104.out 1) | (go_at_call 6; (with_reducible refine (spec_DocRight.calls k a0_0 a0_1 true _ A4.out).mono ?_); rintro e w11 ⟨rfl, hb⟩; have n0_ := Aside0.mk (blk_below (g := gb104) (o := .cells #[.string a0_0, .int .i64 a0_1] 23 (0, 0)) (by (with_reducible repeat (first | refine blk_drewN ?_ _ | refine blk_drew ?_ | refine blk_alloc ?_ _)); exact BK104.out) hb); have n1_ := Aside0.mk (below_step (by repeat (first | (with_reducible first | exact HB.out | apply below_alloc | apply pw_below_drewN | apply below_drew1 | refine below_set ?_ GE104.out) | exact HB.out)) hb); clear BK104; clear HB; have BK104 := n0_; have HB := n1_; clear n0_ n1_; (try clear hb); (try clear hb2); (try clear hk); (try clear hi); have hcz12_0 : w11.cell? ⟨gb104, 0, none⟩ = some (.string a0_0) := (blk_cell BK104.out 0).trans rfl; have hcz12_1 : w11.cell? ⟨gb104, 1, none⟩ = some (.int .i64 a0_1) := (blk_cell BK104.out 1).trans rfl; have hfz12_0 := blk_frozen BK104.out 0; have hfz12_1 := blk_frozen BK104.out 1) | (go_at_call 7; (with_reducible refine (impl_AroundOf.calls k a0_0 a0_1 t107 t108 t109 t110 t111 t112 t113 t114 t117 t118 t119 t120 t121 t122 _ A6.out).mono ?_); rintro e w13 ⟨v115, rfl, ho0, hb⟩; have n0_ := Aside0.mk (Kd.R_lower ho0 (below_size (by repeat (first | (with_reducible first | exact HB.out | apply below_alloc | apply pw_below_drewN | apply below_drew1 | refine below_set ?_ GE104.out) | exact HB.out)))); have n1_ := Aside0.mk (blk_below (g := gb104) (o := .cells #[.string a0_0, .int .i64 a0_1] 23 (0, 0)) (by (with_reducible repeat (first | refine blk_drewN ?_ _ | refine blk_drew ?_ | refine blk_alloc ?_ _)); exact BK104.out) hb); have n2_ := Aside0.mk (below_step (by repeat (first | (with_reducible first | exact HB.out | apply below_alloc | apply pw_below_drewN | apply below_drew1 | refine below_set ?_ GE104.out) | exact HB.out)) hb); clear BK104; clear HB; have HO116 := n0_; have BK104 := n1_; have HB := n2_; clear n0_ n1_ n2_; (try clear hb); (try clear hb2); (try clear hk); (try clear hi); (try clear ho0)) | ((with_reducible refine gate_dst (N := 3) rfl ?_); (try (refine gate_guard (by rfl) ?_; dsimp only)); refine box_event ?hg (N := 3) ?hd (cs := #[.string (⟨#[]⟩ : ByteArray), .string (⟨#[]⟩ : ByteArray), .string (⟨#[]⟩ : ByteArray), .string (⟨#[]⟩ : ByteArray), .string (⟨#[]⟩ : ByteArray), .int .i64 0, .int .i64 0, .slice none 0 0, .bool false, .int .i64 0, .string (⟨#[]⟩ : ByteArray), .string (⟨#[]⟩ : ByteArray), .string (⟨#[]⟩ : ByteArray), .string (⟨#[]⟩ : ByteArray)]) (t := 27) ?hr ?_; (case hd => rfl); (case hg => rfl); (case hr => first | (go_simp; done) | (go_simp; rfl)); intro gb123 hg w14 hbox hb; have n0_ := Aside0.mk (Kd.R_below (by (with_reducible repeat (first | apply Kd.R_alloc | apply Kd.R_drewN | apply Kd.R_drew)); exact HO116.out) hb); have n1_ := Aside0.mk (blk_below (g := gb104) (o := .cells #[.string a0_0, .int .i64 a0_1] 23 (0, 0)) (by (with_reducible repeat (first | refine blk_drewN ?_ _ | refine blk_drew ?_ | refine blk_alloc ?_ _)); exact BK104.out) hb); have n2_ := Aside0.mk (below_step (by repeat (first | (with_reducible first | exact HB.out | apply below_alloc | apply pw_below_drewN | apply below_drew1 | refine below_set ?_ GE104.out) | exact HB.out)) hb); have n3_ := Aside0.mk (hbox); have n4_ := Aside0.mk ((by rw [hg]; exact (below_size (by repeat (first | (with_reducible first | exact HB.out | apply below_alloc | apply pw_below_drewN | apply below_drew1 | refine below_set ?_ GE104.out) | exact HB.out))) : w.heap.size ≤ gb123)); have n5_ := Aside0.mk ((by rw [hg]; exact (below_size (by repeat (first | (with_reducible first | exact HB.out | apply below_alloc | apply pw_below_drewN | apply below_drew1 | refine below_set ?_ GE104.out) | exact HB.out))) : w.heap.size ≤ gb123)); have n6_ := Aside0.mk ((by rw [hg]; exact Nat.ne_of_lt (blk_lt (g := gb104) (o := .cells #[.string a0_0, .int .i64 a0_1] 23 (0, 0)) (by (with_reducible repeat (first | refine blk_drewN ?_ _ | refine blk_drew ?_ | refine blk_alloc ?_ _)); exact BK104.out)) : gb104 ≠ gb123)); have n7_ := Aside0.mk ((by rw [hg]; exact Nat.ne_of_gt (blk_lt (g := gb104) (o := .cells #[.string a0_0, .int .i64 a0_1] 23 (0, 0)) (by (with_reducible repeat (first | refine blk_drewN ?_ _ | refine blk_drew ?_ | refine blk_alloc ?_ _)); exact BK104.out)) : gb123 ≠ gb104)); clear HO116; clear BK104; clear HB; have HO116 := n0_; have BK104 := n1_; have HB := n2_; have BK123 := n3_; have GW123 := n4_; have GE123 := n5_; have NB104_123 := n6_; have NB123_104 := n7_; clear n0_ n1_ n2_ n3_ n4_ n5_ n6_ n7_; clear hb hbox hg; have hnb15 := NB123_104.out; have hnc15 := NB104_123.out; have hcz16_0 : w14.cell? ⟨gb123, 0, none⟩ = some (.string (⟨#[]⟩ : ByteArray)) := (blk_cell BK123.out 0).trans rfl; have hcz16_1 : w14.cell? ⟨gb123, 1, none⟩ = some (.string (⟨#[]⟩ : ByteArray)) := (blk_cell BK123.out 1).trans rfl; have hcz16_2 : w14.cell? ⟨gb123, 2, none⟩ = some (.string (⟨#[]⟩ : ByteArray)) := (blk_cell BK123.out 2).trans rfl; have hcz16_3 : w14.cell? ⟨gb123, 3, none⟩ = some (.string (⟨#[]⟩ : ByteArray)) := (blk_cell BK123.out 3).trans rfl; have hcz16_4 : w14.cell? ⟨gb123, 4, none⟩ = some (.string (⟨#[]⟩ : ByteArray)) := (blk_cell BK123.out 4).trans rfl; have hcz16_5 : w14.cell? ⟨gb123, 5, none⟩ = some (.int .i64 0) := (blk_cell BK123.out 5).trans rfl; have hcz16_6 : w14.cell? ⟨gb123, 6, none⟩ = some (.int .i64 0) := (blk_cell BK123.out 6).trans rfl; have hcz16_7 : w14.cell? ⟨gb123, 7, none⟩ = some (.slice none 0 0) := (blk_cell BK123.out 7).trans rfl; have hcz16_8 : w14.cell? ⟨gb123, 8, none⟩ = some (.bool false) := (blk_cell BK123.out 8).trans rfl; have hcz16_9 : w14.cell? ⟨gb123, 9, none⟩ = some (.int .i64 0) := (blk_cell BK123.out 9).trans rfl; have hcz16_10 : w14.cell? ⟨gb123, 10, none⟩ = some (.string (⟨#[]⟩ : ByteArray)) := (blk_cell BK123.out 10).trans rfl; have hcz16_11 : w14.cell? ⟨gb123, 11, none⟩ = some (.string (⟨#[]⟩ : ByteArray)) := (blk_cell BK123.out 11).trans rfl; have hcz16_12 : w14.cell? ⟨gb123, 12, none⟩ = some (.string (⟨#[]⟩ : ByteArray)) := (blk_cell BK123.out 12).trans rfl; have hcz16_13 : w14.cell? ⟨gb123, 13, none⟩ = some (.string (⟨#[]⟩ : ByteArray)) := (blk_cell BK123.out 13).trans rfl; have hfz16_0 := blk_frozen BK123.out 0; have hfz16_1 := blk_frozen BK123.out 1; have hfz16_2 := blk_frozen BK123.out 2; have hfz16_3 := blk_frozen BK123.out 3; have hfz16_4 := blk_frozen BK123.out 4; have hfz16_5 := blk_frozen BK123.out 5; have hfz16_6 := blk_frozen BK123.out 6; have hfz16_7 := blk_frozen BK123.out 7; have hfz16_8 := blk_frozen BK123.out 8; have hfz16_9 := blk_frozen BK123.out 9; have hfz16_10 := blk_frozen BK123.out 10; have hfz16_11 := blk_frozen BK123.out 11; have hfz16_12 := blk_frozen BK123.out 12; have hfz16_13 := blk_frozen BK123.out 13; obtain ⟨Ao17, co17, eo17⟩ := Kd.R_slice HO116.out; subst eo17)))
      go_loopg [4, 5] k (fun kq v4 v5 w' => ∃ (x4_1 : ByteArray) (x5_1 : Int), v4 = .string x4_1 ∧ v5 = .int .i64 x5_1 ∧ Aside0 (laws_FnAroundParts.l0 kq x4_1 x5_1 a0_0 a0_1 t107 t108 t109 t110 t111 t112 t113 t114 t117 t118 t119 t120 t121 t122 = some r) ∧ Aside0 (kq ≤ k) ∧ Aside0 (Kd.R Kd.string 9 w' w.heap.size (fun _ => True) (.slice Ao17 t114.length co17) t114) ∧ Aside0 (w'.heap[gb104]? = some (.cells #[.string a0_0, .int .i64 a0_1] 23 (0, 0))) ∧ Aside0 (w'.heap[gb123]? = some (.cells #[.string t107, .string t108, .string t109, .string t110, .string t111, .int .i64 t112, .int .i64 t113, (.slice Ao17 t114.length co17), .bool t117, .int .i64 t118, .string t119, .string t120, .string t121, .string t122] 27 (0, 0))) ∧ Aside0 (Below w.heap.size w w'))
      case atStart => exact ⟨((⟨#[]⟩ : ByteArray)), (0), (by first | rfl | (simp; done) | (simp [*]; done)), (by first | rfl | (simp; done) | (simp [*]; done)), H', ⟨Nat.le_refl _⟩, ⟨by (with_reducible repeat (first | apply Kd.R_alloc | apply Kd.R_drewN | apply Kd.R_drew)); exact Kd.R_mono (Kd.R_far (p := ⟨gb123, 13, none⟩) (Kd.R_far (p := ⟨gb123, 12, none⟩) (Kd.R_far (p := ⟨gb123, 11, none⟩) (Kd.R_far (p := ⟨gb123, 10, none⟩) (Kd.R_far (p := ⟨gb123, 9, none⟩) (Kd.R_far (p := ⟨gb123, 8, none⟩) (Kd.R_far (p := ⟨gb123, 7, none⟩) (Kd.R_far (p := ⟨gb123, 6, none⟩) (Kd.R_far (p := ⟨gb123, 5, none⟩) (Kd.R_far (p := ⟨gb123, 4, none⟩) (Kd.R_far (p := ⟨gb123, 3, none⟩) (Kd.R_far (p := ⟨gb123, 2, none⟩) (Kd.R_far (p := ⟨gb123, 1, none⟩) (Kd.R_far (p := ⟨gb123, 0, none⟩) (Kd.R_types HO116.out BK123.out (by decide)) (fun _ hk => hk.2) (.string t107)) (fun _ hk => hk.2) (.string t108)) (fun _ hk => hk.2) (.string t109)) (fun _ hk => hk.2) (.string t110)) (fun _ hk => hk.2) (.string t111)) (fun _ hk => hk.2) (.int .i64 t112)) (fun _ hk => hk.2) (.int .i64 t113)) (fun _ hk => hk.2) (.slice Ao17 t114.length co17)) (fun _ hk => hk.2) (.bool t117)) (fun _ hk => hk.2) (.int .i64 t118)) (fun _ hk => hk.2) (.string t119)) (fun _ hk => hk.2) (.string t120)) (fun _ hk => hk.2) (.string t121)) (fun _ hk => hk.2) (.string t122)) (fun _ hk => trivial)⟩, ⟨by (with_reducible repeat (first | refine blk_drewN ?_ _ | refine blk_drew ?_ | refine blk_alloc ?_ _)); refine blk_far ?_ NB104_123.out _; (with_reducible repeat (first | refine blk_drewN ?_ _ | refine blk_drew ?_ | refine blk_alloc ?_ _)); refine blk_far ?_ NB104_123.out _; (with_reducible repeat (first | refine blk_drewN ?_ _ | refine blk_drew ?_ | refine blk_alloc ?_ _)); refine blk_far ?_ NB104_123.out _; (with_reducible repeat (first | refine blk_drewN ?_ _ | refine blk_drew ?_ | refine blk_alloc ?_ _)); refine blk_far ?_ NB104_123.out _; (with_reducible repeat (first | refine blk_drewN ?_ _ | refine blk_drew ?_ | refine blk_alloc ?_ _)); refine blk_far ?_ NB104_123.out _; (with_reducible repeat (first | refine blk_drewN ?_ _ | refine blk_drew ?_ | refine blk_alloc ?_ _)); refine blk_far ?_ NB104_123.out _; (with_reducible repeat (first | refine blk_drewN ?_ _ | refine blk_drew ?_ | refine blk_alloc ?_ _)); refine blk_far ?_ NB104_123.out _; (with_reducible repeat (first | refine blk_drewN ?_ _ | refine blk_drew ?_ | refine blk_alloc ?_ _)); refine blk_far ?_ NB104_123.out _; (with_reducible repeat (first | refine blk_drewN ?_ _ | refine blk_drew ?_ | refine blk_alloc ?_ _)); refine blk_far ?_ NB104_123.out _; (with_reducible repeat (first | refine blk_drewN ?_ _ | refine blk_drew ?_ | refine blk_alloc ?_ _)); refine blk_far ?_ NB104_123.out _; (with_reducible repeat (first | refine blk_drewN ?_ _ | refine blk_drew ?_ | refine blk_alloc ?_ _)); refine blk_far ?_ NB104_123.out _; (with_reducible repeat (first | refine blk_drewN ?_ _ | refine blk_drew ?_ | refine blk_alloc ?_ _)); refine blk_far ?_ NB104_123.out _; (with_reducible repeat (first | refine blk_drewN ?_ _ | refine blk_drew ?_ | refine blk_alloc ?_ _)); refine blk_far ?_ NB104_123.out _; (with_reducible repeat (first | refine blk_drewN ?_ _ | refine blk_drew ?_ | refine blk_alloc ?_ _)); refine blk_far ?_ NB104_123.out _; (with_reducible repeat (first | refine blk_drewN ?_ _ | refine blk_drew ?_ | refine blk_alloc ?_ _)); exact BK104.out⟩, ⟨by (with_reducible repeat (first | refine blk_drewN ?_ _ | refine blk_drew ?_ | refine blk_alloc ?_ _)); refine blk_put (cs := #[.string t107, .string t108, .string t109, .string t110, .string t111, .int .i64 t112, .int .i64 t113, .slice Ao17 t114.length co17, .bool t117, .int .i64 t118, .string t119, .string t120, .string t121, .string (⟨#[]⟩ : ByteArray)]) ?_ 13 _ rfl; (with_reducible repeat (first | refine blk_drewN ?_ _ | refine blk_drew ?_ | refine blk_alloc ?_ _)); refine blk_put (cs := #[.string t107, .string t108, .string t109, .string t110, .string t111, .int .i64 t112, .int .i64 t113, .slice Ao17 t114.length co17, .bool t117, .int .i64 t118, .string t119, .string t120, .string (⟨#[]⟩ : ByteArray), .string (⟨#[]⟩ : ByteArray)]) ?_ 12 _ rfl; (with_reducible repeat (first | refine blk_drewN ?_ _ | refine blk_drew ?_ | refine blk_alloc ?_ _)); refine blk_put (cs := #[.string t107, .string t108, .string t109, .string t110, .string t111, .int .i64 t112, .int .i64 t113, .slice Ao17 t114.length co17, .bool t117, .int .i64 t118, .string t119, .string (⟨#[]⟩ : ByteArray), .string (⟨#[]⟩ : ByteArray), .string (⟨#[]⟩ : ByteArray)]) ?_ 11 _ rfl; (with_reducible repeat (first | refine blk_drewN ?_ _ | refine blk_drew ?_ | refine blk_alloc ?_ _)); refine blk_put (cs := #[.string t107, .string t108, .string t109, .string t110, .string t111, .int .i64 t112, .int .i64 t113, .slice Ao17 t114.length co17, .bool t117, .int .i64 t118, .string (⟨#[]⟩ : ByteArray), .string (⟨#[]⟩ : ByteArray), .string (⟨#[]⟩ : ByteArray), .string (⟨#[]⟩ : ByteArray)]) ?_ 10 _ rfl; (with_reducible repeat (first | refine blk_drewN ?_ _ | refine blk_drew ?_ | refine blk_alloc ?_ _)); refine blk_put (cs := #[.string t107, .string t108, .string t109, .string t110, .string t111, .int .i64 t112, .int .i64 t113, .slice Ao17 t114.length co17, .bool t117, .int .i64 0, .string (⟨#[]⟩ : ByteArray), .string (⟨#[]⟩ : ByteArray), .string (⟨#[]⟩ : ByteArray), .string (⟨#[]⟩ : ByteArray)]) ?_ 9 _ rfl; (with_reducible repeat (first | refine blk_drewN ?_ _ | refine blk_drew ?_ | refine blk_alloc ?_ _)); refine blk_put (cs := #[.string t107, .string t108, .string t109, .string t110, .string t111, .int .i64 t112, .int .i64 t113, .slice Ao17 t114.length co17, .bool false, .int .i64 0, .string (⟨#[]⟩ : ByteArray), .string (⟨#[]⟩ : ByteArray), .string (⟨#[]⟩ : ByteArray), .string (⟨#[]⟩ : ByteArray)]) ?_ 8 _ rfl; (with_reducible repeat (first | refine blk_drewN ?_ _ | refine blk_drew ?_ | refine blk_alloc ?_ _)); refine blk_put (cs := #[.string t107, .string t108, .string t109, .string t110, .string t111, .int .i64 t112, .int .i64 t113, .slice none 0 0, .bool false, .int .i64 0, .string (⟨#[]⟩ : ByteArray), .string (⟨#[]⟩ : ByteArray), .string (⟨#[]⟩ : ByteArray), .string (⟨#[]⟩ : ByteArray)]) ?_ 7 _ rfl; (with_reducible repeat (first | refine blk_drewN ?_ _ | refine blk_drew ?_ | refine blk_alloc ?_ _)); refine blk_put (cs := #[.string t107, .string t108, .string t109, .string t110, .string t111, .int .i64 t112, .int .i64 0, .slice none 0 0, .bool false, .int .i64 0, .string (⟨#[]⟩ : ByteArray), .string (⟨#[]⟩ : ByteArray), .string (⟨#[]⟩ : ByteArray), .string (⟨#[]⟩ : ByteArray)]) ?_ 6 _ rfl; (with_reducible repeat (first | refine blk_drewN ?_ _ | refine blk_drew ?_ | refine blk_alloc ?_ _)); refine blk_put (cs := #[.string t107, .string t108, .string t109, .string t110, .string t111, .int .i64 0, .int .i64 0, .slice none 0 0, .bool false, .int .i64 0, .string (⟨#[]⟩ : ByteArray), .string (⟨#[]⟩ : ByteArray), .string (⟨#[]⟩ : ByteArray), .string (⟨#[]⟩ : ByteArray)]) ?_ 5 _ rfl; (with_reducible repeat (first | refine blk_drewN ?_ _ | refine blk_drew ?_ | refine blk_alloc ?_ _)); refine blk_put (cs := #[.string t107, .string t108, .string t109, .string t110, .string (⟨#[]⟩ : ByteArray), .int .i64 0, .int .i64 0, .slice none 0 0, .bool false, .int .i64 0, .string (⟨#[]⟩ : ByteArray), .string (⟨#[]⟩ : ByteArray), .string (⟨#[]⟩ : ByteArray), .string (⟨#[]⟩ : ByteArray)]) ?_ 4 _ rfl; (with_reducible repeat (first | refine blk_drewN ?_ _ | refine blk_drew ?_ | refine blk_alloc ?_ _)); refine blk_put (cs := #[.string t107, .string t108, .string t109, .string (⟨#[]⟩ : ByteArray), .string (⟨#[]⟩ : ByteArray), .int .i64 0, .int .i64 0, .slice none 0 0, .bool false, .int .i64 0, .string (⟨#[]⟩ : ByteArray), .string (⟨#[]⟩ : ByteArray), .string (⟨#[]⟩ : ByteArray), .string (⟨#[]⟩ : ByteArray)]) ?_ 3 _ rfl; (with_reducible repeat (first | refine blk_drewN ?_ _ | refine blk_drew ?_ | refine blk_alloc ?_ _)); refine blk_put (cs := #[.string t107, .string t108, .string (⟨#[]⟩ : ByteArray), .string (⟨#[]⟩ : ByteArray), .string (⟨#[]⟩ : ByteArray), .int .i64 0, .int .i64 0, .slice none 0 0, .bool false, .int .i64 0, .string (⟨#[]⟩ : ByteArray), .string (⟨#[]⟩ : ByteArray), .string (⟨#[]⟩ : ByteArray), .string (⟨#[]⟩ : ByteArray)]) ?_ 2 _ rfl; (with_reducible repeat (first | refine blk_drewN ?_ _ | refine blk_drew ?_ | refine blk_alloc ?_ _)); refine blk_put (cs := #[.string t107, .string (⟨#[]⟩ : ByteArray), .string (⟨#[]⟩ : ByteArray), .string (⟨#[]⟩ : ByteArray), .string (⟨#[]⟩ : ByteArray), .int .i64 0, .int .i64 0, .slice none 0 0, .bool false, .int .i64 0, .string (⟨#[]⟩ : ByteArray), .string (⟨#[]⟩ : ByteArray), .string (⟨#[]⟩ : ByteArray), .string (⟨#[]⟩ : ByteArray)]) ?_ 1 _ rfl; (with_reducible repeat (first | refine blk_drewN ?_ _ | refine blk_drew ?_ | refine blk_alloc ?_ _)); refine blk_put (cs := #[.string (⟨#[]⟩ : ByteArray), .string (⟨#[]⟩ : ByteArray), .string (⟨#[]⟩ : ByteArray), .string (⟨#[]⟩ : ByteArray), .string (⟨#[]⟩ : ByteArray), .int .i64 0, .int .i64 0, .slice none 0 0, .bool false, .int .i64 0, .string (⟨#[]⟩ : ByteArray), .string (⟨#[]⟩ : ByteArray), .string (⟨#[]⟩ : ByteArray), .string (⟨#[]⟩ : ByteArray)]) ?_ 0 _ rfl; (with_reducible repeat (first | refine blk_drewN ?_ _ | refine blk_drew ?_ | refine blk_alloc ?_ _)); exact BK123.out⟩, ⟨by repeat (first | (with_reducible first | exact HB.out | apply below_alloc | apply pw_below_drewN | apply below_drew1 | refine below_set ?_ GE104.out | refine below_set ?_ GE123.out) | exact HB.out)⟩⟩
      case round =>
        clear H'
        try clear c1
        try clear p2
        try clear c3
        try clear c5
        try clear c15
        try clear hcz10_0
        try clear hcz10_1
        try clear hcz12_0
        try clear hcz12_1
        try clear hcz16_0
        try clear hcz16_1
        try clear hcz16_10
        try clear hcz16_11
        try clear hcz16_12
        try clear hcz16_13
        try clear hcz16_2
        try clear hcz16_3
        try clear hcz16_4
        try clear hcz16_5
        try clear hcz16_6
        try clear hcz16_7
        try clear hcz16_8
        try clear hcz16_9
        try clear hcz8_0
        try clear hcz8_1
        try clear hfz10_0
        try clear hfz10_1
        try clear hfz12_0
        try clear hfz12_1
        try clear hfz16_0
        try clear hfz16_1
        try clear hfz16_10
        try clear hfz16_11
        try clear hfz16_12
        try clear hfz16_13
        try clear hfz16_2
        try clear hfz16_3
        try clear hfz16_4
        try clear hfz16_5
        try clear hfz16_6
        try clear hfz16_7
        try clear hfz16_8
        try clear hfz16_9
        try clear hfz8_0
        try clear hfz8_1
        obtain ⟨x4_1, x5_1, rfl, rfl, HA, HK1, HO_124007, BK104, BK123, HB⟩ := hrel
        cases gk with
        | zero => exact absurd HA.out (by simp [laws_FnAroundParts.l0])
        | succ k1 =>
          have H := HA.out
          clear HA
          simp only [laws_FnAroundParts.l0] at H
          by_cases c18 : x5_1 < (t114.length : Int)
          · rw [if_pos c18] at H
            have c18b0 : decide (x5_1 < (t114.length : Int)) = true := decide_eq_true c18
            clear c18
            by_cases c19 : x5_1 > 0
            · rw [if_pos c19] at H
              have c19b0 : decide (0 < x5_1) = true := decide_eq_true c19
              clear c19
              by_cases c20 : x4_1.size + 1 ≤ 9223372036854775807
              · rw [if_pos c20] at H
                have c20b0 := eq_true c20
                have c20b1 : decide (x4_1.size + 1 ≤ 9223372036854775807) = true := decide_eq_true c20
                try have c20b2 : (9223372036854775807 < x4_1.size + 1) = False := eq_false (Nat.not_lt.2 c20)
                by_cases c21 : 0 ≤ x5_1
                · rw [if_pos c21] at H
                  have c21b0 : decide (0 ≤ x5_1) = true := decide_eq_true c21
                  clear c21
                  by_cases c22 : (x4_1 ++ (⟨#[10]⟩ : ByteArray)).size + (rdOf ByteArray.empty t114 x5_1).size ≤ 9223372036854775807
                  · rw [if_pos c22] at H
                    have c22b0 := eq_true c22
                    have c22b1 : decide ((x4_1 ++ (⟨#[10]⟩ : ByteArray)).size + (rdOf ByteArray.empty t114 x5_1).size ≤ 9223372036854775807) = true := decide_eq_true c22
                    try have c22b2 : (9223372036854775807 < (x4_1 ++ (⟨#[10]⟩ : ByteArray)).size + (rdOf ByteArray.empty t114 x5_1).size) = False := eq_false (Nat.not_lt.2 c22)
                    have H' := Aside0.mk H
                    clear H
                    have hnb23 := NB123_104.out
                    have hnc23 := NB104_123.out
                    have hcz24_0 : wr.cell? ⟨gb123, 0, none⟩ = some (.string t107) := (blk_cell BK123.out 0).trans rfl
                    have hcz24_1 : wr.cell? ⟨gb123, 1, none⟩ = some (.string t108) := (blk_cell BK123.out 1).trans rfl
                    have hcz24_2 : wr.cell? ⟨gb123, 2, none⟩ = some (.string t109) := (blk_cell BK123.out 2).trans rfl
                    have hcz24_3 : wr.cell? ⟨gb123, 3, none⟩ = some (.string t110) := (blk_cell BK123.out 3).trans rfl
                    have hcz24_4 : wr.cell? ⟨gb123, 4, none⟩ = some (.string t111) := (blk_cell BK123.out 4).trans rfl
                    have hcz24_5 : wr.cell? ⟨gb123, 5, none⟩ = some (.int .i64 t112) := (blk_cell BK123.out 5).trans rfl
                    have hcz24_6 : wr.cell? ⟨gb123, 6, none⟩ = some (.int .i64 t113) := (blk_cell BK123.out 6).trans rfl
                    have hcz24_7 : wr.cell? ⟨gb123, 7, none⟩ = some (.slice Ao17 t114.length co17) := (blk_cell BK123.out 7).trans rfl
                    have hcz24_8 : wr.cell? ⟨gb123, 8, none⟩ = some (.bool t117) := (blk_cell BK123.out 8).trans rfl
                    have hcz24_9 : wr.cell? ⟨gb123, 9, none⟩ = some (.int .i64 t118) := (blk_cell BK123.out 9).trans rfl
                    have hcz24_10 : wr.cell? ⟨gb123, 10, none⟩ = some (.string t119) := (blk_cell BK123.out 10).trans rfl
                    have hcz24_11 : wr.cell? ⟨gb123, 11, none⟩ = some (.string t120) := (blk_cell BK123.out 11).trans rfl
                    have hcz24_12 : wr.cell? ⟨gb123, 12, none⟩ = some (.string t121) := (blk_cell BK123.out 12).trans rfl
                    have hcz24_13 : wr.cell? ⟨gb123, 13, none⟩ = some (.string t122) := (blk_cell BK123.out 13).trans rfl
                    have hfz24_0 := blk_frozen BK123.out 0
                    have hfz24_1 := blk_frozen BK123.out 1
                    have hfz24_2 := blk_frozen BK123.out 2
                    have hfz24_3 := blk_frozen BK123.out 3
                    have hfz24_4 := blk_frozen BK123.out 4
                    have hfz24_5 := blk_frozen BK123.out 5
                    have hfz24_6 := blk_frozen BK123.out 6
                    have hfz24_7 := blk_frozen BK123.out 7
                    have hfz24_8 := blk_frozen BK123.out 8
                    have hfz24_9 := blk_frozen BK123.out 9
                    have hfz24_10 := blk_frozen BK123.out 10
                    have hfz24_11 := blk_frozen BK123.out 11
                    have hfz24_12 := blk_frozen BK123.out 12
                    have hfz24_13 := blk_frozen BK123.out 13
                    have p124 : 0 ≤ (x5_1 : Int) := of_decide_eq_true (by first | (with_reducible assumption) | assumption)
                    have q124 : x5_1 < (t114.length : Int) := of_decide_eq_true (by first | (with_reducible assumption) | assumption)
                    obtain ⟨ad124, e124, hx124_0⟩ := Kd.at_string (Kd.R_reads' HO_124007.out).2.2 x5_1 p124 q124
                    cases e124
                    replace p124 := eq_true p124
                    replace q124 := eq_true q124
                    go_wp2
                    repeat (go_quiet (fail); try go_wp2)
                    go_roundg k1
                    case measure => have := HK1.out; omega
                    case rel => exact ⟨((x4_1 ++ (⟨#[10]⟩ : ByteArray)) ++ (rdOf ByteArray.empty t114 x5_1)), (wrap64 (x5_1 + 1)), (by first | rfl | (simp; done) | (simp [*]; done)), (by first | rfl | (simp; done) | (simp [*]; done)), H', ⟨by have := HK1.out; omega⟩, ⟨by (with_reducible repeat (first | apply Kd.R_alloc | apply Kd.R_drewN | apply Kd.R_drew)); exact HO_124007.out⟩, ⟨by (with_reducible repeat (first | refine blk_drewN ?_ _ | refine blk_drew ?_ | refine blk_alloc ?_ _)); exact BK104.out⟩, ⟨by (with_reducible repeat (first | refine blk_drewN ?_ _ | refine blk_drew ?_ | refine blk_alloc ?_ _)); exact BK123.out⟩, ⟨by repeat (first | (with_reducible first | exact HB.out | apply below_alloc | apply pw_below_drewN | apply below_drew1 | refine below_set ?_ GE104.out | refine below_set ?_ GE123.out) | exact HB.out)⟩⟩
                  · rw [if_neg c22] at H
                    exact absurd H (by simp)
                · rw [if_neg c21] at H
                  exact absurd H (by simp)
              · rw [if_neg c20] at H
                exact absurd H (by simp)
            · rw [if_neg c19] at H
              have c19b0 : decide (0 < x5_1) = false := decide_eq_false c19
              clear c19
              by_cases c25 : 0 ≤ x5_1
              · rw [if_pos c25] at H
                have c25b0 : decide (0 ≤ x5_1) = true := decide_eq_true c25
                clear c25
                by_cases c26 : x4_1.size + (rdOf ByteArray.empty t114 x5_1).size ≤ 9223372036854775807
                · rw [if_pos c26] at H
                  have c26b0 := eq_true c26
                  have c26b1 : decide (x4_1.size + (rdOf ByteArray.empty t114 x5_1).size ≤ 9223372036854775807) = true := decide_eq_true c26
                  try have c26b2 : (9223372036854775807 < x4_1.size + (rdOf ByteArray.empty t114 x5_1).size) = False := eq_false (Nat.not_lt.2 c26)
                  have H' := Aside0.mk H
                  clear H
                  have hnb27 := NB123_104.out
                  have hnc27 := NB104_123.out
                  have hcz28_0 : wr.cell? ⟨gb123, 0, none⟩ = some (.string t107) := (blk_cell BK123.out 0).trans rfl
                  have hcz28_1 : wr.cell? ⟨gb123, 1, none⟩ = some (.string t108) := (blk_cell BK123.out 1).trans rfl
                  have hcz28_2 : wr.cell? ⟨gb123, 2, none⟩ = some (.string t109) := (blk_cell BK123.out 2).trans rfl
                  have hcz28_3 : wr.cell? ⟨gb123, 3, none⟩ = some (.string t110) := (blk_cell BK123.out 3).trans rfl
                  have hcz28_4 : wr.cell? ⟨gb123, 4, none⟩ = some (.string t111) := (blk_cell BK123.out 4).trans rfl
                  have hcz28_5 : wr.cell? ⟨gb123, 5, none⟩ = some (.int .i64 t112) := (blk_cell BK123.out 5).trans rfl
                  have hcz28_6 : wr.cell? ⟨gb123, 6, none⟩ = some (.int .i64 t113) := (blk_cell BK123.out 6).trans rfl
                  have hcz28_7 : wr.cell? ⟨gb123, 7, none⟩ = some (.slice Ao17 t114.length co17) := (blk_cell BK123.out 7).trans rfl
                  have hcz28_8 : wr.cell? ⟨gb123, 8, none⟩ = some (.bool t117) := (blk_cell BK123.out 8).trans rfl
                  have hcz28_9 : wr.cell? ⟨gb123, 9, none⟩ = some (.int .i64 t118) := (blk_cell BK123.out 9).trans rfl
                  have hcz28_10 : wr.cell? ⟨gb123, 10, none⟩ = some (.string t119) := (blk_cell BK123.out 10).trans rfl
                  have hcz28_11 : wr.cell? ⟨gb123, 11, none⟩ = some (.string t120) := (blk_cell BK123.out 11).trans rfl
                  have hcz28_12 : wr.cell? ⟨gb123, 12, none⟩ = some (.string t121) := (blk_cell BK123.out 12).trans rfl
                  have hcz28_13 : wr.cell? ⟨gb123, 13, none⟩ = some (.string t122) := (blk_cell BK123.out 13).trans rfl
                  have hfz28_0 := blk_frozen BK123.out 0
                  have hfz28_1 := blk_frozen BK123.out 1
                  have hfz28_2 := blk_frozen BK123.out 2
                  have hfz28_3 := blk_frozen BK123.out 3
                  have hfz28_4 := blk_frozen BK123.out 4
                  have hfz28_5 := blk_frozen BK123.out 5
                  have hfz28_6 := blk_frozen BK123.out 6
                  have hfz28_7 := blk_frozen BK123.out 7
                  have hfz28_8 := blk_frozen BK123.out 8
                  have hfz28_9 := blk_frozen BK123.out 9
                  have hfz28_10 := blk_frozen BK123.out 10
                  have hfz28_11 := blk_frozen BK123.out 11
                  have hfz28_12 := blk_frozen BK123.out 12
                  have hfz28_13 := blk_frozen BK123.out 13
                  have p125 : 0 ≤ (x5_1 : Int) := of_decide_eq_true (by first | (with_reducible assumption) | assumption)
                  have q125 : x5_1 < (t114.length : Int) := of_decide_eq_true (by first | (with_reducible assumption) | assumption)
                  obtain ⟨ad125, e125, hx125_0⟩ := Kd.at_string (Kd.R_reads' HO_124007.out).2.2 x5_1 p125 q125
                  cases e125
                  replace p125 := eq_true p125
                  replace q125 := eq_true q125
                  go_wp2
                  repeat (go_quiet (fail); try go_wp2)
                  go_roundg k1
                  case measure => have := HK1.out; omega
                  case rel => exact ⟨(x4_1 ++ (rdOf ByteArray.empty t114 x5_1)), (wrap64 (x5_1 + 1)), (by first | rfl | (simp; done) | (simp [*]; done)), (by first | rfl | (simp; done) | (simp [*]; done)), H', ⟨by have := HK1.out; omega⟩, ⟨by (with_reducible repeat (first | apply Kd.R_alloc | apply Kd.R_drewN | apply Kd.R_drew)); exact HO_124007.out⟩, ⟨by (with_reducible repeat (first | refine blk_drewN ?_ _ | refine blk_drew ?_ | refine blk_alloc ?_ _)); exact BK104.out⟩, ⟨by (with_reducible repeat (first | refine blk_drewN ?_ _ | refine blk_drew ?_ | refine blk_alloc ?_ _)); exact BK123.out⟩, ⟨by repeat (first | (with_reducible first | exact HB.out | apply below_alloc | apply pw_below_drewN | apply below_drew1 | refine below_set ?_ GE104.out | refine below_set ?_ GE123.out) | exact HB.out)⟩⟩
                · rw [if_neg c26] at H
                  exact absurd H (by simp)
              · rw [if_neg c25] at H
                exact absurd H (by simp)
          · rw [if_neg c18] at H
            have c18b0 : decide (x5_1 < (t114.length : Int)) = false := decide_eq_false c18
            clear c18
            by_cases c29 : t107.size + t108.size ≤ 9223372036854775807
            · rw [if_pos c29] at H
              have c29b0 := eq_true c29
              have c29b1 : decide (t107.size + t108.size ≤ 9223372036854775807) = true := decide_eq_true c29
              try have c29b2 : (9223372036854775807 < t107.size + t108.size) = False := eq_false (Nat.not_lt.2 c29)
              by_cases c30 : (t107 ++ t108).toList = a0_0.toList
              · rw [if_pos c30] at H
                have c30b0 : ((t107 ++ t108).toList == a0_0.toList) = true := beq_iff_eq.mpr c30
                have c30b1 : ((t107 ++ t108).toList != a0_0.toList) = false := bne_eq_false_iff_eq.mpr c30
                clear c30
                by_cases c31 : t109.size + t110.size ≤ 9223372036854775807
                · rw [if_pos c31] at H
                  have c31b0 := eq_true c31
                  have c31b1 : decide (t109.size + t110.size ≤ 9223372036854775807) = true := decide_eq_true c31
                  try have c31b2 : (9223372036854775807 < t109.size + t110.size) = False := eq_false (Nat.not_lt.2 c31)
                  by_cases c32 : (t109 ++ t110).toList = t111.toList
                  · rw [if_pos c32] at H
                    have c32b0 : ((t109 ++ t110).toList == t111.toList) = true := beq_iff_eq.mpr c32
                    have c32b1 : ((t109 ++ t110).toList != t111.toList) = false := bne_eq_false_iff_eq.mpr c32
                    clear c32
                    by_cases c33 : x4_1.toList = a0_0.toList
                    · rw [if_pos c33] at H
                      have c33b0 : (x4_1.toList == a0_0.toList) = true := beq_iff_eq.mpr c33
                      have c33b1 : (x4_1.toList != a0_0.toList) = false := bne_eq_false_iff_eq.mpr c33
                      clear c33
                      by_cases c34 : t112 ≥ 0
                      · rw [if_pos c34] at H
                        have c34b0 : decide (0 ≤ t112) = true := decide_eq_true c34
                        clear c34
                        by_cases c35 : t112 < (t114.length : Int)
                        · rw [if_pos c35] at H
                          have c35b0 : decide (t112 < (t114.length : Int)) = true := decide_eq_true c35
                          clear c35
                          by_cases c36 : 0 ≤ t112
                          · rw [if_pos c36] at H
                            have c36b0 : decide (0 ≤ t112) = true := decide_eq_true c36
                            clear c36
                            obtain rfl := Option.some.inj H
                            have hnb37 := NB123_104.out
                            have hnc37 := NB104_123.out
                            have hcz38_0 : wr.cell? ⟨gb123, 0, none⟩ = some (.string t107) := (blk_cell BK123.out 0).trans rfl
                            have hcz38_1 : wr.cell? ⟨gb123, 1, none⟩ = some (.string t108) := (blk_cell BK123.out 1).trans rfl
                            have hcz38_2 : wr.cell? ⟨gb123, 2, none⟩ = some (.string t109) := (blk_cell BK123.out 2).trans rfl
                            have hcz38_3 : wr.cell? ⟨gb123, 3, none⟩ = some (.string t110) := (blk_cell BK123.out 3).trans rfl
                            have hcz38_4 : wr.cell? ⟨gb123, 4, none⟩ = some (.string t111) := (blk_cell BK123.out 4).trans rfl
                            have hcz38_5 : wr.cell? ⟨gb123, 5, none⟩ = some (.int .i64 t112) := (blk_cell BK123.out 5).trans rfl
                            have hcz38_6 : wr.cell? ⟨gb123, 6, none⟩ = some (.int .i64 t113) := (blk_cell BK123.out 6).trans rfl
                            have hcz38_7 : wr.cell? ⟨gb123, 7, none⟩ = some (.slice Ao17 t114.length co17) := (blk_cell BK123.out 7).trans rfl
                            have hcz38_8 : wr.cell? ⟨gb123, 8, none⟩ = some (.bool t117) := (blk_cell BK123.out 8).trans rfl
                            have hcz38_9 : wr.cell? ⟨gb123, 9, none⟩ = some (.int .i64 t118) := (blk_cell BK123.out 9).trans rfl
                            have hcz38_10 : wr.cell? ⟨gb123, 10, none⟩ = some (.string t119) := (blk_cell BK123.out 10).trans rfl
                            have hcz38_11 : wr.cell? ⟨gb123, 11, none⟩ = some (.string t120) := (blk_cell BK123.out 11).trans rfl
                            have hcz38_12 : wr.cell? ⟨gb123, 12, none⟩ = some (.string t121) := (blk_cell BK123.out 12).trans rfl
                            have hcz38_13 : wr.cell? ⟨gb123, 13, none⟩ = some (.string t122) := (blk_cell BK123.out 13).trans rfl
                            have hfz38_0 := blk_frozen BK123.out 0
                            have hfz38_1 := blk_frozen BK123.out 1
                            have hfz38_2 := blk_frozen BK123.out 2
                            have hfz38_3 := blk_frozen BK123.out 3
                            have hfz38_4 := blk_frozen BK123.out 4
                            have hfz38_5 := blk_frozen BK123.out 5
                            have hfz38_6 := blk_frozen BK123.out 6
                            have hfz38_7 := blk_frozen BK123.out 7
                            have hfz38_8 := blk_frozen BK123.out 8
                            have hfz38_9 := blk_frozen BK123.out 9
                            have hfz38_10 := blk_frozen BK123.out 10
                            have hfz38_11 := blk_frozen BK123.out 11
                            have hfz38_12 := blk_frozen BK123.out 12
                            have hfz38_13 := blk_frozen BK123.out 13
                            have hcz39_0 : wr.cell? ⟨gb104, 0, none⟩ = some (.string a0_0) := (blk_cell BK104.out 0).trans rfl
                            have hcz39_1 : wr.cell? ⟨gb104, 1, none⟩ = some (.int .i64 a0_1) := (blk_cell BK104.out 1).trans rfl
                            have hfz39_0 := blk_frozen BK104.out 0
                            have hfz39_1 := blk_frozen BK104.out 1
                            have p126 : 0 ≤ (t112 : Int) := of_decide_eq_true (by first | (with_reducible assumption) | assumption)
                            have q126 : t112 < (t114.length : Int) := of_decide_eq_true (by first | (with_reducible assumption) | assumption)
                            obtain ⟨ad126, e126, hx126_0⟩ := Kd.at_string (Kd.R_reads' HO_124007.out).2.2 t112 p126 q126
                            cases e126
                            replace p126 := eq_true p126
                            replace q126 := eq_true q126
                            go_wp2
                            repeat (go_quiet (fail); try go_wp2)
                            go_ret
                            exact ⟨by first | rfl | (simp [errW_none, errW_some] <;> rfl) | (simp [*, errW_none, errW_some] <;> rfl), by repeat (first | (with_reducible first | exact HB.out | apply below_alloc | apply pw_below_drewN | apply below_drew1 | refine below_set ?_ GE104.out | refine below_set ?_ GE123.out) | exact HB.out)⟩
                          · rw [if_neg c36] at H
                            exact absurd H (by simp)
                        · rw [if_neg c35] at H
                          have c35b0 : decide (t112 < (t114.length : Int)) = false := decide_eq_false c35
                          clear c35
                          obtain rfl := Option.some.inj H
                          have hnb40 := NB123_104.out
                          have hnc40 := NB104_123.out
                          have hcz41_0 : wr.cell? ⟨gb123, 0, none⟩ = some (.string t107) := (blk_cell BK123.out 0).trans rfl
                          have hcz41_1 : wr.cell? ⟨gb123, 1, none⟩ = some (.string t108) := (blk_cell BK123.out 1).trans rfl
                          have hcz41_2 : wr.cell? ⟨gb123, 2, none⟩ = some (.string t109) := (blk_cell BK123.out 2).trans rfl
                          have hcz41_3 : wr.cell? ⟨gb123, 3, none⟩ = some (.string t110) := (blk_cell BK123.out 3).trans rfl
                          have hcz41_4 : wr.cell? ⟨gb123, 4, none⟩ = some (.string t111) := (blk_cell BK123.out 4).trans rfl
                          have hcz41_5 : wr.cell? ⟨gb123, 5, none⟩ = some (.int .i64 t112) := (blk_cell BK123.out 5).trans rfl
                          have hcz41_6 : wr.cell? ⟨gb123, 6, none⟩ = some (.int .i64 t113) := (blk_cell BK123.out 6).trans rfl
                          have hcz41_7 : wr.cell? ⟨gb123, 7, none⟩ = some (.slice Ao17 t114.length co17) := (blk_cell BK123.out 7).trans rfl
                          have hcz41_8 : wr.cell? ⟨gb123, 8, none⟩ = some (.bool t117) := (blk_cell BK123.out 8).trans rfl
                          have hcz41_9 : wr.cell? ⟨gb123, 9, none⟩ = some (.int .i64 t118) := (blk_cell BK123.out 9).trans rfl
                          have hcz41_10 : wr.cell? ⟨gb123, 10, none⟩ = some (.string t119) := (blk_cell BK123.out 10).trans rfl
                          have hcz41_11 : wr.cell? ⟨gb123, 11, none⟩ = some (.string t120) := (blk_cell BK123.out 11).trans rfl
                          have hcz41_12 : wr.cell? ⟨gb123, 12, none⟩ = some (.string t121) := (blk_cell BK123.out 12).trans rfl
                          have hcz41_13 : wr.cell? ⟨gb123, 13, none⟩ = some (.string t122) := (blk_cell BK123.out 13).trans rfl
                          have hfz41_0 := blk_frozen BK123.out 0
                          have hfz41_1 := blk_frozen BK123.out 1
                          have hfz41_2 := blk_frozen BK123.out 2
                          have hfz41_3 := blk_frozen BK123.out 3
                          have hfz41_4 := blk_frozen BK123.out 4
                          have hfz41_5 := blk_frozen BK123.out 5
                          have hfz41_6 := blk_frozen BK123.out 6
                          have hfz41_7 := blk_frozen BK123.out 7
                          have hfz41_8 := blk_frozen BK123.out 8
                          have hfz41_9 := blk_frozen BK123.out 9
                          have hfz41_10 := blk_frozen BK123.out 10
                          have hfz41_11 := blk_frozen BK123.out 11
                          have hfz41_12 := blk_frozen BK123.out 12
                          have hfz41_13 := blk_frozen BK123.out 13
                          have hcz42_0 : wr.cell? ⟨gb104, 0, none⟩ = some (.string a0_0) := (blk_cell BK104.out 0).trans rfl
                          have hcz42_1 : wr.cell? ⟨gb104, 1, none⟩ = some (.int .i64 a0_1) := (blk_cell BK104.out 1).trans rfl
                          have hfz42_0 := blk_frozen BK104.out 0
                          have hfz42_1 := blk_frozen BK104.out 1
                          go_wp2
                          repeat (go_quiet (fail); try go_wp2)
                          go_ret
                          exact ⟨by first | rfl | (simp [errW_none, errW_some] <;> rfl) | (simp [*, errW_none, errW_some] <;> rfl), by repeat (first | (with_reducible first | exact HB.out | apply below_alloc | apply pw_below_drewN | apply below_drew1 | refine below_set ?_ GE104.out | refine below_set ?_ GE123.out) | exact HB.out)⟩
                      · rw [if_neg c34] at H
                        have c34b0 : decide (0 ≤ t112) = false := decide_eq_false c34
                        clear c34
                        obtain rfl := Option.some.inj H
                        have hnb43 := NB123_104.out
                        have hnc43 := NB104_123.out
                        have hcz44_0 : wr.cell? ⟨gb123, 0, none⟩ = some (.string t107) := (blk_cell BK123.out 0).trans rfl
                        have hcz44_1 : wr.cell? ⟨gb123, 1, none⟩ = some (.string t108) := (blk_cell BK123.out 1).trans rfl
                        have hcz44_2 : wr.cell? ⟨gb123, 2, none⟩ = some (.string t109) := (blk_cell BK123.out 2).trans rfl
                        have hcz44_3 : wr.cell? ⟨gb123, 3, none⟩ = some (.string t110) := (blk_cell BK123.out 3).trans rfl
                        have hcz44_4 : wr.cell? ⟨gb123, 4, none⟩ = some (.string t111) := (blk_cell BK123.out 4).trans rfl
                        have hcz44_5 : wr.cell? ⟨gb123, 5, none⟩ = some (.int .i64 t112) := (blk_cell BK123.out 5).trans rfl
                        have hcz44_6 : wr.cell? ⟨gb123, 6, none⟩ = some (.int .i64 t113) := (blk_cell BK123.out 6).trans rfl
                        have hcz44_7 : wr.cell? ⟨gb123, 7, none⟩ = some (.slice Ao17 t114.length co17) := (blk_cell BK123.out 7).trans rfl
                        have hcz44_8 : wr.cell? ⟨gb123, 8, none⟩ = some (.bool t117) := (blk_cell BK123.out 8).trans rfl
                        have hcz44_9 : wr.cell? ⟨gb123, 9, none⟩ = some (.int .i64 t118) := (blk_cell BK123.out 9).trans rfl
                        have hcz44_10 : wr.cell? ⟨gb123, 10, none⟩ = some (.string t119) := (blk_cell BK123.out 10).trans rfl
                        have hcz44_11 : wr.cell? ⟨gb123, 11, none⟩ = some (.string t120) := (blk_cell BK123.out 11).trans rfl
                        have hcz44_12 : wr.cell? ⟨gb123, 12, none⟩ = some (.string t121) := (blk_cell BK123.out 12).trans rfl
                        have hcz44_13 : wr.cell? ⟨gb123, 13, none⟩ = some (.string t122) := (blk_cell BK123.out 13).trans rfl
                        have hfz44_0 := blk_frozen BK123.out 0
                        have hfz44_1 := blk_frozen BK123.out 1
                        have hfz44_2 := blk_frozen BK123.out 2
                        have hfz44_3 := blk_frozen BK123.out 3
                        have hfz44_4 := blk_frozen BK123.out 4
                        have hfz44_5 := blk_frozen BK123.out 5
                        have hfz44_6 := blk_frozen BK123.out 6
                        have hfz44_7 := blk_frozen BK123.out 7
                        have hfz44_8 := blk_frozen BK123.out 8
                        have hfz44_9 := blk_frozen BK123.out 9
                        have hfz44_10 := blk_frozen BK123.out 10
                        have hfz44_11 := blk_frozen BK123.out 11
                        have hfz44_12 := blk_frozen BK123.out 12
                        have hfz44_13 := blk_frozen BK123.out 13
                        have hcz45_0 : wr.cell? ⟨gb104, 0, none⟩ = some (.string a0_0) := (blk_cell BK104.out 0).trans rfl
                        have hcz45_1 : wr.cell? ⟨gb104, 1, none⟩ = some (.int .i64 a0_1) := (blk_cell BK104.out 1).trans rfl
                        have hfz45_0 := blk_frozen BK104.out 0
                        have hfz45_1 := blk_frozen BK104.out 1
                        go_wp2
                        repeat (go_quiet (fail); try go_wp2)
                        go_ret
                        exact ⟨by first | rfl | (simp [errW_none, errW_some] <;> rfl) | (simp [*, errW_none, errW_some] <;> rfl), by repeat (first | (with_reducible first | exact HB.out | apply below_alloc | apply pw_below_drewN | apply below_drew1 | refine below_set ?_ GE104.out | refine below_set ?_ GE123.out) | exact HB.out)⟩
                    · rw [if_neg c33] at H
                      have c33b0 : (x4_1.toList == a0_0.toList) = false := beq_eq_false_iff_ne.mpr c33
                      have c33b1 : (x4_1.toList != a0_0.toList) = true := bne_iff_ne.mpr c33
                      obtain rfl := Option.some.inj H
                      have hnb46 := NB123_104.out
                      have hnc46 := NB104_123.out
                      have hcz47_0 : wr.cell? ⟨gb123, 0, none⟩ = some (.string t107) := (blk_cell BK123.out 0).trans rfl
                      have hcz47_1 : wr.cell? ⟨gb123, 1, none⟩ = some (.string t108) := (blk_cell BK123.out 1).trans rfl
                      have hcz47_2 : wr.cell? ⟨gb123, 2, none⟩ = some (.string t109) := (blk_cell BK123.out 2).trans rfl
                      have hcz47_3 : wr.cell? ⟨gb123, 3, none⟩ = some (.string t110) := (blk_cell BK123.out 3).trans rfl
                      have hcz47_4 : wr.cell? ⟨gb123, 4, none⟩ = some (.string t111) := (blk_cell BK123.out 4).trans rfl
                      have hcz47_5 : wr.cell? ⟨gb123, 5, none⟩ = some (.int .i64 t112) := (blk_cell BK123.out 5).trans rfl
                      have hcz47_6 : wr.cell? ⟨gb123, 6, none⟩ = some (.int .i64 t113) := (blk_cell BK123.out 6).trans rfl
                      have hcz47_7 : wr.cell? ⟨gb123, 7, none⟩ = some (.slice Ao17 t114.length co17) := (blk_cell BK123.out 7).trans rfl
                      have hcz47_8 : wr.cell? ⟨gb123, 8, none⟩ = some (.bool t117) := (blk_cell BK123.out 8).trans rfl
                      have hcz47_9 : wr.cell? ⟨gb123, 9, none⟩ = some (.int .i64 t118) := (blk_cell BK123.out 9).trans rfl
                      have hcz47_10 : wr.cell? ⟨gb123, 10, none⟩ = some (.string t119) := (blk_cell BK123.out 10).trans rfl
                      have hcz47_11 : wr.cell? ⟨gb123, 11, none⟩ = some (.string t120) := (blk_cell BK123.out 11).trans rfl
                      have hcz47_12 : wr.cell? ⟨gb123, 12, none⟩ = some (.string t121) := (blk_cell BK123.out 12).trans rfl
                      have hcz47_13 : wr.cell? ⟨gb123, 13, none⟩ = some (.string t122) := (blk_cell BK123.out 13).trans rfl
                      have hfz47_0 := blk_frozen BK123.out 0
                      have hfz47_1 := blk_frozen BK123.out 1
                      have hfz47_2 := blk_frozen BK123.out 2
                      have hfz47_3 := blk_frozen BK123.out 3
                      have hfz47_4 := blk_frozen BK123.out 4
                      have hfz47_5 := blk_frozen BK123.out 5
                      have hfz47_6 := blk_frozen BK123.out 6
                      have hfz47_7 := blk_frozen BK123.out 7
                      have hfz47_8 := blk_frozen BK123.out 8
                      have hfz47_9 := blk_frozen BK123.out 9
                      have hfz47_10 := blk_frozen BK123.out 10
                      have hfz47_11 := blk_frozen BK123.out 11
                      have hfz47_12 := blk_frozen BK123.out 12
                      have hfz47_13 := blk_frozen BK123.out 13
                      have hcz48_0 : wr.cell? ⟨gb104, 0, none⟩ = some (.string a0_0) := (blk_cell BK104.out 0).trans rfl
                      have hcz48_1 : wr.cell? ⟨gb104, 1, none⟩ = some (.int .i64 a0_1) := (blk_cell BK104.out 1).trans rfl
                      have hfz48_0 := blk_frozen BK104.out 0
                      have hfz48_1 := blk_frozen BK104.out 1
                      go_wp2
                      repeat (go_quiet (fail); try go_wp2)
                      go_ret
                      exact ⟨by first | rfl | (simp [errW_none, errW_some] <;> rfl) | (simp [*, errW_none, errW_some] <;> rfl), by repeat (first | (with_reducible first | exact HB.out | apply below_alloc | apply pw_below_drewN | apply below_drew1 | refine below_set ?_ GE104.out | refine below_set ?_ GE123.out) | exact HB.out)⟩
                  · rw [if_neg c32] at H
                    have c32b0 : ((t109 ++ t110).toList == t111.toList) = false := beq_eq_false_iff_ne.mpr c32
                    have c32b1 : ((t109 ++ t110).toList != t111.toList) = true := bne_iff_ne.mpr c32
                    obtain rfl := Option.some.inj H
                    have hnb49 := NB123_104.out
                    have hnc49 := NB104_123.out
                    have hcz50_0 : wr.cell? ⟨gb123, 0, none⟩ = some (.string t107) := (blk_cell BK123.out 0).trans rfl
                    have hcz50_1 : wr.cell? ⟨gb123, 1, none⟩ = some (.string t108) := (blk_cell BK123.out 1).trans rfl
                    have hcz50_2 : wr.cell? ⟨gb123, 2, none⟩ = some (.string t109) := (blk_cell BK123.out 2).trans rfl
                    have hcz50_3 : wr.cell? ⟨gb123, 3, none⟩ = some (.string t110) := (blk_cell BK123.out 3).trans rfl
                    have hcz50_4 : wr.cell? ⟨gb123, 4, none⟩ = some (.string t111) := (blk_cell BK123.out 4).trans rfl
                    have hcz50_5 : wr.cell? ⟨gb123, 5, none⟩ = some (.int .i64 t112) := (blk_cell BK123.out 5).trans rfl
                    have hcz50_6 : wr.cell? ⟨gb123, 6, none⟩ = some (.int .i64 t113) := (blk_cell BK123.out 6).trans rfl
                    have hcz50_7 : wr.cell? ⟨gb123, 7, none⟩ = some (.slice Ao17 t114.length co17) := (blk_cell BK123.out 7).trans rfl
                    have hcz50_8 : wr.cell? ⟨gb123, 8, none⟩ = some (.bool t117) := (blk_cell BK123.out 8).trans rfl
                    have hcz50_9 : wr.cell? ⟨gb123, 9, none⟩ = some (.int .i64 t118) := (blk_cell BK123.out 9).trans rfl
                    have hcz50_10 : wr.cell? ⟨gb123, 10, none⟩ = some (.string t119) := (blk_cell BK123.out 10).trans rfl
                    have hcz50_11 : wr.cell? ⟨gb123, 11, none⟩ = some (.string t120) := (blk_cell BK123.out 11).trans rfl
                    have hcz50_12 : wr.cell? ⟨gb123, 12, none⟩ = some (.string t121) := (blk_cell BK123.out 12).trans rfl
                    have hcz50_13 : wr.cell? ⟨gb123, 13, none⟩ = some (.string t122) := (blk_cell BK123.out 13).trans rfl
                    have hfz50_0 := blk_frozen BK123.out 0
                    have hfz50_1 := blk_frozen BK123.out 1
                    have hfz50_2 := blk_frozen BK123.out 2
                    have hfz50_3 := blk_frozen BK123.out 3
                    have hfz50_4 := blk_frozen BK123.out 4
                    have hfz50_5 := blk_frozen BK123.out 5
                    have hfz50_6 := blk_frozen BK123.out 6
                    have hfz50_7 := blk_frozen BK123.out 7
                    have hfz50_8 := blk_frozen BK123.out 8
                    have hfz50_9 := blk_frozen BK123.out 9
                    have hfz50_10 := blk_frozen BK123.out 10
                    have hfz50_11 := blk_frozen BK123.out 11
                    have hfz50_12 := blk_frozen BK123.out 12
                    have hfz50_13 := blk_frozen BK123.out 13
                    have hcz51_0 : wr.cell? ⟨gb104, 0, none⟩ = some (.string a0_0) := (blk_cell BK104.out 0).trans rfl
                    have hcz51_1 : wr.cell? ⟨gb104, 1, none⟩ = some (.int .i64 a0_1) := (blk_cell BK104.out 1).trans rfl
                    have hfz51_0 := blk_frozen BK104.out 0
                    have hfz51_1 := blk_frozen BK104.out 1
                    go_wp2
                    repeat (go_quiet (fail); try go_wp2)
                    go_ret
                    exact ⟨by first | rfl | (simp [errW_none, errW_some] <;> rfl) | (simp [*, errW_none, errW_some] <;> rfl), by repeat (first | (with_reducible first | exact HB.out | apply below_alloc | apply pw_below_drewN | apply below_drew1 | refine below_set ?_ GE104.out | refine below_set ?_ GE123.out) | exact HB.out)⟩
                · rw [if_neg c31] at H
                  exact absurd H (by simp)
              · rw [if_neg c30] at H
                have c30b0 : ((t107 ++ t108).toList == a0_0.toList) = false := beq_eq_false_iff_ne.mpr c30
                have c30b1 : ((t107 ++ t108).toList != a0_0.toList) = true := bne_iff_ne.mpr c30
                obtain rfl := Option.some.inj H
                have hnb52 := NB123_104.out
                have hnc52 := NB104_123.out
                have hcz53_0 : wr.cell? ⟨gb123, 0, none⟩ = some (.string t107) := (blk_cell BK123.out 0).trans rfl
                have hcz53_1 : wr.cell? ⟨gb123, 1, none⟩ = some (.string t108) := (blk_cell BK123.out 1).trans rfl
                have hcz53_2 : wr.cell? ⟨gb123, 2, none⟩ = some (.string t109) := (blk_cell BK123.out 2).trans rfl
                have hcz53_3 : wr.cell? ⟨gb123, 3, none⟩ = some (.string t110) := (blk_cell BK123.out 3).trans rfl
                have hcz53_4 : wr.cell? ⟨gb123, 4, none⟩ = some (.string t111) := (blk_cell BK123.out 4).trans rfl
                have hcz53_5 : wr.cell? ⟨gb123, 5, none⟩ = some (.int .i64 t112) := (blk_cell BK123.out 5).trans rfl
                have hcz53_6 : wr.cell? ⟨gb123, 6, none⟩ = some (.int .i64 t113) := (blk_cell BK123.out 6).trans rfl
                have hcz53_7 : wr.cell? ⟨gb123, 7, none⟩ = some (.slice Ao17 t114.length co17) := (blk_cell BK123.out 7).trans rfl
                have hcz53_8 : wr.cell? ⟨gb123, 8, none⟩ = some (.bool t117) := (blk_cell BK123.out 8).trans rfl
                have hcz53_9 : wr.cell? ⟨gb123, 9, none⟩ = some (.int .i64 t118) := (blk_cell BK123.out 9).trans rfl
                have hcz53_10 : wr.cell? ⟨gb123, 10, none⟩ = some (.string t119) := (blk_cell BK123.out 10).trans rfl
                have hcz53_11 : wr.cell? ⟨gb123, 11, none⟩ = some (.string t120) := (blk_cell BK123.out 11).trans rfl
                have hcz53_12 : wr.cell? ⟨gb123, 12, none⟩ = some (.string t121) := (blk_cell BK123.out 12).trans rfl
                have hcz53_13 : wr.cell? ⟨gb123, 13, none⟩ = some (.string t122) := (blk_cell BK123.out 13).trans rfl
                have hfz53_0 := blk_frozen BK123.out 0
                have hfz53_1 := blk_frozen BK123.out 1
                have hfz53_2 := blk_frozen BK123.out 2
                have hfz53_3 := blk_frozen BK123.out 3
                have hfz53_4 := blk_frozen BK123.out 4
                have hfz53_5 := blk_frozen BK123.out 5
                have hfz53_6 := blk_frozen BK123.out 6
                have hfz53_7 := blk_frozen BK123.out 7
                have hfz53_8 := blk_frozen BK123.out 8
                have hfz53_9 := blk_frozen BK123.out 9
                have hfz53_10 := blk_frozen BK123.out 10
                have hfz53_11 := blk_frozen BK123.out 11
                have hfz53_12 := blk_frozen BK123.out 12
                have hfz53_13 := blk_frozen BK123.out 13
                have hcz54_0 : wr.cell? ⟨gb104, 0, none⟩ = some (.string a0_0) := (blk_cell BK104.out 0).trans rfl
                have hcz54_1 : wr.cell? ⟨gb104, 1, none⟩ = some (.int .i64 a0_1) := (blk_cell BK104.out 1).trans rfl
                have hfz54_0 := blk_frozen BK104.out 0
                have hfz54_1 := blk_frozen BK104.out 1
                go_wp2
                repeat (go_quiet (fail); try go_wp2)
                go_ret
                exact ⟨by first | rfl | (simp [errW_none, errW_some] <;> rfl) | (simp [*, errW_none, errW_some] <;> rfl), by repeat (first | (with_reducible first | exact HB.out | apply below_alloc | apply pw_below_drewN | apply below_drew1 | refine below_set ?_ GE104.out | refine below_set ?_ GE123.out) | exact HB.out)⟩
            · rw [if_neg c29] at H
              exact absurd H (by simp)
    · replace c5 := Bool.eq_false_iff.mpr c5
      subst c5
      have H1 : (some true) = some r := by rw [if_neg (show ¬ (false = true) by decide)] at H; exact H
      clear H
      have H := H1
      clear H1
      obtain rfl := Option.some.inj H
      go_enter Try.func3, Try.ntmps3
      go_wp2_with (first | ((with_reducible refine gate_dst (N := 1) rfl ?_); (try (refine gate_guard (by rfl) ?_; dsimp only)); refine box_event ?hg (N := 1) ?hd (cs := #[.string a0_0, .int .i64 a0_1]) (t := 23) ?hr ?_; (case hd => rfl); (case hg => rfl); (case hr => first | (go_simp; done) | (go_simp; rfl)); intro gb104 hg w55 hbox hb; have n0_ := Aside0.mk (below_step (by repeat (first | (with_reducible first | exact HB.out | apply below_alloc | apply pw_below_drewN | apply below_drew1) | exact HB.out)) hb); have n1_ := Aside0.mk (hbox); have n2_ := Aside0.mk ((by rw [hg]; exact (below_size (by repeat (first | (with_reducible first | exact HB.out | apply below_alloc | apply pw_below_drewN | apply below_drew1) | exact HB.out))) : w.heap.size ≤ gb104)); have n3_ := Aside0.mk ((by rw [hg]; exact (below_size (by repeat (first | (with_reducible first | exact HB.out | apply below_alloc | apply pw_below_drewN | apply below_drew1) | exact HB.out))) : w.heap.size ≤ gb104)); clear HB; have HB := n0_; have BK104 := n1_; have GW104 := n2_; have GE104 := n3_; clear n0_ n1_ n2_ n3_; clear hb hbox hg; have hcz56_0 : w55.cell? ⟨gb104, 0, none⟩ = some (.string a0_0) := (blk_cell BK104.out 0).trans rfl; have hcz56_1 : w55.cell? ⟨gb104, 1, none⟩ = some (.int .i64 a0_1) := (blk_cell BK104.out 1).trans rfl; have hfz56_0 := blk_frozen BK104.out 0; have hfz56_1 := blk_frozen BK104.out 1) | (go_at_call 5; (with_reducible refine (laws_zzFits2.calls a0_0 a0_1 true _ A2.out).mono ?_); rintro e w57 ⟨rfl, hb⟩; have n0_ := Aside0.mk (blk_below (g := gb104) (o := .cells #[.string a0_0, .int .i64 a0_1] 23 (0, 0)) (by (with_reducible repeat (first | refine blk_drewN ?_ _ | refine blk_drew ?_ | refine blk_alloc ?_ _)); exact BK104.out) hb); have n1_ := Aside0.mk (below_step (by repeat (first | (with_reducible first | exact HB.out | apply below_alloc | apply pw_below_drewN | apply below_drew1 | refine below_set ?_ GE104.out) | exact HB.out)) hb); clear BK104; clear HB; have BK104 := n0_; have HB := n1_; clear n0_ n1_; (try clear hb); (try clear hb2); (try clear hk); (try clear hi); have hcz58_0 : w57.cell? ⟨gb104, 0, none⟩ = some (.string a0_0) := (blk_cell BK104.out 0).trans rfl; have hcz58_1 : w57.cell? ⟨gb104, 1, none⟩ = some (.int .i64 a0_1) := (blk_cell BK104.out 1).trans rfl; have hfz58_0 := blk_frozen BK104.out 0; have hfz58_1 := blk_frozen BK104.out 1) | (go_at_call 6; (with_reducible refine (spec_DocRight.calls k a0_0 a0_1 false _ A4.out).mono ?_); rintro e w59 ⟨rfl, hb⟩; have n0_ := Aside0.mk (blk_below (g := gb104) (o := .cells #[.string a0_0, .int .i64 a0_1] 23 (0, 0)) (by (with_reducible repeat (first | refine blk_drewN ?_ _ | refine blk_drew ?_ | refine blk_alloc ?_ _)); exact BK104.out) hb); have n1_ := Aside0.mk (below_step (by repeat (first | (with_reducible first | exact HB.out | apply below_alloc | apply pw_below_drewN | apply below_drew1 | refine below_set ?_ GE104.out) | exact HB.out)) hb); clear BK104; clear HB; have BK104 := n0_; have HB := n1_; clear n0_ n1_; (try clear hb); (try clear hb2); (try clear hk); (try clear hi)))
      repeat (go_quiet (first | ((with_reducible refine gate_dst (N := 1) rfl ?_); (try (refine gate_guard (by rfl) ?_; dsimp only)); refine box_event ?hg (N := 1) ?hd (cs := #[.string a0_0, .int .i64 a0_1]) (t := 23) ?hr ?_; (case hd => rfl); (case hg => rfl); (case hr => first | (go_simp; done) | (go_simp; rfl)); intro gb104 hg w55 hbox hb; have n0_ := Aside0.mk (below_step (by repeat (first | (with_reducible first | exact HB.out | apply below_alloc | apply pw_below_drewN | apply below_drew1) | exact HB.out)) hb); have n1_ := Aside0.mk (hbox); have n2_ := Aside0.mk ((by rw [hg]; exact (below_size (by repeat (first | (with_reducible first | exact HB.out | apply below_alloc | apply pw_below_drewN | apply below_drew1) | exact HB.out))) : w.heap.size ≤ gb104)); have n3_ := Aside0.mk ((by rw [hg]; exact (below_size (by repeat (first | (with_reducible first | exact HB.out | apply below_alloc | apply pw_below_drewN | apply below_drew1) | exact HB.out))) : w.heap.size ≤ gb104)); clear HB; have HB := n0_; have BK104 := n1_; have GW104 := n2_; have GE104 := n3_; clear n0_ n1_ n2_ n3_; clear hb hbox hg; have hcz56_0 : w55.cell? ⟨gb104, 0, none⟩ = some (.string a0_0) := (blk_cell BK104.out 0).trans rfl; have hcz56_1 : w55.cell? ⟨gb104, 1, none⟩ = some (.int .i64 a0_1) := (blk_cell BK104.out 1).trans rfl; have hfz56_0 := blk_frozen BK104.out 0; have hfz56_1 := blk_frozen BK104.out 1) | (go_at_call 5; (with_reducible refine (laws_zzFits2.calls a0_0 a0_1 true _ A2.out).mono ?_); rintro e w57 ⟨rfl, hb⟩; have n0_ := Aside0.mk (blk_below (g := gb104) (o := .cells #[.string a0_0, .int .i64 a0_1] 23 (0, 0)) (by (with_reducible repeat (first | refine blk_drewN ?_ _ | refine blk_drew ?_ | refine blk_alloc ?_ _)); exact BK104.out) hb); have n1_ := Aside0.mk (below_step (by repeat (first | (with_reducible first | exact HB.out | apply below_alloc | apply pw_below_drewN | apply below_drew1 | refine below_set ?_ GE104.out) | exact HB.out)) hb); clear BK104; clear HB; have BK104 := n0_; have HB := n1_; clear n0_ n1_; (try clear hb); (try clear hb2); (try clear hk); (try clear hi); have hcz58_0 : w57.cell? ⟨gb104, 0, none⟩ = some (.string a0_0) := (blk_cell BK104.out 0).trans rfl; have hcz58_1 : w57.cell? ⟨gb104, 1, none⟩ = some (.int .i64 a0_1) := (blk_cell BK104.out 1).trans rfl; have hfz58_0 := blk_frozen BK104.out 0; have hfz58_1 := blk_frozen BK104.out 1) | (go_at_call 6; (with_reducible refine (spec_DocRight.calls k a0_0 a0_1 false _ A4.out).mono ?_); rintro e w59 ⟨rfl, hb⟩; have n0_ := Aside0.mk (blk_below (g := gb104) (o := .cells #[.string a0_0, .int .i64 a0_1] 23 (0, 0)) (by (with_reducible repeat (first | refine blk_drewN ?_ _ | refine blk_drew ?_ | refine blk_alloc ?_ _)); exact BK104.out) hb); have n1_ := Aside0.mk (below_step (by repeat (first | (with_reducible first | exact HB.out | apply below_alloc | apply pw_below_drewN | apply below_drew1 | refine below_set ?_ GE104.out) | exact HB.out)) hb); clear BK104; clear HB; have BK104 := n0_; have HB := n1_; clear n0_ n1_; (try clear hb); (try clear hb2); (try clear hk); (try clear hi))); try go_wp2_with (first | ((with_reducible refine gate_dst (N := 1) rfl ?_); (try (refine gate_guard (by rfl) ?_; dsimp only)); refine box_event ?hg (N := 1) ?hd (cs := #[.string a0_0, .int .i64 a0_1]) (t := 23) ?hr ?_; (case hd => rfl); (case hg => rfl); (case hr => first | (go_simp; done) | (go_simp; rfl)); intro gb104 hg w55 hbox hb; have n0_ := Aside0.mk (below_step (by repeat (first | (with_reducible first | exact HB.out | apply below_alloc | apply pw_below_drewN | apply below_drew1) | exact HB.out)) hb); have n1_ := Aside0.mk (hbox); have n2_ := Aside0.mk ((by rw [hg]; exact (below_size (by repeat (first | (with_reducible first | exact HB.out | apply below_alloc | apply pw_below_drewN | apply below_drew1) | exact HB.out))) : w.heap.size ≤ gb104)); have n3_ := Aside0.mk ((by rw [hg]; exact (below_size (by repeat (first | (with_reducible first | exact HB.out | apply below_alloc | apply pw_below_drewN | apply below_drew1) | exact HB.out))) : w.heap.size ≤ gb104)); clear HB; have HB := n0_; have BK104 := n1_; have GW104 := n2_; have GE104 := n3_; clear n0_ n1_ n2_ n3_; clear hb hbox hg; have hcz56_0 : w55.cell? ⟨gb104, 0, none⟩ = some (.string a0_0) := (blk_cell BK104.out 0).trans rfl; have hcz56_1 : w55.cell? ⟨gb104, 1, none⟩ = some (.int .i64 a0_1) := (blk_cell BK104.out 1).trans rfl; have hfz56_0 := blk_frozen BK104.out 0; have hfz56_1 := blk_frozen BK104.out 1) | (go_at_call 5; (with_reducible refine (laws_zzFits2.calls a0_0 a0_1 true _ A2.out).mono ?_); rintro e w57 ⟨rfl, hb⟩; have n0_ := Aside0.mk (blk_below (g := gb104) (o := .cells #[.string a0_0, .int .i64 a0_1] 23 (0, 0)) (by (with_reducible repeat (first | refine blk_drewN ?_ _ | refine blk_drew ?_ | refine blk_alloc ?_ _)); exact BK104.out) hb); have n1_ := Aside0.mk (below_step (by repeat (first | (with_reducible first | exact HB.out | apply below_alloc | apply pw_below_drewN | apply below_drew1 | refine below_set ?_ GE104.out) | exact HB.out)) hb); clear BK104; clear HB; have BK104 := n0_; have HB := n1_; clear n0_ n1_; (try clear hb); (try clear hb2); (try clear hk); (try clear hi); have hcz58_0 : w57.cell? ⟨gb104, 0, none⟩ = some (.string a0_0) := (blk_cell BK104.out 0).trans rfl; have hcz58_1 : w57.cell? ⟨gb104, 1, none⟩ = some (.int .i64 a0_1) := (blk_cell BK104.out 1).trans rfl; have hfz58_0 := blk_frozen BK104.out 0; have hfz58_1 := blk_frozen BK104.out 1) | (go_at_call 6; (with_reducible refine (spec_DocRight.calls k a0_0 a0_1 false _ A4.out).mono ?_); rintro e w59 ⟨rfl, hb⟩; have n0_ := Aside0.mk (blk_below (g := gb104) (o := .cells #[.string a0_0, .int .i64 a0_1] 23 (0, 0)) (by (with_reducible repeat (first | refine blk_drewN ?_ _ | refine blk_drew ?_ | refine blk_alloc ?_ _)); exact BK104.out) hb); have n1_ := Aside0.mk (below_step (by repeat (first | (with_reducible first | exact HB.out | apply below_alloc | apply pw_below_drewN | apply below_drew1 | refine below_set ?_ GE104.out) | exact HB.out)) hb); clear BK104; clear HB; have BK104 := n0_; have HB := n1_; clear n0_ n1_; (try clear hb); (try clear hb2); (try clear hk); (try clear hi))))
      go_ret
      exact ⟨by first | rfl | (simp [errW_none, errW_some] <;> rfl) | (simp [*, errW_none, errW_some] <;> rfl), by repeat (first | (with_reducible first | exact HB.out | apply below_alloc | apply pw_below_drewN | apply below_drew1 | refine below_set ?_ GE104.out) | exact HB.out)⟩
  · replace c3 := Bool.eq_false_iff.mpr c3
    subst c3
    have H1 : (some true) = some r := by rw [if_neg (show ¬ (false = true) by decide)] at H; exact H
    clear H
    have H := H1
    clear H1
    obtain rfl := Option.some.inj H
    go_enter Try.func3, Try.ntmps3
    go_wp2_with (first | ((with_reducible refine gate_dst (N := 1) rfl ?_); (try (refine gate_guard (by rfl) ?_; dsimp only)); refine box_event ?hg (N := 1) ?hd (cs := #[.string a0_0, .int .i64 a0_1]) (t := 23) ?hr ?_; (case hd => rfl); (case hg => rfl); (case hr => first | (go_simp; done) | (go_simp; rfl)); intro gb104 hg w60 hbox hb; have n0_ := Aside0.mk (below_step (by repeat (first | (with_reducible first | exact HB.out | apply below_alloc | apply pw_below_drewN | apply below_drew1) | exact HB.out)) hb); have n1_ := Aside0.mk (hbox); have n2_ := Aside0.mk ((by rw [hg]; exact (below_size (by repeat (first | (with_reducible first | exact HB.out | apply below_alloc | apply pw_below_drewN | apply below_drew1) | exact HB.out))) : w.heap.size ≤ gb104)); have n3_ := Aside0.mk ((by rw [hg]; exact (below_size (by repeat (first | (with_reducible first | exact HB.out | apply below_alloc | apply pw_below_drewN | apply below_drew1) | exact HB.out))) : w.heap.size ≤ gb104)); clear HB; have HB := n0_; have BK104 := n1_; have GW104 := n2_; have GE104 := n3_; clear n0_ n1_ n2_ n3_; clear hb hbox hg; have hcz61_0 : w60.cell? ⟨gb104, 0, none⟩ = some (.string a0_0) := (blk_cell BK104.out 0).trans rfl; have hcz61_1 : w60.cell? ⟨gb104, 1, none⟩ = some (.int .i64 a0_1) := (blk_cell BK104.out 1).trans rfl; have hfz61_0 := blk_frozen BK104.out 0; have hfz61_1 := blk_frozen BK104.out 1) | (go_at_call 5; (with_reducible refine (laws_zzFits2.calls a0_0 a0_1 false _ A2.out).mono ?_); rintro e w62 ⟨rfl, hb⟩; have n0_ := Aside0.mk (blk_below (g := gb104) (o := .cells #[.string a0_0, .int .i64 a0_1] 23 (0, 0)) (by (with_reducible repeat (first | refine blk_drewN ?_ _ | refine blk_drew ?_ | refine blk_alloc ?_ _)); exact BK104.out) hb); have n1_ := Aside0.mk (below_step (by repeat (first | (with_reducible first | exact HB.out | apply below_alloc | apply pw_below_drewN | apply below_drew1 | refine below_set ?_ GE104.out) | exact HB.out)) hb); clear BK104; clear HB; have BK104 := n0_; have HB := n1_; clear n0_ n1_; (try clear hb); (try clear hb2); (try clear hk); (try clear hi)))
    repeat (go_quiet (first | ((with_reducible refine gate_dst (N := 1) rfl ?_); (try (refine gate_guard (by rfl) ?_; dsimp only)); refine box_event ?hg (N := 1) ?hd (cs := #[.string a0_0, .int .i64 a0_1]) (t := 23) ?hr ?_; (case hd => rfl); (case hg => rfl); (case hr => first | (go_simp; done) | (go_simp; rfl)); intro gb104 hg w60 hbox hb; have n0_ := Aside0.mk (below_step (by repeat (first | (with_reducible first | exact HB.out | apply below_alloc | apply pw_below_drewN | apply below_drew1) | exact HB.out)) hb); have n1_ := Aside0.mk (hbox); have n2_ := Aside0.mk ((by rw [hg]; exact (below_size (by repeat (first | (with_reducible first | exact HB.out | apply below_alloc | apply pw_below_drewN | apply below_drew1) | exact HB.out))) : w.heap.size ≤ gb104)); have n3_ := Aside0.mk ((by rw [hg]; exact (below_size (by repeat (first | (with_reducible first | exact HB.out | apply below_alloc | apply pw_below_drewN | apply below_drew1) | exact HB.out))) : w.heap.size ≤ gb104)); clear HB; have HB := n0_; have BK104 := n1_; have GW104 := n2_; have GE104 := n3_; clear n0_ n1_ n2_ n3_; clear hb hbox hg; have hcz61_0 : w60.cell? ⟨gb104, 0, none⟩ = some (.string a0_0) := (blk_cell BK104.out 0).trans rfl; have hcz61_1 : w60.cell? ⟨gb104, 1, none⟩ = some (.int .i64 a0_1) := (blk_cell BK104.out 1).trans rfl; have hfz61_0 := blk_frozen BK104.out 0; have hfz61_1 := blk_frozen BK104.out 1) | (go_at_call 5; (with_reducible refine (laws_zzFits2.calls a0_0 a0_1 false _ A2.out).mono ?_); rintro e w62 ⟨rfl, hb⟩; have n0_ := Aside0.mk (blk_below (g := gb104) (o := .cells #[.string a0_0, .int .i64 a0_1] 23 (0, 0)) (by (with_reducible repeat (first | refine blk_drewN ?_ _ | refine blk_drew ?_ | refine blk_alloc ?_ _)); exact BK104.out) hb); have n1_ := Aside0.mk (below_step (by repeat (first | (with_reducible first | exact HB.out | apply below_alloc | apply pw_below_drewN | apply below_drew1 | refine below_set ?_ GE104.out) | exact HB.out)) hb); clear BK104; clear HB; have BK104 := n0_; have HB := n1_; clear n0_ n1_; (try clear hb); (try clear hb2); (try clear hk); (try clear hi))); try go_wp2_with (first | ((with_reducible refine gate_dst (N := 1) rfl ?_); (try (refine gate_guard (by rfl) ?_; dsimp only)); refine box_event ?hg (N := 1) ?hd (cs := #[.string a0_0, .int .i64 a0_1]) (t := 23) ?hr ?_; (case hd => rfl); (case hg => rfl); (case hr => first | (go_simp; done) | (go_simp; rfl)); intro gb104 hg w60 hbox hb; have n0_ := Aside0.mk (below_step (by repeat (first | (with_reducible first | exact HB.out | apply below_alloc | apply pw_below_drewN | apply below_drew1) | exact HB.out)) hb); have n1_ := Aside0.mk (hbox); have n2_ := Aside0.mk ((by rw [hg]; exact (below_size (by repeat (first | (with_reducible first | exact HB.out | apply below_alloc | apply pw_below_drewN | apply below_drew1) | exact HB.out))) : w.heap.size ≤ gb104)); have n3_ := Aside0.mk ((by rw [hg]; exact (below_size (by repeat (first | (with_reducible first | exact HB.out | apply below_alloc | apply pw_below_drewN | apply below_drew1) | exact HB.out))) : w.heap.size ≤ gb104)); clear HB; have HB := n0_; have BK104 := n1_; have GW104 := n2_; have GE104 := n3_; clear n0_ n1_ n2_ n3_; clear hb hbox hg; have hcz61_0 : w60.cell? ⟨gb104, 0, none⟩ = some (.string a0_0) := (blk_cell BK104.out 0).trans rfl; have hcz61_1 : w60.cell? ⟨gb104, 1, none⟩ = some (.int .i64 a0_1) := (blk_cell BK104.out 1).trans rfl; have hfz61_0 := blk_frozen BK104.out 0; have hfz61_1 := blk_frozen BK104.out 1) | (go_at_call 5; (with_reducible refine (laws_zzFits2.calls a0_0 a0_1 false _ A2.out).mono ?_); rintro e w62 ⟨rfl, hb⟩; have n0_ := Aside0.mk (blk_below (g := gb104) (o := .cells #[.string a0_0, .int .i64 a0_1] 23 (0, 0)) (by (with_reducible repeat (first | refine blk_drewN ?_ _ | refine blk_drew ?_ | refine blk_alloc ?_ _)); exact BK104.out) hb); have n1_ := Aside0.mk (below_step (by repeat (first | (with_reducible first | exact HB.out | apply below_alloc | apply pw_below_drewN | apply below_drew1 | refine below_set ?_ GE104.out) | exact HB.out)) hb); clear BK104; clear HB; have BK104 := n0_; have HB := n1_; clear n0_ n1_; (try clear hb); (try clear hb2); (try clear hk); (try clear hi))))
    go_ret
    exact ⟨by first | rfl | (simp [errW_none, errW_some] <;> rfl) | (simp [*, errW_none, errW_some] <;> rfl), by repeat (first | (with_reducible first | exact HB.out | apply below_alloc | apply pw_below_drewN | apply below_drew1 | refine below_set ?_ GE104.out) | exact HB.out)⟩

/-- THE ONE PURE STATEMENT of laws_FnAroundParts: yours. -/
def laws_FnAroundParts.Pure : Prop := ∀ (a0_0 : ByteArray) (a0_1 : Int), a0_0.size ≤ maxLen → (Lit.int .i64 a0_1).wf = true → ∃ k, laws_FnAroundParts.f k a0_0 a0_1 = some true
theorem laws_FnAroundParts.walk (P : laws_FnAroundParts.Pure) (a0_0 : ByteArray) (a0_1 : Int) (w : World) (hg0_0 : a0_0.size ≤ maxLen) (hg0_1 : (Lit.int .i64 a0_1).wf = true) :
    Calls Try.prog 3 #[.agg #[.string a0_0, .int .i64 a0_1]] w fun e w' => e = .returned (.bool true) ∧ Below w.heap.size w w' := by
  obtain ⟨k, h⟩ := P a0_0 a0_1 hg0_0 hg0_1
  refine (laws_FnAroundParts.calls k a0_0 a0_1 true w h).mono ?_
  rintro e w' ⟨rfl, hd⟩
  exact ⟨rfl, hd⟩

end Go.Proofs.Ytkfmjkiefckgoaa.PFnAroundParts
