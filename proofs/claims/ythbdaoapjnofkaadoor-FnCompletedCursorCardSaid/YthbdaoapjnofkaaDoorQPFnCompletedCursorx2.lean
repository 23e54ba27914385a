/- Printed by a program of this seat (xprint) out of the translation: Go functions as plain functions, and the walks that show them; no condition. -/
import Derived.Test.YthbdaoapjnofkaaDoorQPFnCompletedCursorx0
import Derived.Test.YthbdaoapjnofkaaDoorQHCmG
import Derived.Test.YthbdaoapjnofkaaDoorQPFnCompletedCursorx1
namespace Go.Proofs.YthbdaoapjnofkaaDoor.PFnCompletedCursor
open Go.RowKit Go.Proofs.YthbdaoapjnofkaaDoor.H Go.Proofs.YthbdaoapjnofkaaDoor.R Go.Proofs.YthbdaoapjnofkaaDoorW.PrintWords Go.Proofs.YthbdaoapjnofkaaDoorW.PrintLast Go.Proofs.YthbdaoapjnofkaaDoorW.PrintMore
attribute [local go_sem] max2_int min2_int max_two min_two max_three min_three max_four min_four   -- for this text's walks alone
set_option linter.unusedVariables false
set_option linter.unusedSimpArgs false
/-! ### laws_ascii9: function 29 -/
def laws_ascii9.l0 : Nat → ByteArray → Int → Int → Option (Bool)
  | 0, _, _, _ => none
  | k + 1, x0, x5, x6 => if x6 < x5 then (if 0 ≤ x6 then (if x6 < (x0.size : Int) then (if (bt x0 x6) ≥ 128 then (some false) else (laws_ascii9.l0 k x0 x5 (wrap64 (x6 + 1)))) else (none)) else (none)) else (some (decide ((x0.size : Int) ≤ 300)))
def laws_ascii9.f (k : Nat) (a0 : ByteArray) : Option (Bool) := laws_ascii9.l0 k a0 (a0.size : Int) 0
theorem laws_ascii9.mono_l : ∀ k, (∀ y0 y1 y2, LeO (laws_ascii9.l0 k y0 y1 y2) (laws_ascii9.l0 (k + 1) y0 y1 y2))
  | 0 => fun _ _ _ r h => by simp [laws_ascii9.l0] at h
  | k + 1 => by
    have ih0 := laws_ascii9.mono_l k
    · intro y0 y1 y2
      unfold laws_ascii9.l0
      repeat' first
      | (with_reducible exact ih0 _ _ _)
      | (with_reducible exact LeO.refl _)
      | (with_reducible exact LeO.none _)
      | (with_reducible refine LeO.ite ?_ ?_)
      | (with_reducible refine LeO.bind ?_ (fun _ => ?_))
      | exact ih0 _ _ _
      | exact LeO.none _
      | refine LeO.ite ?_ ?_
      | refine LeO.bind ?_ (fun _ => ?_)
theorem laws_ascii9.mono : ∀ a0 k, LeO (laws_ascii9.f k a0) (laws_ascii9.f (k + 1) a0) := by
  intro a0 k
  have ih0 := laws_ascii9.mono_l k
  unfold laws_ascii9.f
  repeat' first
      | (with_reducible exact ih0 _ _ _)
      | (with_reducible exact LeO.refl _)
      | (with_reducible exact LeO.none _)
      | (with_reducible refine LeO.ite ?_ ?_)
      | (with_reducible refine LeO.bind ?_ (fun _ => ?_))
      | exact ih0 _ _ _
      | exact LeO.none _
      | refine LeO.ite ?_ ?_
      | refine LeO.bind ?_ (fun _ => ?_)
set_option maxHeartbeats 8000000 in
set_option maxRecDepth 100000 in
theorem laws_ascii9.calls (k : Nat) (a0 : ByteArray) (r : Bool) (w : World) (h : laws_ascii9.f k a0 = some r) :
    Calls Tryd.prog 29 #[.string a0] w fun e w' => e = .returned (.bool r) ∧ Drawn0 w w' := by
  have H : (laws_ascii9.l0 k a0 (a0.size : Int) 0) = some r := h
  clear h
  have H' := Aside0.mk H
  clear H
  go_enter Tryd.func29, Tryd.ntmps29
  go_wp2
  go_loopg [6] k (fun kq v6 w' => ∃ (x6_1 : Int), v6 = .int .i64 x6_1 ∧ Aside0 (laws_ascii9.l0 kq a0 (a0.size : Int) x6_1 = some r) ∧ Aside0 (kq ≤ k) ∧ Drawn0 w w')
  case atStart => exact ⟨(0), (by first | rfl | (simp; done) | (simp [*]; done)), H', ⟨Nat.le_refl _⟩, by repeat (first | exact Drawn0.refl _ | apply Drawn0.step)⟩
  case round =>
    clear H'
    obtain ⟨x6_1, rfl, HA, HK1, ⟨m1, rfl⟩⟩ := hrel
    cases gk with
    | zero => exact absurd HA.out (by simp [laws_ascii9.l0])
    | succ k1 =>
      have H := HA.out
      clear HA
      simp only [laws_ascii9.l0] at H
      by_cases c2 : x6_1 < (a0.size : Int)
      · rw [if_pos c2] at H
        have c2b0 : decide (x6_1 < (a0.size : Int)) = true := decide_eq_true c2
        clear c2
        by_cases c3 : 0 ≤ x6_1
        · rw [if_pos c3] at H
          have c3b0 : decide (0 ≤ x6_1) = true := decide_eq_true c3
          clear c3
          by_cases c4 : x6_1 < (a0.size : Int)
          · rw [if_pos c4] at H
            have c4b0 : decide (x6_1 < (a0.size : Int)) = true := decide_eq_true c4
            clear c4
            by_cases c6 : (bt a0 x6_1) ≥ 128
            · rw [if_pos c6] at H
              have c6b0 : decide (128 ≤ (bt a0 x6_1)) = true := decide_eq_true c6
              clear c6
              obtain rfl := Option.some.inj H
              have p5 : 0 ≤ (x6_1 : Int) := of_decide_eq_true (by first | (with_reducible assumption) | assumption)
              have q5 : x6_1 < (a0.size : Int) := of_decide_eq_true (by first | (with_reducible assumption) | assumption)
              have hx5 := bt_at a0 x6_1
              replace p5 := eq_true p5
              replace q5 := eq_true q5
              go_wp2
              go_ret
              exact ⟨by first | rfl | (simp; done) | (simp [*]; done), by repeat (first | exact Drawn0.refl _ | apply Drawn0.step)⟩
            · rw [if_neg c6] at H
              have c6b0 : decide (128 ≤ (bt a0 x6_1)) = false := decide_eq_false c6
              clear c6
              have H' := Aside0.mk H
              clear H
              have p5 : 0 ≤ (x6_1 : Int) := of_decide_eq_true (by first | (with_reducible assumption) | assumption)
              have q5 : x6_1 < (a0.size : Int) := of_decide_eq_true (by first | (with_reducible assumption) | assumption)
              have hx5 := bt_at a0 x6_1
              replace p5 := eq_true p5
              replace q5 := eq_true q5
              go_wp2
              go_roundg k1
              case measure => have := HK1.out; omega
              case rel => exact ⟨(wrap64 (x6_1 + 1)), (by first | rfl | (simp; done) | (simp [*]; done)), H', ⟨by have := HK1.out; omega⟩, by repeat (first | exact Drawn0.refl _ | apply Drawn0.step)⟩
          · rw [if_neg c4] at H
            exact absurd H (by simp)
        · rw [if_neg c3] at H
          exact absurd H (by simp)
      · rw [if_neg c2] at H
        have c2b0 : decide (x6_1 < (a0.size : Int)) = false := decide_eq_false c2
        clear c2
        obtain rfl := Option.some.inj H
        go_wp2
        go_ret
        exact ⟨by first | rfl | (simp; done) | (simp [*]; done), by repeat (first | exact Drawn0.refl _ | apply Drawn0.step)⟩
/-! ### spec_Tree: function 30 -/
mutual
def spec_Tree.l0 : Nat → List ByteArray → Int → List ByteArray → List (S88) → Int → Int → Option ((List (S88)))
  | 0, _, _, _, _, _, _ => none
  | k + 1, x0, x1, x2, x7, x12, x13 => if x13 < x12 then (if 0 ≤ x13 then (if x13 < (x0.length : Int) then (if x13 = x1 then (spec_Tree.j1 k x0 x1 x2 x7 x13 x12 x13 (rdOf ByteArray.empty x0 x13) (wrap64 (1 + (x2.length : Int)))) else (spec_Tree.j1 k x0 x1 x2 x7 x13 x12 x13 (rdOf ByteArray.empty x0 x13) 1)) else (none)) else (none)) else (some x7)
def spec_Tree.j1 : Nat → List ByteArray → Int → List ByteArray → List (S88) → Int → Int → Int → ByteArray → Int → Option ((List (S88)))
  | 0, _, _, _, _, _, _, _, _, _ => none
  | k + 1, x0, x1, x2, x7, x8, x12, x13, x112000, x112001 => if x7.length < 5864062014805 then (spec_Tree.l1 k x0 x1 x2 (x7 ++ [(⟨x112000, x112001⟩ : S88)]) x8 0 x12 x13) else (none)
def spec_Tree.l1 : Nat → List ByteArray → Int → List ByteArray → List (S88) → Int → Int → Int → Int → Option ((List (S88)))
  | 0, _, _, _, _, _, _, _, _ => none
  | k + 1, x0, x1, x2, x7, x8, x10, x12, x13 => if x8 = x1 then (if x10 < (x2.length : Int) then (if 0 ≤ x10 then (if x7.length < 5864062014805 then (spec_Tree.l1 k x0 x1 x2 (x7 ++ [(⟨rdOf ByteArray.empty x2 x10, 1⟩ : S88)]) x8 (wrap64 (x10 + 1)) x12 x13) else (none)) else (none)) else (spec_Tree.l0 k x0 x1 x2 x7 x12 (wrap64 (x13 + 1)))) else (spec_Tree.l0 k x0 x1 x2 x7 x12 (wrap64 (x13 + 1)))
end
def spec_Tree.f (k : Nat) (l0 : List ByteArray) (a1 : Int) (l2 : List ByteArray) : Option ((List (S88))) := spec_Tree.l0 k l0 a1 l2 ([] : List (S88)) (l0.length : Int) 0
theorem spec_Tree.mono_l : ∀ k, (∀ y0 y1 y2 y3 y4 y5, LeO (spec_Tree.l0 k y0 y1 y2 y3 y4 y5) (spec_Tree.l0 (k + 1) y0 y1 y2 y3 y4 y5)) ∧ (∀ y0 y1 y2 y3 y4 y5 y6 y7 y8, LeO (spec_Tree.j1 k y0 y1 y2 y3 y4 y5 y6 y7 y8) (spec_Tree.j1 (k + 1) y0 y1 y2 y3 y4 y5 y6 y7 y8)) ∧ (∀ y0 y1 y2 y3 y4 y5 y6 y7, LeO (spec_Tree.l1 k y0 y1 y2 y3 y4 y5 y6 y7) (spec_Tree.l1 (k + 1) y0 y1 y2 y3 y4 y5 y6 y7))
  | 0 => ⟨fun _ _ _ _ _ _ r h => by simp [spec_Tree.l0] at h, fun _ _ _ _ _ _ _ _ _ r h => by simp [spec_Tree.j1] at h, fun _ _ _ _ _ _ _ _ r h => by simp [spec_Tree.l1] at h⟩
  | k + 1 => by
    obtain ⟨ih0, ih1, ih2⟩ := spec_Tree.mono_l k
    refine ⟨?_, ?_, ?_⟩
    · intro y0 y1 y2 y3 y4 y5
      unfold spec_Tree.l0
      repeat' first
      | (with_reducible exact ih0 _ _ _ _ _ _)
      | (with_reducible exact ih1 _ _ _ _ _ _ _ _ _)
      | (with_reducible exact ih2 _ _ _ _ _ _ _ _)
      | (with_reducible exact LeO.refl _)
      | (with_reducible exact LeO.none _)
      | (with_reducible refine LeO.ite ?_ ?_)
      | (with_reducible refine LeO.bind ?_ (fun _ => ?_))
      | exact ih0 _ _ _ _ _ _
      | exact ih1 _ _ _ _ _ _ _ _ _
      | exact ih2 _ _ _ _ _ _ _ _
      | exact LeO.none _
      | refine LeO.ite ?_ ?_
      | refine LeO.bind ?_ (fun _ => ?_)
    · intro y0 y1 y2 y3 y4 y5 y6 y7 y8
      unfold spec_Tree.j1
      repeat' first
      | (with_reducible exact ih0 _ _ _ _ _ _)
      | (with_reducible exact ih1 _ _ _ _ _ _ _ _ _)
      | (with_reducible exact ih2 _ _ _ _ _ _ _ _)
      | (with_reducible exact LeO.refl _)
      | (with_reducible exact LeO.none _)
      | (with_reducible refine LeO.ite ?_ ?_)
      | (with_reducible refine LeO.bind ?_ (fun _ => ?_))
      | exact ih0 _ _ _ _ _ _
      | exact ih1 _ _ _ _ _ _ _ _ _
      | exact ih2 _ _ _ _ _ _ _ _
      | exact LeO.none _
      | refine LeO.ite ?_ ?_
      | refine LeO.bind ?_ (fun _ => ?_)
    · intro y0 y1 y2 y3 y4 y5 y6 y7
      unfold spec_Tree.l1
      repeat' first
      | (with_reducible exact ih0 _ _ _ _ _ _)
      | (with_reducible exact ih1 _ _ _ _ _ _ _ _ _)
      | (with_reducible exact ih2 _ _ _ _ _ _ _ _)
      | (with_reducible exact LeO.refl _)
      | (with_reducible exact LeO.none _)
      | (with_reducible refine LeO.ite ?_ ?_)
      | (with_reducible refine LeO.bind ?_ (fun _ => ?_))
      | exact ih0 _ _ _ _ _ _
      | exact ih1 _ _ _ _ _ _ _ _ _
      | exact ih2 _ _ _ _ _ _ _ _
      | exact LeO.none _
      | refine LeO.ite ?_ ?_
      | refine LeO.bind ?_ (fun _ => ?_)
theorem spec_Tree.mono : ∀ a0 a1 a2 k, LeO (spec_Tree.f k a0 a1 a2) (spec_Tree.f (k + 1) a0 a1 a2) := by
  intro a0 a1 a2 k
  obtain ⟨ih0, ih1, ih2⟩ := spec_Tree.mono_l k
  unfold spec_Tree.f
  repeat' first
      | (with_reducible exact ih0 _ _ _ _ _ _)
      | (with_reducible exact ih1 _ _ _ _ _ _ _ _ _)
      | (with_reducible exact ih2 _ _ _ _ _ _ _ _)
      | (with_reducible exact LeO.refl _)
      | (with_reducible exact LeO.none _)
      | (with_reducible refine LeO.ite ?_ ?_)
      | (with_reducible refine LeO.bind ?_ (fun _ => ?_))
      | exact ih0 _ _ _ _ _ _
      | exact ih1 _ _ _ _ _ _ _ _ _
      | exact ih2 _ _ _ _ _ _ _ _
      | exact LeO.none _
      | refine LeO.ite ?_ ?_
      | refine LeO.bind ?_ (fun _ => ?_)
set_option maxHeartbeats 8000000 in
set_option maxRecDepth 100000 in
theorem spec_Tree.calls (k : Nat) (A0 : Option Addr) (c0 : Nat) (l0 : List ByteArray) (a1 : Int) (A2 : Option Addr) (c2 : Nat) (l2 : List ByteArray) (r : List (S88)) (w : World) (hr0 : Kd.C Kd.string w A0 l0.length l0) (hc0 : l0.length ≤ c0) (hr2 : Kd.C Kd.string w A2 l2.length l2) (hc2 : l2.length ≤ c2) (h : spec_Tree.f k l0 a1 l2 = some r) :
    Calls Tryd.prog 30 #[.slice A0 l0.length c0, .int .i64 a1, .slice A2 l2.length c2] w fun e w' => ∃ v0_ : Value, e = .returned (v0_) ∧ Kd.R k88 88 w' w.heap.size (fun _ => True) v0_ r ∧ Below w.heap.size w w' := by
  have hu88 := Tryd.underlying88
  have HR0 := Aside0.mk hr0
  have HC0 := Aside0.mk hc0
  clear hr0 hc0
  have HR2 := Aside0.mk hr2
  have HC2 := Aside0.mk hc2
  clear hr2 hc2
  have HB := Aside0.mk (Below.refl w.heap.size w)
  have H : (spec_Tree.l0 k l0 a1 l2 ([] : List (S88)) (l0.length : Int) 0) = some r := h
  clear h
  have H' := Aside0.mk H
  clear H
  go_enter Tryd.func30, Tryd.ntmps30
  go_wp2
  go_loopg [7, 13] k (fun kq v7 v13 w' => ∃ (x7_1 : List (S88)) (x13_1 : Int), v13 = .int .i64 x13_1 ∧ Aside0 (spec_Tree.l0 kq l0 a1 l2 x7_1 (l0.length : Int) x13_1 = some r) ∧ Aside0 (kq ≤ k) ∧ Aside0 (Kd.R k88 88 w' w.heap.size (fun _ => True) v7 x7_1) ∧ Aside0 (Below w.heap.size w w'))
  case atStart => exact ⟨(([] : List (S88))), (0), (by first | rfl | (simp; done) | (simp [*]; done)), H', ⟨Nat.le_refl _⟩, ⟨by first | exact Kd.R_nil _ _ _ _ _ | exact Kd.N_nil _ _ _ _ _ | exact Kd.V_nil _ _ _ _ _ | exact Kd.Q_nil _ _ _ _ _ | exact Kd.S_nil _ _ _ _ _⟩, ⟨by repeat (first | (with_reducible first | exact HB.out | apply below_alloc | apply pw_below_drewN | apply below_drew1) | exact HB.out)⟩⟩
  case round =>
    clear H'
    try clear c2
    try clear p2
    try clear c3
    obtain ⟨x7_1, x13_1, rfl, HA, HK1, HO_7, HB⟩ := hrel
    cases gk with
    | zero => exact absurd HA.out (by simp [spec_Tree.l0])
    | succ k1 =>
      have H := HA.out
      clear HA
      simp only [spec_Tree.l0] at H
      by_cases c4 : x13_1 < (l0.length : Int)
      · rw [if_pos c4] at H
        have c4b0 : decide (x13_1 < (l0.length : Int)) = true := decide_eq_true c4
        clear c4
        by_cases c5 : 0 ≤ x13_1
        · rw [if_pos c5] at H
          have c5b0 : decide (0 ≤ x13_1) = true := decide_eq_true c5
          clear c5
          by_cases c6 : x13_1 < (l0.length : Int)
          · rw [if_pos c6] at H
            have c6b0 : decide (x13_1 < (l0.length : Int)) = true := decide_eq_true c6
            clear c6
            have HC7 := Aside0.mk H
            clear H
            have p110 : 0 ≤ (x13_1 : Int) := of_decide_eq_true (by first | (with_reducible assumption) | assumption)
            have q110 : x13_1 < (l0.length : Int) := of_decide_eq_true (by first | (with_reducible assumption) | assumption)
            obtain ⟨ad110, e110, hx110_0⟩ := Kd.at_string HR0.out x13_1 p110 q110
            cases e110
            replace hx110_0 := (HB.out.cell (World.block_lt_of_cell? w _ hx110_0)).trans hx110_0
            replace p110 := eq_true p110
            replace q110 := eq_true q110
            go_upto_if 23 with (first | ((with_reducible refine gate_dst (N := 9) rfl ?_); (try (refine gate_guard (by rfl) ?_; dsimp only)); refine box_event ?hg (N := 9) ?hd (cs := #[.string (⟨#[]⟩ : ByteArray), .int .i64 0]) (t := 88) ?hr ?_; (case hd => rfl); (case hg => rfl); (case hr => first | (go_simp; done) | (go_simp; rfl)); intro gb111 hg w8 hbox hb; have n0_ := Aside0.mk (Kd.R_below (Kd.R_elderB (by (with_reducible repeat (first | apply Kd.R_alloc | apply Kd.R_drewN | apply Kd.R_drew)); exact HO_7.out) gb111 (Nat.le_of_eq hg.symm)) hb); have n1_ := Aside0.mk (below_step (by repeat (first | (with_reducible first | exact HB.out | apply below_alloc | apply pw_below_drewN | apply below_drew1) | exact HB.out)) hb); have n2_ := Aside0.mk (hbox); have n3_ := Aside0.mk ((by rw [hg]; exact (below_size (by repeat (first | (with_reducible first | exact HB.out | apply below_alloc | apply pw_below_drewN | apply below_drew1) | exact HB.out))) : w.heap.size ≤ gb111)); have n4_ := Aside0.mk ((by rw [hg]; exact (below_size (by repeat (first | (with_reducible first | exact HB.out | apply below_alloc | apply pw_below_drewN | apply below_drew1) | exact HB.out))) : w.heap.size ≤ gb111)); clear HO_7; clear HB; have HO_7 := n0_; have HB := n1_; have BK111 := n2_; have GW111 := n3_; have GE111 := n4_; clear n0_ n1_ n2_ n3_ n4_; clear hb hbox hg; have hcz9_0 : w8.cell? ⟨gb111, 0, none⟩ = some (.string (⟨#[]⟩ : ByteArray)) := (blk_cell BK111.out 0).trans rfl; have hcz9_1 : w8.cell? ⟨gb111, 1, none⟩ = some (.int .i64 0) := (blk_cell BK111.out 1).trans rfl; have hfz9_0 := blk_frozen BK111.out 0; have hfz9_1 := blk_frozen BK111.out 1))
            (try simp only [Act.put, List.setIfInBounds_toArray, List.set_cons_zero, List.set_cons_succ])
            go_cut [] (fun wc => ∃ (kq : Nat) (x112001_6 : Int), Aside0 (spec_Tree.j1 kq l0 a1 l2 x7_1 x13_1 (l0.length : Int) x13_1 (rdOf ByteArray.empty l0 x13_1) x112001_6 = some r) ∧ Aside0 (kq ≤ k1) ∧ Aside0 (Kd.R k88 88 wc w.heap.size (fun k_ => k_ ≠ gb111) u7 x7_1) ∧ Aside0 (wc.heap[gb111]? = some (.cells #[.string (rdOf ByteArray.empty l0 x13_1), .int .i64 x112001_6] 88 (0, 0))) ∧ Aside0 (Below w.heap.size w wc))
            case first =>
              have H := HC7.out
              clear HC7
              by_cases c10 : x13_1 = a1
              · rw [if_pos c10] at H
                have c10b0 : (x13_1 == a1) = true := beq_iff_eq.mpr c10
                have c10b1 : (x13_1 != a1) = false := bne_eq_false_iff_eq.mpr c10
                clear c10
                (first | rw [c10b0] | (simp only [i64_w, i32_w]; rw [c10b0]) | skip)
                have H' := Aside0.mk H
                clear H
                have hcz11_0 : w8.cell? ⟨gb111, 0, none⟩ = some (.string (⟨#[]⟩ : ByteArray)) := (blk_cell BK111.out 0).trans rfl
                have hcz11_1 : w8.cell? ⟨gb111, 1, none⟩ = some (.int .i64 0) := (blk_cell BK111.out 1).trans rfl
                have hfz11_0 := blk_frozen BK111.out 0
                have hfz11_1 := blk_frozen BK111.out 1
                go_wp2
                go_meet
                case rel => exact ⟨_, (wrap64 (1 + (l2.length : Int))), H', ⟨by have := HK1.out; first | omega | exact Nat.le_refl _⟩, ⟨by (with_reducible repeat (first | apply Kd.R_alloc | apply Kd.R_drewN | apply Kd.R_drew)); exact Kd.R_mono (Kd.R_far (p := ⟨gb111, 1, none⟩) (Kd.R_far (p := ⟨gb111, 1, none⟩) (Kd.R_far (p := ⟨gb111, 0, none⟩) (Kd.R_mono HO_7.out (fun k_ hk => (⟨hk, hk.2⟩ : _ ∧ k_ ≠ gb111))) (fun _ hk => hk.2) (.string (rdOf ByteArray.empty l0 x13_1))) (fun _ hk => hk.2) (.int .i64 1)) (fun _ hk => hk.2) (.int .i64 (wrap64 (1 + (l2.length : Int))))) (fun _ hk => hk.1.2)⟩, ⟨by (with_reducible repeat (first | refine blk_drewN ?_ _ | refine blk_drew ?_ | refine blk_alloc ?_ _)); refine blk_put (cs := #[.string (rdOf ByteArray.empty l0 x13_1), .int .i64 1]) ?_ 1 _ rfl; (with_reducible repeat (first | refine blk_drewN ?_ _ | refine blk_drew ?_ | refine blk_alloc ?_ _)); refine blk_put (cs := #[.string (rdOf ByteArray.empty l0 x13_1), .int .i64 0]) ?_ 1 _ rfl; (with_reducible repeat (first | refine blk_drewN ?_ _ | refine blk_drew ?_ | refine blk_alloc ?_ _)); refine blk_put (cs := #[.string (⟨#[]⟩ : ByteArray), .int .i64 0]) ?_ 0 _ rfl; (with_reducible repeat (first | refine blk_drewN ?_ _ | refine blk_drew ?_ | refine blk_alloc ?_ _)); exact BK111.out⟩, ⟨by repeat (first | (with_reducible first | exact HB.out | apply below_alloc | apply pw_below_drewN | apply below_drew1 | refine below_set ?_ GE111.out) | exact HB.out)⟩⟩
              · rw [if_neg c10] at H
                have c10b0 : (x13_1 == a1) = false := beq_eq_false_iff_ne.mpr c10
                have c10b1 : (x13_1 != a1) = true := bne_iff_ne.mpr c10
                (first | rw [c10b0] | (simp only [i64_w, i32_w]; rw [c10b0]) | skip)
                have H' := Aside0.mk H
                clear H
                go_wp2
                go_meet
                case rel => exact ⟨_, (1), H', ⟨by have := HK1.out; first | omega | exact Nat.le_refl _⟩, ⟨by (with_reducible repeat (first | apply Kd.R_alloc | apply Kd.R_drewN | apply Kd.R_drew)); exact Kd.R_mono (Kd.R_far (p := ⟨gb111, 1, none⟩) (Kd.R_far (p := ⟨gb111, 0, none⟩) (Kd.R_mono HO_7.out (fun k_ hk => (⟨hk, hk.2⟩ : _ ∧ k_ ≠ gb111))) (fun _ hk => hk.2) (.string (rdOf ByteArray.empty l0 x13_1))) (fun _ hk => hk.2) (.int .i64 1)) (fun _ hk => hk.1.2)⟩, ⟨by (with_reducible repeat (first | refine blk_drewN ?_ _ | refine blk_drew ?_ | refine blk_alloc ?_ _)); refine blk_put (cs := #[.string (rdOf ByteArray.empty l0 x13_1), .int .i64 0]) ?_ 1 _ rfl; (with_reducible repeat (first | refine blk_drewN ?_ _ | refine blk_drew ?_ | refine blk_alloc ?_ _)); refine blk_put (cs := #[.string (⟨#[]⟩ : ByteArray), .int .i64 0]) ?_ 0 _ rfl; (with_reducible repeat (first | refine blk_drewN ?_ _ | refine blk_drew ?_ | refine blk_alloc ?_ _)); exact BK111.out⟩, ⟨by repeat (first | (with_reducible first | exact HB.out | apply below_alloc | apply pw_below_drewN | apply below_drew1 | refine below_set ?_ GE111.out) | exact HB.out)⟩⟩
            case rest =>
              clear HC7
              try clear c1
              try clear p1
              try clear q1
              try clear hx1
              try clear c2
              try clear p2
              try clear c3
              try clear c4
              try clear c4b0
              try clear c5
              try clear c5b0
              try clear c6
              try clear c6b0
              try clear p6
              try clear c10
              try clear c10b0
              try clear c10b1
              try clear p11
              try clear q11
              try clear hx11
              try clear hcz11_0
              try clear hcz11_1
              try clear hcz9_0
              try clear hcz9_1
              try clear hfz11_0
              try clear hfz11_1
              try clear hfz9_0
              try clear hfz9_1
              try clear hx110_0
              try clear p110
              try clear p2
              try clear q110
              obtain ⟨kq, x112001_6, HA, HJ6, HO_7, BK111, HB⟩ := hcut
              cases kq with
              | zero => exact absurd HA.out (by simp [spec_Tree.j1])
              | succ kj6 =>
                have H := HA.out
                clear HA
                simp only [spec_Tree.j1] at H
                by_cases c12 : x7_1.length < 5864062014805
                · rw [if_pos c12] at H
                  have LMc12 := Aside0.mk c12
                  clear c12
                  obtain ⟨y112, hy112⟩ : ∃ y_ : List (S88), y_ = (x7_1 ++ [(⟨(rdOf ByteArray.empty l0 x13_1), x112001_6⟩ : S88)]) := ⟨_, rfl⟩
                  replace H : (spec_Tree.l1 kj6 l0 a1 l2 y112 x13_1 0 (l0.length : Int) x13_1) = some r := by first | (rw [hy112]; with_reducible exact H) | (have H2_ := (Option.bind_some _ _).symm.trans H; rw [hy112]; with_reducible exact H2_) | (have H2_ := (Option.bind_some _ _).symm.trans H; with_reducible exact H2_) | with_reducible exact H | (rw [hy112]; exact H) | exact H
                  have Ny112 := Aside0.mk hy112
                  clear hy112
                  have H' := Aside0.mk H
                  clear H
                  have hcz13_0 : wc.cell? ⟨gb111, 0, none⟩ = some (.string (rdOf ByteArray.empty l0 x13_1)) := (blk_cell BK111.out 0).trans rfl
                  have hcz13_1 : wc.cell? ⟨gb111, 1, none⟩ = some (.int .i64 x112001_6) := (blk_cell BK111.out 1).trans rfl
                  have hfz13_0 := blk_frozen BK111.out 0
                  have hfz13_1 := blk_frozen BK111.out 1
                  go_wp2_with (first | ((with_reducible refine gate_builtin (b := .append) (xs := #[.tmp 30, .tmp 32]) rfl ?_); (try (refine gate_guard (by rfl) ?_; dsimp only)); at_builtin; refine Kd.R_append k88 (w0 := w) w.heap.size rfl (.tmp 30) (.tmp 32) 44 88 (.agg #[(.string ⟨#[]⟩), (.int .i64 0)]) 24 rfl Tryd.underlying44 info88 rfl (by decide) (by omega) u7 x7_1 (⟨(rdOf ByteArray.empty l0 x13_1), x112001_6⟩ : S88) [.string (rdOf ByteArray.empty l0 x13_1), .int .i64 x112001_6] (fun k_ => k_ ≠ gb111) (fun _ => False) rfl rfl ?aP (fun _ hk => hk.elim) ?aF ?aO ?aB ?aS ?aL ?_; (case aP => exact k88_mkM _ _ _ (⟨(rdOf ByteArray.empty l0 x13_1), x112001_6⟩ : S88)); (case aB => exact (by repeat (first | (with_reducible first | exact HB.out | apply below_alloc | apply pw_below_drewN | apply below_drew1 | refine below_set ?_ GE111.out) | exact HB.out))); (case aF => exact (fun k_ hk => Kd.freshB (g := gb111) (o := .cells #[.string (rdOf ByteArray.empty l0 x13_1), .int .i64 x112001_6] 88 (0, 0)) (by (with_reducible repeat (first | refine blk_drewN ?_ _ | refine blk_drew ?_ | refine blk_alloc ?_ _)); exact BK111.out) k_ hk)); (case aO => exact (by (with_reducible repeat (first | apply Kd.R_alloc | apply Kd.R_drewN | apply Kd.R_drew)); exact HO_7.out)); (case aS => exact (below_size (by repeat (first | (with_reducible first | exact HB.out | apply below_alloc | apply pw_below_drewN | apply below_drew1 | refine below_set ?_ GE111.out) | exact HB.out)))); (case aL => have := LMc12.out; omega); intro v113 w14 ho hb hg hat; rw [← Ny112.out] at ho; have n0_ := Aside0.mk (blk_grown (g := gb111) (o := .cells #[.string (rdOf ByteArray.empty l0 x13_1), .int .i64 x112001_6] 88 (0, 0)) (by (with_reducible repeat (first | refine blk_drewN ?_ _ | refine blk_drew ?_ | refine blk_alloc ?_ _)); exact BK111.out) hg (Kd.R_away HO_7.out (fun _ hk => hk))); have n1_ := Aside0.mk (hb); have n2_ := Aside0.mk (ho); clear BK111; clear HB; clear HO_7; have BK111 := n0_; have HB := n1_; have HO114 := n2_; clear n0_ n1_ n2_; clear ho hb hg hat))
                  go_loopg [7, 10] kj6 (fun kq v7 v10 w' => ∃ (x7_3 : List (S88)) (x10_3 : Int), v10 = .int .i64 x10_3 ∧ Aside0 (spec_Tree.l1 kq l0 a1 l2 x7_3 x13_1 x10_3 (l0.length : Int) x13_1 = some r) ∧ Aside0 (kq ≤ kj6) ∧ Aside0 (Kd.R k88 88 w' w.heap.size (fun k_ => k_ ≠ gb111) v7 x7_3) ∧ Aside0 (w'.heap[gb111]? = some (.cells #[.string (rdOf ByteArray.empty l0 x13_1), .int .i64 x112001_6] 88 (0, 0))) ∧ Aside0 (Below w.heap.size w w'))
                  case atStart => exact ⟨(y112), (0), (by first | rfl | (simp; done) | (simp [*]; done)), H', ⟨Nat.le_refl _⟩, ⟨by (with_reducible repeat (first | apply Kd.R_alloc | apply Kd.R_drewN | apply Kd.R_drew)); exact HO114.out⟩, ⟨by (with_reducible repeat (first | refine blk_drewN ?_ _ | refine blk_drew ?_ | refine blk_alloc ?_ _)); exact BK111.out⟩, ⟨by repeat (first | (with_reducible first | exact HB.out | apply below_alloc | apply pw_below_drewN | apply below_drew1 | refine below_set ?_ GE111.out) | exact HB.out)⟩⟩
                  case round =>
                    clear H'
                    try clear c1
                    try clear p1
                    try clear q1
                    try clear hx1
                    try clear c2
                    try clear p2
                    try clear c3
                    try clear c4
                    try clear c4b0
                    try clear c5
                    try clear c5b0
                    try clear c6
                    try clear c6b0
                    try clear p6
                    try clear c10
                    try clear c10b0
                    try clear c10b1
                    try clear p11
                    try clear q11
                    try clear hx11
                    try clear c12
                    try clear hcz11_0
                    try clear hcz11_1
                    try clear hcz13_0
                    try clear hcz13_1
                    try clear hcz9_0
                    try clear hcz9_1
                    try clear hfz11_0
                    try clear hfz11_1
                    try clear hfz13_0
                    try clear hfz13_1
                    try clear hfz9_0
                    try clear hfz9_1
                    try clear hx110_0
                    try clear p1
                    try clear p11
                    try clear p110
                    try clear p2
                    try clear p6
                    try clear q1
                    try clear q11
                    try clear q110
                    obtain ⟨x7_3, x10_3, rfl, HA, HK3, HO_7, BK111, HB⟩ := hrel
                    cases gk with
                    | zero => exact absurd HA.out (by simp [spec_Tree.l1])
                    | succ k3 =>
                      have H := HA.out
                      clear HA
                      simp only [spec_Tree.l1] at H
                      by_cases c15 : x13_1 = a1
                      · rw [if_pos c15] at H
                        have c15b0 : (x13_1 == a1) = true := beq_iff_eq.mpr c15
                        have c15b1 : (x13_1 != a1) = false := bne_eq_false_iff_eq.mpr c15
                        clear c15
                        by_cases c16 : x10_3 < (l2.length : Int)
                        · rw [if_pos c16] at H
                          have c16b0 : decide (x10_3 < (l2.length : Int)) = true := decide_eq_true c16
                          clear c16
                          by_cases c17 : 0 ≤ x10_3
                          · rw [if_pos c17] at H
                            have c17b0 : decide (0 ≤ x10_3) = true := decide_eq_true c17
                            clear c17
                            by_cases c18 : x7_3.length < 5864062014805
                            · rw [if_pos c18] at H
                              have LMc18 := Aside0.mk c18
                              clear c18
                              obtain ⟨y116, hy116⟩ : ∃ y_ : List (S88), y_ = (x7_3 ++ [(⟨rdOf ByteArray.empty l2 x10_3, 1⟩ : S88)]) := ⟨_, rfl⟩
                              replace H : (spec_Tree.l1 k3 l0 a1 l2 y116 x13_1 (wrap64 (x10_3 + 1)) (l0.length : Int) x13_1) = some r := by first | (rw [hy116]; with_reducible exact H) | (have H2_ := (Option.bind_some _ _).symm.trans H; rw [hy116]; with_reducible exact H2_) | (have H2_ := (Option.bind_some _ _).symm.trans H; with_reducible exact H2_) | with_reducible exact H | (rw [hy116]; exact H) | exact H
                              have Ny116 := Aside0.mk hy116
                              clear hy116
                              have H' := Aside0.mk H
                              clear H
                              have p115 : 0 ≤ (x10_3 : Int) := of_decide_eq_true (by first | (with_reducible assumption) | assumption)
                              have q115 : x10_3 < (l2.length : Int) := of_decide_eq_true (by first | (with_reducible assumption) | assumption)
                              obtain ⟨ad115, e115, hx115_0⟩ := Kd.at_string HR2.out x10_3 p115 q115
                              cases e115
                              replace hx115_0 := (HB.out.cell (World.block_lt_of_cell? w _ hx115_0)).trans hx115_0
                              replace p115 := eq_true p115
                              replace q115 := eq_true q115
                              go_wp2_with (first | ((with_reducible refine gate_builtin (b := .append) (xs := #[.tmp 45, .tmp 51]) rfl ?_); (try (refine gate_guard (by rfl) ?_; dsimp only)); at_builtin; refine Kd.R_append k88 (w0 := w) w.heap.size rfl (.tmp 45) (.tmp 51) 44 88 (.agg #[(.string ⟨#[]⟩), (.int .i64 0)]) 24 rfl Tryd.underlying44 info88 rfl (by decide) (by omega) u7 x7_3 (⟨rdOf ByteArray.empty l2 x10_3, 1⟩ : S88) [.string (rdOf ByteArray.empty l2 x10_3), .int .i64 1] (fun k_ => k_ ≠ gb111) (fun _ => False) rfl rfl ?aP (fun _ hk => hk.elim) ?aF ?aO ?aB ?aS ?aL ?_; (case aP => exact k88_mkM _ _ _ (⟨rdOf ByteArray.empty l2 x10_3, 1⟩ : S88)); (case aB => exact (by repeat (first | (with_reducible first | exact HB.out | apply below_alloc | apply pw_below_drewN | apply below_drew1 | refine below_set ?_ GE111.out) | exact HB.out))); (case aF => exact (fun k_ hk => Kd.freshB (g := gb111) (o := .cells #[.string (rdOf ByteArray.empty l0 x13_1), .int .i64 x112001_6] 88 (0, 0)) (by (with_reducible repeat (first | refine blk_drewN ?_ _ | refine blk_drew ?_ | refine blk_alloc ?_ _)); exact BK111.out) k_ hk)); (case aO => exact (by (with_reducible repeat (first | apply Kd.R_alloc | apply Kd.R_drewN | apply Kd.R_drew)); exact HO_7.out)); (case aS => exact (below_size (by repeat (first | (with_reducible first | exact HB.out | apply below_alloc | apply pw_below_drewN | apply below_drew1 | refine below_set ?_ GE111.out) | exact HB.out)))); (case aL => have := LMc18.out; omega); intro v117 w19 ho hb hg hat; rw [← Ny116.out] at ho; have n0_ := Aside0.mk (blk_grown (g := gb111) (o := .cells #[.string (rdOf ByteArray.empty l0 x13_1), .int .i64 x112001_6] 88 (0, 0)) (by (with_reducible repeat (first | refine blk_drewN ?_ _ | refine blk_drew ?_ | refine blk_alloc ?_ _)); exact BK111.out) hg (Kd.R_away HO_7.out (fun _ hk => hk))); have n1_ := Aside0.mk (hb); have n2_ := Aside0.mk (ho); clear BK111; clear HB; clear HO_7; have BK111 := n0_; have HB := n1_; have HO118 := n2_; clear n0_ n1_ n2_; clear ho hb hg hat))
                              go_roundg k3
                              case measure => have := HK1.out; have := HJ6.out; have := HK3.out; omega
                              case rel => exact ⟨(y116), (wrap64 (x10_3 + 1)), (by first | rfl | (simp; done) | (simp [*]; done)), H', ⟨by have := HK1.out; have := HJ6.out; have := HK3.out; omega⟩, ⟨by (with_reducible repeat (first | apply Kd.R_alloc | apply Kd.R_drewN | apply Kd.R_drew)); exact HO118.out⟩, ⟨by (with_reducible repeat (first | refine blk_drewN ?_ _ | refine blk_drew ?_ | refine blk_alloc ?_ _)); exact BK111.out⟩, ⟨by repeat (first | (with_reducible first | exact HB.out | apply below_alloc | apply pw_below_drewN | apply below_drew1 | refine below_set ?_ GE111.out) | exact HB.out)⟩⟩
                            · rw [if_neg c18] at H
                              exact absurd H (by simp)
                          · rw [if_neg c17] at H
                            exact absurd H (by simp)
                        · rw [if_neg c16] at H
                          have c16b0 : decide (x10_3 < (l2.length : Int)) = false := decide_eq_false c16
                          clear c16
                          have H' := Aside0.mk H
                          clear H
                          go_wp2
                          go_roundg k3
                          case measure => have := HK1.out; have := HJ6.out; have := HK3.out; omega
                          case rel => exact ⟨(x7_3), (wrap64 (x13_1 + 1)), (by first | rfl | (simp; done) | (simp [*]; done)), H', ⟨by have := HK1.out; have := HJ6.out; have := HK3.out; omega⟩, ⟨by (with_reducible repeat (first | apply Kd.R_alloc | apply Kd.R_drewN | apply Kd.R_drew)); exact Kd.R_mono HO_7.out (fun _ hk => trivial)⟩, ⟨by repeat (first | (with_reducible first | exact HB.out | apply below_alloc | apply pw_below_drewN | apply below_drew1 | refine below_set ?_ GE111.out) | exact HB.out)⟩⟩
                      · rw [if_neg c15] at H
                        have c15b0 : (x13_1 == a1) = false := beq_eq_false_iff_ne.mpr c15
                        have c15b1 : (x13_1 != a1) = true := bne_iff_ne.mpr c15
                        have H' := Aside0.mk H
                        clear H
                        go_wp2
                        go_roundg k3
                        case measure => have := HK1.out; have := HJ6.out; have := HK3.out; omega
                        case rel => exact ⟨(x7_3), (wrap64 (x13_1 + 1)), (by first | rfl | (simp; done) | (simp [*]; done)), H', ⟨by have := HK1.out; have := HJ6.out; have := HK3.out; omega⟩, ⟨by (with_reducible repeat (first | apply Kd.R_alloc | apply Kd.R_drewN | apply Kd.R_drew)); exact Kd.R_mono HO_7.out (fun _ hk => trivial)⟩, ⟨by repeat (first | (with_reducible first | exact HB.out | apply below_alloc | apply pw_below_drewN | apply below_drew1 | refine below_set ?_ GE111.out) | exact HB.out)⟩⟩
                · rw [if_neg c12] at H
                  exact absurd H (by simp)
          · rw [if_neg c6] at H
            exact absurd H (by simp)
        · rw [if_neg c5] at H
          exact absurd H (by simp)
      · rw [if_neg c4] at H
        have c4b0 : decide (x13_1 < (l0.length : Int)) = false := decide_eq_false c4
        clear c4
        obtain rfl := Option.some.inj H
        go_wp2
        go_ret
        exact ⟨_, by first | rfl | (simp [errW_none, errW_some] <;> rfl) | (simp [*, errW_none, errW_some] <;> rfl), by (with_reducible repeat (first | apply Kd.R_alloc | apply Kd.R_drewN | apply Kd.R_drew)); exact HO_7.out, by repeat (first | (with_reducible first | exact HB.out | apply below_alloc | apply pw_below_drewN | apply below_drew1) | exact HB.out)⟩
/-! ### laws_FnCompletedCursor: function 8 -/
mutual
def laws_FnCompletedCursor.j0 : Nat → List ByteArray → Int → List ByteArray → ByteArray → Int → Bool → Option (Bool)
  | 0, _, _, _, _, _, _ => none
  | k + 1, x0, x1, x2, x3, x4, x33 => if x33 = true then (some true) else ((laws_names9.f k x0).bind fun t121 => (if t121 = true then ((laws_names9.f k x2).bind fun t122 => (if t122 = true then (if (x0.length : Int) = 0 then (laws_FnCompletedCursor.j1 k x0 x1 x2 x3 x4 true) else ((laws_ascii9.f k x3).bind fun t123 => (if t123 = true then (if x4 < 0 then (laws_FnCompletedCursor.j1 k x0 x1 x2 x3 x4 true) else (laws_FnCompletedCursor.j1 k x0 x1 x2 x3 x4 (decide (x4 > (x3.size : Int))))) else (laws_FnCompletedCursor.j1 k x0 x1 x2 x3 x4 true)))) else (laws_FnCompletedCursor.j1 k x0 x1 x2 x3 x4 true))) else (laws_FnCompletedCursor.j1 k x0 x1 x2 x3 x4 true)))
def laws_FnCompletedCursor.j1 : Nat → List ByteArray → Int → List ByteArray → ByteArray → Int → Bool → Option (Bool)
  | 0, _, _, _, _, _, _ => none
  | k + 1, x0, x1, x2, x3, x4, x61 => if x61 = true then (some true) else (if (x0.length : Int) = 0 then (none) else ((spec_Tree.f k x0 (Int.tmod (wrap64 (x1)) (x0.length : Int)) x2).bind fun t124 => ((impl_Completed.f t124 x3 x4).bind fun bt127 => (if 0 ≤ x4 then (if x4 ≤ (x3.size : Int) then ((impl_Completed.f t124 (x3.extract 0 (x4 : Int).toNat) x4).bind fun bt132 => ((impl_Completed.f t124 (⟨#[]⟩ : ByteArray) 0).bind fun bt137 => (if bt137.2.2 = true then (if (bt127.2.2 == bt132.2.2) = true then ((spec_SameTexts9.f k bt127.1 bt132.1).bind fun t142 => (if t142 = true then (some (bt127.2.1 == bt132.2.1)) else (some false))) else (some false)) else (some false)))) else (none)) else (none)))))
end
def laws_FnCompletedCursor.f (k : Nat) (l0 : List ByteArray) (a1 : Int) (l2 : List ByteArray) (a3 : ByteArray) (a4 : Int) : Option (Bool) := (laws_zzFits1.f k l0).bind fun t119 => (if t119 = true then ((laws_zzFits1.f k l2).bind fun t120 => (if t120 = true then (laws_FnCompletedCursor.j0 k l0 a1 l2 a3 a4 (decide ((a3.size : Int) > 2147483647))) else (laws_FnCompletedCursor.j0 k l0 a1 l2 a3 a4 true))) else (laws_FnCompletedCursor.j0 k l0 a1 l2 a3 a4 true))
theorem laws_FnCompletedCursor.mono_l : ∀ k, (∀ y0 y1 y2 y3 y4 y5, LeO (laws_FnCompletedCursor.j0 k y0 y1 y2 y3 y4 y5) (laws_FnCompletedCursor.j0 (k + 1) y0 y1 y2 y3 y4 y5)) ∧ (∀ y0 y1 y2 y3 y4 y5, LeO (laws_FnCompletedCursor.j1 k y0 y1 y2 y3 y4 y5) (laws_FnCompletedCursor.j1 (k + 1) y0 y1 y2 y3 y4 y5))
  | 0 => ⟨fun _ _ _ _ _ _ r h => by simp [laws_FnCompletedCursor.j0] at h, fun _ _ _ _ _ _ r h => by simp [laws_FnCompletedCursor.j1] at h⟩
  | k + 1 => by
    obtain ⟨ih0, ih1⟩ := laws_FnCompletedCursor.mono_l k
    refine ⟨?_, ?_⟩
    · intro y0 y1 y2 y3 y4 y5
      unfold laws_FnCompletedCursor.j0
      repeat' first
      | (with_reducible exact ih0 _ _ _ _ _ _)
      | (with_reducible exact ih1 _ _ _ _ _ _)
      | (with_reducible exact laws_ascii9.mono _ _)
      | (with_reducible exact laws_names9.mono _ _)
      | (with_reducible exact laws_zzFits1.mono _ _)
      | (with_reducible exact spec_SameTexts9.mono _ _ _)
      | (with_reducible exact spec_Tree.mono _ _ _ _)
      | (with_reducible exact LeO.refl _)
      | (with_reducible exact LeO.none _)
      | (with_reducible refine LeO.ite ?_ ?_)
      | (with_reducible refine LeO.bind ?_ (fun _ => ?_))
      | exact ih0 _ _ _ _ _ _
      | exact ih1 _ _ _ _ _ _
      | exact laws_ascii9.mono _ _
      | exact laws_names9.mono _ _
      | exact laws_zzFits1.mono _ _
      | exact spec_SameTexts9.mono _ _ _
      | exact spec_Tree.mono _ _ _ _
      | exact LeO.none _
      | refine LeO.ite ?_ ?_
      | refine LeO.bind ?_ (fun _ => ?_)
    · intro y0 y1 y2 y3 y4 y5
      unfold laws_FnCompletedCursor.j1
      repeat' first
      | (with_reducible exact ih0 _ _ _ _ _ _)
      | (with_reducible exact ih1 _ _ _ _ _ _)
      | (with_reducible exact laws_ascii9.mono _ _)
      | (with_reducible exact laws_names9.mono _ _)
      | (with_reducible exact laws_zzFits1.mono _ _)
      | (with_reducible exact spec_SameTexts9.mono _ _ _)
      | (with_reducible exact spec_Tree.mono _ _ _ _)
      | (with_reducible exact LeO.refl _)
      | (with_reducible exact LeO.none _)
      | (with_reducible refine LeO.ite ?_ ?_)
      | (with_reducible refine LeO.bind ?_ (fun _ => ?_))
      | exact ih0 _ _ _ _ _ _
      | exact ih1 _ _ _ _ _ _
      | exact laws_ascii9.mono _ _
      | exact laws_names9.mono _ _
      | exact laws_zzFits1.mono _ _
      | exact spec_SameTexts9.mono _ _ _
      | exact spec_Tree.mono _ _ _ _
      | exact LeO.none _
      | refine LeO.ite ?_ ?_
      | refine LeO.bind ?_ (fun _ => ?_)
theorem laws_FnCompletedCursor.mono : ∀ a0 a1 a2 a3 a4 k, LeO (laws_FnCompletedCursor.f k a0 a1 a2 a3 a4) (laws_FnCompletedCursor.f (k + 1) a0 a1 a2 a3 a4) := by
  intro a0 a1 a2 a3 a4 k
  obtain ⟨ih0, ih1⟩ := laws_FnCompletedCursor.mono_l k
  unfold laws_FnCompletedCursor.f
  repeat' first
      | (with_reducible exact ih0 _ _ _ _ _ _)
      | (with_reducible exact ih1 _ _ _ _ _ _)
      | (with_reducible exact laws_ascii9.mono _ _)
      | (with_reducible exact laws_names9.mono _ _)
      | (with_reducible exact laws_zzFits1.mono _ _)
      | (with_reducible exact spec_SameTexts9.mono _ _ _)
      | (with_reducible exact spec_Tree.mono _ _ _ _)
      | (with_reducible exact LeO.refl _)
      | (with_reducible exact LeO.none _)
      | (with_reducible refine LeO.ite ?_ ?_)
      | (with_reducible refine LeO.bind ?_ (fun _ => ?_))
      | exact ih0 _ _ _ _ _ _
      | exact ih1 _ _ _ _ _ _
      | exact laws_ascii9.mono _ _
      | exact laws_names9.mono _ _
      | exact laws_zzFits1.mono _ _
      | exact spec_SameTexts9.mono _ _ _
      | exact spec_Tree.mono _ _ _ _
      | exact LeO.none _
      | refine LeO.ite ?_ ?_
      | refine LeO.bind ?_ (fun _ => ?_)
set_option maxHeartbeats 8000000 in
set_option maxRecDepth 100000 in
theorem laws_FnCompletedCursor.calls (k : Nat) (A0 : Option Addr) (c0 : Nat) (l0 : List ByteArray) (a1 : Int) (A2 : Option Addr) (c2 : Nat) (l2 : List ByteArray) (a3 : ByteArray) (a4 : Int) (r : Bool) (w : World) (hr0 : Kd.C Kd.string w A0 l0.length l0) (hc0 : l0.length ≤ c0) (hr2 : Kd.C Kd.string w A2 l2.length l2) (hc2 : l2.length ≤ c2) (h : laws_FnCompletedCursor.f k l0 a1 l2 a3 a4 = some r) :
    Calls Tryd.prog 8 #[.slice A0 l0.length c0, .int .u8 a1, .slice A2 l2.length c2, .string a3, .int .i64 a4] w fun e w' => e = .returned (.bool r) ∧ Below w.heap.size w w' := by
  have HR0 := Aside0.mk hr0
  have HC0 := Aside0.mk hc0
  clear hr0 hc0
  have HR2 := Aside0.mk hr2
  have HC2 := Aside0.mk hc2
  clear hr2 hc2
  have HB := Aside0.mk (Below.refl w.heap.size w)
  have H : ((laws_zzFits1.f k l0).bind fun t119 => (if t119 = true then ((laws_zzFits1.f k l2).bind fun t120 => (if t120 = true then (laws_FnCompletedCursor.j0 k l0 a1 l2 a3 a4 (decide ((a3.size : Int) > 2147483647))) else (laws_FnCompletedCursor.j0 k l0 a1 l2 a3 a4 true))) else (laws_FnCompletedCursor.j0 k l0 a1 l2 a3 a4 true))) = some r := h
  clear h
  have HC6 := Aside0.mk H
  clear H
  go_enter Tryd.func8, Tryd.ntmps8
  go_upto_region 1 with (fail)
  go_cut [33] (fun v33 wc => ∃ (kq : Nat) (x33_5 : Bool), v33 = .bool x33_5 ∧ Aside0 (laws_FnCompletedCursor.j0 kq l0 a1 l2 a3 a4 x33_5 = some r) ∧ Aside0 (kq ≤ k) ∧ Aside0 (Below w.heap.size w wc))
  case first =>
    have H := HC6.out
    clear HC6
    replace H := Option.bind_eq_some_iff.mp H
    obtain ⟨t119, A70, H⟩ := H
    replace H : (if t119 = true then ((laws_zzFits1.f k l2).bind fun t120 => (if t120 = true then (laws_FnCompletedCursor.j0 k l0 a1 l2 a3 a4 (decide ((a3.size : Int) > 2147483647))) else (laws_FnCompletedCursor.j0 k l0 a1 l2 a3 a4 true))) else (laws_FnCompletedCursor.j0 k l0 a1 l2 a3 a4 true)) = some r := H
    have A7 := Aside0.mk A70
    clear A70
    by_cases c8 : t119 = true
    · subst c8
      have H1 : ((laws_zzFits1.f k l2).bind fun t120 => (if t120 = true then (laws_FnCompletedCursor.j0 k l0 a1 l2 a3 a4 (decide ((a3.size : Int) > 2147483647))) else (laws_FnCompletedCursor.j0 k l0 a1 l2 a3 a4 true))) = some r := by rw [if_pos rfl] at H; exact H
      clear H
      have H := H1
      clear H1
      replace H := Option.bind_eq_some_iff.mp H
      obtain ⟨t120, A90, H⟩ := H
      replace H : (if t120 = true then (laws_FnCompletedCursor.j0 k l0 a1 l2 a3 a4 (decide ((a3.size : Int) > 2147483647))) else (laws_FnCompletedCursor.j0 k l0 a1 l2 a3 a4 true)) = some r := H
      have A9 := Aside0.mk A90
      clear A90
      by_cases c10 : t120 = true
      · subst c10
        have H1 : (laws_FnCompletedCursor.j0 k l0 a1 l2 a3 a4 (decide ((a3.size : Int) > 2147483647))) = some r := by rw [if_pos rfl] at H; exact H
        clear H
        have H := H1
        clear H1
        have H' := Aside0.mk H
        clear H
        go_wp2_with (first | ((with_reducible refine gate_callee (f := 11) rfl ?_); refine goesL_ (some 22) rfl rfl Tryd.func11 (by kernel_rfl) rfl #[.slice A0 l0.length c0] rfl (by (try simp only [List.map_toArray, List.map_cons, List.map_nil]); first | done | rfl | (simp only [List.length_drop, List.length_take]; rfl) | (simp only [Int.toNat_natCast, ByteArray.extract_zero_size]; rfl)) ?_; (with_reducible refine (laws_zzFits1.calls k _ _ l0 true _ ?side1 ?side2 A7.out).mono ?_); (case side1 => repeat (first | exact (Kd.C_below HR0.out HB.out) | (with_reducible refine Kd.C_alloc ?_ _) | (with_reducible refine Kd.C_drewN ?_ _) | (with_reducible refine Kd.C_drew ?_))); (case side2 => exact HC0.out); rintro e w' ⟨rfl, ⟨nd, rfl⟩⟩; refine ⟨_, rfl, ?_⟩) | (go_at_call 11; (with_reducible refine (laws_zzFits1.calls k _ _ l2 true _ ?side1 ?side2 A9.out).mono ?_); (case side1 => repeat (first | exact (Kd.C_below HR2.out (by repeat (first | (with_reducible first | exact HB.out | apply below_alloc | apply pw_below_drewN | apply below_drew1) | exact HB.out))) | (with_reducible refine Kd.C_alloc ?_ _) | (with_reducible refine Kd.C_drewN ?_ _) | (with_reducible refine Kd.C_drew ?_))); (case side2 => exact HC2.out); rintro e w' ⟨rfl, ⟨nd, rfl⟩⟩))
        go_meet
        case rel => exact ⟨_, (decide ((a3.size : Int) > 2147483647)), (by first | rfl | (simp; done) | (simp [*]; done)), H', ⟨by first | omega | exact Nat.le_refl _⟩, ⟨by repeat (first | (with_reducible first | exact HB.out | apply below_alloc | apply pw_below_drewN | apply below_drew1) | exact HB.out)⟩⟩
      · replace c10 := Bool.eq_false_iff.mpr c10
        subst c10
        have H1 : (laws_FnCompletedCursor.j0 k l0 a1 l2 a3 a4 true) = some r := by rw [if_neg (show ¬ (false = true) by decide)] at H; exact H
        clear H
        have H := H1
        clear H1
        have H' := Aside0.mk H
        clear H
        go_wp2_with (first | ((with_reducible refine gate_callee (f := 11) rfl ?_); refine goesL_ (some 22) rfl rfl Tryd.func11 (by kernel_rfl) rfl #[.slice A0 l0.length c0] rfl (by (try simp only [List.map_toArray, List.map_cons, List.map_nil]); first | done | rfl | (simp only [List.length_drop, List.length_take]; rfl) | (simp only [Int.toNat_natCast, ByteArray.extract_zero_size]; rfl)) ?_; (with_reducible refine (laws_zzFits1.calls k _ _ l0 true _ ?side1 ?side2 A7.out).mono ?_); (case side1 => repeat (first | exact (Kd.C_below HR0.out HB.out) | (with_reducible refine Kd.C_alloc ?_ _) | (with_reducible refine Kd.C_drewN ?_ _) | (with_reducible refine Kd.C_drew ?_))); (case side2 => exact HC0.out); rintro e w' ⟨rfl, ⟨nd, rfl⟩⟩; refine ⟨_, rfl, ?_⟩) | (go_at_call 11; (with_reducible refine (laws_zzFits1.calls k _ _ l2 false _ ?side1 ?side2 A9.out).mono ?_); (case side1 => repeat (first | exact (Kd.C_below HR2.out (by repeat (first | (with_reducible first | exact HB.out | apply below_alloc | apply pw_below_drewN | apply below_drew1) | exact HB.out))) | (with_reducible refine Kd.C_alloc ?_ _) | (with_reducible refine Kd.C_drewN ?_ _) | (with_reducible refine Kd.C_drew ?_))); (case side2 => exact HC2.out); rintro e w' ⟨rfl, ⟨nd, rfl⟩⟩))
        go_meet
        case rel => exact ⟨_, (true), (by first | rfl | (simp; done) | (simp [*]; done)), H', ⟨by first | omega | exact Nat.le_refl _⟩, ⟨by repeat (first | (with_reducible first | exact HB.out | apply below_alloc | apply pw_below_drewN | apply below_drew1) | exact HB.out)⟩⟩
    · replace c8 := Bool.eq_false_iff.mpr c8
      subst c8
      have H1 : (laws_FnCompletedCursor.j0 k l0 a1 l2 a3 a4 true) = some r := by rw [if_neg (show ¬ (false = true) by decide)] at H; exact H
      clear H
      have H := H1
      clear H1
      have H' := Aside0.mk H
      clear H
      go_wp2_with (first | ((with_reducible refine gate_callee (f := 11) rfl ?_); refine goesL_ (some 22) rfl rfl Tryd.func11 (by kernel_rfl) rfl #[.slice A0 l0.length c0] rfl (by (try simp only [List.map_toArray, List.map_cons, List.map_nil]); first | done | rfl | (simp only [List.length_drop, List.length_take]; rfl) | (simp only [Int.toNat_natCast, ByteArray.extract_zero_size]; rfl)) ?_; (with_reducible refine (laws_zzFits1.calls k _ _ l0 false _ ?side1 ?side2 A7.out).mono ?_); (case side1 => repeat (first | exact (Kd.C_below HR0.out HB.out) | (with_reducible refine Kd.C_alloc ?_ _) | (with_reducible refine Kd.C_drewN ?_ _) | (with_reducible refine Kd.C_drew ?_))); (case side2 => exact HC0.out); rintro e w' ⟨rfl, ⟨nd, rfl⟩⟩; refine ⟨_, rfl, ?_⟩))
      go_meet
      case rel => exact ⟨_, (true), (by first | rfl | (simp; done) | (simp [*]; done)), H', ⟨by first | omega | exact Nat.le_refl _⟩, ⟨by repeat (first | (with_reducible first | exact HB.out | apply below_alloc | apply pw_below_drewN | apply below_drew1) | exact HB.out)⟩⟩
  case rest =>
    clear HC6
    try clear c1
    try clear c2
    try clear p2
    try clear c8
    try clear c10
    obtain ⟨kq, x33_5, rfl, HA, HJ5, HB⟩ := hcut
    cases kq with
    | zero => exact absurd HA.out (by simp [laws_FnCompletedCursor.j0])
    | succ kj5 =>
      have H := HA.out
      clear HA
      simp only [laws_FnCompletedCursor.j0] at H
      by_cases c11 : x33_5 = true
      · subst c11
        have H1 : (some true) = some r := by rw [if_pos rfl] at H; exact H
        clear H
        have H := H1
        clear H1
        obtain rfl := Option.some.inj H
        go_wp2
        go_ret
        exact ⟨by first | rfl | (simp [errW_none, errW_some] <;> rfl) | (simp [*, errW_none, errW_some] <;> rfl), by repeat (first | (with_reducible first | exact HB.out | apply below_alloc | apply pw_below_drewN | apply below_drew1) | exact HB.out)⟩
      · replace c11 := Bool.eq_false_iff.mpr c11
        subst c11
        have H1 : ((laws_names9.f kj5 l0).bind fun t121 => (if t121 = true then ((laws_names9.f kj5 l2).bind fun t122 => (if t122 = true then (if (l0.length : Int) = 0 then (laws_FnCompletedCursor.j1 kj5 l0 a1 l2 a3 a4 true) else ((laws_ascii9.f kj5 a3).bind fun t123 => (if t123 = true then (if a4 < 0 then (laws_FnCompletedCursor.j1 kj5 l0 a1 l2 a3 a4 true) else (laws_FnCompletedCursor.j1 kj5 l0 a1 l2 a3 a4 (decide (a4 > (a3.size : Int))))) else (laws_FnCompletedCursor.j1 kj5 l0 a1 l2 a3 a4 true)))) else (laws_FnCompletedCursor.j1 kj5 l0 a1 l2 a3 a4 true))) else (laws_FnCompletedCursor.j1 kj5 l0 a1 l2 a3 a4 true))) = some r := by rw [if_neg (show ¬ (false = true) by decide)] at H; exact H
        clear H
        have H := H1
        clear H1
        have HC12 := Aside0.mk H
        clear H
        go_upto_region 3 with (fail)
        go_cut [61] (fun v61 wc => ∃ (kq : Nat) (x61_11 : Bool), v61 = .bool x61_11 ∧ Aside0 (laws_FnCompletedCursor.j1 kq l0 a1 l2 a3 a4 x61_11 = some r) ∧ Aside0 (kq ≤ kj5) ∧ Aside0 (Below w.heap.size w wc))
        case first =>
          have H := HC12.out
          clear HC12
          replace H := Option.bind_eq_some_iff.mp H
          obtain ⟨t121, A130, H⟩ := H
          replace H : (if t121 = true then ((laws_names9.f kj5 l2).bind fun t122 => (if t122 = true then (if (l0.length : Int) = 0 then (laws_FnCompletedCursor.j1 kj5 l0 a1 l2 a3 a4 true) else ((laws_ascii9.f kj5 a3).bind fun t123 => (if t123 = true then (if a4 < 0 then (laws_FnCompletedCursor.j1 kj5 l0 a1 l2 a3 a4 true) else (laws_FnCompletedCursor.j1 kj5 l0 a1 l2 a3 a4 (decide (a4 > (a3.size : Int))))) else (laws_FnCompletedCursor.j1 kj5 l0 a1 l2 a3 a4 true)))) else (laws_FnCompletedCursor.j1 kj5 l0 a1 l2 a3 a4 true))) else (laws_FnCompletedCursor.j1 kj5 l0 a1 l2 a3 a4 true)) = some r := H
          have A13 := Aside0.mk A130
          clear A130
          by_cases c14 : t121 = true
          · subst c14
            have H1 : ((laws_names9.f kj5 l2).bind fun t122 => (if t122 = true then (if (l0.length : Int) = 0 then (laws_FnCompletedCursor.j1 kj5 l0 a1 l2 a3 a4 true) else ((laws_ascii9.f kj5 a3).bind fun t123 => (if t123 = true then (if a4 < 0 then (laws_FnCompletedCursor.j1 kj5 l0 a1 l2 a3 a4 true) else (laws_FnCompletedCursor.j1 kj5 l0 a1 l2 a3 a4 (decide (a4 > (a3.size : Int))))) else (laws_FnCompletedCursor.j1 kj5 l0 a1 l2 a3 a4 true)))) else (laws_FnCompletedCursor.j1 kj5 l0 a1 l2 a3 a4 true))) = some r := by rw [if_pos rfl] at H; exact H
            clear H
            have H := H1
            clear H1
            replace H := Option.bind_eq_some_iff.mp H
            obtain ⟨t122, A150, H⟩ := H
            replace H : (if t122 = true then (if (l0.length : Int) = 0 then (laws_FnCompletedCursor.j1 kj5 l0 a1 l2 a3 a4 true) else ((laws_ascii9.f kj5 a3).bind fun t123 => (if t123 = true then (if a4 < 0 then (laws_FnCompletedCursor.j1 kj5 l0 a1 l2 a3 a4 true) else (laws_FnCompletedCursor.j1 kj5 l0 a1 l2 a3 a4 (decide (a4 > (a3.size : Int))))) else (laws_FnCompletedCursor.j1 kj5 l0 a1 l2 a3 a4 true)))) else (laws_FnCompletedCursor.j1 kj5 l0 a1 l2 a3 a4 true)) = some r := H
            have A15 := Aside0.mk A150
            clear A150
            by_cases c16 : t122 = true
            · subst c16
              have H1 : (if (l0.length : Int) = 0 then (laws_FnCompletedCursor.j1 kj5 l0 a1 l2 a3 a4 true) else ((laws_ascii9.f kj5 a3).bind fun t123 => (if t123 = true then (if a4 < 0 then (laws_FnCompletedCursor.j1 kj5 l0 a1 l2 a3 a4 true) else (laws_FnCompletedCursor.j1 kj5 l0 a1 l2 a3 a4 (decide (a4 > (a3.size : Int))))) else (laws_FnCompletedCursor.j1 kj5 l0 a1 l2 a3 a4 true)))) = some r := by rw [if_pos rfl] at H; exact H
              clear H
              have H := H1
              clear H1
              by_cases c17 : (l0.length : Int) = 0
              · rw [if_pos c17] at H
                have c17b0 : ((l0.length : Int) == 0) = true := beq_iff_eq.mpr c17
                have c17b1 : ((l0.length : Int) != 0) = false := bne_eq_false_iff_eq.mpr c17
                clear c17
                (first | rw [c17b0] | (simp only [i64_w, i32_w]; rw [c17b0]) | skip)
                have H' := Aside0.mk H
                clear H
                go_wp2_with (first | ((with_reducible refine gate_callee (f := 25) rfl ?_); refine goesL_ (some 35) rfl rfl Tryd.func25 (by kernel_rfl) rfl #[.slice A0 l0.length c0] rfl (by (try simp only [List.map_toArray, List.map_cons, List.map_nil]); first | done | rfl | (simp only [List.length_drop, List.length_take]; rfl) | (simp only [Int.toNat_natCast, ByteArray.extract_zero_size]; rfl)) ?_; (with_reducible refine (laws_names9.calls kj5 _ _ l0 true _ ?side1 ?side2 A13.out).mono ?_); (case side1 => repeat (first | exact (Kd.C_below HR0.out HB.out) | (with_reducible refine Kd.C_alloc ?_ _) | (with_reducible refine Kd.C_drewN ?_ _) | (with_reducible refine Kd.C_drew ?_))); (case side2 => exact HC0.out); rintro e w' ⟨rfl, ⟨nd, rfl⟩⟩; refine ⟨_, rfl, ?_⟩) | (go_at_call 25; (with_reducible refine (laws_names9.calls kj5 _ _ l2 true _ ?side1 ?side2 A15.out).mono ?_); (case side1 => repeat (first | exact (Kd.C_below HR2.out (by repeat (first | (with_reducible first | exact HB.out | apply below_alloc | apply pw_below_drewN | apply below_drew1) | exact HB.out))) | (with_reducible refine Kd.C_alloc ?_ _) | (with_reducible refine Kd.C_drewN ?_ _) | (with_reducible refine Kd.C_drew ?_))); (case side2 => exact HC2.out); rintro e w' ⟨rfl, ⟨nd, rfl⟩⟩))
                go_meet
                case rel => exact ⟨_, (true), (by first | rfl | (simp; done) | (simp [*]; done)), H', ⟨by have := HJ5.out; first | omega | exact Nat.le_refl _⟩, ⟨by repeat (first | (with_reducible first | exact HB.out | apply below_alloc | apply pw_below_drewN | apply below_drew1) | exact HB.out)⟩⟩
              · rw [if_neg c17] at H
                have c17b0 : ((l0.length : Int) == 0) = false := beq_eq_false_iff_ne.mpr c17
                have c17b1 : ((l0.length : Int) != 0) = true := bne_iff_ne.mpr c17
                have c17b2 : ¬ (l0 = []) := fun h_ => c17 (by rw [h_]; rfl)
                (first | rw [c17b0] | (simp only [i64_w, i32_w]; rw [c17b0]) | skip)
                replace H := Option.bind_eq_some_iff.mp H
                obtain ⟨t123, A180, H⟩ := H
                replace H : (if t123 = true then (if a4 < 0 then (laws_FnCompletedCursor.j1 kj5 l0 a1 l2 a3 a4 true) else (laws_FnCompletedCursor.j1 kj5 l0 a1 l2 a3 a4 (decide (a4 > (a3.size : Int))))) else (laws_FnCompletedCursor.j1 kj5 l0 a1 l2 a3 a4 true)) = some r := H
                have A18 := Aside0.mk A180
                clear A180
                by_cases c19 : t123 = true
                · subst c19
                  have H1 : (if a4 < 0 then (laws_FnCompletedCursor.j1 kj5 l0 a1 l2 a3 a4 true) else (laws_FnCompletedCursor.j1 kj5 l0 a1 l2 a3 a4 (decide (a4 > (a3.size : Int))))) = some r := by rw [if_pos rfl] at H; exact H
                  clear H
                  have H := H1
                  clear H1
                  by_cases c20 : a4 < 0
                  · rw [if_pos c20] at H
                    have c20b0 : decide (a4 < 0) = true := decide_eq_true c20
                    clear c20
                    have H' := Aside0.mk H
                    clear H
                    go_wp2_with (first | ((with_reducible refine gate_callee (f := 25) rfl ?_); refine goesL_ (some 35) rfl rfl Tryd.func25 (by kernel_rfl) rfl #[.slice A0 l0.length c0] rfl (by (try simp only [List.map_toArray, List.map_cons, List.map_nil]); first | done | rfl | (simp only [List.length_drop, List.length_take]; rfl) | (simp only [Int.toNat_natCast, ByteArray.extract_zero_size]; rfl)) ?_; (with_reducible refine (laws_names9.calls kj5 _ _ l0 true _ ?side1 ?side2 A13.out).mono ?_); (case side1 => repeat (first | exact (Kd.C_below HR0.out HB.out) | (with_reducible refine Kd.C_alloc ?_ _) | (with_reducible refine Kd.C_drewN ?_ _) | (with_reducible refine Kd.C_drew ?_))); (case side2 => exact HC0.out); rintro e w' ⟨rfl, ⟨nd, rfl⟩⟩; refine ⟨_, rfl, ?_⟩) | (go_at_call 25; (with_reducible refine (laws_names9.calls kj5 _ _ l2 true _ ?side1 ?side2 A15.out).mono ?_); (case side1 => repeat (first | exact (Kd.C_below HR2.out (by repeat (first | (with_reducible first | exact HB.out | apply below_alloc | apply pw_below_drewN | apply below_drew1) | exact HB.out))) | (with_reducible refine Kd.C_alloc ?_ _) | (with_reducible refine Kd.C_drewN ?_ _) | (with_reducible refine Kd.C_drew ?_))); (case side2 => exact HC2.out); rintro e w' ⟨rfl, ⟨nd, rfl⟩⟩) | (go_at_call 29; (with_reducible refine (laws_ascii9.calls kj5 a3 true _ A18.out).mono ?_); rintro e w' ⟨rfl, ⟨nd, rfl⟩⟩))
                    go_meet
                    case rel => exact ⟨_, (true), (by first | rfl | (simp; done) | (simp [*]; done)), H', ⟨by have := HJ5.out; first | omega | exact Nat.le_refl _⟩, ⟨by repeat (first | (with_reducible first | exact HB.out | apply below_alloc | apply pw_below_drewN | apply below_drew1) | exact HB.out)⟩⟩
                  · rw [if_neg c20] at H
                    have c20b0 : decide (a4 < 0) = false := decide_eq_false c20
                    clear c20
                    have H' := Aside0.mk H
                    clear H
                    go_wp2_with (first | ((with_reducible refine gate_callee (f := 25) rfl ?_); refine goesL_ (some 35) rfl rfl Tryd.func25 (by kernel_rfl) rfl #[.slice A0 l0.length c0] rfl (by (try simp only [List.map_toArray, List.map_cons, List.map_nil]); first | done | rfl | (simp only [List.length_drop, List.length_take]; rfl) | (simp only [Int.toNat_natCast, ByteArray.extract_zero_size]; rfl)) ?_; (with_reducible refine (laws_names9.calls kj5 _ _ l0 true _ ?side1 ?side2 A13.out).mono ?_); (case side1 => repeat (first | exact (Kd.C_below HR0.out HB.out) | (with_reducible refine Kd.C_alloc ?_ _) | (with_reducible refine Kd.C_drewN ?_ _) | (with_reducible refine Kd.C_drew ?_))); (case side2 => exact HC0.out); rintro e w' ⟨rfl, ⟨nd, rfl⟩⟩; refine ⟨_, rfl, ?_⟩) | (go_at_call 25; (with_reducible refine (laws_names9.calls kj5 _ _ l2 true _ ?side1 ?side2 A15.out).mono ?_); (case side1 => repeat (first | exact (Kd.C_below HR2.out (by repeat (first | (with_reducible first | exact HB.out | apply below_alloc | apply pw_below_drewN | apply below_drew1) | exact HB.out))) | (with_reducible refine Kd.C_alloc ?_ _) | (with_reducible refine Kd.C_drewN ?_ _) | (with_reducible refine Kd.C_drew ?_))); (case side2 => exact HC2.out); rintro e w' ⟨rfl, ⟨nd, rfl⟩⟩) | (go_at_call 29; (with_reducible refine (laws_ascii9.calls kj5 a3 true _ A18.out).mono ?_); rintro e w' ⟨rfl, ⟨nd, rfl⟩⟩))
                    go_meet
                    case rel => exact ⟨_, (decide (a4 > (a3.size : Int))), (by first | rfl | (simp; done) | (simp [*]; done)), H', ⟨by have := HJ5.out; first | omega | exact Nat.le_refl _⟩, ⟨by repeat (first | (with_reducible first | exact HB.out | apply below_alloc | apply pw_below_drewN | apply below_drew1) | exact HB.out)⟩⟩
                · replace c19 := Bool.eq_false_iff.mpr c19
                  subst c19
                  have H1 : (laws_FnCompletedCursor.j1 kj5 l0 a1 l2 a3 a4 true) = some r := by rw [if_neg (show ¬ (false = true) by decide)] at H; exact H
                  clear H
                  have H := H1
                  clear H1
                  have H' := Aside0.mk H
                  clear H
                  go_wp2_with (first | ((with_reducible refine gate_callee (f := 25) rfl ?_); refine goesL_ (some 35) rfl rfl Tryd.func25 (by kernel_rfl) rfl #[.slice A0 l0.length c0] rfl (by (try simp only [List.map_toArray, List.map_cons, List.map_nil]); first | done | rfl | (simp only [List.length_drop, List.length_take]; rfl) | (simp only [Int.toNat_natCast, ByteArray.extract_zero_size]; rfl)) ?_; (with_reducible refine (laws_names9.calls kj5 _ _ l0 true _ ?side1 ?side2 A13.out).mono ?_); (case side1 => repeat (first | exact (Kd.C_below HR0.out HB.out) | (with_reducible refine Kd.C_alloc ?_ _) | (with_reducible refine Kd.C_drewN ?_ _) | (with_reducible refine Kd.C_drew ?_))); (case side2 => exact HC0.out); rintro e w' ⟨rfl, ⟨nd, rfl⟩⟩; refine ⟨_, rfl, ?_⟩) | (go_at_call 25; (with_reducible refine (laws_names9.calls kj5 _ _ l2 true _ ?side1 ?side2 A15.out).mono ?_); (case side1 => repeat (first | exact (Kd.C_below HR2.out (by repeat (first | (with_reducible first | exact HB.out | apply below_alloc | apply pw_below_drewN | apply below_drew1) | exact HB.out))) | (with_reducible refine Kd.C_alloc ?_ _) | (with_reducible refine Kd.C_drewN ?_ _) | (with_reducible refine Kd.C_drew ?_))); (case side2 => exact HC2.out); rintro e w' ⟨rfl, ⟨nd, rfl⟩⟩) | (go_at_call 29; (with_reducible refine (laws_ascii9.calls kj5 a3 false _ A18.out).mono ?_); rintro e w' ⟨rfl, ⟨nd, rfl⟩⟩))
                  go_meet
                  case rel => exact ⟨_, (true), (by first | rfl | (simp; done) | (simp [*]; done)), H', ⟨by have := HJ5.out; first | omega | exact Nat.le_refl _⟩, ⟨by repeat (first | (with_reducible first | exact HB.out | apply below_alloc | apply pw_below_drewN | apply below_drew1) | exact HB.out)⟩⟩
            · replace c16 := Bool.eq_false_iff.mpr c16
              subst c16
              have H1 : (laws_FnCompletedCursor.j1 kj5 l0 a1 l2 a3 a4 true) = some r := by rw [if_neg (show ¬ (false = true) by decide)] at H; exact H
              clear H
              have H := H1
              clear H1
              have H' := Aside0.mk H
              clear H
              go_wp2_with (first | ((with_reducible refine gate_callee (f := 25) rfl ?_); refine goesL_ (some 35) rfl rfl Tryd.func25 (by kernel_rfl) rfl #[.slice A0 l0.length c0] rfl (by (try simp only [List.map_toArray, List.map_cons, List.map_nil]); first | done | rfl | (simp only [List.length_drop, List.length_take]; rfl) | (simp only [Int.toNat_natCast, ByteArray.extract_zero_size]; rfl)) ?_; (with_reducible refine (laws_names9.calls kj5 _ _ l0 true _ ?side1 ?side2 A13.out).mono ?_); (case side1 => repeat (first | exact (Kd.C_below HR0.out HB.out) | (with_reducible refine Kd.C_alloc ?_ _) | (with_reducible refine Kd.C_drewN ?_ _) | (with_reducible refine Kd.C_drew ?_))); (case side2 => exact HC0.out); rintro e w' ⟨rfl, ⟨nd, rfl⟩⟩; refine ⟨_, rfl, ?_⟩) | (go_at_call 25; (with_reducible refine (laws_names9.calls kj5 _ _ l2 false _ ?side1 ?side2 A15.out).mono ?_); (case side1 => repeat (first | exact (Kd.C_below HR2.out (by repeat (first | (with_reducible first | exact HB.out | apply below_alloc | apply pw_below_drewN | apply below_drew1) | exact HB.out))) | (with_reducible refine Kd.C_alloc ?_ _) | (with_reducible refine Kd.C_drewN ?_ _) | (with_reducible refine Kd.C_drew ?_))); (case side2 => exact HC2.out); rintro e w' ⟨rfl, ⟨nd, rfl⟩⟩))
              go_meet
              case rel => exact ⟨_, (true), (by first | rfl | (simp; done) | (simp [*]; done)), H', ⟨by have := HJ5.out; first | omega | exact Nat.le_refl _⟩, ⟨by repeat (first | (with_reducible first | exact HB.out | apply below_alloc | apply pw_below_drewN | apply below_drew1) | exact HB.out)⟩⟩
          · replace c14 := Bool.eq_false_iff.mpr c14
            subst c14
            have H1 : (laws_FnCompletedCursor.j1 kj5 l0 a1 l2 a3 a4 true) = some r := by rw [if_neg (show ¬ (false = true) by decide)] at H; exact H
            clear H
            have H := H1
            clear H1
            have H' := Aside0.mk H
            clear H
            go_wp2_with (first | ((with_reducible refine gate_callee (f := 25) rfl ?_); refine goesL_ (some 35) rfl rfl Tryd.func25 (by kernel_rfl) rfl #[.slice A0 l0.length c0] rfl (by (try simp only [List.map_toArray, List.map_cons, List.map_nil]); first | done | rfl | (simp only [List.length_drop, List.length_take]; rfl) | (simp only [Int.toNat_natCast, ByteArray.extract_zero_size]; rfl)) ?_; (with_reducible refine (laws_names9.calls kj5 _ _ l0 false _ ?side1 ?side2 A13.out).mono ?_); (case side1 => repeat (first | exact (Kd.C_below HR0.out HB.out) | (with_reducible refine Kd.C_alloc ?_ _) | (with_reducible refine Kd.C_drewN ?_ _) | (with_reducible refine Kd.C_drew ?_))); (case side2 => exact HC0.out); rintro e w' ⟨rfl, ⟨nd, rfl⟩⟩; refine ⟨_, rfl, ?_⟩))
            go_meet
            case rel => exact ⟨_, (true), (by first | rfl | (simp; done) | (simp [*]; done)), H', ⟨by have := HJ5.out; first | omega | exact Nat.le_refl _⟩, ⟨by repeat (first | (with_reducible first | exact HB.out | apply below_alloc | apply pw_below_drewN | apply below_drew1) | exact HB.out)⟩⟩
        case rest =>
          clear HC12
          try clear c1
          try clear c2
          try clear p2
          try clear c8
          try clear c10
          try clear c11
          try clear c14
          try clear c16
          try clear c17
          try clear c17b0
          try clear c17b1
          try clear c17b2
          try clear c19
          try clear c20
          try clear c20b0
          try clear p2
          obtain ⟨kq, x61_11, rfl, HA, HJ11, HB⟩ := hcut
          cases kq with
          | zero => exact absurd HA.out (by simp [laws_FnCompletedCursor.j1])
          | succ kj11 =>
            have H := HA.out
            clear HA
            simp only [laws_FnCompletedCursor.j1] at H
            by_cases c21 : x61_11 = true
            · subst c21
              have H1 : (some true) = some r := by rw [if_pos rfl] at H; exact H
              clear H
              have H := H1
              clear H1
              obtain rfl := Option.some.inj H
              go_wp2
              go_ret
              exact ⟨by first | rfl | (simp [errW_none, errW_some] <;> rfl) | (simp [*, errW_none, errW_some] <;> rfl), by repeat (first | (with_reducible first | exact HB.out | apply below_alloc | apply pw_below_drewN | apply below_drew1) | exact HB.out)⟩
            · replace c21 := Bool.eq_false_iff.mpr c21
              subst c21
              have H1 : (if (l0.length : Int) = 0 then (none) else ((spec_Tree.f kj11 l0 (Int.tmod (wrap64 (a1)) (l0.length : Int)) l2).bind fun t124 => ((impl_Completed.f t124 a3 a4).bind fun bt127 => (if 0 ≤ a4 then (if a4 ≤ (a3.size : Int) then ((impl_Completed.f t124 (a3.extract 0 (a4 : Int).toNat) a4).bind fun bt132 => ((impl_Completed.f t124 (⟨#[]⟩ : ByteArray) 0).bind fun bt137 => (if bt137.2.2 = true then (if (bt127.2.2 == bt132.2.2) = true then ((spec_SameTexts9.f kj11 bt127.1 bt132.1).bind fun t142 => (if t142 = true then (some (bt127.2.1 == bt132.2.1)) else (some false))) else (some false)) else (some false)))) else (none)) else (none))))) = some r := by rw [if_neg (show ¬ (false = true) by decide)] at H; exact H
              clear H
              have H := H1
              clear H1
              by_cases c22 : (l0.length : Int) = 0
              · rw [if_pos c22] at H
                exact absurd H (by simp)
              · rw [if_neg c22] at H
                have c22b0 : ((l0.length : Int) == 0) = false := beq_eq_false_iff_ne.mpr c22
                have c22b1 : ((l0.length : Int) != 0) = true := bne_iff_ne.mpr c22
                have c22b2 : ¬ (l0 = []) := fun h_ => c22 (by rw [h_]; rfl)
                replace H := Option.bind_eq_some_iff.mp H
                obtain ⟨t124, A230, H⟩ := H
                replace H : ((impl_Completed.f t124 a3 a4).bind fun bt127 => (if 0 ≤ a4 then (if a4 ≤ (a3.size : Int) then ((impl_Completed.f t124 (a3.extract 0 (a4 : Int).toNat) a4).bind fun bt132 => ((impl_Completed.f t124 (⟨#[]⟩ : ByteArray) 0).bind fun bt137 => (if bt137.2.2 = true then (if (bt127.2.2 == bt132.2.2) = true then ((spec_SameTexts9.f kj11 bt127.1 bt132.1).bind fun t142 => (if t142 = true then (some (bt127.2.1 == bt132.2.1)) else (some false))) else (some false)) else (some false)))) else (none)) else (none))) = some r := H
                have A23 := Aside0.mk A230
                clear A230
                replace H := Option.bind_eq_some_iff.mp H
                obtain ⟨⟨t127, t128, t129⟩, A240, H⟩ := H
                replace H : (if 0 ≤ a4 then (if a4 ≤ (a3.size : Int) then ((impl_Completed.f t124 (a3.extract 0 (a4 : Int).toNat) a4).bind fun bt132 => ((impl_Completed.f t124 (⟨#[]⟩ : ByteArray) 0).bind fun bt137 => (if bt137.2.2 = true then (if (t129 == bt132.2.2) = true then ((spec_SameTexts9.f kj11 t127 bt132.1).bind fun t142 => (if t142 = true then (some (t128 == bt132.2.1)) else (some false))) else (some false)) else (some false)))) else (none)) else (none)) = some r := H
                have A24 := Aside0.mk A240
                clear A240
                by_cases c25 : 0 ≤ a4
                · rw [if_pos c25] at H
                  have c25b0 := eq_true c25
                  have c25b1 : decide (0 ≤ a4) = true := decide_eq_true c25
                  clear c25
                  by_cases c26 : a4 ≤ (a3.size : Int)
                  · rw [if_pos c26] at H
                    have c26b0 := eq_true c26
                    have c26b1 : decide (a4 ≤ (a3.size : Int)) = true := decide_eq_true c26
                    clear c26
                    replace H := Option.bind_eq_some_iff.mp H
                    obtain ⟨⟨t132, t133, t134⟩, A270, H⟩ := H
                    replace H : ((impl_Completed.f t124 (⟨#[]⟩ : ByteArray) 0).bind fun bt137 => (if bt137.2.2 = true then (if (t129 == t134) = true then ((spec_SameTexts9.f kj11 t127 t132).bind fun t142 => (if t142 = true then (some (t128 == t133)) else (some false))) else (some false)) else (some false))) = some r := H
                    have A27 := Aside0.mk A270
                    clear A270
                    replace H := Option.bind_eq_some_iff.mp H
                    obtain ⟨⟨t137, t138, t139⟩, A280, H⟩ := H
                    replace H : (if t139 = true then (if (t129 == t134) = true then ((spec_SameTexts9.f kj11 t127 t132).bind fun t142 => (if t142 = true then (some (t128 == t133)) else (some false))) else (some false)) else (some false)) = some r := H
                    have A28 := Aside0.mk A280
                    clear A280
                    by_cases c29 : t139 = true
                    · subst c29
                      have H1 : (if (t129 == t134) = true then ((spec_SameTexts9.f kj11 t127 t132).bind fun t142 => (if t142 = true then (some (t128 == t133)) else (some false))) else (some false)) = some r := by rw [if_pos rfl] at H; exact H
                      clear H
                      have H := H1
                      clear H1
                      by_cases c30 : (t129 == t134) = true
                      · rw [if_pos c30] at H
                        have c30b0 : (t129 == t134) = true := c30
                        (try (have c30b1 : decide (t129 = t134) = true := by simpa using c30))
                        (try (have c30b2 : (t129 == t134) = true := by simpa using c30))
                        clear c30
                        replace H := Option.bind_eq_some_iff.mp H
                        obtain ⟨t142, A310, H⟩ := H
                        replace H : (if t142 = true then (some (t128 == t133)) else (some false)) = some r := H
                        have A31 := Aside0.mk A310
                        clear A310
                        by_cases c32 : t142 = true
                        · subst c32
                          have H1 : (some (t128 == t133)) = some r := by rw [if_pos rfl] at H; exact H
                          clear H
                          have H := H1
                          clear H1
                          obtain rfl := Option.some.inj H
                          go_wp2_with (first | ((with_reducible refine gate_callee (f := 30) rfl ?_); refine goesL_ (some 69) rfl rfl Tryd.func30 (by kernel_rfl) rfl #[.slice A0 l0.length c0, .int .i64 (Int.tmod (wrap64 (a1)) (l0.length : Int)), .slice A2 l2.length c2] rfl (by (try simp only [List.map_toArray, List.map_cons, List.map_nil]); first | done | rfl | (simp only [List.length_drop, List.length_take]; rfl) | (simp only [Int.toNat_natCast, ByteArray.extract_zero_size]; rfl)) ?_; (with_reducible refine (spec_Tree.calls kj11 _ _ l0 (Int.tmod (wrap64 (a1)) (l0.length : Int)) _ _ l2 t124 _ ?side1 ?side2 ?side3 ?side4 A23.out).mono ?_); (case side1 => repeat (first | exact (Kd.C_below HR0.out HB.out) | (with_reducible refine Kd.C_alloc ?_ _) | (with_reducible refine Kd.C_drewN ?_ _) | (with_reducible refine Kd.C_drew ?_))); (case side2 => exact HC0.out); (case side3 => repeat (first | exact (Kd.C_below HR2.out HB.out) | (with_reducible refine Kd.C_alloc ?_ _) | (with_reducible refine Kd.C_drewN ?_ _) | (with_reducible refine Kd.C_drew ?_))); (case side4 => exact HC2.out); rintro e w33 ⟨v125, rfl, ho0, hb⟩; refine ⟨_, rfl, ?_⟩; have n0_ := Aside0.mk (Kd.R_lower ho0 (below_size (by repeat (first | (with_reducible first | exact HB.out | apply below_alloc | apply pw_below_drewN | apply below_drew1) | exact HB.out)))); have n1_ := Aside0.mk (below_step (by repeat (first | (with_reducible first | exact HB.out | apply below_alloc | apply pw_below_drewN | apply below_drew1) | exact HB.out)) hb); clear HB; have HO126 := n0_; have HB := n1_; clear n0_ n1_; (try clear hb); (try clear hb2); (try clear hk); (try clear hi); (try clear ho0); obtain ⟨Ao34, co34, eo34⟩ := Kd.R_slice HO126.out; subst eo34) | ((with_reducible refine gate_callee (f := 31) rfl ?_); refine goesL_ (some 74) rfl rfl Tryd.func31 (by kernel_rfl) rfl #[.slice Ao34 t124.length co34, .string a3, .int .i64 a4] rfl (by (try simp only [List.map_toArray, List.map_cons, List.map_nil]); first | done | rfl | (simp only [List.length_drop, List.length_take]; rfl) | (simp only [Int.toNat_natCast, ByteArray.extract_zero_size]; rfl)) ?_; (with_reducible refine (impl_Completed.calls _ _ t124 a3 a4 t127 t128 t129 _ ?side1 ?side2 A24.out).mono ?_); (case side1 => repeat (first | exact (Kd.R_reads' HO126.out).2.2 | (with_reducible refine Kd.C_alloc ?_ _) | (with_reducible refine Kd.C_drewN ?_ _) | (with_reducible refine Kd.C_drew ?_))); (case side2 => exact (Kd.R_reads' HO126.out).2.1); rintro e w35 ⟨v130, rfl, ho0, hb⟩; refine ⟨_, rfl, ?_⟩; have n0_ := Aside0.mk (Kd.R_below (by (with_reducible repeat (first | apply Kd.R_alloc | apply Kd.R_drewN | apply Kd.R_drew)); exact HO126.out) hb); have n1_ := Aside0.mk (Kd.R_lower ho0 (below_size (by repeat (first | (with_reducible first | exact HB.out | apply below_alloc | apply pw_below_drewN | apply below_drew1) | exact HB.out)))); have n2_ := Aside0.mk (below_step (by repeat (first | (with_reducible first | exact HB.out | apply below_alloc | apply pw_below_drewN | apply below_drew1) | exact HB.out)) hb); clear HO126; clear HB; have HO126 := n0_; have HO131 := n1_; have HB := n2_; clear n0_ n1_ n2_; (try clear hb); (try clear hb2); (try clear hk); (try clear hi); (try clear ho0)) | ((with_reducible refine gate_callee (f := 31) rfl ?_); refine goesL_ (some 84) rfl rfl Tryd.func31 (by kernel_rfl) rfl #[.slice Ao34 t124.length co34, .string (a3.extract 0 (a4 : Int).toNat), .int .i64 a4] rfl (by (try simp only [List.map_toArray, List.map_cons, List.map_nil]); first | done | rfl | (simp only [List.length_drop, List.length_take]; rfl) | (simp only [Int.toNat_natCast, ByteArray.extract_zero_size]; rfl)) ?_; (with_reducible refine (impl_Completed.calls _ _ t124 (a3.extract 0 (a4 : Int).toNat) a4 t132 t133 t134 _ ?side1 ?side2 A27.out).mono ?_); (case side1 => repeat (first | exact (Kd.R_reads' HO126.out).2.2 | (with_reducible refine Kd.C_alloc ?_ _) | (with_reducible refine Kd.C_drewN ?_ _) | (with_reducible refine Kd.C_drew ?_))); (case side2 => exact (Kd.R_reads' HO126.out).2.1); rintro e w36 ⟨v135, rfl, ho0, hb⟩; refine ⟨_, rfl, ?_⟩; have n0_ := Aside0.mk (Kd.R_below (by (with_reducible repeat (first | apply Kd.R_alloc | apply Kd.R_drewN | apply Kd.R_drew)); exact HO126.out) hb); have n1_ := Aside0.mk (Kd.R_elder' (by (with_reducible repeat (first | apply Kd.R_alloc | apply Kd.R_drewN | apply Kd.R_drew)); exact HO131.out) (Kd.R_base ho0) hb); have n2_ := Aside0.mk (Kd.R_lower (Kd.R_new' ho0 (Kd.R_lt (by (with_reducible repeat (first | apply Kd.R_alloc | apply Kd.R_drewN | apply Kd.R_drew)); exact HO131.out))) (below_size (by repeat (first | (with_reducible first | exact HB.out | apply below_alloc | apply pw_below_drewN | apply below_drew1) | exact HB.out)))); have n3_ := Aside0.mk (below_step (by repeat (first | (with_reducible first | exact HB.out | apply below_alloc | apply pw_below_drewN | apply below_drew1) | exact HB.out)) hb); clear HO126; clear HO131; clear HB; have HO126 := n0_; have HO131 := n1_; have HO136 := n2_; have HB := n3_; clear n0_ n1_ n2_ n3_; (try clear hb); (try clear hb2); (try clear hk); (try clear hi); (try clear ho0)) | ((with_reducible refine gate_callee (f := 31) rfl ?_); refine goesL_ (some 90) rfl rfl Tryd.func31 (by kernel_rfl) rfl #[.slice Ao34 t124.length co34, .string (⟨#[]⟩ : ByteArray), .int .i64 0] rfl (by (try simp only [List.map_toArray, List.map_cons, List.map_nil]); first | done | rfl | (simp only [List.length_drop, List.length_take]; rfl) | (simp only [Int.toNat_natCast, ByteArray.extract_zero_size]; rfl)) ?_; (with_reducible refine (impl_Completed.calls _ _ t124 (⟨#[]⟩ : ByteArray) 0 t137 t138 true _ ?side1 ?side2 A28.out).mono ?_); (case side1 => repeat (first | exact (Kd.R_reads' HO126.out).2.2 | (with_reducible refine Kd.C_alloc ?_ _) | (with_reducible refine Kd.C_drewN ?_ _) | (with_reducible refine Kd.C_drew ?_))); (case side2 => exact (Kd.R_reads' HO126.out).2.1); rintro e w37 ⟨v140, rfl, ho0, hb⟩; refine ⟨_, rfl, ?_⟩; have n0_ := Aside0.mk (Kd.R_below (by (with_reducible repeat (first | apply Kd.R_alloc | apply Kd.R_drewN | apply Kd.R_drew)); exact HO126.out) hb); have n1_ := Aside0.mk (Kd.R_elder' (by (with_reducible repeat (first | apply Kd.R_alloc | apply Kd.R_drewN | apply Kd.R_drew)); exact HO131.out) (Kd.R_base ho0) hb); have n2_ := Aside0.mk (Kd.R_elder' (by (with_reducible repeat (first | apply Kd.R_alloc | apply Kd.R_drewN | apply Kd.R_drew)); exact HO136.out) (Kd.R_base ho0) hb); have n3_ := Aside0.mk (Kd.R_lower (Kd.R_new' (Kd.R_new' ho0 (Kd.R_lt (by (with_reducible repeat (first | apply Kd.R_alloc | apply Kd.R_drewN | apply Kd.R_drew)); exact HO131.out))) (Kd.R_lt (by (with_reducible repeat (first | apply Kd.R_alloc | apply Kd.R_drewN | apply Kd.R_drew)); exact HO136.out))) (below_size (by repeat (first | (with_reducible first | exact HB.out | apply below_alloc | apply pw_below_drewN | apply below_drew1) | exact HB.out)))); have n4_ := Aside0.mk (below_step (by repeat (first | (with_reducible first | exact HB.out | apply below_alloc | apply pw_below_drewN | apply below_drew1) | exact HB.out)) hb); clear HO126; clear HO131; clear HO136; clear HB; have HO126 := n0_; have HO131 := n1_; have HO136 := n2_; have HO141 := n3_; have HB := n4_; clear n0_ n1_ n2_ n3_ n4_; (try clear hb); (try clear hb2); (try clear hk); (try clear hi); (try clear ho0); obtain ⟨Ao38, co38, eo38⟩ := Kd.R_slice HO131.out; subst eo38; obtain ⟨Ao39, co39, eo39⟩ := Kd.R_slice HO136.out; subst eo39) | (go_at_call 20; (with_reducible refine (spec_SameTexts9.calls kj11 _ _ t127 _ _ t132 true _ ?side1 ?side2 ?side3 ?side4 A31.out).mono ?_); (case side1 => repeat (first | exact (Kd.R_reads' HO131.out).2.2 | (with_reducible refine Kd.C_alloc ?_ _) | (with_reducible refine Kd.C_drewN ?_ _) | (with_reducible refine Kd.C_drew ?_))); (case side2 => exact (Kd.R_reads' HO131.out).2.1); (case side3 => repeat (first | exact (Kd.R_reads' HO136.out).2.2 | (with_reducible refine Kd.C_alloc ?_ _) | (with_reducible refine Kd.C_drewN ?_ _) | (with_reducible refine Kd.C_drew ?_))); (case side4 => exact (Kd.R_reads' HO136.out).2.1); rintro e w' ⟨rfl, ⟨nd, rfl⟩⟩))
                          go_ret
                          exact ⟨by first | rfl | (simp [errW_none, errW_some] <;> rfl) | (simp [*, errW_none, errW_some] <;> rfl), by repeat (first | (with_reducible first | exact HB.out | apply below_alloc | apply pw_below_drewN | apply below_drew1) | exact HB.out)⟩
                        · replace c32 := Bool.eq_false_iff.mpr c32
                          subst c32
                          have H1 : (some false) = some r := by rw [if_neg (show ¬ (false = true) by decide)] at H; exact H
                          clear H
                          have H := H1
                          clear H1
                          obtain rfl := Option.some.inj H
                          go_wp2_with (first | ((with_reducible refine gate_callee (f := 30) rfl ?_); refine goesL_ (some 69) rfl rfl Tryd.func30 (by kernel_rfl) rfl #[.slice A0 l0.length c0, .int .i64 (Int.tmod (wrap64 (a1)) (l0.length : Int)), .slice A2 l2.length c2] rfl (by (try simp only [List.map_toArray, List.map_cons, List.map_nil]); first | done | rfl | (simp only [List.length_drop, List.length_take]; rfl) | (simp only [Int.toNat_natCast, ByteArray.extract_zero_size]; rfl)) ?_; (with_reducible refine (spec_Tree.calls kj11 _ _ l0 (Int.tmod (wrap64 (a1)) (l0.length : Int)) _ _ l2 t124 _ ?side1 ?side2 ?side3 ?side4 A23.out).mono ?_); (case side1 => repeat (first | exact (Kd.C_below HR0.out HB.out) | (with_reducible refine Kd.C_alloc ?_ _) | (with_reducible refine Kd.C_drewN ?_ _) | (with_reducible refine Kd.C_drew ?_))); (case side2 => exact HC0.out); (case side3 => repeat (first | exact (Kd.C_below HR2.out HB.out) | (with_reducible refine Kd.C_alloc ?_ _) | (with_reducible refine Kd.C_drewN ?_ _) | (with_reducible refine Kd.C_drew ?_))); (case side4 => exact HC2.out); rintro e w40 ⟨v125, rfl, ho0, hb⟩; refine ⟨_, rfl, ?_⟩; have n0_ := Aside0.mk (Kd.R_lower ho0 (below_size (by repeat (first | (with_reducible first | exact HB.out | apply below_alloc | apply pw_below_drewN | apply below_drew1) | exact HB.out)))); have n1_ := Aside0.mk (below_step (by repeat (first | (with_reducible first | exact HB.out | apply below_alloc | apply pw_below_drewN | apply below_drew1) | exact HB.out)) hb); clear HB; have HO126 := n0_; have HB := n1_; clear n0_ n1_; (try clear hb); (try clear hb2); (try clear hk); (try clear hi); (try clear ho0); obtain ⟨Ao41, co41, eo41⟩ := Kd.R_slice HO126.out; subst eo41) | ((with_reducible refine gate_callee (f := 31) rfl ?_); refine goesL_ (some 74) rfl rfl Tryd.func31 (by kernel_rfl) rfl #[.slice Ao41 t124.length co41, .string a3, .int .i64 a4] rfl (by (try simp only [List.map_toArray, List.map_cons, List.map_nil]); first | done | rfl | (simp only [List.length_drop, List.length_take]; rfl) | (simp only [Int.toNat_natCast, ByteArray.extract_zero_size]; rfl)) ?_; (with_reducible refine (impl_Completed.calls _ _ t124 a3 a4 t127 t128 t129 _ ?side1 ?side2 A24.out).mono ?_); (case side1 => repeat (first | exact (Kd.R_reads' HO126.out).2.2 | (with_reducible refine Kd.C_alloc ?_ _) | (with_reducible refine Kd.C_drewN ?_ _) | (with_reducible refine Kd.C_drew ?_))); (case side2 => exact (Kd.R_reads' HO126.out).2.1); rintro e w42 ⟨v130, rfl, ho0, hb⟩; refine ⟨_, rfl, ?_⟩; have n0_ := Aside0.mk (Kd.R_below (by (with_reducible repeat (first | apply Kd.R_alloc | apply Kd.R_drewN | apply Kd.R_drew)); exact HO126.out) hb); have n1_ := Aside0.mk (Kd.R_lower ho0 (below_size (by repeat (first | (with_reducible first | exact HB.out | apply below_alloc | apply pw_below_drewN | apply below_drew1) | exact HB.out)))); have n2_ := Aside0.mk (below_step (by repeat (first | (with_reducible first | exact HB.out | apply below_alloc | apply pw_below_drewN | apply below_drew1) | exact HB.out)) hb); clear HO126; clear HB; have HO126 := n0_; have HO131 := n1_; have HB := n2_; clear n0_ n1_ n2_; (try clear hb); (try clear hb2); (try clear hk); (try clear hi); (try clear ho0)) | ((with_reducible refine gate_callee (f := 31) rfl ?_); refine goesL_ (some 84) rfl rfl Tryd.func31 (by kernel_rfl) rfl #[.slice Ao41 t124.length co41, .string (a3.extract 0 (a4 : Int).toNat), .int .i64 a4] rfl (by (try simp only [List.map_toArray, List.map_cons, List.map_nil]); first | done | rfl | (simp only [List.length_drop, List.length_take]; rfl) | (simp only [Int.toNat_natCast, ByteArray.extract_zero_size]; rfl)) ?_; (with_reducible refine (impl_Completed.calls _ _ t124 (a3.extract 0 (a4 : Int).toNat) a4 t132 t133 t134 _ ?side1 ?side2 A27.out).mono ?_); (case side1 => repeat (first | exact (Kd.R_reads' HO126.out).2.2 | (with_reducible refine Kd.C_alloc ?_ _) | (with_reducible refine Kd.C_drewN ?_ _) | (with_reducible refine Kd.C_drew ?_))); (case side2 => exact (Kd.R_reads' HO126.out).2.1); rintro e w43 ⟨v135, rfl, ho0, hb⟩; refine ⟨_, rfl, ?_⟩; have n0_ := Aside0.mk (Kd.R_below (by (with_reducible repeat (first | apply Kd.R_alloc | apply Kd.R_drewN | apply Kd.R_drew)); exact HO126.out) hb); have n1_ := Aside0.mk (Kd.R_elder' (by (with_reducible repeat (first | apply Kd.R_alloc | apply Kd.R_drewN | apply Kd.R_drew)); exact HO131.out) (Kd.R_base ho0) hb); have n2_ := Aside0.mk (Kd.R_lower (Kd.R_new' ho0 (Kd.R_lt (by (with_reducible repeat (first | apply Kd.R_alloc | apply Kd.R_drewN | apply Kd.R_drew)); exact HO131.out))) (below_size (by repeat (first | (with_reducible first | exact HB.out | apply below_alloc | apply pw_below_drewN | apply below_drew1) | exact HB.out)))); have n3_ := Aside0.mk (below_step (by repeat (first | (with_reducible first | exact HB.out | apply below_alloc | apply pw_below_drewN | apply below_drew1) | exact HB.out)) hb); clear HO126; clear HO131; clear HB; have HO126 := n0_; have HO131 := n1_; have HO136 := n2_; have HB := n3_; clear n0_ n1_ n2_ n3_; (try clear hb); (try clear hb2); (try clear hk); (try clear hi); (try clear ho0)) | ((with_reducible refine gate_callee (f := 31) rfl ?_); refine goesL_ (some 90) rfl rfl Tryd.func31 (by kernel_rfl) rfl #[.slice Ao41 t124.length co41, .string (⟨#[]⟩ : ByteArray), .int .i64 0] rfl (by (try simp only [List.map_toArray, List.map_cons, List.map_nil]); first | done | rfl | (simp only [List.length_drop, List.length_take]; rfl) | (simp only [Int.toNat_natCast, ByteArray.extract_zero_size]; rfl)) ?_; (with_reducible refine (impl_Completed.calls _ _ t124 (⟨#[]⟩ : ByteArray) 0 t137 t138 true _ ?side1 ?side2 A28.out).mono ?_); (case side1 => repeat (first | exact (Kd.R_reads' HO126.out).2.2 | (with_reducible refine Kd.C_alloc ?_ _) | (with_reducible refine Kd.C_drewN ?_ _) | (with_reducible refine Kd.C_drew ?_))); (case side2 => exact (Kd.R_reads' HO126.out).2.1); rintro e w44 ⟨v140, rfl, ho0, hb⟩; refine ⟨_, rfl, ?_⟩; have n0_ := Aside0.mk (Kd.R_below (by (with_reducible repeat (first | apply Kd.R_alloc | apply Kd.R_drewN | apply Kd.R_drew)); exact HO126.out) hb); have n1_ := Aside0.mk (Kd.R_elder' (by (with_reducible repeat (first | apply Kd.R_alloc | apply Kd.R_drewN | apply Kd.R_drew)); exact HO131.out) (Kd.R_base ho0) hb); have n2_ := Aside0.mk (Kd.R_elder' (by (with_reducible repeat (first | apply Kd.R_alloc | apply Kd.R_drewN | apply Kd.R_drew)); exact HO136.out) (Kd.R_base ho0) hb); have n3_ := Aside0.mk (Kd.R_lower (Kd.R_new' (Kd.R_new' ho0 (Kd.R_lt (by (with_reducible repeat (first | apply Kd.R_alloc | apply Kd.R_drewN | apply Kd.R_drew)); exact HO131.out))) (Kd.R_lt (by (with_reducible repeat (first | apply Kd.R_alloc | apply Kd.R_drewN | apply Kd.R_drew)); exact HO136.out))) (below_size (by repeat (first | (with_reducible first | exact HB.out | apply below_alloc | apply pw_below_drewN | apply below_drew1) | exact HB.out)))); have n4_ := Aside0.mk (below_step (by repeat (first | (with_reducible first | exact HB.out | apply below_alloc | apply pw_below_drewN | apply below_drew1) | exact HB.out)) hb); clear HO126; clear HO131; clear HO136; clear HB; have HO126 := n0_; have HO131 := n1_; have HO136 := n2_; have HO141 := n3_; have HB := n4_; clear n0_ n1_ n2_ n3_ n4_; (try clear hb); (try clear hb2); (try clear hk); (try clear hi); (try clear ho0); obtain ⟨Ao45, co45, eo45⟩ := Kd.R_slice HO131.out; subst eo45; obtain ⟨Ao46, co46, eo46⟩ := Kd.R_slice HO136.out; subst eo46) | (go_at_call 20; (with_reducible refine (spec_SameTexts9.calls kj11 _ _ t127 _ _ t132 false _ ?side1 ?side2 ?side3 ?side4 A31.out).mono ?_); (case side1 => repeat (first | exact (Kd.R_reads' HO131.out).2.2 | (with_reducible refine Kd.C_alloc ?_ _) | (with_reducible refine Kd.C_drewN ?_ _) | (with_reducible refine Kd.C_drew ?_))); (case side2 => exact (Kd.R_reads' HO131.out).2.1); (case side3 => repeat (first | exact (Kd.R_reads' HO136.out).2.2 | (with_reducible refine Kd.C_alloc ?_ _) | (with_reducible refine Kd.C_drewN ?_ _) | (with_reducible refine Kd.C_drew ?_))); (case side4 => exact (Kd.R_reads' HO136.out).2.1); rintro e w' ⟨rfl, ⟨nd, rfl⟩⟩))
                          go_ret
                          exact ⟨by first | rfl | (simp [errW_none, errW_some] <;> rfl) | (simp [*, errW_none, errW_some] <;> rfl), by repeat (first | (with_reducible first | exact HB.out | apply below_alloc | apply pw_below_drewN | apply below_drew1) | exact HB.out)⟩
                      · rw [if_neg c30] at H
                        have c30b0 : (t129 == t134) = false := by simpa using c30
                        (try (have c30b1 : decide (t129 = t134) = false := by simpa using c30))
                        (try (have c30b2 : (t129 == t134) = false := by simpa using c30))
                        (try (have c30b3 : ¬ (t129 = t134) := by simpa using c30))
                        clear c30
                        obtain rfl := Option.some.inj H
                        go_wp2_with (first | ((with_reducible refine gate_callee (f := 30) rfl ?_); refine goesL_ (some 69) rfl rfl Tryd.func30 (by kernel_rfl) rfl #[.slice A0 l0.length c0, .int .i64 (Int.tmod (wrap64 (a1)) (l0.length : Int)), .slice A2 l2.length c2] rfl (by (try simp only [List.map_toArray, List.map_cons, List.map_nil]); first | done | rfl | (simp only [List.length_drop, List.length_take]; rfl) | (simp only [Int.toNat_natCast, ByteArray.extract_zero_size]; rfl)) ?_; (with_reducible refine (spec_Tree.calls kj11 _ _ l0 (Int.tmod (wrap64 (a1)) (l0.length : Int)) _ _ l2 t124 _ ?side1 ?side2 ?side3 ?side4 A23.out).mono ?_); (case side1 => repeat (first | exact (Kd.C_below HR0.out HB.out) | (with_reducible refine Kd.C_alloc ?_ _) | (with_reducible refine Kd.C_drewN ?_ _) | (with_reducible refine Kd.C_drew ?_))); (case side2 => exact HC0.out); (case side3 => repeat (first | exact (Kd.C_below HR2.out HB.out) | (with_reducible refine Kd.C_alloc ?_ _) | (with_reducible refine Kd.C_drewN ?_ _) | (with_reducible refine Kd.C_drew ?_))); (case side4 => exact HC2.out); rintro e w47 ⟨v125, rfl, ho0, hb⟩; refine ⟨_, rfl, ?_⟩; have n0_ := Aside0.mk (Kd.R_lower ho0 (below_size (by repeat (first | (with_reducible first | exact HB.out | apply below_alloc | apply pw_below_drewN | apply below_drew1) | exact HB.out)))); have n1_ := Aside0.mk (below_step (by repeat (first | (with_reducible first | exact HB.out | apply below_alloc | apply pw_below_drewN | apply below_drew1) | exact HB.out)) hb); clear HB; have HO126 := n0_; have HB := n1_; clear n0_ n1_; (try clear hb); (try clear hb2); (try clear hk); (try clear hi); (try clear ho0); obtain ⟨Ao48, co48, eo48⟩ := Kd.R_slice HO126.out; subst eo48) | ((with_reducible refine gate_callee (f := 31) rfl ?_); refine goesL_ (some 74) rfl rfl Tryd.func31 (by kernel_rfl) rfl #[.slice Ao48 t124.length co48, .string a3, .int .i64 a4] rfl (by (try simp only [List.map_toArray, List.map_cons, List.map_nil]); first | done | rfl | (simp only [List.length_drop, List.length_take]; rfl) | (simp only [Int.toNat_natCast, ByteArray.extract_zero_size]; rfl)) ?_; (with_reducible refine (impl_Completed.calls _ _ t124 a3 a4 t127 t128 t129 _ ?side1 ?side2 A24.out).mono ?_); (case side1 => repeat (first | exact (Kd.R_reads' HO126.out).2.2 | (with_reducible refine Kd.C_alloc ?_ _) | (with_reducible refine Kd.C_drewN ?_ _) | (with_reducible refine Kd.C_drew ?_))); (case side2 => exact (Kd.R_reads' HO126.out).2.1); rintro e w49 ⟨v130, rfl, ho0, hb⟩; refine ⟨_, rfl, ?_⟩; have n0_ := Aside0.mk (Kd.R_below (by (with_reducible repeat (first | apply Kd.R_alloc | apply Kd.R_drewN | apply Kd.R_drew)); exact HO126.out) hb); have n1_ := Aside0.mk (Kd.R_lower ho0 (below_size (by repeat (first | (with_reducible first | exact HB.out | apply below_alloc | apply pw_below_drewN | apply below_drew1) | exact HB.out)))); have n2_ := Aside0.mk (below_step (by repeat (first | (with_reducible first | exact HB.out | apply below_alloc | apply pw_below_drewN | apply below_drew1) | exact HB.out)) hb); clear HO126; clear HB; have HO126 := n0_; have HO131 := n1_; have HB := n2_; clear n0_ n1_ n2_; (try clear hb); (try clear hb2); (try clear hk); (try clear hi); (try clear ho0)) | ((with_reducible refine gate_callee (f := 31) rfl ?_); refine goesL_ (some 84) rfl rfl Tryd.func31 (by kernel_rfl) rfl #[.slice Ao48 t124.length co48, .string (a3.extract 0 (a4 : Int).toNat), .int .i64 a4] rfl (by (try simp only [List.map_toArray, List.map_cons, List.map_nil]); first | done | rfl | (simp only [List.length_drop, List.length_take]; rfl) | (simp only [Int.toNat_natCast, ByteArray.extract_zero_size]; rfl)) ?_; (with_reducible refine (impl_Completed.calls _ _ t124 (a3.extract 0 (a4 : Int).toNat) a4 t132 t133 t134 _ ?side1 ?side2 A27.out).mono ?_); (case side1 => repeat (first | exact (Kd.R_reads' HO126.out).2.2 | (with_reducible refine Kd.C_alloc ?_ _) | (with_reducible refine Kd.C_drewN ?_ _) | (with_reducible refine Kd.C_drew ?_))); (case side2 => exact (Kd.R_reads' HO126.out).2.1); rintro e w50 ⟨v135, rfl, ho0, hb⟩; refine ⟨_, rfl, ?_⟩; have n0_ := Aside0.mk (Kd.R_below (by (with_reducible repeat (first | apply Kd.R_alloc | apply Kd.R_drewN | apply Kd.R_drew)); exact HO126.out) hb); have n1_ := Aside0.mk (Kd.R_elder' (by (with_reducible repeat (first | apply Kd.R_alloc | apply Kd.R_drewN | apply Kd.R_drew)); exact HO131.out) (Kd.R_base ho0) hb); have n2_ := Aside0.mk (Kd.R_lower (Kd.R_new' ho0 (Kd.R_lt (by (with_reducible repeat (first | apply Kd.R_alloc | apply Kd.R_drewN | apply Kd.R_drew)); exact HO131.out))) (below_size (by repeat (first | (with_reducible first | exact HB.out | apply below_alloc | apply pw_below_drewN | apply below_drew1) | exact HB.out)))); have n3_ := Aside0.mk (below_step (by repeat (first | (with_reducible first | exact HB.out | apply below_alloc | apply pw_below_drewN | apply below_drew1) | exact HB.out)) hb); clear HO126; clear HO131; clear HB; have HO126 := n0_; have HO131 := n1_; have HO136 := n2_; have HB := n3_; clear n0_ n1_ n2_ n3_; (try clear hb); (try clear hb2); (try clear hk); (try clear hi); (try clear ho0)) | ((with_reducible refine gate_callee (f := 31) rfl ?_); refine goesL_ (some 90) rfl rfl Tryd.func31 (by kernel_rfl) rfl #[.slice Ao48 t124.length co48, .string (⟨#[]⟩ : ByteArray), .int .i64 0] rfl (by (try simp only [List.map_toArray, List.map_cons, List.map_nil]); first | done | rfl | (simp only [List.length_drop, List.length_take]; rfl) | (simp only [Int.toNat_natCast, ByteArray.extract_zero_size]; rfl)) ?_; (with_reducible refine (impl_Completed.calls _ _ t124 (⟨#[]⟩ : ByteArray) 0 t137 t138 true _ ?side1 ?side2 A28.out).mono ?_); (case side1 => repeat (first | exact (Kd.R_reads' HO126.out).2.2 | (with_reducible refine Kd.C_alloc ?_ _) | (with_reducible refine Kd.C_drewN ?_ _) | (with_reducible refine Kd.C_drew ?_))); (case side2 => exact (Kd.R_reads' HO126.out).2.1); rintro e w51 ⟨v140, rfl, ho0, hb⟩; refine ⟨_, rfl, ?_⟩; have n0_ := Aside0.mk (Kd.R_below (by (with_reducible repeat (first | apply Kd.R_alloc | apply Kd.R_drewN | apply Kd.R_drew)); exact HO126.out) hb); have n1_ := Aside0.mk (Kd.R_elder' (by (with_reducible repeat (first | apply Kd.R_alloc | apply Kd.R_drewN | apply Kd.R_drew)); exact HO131.out) (Kd.R_base ho0) hb); have n2_ := Aside0.mk (Kd.R_elder' (by (with_reducible repeat (first | apply Kd.R_alloc | apply Kd.R_drewN | apply Kd.R_drew)); exact HO136.out) (Kd.R_base ho0) hb); have n3_ := Aside0.mk (Kd.R_lower (Kd.R_new' (Kd.R_new' ho0 (Kd.R_lt (by (with_reducible repeat (first | apply Kd.R_alloc | apply Kd.R_drewN | apply Kd.R_drew)); exact HO131.out))) (Kd.R_lt (by (with_reducible repeat (first | apply Kd.R_alloc | apply Kd.R_drewN | apply Kd.R_drew)); exact HO136.out))) (below_size (by repeat (first | (with_reducible first | exact HB.out | apply below_alloc | apply pw_below_drewN | apply below_drew1) | exact HB.out)))); have n4_ := Aside0.mk (below_step (by repeat (first | (with_reducible first | exact HB.out | apply below_alloc | apply pw_below_drewN | apply below_drew1) | exact HB.out)) hb); clear HO126; clear HO131; clear HO136; clear HB; have HO126 := n0_; have HO131 := n1_; have HO136 := n2_; have HO141 := n3_; have HB := n4_; clear n0_ n1_ n2_ n3_ n4_; (try clear hb); (try clear hb2); (try clear hk); (try clear hi); (try clear ho0)))
                        go_ret
                        exact ⟨by first | rfl | (simp [errW_none, errW_some] <;> rfl) | (simp [*, errW_none, errW_some] <;> rfl), by repeat (first | (with_reducible first | exact HB.out | apply below_alloc | apply pw_below_drewN | apply below_drew1) | exact HB.out)⟩
                    · replace c29 := Bool.eq_false_iff.mpr c29
                      subst c29
                      have H1 : (some false) = some r := by rw [if_neg (show ¬ (false = true) by decide)] at H; exact H
                      clear H
                      have H := H1
                      clear H1
                      obtain rfl := Option.some.inj H
                      go_wp2_with (first | ((with_reducible refine gate_callee (f := 30) rfl ?_); refine goesL_ (some 69) rfl rfl Tryd.func30 (by kernel_rfl) rfl #[.slice A0 l0.length c0, .int .i64 (Int.tmod (wrap64 (a1)) (l0.length : Int)), .slice A2 l2.length c2] rfl (by (try simp only [List.map_toArray, List.map_cons, List.map_nil]); first | done | rfl | (simp only [List.length_drop, List.length_take]; rfl) | (simp only [Int.toNat_natCast, ByteArray.extract_zero_size]; rfl)) ?_; (with_reducible refine (spec_Tree.calls kj11 _ _ l0 (Int.tmod (wrap64 (a1)) (l0.length : Int)) _ _ l2 t124 _ ?side1 ?side2 ?side3 ?side4 A23.out).mono ?_); (case side1 => repeat (first | exact (Kd.C_below HR0.out HB.out) | (with_reducible refine Kd.C_alloc ?_ _) | (with_reducible refine Kd.C_drewN ?_ _) | (with_reducible refine Kd.C_drew ?_))); (case side2 => exact HC0.out); (case side3 => repeat (first | exact (Kd.C_below HR2.out HB.out) | (with_reducible refine Kd.C_alloc ?_ _) | (with_reducible refine Kd.C_drewN ?_ _) | (with_reducible refine Kd.C_drew ?_))); (case side4 => exact HC2.out); rintro e w52 ⟨v125, rfl, ho0, hb⟩; refine ⟨_, rfl, ?_⟩; have n0_ := Aside0.mk (Kd.R_lower ho0 (below_size (by repeat (first | (with_reducible first | exact HB.out | apply below_alloc | apply pw_below_drewN | apply below_drew1) | exact HB.out)))); have n1_ := Aside0.mk (below_step (by repeat (first | (with_reducible first | exact HB.out | apply below_alloc | apply pw_below_drewN | apply below_drew1) | exact HB.out)) hb); clear HB; have HO126 := n0_; have HB := n1_; clear n0_ n1_; (try clear hb); (try clear hb2); (try clear hk); (try clear hi); (try clear ho0); obtain ⟨Ao53, co53, eo53⟩ := Kd.R_slice HO126.out; subst eo53) | ((with_reducible refine gate_callee (f := 31) rfl ?_); refine goesL_ (some 74) rfl rfl Tryd.func31 (by kernel_rfl) rfl #[.slice Ao53 t124.length co53, .string a3, .int .i64 a4] rfl (by (try simp only [List.map_toArray, List.map_cons, List.map_nil]); first | done | rfl | (simp only [List.length_drop, List.length_take]; rfl) | (simp only [Int.toNat_natCast, ByteArray.extract_zero_size]; rfl)) ?_; (with_reducible refine (impl_Completed.calls _ _ t124 a3 a4 t127 t128 t129 _ ?side1 ?side2 A24.out).mono ?_); (case side1 => repeat (first | exact (Kd.R_reads' HO126.out).2.2 | (with_reducible refine Kd.C_alloc ?_ _) | (with_reducible refine Kd.C_drewN ?_ _) | (with_reducible refine Kd.C_drew ?_))); (case side2 => exact (Kd.R_reads' HO126.out).2.1); rintro e w54 ⟨v130, rfl, ho0, hb⟩; refine ⟨_, rfl, ?_⟩; have n0_ := Aside0.mk (Kd.R_below (by (with_reducible repeat (first | apply Kd.R_alloc | apply Kd.R_drewN | apply Kd.R_drew)); exact HO126.out) hb); have n1_ := Aside0.mk (Kd.R_lower ho0 (below_size (by repeat (first | (with_reducible first | exact HB.out | apply below_alloc | apply pw_below_drewN | apply below_drew1) | exact HB.out)))); have n2_ := Aside0.mk (below_step (by repeat (first | (with_reducible first | exact HB.out | apply below_alloc | apply pw_below_drewN | apply below_drew1) | exact HB.out)) hb); clear HO126; clear HB; have HO126 := n0_; have HO131 := n1_; have HB := n2_; clear n0_ n1_ n2_; (try clear hb); (try clear hb2); (try clear hk); (try clear hi); (try clear ho0)) | ((with_reducible refine gate_callee (f := 31) rfl ?_); refine goesL_ (some 84) rfl rfl Tryd.func31 (by kernel_rfl) rfl #[.slice Ao53 t124.length co53, .string (a3.extract 0 (a4 : Int).toNat), .int .i64 a4] rfl (by (try simp only [List.map_toArray, List.map_cons, List.map_nil]); first | done | rfl | (simp only [List.length_drop, List.length_take]; rfl) | (simp only [Int.toNat_natCast, ByteArray.extract_zero_size]; rfl)) ?_; (with_reducible refine (impl_Completed.calls _ _ t124 (a3.extract 0 (a4 : Int).toNat) a4 t132 t133 t134 _ ?side1 ?side2 A27.out).mono ?_); (case side1 => repeat (first | exact (Kd.R_reads' HO126.out).2.2 | (with_reducible refine Kd.C_alloc ?_ _) | (with_reducible refine Kd.C_drewN ?_ _) | (with_reducible refine Kd.C_drew ?_))); (case side2 => exact (Kd.R_reads' HO126.out).2.1); rintro e w55 ⟨v135, rfl, ho0, hb⟩; refine ⟨_, rfl, ?_⟩; have n0_ := Aside0.mk (Kd.R_below (by (with_reducible repeat (first | apply Kd.R_alloc | apply Kd.R_drewN | apply Kd.R_drew)); exact HO126.out) hb); have n1_ := Aside0.mk (Kd.R_elder' (by (with_reducible repeat (first | apply Kd.R_alloc | apply Kd.R_drewN | apply Kd.R_drew)); exact HO131.out) (Kd.R_base ho0) hb); have n2_ := Aside0.mk (Kd.R_lower (Kd.R_new' ho0 (Kd.R_lt (by (with_reducible repeat (first | apply Kd.R_alloc | apply Kd.R_drewN | apply Kd.R_drew)); exact HO131.out))) (below_size (by repeat (first | (with_reducible first | exact HB.out | apply below_alloc | apply pw_below_drewN | apply below_drew1) | exact HB.out)))); have n3_ := Aside0.mk (below_step (by repeat (first | (with_reducible first | exact HB.out | apply below_alloc | apply pw_below_drewN | apply below_drew1) | exact HB.out)) hb); clear HO126; clear HO131; clear HB; have HO126 := n0_; have HO131 := n1_; have HO136 := n2_; have HB := n3_; clear n0_ n1_ n2_ n3_; (try clear hb); (try clear hb2); (try clear hk); (try clear hi); (try clear ho0)) | ((with_reducible refine gate_callee (f := 31) rfl ?_); refine goesL_ (some 90) rfl rfl Tryd.func31 (by kernel_rfl) rfl #[.slice Ao53 t124.length co53, .string (⟨#[]⟩ : ByteArray), .int .i64 0] rfl (by (try simp only [List.map_toArray, List.map_cons, List.map_nil]); first | done | rfl | (simp only [List.length_drop, List.length_take]; rfl) | (simp only [Int.toNat_natCast, ByteArray.extract_zero_size]; rfl)) ?_; (with_reducible refine (impl_Completed.calls _ _ t124 (⟨#[]⟩ : ByteArray) 0 t137 t138 false _ ?side1 ?side2 A28.out).mono ?_); (case side1 => repeat (first | exact (Kd.R_reads' HO126.out).2.2 | (with_reducible refine Kd.C_alloc ?_ _) | (with_reducible refine Kd.C_drewN ?_ _) | (with_reducible refine Kd.C_drew ?_))); (case side2 => exact (Kd.R_reads' HO126.out).2.1); rintro e w56 ⟨v140, rfl, ho0, hb⟩; refine ⟨_, rfl, ?_⟩; have n0_ := Aside0.mk (Kd.R_below (by (with_reducible repeat (first | apply Kd.R_alloc | apply Kd.R_drewN | apply Kd.R_drew)); exact HO126.out) hb); have n1_ := Aside0.mk (Kd.R_elder' (by (with_reducible repeat (first | apply Kd.R_alloc | apply Kd.R_drewN | apply Kd.R_drew)); exact HO131.out) (Kd.R_base ho0) hb); have n2_ := Aside0.mk (Kd.R_elder' (by (with_reducible repeat (first | apply Kd.R_alloc | apply Kd.R_drewN | apply Kd.R_drew)); exact HO136.out) (Kd.R_base ho0) hb); have n3_ := Aside0.mk (Kd.R_lower (Kd.R_new' (Kd.R_new' ho0 (Kd.R_lt (by (with_reducible repeat (first | apply Kd.R_alloc | apply Kd.R_drewN | apply Kd.R_drew)); exact HO131.out))) (Kd.R_lt (by (with_reducible repeat (first | apply Kd.R_alloc | apply Kd.R_drewN | apply Kd.R_drew)); exact HO136.out))) (below_size (by repeat (first | (with_reducible first | exact HB.out | apply below_alloc | apply pw_below_drewN | apply below_drew1) | exact HB.out)))); have n4_ := Aside0.mk (below_step (by repeat (first | (with_reducible first | exact HB.out | apply below_alloc | apply pw_below_drewN | apply below_drew1) | exact HB.out)) hb); clear HO126; clear HO131; clear HO136; clear HB; have HO126 := n0_; have HO131 := n1_; have HO136 := n2_; have HO141 := n3_; have HB := n4_; clear n0_ n1_ n2_ n3_ n4_; (try clear hb); (try clear hb2); (try clear hk); (try clear hi); (try clear ho0)))
                      go_ret
                      exact ⟨by first | rfl | (simp [errW_none, errW_some] <;> rfl) | (simp [*, errW_none, errW_some] <;> rfl), by repeat (first | (with_reducible first | exact HB.out | apply below_alloc | apply pw_below_drewN | apply below_drew1) | exact HB.out)⟩
                  · rw [if_neg c26] at H
                    exact absurd H (by simp)
                · rw [if_neg c25] at H
                  exact absurd H (by simp)
/-- THE ONE PURE STATEMENT of laws_FnCompletedCursor: yours. -/
def laws_FnCompletedCursor.Pure : Prop := ∀ (l0 : List ByteArray) (a1 : Int) (l2 : List ByteArray) (a3 : ByteArray) (a4 : Int), l0.length ≤ maxLen → (∀ x ∈ l0, x.size ≤ maxLen) → (Lit.int .u8 a1).wf = true → l2.length ≤ maxLen → (∀ x ∈ l2, x.size ≤ maxLen) → a3.size ≤ maxLen → (Lit.int .i64 a4).wf = true → ∃ k, laws_FnCompletedCursor.f k l0 a1 l2 a3 a4 = some true
theorem laws_FnCompletedCursor.walk (P : laws_FnCompletedCursor.Pure) (A0 : Option Addr) (c0 : Nat) (l0 : List ByteArray) (a1 : Int) (A2 : Option Addr) (c2 : Nat) (l2 : List ByteArray) (a3 : ByteArray) (a4 : Int) (w : World) (hr0 : Kd.C Kd.string w A0 l0.length l0) (hc0 : l0.length ≤ c0) (hm0 : l0.length ≤ maxLen) (hg0 : ∀ x ∈ l0, x.size ≤ maxLen) (hg1 : (Lit.int .u8 a1).wf = true) (hr2 : Kd.C Kd.string w A2 l2.length l2) (hc2 : l2.length ≤ c2) (hm2 : l2.length ≤ maxLen) (hg2 : ∀ x ∈ l2, x.size ≤ maxLen) (hg3 : a3.size ≤ maxLen) (hg4 : (Lit.int .i64 a4).wf = true) :
    Calls Tryd.prog 8 #[.slice A0 l0.length c0, .int .u8 a1, .slice A2 l2.length c2, .string a3, .int .i64 a4] w fun e w' => e = .returned (.bool true) ∧ Below w.heap.size w w' := by
  obtain ⟨k, h⟩ := P l0 a1 l2 a3 a4 hm0 hg0 hg1 hm2 hg2 hg3 hg4
  refine (laws_FnCompletedCursor.calls k A0 c0 l0 a1 A2 c2 l2 a3 a4 true w hr0 hc0 hr2 hc2 h).mono ?_
  rintro e w' ⟨rfl, hd⟩
  exact ⟨rfl, hd⟩
end Go.Proofs.YthbdaoapjnofkaaDoor.PFnCompletedCursor
