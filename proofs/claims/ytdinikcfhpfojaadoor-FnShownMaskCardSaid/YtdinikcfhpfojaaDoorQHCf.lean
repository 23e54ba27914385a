/- A text without colours (readline.Runes.ColorFilter): what it makes; of texts of at most 35184372088832 code points. -/
import Derived.Test.YtdinikcfhpfojaaDoorQPColorFilterx0
import Derived.Test.YtdinikcfhpfojaaDoorQHBase
import Derived.Laws.MakeOwn
namespace Go.Proofs.YtdinikcfhpfojaaDoor.H
open Go.RowKit Go.Proofs.YtdinikcfhpfojaaDoorW.PrintWords Go.Proofs.YtdinikcfhpfojaaDoorW.PrintLast Go.Proofs.YtdinikcfhpfojaaDoorW.PrintMore Go.Proofs.YtdinikcfhpfojaaDoor.PColorFilter
attribute [local go_sem] max2_int min2_int max_two min_two max_three min_three max_four min_four   -- for this text's walks alone
set_option linter.unusedVariables false
set_option linter.unusedSimpArgs false
section
variable {P : Program} {ops : Array Oper} {Q : Exit → Act → World → Prop} {rest : List Oper} {a : Act}
/-- A row without elements, with room. -/
theorem R_make0 {α : Type} (d : Kd α) {w0 W : World} (base e : Nat) {o : Oper} (hgd : o.guard = none) {N : Tmp} (hd : o.dst = some N) (t : TypeId) (x y : Operand) (ho : o.op = .makeSlice t x y) (c : Nat) (hx : a.eval x = .int .i64 0) (hy : a.eval y = .int .i64 (c : Int))
    (ht : P.underlying t = some (.slice e)) (z : Value) (bytes : Nat) (hinfo : (P.info? e).map (fun i => (i.zero, i.size, i.bytes)) = some (some z, d.sz, bytes)) (hc : bytes * c ≤ 281474976710656 ∧ c ≤ maxLen) (HB : Below base w0 W) (hbase : base ≤ W.heap.size)
    (h : ∀ v1 w1, d.R e w1 base (fun _ => True) v1 [] → Below base w0 w1 → W.grownBy w1 none → wpList P ops Q rest (a.put o.dst v1) w1) : wpList P ops Q (o :: rest) a W := by
  obtain ⟨i0, hi, hzz⟩ := Option.map_eq_some_iff.1 hinfo
  simp only [Prod.mk.injEq] at hzz
  obtain ⟨hz0, hz1, hz2⟩ := hzz
  obtain ⟨w1, hrun, hown, hgr⟩ := run_make_own (P := P) W base t e i0 z d.sz ht hi hz0 hz1 .i64 .i64 c (by rw [hz2]; exact hc.1) hc.2 hbase
  refine wpList_plain hgd fun K hK => ?_
  have hr : (execOp a.eval o).run P W = .ok (.value (.slice (some ⟨W.heap.size, 0, none⟩) 0 c)) w1 := by simp [execOp, ho, hx, hy, hrun]
  unfold Oper.wp
  rw [hr]
  exact hK _ _ (h _ _ ⟨fun _ _ => trivial, [], hown, Reps.none _ _⟩ (pw_below_grown HB none hbase hgr (fun k hk => by cases hk)) hgr)
end
/-! ### readline_Runes_Index: function 177 -/
def readline_Runes_Index.l0 : Nat → Int → List Int → Int → Option (Int)
  | 0, _, _, _ => none
  | k + 1, x1, x2, x7 => if x7 < (x2.length : Int) then (if 0 ≤ x7 then (if (rd x2 x7) = x1 then (some x7) else (readline_Runes_Index.l0 k x1 x2 (wrap64 (x7 + 1)))) else (none)) else (some (-1))
def readline_Runes_Index.f (k : Nat)  (a1 : Int) (l2 : List Int) : Option (Int) := readline_Runes_Index.l0 k a1 l2 0
theorem readline_Runes_Index.mono_l : ∀ k, (∀ y0 y1 y2, LeO (readline_Runes_Index.l0 k y0 y1 y2) (readline_Runes_Index.l0 (k + 1) y0 y1 y2))
  | 0 => fun _ _ _ r h => by simp [readline_Runes_Index.l0] at h
  | k + 1 => by
    have ih0 := readline_Runes_Index.mono_l k
    · intro y0 y1 y2
      unfold readline_Runes_Index.l0
      repeat' first
      | (with_reducible exact ih0 _ _ _)
      | (with_reducible exact LeO.refl _)
      | (with_reducible exact LeO.none _)
      | (with_reducible refine LeO.ite ?_ ?_)
      | (with_reducible refine LeO.bind ?_ (fun _ => ?_))
      | exact ih0 _ _ _
      | exact LeO.none _
      | refine LeO.ite ?_ ?_
      | refine LeO.bind ?_ (fun _ => ?_)
theorem readline_Runes_Index.mono : ∀ a0 a1 k, LeO (readline_Runes_Index.f k a0 a1) (readline_Runes_Index.f (k + 1) a0 a1) := by
  intro a0 a1 k
  have ih0 := readline_Runes_Index.mono_l k
  unfold readline_Runes_Index.f
  repeat' first
      | (with_reducible exact ih0 _ _ _)
      | (with_reducible exact LeO.refl _)
      | (with_reducible exact LeO.none _)
      | (with_reducible refine LeO.ite ?_ ?_)
      | (with_reducible refine LeO.bind ?_ (fun _ => ?_))
      | exact ih0 _ _ _
      | exact LeO.none _
      | refine LeO.ite ?_ ?_
      | refine LeO.bind ?_ (fun _ => ?_)
set_option maxHeartbeats 8000000 in
set_option maxRecDepth 100000 in
theorem readline_Runes_Index.calls (k : Nat)  (a1 : Int) (A2 : Option Addr) (c2 : Nat) (l2 : List Int) (r : Int) (w : World) (hr2 : Kd.C (Kd.int .i32) w A2 l2.length l2) (hc2 : l2.length ≤ c2) (h : readline_Runes_Index.f k a1 l2 = some r) :
    Calls Tryd.prog 177 #[.agg #[], .int .i32 a1, .slice A2 l2.length c2] w fun e w' => e = .returned (.int .i64 r) ∧ Below w.heap.size w w' := by
  have hu112 := Tryd.underlying112
  have HR2 := Aside0.mk hr2
  have HC2 := Aside0.mk hc2
  clear hr2 hc2
  have HB := Aside0.mk (Below.refl w.heap.size w)
  have H : (readline_Runes_Index.l0 k a1 l2 0) = some r := h
  clear h
  have H' := Aside0.mk H
  clear H
  go_enter Tryd.func177, Tryd.ntmps177
  go_wp2_with (first | ((with_reducible refine gate_dst (N := 3) rfl ?_); refine box_event ?hg (N := 3) ?hd (cs := #[]) (t := 112) ?hr ?_; (case hd => rfl); (case hg => rfl); (case hr => first | (go_simp; done) | (go_simp; rfl)); intro gb101 hg w4 hbox hb; have n0_ := Aside0.mk (below_step (by repeat (first | (with_reducible first | exact HB.out | apply below_alloc | apply pw_below_drewN | apply below_drew1) | exact HB.out)) hb); have n1_ := Aside0.mk (hbox); have n2_ := Aside0.mk ((by rw [hg]; exact (below_size (by repeat (first | (with_reducible first | exact HB.out | apply below_alloc | apply pw_below_drewN | apply below_drew1) | exact HB.out))) : w.heap.size ≤ gb101)); have n3_ := Aside0.mk ((by rw [hg]; exact (below_size (by repeat (first | (with_reducible first | exact HB.out | apply below_alloc | apply pw_below_drewN | apply below_drew1) | exact HB.out))) : w.heap.size ≤ gb101)); clear HB; have HB := n0_; have BK101 := n1_; have GW101 := n2_; have GE101 := n3_; clear n0_ n1_ n2_ n3_; clear hb hbox hg))
  go_loopg [7] k (fun kq v7 w' => ∃ (x7_1 : Int), v7 = .int .i64 x7_1 ∧ Aside0 (readline_Runes_Index.l0 kq a1 l2 x7_1 = some r) ∧ Aside0 (kq ≤ k) ∧ Aside0 (w'.heap[gb101]? = some (.cells #[] 112 (0, 0))) ∧ Aside0 (Below w.heap.size w w'))
  case atStart => exact ⟨(0), (by first | rfl | (simp; done) | (simp [*]; done)), H', ⟨Nat.le_refl _⟩, ⟨by (with_reducible repeat (first | refine blk_drewN ?_ _ | refine blk_drew ?_ | refine blk_alloc ?_ _)); exact BK101.out⟩, ⟨by repeat (first | (with_reducible first | exact HB.out | apply below_alloc | apply pw_below_drewN | apply below_drew1 | refine below_set ?_ GE101.out) | exact HB.out)⟩⟩
  case round =>
    clear H'
    try clear c1
    try clear c2
    try clear p2
    obtain ⟨x7_1, rfl, HA, HK1, BK101, HB⟩ := hrel
    cases gk with
    | zero => exact absurd HA.out (by simp [readline_Runes_Index.l0])
    | succ k1 =>
      have H := HA.out
      clear HA
      simp only [readline_Runes_Index.l0] at H
      by_cases c5 : x7_1 < (l2.length : Int)
      · rw [if_pos c5] at H
        have c5b0 : decide (x7_1 < (l2.length : Int)) = true := decide_eq_true c5
        clear c5
        by_cases c6 : 0 ≤ x7_1
        · rw [if_pos c6] at H
          have c6b0 : decide (0 ≤ x7_1) = true := decide_eq_true c6
          clear c6
          by_cases c7 : (rd l2 x7_1) = a1
          · rw [if_pos c7] at H
            have c7b0 : ((rd l2 x7_1) == a1) = true := beq_iff_eq.mpr c7
            have c7b1 : ((rd l2 x7_1) != a1) = false := bne_eq_false_iff_eq.mpr c7
            clear c7
            obtain rfl := Option.some.inj H
            have p102 : 0 ≤ (x7_1 : Int) := of_decide_eq_true (by first | (with_reducible assumption) | assumption)
            have q102 : x7_1 < (l2.length : Int) := of_decide_eq_true (by first | (with_reducible assumption) | assumption)
            obtain ⟨ad102, e102, hx102_0⟩ := Kd.at_int HR2.out x7_1 p102 q102
            cases e102
            replace hx102_0 := (HB.out.cell (World.block_lt_of_cell? w _ hx102_0)).trans hx102_0
            replace p102 := eq_true p102
            replace q102 := eq_true q102
            go_wp2
            go_ret
            exact ⟨by first | rfl | (simp [errW_none, errW_some] <;> rfl) | (simp [*, errW_none, errW_some] <;> rfl), by repeat (first | (with_reducible first | exact HB.out | apply below_alloc | apply pw_below_drewN | apply below_drew1 | refine below_set ?_ GE101.out) | exact HB.out)⟩
          · rw [if_neg c7] at H
            have c7b0 : ((rd l2 x7_1) == a1) = false := beq_eq_false_iff_ne.mpr c7
            have c7b1 : ((rd l2 x7_1) != a1) = true := bne_iff_ne.mpr c7
            have H' := Aside0.mk H
            clear H
            have p102 : 0 ≤ (x7_1 : Int) := of_decide_eq_true (by first | (with_reducible assumption) | assumption)
            have q102 : x7_1 < (l2.length : Int) := of_decide_eq_true (by first | (with_reducible assumption) | assumption)
            obtain ⟨ad102, e102, hx102_0⟩ := Kd.at_int HR2.out x7_1 p102 q102
            cases e102
            replace hx102_0 := (HB.out.cell (World.block_lt_of_cell? w _ hx102_0)).trans hx102_0
            replace p102 := eq_true p102
            replace q102 := eq_true q102
            go_wp2
            go_roundg k1
            case measure => have := HK1.out; omega
            case rel => exact ⟨(wrap64 (x7_1 + 1)), (by first | rfl | (simp; done) | (simp [*]; done)), H', ⟨by have := HK1.out; omega⟩, ⟨by (with_reducible repeat (first | refine blk_drewN ?_ _ | refine blk_drew ?_ | refine blk_alloc ?_ _)); exact BK101.out⟩, ⟨by repeat (first | (with_reducible first | exact HB.out | apply below_alloc | apply pw_below_drewN | apply below_drew1 | refine below_set ?_ GE101.out) | exact HB.out)⟩⟩
        · rw [if_neg c6] at H
          exact absurd H (by simp)
      · rw [if_neg c5] at H
        have c5b0 : decide (x7_1 < (l2.length : Int)) = false := decide_eq_false c5
        clear c5
        obtain rfl := Option.some.inj H
        go_wp2
        go_ret
        exact ⟨by first | rfl | (simp [errW_none, errW_some] <;> rfl) | (simp [*, errW_none, errW_some] <;> rfl), by repeat (first | (with_reducible first | exact HB.out | apply below_alloc | apply pw_below_drewN | apply below_drew1 | refine below_set ?_ GE101.out) | exact HB.out)⟩
/-! ### readline_Runes_ColorFilter: function 152 -/
mutual
def readline_Runes_ColorFilter.l0 : Nat → List Int → List Int → Int → Option (List Int)
  | 0, _, _, _ => none
  | k + 1, x1, x5, x6 => if x6 < (x1.length : Int) then (if 0 ≤ x6 then (if (rd x1 x6) = 27 then (if 0 ≤ (wrap64 (x6 + 1)) then (if (wrap64 (x6 + 1)) < (x1.length : Int) then (readline_Runes_ColorFilter.j1 k x1 x5 x6 ((rd x1 (wrap64 (x6 + 1))) == 91)) else (none)) else (none)) else (readline_Runes_ColorFilter.j1 k x1 x5 x6 false)) else (none)) else (some x5)
def readline_Runes_ColorFilter.j1 : Nat → List Int → List Int → Int → Bool → Option (List Int)
  | 0, _, _, _, _ => none
  | k + 1, x1, x5, x6, x29 => if x29 = true then (if 0 ≤ (wrap64 (x6 + 2)) then (if (wrap64 (x6 + 2)) ≤ (x1.length : Int) then ((readline_Runes_Index.f k 109 (x1.drop ((wrap64 (x6 + 2)) : Int).toNat)).bind fun t107 => (if t107 = (-1) then (readline_Runes_ColorFilter.l0 k x1 x5 (wrap64 (x6 + 1))) else (readline_Runes_ColorFilter.l0 k x1 x5 (wrap64 ((wrap64 (x6 + (wrap64 (t107 + 2)))) + 1))))) else (none)) else (none)) else (if 0 ≤ x6 then (if x6 < (x1.length : Int) then (if x5.length < 35184372088832 then (readline_Runes_ColorFilter.l0 k x1 (x5 ++ [rd x1 x6]) (wrap64 (x6 + 1))) else (none)) else (none)) else (none))
end
def readline_Runes_ColorFilter.f (k : Nat)  (l1 : List Int) : Option (List Int) := if l1.length ≤ 35184372088832 then readline_Runes_ColorFilter.l0 k l1 ([] : List Int) 0 else none
theorem readline_Runes_ColorFilter.mono_l : ∀ k, (∀ y0 y1 y2, LeO (readline_Runes_ColorFilter.l0 k y0 y1 y2) (readline_Runes_ColorFilter.l0 (k + 1) y0 y1 y2)) ∧ (∀ y0 y1 y2 y3, LeO (readline_Runes_ColorFilter.j1 k y0 y1 y2 y3) (readline_Runes_ColorFilter.j1 (k + 1) y0 y1 y2 y3))
  | 0 => ⟨fun _ _ _ r h => by simp [readline_Runes_ColorFilter.l0] at h, fun _ _ _ _ r h => by simp [readline_Runes_ColorFilter.j1] at h⟩
  | k + 1 => by
    obtain ⟨ih0, ih1⟩ := readline_Runes_ColorFilter.mono_l k
    refine ⟨?_, ?_⟩
    · intro y0 y1 y2
      unfold readline_Runes_ColorFilter.l0
      repeat' first
      | (with_reducible exact ih0 _ _ _)
      | (with_reducible exact ih1 _ _ _ _)
      | (with_reducible exact readline_Runes_Index.mono _ _ _)
      | (with_reducible exact LeO.refl _)
      | (with_reducible exact LeO.none _)
      | (with_reducible refine LeO.ite ?_ ?_)
      | (with_reducible refine LeO.bind ?_ (fun _ => ?_))
      | exact ih0 _ _ _
      | exact ih1 _ _ _ _
      | exact readline_Runes_Index.mono _ _ _
      | exact LeO.none _
      | refine LeO.ite ?_ ?_
      | refine LeO.bind ?_ (fun _ => ?_)
    · intro y0 y1 y2 y3
      unfold readline_Runes_ColorFilter.j1
      repeat' first
      | (with_reducible exact ih0 _ _ _)
      | (with_reducible exact ih1 _ _ _ _)
      | (with_reducible exact readline_Runes_Index.mono _ _ _)
      | (with_reducible exact LeO.refl _)
      | (with_reducible exact LeO.none _)
      | (with_reducible refine LeO.ite ?_ ?_)
      | (with_reducible refine LeO.bind ?_ (fun _ => ?_))
      | exact ih0 _ _ _
      | exact ih1 _ _ _ _
      | exact readline_Runes_Index.mono _ _ _
      | exact LeO.none _
      | refine LeO.ite ?_ ?_
      | refine LeO.bind ?_ (fun _ => ?_)
theorem readline_Runes_ColorFilter.mono : ∀ a0 k, LeO (readline_Runes_ColorFilter.f k a0) (readline_Runes_ColorFilter.f (k + 1) a0) := by
  intro a0 k
  obtain ⟨ih0, ih1⟩ := readline_Runes_ColorFilter.mono_l k
  unfold readline_Runes_ColorFilter.f
  repeat' first
      | (with_reducible exact ih0 _ _ _)
      | (with_reducible exact ih1 _ _ _ _)
      | (with_reducible exact readline_Runes_Index.mono _ _ _)
      | (with_reducible exact LeO.refl _)
      | (with_reducible exact LeO.none _)
      | (with_reducible refine LeO.ite ?_ ?_)
      | (with_reducible refine LeO.bind ?_ (fun _ => ?_))
      | exact ih0 _ _ _
      | exact ih1 _ _ _ _
      | exact readline_Runes_Index.mono _ _ _
      | exact LeO.none _
      | refine LeO.ite ?_ ?_
      | refine LeO.bind ?_ (fun _ => ?_)
set_option maxHeartbeats 8000000 in
set_option maxRecDepth 100000 in
theorem readline_Runes_ColorFilter.calls (k : Nat)  (A1 : Option Addr) (c1 : Nat) (l1 : List Int) (r : List Int) (w : World) (hr1 : Kd.C (Kd.int .i32) w A1 l1.length l1) (hc1 : l1.length ≤ c1) (h : readline_Runes_ColorFilter.f k l1 = some r) :
    Calls Tryd.prog 152 #[.agg #[], .slice A1 l1.length c1] w fun e w' => ∃ v0_ : Value, e = .returned (v0_) ∧ Kd.R (Kd.int .i32) 21 w' w.heap.size (fun _ => True) v0_ r ∧ Below w.heap.size w w' := by
  have hu112 := Tryd.underlying112
  have HR1 := Aside0.mk hr1
  have HC1 := Aside0.mk hc1
  clear hr1 hc1
  have HB := Aside0.mk (Below.refl w.heap.size w)
  have H : (if l1.length ≤ 35184372088832 then readline_Runes_ColorFilter.l0 k l1 ([] : List Int) 0 else none) = some r := h
  clear h
  by_cases cl : l1.length ≤ 35184372088832
  case neg => rw [if_neg cl] at H; exact absurd H (by simp)
  rw [if_pos cl] at H
  have LL := Aside0.mk cl
  clear cl
  have H' := Aside0.mk H
  clear H
  go_enter Tryd.func152, Tryd.ntmps152
  go_wp2_with (first | ((with_reducible refine gate_dst (N := 2) rfl ?_); refine box_event ?hg (N := 2) ?hd (cs := #[]) (t := 112) ?hr ?_; (case hd => rfl); (case hg => rfl); (case hr => first | (go_simp; done) | (go_simp; rfl)); intro gb103 hg w3 hbox hb; have n0_ := Aside0.mk (below_step (by repeat (first | (with_reducible first | exact HB.out | apply below_alloc | apply pw_below_drewN | apply below_drew1) | exact HB.out)) hb); have n1_ := Aside0.mk (hbox); have n2_ := Aside0.mk ((by rw [hg]; exact (below_size (by repeat (first | (with_reducible first | exact HB.out | apply below_alloc | apply pw_below_drewN | apply below_drew1) | exact HB.out))) : w.heap.size ≤ gb103)); have n3_ := Aside0.mk ((by rw [hg]; exact (below_size (by repeat (first | (with_reducible first | exact HB.out | apply below_alloc | apply pw_below_drewN | apply below_drew1) | exact HB.out))) : w.heap.size ≤ gb103)); clear HB; have HB := n0_; have BK103 := n1_; have GW103 := n2_; have GE103 := n3_; clear n0_ n1_ n2_ n3_; clear hb hbox hg) | ((with_reducible refine gate_dst (N := 10) rfl ?_); refine R_make0 (Kd.int .i32) (w0 := w) w.heap.size 21 rfl rfl 66 _ _ rfl l1.length ?hx ?hy (by kernel_rfl) (.int .i32 0) 4 info21 ⟨by have := LL.out; omega, by have := LL.out; unfold maxLen; omega⟩ (by repeat (first | (with_reducible first | exact HB.out | apply below_alloc | apply pw_below_drewN | apply below_drew1) | exact HB.out)) (by exact below_size (by repeat (first | (with_reducible first | exact HB.out | apply below_alloc | apply pw_below_drewN | apply below_drew1) | exact HB.out))) ?_; (case hx => first | rfl | (go_simp; done) | (go_simp; rfl)); (case hy => first | rfl | (go_simp; done) | (go_simp; rfl)); intro v10 w10 hR10 hB10 hg10; have HO_5 := Aside0.mk hR10; clear hR10; have n2_ := Aside0.mk ((hg10.block gb103 (lt_of_block BK103.out) (by simp)).trans BK103.out); clear BK103; have BK103 := n2_; have n1_ := Aside0.mk hB10; clear hB10 hg10; clear HB; have HB := n1_; clear n1_ n2_))
  go_loopg [5, 6] k (fun kq v5 v6 w' => ∃ (x5_1 : List Int) (x6_1 : Int), v6 = .int .i64 x6_1 ∧ Aside0 (readline_Runes_ColorFilter.l0 kq l1 x5_1 x6_1 = some r) ∧ Aside0 (kq ≤ k) ∧ Aside0 (Kd.R (Kd.int .i32) 21 w' w.heap.size (fun _ => True) v5 x5_1) ∧ Aside0 (w'.heap[gb103]? = some (.cells #[] 112 (0, 0))) ∧ Aside0 (Below w.heap.size w w'))
  case atStart => exact ⟨(([] : List Int)), (0), (by first | rfl | (simp; done) | (simp [*]; done)), H', ⟨Nat.le_refl _⟩, ⟨HO_5.out⟩, ⟨by (with_reducible repeat (first | refine blk_drewN ?_ _ | refine blk_drew ?_ | refine blk_alloc ?_ _)); exact BK103.out⟩, ⟨by repeat (first | (with_reducible first | exact HB.out | apply below_alloc | apply pw_below_drewN | apply below_drew1 | refine below_set ?_ GE103.out) | exact HB.out)⟩⟩
  case round =>
    clear H'
    try clear c1
    try clear p2
    obtain ⟨x5_1, x6_1, rfl, HA, HK1, HO_5, BK103, HB⟩ := hrel
    cases gk with
    | zero => exact absurd HA.out (by simp [readline_Runes_ColorFilter.l0])
    | succ k1 =>
      have H := HA.out
      clear HA
      simp only [readline_Runes_ColorFilter.l0] at H
      by_cases c4 : x6_1 < (l1.length : Int)
      · rw [if_pos c4] at H
        have c4b0 : decide (x6_1 < (l1.length : Int)) = true := decide_eq_true c4
        clear c4
        have HC5 := Aside0.mk H
        clear H
        go_upto_region 5 with (fail)
        go_cut [29] (fun v29 wc => ∃ (kq : Nat) (x29_4 : Bool), v29 = .bool x29_4 ∧ Aside0 (readline_Runes_ColorFilter.j1 kq l1 x5_1 x6_1 x29_4 = some r) ∧ Aside0 (kq ≤ k1) ∧ Aside0 (Kd.R (Kd.int .i32) 21 wc w.heap.size (fun _ => True) u5 x5_1) ∧ Aside0 (wc.heap[gb103]? = some (.cells #[] 112 (0, 0))) ∧ Aside0 (Below w.heap.size w wc))
        case first =>
          have H := HC5.out
          clear HC5
          by_cases c6 : 0 ≤ x6_1
          · rw [if_pos c6] at H
            have c6b0 : decide (0 ≤ x6_1) = true := decide_eq_true c6
            clear c6
            (first | rw [c6b0] | (simp only [i64_w, i32_w]; rw [c6b0]) | skip)
            by_cases c7 : (rd l1 x6_1) = 27
            · rw [if_pos c7] at H
              have c7b0 : ((rd l1 x6_1) == 27) = true := beq_iff_eq.mpr c7
              have c7b1 : ((rd l1 x6_1) != 27) = false := bne_eq_false_iff_eq.mpr c7
              clear c7
              obtain ⟨ji8, hji8⟩ : ∃ j_ : Int, (wrap64 (x6_1 + 1)) = j_ := ⟨_, rfl⟩
              replace H : (if 0 ≤ (ji8) then (if (ji8) < (l1.length : Int) then (readline_Runes_ColorFilter.j1 k1 l1 x5_1 x6_1 ((rd l1 (ji8)) == 91)) else (none)) else (none)) = some r := by first | (rw [hji8] at H; exact H) | (simp only [hji8] at H ⊢; exact H)
              have hji8w : (IntKind.i64.wrap (x6_1 + 1)) = ji8 := (i64_w _).trans hji8
              by_cases c9 : 0 ≤ (ji8)
              · rw [if_pos c9] at H
                have c9b0 : decide (0 ≤ (ji8)) = true := decide_eq_true c9
                clear c9
                by_cases c10 : (ji8) < (l1.length : Int)
                · rw [if_pos c10] at H
                  have c10b0 : decide ((ji8) < (l1.length : Int)) = true := decide_eq_true c10
                  clear c10
                  have H' := Aside0.mk H
                  clear H
                  have p104 : 0 ≤ (x6_1 : Int) := of_decide_eq_true (by first | (with_reducible assumption) | assumption)
                  have q104 : x6_1 < (l1.length : Int) := of_decide_eq_true (by first | (with_reducible assumption) | assumption)
                  obtain ⟨ad104, e104, hx104_0⟩ := Kd.at_int HR1.out x6_1 p104 q104
                  cases e104
                  replace hx104_0 := (HB.out.cell (World.block_lt_of_cell? w _ hx104_0)).trans hx104_0
                  replace p104 := eq_true p104
                  replace q104 := eq_true q104
                  have p105 : 0 ≤ ((ji8) : Int) := of_decide_eq_true (by first | (with_reducible assumption) | assumption)
                  have q105 : (ji8) < (l1.length : Int) := of_decide_eq_true (by first | (with_reducible assumption) | assumption)
                  obtain ⟨ad105, e105, hx105_0⟩ := Kd.at_int HR1.out (ji8) p105 q105
                  obtain rfl : ad104 = ad105 := (by injection e105)
                  replace hx105_0 := (HB.out.cell (World.block_lt_of_cell? w _ hx105_0)).trans hx105_0
                  replace p105 := eq_true p105
                  replace q105 := eq_true q105
                  go_wp2
                  go_meet
                  case rel => exact ⟨_, (((rd l1 (ji8)) == 91)), (by first | rfl | (simp; done) | (simp only [← hji8] <;> (first | rfl | simp)) | (simp [*]; done)), (by first | exact H' | (rw [hji8]; exact H')), ⟨by have := HK1.out; first | omega | exact Nat.le_refl _⟩, ⟨by (with_reducible repeat (first | apply Kd.R_alloc | apply Kd.R_drewN | apply Kd.R_drew)); exact HO_5.out⟩, ⟨by (with_reducible repeat (first | refine blk_drewN ?_ _ | refine blk_drew ?_ | refine blk_alloc ?_ _)); exact BK103.out⟩, ⟨by repeat (first | (with_reducible first | exact HB.out | apply below_alloc | apply pw_below_drewN | apply below_drew1 | refine below_set ?_ GE103.out) | exact HB.out)⟩⟩
                · rw [if_neg c10] at H
                  exact absurd H (by simp)
              · rw [if_neg c9] at H
                exact absurd H (by simp)
            · rw [if_neg c7] at H
              have c7b0 : ((rd l1 x6_1) == 27) = false := beq_eq_false_iff_ne.mpr c7
              have c7b1 : ((rd l1 x6_1) != 27) = true := bne_iff_ne.mpr c7
              have H' := Aside0.mk H
              clear H
              have p104 : 0 ≤ (x6_1 : Int) := of_decide_eq_true (by first | (with_reducible assumption) | assumption)
              have q104 : x6_1 < (l1.length : Int) := of_decide_eq_true (by first | (with_reducible assumption) | assumption)
              obtain ⟨ad104, e104, hx104_0⟩ := Kd.at_int HR1.out x6_1 p104 q104
              cases e104
              replace hx104_0 := (HB.out.cell (World.block_lt_of_cell? w _ hx104_0)).trans hx104_0
              replace p104 := eq_true p104
              replace q104 := eq_true q104
              go_wp2
              go_meet
              case rel => exact ⟨_, (false), (by first | rfl | (simp; done) | (simp [*]; done)), H', ⟨by have := HK1.out; first | omega | exact Nat.le_refl _⟩, ⟨by (with_reducible repeat (first | apply Kd.R_alloc | apply Kd.R_drewN | apply Kd.R_drew)); exact HO_5.out⟩, ⟨by (with_reducible repeat (first | refine blk_drewN ?_ _ | refine blk_drew ?_ | refine blk_alloc ?_ _)); exact BK103.out⟩, ⟨by repeat (first | (with_reducible first | exact HB.out | apply below_alloc | apply pw_below_drewN | apply below_drew1 | refine below_set ?_ GE103.out) | exact HB.out)⟩⟩
          · rw [if_neg c6] at H
            exact absurd H (by simp)
        case rest =>
          clear HC5
          try clear c1
          try clear p1
          try clear q1
          try clear hx1
          try clear p2
          try clear c4
          try clear c4b0
          try clear c6
          try clear c6b0
          try clear p6
          try clear c7
          try clear c7b0
          try clear c7b1
          try clear c9
          try clear c9b0
          try clear c10
          try clear c10b0
          try clear p10
          try clear q10
          try clear hx10
          try clear hx104_0
          try clear hx105_0
          try clear p104
          try clear p105
          try clear p2
          try clear q104
          try clear q105
          obtain ⟨kq, x29_4, rfl, HA, HJ4, HO_5, BK103, HB⟩ := hcut
          cases kq with
          | zero => exact absurd HA.out (by simp [readline_Runes_ColorFilter.j1])
          | succ kj4 =>
            have H := HA.out
            clear HA
            simp only [readline_Runes_ColorFilter.j1] at H
            by_cases c11 : x29_4 = true
            · subst c11
              have H1 : (if 0 ≤ (wrap64 (x6_1 + 2)) then (if (wrap64 (x6_1 + 2)) ≤ (l1.length : Int) then ((readline_Runes_Index.f kj4 109 (l1.drop ((wrap64 (x6_1 + 2)) : Int).toNat)).bind fun t107 => (if t107 = (-1) then (readline_Runes_ColorFilter.l0 kj4 l1 x5_1 (wrap64 (x6_1 + 1))) else (readline_Runes_ColorFilter.l0 kj4 l1 x5_1 (wrap64 ((wrap64 (x6_1 + (wrap64 (t107 + 2)))) + 1))))) else (none)) else (none)) = some r := by rw [if_pos rfl] at H; exact H
              clear H
              have H := H1
              clear H1
              obtain ⟨ji12, hji12⟩ : ∃ j_ : Int, (wrap64 (x6_1 + 2)) = j_ := ⟨_, rfl⟩
              replace H : (if 0 ≤ (ji12) then (if (ji12) ≤ (l1.length : Int) then ((readline_Runes_Index.f kj4 109 (l1.drop ((ji12) : Int).toNat)).bind fun t107 => (if t107 = (-1) then (readline_Runes_ColorFilter.l0 kj4 l1 x5_1 (wrap64 (x6_1 + 1))) else (readline_Runes_ColorFilter.l0 kj4 l1 x5_1 (wrap64 ((wrap64 (x6_1 + (wrap64 (t107 + 2)))) + 1))))) else (none)) else (none)) = some r := by first | (rw [hji12] at H; exact H) | (simp only [hji12] at H ⊢; exact H)
              have hji12w : (IntKind.i64.wrap (x6_1 + 2)) = ji12 := (i64_w _).trans hji12
              by_cases c13 : 0 ≤ (ji12)
              · rw [if_pos c13] at H
                have c13b0 := eq_true c13
                have c13b1 : decide (0 ≤ (ji12)) = true := decide_eq_true c13
                clear c13
                by_cases c14 : (ji12) ≤ (l1.length : Int)
                · rw [if_pos c14] at H
                  have c14b0 := eq_true c14
                  have c14b1 : decide ((ji12) ≤ (l1.length : Int)) = true := decide_eq_true c14
                  clear c14
                  replace H := Option.bind_eq_some_iff.mp H
                  obtain ⟨t107, A150, H⟩ := H
                  replace H : (if t107 = (-1) then (readline_Runes_ColorFilter.l0 kj4 l1 x5_1 (wrap64 (x6_1 + 1))) else (readline_Runes_ColorFilter.l0 kj4 l1 x5_1 (wrap64 ((wrap64 (x6_1 + (wrap64 (t107 + 2)))) + 1)))) = some r := H
                  have A15 := Aside0.mk A150
                  clear A150
                  by_cases c16 : t107 = (-1)
                  · rw [if_pos c16] at H
                    have c16b0 : (t107 == (-1)) = true := beq_iff_eq.mpr c16
                    have c16b1 : (t107 != (-1)) = false := bne_eq_false_iff_eq.mpr c16
                    clear c16
                    have H' := Aside0.mk H
                    clear H
                    try go_wp2
                    have n0_ := Aside0.mk (Kd.R_drew HO_5.out)
                    have n1_ := Aside0.mk (blk_drew BK103.out)
                    have n2_ := Aside0.mk (below_drew1 HB.out)
                    clear HO_5
                    clear BK103
                    clear HB
                    have HO_5 := n0_
                    have BK103 := n1_
                    have HB := n2_
                    clear n0_ n1_ n2_
                    obtain ⟨i018, hi018, _, hsz18, _⟩ := info_parts info21
                    obtain ⟨A18, hcut18, hA18, hC18⟩ := print_drop_of (P := Tryd.prog) (Value.int .i32) 0 66 21 .i64 Tryd.underlying66 hi018 hsz18 A1 c1 l1 (ji12) (of_decide_eq_true (by first | (with_reducible assumption) | assumption)) (of_decide_eq_true (by first | (with_reducible assumption) | assumption)) HC1.out
                    have HR106 := Aside0.mk (Kd.C_of_reads (h1 := fun _ => rfl) (hA18 _ (Kd.reads_of_C HR1.out)))
                    have HC106 := Aside0.mk hC18
                    clear hA18 hC18 hi018 hsz18
                    refine start_ (n := 7) (S := fun w' => True) (ds := []) #[false, false, false, false, false, false, false] (by kernel_rfl) rfl rfl trivial (fun hHeld => ?_)
                    generalize wc.drew = w17 at HO_5 BK103 HB HR106 hHeld ⊢
                    refine pure_ (i := 1) (N := some 31) (v := ?_) (a' := ?_) #[false, true, false, false, false, false, false] rfl rfl (by kernel_rfl) (fun _ _ _ h => h) (Or.inl ⟨by rfl, ?_⟩) ?_ ?_
                    rotate_left
                    · intro w'
                      go_simp
                      with_reducible rfl
                    rotate_left
                    · simp only [Act.put, List.setIfInBounds_toArray, List.set_cons_zero, List.set_cons_succ, i64_w, i32_w]
                      rfl
                    refine pure_ (i := 2) (N := some 32) (v := ?_) (a' := ?_) #[false, true, true, false, false, false, false] rfl rfl (by kernel_rfl) (fun _ _ _ h => h) (Or.inl ⟨by rfl, ?_⟩) ?_ ?_
                    rotate_left
                    · intro w'
                      go_simp
                      with_reducible rfl
                    rotate_left
                    · simp only [Act.put, List.setIfInBounds_toArray, List.set_cons_zero, List.set_cons_succ, i64_w, i32_w]
                      rfl
                    refine pure_ (i := 3) (N := some 33) (v := ?_) (a' := ?_) #[false, true, true, true, false, false, false] rfl rfl (by kernel_rfl) (fun _ _ _ h => h) (Or.inl ⟨by rfl, ?_⟩) ?_ ?_
                    rotate_left
                    · intro w'
                      go_simp
                      with_reducible rfl
                    rotate_left
                    · simp only [Act.put, List.setIfInBounds_toArray, List.set_cons_zero, List.set_cons_succ, i64_w, i32_w]
                      rfl
                    refine pure_ (i := 4) (N := some 34) (v := ?_) (a' := ?_) #[false, true, true, true, true, false, false] rfl rfl (by kernel_rfl) (fun _ _ _ h => h) (Or.inl ⟨by rfl, ?_⟩) ?_ ?_
                    rotate_left
                    · intro w'
                      go_simp
                      with_reducible rfl
                    rotate_left
                    · simp only [Act.put, List.setIfInBounds_toArray, List.set_cons_zero, List.set_cons_succ, i64_w, i32_w]
                      rfl
                    refine take_ (i := 0) (N := some 30) (v := ?_) (a' := ?_) #[true, true, true, true, true, false, false] rfl rfl (by kernel_rfl) (fun _ _ _ h => h) (Or.inl ⟨by rfl, ?_⟩) hHeld ?_ ?_
                    rotate_left
                    · intro w' _
                      go_simp
                      with_reducible rfl
                    rotate_left
                    · simp only [Act.put, List.setIfInBounds_toArray, List.set_cons_zero, List.set_cons_succ, i64_w, i32_w]
                      rfl
                    refine one_ (i := 5) (N := some 35) #[true, true, true, true, true, true, false] rfl rfl (by kernel_rfl) (by decide) (fun K hK => ?_)
                    refine goes_ Tryd.func177 (by kernel_rfl) rfl #[.agg #[], .int .i32 109, .slice A18 (l1.drop ((ji12) : Int).toNat).length (c1 - (ji12).toNat)] (by rfl) rfl rfl (by (try simp only [List.map_toArray, List.map_cons, List.map_nil]); first | done | (rw [show (l1.drop ((ji12) : Int).toNat).length = (l1.length - (ji12).toNat) from List.length_drop] <;> rfl) | (simp only [hji12]; rfl) | rfl | (simp only [List.length_drop, List.length_take]; rfl)) ?_
                    with_reducible refine (readline_Runes_Index.calls kj4  109 _ _ (l1.drop ((ji12) : Int).toNat) t107 _ ?side1 ?side2 A15.out).mono ?_
                    (case side1 => repeat (first | exact (Kd.C_below HR106.out HB.out) | (with_reducible refine Kd.C_alloc ?_ _) | (with_reducible refine Kd.C_drewN ?_ _) | (with_reducible refine Kd.C_drew ?_)))
                    (case side2 => exact HC106.out)
                    rintro e w19 ⟨rfl, hb⟩
                    refine ⟨_, rfl, ?_⟩
                    have n0_ := Aside0.mk (Kd.R_below (by (with_reducible repeat (first | apply Kd.R_alloc | apply Kd.R_drewN | apply Kd.R_drew)); exact HO_5.out) hb)
                    have n1_ := Aside0.mk (blk_below (g := gb103) (o := .cells #[] 112 (0, 0)) (by (with_reducible repeat (first | refine blk_drewN ?_ _ | refine blk_drew ?_ | refine blk_alloc ?_ _)); exact BK103.out) hb)
                    have n2_ := Aside0.mk (below_step (by repeat (first | (with_reducible first | exact HB.out | apply below_alloc | apply pw_below_drewN | apply below_drew1 | refine below_set ?_ GE103.out) | exact HB.out)) hb)
                    clear HO_5
                    clear BK103
                    clear HB
                    have HO_5 := n0_
                    have BK103 := n1_
                    have HB := n2_
                    clear n0_ n1_ n2_
                    (try clear hb)
                    (try clear hb2)
                    (try clear hk)
                    (try clear hi)
                    refine hK.out _ _ trivial (fun hHeld => ?_)
                    clear hK K
                    refine norm_ (a' := ?_) ?_ ?_
                    rotate_left
                    · show Act.put _ (some 35) _ = _
                      simp only [Act.put, List.setIfInBounds_toArray, List.set_cons_zero, List.set_cons_succ, i64_w, i32_w]
                      rfl
                    refine pure_ (i := 6) (N := some 7) (v := ?_) (a' := ?_) #[true, true, true, true, true, true, true] rfl rfl (by kernel_rfl) (fun _ _ _ h => h) (Or.inl ⟨by rfl, ?_⟩) ?_ ?_
                    rotate_left
                    · intro w'
                      go_simp
                      with_reducible rfl
                    rotate_left
                    · simp only [Act.put, List.setIfInBounds_toArray, List.set_cons_zero, List.set_cons_succ, i64_w, i32_w]
                      rfl
                    refine done_ (by kernel_rfl) ?_
                    try go_wp2
                    go_roundg kj4
                    case measure => have := HK1.out; have := HJ4.out; omega
                    case rel => exact ⟨(x5_1), (wrap64 (x6_1 + 1)), (by first | rfl | (simp; done) | (simp [*]; done)), H', ⟨by have := HK1.out; have := HJ4.out; omega⟩, ⟨by (with_reducible repeat (first | apply Kd.R_alloc | apply Kd.R_drewN | apply Kd.R_drew)); exact HO_5.out⟩, ⟨by (with_reducible repeat (first | refine blk_drewN ?_ _ | refine blk_drew ?_ | refine blk_alloc ?_ _)); exact BK103.out⟩, ⟨by repeat (first | (with_reducible first | exact HB.out | apply below_alloc | apply pw_below_drewN | apply below_drew1 | refine below_set ?_ GE103.out) | exact HB.out)⟩⟩
                  · rw [if_neg c16] at H
                    have c16b0 : (t107 == (-1)) = false := beq_eq_false_iff_ne.mpr c16
                    have c16b1 : (t107 != (-1)) = true := bne_iff_ne.mpr c16
                    have H' := Aside0.mk H
                    clear H
                    try go_wp2
                    have n0_ := Aside0.mk (Kd.R_drew HO_5.out)
                    have n1_ := Aside0.mk (blk_drew BK103.out)
                    have n2_ := Aside0.mk (below_drew1 HB.out)
                    clear HO_5
                    clear BK103
                    clear HB
                    have HO_5 := n0_
                    have BK103 := n1_
                    have HB := n2_
                    clear n0_ n1_ n2_
                    obtain ⟨i021, hi021, _, hsz21, _⟩ := info_parts info21
                    obtain ⟨A21, hcut21, hA21, hC21⟩ := print_drop_of (P := Tryd.prog) (Value.int .i32) 0 66 21 .i64 Tryd.underlying66 hi021 hsz21 A1 c1 l1 (ji12) (of_decide_eq_true (by first | (with_reducible assumption) | assumption)) (of_decide_eq_true (by first | (with_reducible assumption) | assumption)) HC1.out
                    have HR106 := Aside0.mk (Kd.C_of_reads (h1 := fun _ => rfl) (hA21 _ (Kd.reads_of_C HR1.out)))
                    have HC106 := Aside0.mk hC21
                    clear hA21 hC21 hi021 hsz21
                    refine start_ (n := 7) (S := fun w' => True) (ds := []) #[false, false, false, false, false, false, false] (by kernel_rfl) rfl rfl trivial (fun hHeld => ?_)
                    generalize wc.drew = w20 at HO_5 BK103 HB HR106 hHeld ⊢
                    refine pure_ (i := 1) (N := some 31) (v := ?_) (a' := ?_) #[false, true, false, false, false, false, false] rfl rfl (by kernel_rfl) (fun _ _ _ h => h) (Or.inl ⟨by rfl, ?_⟩) ?_ ?_
                    rotate_left
                    · intro w'
                      go_simp
                      with_reducible rfl
                    rotate_left
                    · simp only [Act.put, List.setIfInBounds_toArray, List.set_cons_zero, List.set_cons_succ, i64_w, i32_w]
                      rfl
                    refine pure_ (i := 2) (N := some 32) (v := ?_) (a' := ?_) #[false, true, true, false, false, false, false] rfl rfl (by kernel_rfl) (fun _ _ _ h => h) (Or.inl ⟨by rfl, ?_⟩) ?_ ?_
                    rotate_left
                    · intro w'
                      go_simp
                      with_reducible rfl
                    rotate_left
                    · simp only [Act.put, List.setIfInBounds_toArray, List.set_cons_zero, List.set_cons_succ, i64_w, i32_w]
                      rfl
                    refine pure_ (i := 3) (N := some 33) (v := ?_) (a' := ?_) #[false, true, true, true, false, false, false] rfl rfl (by kernel_rfl) (fun _ _ _ h => h) (Or.inl ⟨by rfl, ?_⟩) ?_ ?_
                    rotate_left
                    · intro w'
                      go_simp
                      with_reducible rfl
                    rotate_left
                    · simp only [Act.put, List.setIfInBounds_toArray, List.set_cons_zero, List.set_cons_succ, i64_w, i32_w]
                      rfl
                    refine pure_ (i := 4) (N := some 34) (v := ?_) (a' := ?_) #[false, true, true, true, true, false, false] rfl rfl (by kernel_rfl) (fun _ _ _ h => h) (Or.inl ⟨by rfl, ?_⟩) ?_ ?_
                    rotate_left
                    · intro w'
                      go_simp
                      with_reducible rfl
                    rotate_left
                    · simp only [Act.put, List.setIfInBounds_toArray, List.set_cons_zero, List.set_cons_succ, i64_w, i32_w]
                      rfl
                    refine take_ (i := 0) (N := some 30) (v := ?_) (a' := ?_) #[true, true, true, true, true, false, false] rfl rfl (by kernel_rfl) (fun _ _ _ h => h) (Or.inl ⟨by rfl, ?_⟩) hHeld ?_ ?_
                    rotate_left
                    · intro w' _
                      go_simp
                      with_reducible rfl
                    rotate_left
                    · simp only [Act.put, List.setIfInBounds_toArray, List.set_cons_zero, List.set_cons_succ, i64_w, i32_w]
                      rfl
                    refine one_ (i := 5) (N := some 35) #[true, true, true, true, true, true, false] rfl rfl (by kernel_rfl) (by decide) (fun K hK => ?_)
                    refine goes_ Tryd.func177 (by kernel_rfl) rfl #[.agg #[], .int .i32 109, .slice A21 (l1.drop ((ji12) : Int).toNat).length (c1 - (ji12).toNat)] (by rfl) rfl rfl (by (try simp only [List.map_toArray, List.map_cons, List.map_nil]); first | done | (rw [show (l1.drop ((ji12) : Int).toNat).length = (l1.length - (ji12).toNat) from List.length_drop] <;> rfl) | (simp only [hji12]; rfl) | rfl | (simp only [List.length_drop, List.length_take]; rfl)) ?_
                    with_reducible refine (readline_Runes_Index.calls kj4  109 _ _ (l1.drop ((ji12) : Int).toNat) t107 _ ?side1 ?side2 A15.out).mono ?_
                    (case side1 => repeat (first | exact (Kd.C_below HR106.out HB.out) | (with_reducible refine Kd.C_alloc ?_ _) | (with_reducible refine Kd.C_drewN ?_ _) | (with_reducible refine Kd.C_drew ?_)))
                    (case side2 => exact HC106.out)
                    rintro e w22 ⟨rfl, hb⟩
                    refine ⟨_, rfl, ?_⟩
                    have n0_ := Aside0.mk (Kd.R_below (by (with_reducible repeat (first | apply Kd.R_alloc | apply Kd.R_drewN | apply Kd.R_drew)); exact HO_5.out) hb)
                    have n1_ := Aside0.mk (blk_below (g := gb103) (o := .cells #[] 112 (0, 0)) (by (with_reducible repeat (first | refine blk_drewN ?_ _ | refine blk_drew ?_ | refine blk_alloc ?_ _)); exact BK103.out) hb)
                    have n2_ := Aside0.mk (below_step (by repeat (first | (with_reducible first | exact HB.out | apply below_alloc | apply pw_below_drewN | apply below_drew1 | refine below_set ?_ GE103.out) | exact HB.out)) hb)
                    clear HO_5
                    clear BK103
                    clear HB
                    have HO_5 := n0_
                    have BK103 := n1_
                    have HB := n2_
                    clear n0_ n1_ n2_
                    (try clear hb)
                    (try clear hb2)
                    (try clear hk)
                    (try clear hi)
                    refine hK.out _ _ trivial (fun hHeld => ?_)
                    clear hK K
                    refine norm_ (a' := ?_) ?_ ?_
                    rotate_left
                    · show Act.put _ (some 35) _ = _
                      simp only [Act.put, List.setIfInBounds_toArray, List.set_cons_zero, List.set_cons_succ, i64_w, i32_w]
                      rfl
                    refine pure_ (i := 6) (N := some 7) (v := ?_) (a' := ?_) #[true, true, true, true, true, true, true] rfl rfl (by kernel_rfl) (fun _ _ _ h => h) (Or.inl ⟨by rfl, ?_⟩) ?_ ?_
                    rotate_left
                    · intro w'
                      go_simp
                      with_reducible rfl
                    rotate_left
                    · simp only [Act.put, List.setIfInBounds_toArray, List.set_cons_zero, List.set_cons_succ, i64_w, i32_w]
                      rfl
                    refine done_ (by kernel_rfl) ?_
                    try go_wp2
                    go_roundg kj4
                    case measure => have := HK1.out; have := HJ4.out; omega
                    case rel => exact ⟨(x5_1), (wrap64 ((wrap64 (x6_1 + (wrap64 (t107 + 2)))) + 1)), (by first | rfl | (simp; done) | (simp [*]; done)), H', ⟨by have := HK1.out; have := HJ4.out; omega⟩, ⟨by (with_reducible repeat (first | apply Kd.R_alloc | apply Kd.R_drewN | apply Kd.R_drew)); exact HO_5.out⟩, ⟨by (with_reducible repeat (first | refine blk_drewN ?_ _ | refine blk_drew ?_ | refine blk_alloc ?_ _)); exact BK103.out⟩, ⟨by repeat (first | (with_reducible first | exact HB.out | apply below_alloc | apply pw_below_drewN | apply below_drew1 | refine below_set ?_ GE103.out) | exact HB.out)⟩⟩
                · rw [if_neg c14] at H
                  exact absurd H (by simp)
              · rw [if_neg c13] at H
                exact absurd H (by simp)
            · replace c11 := Bool.eq_false_iff.mpr c11
              subst c11
              have H1 : (if 0 ≤ x6_1 then (if x6_1 < (l1.length : Int) then (if x5_1.length < 35184372088832 then (readline_Runes_ColorFilter.l0 kj4 l1 (x5_1 ++ [rd l1 x6_1]) (wrap64 (x6_1 + 1))) else (none)) else (none)) else (none)) = some r := by rw [if_neg (show ¬ (false = true) by decide)] at H; exact H
              clear H
              have H := H1
              clear H1
              by_cases c23 : 0 ≤ x6_1
              · rw [if_pos c23] at H
                have c23b0 : decide (0 ≤ x6_1) = true := decide_eq_true c23
                clear c23
                by_cases c24 : x6_1 < (l1.length : Int)
                · rw [if_pos c24] at H
                  have c24b0 : decide (x6_1 < (l1.length : Int)) = true := decide_eq_true c24
                  clear c24
                  by_cases c25 : x5_1.length < 35184372088832
                  · rw [if_pos c25] at H
                    have LMc25 := Aside0.mk c25
                    clear c25
                    obtain ⟨y109, hy109⟩ : ∃ y_ : List Int, y_ = (x5_1 ++ [rd l1 x6_1]) := ⟨_, rfl⟩
                    replace H : (readline_Runes_ColorFilter.l0 kj4 l1 y109 (wrap64 (x6_1 + 1))) = some r := by first | (rw [hy109]; with_reducible exact H) | (have H2_ := (Option.bind_some _ _).symm.trans H; rw [hy109]; with_reducible exact H2_) | (have H2_ := (Option.bind_some _ _).symm.trans H; with_reducible exact H2_) | with_reducible exact H | (rw [hy109]; exact H) | exact H
                    have Ny109 := Aside0.mk hy109
                    clear hy109
                    have H' := Aside0.mk H
                    clear H
                    have p108 : 0 ≤ (x6_1 : Int) := of_decide_eq_true (by first | (with_reducible assumption) | assumption)
                    have q108 : x6_1 < (l1.length : Int) := of_decide_eq_true (by first | (with_reducible assumption) | assumption)
                    obtain ⟨ad108, e108, hx108_0⟩ := Kd.at_int HR1.out x6_1 p108 q108
                    cases e108
                    replace hx108_0 := (HB.out.cell (World.block_lt_of_cell? w _ hx108_0)).trans hx108_0
                    replace p108 := eq_true p108
                    replace q108 := eq_true q108
                    go_wp2_with (first | ((with_reducible refine gate_builtin (b := .append) (xs := #[.tmp 42, .tmp 47]) rfl ?_); at_builtin; refine Kd.R_append (Kd.int .i32) (w0 := w) w.heap.size rfl (.tmp 42) (.tmp 47) 66 21 (.int .i32 0) 4 rfl Tryd.underlying66 info21 rfl (by decide) (by omega) u5 x5_1 (rd l1 x6_1) [.int .i32 (rd l1 x6_1)] (fun _ => True) (fun _ => False) rfl rfl ?aP (fun _ hk => hk.elim) ?aF ?aO ?aB ?aS ?aL ?_; (case aP => exact rfl); (case aB => exact (by repeat (first | (with_reducible first | exact HB.out | apply below_alloc | apply pw_below_drewN | apply below_drew1 | refine below_set ?_ GE103.out) | exact HB.out))); (case aF => exact (fun _ _ => trivial)); (case aO => exact (by (with_reducible repeat (first | apply Kd.R_alloc | apply Kd.R_drewN | apply Kd.R_drew)); exact HO_5.out)); (case aS => exact (below_size (by repeat (first | (with_reducible first | exact HB.out | apply below_alloc | apply pw_below_drewN | apply below_drew1 | refine below_set ?_ GE103.out) | exact HB.out)))); (case aL => have := LMc25.out; omega); intro v110 w26 ho hb hg hat; rw [← Ny109.out] at ho; have n0_ := Aside0.mk (blk_grown (g := gb103) (o := .cells #[] 112 (0, 0)) (by (with_reducible repeat (first | refine blk_drewN ?_ _ | refine blk_drew ?_ | refine blk_alloc ?_ _)); exact BK103.out) hg (Kd.R_ne HO_5.out BK103.out (by decide))); have n1_ := Aside0.mk (hb); have n2_ := Aside0.mk (ho); clear BK103; clear HB; clear HO_5; have BK103 := n0_; have HB := n1_; have HO111 := n2_; clear n0_ n1_ n2_; clear ho hb hg hat))
                    go_roundg kj4
                    case measure => have := HK1.out; have := HJ4.out; omega
                    case rel => exact ⟨(y109), (wrap64 (x6_1 + 1)), (by first | rfl | (simp; done) | (simp [*]; done)), H', ⟨by have := HK1.out; have := HJ4.out; omega⟩, ⟨by (with_reducible repeat (first | apply Kd.R_alloc | apply Kd.R_drewN | apply Kd.R_drew)); exact HO111.out⟩, ⟨by (with_reducible repeat (first | refine blk_drewN ?_ _ | refine blk_drew ?_ | refine blk_alloc ?_ _)); exact BK103.out⟩, ⟨by repeat (first | (with_reducible first | exact HB.out | apply below_alloc | apply pw_below_drewN | apply below_drew1 | refine below_set ?_ GE103.out) | exact HB.out)⟩⟩
                  · rw [if_neg c25] at H
                    exact absurd H (by simp)
                · rw [if_neg c24] at H
                  exact absurd H (by simp)
              · rw [if_neg c23] at H
                exact absurd H (by simp)
      · rw [if_neg c4] at H
        have c4b0 : decide (x6_1 < (l1.length : Int)) = false := decide_eq_false c4
        clear c4
        obtain rfl := Option.some.inj H
        go_wp2
        go_ret
        exact ⟨_, by first | rfl | (simp [errW_none, errW_some] <;> rfl) | (simp [*, errW_none, errW_some] <;> rfl), by (with_reducible repeat (first | apply Kd.R_alloc | apply Kd.R_drewN | apply Kd.R_drew)); exact HO_5.out, by repeat (first | (with_reducible first | exact HB.out | apply below_alloc | apply pw_below_drewN | apply below_drew1 | refine below_set ?_ GE103.out) | exact HB.out)⟩
end Go.Proofs.YtdinikcfhpfojaaDoor.H
