/- Printed by a program of this seat (xprint) out of the translation: Go functions as plain functions, and the walks that show them; no condition. -/
import Derived.Test.YthbdaoapjnofkaaDoorQPFnAggregatedAllx0
import Derived.Test.YthbdaoapjnofkaaDoorQHAggT
import Derived.Test.YthbdaoapjnofkaaDoorQHWhole
import Derived.Test.YthbdaoapjnofkaaDoorQPFnAggregatedAllx1
import Derived.Test.YthbdaoapjnofkaaDoorQPFnAggregatedAllx3
namespace Go.Proofs.YthbdaoapjnofkaaDoor.PFnAggregatedAll
open Go.RowKit Go.Proofs.YthbdaoapjnofkaaDoor.H Go.Proofs.YthbdaoapjnofkaaDoor.R Go.Proofs.YthbdaoapjnofkaaDoorW.PrintWords Go.Proofs.YthbdaoapjnofkaaDoorW.PrintLast Go.Proofs.YthbdaoapjnofkaaDoorW.PrintMore
attribute [local go_sem] max2_int min2_int max_two min_two max_three min_three max_four min_four   -- for this text's walks alone
set_option linter.unusedVariables false
set_option linter.unusedSimpArgs false
/-! ### laws_FnAggregatedAll: function 3 -/
mutual
def laws_FnAggregatedAll.j0 : Nat → List ByteArray → Bool → Option (Bool)
  | 0, _, _ => none
  | k + 1, x0, x29 => if x29 = true then (some true) else ((impl_Aggregated.f x0).bind fun bt137 => (laws_FnAggregatedAll.l0 k x0 bt137.1 bt137.2 ([] : List ByteArray) (wrap64 ((x0.length : Int) - 1))))
def laws_FnAggregatedAll.l0 : Nat → List ByteArray → ByteArray → Int → List ByteArray → Int → Option (Bool)
  | 0, _, _, _, _, _ => none
  | k + 1, x0, x3, x4, x5, x6 => if x6 ≥ 0 then (if 0 ≤ x6 then (if x6 < (x0.length : Int) then (if x5.length < 8796093022208 then (laws_FnAggregatedAll.l0 k x0 x3 x4 (x5 ++ [rdOf ByteArray.empty x0 x6]) (wrap64 (x6 - 1))) else (none)) else (none)) else (none)) else (if 0 < (x0.length : Int) then (if x5.length < 8796093022208 then ((impl_Aggregated.f (x5 ++ [rdOf ByteArray.empty x0 0])).bind fun bt147 => (if (runesOf (rdOf ByteArray.empty x0 0)).length ≤ 70368744177664 then ((some (runesOf (rdOf ByteArray.empty x0 0) : List Int)).bind fun y150 => (if bt147.1.toList = x3.toList then (if bt147.2 = x4 then (if (runesOf x3).length ≤ 70368744177664 then (if x4 = ((runesOf x3).length : Int) then (laws_FnAggregatedAll.j2 k x0 x3 x4 y150 (decide (x4 > (y150.length : Int)))) else (laws_FnAggregatedAll.j2 k x0 x3 x4 y150 true)) else (none)) else (laws_FnAggregatedAll.j2 k x0 x3 x4 y150 true)) else (laws_FnAggregatedAll.j2 k x0 x3 x4 y150 true))) else (none))) else (none)) else (none))
def laws_FnAggregatedAll.j2 : Nat → List ByteArray → ByteArray → Int → List Int → Bool → Option (Bool)
  | 0, _, _, _, _, _ => none
  | k + 1, x0, x3, x4, x9, x83 => if x83 = true then (some false) else (laws_FnAggregatedAll.l1 k x0 x3 x4 x9 true (x0.length : Int) 0)
def laws_FnAggregatedAll.l1 : Nat → List ByteArray → ByteArray → Int → List Int → Bool → Int → Int → Option (Bool)
  | 0, _, _, _, _, _, _, _ => none
  | k + 1, x0, x3, x4, x9, x10, x85, x86 => if x86 < x85 then (if x3.toList = ([] : List UInt8) then (if x10 = true then (if x4 < (x9.length : Int) then (if 0 ≤ x86 then (if x86 < (x0.length : Int) then (if 0 ≤ (mn (wrap64 (x4 + 1)) (x9.length : Int)) then (if (mn (wrap64 (x4 + 1)) (x9.length : Int)) ≤ (x9.length : Int) then ((impl_BeginsRunes.f k (rdOf ByteArray.empty x0 x86) (runesBytes (x9.take ((mn (wrap64 (x4 + 1)) (x9.length : Int)) : Int).toNat)) false).bind fun t166 => (laws_FnAggregatedAll.l1 k x0 x3 x4 x9 t166 x85 (wrap64 (x86 + 1)))) else (none)) else (none)) else (none)) else (none)) else (laws_FnAggregatedAll.l1 k x0 x3 x4 x9 false x85 (wrap64 (x86 + 1)))) else (laws_FnAggregatedAll.l1 k x0 x3 x4 x9 false x85 (wrap64 (x86 + 1)))) else (if 0 ≤ x86 then (if x86 < (x0.length : Int) then ((impl_BeginsRunes.f k (rdOf ByteArray.empty x0 x86) x3 false).bind fun t168 => (if t168 = true then (if x10 = true then (if x4 < (x9.length : Int) then (if 0 ≤ (mn (wrap64 (x4 + 1)) (x9.length : Int)) then (if (mn (wrap64 (x4 + 1)) (x9.length : Int)) ≤ (x9.length : Int) then ((impl_BeginsRunes.f k (rdOf ByteArray.empty x0 x86) (runesBytes (x9.take ((mn (wrap64 (x4 + 1)) (x9.length : Int)) : Int).toNat)) false).bind fun t174 => (laws_FnAggregatedAll.l1 k x0 x3 x4 x9 t174 x85 (wrap64 (x86 + 1)))) else (none)) else (none)) else (laws_FnAggregatedAll.l1 k x0 x3 x4 x9 false x85 (wrap64 (x86 + 1)))) else (laws_FnAggregatedAll.l1 k x0 x3 x4 x9 false x85 (wrap64 (x86 + 1)))) else (some false))) else (none)) else (none))) else ((impl_Aggregated.f (([(⟨#[97, 98]⟩ : ByteArray), (⟨#[97, 99]⟩ : ByteArray)] : List ByteArray))).bind fun bt159 => (if x10 = true then (some false) else (if bt159.1.toList = ([97] : List UInt8) then (some (bt159.2 == 1)) else (some false))))
end
def laws_FnAggregatedAll.f (k : Nat) (l0 : List ByteArray) : Option (Bool) := (laws_zzFits1.f k l0).bind fun t135 => (if t135 = true then (if (l0.length : Int) = 0 then (laws_FnAggregatedAll.j0 k l0 true) else (if (l0.length : Int) > 12 then (laws_FnAggregatedAll.j0 k l0 true) else ((laws_whole9.f k l0).bind fun t136 => (laws_FnAggregatedAll.j0 k l0 (!t136))))) else (some true))
theorem laws_FnAggregatedAll.mono_l : ∀ k, (∀ y0 y1, LeO (laws_FnAggregatedAll.j0 k y0 y1) (laws_FnAggregatedAll.j0 (k + 1) y0 y1)) ∧ (∀ y0 y1 y2 y3 y4, LeO (laws_FnAggregatedAll.l0 k y0 y1 y2 y3 y4) (laws_FnAggregatedAll.l0 (k + 1) y0 y1 y2 y3 y4)) ∧ (∀ y0 y1 y2 y3 y4, LeO (laws_FnAggregatedAll.j2 k y0 y1 y2 y3 y4) (laws_FnAggregatedAll.j2 (k + 1) y0 y1 y2 y3 y4)) ∧ (∀ y0 y1 y2 y3 y4 y5 y6, LeO (laws_FnAggregatedAll.l1 k y0 y1 y2 y3 y4 y5 y6) (laws_FnAggregatedAll.l1 (k + 1) y0 y1 y2 y3 y4 y5 y6))
  | 0 => ⟨fun _ _ r h => by simp [laws_FnAggregatedAll.j0] at h, fun _ _ _ _ _ r h => by simp [laws_FnAggregatedAll.l0] at h, fun _ _ _ _ _ r h => by simp [laws_FnAggregatedAll.j2] at h, fun _ _ _ _ _ _ _ r h => by simp [laws_FnAggregatedAll.l1] at h⟩
  | k + 1 => by
    obtain ⟨ih0, ih1, ih2, ih3⟩ := laws_FnAggregatedAll.mono_l k
    refine ⟨?_, ?_, ?_, ?_⟩
    · intro y0 y1
      unfold laws_FnAggregatedAll.j0
      repeat' first
      | (with_reducible exact ih0 _ _)
      | (with_reducible exact ih1 _ _ _ _ _)
      | (with_reducible exact ih2 _ _ _ _ _)
      | (with_reducible exact ih3 _ _ _ _ _ _ _)
      | (with_reducible exact impl_BeginsRunes.mono _ _ _ _)
      | (with_reducible exact laws_whole9.mono _ _)
      | (with_reducible exact laws_zzFits1.mono _ _)
      | (with_reducible exact LeO.refl _)
      | (with_reducible exact LeO.none _)
      | (with_reducible refine LeO.ite ?_ ?_)
      | (with_reducible refine LeO.bind ?_ (fun _ => ?_))
      | exact ih0 _ _
      | exact ih1 _ _ _ _ _
      | exact ih2 _ _ _ _ _
      | exact ih3 _ _ _ _ _ _ _
      | exact impl_BeginsRunes.mono _ _ _ _
      | exact laws_whole9.mono _ _
      | exact laws_zzFits1.mono _ _
      | exact LeO.none _
      | refine LeO.ite ?_ ?_
      | refine LeO.bind ?_ (fun _ => ?_)
    · intro y0 y1 y2 y3 y4
      unfold laws_FnAggregatedAll.l0
      repeat' first
      | (with_reducible exact ih0 _ _)
      | (with_reducible exact ih1 _ _ _ _ _)
      | (with_reducible exact ih2 _ _ _ _ _)
      | (with_reducible exact ih3 _ _ _ _ _ _ _)
      | (with_reducible exact impl_BeginsRunes.mono _ _ _ _)
      | (with_reducible exact laws_whole9.mono _ _)
      | (with_reducible exact laws_zzFits1.mono _ _)
      | (with_reducible exact LeO.refl _)
      | (with_reducible exact LeO.none _)
      | (with_reducible refine LeO.ite ?_ ?_)
      | (with_reducible refine LeO.bind ?_ (fun _ => ?_))
      | exact ih0 _ _
      | exact ih1 _ _ _ _ _
      | exact ih2 _ _ _ _ _
      | exact ih3 _ _ _ _ _ _ _
      | exact impl_BeginsRunes.mono _ _ _ _
      | exact laws_whole9.mono _ _
      | exact laws_zzFits1.mono _ _
      | exact LeO.none _
      | refine LeO.ite ?_ ?_
      | refine LeO.bind ?_ (fun _ => ?_)
    · intro y0 y1 y2 y3 y4
      unfold laws_FnAggregatedAll.j2
      repeat' first
      | (with_reducible exact ih0 _ _)
      | (with_reducible exact ih1 _ _ _ _ _)
      | (with_reducible exact ih2 _ _ _ _ _)
      | (with_reducible exact ih3 _ _ _ _ _ _ _)
      | (with_reducible exact impl_BeginsRunes.mono _ _ _ _)
      | (with_reducible exact laws_whole9.mono _ _)
      | (with_reducible exact laws_zzFits1.mono _ _)
      | (with_reducible exact LeO.refl _)
      | (with_reducible exact LeO.none _)
      | (with_reducible refine LeO.ite ?_ ?_)
      | (with_reducible refine LeO.bind ?_ (fun _ => ?_))
      | exact ih0 _ _
      | exact ih1 _ _ _ _ _
      | exact ih2 _ _ _ _ _
      | exact ih3 _ _ _ _ _ _ _
      | exact impl_BeginsRunes.mono _ _ _ _
      | exact laws_whole9.mono _ _
      | exact laws_zzFits1.mono _ _
      | exact LeO.none _
      | refine LeO.ite ?_ ?_
      | refine LeO.bind ?_ (fun _ => ?_)
    · intro y0 y1 y2 y3 y4 y5 y6
      unfold laws_FnAggregatedAll.l1
      repeat' first
      | (with_reducible exact ih0 _ _)
      | (with_reducible exact ih1 _ _ _ _ _)
      | (with_reducible exact ih2 _ _ _ _ _)
      | (with_reducible exact ih3 _ _ _ _ _ _ _)
      | (with_reducible exact impl_BeginsRunes.mono _ _ _ _)
      | (with_reducible exact laws_whole9.mono _ _)
      | (with_reducible exact laws_zzFits1.mono _ _)
      | (with_reducible exact LeO.refl _)
      | (with_reducible exact LeO.none _)
      | (with_reducible refine LeO.ite ?_ ?_)
      | (with_reducible refine LeO.bind ?_ (fun _ => ?_))
      | exact ih0 _ _
      | exact ih1 _ _ _ _ _
      | exact ih2 _ _ _ _ _
      | exact ih3 _ _ _ _ _ _ _
      | exact impl_BeginsRunes.mono _ _ _ _
      | exact laws_whole9.mono _ _
      | exact laws_zzFits1.mono _ _
      | exact LeO.none _
      | refine LeO.ite ?_ ?_
      | refine LeO.bind ?_ (fun _ => ?_)
theorem laws_FnAggregatedAll.mono : ∀ a0 k, LeO (laws_FnAggregatedAll.f k a0) (laws_FnAggregatedAll.f (k + 1) a0) := by
  intro a0 k
  obtain ⟨ih0, ih1, ih2, ih3⟩ := laws_FnAggregatedAll.mono_l k
  unfold laws_FnAggregatedAll.f
  repeat' first
      | (with_reducible exact ih0 _ _)
      | (with_reducible exact ih1 _ _ _ _ _)
      | (with_reducible exact ih2 _ _ _ _ _)
      | (with_reducible exact ih3 _ _ _ _ _ _ _)
      | (with_reducible exact impl_BeginsRunes.mono _ _ _ _)
      | (with_reducible exact laws_whole9.mono _ _)
      | (with_reducible exact laws_zzFits1.mono _ _)
      | (with_reducible exact LeO.refl _)
      | (with_reducible exact LeO.none _)
      | (with_reducible refine LeO.ite ?_ ?_)
      | (with_reducible refine LeO.bind ?_ (fun _ => ?_))
      | exact ih0 _ _
      | exact ih1 _ _ _ _ _
      | exact ih2 _ _ _ _ _
      | exact ih3 _ _ _ _ _ _ _
      | exact impl_BeginsRunes.mono _ _ _ _
      | exact laws_whole9.mono _ _
      | exact laws_zzFits1.mono _ _
      | exact LeO.none _
      | refine LeO.ite ?_ ?_
      | refine LeO.bind ?_ (fun _ => ?_)
def laws_FnAggregatedAll.T21 : Bool × List (List Nat × List Nat) := (true, [([], []), ([0], [0]), ([1], [1]), ([1], [1]), ([3, 1], [1, 3]), ([2, 4, 1], [1, 2, 4]), ([1, 5], [1, 5]), ([6, 1], [6]), ([7], [7]), ([7], [7]), ([8, 9, 7], [7, 8, 9]), ([10, 7], [7, 10]), ([7], [7]), ([7], [7]), ([13, 7], [7, 13]), ([7], [7]), ([15, 7], [7, 15]), ([14, 16, 7], [7, 14, 16]), ([12, 17, 7], [7, 12, 17]), ([18, 7], [7, 18]), ([11, 19, 7, 7], [7, 11, 19]), ([7, 20], [7, 20]), ([21, 20, 0, 1, 2, 3, 4, 5, 6, 7, 8, 9, 10, 11, 12, 13, 14, 15, 16, 17, 18, 19, 20, 21], [0, 21])])
def laws_FnAggregatedAll.B21 : List Nat := [0, 1, 3, 3, 11, 31, 63, 127, 255, 255, 1023, 2047, 255, 255, 8447, 255, 33023, 123135, 258303, 520447, 1048575, 2097151, 4194303]
theorem laws_FnAggregatedAll.tab21 : rtab .any (opsOf Tryd.f3 21) = laws_FnAggregatedAll.T21 := by kernel_rfl
theorem laws_FnAggregatedAll.bits21 : waitsOk laws_FnAggregatedAll.T21.2 laws_FnAggregatedAll.B21 = true := by kernel_rfl
set_option maxHeartbeats 8000000 in
set_option maxRecDepth 100000 in
theorem laws_FnAggregatedAll.calls (k : Nat) (A0 : Option Addr) (c0 : Nat) (l0 : List ByteArray) (r : Bool) (w : World) (hr0 : Kd.C Kd.string w A0 l0.length l0) (hc0 : l0.length ≤ c0) (h : laws_FnAggregatedAll.f k l0 = some r) :
    Calls Tryd.prog 3 #[.slice A0 l0.length c0] w fun e w' => e = .returned (.bool r) ∧ Below w.heap.size w w' := by
  have HR0 := Aside0.mk hr0
  have HC0 := Aside0.mk hc0
  clear hr0 hc0
  have HB := Aside0.mk (Below.refl w.heap.size w)
  have H : ((laws_zzFits1.f k l0).bind fun t135 => (if t135 = true then (if (l0.length : Int) = 0 then (laws_FnAggregatedAll.j0 k l0 true) else (if (l0.length : Int) > 12 then (laws_FnAggregatedAll.j0 k l0 true) else ((laws_whole9.f k l0).bind fun t136 => (laws_FnAggregatedAll.j0 k l0 (!t136))))) else (some true))) = some r := h
  clear h
  replace H := Option.bind_eq_some_iff.mp H
  obtain ⟨t135, A20, H⟩ := H
  replace H : (if t135 = true then (if (l0.length : Int) = 0 then (laws_FnAggregatedAll.j0 k l0 true) else (if (l0.length : Int) > 12 then (laws_FnAggregatedAll.j0 k l0 true) else ((laws_whole9.f k l0).bind fun t136 => (laws_FnAggregatedAll.j0 k l0 (!t136))))) else (some true)) = some r := H
  have A2 := Aside0.mk A20
  clear A20
  by_cases c3 : t135 = true
  · subst c3
    have H1 : (if (l0.length : Int) = 0 then (laws_FnAggregatedAll.j0 k l0 true) else (if (l0.length : Int) > 12 then (laws_FnAggregatedAll.j0 k l0 true) else ((laws_whole9.f k l0).bind fun t136 => (laws_FnAggregatedAll.j0 k l0 (!t136))))) = some r := by rw [if_pos rfl] at H; exact H
    clear H
    have H := H1
    clear H1
    have HC4 := Aside0.mk H
    clear H
    go_enter Tryd.func3, Tryd.ntmps3
    go_upto_region 3 with (first | ((with_reducible refine gate_callee (f := 11) rfl ?_); refine goesL_ (some 15) rfl rfl Tryd.func11 (by kernel_rfl) rfl #[.slice A0 l0.length c0] rfl (by (try simp only [List.map_toArray, List.map_cons, List.map_nil]); first | done | rfl | (simp only [List.length_drop, List.length_take]; rfl) | (simp only [Int.toNat_natCast, ByteArray.extract_zero_size]; rfl)) ?_; (with_reducible refine (laws_zzFits1.calls k _ _ l0 true _ ?side1 ?side2 A2.out).mono ?_); (case side1 => repeat (first | exact HR0.out | (with_reducible refine Kd.C_alloc ?_ _) | (with_reducible refine Kd.C_drewN ?_ _) | (with_reducible refine Kd.C_drew ?_))); (case side2 => exact HC0.out); rintro e w' ⟨rfl, ⟨nd, rfl⟩⟩; refine ⟨_, rfl, ?_⟩))
    (try simp only [Act.put, List.setIfInBounds_toArray, List.set_cons_zero, List.set_cons_succ])
    go_cut [29] (fun v29 wc => ∃ (kq : Nat) (x29_3 : Bool), v29 = .bool x29_3 ∧ Aside0 (laws_FnAggregatedAll.j0 kq l0 x29_3 = some r) ∧ Aside0 (kq ≤ k) ∧ Aside0 (Below w.heap.size w wc))
    case first =>
      have H := HC4.out
      clear HC4
      by_cases c5 : (l0.length : Int) = 0
      · rw [if_pos c5] at H
        have c5b0 : ((l0.length : Int) == 0) = true := beq_iff_eq.mpr c5
        have c5b1 : ((l0.length : Int) != 0) = false := bne_eq_false_iff_eq.mpr c5
        clear c5
        (first | rw [c5b0] | (simp only [i64_w, i32_w]; rw [c5b0]) | skip)
        have H' := Aside0.mk H
        clear H
        go_wp2
        go_meet
        case rel => exact ⟨_, (true), (by first | rfl | (simp; done) | (simp [*]; done)), H', ⟨by first | omega | exact Nat.le_refl _⟩, ⟨by repeat (first | (with_reducible first | exact HB.out | apply below_alloc | apply pw_below_drewN | apply below_drew1) | exact HB.out)⟩⟩
      · rw [if_neg c5] at H
        have c5b0 : ((l0.length : Int) == 0) = false := beq_eq_false_iff_ne.mpr c5
        have c5b1 : ((l0.length : Int) != 0) = true := bne_iff_ne.mpr c5
        have c5b2 : ¬ (l0 = []) := fun h_ => c5 (by rw [h_]; rfl)
        (first | rw [c5b0] | (simp only [i64_w, i32_w]; rw [c5b0]) | skip)
        by_cases c6 : (l0.length : Int) > 12
        · rw [if_pos c6] at H
          have c6b0 : decide (12 < (l0.length : Int)) = true := decide_eq_true c6
          have c6b1 : decide (12 < l0.length) = true := decide_eq_true (by omega)
          clear c6
          have H' := Aside0.mk H
          clear H
          go_wp2
          go_meet
          case rel => exact ⟨_, (true), (by first | rfl | (simp; done) | (simp [*]; done)), H', ⟨by first | omega | exact Nat.le_refl _⟩, ⟨by repeat (first | (with_reducible first | exact HB.out | apply below_alloc | apply pw_below_drewN | apply below_drew1) | exact HB.out)⟩⟩
        · rw [if_neg c6] at H
          have c6b0 : decide (12 < (l0.length : Int)) = false := decide_eq_false c6
          have c6b1 : decide (12 < l0.length) = false := decide_eq_false (by omega)
          clear c6
          replace H := Option.bind_eq_some_iff.mp H
          obtain ⟨t136, A70, H⟩ := H
          replace H : (laws_FnAggregatedAll.j0 k l0 (!t136)) = some r := H
          have A7 := Aside0.mk A70
          clear A70
          have H' := Aside0.mk H
          clear H
          go_wp2_with (first | (go_at_call 12; (with_reducible refine (laws_whole9.calls k _ _ l0 t136 _ ?side1 ?side2 A7.out).mono ?_); (case side1 => repeat (first | exact (Kd.C_below HR0.out HB.out) | (with_reducible refine Kd.C_alloc ?_ _) | (with_reducible refine Kd.C_drewN ?_ _) | (with_reducible refine Kd.C_drew ?_))); (case side2 => exact HC0.out); rintro e w8 ⟨rfl, hb⟩; have n0_ := Aside0.mk (below_step (by repeat (first | (with_reducible first | exact HB.out | apply below_alloc | apply pw_below_drewN | apply below_drew1) | exact HB.out)) hb); clear HB; have HB := n0_; clear n0_; (try clear hb); (try clear hb2); (try clear hk); (try clear hi)))
          go_meet
          case rel => exact ⟨_, (!t136), (by first | rfl | (simp; done) | (simp [*]; done)), H', ⟨by first | omega | exact Nat.le_refl _⟩, ⟨by repeat (first | (with_reducible first | exact HB.out | apply below_alloc | apply pw_below_drewN | apply below_drew1) | exact HB.out)⟩⟩
    case rest =>
      clear HC4
      try clear c1
      try clear p2
      try clear c3
      try clear c5
      try clear c5b0
      try clear c5b1
      try clear c5b2
      try clear c6
      try clear c6b0
      try clear c6b1
      obtain ⟨kq, x29_3, rfl, HA, HJ3, HB⟩ := hcut
      cases kq with
      | zero => exact absurd HA.out (by simp [laws_FnAggregatedAll.j0])
      | succ kj3 =>
        have H := HA.out
        clear HA
        simp only [laws_FnAggregatedAll.j0] at H
        by_cases c9 : x29_3 = true
        · subst c9
          have H1 : (some true) = some r := by rw [if_pos rfl] at H; exact H
          clear H
          have H := H1
          clear H1
          obtain rfl := Option.some.inj H
          go_wp2
          go_ret
          exact ⟨by first | rfl | (simp [errW_none, errW_some] <;> rfl) | (simp [*, errW_none, errW_some] <;> rfl), by repeat (first | (with_reducible first | exact HB.out | apply below_alloc | apply pw_below_drewN | apply below_drew1) | exact HB.out)⟩
        · replace c9 := Bool.eq_false_iff.mpr c9
          subst c9
          have H1 : ((impl_Aggregated.f l0).bind fun bt137 => (laws_FnAggregatedAll.l0 kj3 l0 bt137.1 bt137.2 ([] : List ByteArray) (wrap64 ((l0.length : Int) - 1)))) = some r := by rw [if_neg (show ¬ (false = true) by decide)] at H; exact H
          clear H
          have H := H1
          clear H1
          replace H := Option.bind_eq_some_iff.mp H
          obtain ⟨⟨t137, t138⟩, A100, H⟩ := H
          replace H : (laws_FnAggregatedAll.l0 kj3 l0 t137 t138 ([] : List ByteArray) (wrap64 ((l0.length : Int) - 1))) = some r := H
          have A10 := Aside0.mk A100
          clear A100
          have H' := Aside0.mk H
          clear H
          go_wp2_with (first | ((with_reducible refine gate_callee (f := 13) rfl ?_); refine goesL_ (some 32) rfl rfl Tryd.func13 (by kernel_rfl) rfl #[.slice A0 l0.length c0] rfl (by (try simp only [List.map_toArray, List.map_cons, List.map_nil]); first | done | rfl | (simp only [List.length_drop, List.length_take]; rfl) | (simp only [Int.toNat_natCast, ByteArray.extract_zero_size]; rfl)) ?_; (with_reducible refine (impl_Aggregated.calls _ _ l0 t137 t138 _ ?side1 ?side2 A10.out).mono ?_); (case side1 => repeat (first | exact (Kd.C_below HR0.out HB.out) | (with_reducible refine Kd.C_alloc ?_ _) | (with_reducible refine Kd.C_drewN ?_ _) | (with_reducible refine Kd.C_drew ?_))); (case side2 => exact HC0.out); rintro e w11 ⟨rfl, hb⟩; refine ⟨_, rfl, ?_⟩; have n0_ := Aside0.mk (below_step (by repeat (first | (with_reducible first | exact HB.out | apply below_alloc | apply pw_below_drewN | apply below_drew1) | exact HB.out)) hb); clear HB; have HB := n0_; clear n0_; (try clear hb); (try clear hb2); (try clear hk); (try clear hi)))
          go_loopg [5, 6] kj3 (fun kq v5 v6 w' => ∃ (x5_2 : List ByteArray) (x6_2 : Int), v6 = .int .i64 x6_2 ∧ Aside0 (laws_FnAggregatedAll.l0 kq l0 t137 t138 x5_2 x6_2 = some r) ∧ Aside0 (kq ≤ kj3) ∧ Aside0 (Kd.R Kd.string 9 w' w.heap.size (fun _ => True) v5 x5_2) ∧ Aside0 (Below w.heap.size w w'))
          case atStart => exact ⟨(([] : List ByteArray)), (wrap64 ((l0.length : Int) - 1)), (by first | rfl | (simp; done) | (simp [*]; done)), H', ⟨Nat.le_refl _⟩, ⟨by first | exact Kd.R_nil _ _ _ _ _ | exact Kd.N_nil _ _ _ _ _ | exact Kd.V_nil _ _ _ _ _ | exact Kd.Q_nil _ _ _ _ _ | exact Kd.S_nil _ _ _ _ _⟩, ⟨by repeat (first | (with_reducible first | exact HB.out | apply below_alloc | apply pw_below_drewN | apply below_drew1) | exact HB.out)⟩⟩
          case round =>
            clear H'
            try clear c1
            try clear p2
            try clear c3
            try clear c5
            try clear c5b0
            try clear c5b1
            try clear c5b2
            try clear c6
            try clear c6b0
            try clear c6b1
            try clear p6
            try clear c9
            try clear c11
            try clear p2
            obtain ⟨x5_2, x6_2, rfl, HA, HK2, HO_5, HB⟩ := hrel
            cases gk with
            | zero => exact absurd HA.out (by simp [laws_FnAggregatedAll.l0])
            | succ k2 =>
              have H := HA.out
              clear HA
              simp only [laws_FnAggregatedAll.l0] at H
              by_cases c12 : x6_2 ≥ 0
              · rw [if_pos c12] at H
                have c12b0 : decide (0 ≤ x6_2) = true := decide_eq_true c12
                clear c12
                by_cases c13 : 0 ≤ x6_2
                · rw [if_pos c13] at H
                  have c13b0 : decide (0 ≤ x6_2) = true := decide_eq_true c13
                  clear c13
                  by_cases c14 : x6_2 < (l0.length : Int)
                  · rw [if_pos c14] at H
                    have c14b0 : decide (x6_2 < (l0.length : Int)) = true := decide_eq_true c14
                    clear c14
                    by_cases c15 : x5_2.length < 8796093022208
                    · rw [if_pos c15] at H
                      have LMc15 := Aside0.mk c15
                      clear c15
                      obtain ⟨y140, hy140⟩ : ∃ y_ : List ByteArray, y_ = (x5_2 ++ [rdOf ByteArray.empty l0 x6_2]) := ⟨_, rfl⟩
                      replace H : (laws_FnAggregatedAll.l0 k2 l0 t137 t138 y140 (wrap64 (x6_2 - 1))) = some r := by first | (rw [hy140]; with_reducible exact H) | (have H2_ := (Option.bind_some _ _).symm.trans H; rw [hy140]; with_reducible exact H2_) | (have H2_ := (Option.bind_some _ _).symm.trans H; with_reducible exact H2_) | with_reducible exact H | (rw [hy140]; exact H) | exact H
                      have Ny140 := Aside0.mk hy140
                      clear hy140
                      have H' := Aside0.mk H
                      clear H
                      have p139 : 0 ≤ (x6_2 : Int) := of_decide_eq_true (by first | (with_reducible assumption) | assumption)
                      have q139 : x6_2 < (l0.length : Int) := of_decide_eq_true (by first | (with_reducible assumption) | assumption)
                      obtain ⟨ad139, e139, hx139_0⟩ := Kd.at_string HR0.out x6_2 p139 q139
                      cases e139
                      replace hx139_0 := (HB.out.cell (World.block_lt_of_cell? w _ hx139_0)).trans hx139_0
                      replace p139 := eq_true p139
                      replace q139 := eq_true q139
                      go_wp2_with (first | ((with_reducible refine gate_builtin (b := .append) (xs := #[.tmp 42, .tmp 47]) rfl ?_); (try (refine gate_guard (by rfl) ?_; dsimp only)); at_builtin; refine Kd.R_append Kd.string (w0 := w) w.heap.size rfl (.tmp 42) (.tmp 47) 22 9 (.string ⟨#[]⟩) 16 rfl Tryd.underlying22 info9 rfl (by decide) (by omega) u5 x5_2 (rdOf ByteArray.empty l0 x6_2) [.string (rdOf ByteArray.empty l0 x6_2)] (fun _ => True) (fun _ => False) rfl rfl ?aP (fun _ hk => hk.elim) ?aF ?aO ?aB ?aS ?aL ?_; (case aP => exact rfl); (case aB => exact (by repeat (first | (with_reducible first | exact HB.out | apply below_alloc | apply pw_below_drewN | apply below_drew1) | exact HB.out))); (case aF => exact (fun _ _ => trivial)); (case aO => exact (by (with_reducible repeat (first | apply Kd.R_alloc | apply Kd.R_drewN | apply Kd.R_drew)); exact HO_5.out)); (case aS => exact (below_size (by repeat (first | (with_reducible first | exact HB.out | apply below_alloc | apply pw_below_drewN | apply below_drew1) | exact HB.out)))); (case aL => have := LMc15.out; omega); intro v141 w16 ho hb hg hat; rw [← Ny140.out] at ho; have n0_ := Aside0.mk (hb); have n1_ := Aside0.mk (ho); clear HB; clear HO_5; have HB := n0_; have HO142 := n1_; clear n0_ n1_; clear ho hb hg hat))
                      go_roundg k2
                      case measure => have := HJ3.out; have := HK2.out; omega
                      case rel => exact ⟨(y140), (wrap64 (x6_2 - 1)), (by first | rfl | (simp; done) | (simp [*]; done)), H', ⟨by have := HJ3.out; have := HK2.out; omega⟩, ⟨by (with_reducible repeat (first | apply Kd.R_alloc | apply Kd.R_drewN | apply Kd.R_drew)); exact HO142.out⟩, ⟨by repeat (first | (with_reducible first | exact HB.out | apply below_alloc | apply pw_below_drewN | apply below_drew1) | exact HB.out)⟩⟩
                    · rw [if_neg c15] at H
                      exact absurd H (by simp)
                  · rw [if_neg c14] at H
                    exact absurd H (by simp)
                · rw [if_neg c13] at H
                  exact absurd H (by simp)
              · rw [if_neg c12] at H
                have c12b0 : decide (0 ≤ x6_2) = false := decide_eq_false c12
                clear c12
                by_cases c17 : 0 < (l0.length : Int)
                · rw [if_pos c17] at H
                  have c17b0 : decide (0 < (l0.length : Int)) = true := decide_eq_true c17
                  have c17b1 : decide (0 < l0.length) = true := decide_eq_true (by omega)
                  clear c17
                  by_cases c18 : x5_2.length < 8796093022208
                  · rw [if_pos c18] at H
                    have LMc18 := Aside0.mk c18
                    clear c18
                    obtain ⟨y144, hy144⟩ : ∃ y_ : List ByteArray, y_ = (x5_2 ++ [rdOf ByteArray.empty l0 0]) := ⟨_, rfl⟩
                    replace H : ((impl_Aggregated.f y144).bind fun bt147 => (if (runesOf (rdOf ByteArray.empty l0 0)).length ≤ 70368744177664 then ((some (runesOf (rdOf ByteArray.empty l0 0) : List Int)).bind fun y150 => (if bt147.1.toList = t137.toList then (if bt147.2 = t138 then (if (runesOf t137).length ≤ 70368744177664 then (if t138 = ((runesOf t137).length : Int) then (laws_FnAggregatedAll.j2 k2 l0 t137 t138 y150 (decide (t138 > (y150.length : Int)))) else (laws_FnAggregatedAll.j2 k2 l0 t137 t138 y150 true)) else (none)) else (laws_FnAggregatedAll.j2 k2 l0 t137 t138 y150 true)) else (laws_FnAggregatedAll.j2 k2 l0 t137 t138 y150 true))) else (none))) = some r := by first | (rw [hy144]; with_reducible exact H) | (have H2_ := (Option.bind_some _ _).symm.trans H; rw [hy144]; with_reducible exact H2_) | (have H2_ := (Option.bind_some _ _).symm.trans H; with_reducible exact H2_) | with_reducible exact H | (rw [hy144]; exact H) | exact H
                    have Ny144 := Aside0.mk hy144
                    clear hy144
                    replace H := Option.bind_eq_some_iff.mp H
                    obtain ⟨⟨t147, t148⟩, A190, H⟩ := H
                    replace H : (if (runesOf (rdOf ByteArray.empty l0 0)).length ≤ 70368744177664 then ((some (runesOf (rdOf ByteArray.empty l0 0) : List Int)).bind fun y150 => (if t147.toList = t137.toList then (if t148 = t138 then (if (runesOf t137).length ≤ 70368744177664 then (if t138 = ((runesOf t137).length : Int) then (laws_FnAggregatedAll.j2 k2 l0 t137 t138 y150 (decide (t138 > (y150.length : Int)))) else (laws_FnAggregatedAll.j2 k2 l0 t137 t138 y150 true)) else (none)) else (laws_FnAggregatedAll.j2 k2 l0 t137 t138 y150 true)) else (laws_FnAggregatedAll.j2 k2 l0 t137 t138 y150 true))) else (none)) = some r := H
                    have A19 := Aside0.mk A190
                    clear A190
                    by_cases c20 : (runesOf (rdOf ByteArray.empty l0 0)).length ≤ 70368744177664
                    · rw [if_pos c20] at H
                      have c20b0 := eq_true c20
                      have c20b1 : decide ((runesOf (rdOf ByteArray.empty l0 0)).length ≤ 70368744177664) = true := decide_eq_true c20
                      clear c20
                      obtain ⟨y150, hy150⟩ : ∃ y_ : List Int, y_ = (runesOf (rdOf ByteArray.empty l0 0)) := ⟨_, rfl⟩
                      replace H : (if t147.toList = t137.toList then (if t148 = t138 then (if (runesOf t137).length ≤ 70368744177664 then (if t138 = ((runesOf t137).length : Int) then (laws_FnAggregatedAll.j2 k2 l0 t137 t138 y150 (decide (t138 > (y150.length : Int)))) else (laws_FnAggregatedAll.j2 k2 l0 t137 t138 y150 true)) else (none)) else (laws_FnAggregatedAll.j2 k2 l0 t137 t138 y150 true)) else (laws_FnAggregatedAll.j2 k2 l0 t137 t138 y150 true)) = some r := by first | (rw [hy150]; with_reducible exact H) | (have H2_ := (Option.bind_some _ _).symm.trans H; rw [hy150]; with_reducible exact H2_) | (have H2_ := (Option.bind_some _ _).symm.trans H; with_reducible exact H2_) | with_reducible exact H | (rw [hy150]; exact H) | exact H
                      have Ny150 := Aside0.mk hy150
                      clear hy150
                      have HC21 := Aside0.mk H
                      clear H
                      have p143 : 0 ≤ (0 : Int) := (by omega)
                      have q143 : 0 < (l0.length : Int) := of_decide_eq_true (by first | (with_reducible assumption) | assumption)
                      obtain ⟨ad143, e143, hx143_0⟩ := Kd.at_string HR0.out 0 p143 q143
                      cases e143
                      have qi143 : (0 < l0.length) = True := eq_true (by omega)
                      (try rw [show ((0 : Int)).toNat = 0 from rfl] at hx143_0)
                      (try rw [Addr.add_zero'] at hx143_0)
                      replace hx143_0 := (HB.out.cell (World.block_lt_of_cell? w _ hx143_0)).trans hx143_0
                      replace p143 := eq_true p143
                      replace q143 := eq_true q143
                      go_upto_region 13 with (first | ((with_reducible refine gate_builtin (b := .append) (xs := #[.tmp 50, .tmp 54]) rfl ?_); (try (refine gate_guard (by rfl) ?_; dsimp only)); at_builtin; refine Kd.R_append Kd.string (w0 := w) w.heap.size rfl (.tmp 50) (.tmp 54) 22 9 (.string ⟨#[]⟩) 16 rfl Tryd.underlying22 info9 rfl (by decide) (by omega) u5 x5_2 (rdOf ByteArray.empty l0 0) [.string (rdOf ByteArray.empty l0 0)] (fun _ => True) (fun _ => False) rfl rfl ?aP (fun _ hk => hk.elim) ?aF ?aO ?aB ?aS ?aL ?_; (case aP => exact rfl); (case aB => exact (by repeat (first | (with_reducible first | exact HB.out | apply below_alloc | apply pw_below_drewN | apply below_drew1) | exact HB.out))); (case aF => exact (fun _ _ => trivial)); (case aO => exact (by (with_reducible repeat (first | apply Kd.R_alloc | apply Kd.R_drewN | apply Kd.R_drew)); exact HO_5.out)); (case aS => exact (below_size (by repeat (first | (with_reducible first | exact HB.out | apply below_alloc | apply pw_below_drewN | apply below_drew1) | exact HB.out)))); (case aL => have := LMc18.out; omega); intro v145 w22 ho hb hg hat; rw [← Ny144.out] at ho; have n0_ := Aside0.mk (hb); have n1_ := Aside0.mk (ho); clear HB; clear HO_5; have HB := n0_; have HO146 := n1_; clear n0_ n1_; clear ho hb hg hat; obtain ⟨Ao23, co23, eo23⟩ := Kd.R_slice HO146.out; subst eo23) | ((with_reducible refine gate_callee (f := 13) rfl ?_); refine goesL_ (some 56) rfl rfl Tryd.func13 (by kernel_rfl) rfl #[.slice Ao23 y144.length co23] rfl (by (try simp only [List.map_toArray, List.map_cons, List.map_nil]); first | done | rfl | (simp only [List.length_drop, List.length_take]; rfl) | (simp only [Int.toNat_natCast, ByteArray.extract_zero_size]; rfl)) ?_; (with_reducible refine (impl_Aggregated.calls _ _ y144 t147 t148 _ ?side1 ?side2 A19.out).mono ?_); (case side1 => repeat (first | exact (Kd.R_reads' HO146.out).2.2 | (with_reducible refine Kd.C_alloc ?_ _) | (with_reducible refine Kd.C_drewN ?_ _) | (with_reducible refine Kd.C_drew ?_))); (case side2 => exact (Kd.R_reads' HO146.out).2.1); rintro e w24 ⟨rfl, hb⟩; refine ⟨_, rfl, ?_⟩; have n0_ := Aside0.mk (Kd.R_below (by (with_reducible repeat (first | apply Kd.R_alloc | apply Kd.R_drewN | apply Kd.R_drew)); exact HO146.out) hb); have n1_ := Aside0.mk (below_step (by repeat (first | (with_reducible first | exact HB.out | apply below_alloc | apply pw_below_drewN | apply below_drew1) | exact HB.out)) hb); clear HO146; clear HB; have HO146 := n0_; have HB := n1_; clear n0_ n1_; (try clear hb); (try clear hb2); (try clear hk); (try clear hi); have p149 : 0 ≤ (0 : Int) := (by omega); have q149 : 0 < (l0.length : Int) := of_decide_eq_true (by first | (with_reducible assumption) | assumption); obtain ⟨ad149, e149, hx149_0⟩ := Kd.at_string HR0.out 0 p149 q149; obtain rfl : ad143 = ad149 := (by injection e149); have qi149 : (0 < l0.length) = True := eq_true (by omega); (try rw [show ((0 : Int)).toNat = 0 from rfl] at hx149_0); (try rw [Addr.add_zero'] at hx149_0); replace hx149_0 := (HB.out.cell (World.block_lt_of_cell? w _ hx149_0)).trans hx149_0; replace p149 := eq_true p149; replace q149 := eq_true q149) | ((with_reducible refine gate_dst (N := 62) rfl ?_); (try (refine gate_guard (by rfl) ?_; dsimp only)); refine R_runes _ 21 rfl (N := 62) rfl 9 27 _ rfl (rdOf ByteArray.empty l0 0) rfl Tryd.underlying9 Tryd.underlying27 Tryd.underlying21 (ok := fun _ => True) (okp := fun _ => True) (fun _ hk => hk) trivial (of_decide_eq_true (by first | (with_reducible assumption) | assumption)) (Below.refl _ _) (Nat.le_refl _) ?_; intro v151 w25 ho26 hb hg_ hnew_; clear hg_ hnew_; (first | rw [← Ny150.out] at ho26 | (simp only [Int.reduceToNat] at ho26; rw [← Ny150.out] at ho26)); have n0_ := Aside0.mk (Kd.R_below (by (with_reducible repeat (first | apply Kd.R_alloc | apply Kd.R_drewN | apply Kd.R_drew)); exact HO146.out) hb); have n1_ := Aside0.mk (Kd.R_lower ho26 (below_size (by repeat (first | (with_reducible first | exact HB.out | apply below_alloc | apply pw_below_drewN | apply below_drew1) | exact HB.out)))); have n2_ := Aside0.mk (below_step (by repeat (first | (with_reducible first | exact HB.out | apply below_alloc | apply pw_below_drewN | apply below_drew1) | exact HB.out)) hb); clear HO146; clear HB; have HO146 := n0_; have HO152 := n1_; have HB := n2_; clear n0_ n1_ n2_; clear hb ho26))
                      (try simp only [Act.put, List.setIfInBounds_toArray, List.set_cons_zero, List.set_cons_succ])
                      go_cut [83] (fun v83 wc => ∃ (kq : Nat) (x83_20 : Bool), v83 = .bool x83_20 ∧ Aside0 (laws_FnAggregatedAll.j2 kq l0 t137 t138 y150 x83_20 = some r) ∧ Aside0 (kq ≤ k2) ∧ Aside0 (Kd.R (Kd.int .i32) 21 wc w.heap.size (fun _ => True) v151 y150) ∧ Aside0 (Below w.heap.size w wc))
                      case first =>
                        have H := HC21.out
                        clear HC21
                        by_cases c27 : t147.toList = t137.toList
                        · rw [if_pos c27] at H
                          have c27b0 : (t147.toList == t137.toList) = true := beq_iff_eq.mpr c27
                          have c27b1 : (t147.toList != t137.toList) = false := bne_eq_false_iff_eq.mpr c27
                          clear c27
                          (first | rw [c27b0] | (simp only [i64_w, i32_w]; rw [c27b0]) | skip)
                          by_cases c28 : t148 = t138
                          · rw [if_pos c28] at H
                            have c28b0 : (t148 == t138) = true := beq_iff_eq.mpr c28
                            have c28b1 : (t148 != t138) = false := bne_eq_false_iff_eq.mpr c28
                            clear c28
                            by_cases c29 : (runesOf t137).length ≤ 70368744177664
                            · rw [if_pos c29] at H
                              have c29b0 := eq_true c29
                              have c29b1 : decide ((runesOf t137).length ≤ 70368744177664) = true := decide_eq_true c29
                              clear c29
                              obtain ⟨y153, hy153⟩ : ∃ y_ : List Int, y_ = (runesOf t137) := ⟨_, rfl⟩
                              replace H : (if t138 = (y153.length : Int) then (laws_FnAggregatedAll.j2 k2 l0 t137 t138 y150 (decide (t138 > (y150.length : Int)))) else (laws_FnAggregatedAll.j2 k2 l0 t137 t138 y150 true)) = some r := by first | (rw [hy153]; with_reducible exact H) | (have H2_ := (Option.bind_some _ _).symm.trans H; rw [hy153]; with_reducible exact H2_) | (have H2_ := (Option.bind_some _ _).symm.trans H; with_reducible exact H2_) | with_reducible exact H | (rw [hy153]; exact H) | exact H
                              have Ny153 := Aside0.mk hy153
                              clear hy153
                              by_cases c30 : t138 = (y153.length : Int)
                              · rw [if_pos c30] at H
                                have c30b0 : (t138 == (y153.length : Int)) = true := beq_iff_eq.mpr c30
                                have c30b1 : (t138 != (y153.length : Int)) = false := bne_eq_false_iff_eq.mpr c30
                                clear c30
                                have H' := Aside0.mk H
                                clear H
                                go_wp2_with (first | ((with_reducible refine gate_dst (N := 74) rfl ?_); (try (refine gate_guard (by rfl) ?_; dsimp only)); refine R_runes _ 21 rfl (N := 74) rfl 9 27 _ rfl t137 rfl Tryd.underlying9 Tryd.underlying27 Tryd.underlying21 (ok := fun _ => True) (okp := fun _ => True) (fun _ hk => hk) trivial (of_decide_eq_true (by first | (with_reducible assumption) | assumption)) (Below.refl _ _) (Nat.le_refl _) ?_; intro v154 w31 ho32 hb hg_ hnew_; clear hg_ hnew_; (first | rw [← Ny153.out] at ho32 | (simp only [Int.reduceToNat] at ho32; rw [← Ny153.out] at ho32)); have n0_ := Aside0.mk (Kd.R_below (by (with_reducible repeat (first | apply Kd.R_alloc | apply Kd.R_drewN | apply Kd.R_drew)); exact HO146.out) hb); have n1_ := Aside0.mk (Kd.R_elder' (by (with_reducible repeat (first | apply Kd.R_alloc | apply Kd.R_drewN | apply Kd.R_drew)); exact HO152.out) (Kd.R_base ho32) hb); have n2_ := Aside0.mk (Kd.R_lower (Kd.R_new' ho32 (Kd.R_lt (by (with_reducible repeat (first | apply Kd.R_alloc | apply Kd.R_drewN | apply Kd.R_drew)); exact HO152.out))) (below_size (by repeat (first | (with_reducible first | exact HB.out | apply below_alloc | apply pw_below_drewN | apply below_drew1) | exact HB.out)))); have n3_ := Aside0.mk (below_step (by repeat (first | (with_reducible first | exact HB.out | apply below_alloc | apply pw_below_drewN | apply below_drew1) | exact HB.out)) hb); clear HO146; clear HO152; clear HB; have HO146 := n0_; have HO152 := n1_; have HO155 := n2_; have HB := n3_; clear n0_ n1_ n2_ n3_; clear hb ho32; obtain ⟨Ao33, co33, eo33⟩ := Kd.R_slice HO155.out; subst eo33; obtain ⟨Ao34, co34, eo34⟩ := Kd.R_slice HO152.out; subst eo34))
                                go_meet
                                case rel => exact ⟨_, (decide (t138 > (y150.length : Int))), (by first | rfl | (simp; done) | (simp [*]; done)), H', ⟨by have := HJ3.out; have := HK2.out; first | omega | exact Nat.le_refl _⟩, ⟨by (with_reducible repeat (first | apply Kd.R_alloc | apply Kd.R_drewN | apply Kd.R_drew)); exact Kd.R_mono HO152.out (fun _ hk => trivial)⟩, ⟨by repeat (first | (with_reducible first | exact HB.out | apply below_alloc | apply pw_below_drewN | apply below_drew1) | exact HB.out)⟩⟩
                              · rw [if_neg c30] at H
                                have c30b0 : (t138 == (y153.length : Int)) = false := beq_eq_false_iff_ne.mpr c30
                                have c30b1 : (t138 != (y153.length : Int)) = true := bne_iff_ne.mpr c30
                                have H' := Aside0.mk H
                                clear H
                                go_wp2_with (first | ((with_reducible refine gate_dst (N := 74) rfl ?_); (try (refine gate_guard (by rfl) ?_; dsimp only)); refine R_runes _ 21 rfl (N := 74) rfl 9 27 _ rfl t137 rfl Tryd.underlying9 Tryd.underlying27 Tryd.underlying21 (ok := fun _ => True) (okp := fun _ => True) (fun _ hk => hk) trivial (of_decide_eq_true (by first | (with_reducible assumption) | assumption)) (Below.refl _ _) (Nat.le_refl _) ?_; intro v154 w35 ho36 hb hg_ hnew_; clear hg_ hnew_; (first | rw [← Ny153.out] at ho36 | (simp only [Int.reduceToNat] at ho36; rw [← Ny153.out] at ho36)); have n0_ := Aside0.mk (Kd.R_below (by (with_reducible repeat (first | apply Kd.R_alloc | apply Kd.R_drewN | apply Kd.R_drew)); exact HO146.out) hb); have n1_ := Aside0.mk (Kd.R_elder' (by (with_reducible repeat (first | apply Kd.R_alloc | apply Kd.R_drewN | apply Kd.R_drew)); exact HO152.out) (Kd.R_base ho36) hb); have n2_ := Aside0.mk (Kd.R_lower (Kd.R_new' ho36 (Kd.R_lt (by (with_reducible repeat (first | apply Kd.R_alloc | apply Kd.R_drewN | apply Kd.R_drew)); exact HO152.out))) (below_size (by repeat (first | (with_reducible first | exact HB.out | apply below_alloc | apply pw_below_drewN | apply below_drew1) | exact HB.out)))); have n3_ := Aside0.mk (below_step (by repeat (first | (with_reducible first | exact HB.out | apply below_alloc | apply pw_below_drewN | apply below_drew1) | exact HB.out)) hb); clear HO146; clear HO152; clear HB; have HO146 := n0_; have HO152 := n1_; have HO155 := n2_; have HB := n3_; clear n0_ n1_ n2_ n3_; clear hb ho36; obtain ⟨Ao37, co37, eo37⟩ := Kd.R_slice HO155.out; subst eo37))
                                go_meet
                                case rel => exact ⟨_, (true), (by first | rfl | (simp; done) | (simp [*]; done)), H', ⟨by have := HJ3.out; have := HK2.out; first | omega | exact Nat.le_refl _⟩, ⟨by (with_reducible repeat (first | apply Kd.R_alloc | apply Kd.R_drewN | apply Kd.R_drew)); exact Kd.R_mono HO152.out (fun _ hk => trivial)⟩, ⟨by repeat (first | (with_reducible first | exact HB.out | apply below_alloc | apply pw_below_drewN | apply below_drew1) | exact HB.out)⟩⟩
                            · rw [if_neg c29] at H
                              exact absurd H (by simp)
                          · rw [if_neg c28] at H
                            have c28b0 : (t148 == t138) = false := beq_eq_false_iff_ne.mpr c28
                            have c28b1 : (t148 != t138) = true := bne_iff_ne.mpr c28
                            have H' := Aside0.mk H
                            clear H
                            go_wp2
                            go_meet
                            case rel => exact ⟨_, (true), (by first | rfl | (simp; done) | (simp [*]; done)), H', ⟨by have := HJ3.out; have := HK2.out; first | omega | exact Nat.le_refl _⟩, ⟨by (with_reducible repeat (first | apply Kd.R_alloc | apply Kd.R_drewN | apply Kd.R_drew)); exact HO152.out⟩, ⟨by repeat (first | (with_reducible first | exact HB.out | apply below_alloc | apply pw_below_drewN | apply below_drew1) | exact HB.out)⟩⟩
                        · rw [if_neg c27] at H
                          have c27b0 : (t147.toList == t137.toList) = false := beq_eq_false_iff_ne.mpr c27
                          have c27b1 : (t147.toList != t137.toList) = true := bne_iff_ne.mpr c27
                          (first | rw [c27b0] | (simp only [i64_w, i32_w]; rw [c27b0]) | skip)
                          have H' := Aside0.mk H
                          clear H
                          go_wp2
                          go_meet
                          case rel => exact ⟨_, (true), (by first | rfl | (simp; done) | (simp [*]; done)), H', ⟨by have := HJ3.out; have := HK2.out; first | omega | exact Nat.le_refl _⟩, ⟨by (with_reducible repeat (first | apply Kd.R_alloc | apply Kd.R_drewN | apply Kd.R_drew)); exact HO152.out⟩, ⟨by repeat (first | (with_reducible first | exact HB.out | apply below_alloc | apply pw_below_drewN | apply below_drew1) | exact HB.out)⟩⟩
                      case rest =>
                        clear HC21
                        try clear c1
                        try clear p1
                        try clear q1
                        try clear hx1
                        try clear qi1
                        try clear c2
                        try clear p2
                        try clear c3
                        try clear c5
                        try clear c5b0
                        try clear c5b1
                        try clear c5b2
                        try clear c6
                        try clear c6b0
                        try clear c6b1
                        try clear p6
                        try clear c9
                        try clear c11
                        try clear c12
                        try clear c12b0
                        try clear c13
                        try clear c13b0
                        try clear p13
                        try clear q13
                        try clear hx13
                        try clear c14
                        try clear c14b0
                        try clear p14
                        try clear q14
                        try clear hx14
                        try clear qi14
                        try clear c15
                        try clear c17
                        try clear c17b0
                        try clear c17b1
                        try clear c18
                        try clear c20
                        try clear c20b0
                        try clear c20b1
                        try clear c27
                        try clear c27b0
                        try clear c27b1
                        try clear c28
                        try clear c28b0
                        try clear c28b1
                        try clear c29
                        try clear c29b0
                        try clear c29b1
                        try clear c30
                        try clear c30b0
                        try clear c30b1
                        try clear hx139_0
                        try clear hx143_0
                        try clear hx149_0
                        try clear p139
                        try clear p143
                        try clear p149
                        try clear p2
                        try clear p6
                        try clear q139
                        try clear q143
                        try clear q149
                        obtain ⟨kq, x83_20, rfl, HA, HJ20, HO_9, HB⟩ := hcut
                        cases kq with
                        | zero => exact absurd HA.out (by simp [laws_FnAggregatedAll.j2])
                        | succ kj20 =>
                          have H := HA.out
                          clear HA
                          simp only [laws_FnAggregatedAll.j2] at H
                          by_cases c38 : x83_20 = true
                          · subst c38
                            have H1 : (some false) = some r := by rw [if_pos rfl] at H; exact H
                            clear H
                            have H := H1
                            clear H1
                            obtain rfl := Option.some.inj H
                            go_wp2
                            go_ret
                            exact ⟨by first | rfl | (simp [errW_none, errW_some] <;> rfl) | (simp [*, errW_none, errW_some] <;> rfl), by repeat (first | (with_reducible first | exact HB.out | apply below_alloc | apply pw_below_drewN | apply below_drew1) | exact HB.out)⟩
                          · replace c38 := Bool.eq_false_iff.mpr c38
                            subst c38
                            have H1 : (laws_FnAggregatedAll.l1 kj20 l0 t137 t138 y150 true (l0.length : Int) 0) = some r := by rw [if_neg (show ¬ (false = true) by decide)] at H; exact H
                            clear H
                            have H := H1
                            clear H1
                            have H' := Aside0.mk H
                            clear H
                            go_wp2
                            go_loopg [10, 86] kj20 (fun kq v10 v86 w' => ∃ (x10_4 : Bool) (x86_4 : Int), v10 = .bool x10_4 ∧ v86 = .int .i64 x86_4 ∧ Aside0 (laws_FnAggregatedAll.l1 kq l0 t137 t138 y150 x10_4 (l0.length : Int) x86_4 = some r) ∧ Aside0 (kq ≤ kj20) ∧ Aside0 (Kd.R (Kd.int .i32) 21 w' w.heap.size (fun _ => True) v151 y150) ∧ Aside0 (Below w.heap.size w w'))
                            case atStart => exact ⟨(true), (0), (by first | rfl | (simp; done) | (simp [*]; done)), (by first | rfl | (simp; done) | (simp [*]; done)), H', ⟨Nat.le_refl _⟩, ⟨by (with_reducible repeat (first | apply Kd.R_alloc | apply Kd.R_drewN | apply Kd.R_drew)); exact HO_9.out⟩, ⟨by repeat (first | (with_reducible first | exact HB.out | apply below_alloc | apply pw_below_drewN | apply below_drew1) | exact HB.out)⟩⟩
                            case round =>
                              clear H'
                              try clear c1
                              try clear p1
                              try clear q1
                              try clear hx1
                              try clear qi1
                              try clear c2
                              try clear p2
                              try clear c3
                              try clear c5
                              try clear c5b0
                              try clear c5b1
                              try clear c5b2
                              try clear c6
                              try clear c6b0
                              try clear c6b1
                              try clear p6
                              try clear c9
                              try clear c11
                              try clear c12
                              try clear c12b0
                              try clear c13
                              try clear c13b0
                              try clear p13
                              try clear q13
                              try clear hx13
                              try clear c14
                              try clear c14b0
                              try clear p14
                              try clear q14
                              try clear hx14
                              try clear qi14
                              try clear c15
                              try clear c17
                              try clear c17b0
                              try clear c17b1
                              try clear c18
                              try clear c20
                              try clear c20b0
                              try clear c20b1
                              try clear c27
                              try clear c27b0
                              try clear c27b1
                              try clear c28
                              try clear c28b0
                              try clear c28b1
                              try clear c29
                              try clear c29b0
                              try clear c29b1
                              try clear c30
                              try clear c30b0
                              try clear c30b1
                              try clear c38
                              try clear hx139_0
                              try clear hx143_0
                              try clear hx149_0
                              try clear p1
                              try clear p13
                              try clear p139
                              try clear p14
                              try clear p143
                              try clear p149
                              try clear p2
                              try clear p6
                              try clear q1
                              try clear q13
                              try clear q139
                              try clear q14
                              try clear q143
                              try clear q149
                              obtain ⟨x10_4, x86_4, rfl, rfl, HA, HK4, HO_9, HB⟩ := hrel
                              cases gk with
                              | zero => exact absurd HA.out (by simp [laws_FnAggregatedAll.l1])
                              | succ k4 =>
                                have H := HA.out
                                clear HA
                                simp only [laws_FnAggregatedAll.l1] at H
                                by_cases c39 : x86_4 < (l0.length : Int)
                                · rw [if_pos c39] at H
                                  have c39b0 : decide (x86_4 < (l0.length : Int)) = true := decide_eq_true c39
                                  clear c39
                                  by_cases c40 : t137.toList = ([] : List UInt8)
                                  · rw [if_pos c40] at H
                                    have c40b0 : (t137.toList == ([] : List UInt8)) = true := beq_iff_eq.mpr c40
                                    have c40b1 : (t137.toList != ([] : List UInt8)) = false := bne_eq_false_iff_eq.mpr c40
                                    clear c40
                                    by_cases c41 : x10_4 = true
                                    · subst c41
                                      have H1 : (if t138 < (y150.length : Int) then (if 0 ≤ x86_4 then (if x86_4 < (l0.length : Int) then (if 0 ≤ (mn (wrap64 (t138 + 1)) (y150.length : Int)) then (if (mn (wrap64 (t138 + 1)) (y150.length : Int)) ≤ (y150.length : Int) then ((impl_BeginsRunes.f k4 (rdOf ByteArray.empty l0 x86_4) (runesBytes (y150.take ((mn (wrap64 (t138 + 1)) (y150.length : Int)) : Int).toNat)) false).bind fun t166 => (laws_FnAggregatedAll.l1 k4 l0 t137 t138 y150 t166 (l0.length : Int) (wrap64 (x86_4 + 1)))) else (none)) else (none)) else (none)) else (none)) else (laws_FnAggregatedAll.l1 k4 l0 t137 t138 y150 false (l0.length : Int) (wrap64 (x86_4 + 1)))) = some r := by rw [if_pos rfl] at H; exact H
                                      clear H
                                      have H := H1
                                      clear H1
                                      by_cases c42 : t138 < (y150.length : Int)
                                      · rw [if_pos c42] at H
                                        have c42b0 : decide (t138 < (y150.length : Int)) = true := decide_eq_true c42
                                        clear c42
                                        by_cases c43 : 0 ≤ x86_4
                                        · rw [if_pos c43] at H
                                          have c43b0 : decide (0 ≤ x86_4) = true := decide_eq_true c43
                                          clear c43
                                          by_cases c44 : x86_4 < (l0.length : Int)
                                          · rw [if_pos c44] at H
                                            have c44b0 : decide (x86_4 < (l0.length : Int)) = true := decide_eq_true c44
                                            clear c44
                                            obtain ⟨ji45, hji45⟩ : ∃ j_ : Int, (mn (wrap64 (t138 + 1)) (y150.length : Int)) = j_ := ⟨_, rfl⟩
                                            replace H : (if 0 ≤ (ji45) then (if (ji45) ≤ (y150.length : Int) then ((impl_BeginsRunes.f k4 (rdOf ByteArray.empty l0 x86_4) (runesBytes (y150.take ((ji45) : Int).toNat)) false).bind fun t166 => (laws_FnAggregatedAll.l1 k4 l0 t137 t138 y150 t166 (l0.length : Int) (wrap64 (x86_4 + 1)))) else (none)) else (none)) = some r := by first | (rw [hji45] at H; exact H) | (simp only [hji45] at H ⊢; exact H)
                                            have hji45_ : (if (y150.length : Int) < (wrap64 (t138 + 1)) then (y150.length : Int) else (wrap64 (t138 + 1))) = ji45 := hji45
                                            by_cases c46 : 0 ≤ (ji45)
                                            · rw [if_pos c46] at H
                                              have c46b0 := eq_true c46
                                              have c46b1 : decide (0 ≤ (ji45)) = true := decide_eq_true c46
                                              clear c46
                                              by_cases c47 : (ji45) ≤ (y150.length : Int)
                                              · rw [if_pos c47] at H
                                                have c47b0 := eq_true c47
                                                have c47b1 : decide ((ji45) ≤ (y150.length : Int)) = true := decide_eq_true c47
                                                clear c47
                                                obtain ⟨y162, hy162⟩ : ∃ y_ : List Int, y_ = (y150.take ((ji45) : Int).toNat) := ⟨_, rfl⟩
                                                replace H : ((impl_BeginsRunes.f k4 (rdOf ByteArray.empty l0 x86_4) (runesBytes y162) false).bind fun t166 => (laws_FnAggregatedAll.l1 k4 l0 t137 t138 y150 t166 (l0.length : Int) (wrap64 (x86_4 + 1)))) = some r := by first | (rw [hy162]; with_reducible exact H) | (have H2_ := (Option.bind_some _ _).symm.trans H; rw [hy162]; with_reducible exact H2_) | (have H2_ := (Option.bind_some _ _).symm.trans H; with_reducible exact H2_) | with_reducible exact H | (rw [hy162]; exact H) | exact H
                                                have Ny162 := Aside0.mk hy162
                                                clear hy162
                                                replace H := Option.bind_eq_some_iff.mp H
                                                obtain ⟨t166, A480, H⟩ := H
                                                replace H : (laws_FnAggregatedAll.l1 k4 l0 t137 t138 y150 t166 (l0.length : Int) (wrap64 (x86_4 + 1))) = some r := H
                                                have A48 := Aside0.mk A480
                                                clear A480
                                                have H' := Aside0.mk H
                                                clear H
                                                try go_wp2
                                                have n0_ := Aside0.mk (Kd.R_drew HO_9.out)
                                                have n1_ := Aside0.mk (below_drew1 HB.out)
                                                clear HO_9
                                                clear HB
                                                have HO_9 := n0_
                                                have HB := n1_
                                                clear n0_ n1_
                                                obtain ⟨Ao50, co50, eo50⟩ := Kd.R_slice HO_9.out
                                                (first | subst eo50 | (injection eo50 with f1_ f2_ f3_; have f4_ := f1_.symm; have f5_ := f3_.symm; clear f1_ f2_ f3_; subst f4_; subst f5_))
                                                have p161 : 0 ≤ (x86_4 : Int) := of_decide_eq_true (by first | (with_reducible assumption) | assumption)
                                                have q161 : x86_4 < (l0.length : Int) := of_decide_eq_true (by first | (with_reducible assumption) | assumption)
                                                obtain ⟨ad161, e161, hx161_0⟩ := Kd.at_string HR0.out x86_4 p161 q161
                                                have hw161_0 := hx161_0
                                                obtain rfl : ad143 = ad161 := (by injection e161)
                                                replace hx161_0 := (HB.out.cell (World.block_lt_of_cell? w _ hx161_0)).trans hx161_0
                                                replace p161 := eq_true p161
                                                replace q161 := eq_true q161
                                                have q51 : ((ji45) : Int) ≤ ((y150.length : Int) : Int) := of_decide_eq_true (by first | (with_reducible assumption) | assumption)
                                                obtain ⟨i051, hi051, _, hsz51, _⟩ := info_parts info21
                                                have hroom51 : y150.length ≤ co50 := (Kd.R_reads' HO_9.out).2.1
                                                have hC51 : Kd.C (Kd.int .i32) _ Ao50 y150.length y150 := (Kd.R_reads' HO_9.out).2.2
                                                have hcut51 := cut_to (P := Tryd.prog) 27 21 .i64 Tryd.underlying27 hi051 Ao50 y150.length co50 (ji45) (of_decide_eq_true (by first | (with_reducible assumption) | assumption)) q51 hroom51
                                                have hr51 := Kd.C_take (m := ((ji45) : Int).toNat) hC51 (by omega)
                                                have hy51 : y162.length = ((ji45) : Int).toNat := (by rw [Ny162.out, List.length_take]; omega)
                                                rw [← Ny162.out] at hr51
                                                rw [← hy51] at hcut51
                                                have HR165 := Aside0.mk hr51
                                                have HC165 := Aside0.mk (show y162.length ≤ co50 from by omega)
                                                clear hr51 hC51 hroom51 hi051 hsz51
                                                have KY51 := Aside0.mk hy51
                                                clear hy51
                                                have KL51 := Aside0.mk (show ((ji45) : Int).toNat ≤ y150.length from by omega)
                                                replace q51 := eq_true q51
                                                have hcv52 := C_runes (P := Tryd.prog) (A := Ao50) (c := co50) Tryd.underlying27 Tryd.underlying21 Tryd.underlying9 (by repeat (first | (with_reducible exact HR165.out) | (with_reducible refine Kd.C_alloc ?_ _) | (with_reducible refine Kd.C_drewN ?_ _) | (with_reducible refine Kd.C_drew ?_) | exact HR165.out))
                                                refine start_ (n := 23) (S := fun w' => (w'.cell? (ad143.add (x86_4).toNat) = some (.string (rdOf ByteArray.empty l0 x86_4))) ∧ (convert 27 9 (.slice Ao50 y162.length co50)).run Tryd.prog w' = .ok (.string (runesBytes y162)) w') (ds := []) #[false, false, false, false, false, false, false, false, false, false, false, false, false, false, false, false, false, false, false, false, false, false, false] (by kernel_rfl) rfl rfl ⟨(((HB.out.cell (World.block_lt_of_cell? w _ hw161_0)).trans hw161_0)), hcv52⟩ (fun hHeld => ?_); refine with_tabW laws_FnAggregatedAll.tab21 laws_FnAggregatedAll.bits21 (fun HT_ HW_ => ?_)
                                                generalize wr.drew = w49 at HO_9 HB HR165 hx161_0 hHeld ⊢
                                                refine pure_ (i := 0) (N := some 100) (v := ?_) (a' := ?_) #[true, false, false, false, false, false, false, false, false, false, false, false, false, false, false, false, false, false, false, false, false, false, false] rfl rfl (any_of HT_.out (by kernel_rfl)) (fun _ _ _ h => h) (Or.inl ⟨by rfl, ?_⟩) ?_ ?_
                                                rotate_left
                                                · intro w'
                                                  go_simp
                                                  with_reducible rfl
                                                rotate_left
                                                · simp only [Act.put, List.setIfInBounds_toArray, List.set_cons_zero, List.set_cons_succ, i64_w, i32_w]
                                                  rfl
                                                refine pure_ (i := 1) (N := some 101) (v := ?_) (a' := ?_) #[true, true, false, false, false, false, false, false, false, false, false, false, false, false, false, false, false, false, false, false, false, false, false] rfl rfl (any_of HT_.out (by kernel_rfl)) (fun _ _ _ h => h) (Or.inl ⟨by rfl, ?_⟩) ?_ ?_
                                                rotate_left
                                                · intro w'
                                                  go_simp
                                                  with_reducible rfl
                                                rotate_left
                                                · simp only [Act.put, List.setIfInBounds_toArray, List.set_cons_zero, List.set_cons_succ, i64_w, i32_w]
                                                  rfl
                                                refine pure_ (i := 2) (N := some 102) (v := ?_) (a' := ?_) #[true, true, true, false, false, false, false, false, false, false, false, false, false, false, false, false, false, false, false, false, false, false, false] rfl rfl (any_of HT_.out (by kernel_rfl)) (fun _ _ _ h => h) (Or.inl ⟨by rfl, ?_⟩) ?_ ?_
                                                rotate_left
                                                · intro w'
                                                  go_simp
                                                  with_reducible rfl
                                                rotate_left
                                                · simp only [Act.put, List.setIfInBounds_toArray, List.set_cons_zero, List.set_cons_succ, i64_w, i32_w]
                                                  rfl
                                                refine pure_ (i := 3) (N := some 103) (v := ?_) (a' := ?_) #[true, true, true, true, false, false, false, false, false, false, false, false, false, false, false, false, false, false, false, false, false, false, false] rfl rfl (any_of HT_.out (by kernel_rfl)) (fun _ _ _ h => h) (Or.inl ⟨by rfl, ?_⟩) ?_ ?_
                                                rotate_left
                                                · intro w'
                                                  go_simp
                                                  with_reducible rfl
                                                rotate_left
                                                · simp only [Act.put, List.setIfInBounds_toArray, List.set_cons_zero, List.set_cons_succ, i64_w, i32_w]
                                                  rfl
                                                refine pure_ (i := 4) (N := some 104) (v := ?_) (a' := ?_) #[true, true, true, true, true, false, false, false, false, false, false, false, false, false, false, false, false, false, false, false, false, false, false] rfl rfl (any_of HT_.out (by kernel_rfl)) (fun _ _ _ h => h) (Or.inl ⟨by rfl, ?_⟩) ?_ ?_
                                                rotate_left
                                                · intro w'
                                                  go_simp
                                                  with_reducible rfl
                                                rotate_left
                                                · simp only [Act.put, List.setIfInBounds_toArray, List.set_cons_zero, List.set_cons_succ, i64_w, i32_w]
                                                  rfl
                                                refine pure_ (i := 5) (N := some 105) (v := ?_) (a' := ?_) #[true, true, true, true, true, true, false, false, false, false, false, false, false, false, false, false, false, false, false, false, false, false, false] rfl rfl (any_of HT_.out (by kernel_rfl)) (fun _ _ _ h => h) (Or.inl ⟨by rfl, ?_⟩) ?_ ?_
                                                rotate_left
                                                · intro w'
                                                  go_simp
                                                  with_reducible rfl
                                                rotate_left
                                                · simp only [Act.put, List.setIfInBounds_toArray, List.set_cons_zero, List.set_cons_succ, i64_w, i32_w]
                                                  rfl
                                                refine pure_ (i := 6) (N := some 106) (v := ?_) (a' := ?_) #[true, true, true, true, true, true, true, false, false, false, false, false, false, false, false, false, false, false, false, false, false, false, false] rfl rfl (any_of HT_.out (by kernel_rfl)) (fun _ _ _ h => h) (Or.inl ⟨by rfl, ?_⟩) ?_ ?_
                                                rotate_left
                                                · intro w'
                                                  go_simp
                                                  with_reducible rfl
                                                rotate_left
                                                · simp only [Act.put, List.setIfInBounds_toArray, List.set_cons_zero, List.set_cons_succ, i64_w, i32_w]
                                                  rfl
                                                refine pure_ (i := 7) (N := some 107) (v := ?_) (a' := ?_) #[true, true, true, true, true, true, true, true, false, false, false, false, false, false, false, false, false, false, false, false, false, false, false] rfl rfl (any_of HT_.out (by kernel_rfl)) (fun _ _ _ h => h) (Or.inl ⟨by rfl, ?_⟩) ?_ ?_
                                                rotate_left
                                                · intro w'
                                                  go_simp
                                                  with_reducible rfl
                                                rotate_left
                                                · simp only [Act.put, List.setIfInBounds_toArray, List.set_cons_zero, List.set_cons_succ, i64_w, i32_w]
                                                  rfl
                                                refine pure_ (i := 8) (N := some 108) (v := ?_) (a' := ?_) #[true, true, true, true, true, true, true, true, true, false, false, false, false, false, false, false, false, false, false, false, false, false, false] rfl rfl (any_of HT_.out (by kernel_rfl)) (fun _ _ _ h => h) (Or.inl ⟨by rfl, ?_⟩) ?_ ?_
                                                rotate_left
                                                · intro w'
                                                  go_simp
                                                  with_reducible rfl
                                                rotate_left
                                                · simp only [Act.put, List.setIfInBounds_toArray, List.set_cons_zero, List.set_cons_succ, i64_w, i32_w]
                                                  rfl
                                                refine pure_ (i := 9) (N := some 109) (v := ?_) (a' := ?_) #[true, true, true, true, true, true, true, true, true, true, false, false, false, false, false, false, false, false, false, false, false, false, false] rfl rfl (any_of HT_.out (by kernel_rfl)) (fun _ _ _ h => h) (Or.inl ⟨by rfl, ?_⟩) ?_ ?_
                                                rotate_left
                                                · intro w'
                                                  go_simp
                                                  with_reducible rfl
                                                rotate_left
                                                · simp only [Act.put, List.setIfInBounds_toArray, List.set_cons_zero, List.set_cons_succ, i64_w, i32_w]
                                                  rfl
                                                refine pure_ (i := 10) (N := some 110) (v := ?_) (a' := ?_) #[true, true, true, true, true, true, true, true, true, true, true, false, false, false, false, false, false, false, false, false, false, false, false] rfl rfl (any_of HT_.out (by kernel_rfl)) (fun _ _ _ h => h) (Or.inl ⟨by rfl, ?_⟩) ?_ ?_
                                                rotate_left
                                                · intro w'
                                                  go_simp
                                                  with_reducible rfl
                                                rotate_left
                                                · simp only [Act.put, List.setIfInBounds_toArray, List.set_cons_zero, List.set_cons_succ, i64_w, i32_w]
                                                  rfl
                                                refine pure_ (i := 12) (N := some 112) (v := ?_) (a' := ?_) #[true, true, true, true, true, true, true, true, true, true, true, false, true, false, false, false, false, false, false, false, false, false, false] rfl rfl (any_of HT_.out (by kernel_rfl)) (fun _ _ _ h => h) (Or.inl ⟨by rfl, ?_⟩) ?_ ?_
                                                rotate_left
                                                · intro w'
                                                  go_simp
                                                  with_reducible rfl
                                                rotate_left
                                                · simp only [Act.put, List.setIfInBounds_toArray, List.set_cons_zero, List.set_cons_succ, i64_w, i32_w]
                                                  rfl
                                                refine pure_ (i := 13) (N := some 113) (v := ?_) (a' := ?_) #[true, true, true, true, true, true, true, true, true, true, true, false, true, true, false, false, false, false, false, false, false, false, false] rfl rfl (any_of HT_.out (by kernel_rfl)) (fun _ _ _ h => h) (Or.inl ⟨by rfl, ?_⟩) ?_ ?_
                                                rotate_left
                                                · intro w'
                                                  go_simp
                                                  with_reducible rfl
                                                rotate_left
                                                · simp only [Act.put, List.setIfInBounds_toArray, List.set_cons_zero, List.set_cons_succ, i64_w, i32_w]
                                                  rfl
                                                refine pure_ (i := 14) (N := some 114) (v := ?_) (a' := ?_) #[true, true, true, true, true, true, true, true, true, true, true, false, true, true, true, false, false, false, false, false, false, false, false] rfl rfl (any_of HT_.out (by kernel_rfl)) (fun _ _ _ h => h) (Or.inl ⟨by rfl, ?_⟩) ?_ ?_
                                                rotate_left
                                                · intro w'
                                                  go_simp
                                                  with_reducible rfl
                                                rotate_left
                                                · simp only [Act.put, List.setIfInBounds_toArray, List.set_cons_zero, List.set_cons_succ, i64_w, i32_w]
                                                  rfl
                                                refine pure_ (i := 15) (N := some 115) (v := ?_) (a' := ?_) #[true, true, true, true, true, true, true, true, true, true, true, false, true, true, true, true, false, false, false, false, false, false, false] rfl rfl (any_of HT_.out (by kernel_rfl)) (fun _ _ _ h => h) (Or.inl ⟨by rfl, ?_⟩) ?_ ?_
                                                rotate_left
                                                · intro w'
                                                  go_simp
                                                  with_reducible rfl
                                                rotate_left
                                                · simp only [Act.put, List.setIfInBounds_toArray, List.set_cons_zero, List.set_cons_succ, i64_w, i32_w]
                                                  rfl
                                                refine pure_ (i := 16) (N := some 116) (v := ?_) (a' := ?_) #[true, true, true, true, true, true, true, true, true, true, true, false, true, true, true, true, true, false, false, false, false, false, false] rfl rfl (any_of HT_.out (by kernel_rfl)) (fun _ _ _ h => h) (Or.inl ⟨by rfl, ?_⟩) ?_ ?_
                                                rotate_left
                                                · intro w'
                                                  go_simp
                                                  with_reducible rfl
                                                rotate_left
                                                · simp only [Act.put, List.setIfInBounds_toArray, List.set_cons_zero, List.set_cons_succ, i64_w, i32_w]
                                                  rfl
                                                refine pure_ (i := 17) (N := some 117) (v := ?_) (a' := ?_) #[true, true, true, true, true, true, true, true, true, true, true, false, true, true, true, true, true, true, false, false, false, false, false] rfl rfl (any_of HT_.out (by kernel_rfl)) (fun _ _ _ h => h) (Or.inl ⟨by rfl, ?_⟩) ?_ ?_
                                                rotate_left
                                                · intro w'
                                                  go_simp
                                                  with_reducible rfl
                                                rotate_left
                                                · simp only [Act.put, List.setIfInBounds_toArray, List.set_cons_zero, List.set_cons_succ, i64_w, i32_w]
                                                  rfl
                                                refine pure_ (i := 18) (N := some 118) (v := ?_) (a' := ?_) #[true, true, true, true, true, true, true, true, true, true, true, false, true, true, true, true, true, true, true, false, false, false, false] rfl rfl (any_of HT_.out (by kernel_rfl)) (fun _ _ _ h => h) (Or.inl ⟨by rfl, ?_⟩) ?_ ?_
                                                rotate_left
                                                · intro w'
                                                  go_simp
                                                  with_reducible rfl
                                                rotate_left
                                                · simp only [Act.put, List.setIfInBounds_toArray, List.set_cons_zero, List.set_cons_succ, i64_w, i32_w]
                                                  rfl
                                                refine take_ (i := 19) (N := some 119) (v := ?_) (a' := ?_) #[true, true, true, true, true, true, true, true, true, true, true, false, true, true, true, true, true, true, true, true, false, false, false] rfl rfl (take_ofW HT_.out HW_.out (by kernel_rfl)) (fun _ _ _ h => h) (Or.inl ⟨by rfl, ?_⟩) hHeld ?_ ?_
                                                rotate_left
                                                · intro w' s0
                                                  have s0 := s0.2
                                                  go_simp
                                                  with_reducible rfl
                                                rotate_left
                                                · simp only [Act.put, List.setIfInBounds_toArray, List.set_cons_zero, List.set_cons_succ, i64_w, i32_w]
                                                  rfl
                                                refine take_ (i := 11) (N := some 111) (v := ?_) (a' := ?_) #[true, true, true, true, true, true, true, true, true, true, true, true, true, true, true, true, true, true, true, true, false, false, false] rfl rfl (take_ofW HT_.out HW_.out (by kernel_rfl)) (fun _ _ _ h => h) (Or.inl ⟨by rfl, ?_⟩) hHeld ?_ ?_
                                                rotate_left
                                                · intro w' s0
                                                  have s0 := s0.1
                                                  go_simp
                                                  with_reducible rfl
                                                rotate_left
                                                · simp only [Act.put, List.setIfInBounds_toArray, List.set_cons_zero, List.set_cons_succ, i64_w, i32_w]
                                                  rfl
                                                refine one_ (i := 20) (N := some 120) #[true, true, true, true, true, true, true, true, true, true, true, true, true, true, true, true, true, true, true, true, true, false, false] rfl rfl (one_of HT_.out (by kernel_rfl)) (by decide) (fun K hK => ?_)
                                                refine goes_ Tryd.func14 (by kernel_rfl) rfl #[.string (rdOf ByteArray.empty l0 x86_4), .string (runesBytes y162), .bool false] (by rfl) rfl rfl (by (try simp only [List.map_toArray, List.map_cons, List.map_nil]); first | done | rfl | (simp only [List.length_drop, List.length_take]; rfl) | (simp only [Int.toNat_natCast, ByteArray.extract_zero_size]; rfl)) ?_
                                                with_reducible refine (impl_BeginsRunes.calls k4 (rdOf ByteArray.empty l0 x86_4) (runesBytes y162) false t166 _ A48.out).mono ?_
                                                rintro e w53 ⟨rfl, hb⟩
                                                refine ⟨_, rfl, ?_⟩
                                                have n0_ := Aside0.mk (Kd.R_below (by (with_reducible repeat (first | apply Kd.R_alloc | apply Kd.R_drewN | apply Kd.R_drew)); exact HO_9.out) hb)
                                                have n1_ := Aside0.mk (Kd.C_below (by repeat (first | (with_reducible exact HR165.out) | (with_reducible refine Kd.C_alloc ?_ _) | (with_reducible refine Kd.C_drewN ?_ _) | (with_reducible refine Kd.C_drew ?_) | exact HR165.out)) hb)
                                                have n2_ := Aside0.mk (below_step (by repeat (first | (with_reducible first | exact HB.out | apply below_alloc | apply pw_below_drewN | apply below_drew1) | exact HB.out)) hb)
                                                clear HO_9
                                                clear HR165
                                                clear HB
                                                have HO_9 := n0_
                                                have HR165 := n1_
                                                have HB := n2_
                                                clear n0_ n1_ n2_
                                                (try clear hb)
                                                (try clear hb2)
                                                (try clear hk)
                                                (try clear hi)
                                                refine hK.out _ _ ⟨(((HB.out.cell (World.block_lt_of_cell? w _ hw161_0)).trans hw161_0)), C_runes (P := Tryd.prog) (A := Ao50) (c := co50) Tryd.underlying27 Tryd.underlying21 Tryd.underlying9 HR165.out⟩ (fun hHeld => ?_)
                                                clear hK K
                                                refine norm_ (a' := ?_) ?_ ?_
                                                rotate_left
                                                · show Act.put _ (some 120) _ = _
                                                  simp only [Act.put, List.setIfInBounds_toArray, List.set_cons_zero, List.set_cons_succ, i64_w, i32_w]
                                                  rfl
                                                refine pure_ (i := 21) (N := some 121) (v := ?_) (a' := ?_) #[true, true, true, true, true, true, true, true, true, true, true, true, true, true, true, true, true, true, true, true, true, true, false] rfl rfl (any_of HT_.out (by kernel_rfl)) (fun _ _ _ h => h) (Or.inl ⟨by rfl, ?_⟩) ?_ ?_
                                                rotate_left
                                                · intro w'
                                                  go_simp
                                                  with_reducible rfl
                                                rotate_left
                                                · simp only [Act.put, List.setIfInBounds_toArray, List.set_cons_zero, List.set_cons_succ, i64_w, i32_w]
                                                  rfl
                                                refine pure_ (i := 22) (N := some 10) (v := ?_) (a' := ?_) #[true, true, true, true, true, true, true, true, true, true, true, true, true, true, true, true, true, true, true, true, true, true, true] rfl rfl (any_of HT_.out (by kernel_rfl)) (fun _ _ _ h => h) (Or.inl ⟨by rfl, ?_⟩) ?_ ?_
                                                rotate_left
                                                · intro w'
                                                  go_simp
                                                  with_reducible rfl
                                                rotate_left
                                                · simp only [Act.put, List.setIfInBounds_toArray, List.set_cons_zero, List.set_cons_succ, i64_w, i32_w]
                                                  rfl
                                                refine done_ (done_of HT_.out (by kernel_rfl)) ?_
                                                try go_wp2
                                                go_roundg k4
                                                case measure => have := HJ3.out; have := HK2.out; have := HJ20.out; have := HK4.out; omega
                                                case rel => exact ⟨(t166), (wrap64 (x86_4 + 1)), (by first | rfl | (simp; done) | (simp [*]; done)), (by first | rfl | (simp; done) | (simp [*]; done)), H', ⟨by have := HJ3.out; have := HK2.out; have := HJ20.out; have := HK4.out; omega⟩, ⟨by (with_reducible repeat (first | apply Kd.R_alloc | apply Kd.R_drewN | apply Kd.R_drew)); exact HO_9.out⟩, ⟨by repeat (first | (with_reducible first | exact HB.out | apply below_alloc | apply pw_below_drewN | apply below_drew1) | exact HB.out)⟩⟩
                                              · rw [if_neg c47] at H
                                                exact absurd H (by simp)
                                            · rw [if_neg c46] at H
                                              exact absurd H (by simp)
                                          · rw [if_neg c44] at H
                                            exact absurd H (by simp)
                                        · rw [if_neg c43] at H
                                          exact absurd H (by simp)
                                      · rw [if_neg c42] at H
                                        have c42b0 : decide (t138 < (y150.length : Int)) = false := decide_eq_false c42
                                        clear c42
                                        have H' := Aside0.mk H
                                        clear H
                                        try go_wp2
                                        have n0_ := Aside0.mk (Kd.R_drew HO_9.out)
                                        have n1_ := Aside0.mk (below_drew1 HB.out)
                                        clear HO_9
                                        clear HB
                                        have HO_9 := n0_
                                        have HB := n1_
                                        clear n0_ n1_
                                        obtain ⟨Ao55, co55, eo55⟩ := Kd.R_slice HO_9.out
                                        (first | subst eo55 | (injection eo55 with f1_ f2_ f3_; have f4_ := f1_.symm; have f5_ := f3_.symm; clear f1_ f2_ f3_; subst f4_; subst f5_))
                                        refine start_ (n := 23) (S := fun w' => True) (ds := []) #[false, false, false, false, false, false, false, false, false, false, false, false, false, false, false, false, false, false, false, false, false, false, false] (by kernel_rfl) rfl rfl trivial (fun hHeld => ?_); refine with_tabW laws_FnAggregatedAll.tab21 laws_FnAggregatedAll.bits21 (fun HT_ HW_ => ?_)
                                        generalize wr.drew = w54 at HO_9 HB hHeld ⊢
                                        refine pure_ (i := 0) (N := some 100) (v := ?_) (a' := ?_) #[true, false, false, false, false, false, false, false, false, false, false, false, false, false, false, false, false, false, false, false, false, false, false] rfl rfl (any_of HT_.out (by kernel_rfl)) (fun _ _ _ h => h) (Or.inl ⟨by rfl, ?_⟩) ?_ ?_
                                        rotate_left
                                        · intro w'
                                          go_simp
                                          with_reducible rfl
                                        rotate_left
                                        · simp only [Act.put, List.setIfInBounds_toArray, List.set_cons_zero, List.set_cons_succ, i64_w, i32_w]
                                          rfl
                                        refine pure_ (i := 1) (N := some 101) (v := ?_) (a' := ?_) #[true, true, false, false, false, false, false, false, false, false, false, false, false, false, false, false, false, false, false, false, false, false, false] rfl rfl (any_of HT_.out (by kernel_rfl)) (fun _ _ _ h => h) (Or.inl ⟨by rfl, ?_⟩) ?_ ?_
                                        rotate_left
                                        · intro w'
                                          go_simp
                                          with_reducible rfl
                                        rotate_left
                                        · simp only [Act.put, List.setIfInBounds_toArray, List.set_cons_zero, List.set_cons_succ, i64_w, i32_w]
                                          rfl
                                        refine pure_ (i := 2) (N := some 102) (v := ?_) (a' := ?_) #[true, true, true, false, false, false, false, false, false, false, false, false, false, false, false, false, false, false, false, false, false, false, false] rfl rfl (any_of HT_.out (by kernel_rfl)) (fun _ _ _ h => h) (Or.inl ⟨by rfl, ?_⟩) ?_ ?_
                                        rotate_left
                                        · intro w'
                                          go_simp
                                          with_reducible rfl
                                        rotate_left
                                        · simp only [Act.put, List.setIfInBounds_toArray, List.set_cons_zero, List.set_cons_succ, i64_w, i32_w]
                                          rfl
                                        refine pure_ (i := 3) (N := some 103) (v := ?_) (a' := ?_) #[true, true, true, true, false, false, false, false, false, false, false, false, false, false, false, false, false, false, false, false, false, false, false] rfl rfl (any_of HT_.out (by kernel_rfl)) (fun _ _ _ h => h) (Or.inl ⟨by rfl, ?_⟩) ?_ ?_
                                        rotate_left
                                        · intro w'
                                          go_simp
                                          with_reducible rfl
                                        rotate_left
                                        · simp only [Act.put, List.setIfInBounds_toArray, List.set_cons_zero, List.set_cons_succ, i64_w, i32_w]
                                          rfl
                                        refine pure_ (i := 4) (N := some 104) (v := ?_) (a' := ?_) #[true, true, true, true, true, false, false, false, false, false, false, false, false, false, false, false, false, false, false, false, false, false, false] rfl rfl (any_of HT_.out (by kernel_rfl)) (fun _ _ _ h => h) (Or.inl ⟨by rfl, ?_⟩) ?_ ?_
                                        rotate_left
                                        · intro w'
                                          go_simp
                                          with_reducible rfl
                                        rotate_left
                                        · simp only [Act.put, List.setIfInBounds_toArray, List.set_cons_zero, List.set_cons_succ, i64_w, i32_w]
                                          rfl
                                        refine pure_ (i := 5) (N := some 105) (v := ?_) (a' := ?_) #[true, true, true, true, true, true, false, false, false, false, false, false, false, false, false, false, false, false, false, false, false, false, false] rfl rfl (any_of HT_.out (by kernel_rfl)) (fun _ _ _ h => h) (Or.inl ⟨by rfl, ?_⟩) ?_ ?_
                                        rotate_left
                                        · intro w'
                                          go_simp
                                          with_reducible rfl
                                        rotate_left
                                        · simp only [Act.put, List.setIfInBounds_toArray, List.set_cons_zero, List.set_cons_succ, i64_w, i32_w]
                                          rfl
                                        refine pure_ (i := 6) (N := some 106) (v := ?_) (a' := ?_) #[true, true, true, true, true, true, true, false, false, false, false, false, false, false, false, false, false, false, false, false, false, false, false] rfl rfl (any_of HT_.out (by kernel_rfl)) (fun _ _ _ h => h) (Or.inl ⟨by rfl, ?_⟩) ?_ ?_
                                        rotate_left
                                        · intro w'
                                          go_simp
                                          with_reducible rfl
                                        rotate_left
                                        · simp only [Act.put, List.setIfInBounds_toArray, List.set_cons_zero, List.set_cons_succ, i64_w, i32_w]
                                          rfl
                                        refine pure_ (i := 7) (N := some 107) (v := ?_) (a' := ?_) #[true, true, true, true, true, true, true, true, false, false, false, false, false, false, false, false, false, false, false, false, false, false, false] rfl rfl (any_of HT_.out (by kernel_rfl)) (fun _ _ _ h => h) (Or.inl ⟨by rfl, ?_⟩) ?_ ?_
                                        rotate_left
                                        · intro w'
                                          go_simp
                                          with_reducible rfl
                                        rotate_left
                                        · simp only [Act.put, List.setIfInBounds_toArray, List.set_cons_zero, List.set_cons_succ, i64_w, i32_w]
                                          rfl
                                        refine pure_ (i := 8) (N := some 108) (v := undef) (a' := ?_) #[true, true, true, true, true, true, true, true, true, false, false, false, false, false, false, false, false, false, false, false, false, false, false] rfl rfl (any_of HT_.out (by kernel_rfl)) (fun _ _ _ h => h) (Or.inr ⟨by rfl, rfl⟩) ?_ ?_
                                        rotate_left
                                        · simp only [Act.put, List.setIfInBounds_toArray, List.set_cons_zero, List.set_cons_succ, i64_w, i32_w]
                                          rfl
                                        refine pure_ (i := 9) (N := some 109) (v := undef) (a' := ?_) #[true, true, true, true, true, true, true, true, true, true, false, false, false, false, false, false, false, false, false, false, false, false, false] rfl rfl (any_of HT_.out (by kernel_rfl)) (fun _ _ _ h => h) (Or.inr ⟨by rfl, rfl⟩) ?_ ?_
                                        rotate_left
                                        · simp only [Act.put, List.setIfInBounds_toArray, List.set_cons_zero, List.set_cons_succ, i64_w, i32_w]
                                          rfl
                                        refine pure_ (i := 10) (N := some 110) (v := undef) (a' := ?_) #[true, true, true, true, true, true, true, true, true, true, true, false, false, false, false, false, false, false, false, false, false, false, false] rfl rfl (any_of HT_.out (by kernel_rfl)) (fun _ _ _ h => h) (Or.inr ⟨by rfl, rfl⟩) ?_ ?_
                                        rotate_left
                                        · simp only [Act.put, List.setIfInBounds_toArray, List.set_cons_zero, List.set_cons_succ, i64_w, i32_w]
                                          rfl
                                        refine pure_ (i := 11) (N := some 111) (v := undef) (a' := ?_) #[true, true, true, true, true, true, true, true, true, true, true, true, false, false, false, false, false, false, false, false, false, false, false] rfl rfl (any_of HT_.out (by kernel_rfl)) (fun _ _ _ h => h) (Or.inr ⟨by rfl, rfl⟩) ?_ ?_
                                        rotate_left
                                        · simp only [Act.put, List.setIfInBounds_toArray, List.set_cons_zero, List.set_cons_succ, i64_w, i32_w]
                                          rfl
                                        refine pure_ (i := 12) (N := some 112) (v := undef) (a' := ?_) #[true, true, true, true, true, true, true, true, true, true, true, true, true, false, false, false, false, false, false, false, false, false, false] rfl rfl (any_of HT_.out (by kernel_rfl)) (fun _ _ _ h => h) (Or.inr ⟨by rfl, rfl⟩) ?_ ?_
                                        rotate_left
                                        · simp only [Act.put, List.setIfInBounds_toArray, List.set_cons_zero, List.set_cons_succ, i64_w, i32_w]
                                          rfl
                                        refine pure_ (i := 13) (N := some 113) (v := undef) (a' := ?_) #[true, true, true, true, true, true, true, true, true, true, true, true, true, true, false, false, false, false, false, false, false, false, false] rfl rfl (any_of HT_.out (by kernel_rfl)) (fun _ _ _ h => h) (Or.inr ⟨by rfl, rfl⟩) ?_ ?_
                                        rotate_left
                                        · simp only [Act.put, List.setIfInBounds_toArray, List.set_cons_zero, List.set_cons_succ, i64_w, i32_w]
                                          rfl
                                        refine pure_ (i := 14) (N := some 114) (v := undef) (a' := ?_) #[true, true, true, true, true, true, true, true, true, true, true, true, true, true, true, false, false, false, false, false, false, false, false] rfl rfl (any_of HT_.out (by kernel_rfl)) (fun _ _ _ h => h) (Or.inr ⟨by rfl, rfl⟩) ?_ ?_
                                        rotate_left
                                        · simp only [Act.put, List.setIfInBounds_toArray, List.set_cons_zero, List.set_cons_succ, i64_w, i32_w]
                                          rfl
                                        refine pure_ (i := 15) (N := some 115) (v := undef) (a' := ?_) #[true, true, true, true, true, true, true, true, true, true, true, true, true, true, true, true, false, false, false, false, false, false, false] rfl rfl (any_of HT_.out (by kernel_rfl)) (fun _ _ _ h => h) (Or.inr ⟨by rfl, rfl⟩) ?_ ?_
                                        rotate_left
                                        · simp only [Act.put, List.setIfInBounds_toArray, List.set_cons_zero, List.set_cons_succ, i64_w, i32_w]
                                          rfl
                                        refine pure_ (i := 16) (N := some 116) (v := undef) (a' := ?_) #[true, true, true, true, true, true, true, true, true, true, true, true, true, true, true, true, true, false, false, false, false, false, false] rfl rfl (any_of HT_.out (by kernel_rfl)) (fun _ _ _ h => h) (Or.inr ⟨by rfl, rfl⟩) ?_ ?_
                                        rotate_left
                                        · simp only [Act.put, List.setIfInBounds_toArray, List.set_cons_zero, List.set_cons_succ, i64_w, i32_w]
                                          rfl
                                        refine pure_ (i := 17) (N := some 117) (v := undef) (a' := ?_) #[true, true, true, true, true, true, true, true, true, true, true, true, true, true, true, true, true, true, false, false, false, false, false] rfl rfl (any_of HT_.out (by kernel_rfl)) (fun _ _ _ h => h) (Or.inr ⟨by rfl, rfl⟩) ?_ ?_
                                        rotate_left
                                        · simp only [Act.put, List.setIfInBounds_toArray, List.set_cons_zero, List.set_cons_succ, i64_w, i32_w]
                                          rfl
                                        refine pure_ (i := 18) (N := some 118) (v := undef) (a' := ?_) #[true, true, true, true, true, true, true, true, true, true, true, true, true, true, true, true, true, true, true, false, false, false, false] rfl rfl (any_of HT_.out (by kernel_rfl)) (fun _ _ _ h => h) (Or.inr ⟨by rfl, rfl⟩) ?_ ?_
                                        rotate_left
                                        · simp only [Act.put, List.setIfInBounds_toArray, List.set_cons_zero, List.set_cons_succ, i64_w, i32_w]
                                          rfl
                                        refine pure_ (i := 19) (N := some 119) (v := undef) (a' := ?_) #[true, true, true, true, true, true, true, true, true, true, true, true, true, true, true, true, true, true, true, true, false, false, false] rfl rfl (any_of HT_.out (by kernel_rfl)) (fun _ _ _ h => h) (Or.inr ⟨by rfl, rfl⟩) ?_ ?_
                                        rotate_left
                                        · simp only [Act.put, List.setIfInBounds_toArray, List.set_cons_zero, List.set_cons_succ, i64_w, i32_w]
                                          rfl
                                        refine pure_ (i := 20) (N := some 120) (v := undef) (a' := ?_) #[true, true, true, true, true, true, true, true, true, true, true, true, true, true, true, true, true, true, true, true, true, false, false] rfl rfl (any_of HT_.out (by kernel_rfl)) (fun _ _ _ h => h) (Or.inr ⟨by rfl, rfl⟩) ?_ ?_
                                        rotate_left
                                        · simp only [Act.put, List.setIfInBounds_toArray, List.set_cons_zero, List.set_cons_succ, i64_w, i32_w]
                                          rfl
                                        refine pure_ (i := 21) (N := some 121) (v := ?_) (a' := ?_) #[true, true, true, true, true, true, true, true, true, true, true, true, true, true, true, true, true, true, true, true, true, true, false] rfl rfl (any_of HT_.out (by kernel_rfl)) (fun _ _ _ h => h) (Or.inl ⟨by rfl, ?_⟩) ?_ ?_
                                        rotate_left
                                        · intro w'
                                          go_simp
                                          with_reducible rfl
                                        rotate_left
                                        · simp only [Act.put, List.setIfInBounds_toArray, List.set_cons_zero, List.set_cons_succ, i64_w, i32_w]
                                          rfl
                                        refine pure_ (i := 22) (N := some 10) (v := ?_) (a' := ?_) #[true, true, true, true, true, true, true, true, true, true, true, true, true, true, true, true, true, true, true, true, true, true, true] rfl rfl (any_of HT_.out (by kernel_rfl)) (fun _ _ _ h => h) (Or.inl ⟨by rfl, ?_⟩) ?_ ?_
                                        rotate_left
                                        · intro w'
                                          go_simp
                                          with_reducible rfl
                                        rotate_left
                                        · simp only [Act.put, List.setIfInBounds_toArray, List.set_cons_zero, List.set_cons_succ, i64_w, i32_w]
                                          rfl
                                        refine done_ (done_of HT_.out (by kernel_rfl)) ?_
                                        try go_wp2
                                        go_roundg k4
                                        case measure => have := HJ3.out; have := HK2.out; have := HJ20.out; have := HK4.out; omega
                                        case rel => exact ⟨(false), (wrap64 (x86_4 + 1)), (by first | rfl | (simp; done) | (simp [*]; done)), (by first | rfl | (simp; done) | (simp [*]; done)), H', ⟨by have := HJ3.out; have := HK2.out; have := HJ20.out; have := HK4.out; omega⟩, ⟨by (with_reducible repeat (first | apply Kd.R_alloc | apply Kd.R_drewN | apply Kd.R_drew)); exact HO_9.out⟩, ⟨by repeat (first | (with_reducible first | exact HB.out | apply below_alloc | apply pw_below_drewN | apply below_drew1) | exact HB.out)⟩⟩
                                    · replace c41 := Bool.eq_false_iff.mpr c41
                                      subst c41
                                      have H1 : (laws_FnAggregatedAll.l1 k4 l0 t137 t138 y150 false (l0.length : Int) (wrap64 (x86_4 + 1))) = some r := by rw [if_neg (show ¬ (false = true) by decide)] at H; exact H
                                      clear H
                                      have H := H1
                                      clear H1
                                      have H' := Aside0.mk H
                                      clear H
                                      try go_wp2
                                      have n0_ := Aside0.mk (Kd.R_drew HO_9.out)
                                      have n1_ := Aside0.mk (below_drew1 HB.out)
                                      clear HO_9
                                      clear HB
                                      have HO_9 := n0_
                                      have HB := n1_
                                      clear n0_ n1_
                                      refine start_ (n := 23) (S := fun w' => True) (ds := []) #[false, false, false, false, false, false, false, false, false, false, false, false, false, false, false, false, false, false, false, false, false, false, false] (by kernel_rfl) rfl rfl trivial (fun hHeld => ?_); refine with_tabW laws_FnAggregatedAll.tab21 laws_FnAggregatedAll.bits21 (fun HT_ HW_ => ?_)
                                      generalize wr.drew = w56 at HO_9 HB hHeld ⊢
                                      refine pure_ (i := 0) (N := some 100) (v := ?_) (a' := ?_) #[true, false, false, false, false, false, false, false, false, false, false, false, false, false, false, false, false, false, false, false, false, false, false] rfl rfl (any_of HT_.out (by kernel_rfl)) (fun _ _ _ h => h) (Or.inl ⟨by rfl, ?_⟩) ?_ ?_
                                      rotate_left
                                      · intro w'
                                        go_simp
                                        with_reducible rfl
                                      rotate_left
                                      · simp only [Act.put, List.setIfInBounds_toArray, List.set_cons_zero, List.set_cons_succ, i64_w, i32_w]
                                        rfl
                                      refine pure_ (i := 1) (N := some 101) (v := ?_) (a' := ?_) #[true, true, false, false, false, false, false, false, false, false, false, false, false, false, false, false, false, false, false, false, false, false, false] rfl rfl (any_of HT_.out (by kernel_rfl)) (fun _ _ _ h => h) (Or.inl ⟨by rfl, ?_⟩) ?_ ?_
                                      rotate_left
                                      · intro w'
                                        go_simp
                                        with_reducible rfl
                                      rotate_left
                                      · simp only [Act.put, List.setIfInBounds_toArray, List.set_cons_zero, List.set_cons_succ, i64_w, i32_w]
                                        rfl
                                      refine pure_ (i := 2) (N := some 102) (v := undef) (a' := ?_) #[true, true, true, false, false, false, false, false, false, false, false, false, false, false, false, false, false, false, false, false, false, false, false] rfl rfl (any_of HT_.out (by kernel_rfl)) (fun _ _ _ h => h) (Or.inr ⟨by rfl, rfl⟩) ?_ ?_
                                      rotate_left
                                      · simp only [Act.put, List.setIfInBounds_toArray, List.set_cons_zero, List.set_cons_succ, i64_w, i32_w]
                                        rfl
                                      refine pure_ (i := 3) (N := some 103) (v := undef) (a' := ?_) #[true, true, true, true, false, false, false, false, false, false, false, false, false, false, false, false, false, false, false, false, false, false, false] rfl rfl (any_of HT_.out (by kernel_rfl)) (fun _ _ _ h => h) (Or.inr ⟨by rfl, rfl⟩) ?_ ?_
                                      rotate_left
                                      · simp only [Act.put, List.setIfInBounds_toArray, List.set_cons_zero, List.set_cons_succ, i64_w, i32_w]
                                        rfl
                                      refine pure_ (i := 4) (N := some 104) (v := undef) (a' := ?_) #[true, true, true, true, true, false, false, false, false, false, false, false, false, false, false, false, false, false, false, false, false, false, false] rfl rfl (any_of HT_.out (by kernel_rfl)) (fun _ _ _ h => h) (Or.inr ⟨by rfl, rfl⟩) ?_ ?_
                                      rotate_left
                                      · simp only [Act.put, List.setIfInBounds_toArray, List.set_cons_zero, List.set_cons_succ, i64_w, i32_w]
                                        rfl
                                      refine pure_ (i := 5) (N := some 105) (v := undef) (a' := ?_) #[true, true, true, true, true, true, false, false, false, false, false, false, false, false, false, false, false, false, false, false, false, false, false] rfl rfl (any_of HT_.out (by kernel_rfl)) (fun _ _ _ h => h) (Or.inr ⟨by rfl, rfl⟩) ?_ ?_
                                      rotate_left
                                      · simp only [Act.put, List.setIfInBounds_toArray, List.set_cons_zero, List.set_cons_succ, i64_w, i32_w]
                                        rfl
                                      refine pure_ (i := 6) (N := some 106) (v := ?_) (a' := ?_) #[true, true, true, true, true, true, true, false, false, false, false, false, false, false, false, false, false, false, false, false, false, false, false] rfl rfl (any_of HT_.out (by kernel_rfl)) (fun _ _ _ h => h) (Or.inl ⟨by rfl, ?_⟩) ?_ ?_
                                      rotate_left
                                      · intro w'
                                        go_simp
                                        with_reducible rfl
                                      rotate_left
                                      · simp only [Act.put, List.setIfInBounds_toArray, List.set_cons_zero, List.set_cons_succ, i64_w, i32_w]
                                        rfl
                                      refine pure_ (i := 7) (N := some 107) (v := ?_) (a' := ?_) #[true, true, true, true, true, true, true, true, false, false, false, false, false, false, false, false, false, false, false, false, false, false, false] rfl rfl (any_of HT_.out (by kernel_rfl)) (fun _ _ _ h => h) (Or.inl ⟨by rfl, ?_⟩) ?_ ?_
                                      rotate_left
                                      · intro w'
                                        go_simp
                                        with_reducible rfl
                                      rotate_left
                                      · simp only [Act.put, List.setIfInBounds_toArray, List.set_cons_zero, List.set_cons_succ, i64_w, i32_w]
                                        rfl
                                      refine pure_ (i := 8) (N := some 108) (v := undef) (a' := ?_) #[true, true, true, true, true, true, true, true, true, false, false, false, false, false, false, false, false, false, false, false, false, false, false] rfl rfl (any_of HT_.out (by kernel_rfl)) (fun _ _ _ h => h) (Or.inr ⟨by rfl, rfl⟩) ?_ ?_
                                      rotate_left
                                      · simp only [Act.put, List.setIfInBounds_toArray, List.set_cons_zero, List.set_cons_succ, i64_w, i32_w]
                                        rfl
                                      refine pure_ (i := 9) (N := some 109) (v := undef) (a' := ?_) #[true, true, true, true, true, true, true, true, true, true, false, false, false, false, false, false, false, false, false, false, false, false, false] rfl rfl (any_of HT_.out (by kernel_rfl)) (fun _ _ _ h => h) (Or.inr ⟨by rfl, rfl⟩) ?_ ?_
                                      rotate_left
                                      · simp only [Act.put, List.setIfInBounds_toArray, List.set_cons_zero, List.set_cons_succ, i64_w, i32_w]
                                        rfl
                                      refine pure_ (i := 10) (N := some 110) (v := undef) (a' := ?_) #[true, true, true, true, true, true, true, true, true, true, true, false, false, false, false, false, false, false, false, false, false, false, false] rfl rfl (any_of HT_.out (by kernel_rfl)) (fun _ _ _ h => h) (Or.inr ⟨by rfl, rfl⟩) ?_ ?_
                                      rotate_left
                                      · simp only [Act.put, List.setIfInBounds_toArray, List.set_cons_zero, List.set_cons_succ, i64_w, i32_w]
                                        rfl
                                      refine pure_ (i := 11) (N := some 111) (v := undef) (a' := ?_) #[true, true, true, true, true, true, true, true, true, true, true, true, false, false, false, false, false, false, false, false, false, false, false] rfl rfl (any_of HT_.out (by kernel_rfl)) (fun _ _ _ h => h) (Or.inr ⟨by rfl, rfl⟩) ?_ ?_
                                      rotate_left
                                      · simp only [Act.put, List.setIfInBounds_toArray, List.set_cons_zero, List.set_cons_succ, i64_w, i32_w]
                                        rfl
                                      refine pure_ (i := 12) (N := some 112) (v := undef) (a' := ?_) #[true, true, true, true, true, true, true, true, true, true, true, true, true, false, false, false, false, false, false, false, false, false, false] rfl rfl (any_of HT_.out (by kernel_rfl)) (fun _ _ _ h => h) (Or.inr ⟨by rfl, rfl⟩) ?_ ?_
                                      rotate_left
                                      · simp only [Act.put, List.setIfInBounds_toArray, List.set_cons_zero, List.set_cons_succ, i64_w, i32_w]
                                        rfl
                                      refine pure_ (i := 13) (N := some 113) (v := undef) (a' := ?_) #[true, true, true, true, true, true, true, true, true, true, true, true, true, true, false, false, false, false, false, false, false, false, false] rfl rfl (any_of HT_.out (by kernel_rfl)) (fun _ _ _ h => h) (Or.inr ⟨by rfl, rfl⟩) ?_ ?_
                                      rotate_left
                                      · simp only [Act.put, List.setIfInBounds_toArray, List.set_cons_zero, List.set_cons_succ, i64_w, i32_w]
                                        rfl
                                      refine pure_ (i := 14) (N := some 114) (v := undef) (a' := ?_) #[true, true, true, true, true, true, true, true, true, true, true, true, true, true, true, false, false, false, false, false, false, false, false] rfl rfl (any_of HT_.out (by kernel_rfl)) (fun _ _ _ h => h) (Or.inr ⟨by rfl, rfl⟩) ?_ ?_
                                      rotate_left
                                      · simp only [Act.put, List.setIfInBounds_toArray, List.set_cons_zero, List.set_cons_succ, i64_w, i32_w]
                                        rfl
                                      refine pure_ (i := 15) (N := some 115) (v := undef) (a' := ?_) #[true, true, true, true, true, true, true, true, true, true, true, true, true, true, true, true, false, false, false, false, false, false, false] rfl rfl (any_of HT_.out (by kernel_rfl)) (fun _ _ _ h => h) (Or.inr ⟨by rfl, rfl⟩) ?_ ?_
                                      rotate_left
                                      · simp only [Act.put, List.setIfInBounds_toArray, List.set_cons_zero, List.set_cons_succ, i64_w, i32_w]
                                        rfl
                                      refine pure_ (i := 16) (N := some 116) (v := undef) (a' := ?_) #[true, true, true, true, true, true, true, true, true, true, true, true, true, true, true, true, true, false, false, false, false, false, false] rfl rfl (any_of HT_.out (by kernel_rfl)) (fun _ _ _ h => h) (Or.inr ⟨by rfl, rfl⟩) ?_ ?_
                                      rotate_left
                                      · simp only [Act.put, List.setIfInBounds_toArray, List.set_cons_zero, List.set_cons_succ, i64_w, i32_w]
                                        rfl
                                      refine pure_ (i := 17) (N := some 117) (v := undef) (a' := ?_) #[true, true, true, true, true, true, true, true, true, true, true, true, true, true, true, true, true, true, false, false, false, false, false] rfl rfl (any_of HT_.out (by kernel_rfl)) (fun _ _ _ h => h) (Or.inr ⟨by rfl, rfl⟩) ?_ ?_
                                      rotate_left
                                      · simp only [Act.put, List.setIfInBounds_toArray, List.set_cons_zero, List.set_cons_succ, i64_w, i32_w]
                                        rfl
                                      refine pure_ (i := 18) (N := some 118) (v := undef) (a' := ?_) #[true, true, true, true, true, true, true, true, true, true, true, true, true, true, true, true, true, true, true, false, false, false, false] rfl rfl (any_of HT_.out (by kernel_rfl)) (fun _ _ _ h => h) (Or.inr ⟨by rfl, rfl⟩) ?_ ?_
                                      rotate_left
                                      · simp only [Act.put, List.setIfInBounds_toArray, List.set_cons_zero, List.set_cons_succ, i64_w, i32_w]
                                        rfl
                                      refine pure_ (i := 19) (N := some 119) (v := undef) (a' := ?_) #[true, true, true, true, true, true, true, true, true, true, true, true, true, true, true, true, true, true, true, true, false, false, false] rfl rfl (any_of HT_.out (by kernel_rfl)) (fun _ _ _ h => h) (Or.inr ⟨by rfl, rfl⟩) ?_ ?_
                                      rotate_left
                                      · simp only [Act.put, List.setIfInBounds_toArray, List.set_cons_zero, List.set_cons_succ, i64_w, i32_w]
                                        rfl
                                      refine pure_ (i := 20) (N := some 120) (v := undef) (a' := ?_) #[true, true, true, true, true, true, true, true, true, true, true, true, true, true, true, true, true, true, true, true, true, false, false] rfl rfl (any_of HT_.out (by kernel_rfl)) (fun _ _ _ h => h) (Or.inr ⟨by rfl, rfl⟩) ?_ ?_
                                      rotate_left
                                      · simp only [Act.put, List.setIfInBounds_toArray, List.set_cons_zero, List.set_cons_succ, i64_w, i32_w]
                                        rfl
                                      refine pure_ (i := 21) (N := some 121) (v := ?_) (a' := ?_) #[true, true, true, true, true, true, true, true, true, true, true, true, true, true, true, true, true, true, true, true, true, true, false] rfl rfl (any_of HT_.out (by kernel_rfl)) (fun _ _ _ h => h) (Or.inl ⟨by rfl, ?_⟩) ?_ ?_
                                      rotate_left
                                      · intro w'
                                        go_simp
                                        with_reducible rfl
                                      rotate_left
                                      · simp only [Act.put, List.setIfInBounds_toArray, List.set_cons_zero, List.set_cons_succ, i64_w, i32_w]
                                        rfl
                                      refine pure_ (i := 22) (N := some 10) (v := ?_) (a' := ?_) #[true, true, true, true, true, true, true, true, true, true, true, true, true, true, true, true, true, true, true, true, true, true, true] rfl rfl (any_of HT_.out (by kernel_rfl)) (fun _ _ _ h => h) (Or.inl ⟨by rfl, ?_⟩) ?_ ?_
                                      rotate_left
                                      · intro w'
                                        go_simp
                                        with_reducible rfl
                                      rotate_left
                                      · simp only [Act.put, List.setIfInBounds_toArray, List.set_cons_zero, List.set_cons_succ, i64_w, i32_w]
                                        rfl
                                      refine done_ (done_of HT_.out (by kernel_rfl)) ?_
                                      try go_wp2
                                      go_roundg k4
                                      case measure => have := HJ3.out; have := HK2.out; have := HJ20.out; have := HK4.out; omega
                                      case rel => exact ⟨(false), (wrap64 (x86_4 + 1)), (by first | rfl | (simp; done) | (simp [*]; done)), (by first | rfl | (simp; done) | (simp [*]; done)), H', ⟨by have := HJ3.out; have := HK2.out; have := HJ20.out; have := HK4.out; omega⟩, ⟨by (with_reducible repeat (first | apply Kd.R_alloc | apply Kd.R_drewN | apply Kd.R_drew)); exact HO_9.out⟩, ⟨by repeat (first | (with_reducible first | exact HB.out | apply below_alloc | apply pw_below_drewN | apply below_drew1) | exact HB.out)⟩⟩
                                  · rw [if_neg c40] at H
                                    have c40b0 : (t137.toList == ([] : List UInt8)) = false := beq_eq_false_iff_ne.mpr c40
                                    have c40b1 : (t137.toList != ([] : List UInt8)) = true := bne_iff_ne.mpr c40
                                    by_cases c57 : 0 ≤ x86_4
                                    · rw [if_pos c57] at H
                                      have c57b0 : decide (0 ≤ x86_4) = true := decide_eq_true c57
                                      clear c57
                                      by_cases c58 : x86_4 < (l0.length : Int)
                                      · rw [if_pos c58] at H
                                        have c58b0 : decide (x86_4 < (l0.length : Int)) = true := decide_eq_true c58
                                        clear c58
                                        replace H := Option.bind_eq_some_iff.mp H
                                        obtain ⟨t168, A590, H⟩ := H
                                        replace H : (if t168 = true then (if x10_4 = true then (if t138 < (y150.length : Int) then (if 0 ≤ (mn (wrap64 (t138 + 1)) (y150.length : Int)) then (if (mn (wrap64 (t138 + 1)) (y150.length : Int)) ≤ (y150.length : Int) then ((impl_BeginsRunes.f k4 (rdOf ByteArray.empty l0 x86_4) (runesBytes (y150.take ((mn (wrap64 (t138 + 1)) (y150.length : Int)) : Int).toNat)) false).bind fun t174 => (laws_FnAggregatedAll.l1 k4 l0 t137 t138 y150 t174 (l0.length : Int) (wrap64 (x86_4 + 1)))) else (none)) else (none)) else (laws_FnAggregatedAll.l1 k4 l0 t137 t138 y150 false (l0.length : Int) (wrap64 (x86_4 + 1)))) else (laws_FnAggregatedAll.l1 k4 l0 t137 t138 y150 false (l0.length : Int) (wrap64 (x86_4 + 1)))) else (some false)) = some r := H
                                        have A59 := Aside0.mk A590
                                        clear A590
                                        by_cases c60 : t168 = true
                                        · subst c60
                                          have H1 : (if x10_4 = true then (if t138 < (y150.length : Int) then (if 0 ≤ (mn (wrap64 (t138 + 1)) (y150.length : Int)) then (if (mn (wrap64 (t138 + 1)) (y150.length : Int)) ≤ (y150.length : Int) then ((impl_BeginsRunes.f k4 (rdOf ByteArray.empty l0 x86_4) (runesBytes (y150.take ((mn (wrap64 (t138 + 1)) (y150.length : Int)) : Int).toNat)) false).bind fun t174 => (laws_FnAggregatedAll.l1 k4 l0 t137 t138 y150 t174 (l0.length : Int) (wrap64 (x86_4 + 1)))) else (none)) else (none)) else (laws_FnAggregatedAll.l1 k4 l0 t137 t138 y150 false (l0.length : Int) (wrap64 (x86_4 + 1)))) else (laws_FnAggregatedAll.l1 k4 l0 t137 t138 y150 false (l0.length : Int) (wrap64 (x86_4 + 1)))) = some r := by rw [if_pos rfl] at H; exact H
                                          clear H
                                          have H := H1
                                          clear H1
                                          by_cases c61 : x10_4 = true
                                          · subst c61
                                            have H1 : (if t138 < (y150.length : Int) then (if 0 ≤ (mn (wrap64 (t138 + 1)) (y150.length : Int)) then (if (mn (wrap64 (t138 + 1)) (y150.length : Int)) ≤ (y150.length : Int) then ((impl_BeginsRunes.f k4 (rdOf ByteArray.empty l0 x86_4) (runesBytes (y150.take ((mn (wrap64 (t138 + 1)) (y150.length : Int)) : Int).toNat)) false).bind fun t174 => (laws_FnAggregatedAll.l1 k4 l0 t137 t138 y150 t174 (l0.length : Int) (wrap64 (x86_4 + 1)))) else (none)) else (none)) else (laws_FnAggregatedAll.l1 k4 l0 t137 t138 y150 false (l0.length : Int) (wrap64 (x86_4 + 1)))) = some r := by rw [if_pos rfl] at H; exact H
                                            clear H
                                            have H := H1
                                            clear H1
                                            by_cases c62 : t138 < (y150.length : Int)
                                            · rw [if_pos c62] at H
                                              have c62b0 : decide (t138 < (y150.length : Int)) = true := decide_eq_true c62
                                              clear c62
                                              obtain ⟨ji63, hji63⟩ : ∃ j_ : Int, (mn (wrap64 (t138 + 1)) (y150.length : Int)) = j_ := ⟨_, rfl⟩
                                              replace H : (if 0 ≤ (ji63) then (if (ji63) ≤ (y150.length : Int) then ((impl_BeginsRunes.f k4 (rdOf ByteArray.empty l0 x86_4) (runesBytes (y150.take ((ji63) : Int).toNat)) false).bind fun t174 => (laws_FnAggregatedAll.l1 k4 l0 t137 t138 y150 t174 (l0.length : Int) (wrap64 (x86_4 + 1)))) else (none)) else (none)) = some r := by first | (rw [hji63] at H; exact H) | (simp only [hji63] at H ⊢; exact H)
                                              (try rw [hji63] at A59)
                                              have hji63_ : (if (y150.length : Int) < (wrap64 (t138 + 1)) then (y150.length : Int) else (wrap64 (t138 + 1))) = ji63 := hji63
                                              by_cases c64 : 0 ≤ (ji63)
                                              · rw [if_pos c64] at H
                                                have c64b0 := eq_true c64
                                                have c64b1 : decide (0 ≤ (ji63)) = true := decide_eq_true c64
                                                clear c64
                                                by_cases c65 : (ji63) ≤ (y150.length : Int)
                                                · rw [if_pos c65] at H
                                                  have c65b0 := eq_true c65
                                                  have c65b1 : decide ((ji63) ≤ (y150.length : Int)) = true := decide_eq_true c65
                                                  clear c65
                                                  obtain ⟨y170, hy170⟩ : ∃ y_ : List Int, y_ = (y150.take ((ji63) : Int).toNat) := ⟨_, rfl⟩
                                                  replace H : ((impl_BeginsRunes.f k4 (rdOf ByteArray.empty l0 x86_4) (runesBytes y170) false).bind fun t174 => (laws_FnAggregatedAll.l1 k4 l0 t137 t138 y150 t174 (l0.length : Int) (wrap64 (x86_4 + 1)))) = some r := by first | (rw [hy170]; with_reducible exact H) | (have H2_ := (Option.bind_some _ _).symm.trans H; rw [hy170]; with_reducible exact H2_) | (have H2_ := (Option.bind_some _ _).symm.trans H; with_reducible exact H2_) | with_reducible exact H | (rw [hy170]; exact H) | exact H
                                                  have Ny170 := Aside0.mk hy170
                                                  clear hy170
                                                  replace H := Option.bind_eq_some_iff.mp H
                                                  obtain ⟨t174, A660, H⟩ := H
                                                  replace H : (laws_FnAggregatedAll.l1 k4 l0 t137 t138 y150 t174 (l0.length : Int) (wrap64 (x86_4 + 1))) = some r := H
                                                  have A66 := Aside0.mk A660
                                                  clear A660
                                                  have H' := Aside0.mk H
                                                  clear H
                                                  have p167 : 0 ≤ (x86_4 : Int) := of_decide_eq_true (by first | (with_reducible assumption) | assumption)
                                                  have q167 : x86_4 < (l0.length : Int) := of_decide_eq_true (by first | (with_reducible assumption) | assumption)
                                                  obtain ⟨ad167, e167, hx167_0⟩ := Kd.at_string HR0.out x86_4 p167 q167
                                                  obtain rfl : ad143 = ad167 := (by injection e167)
                                                  replace hx167_0 := (HB.out.cell (World.block_lt_of_cell? w _ hx167_0)).trans hx167_0
                                                  replace p167 := eq_true p167
                                                  replace q167 := eq_true q167
                                                  try go_wp2_with (first | (go_at_call 14; (with_reducible refine (impl_BeginsRunes.calls k4 (rdOf ByteArray.empty l0 x86_4) t137 false true _ A59.out).mono ?_); rintro e w67 ⟨rfl, hb⟩; have n0_ := Aside0.mk (Kd.R_below (by (with_reducible repeat (first | apply Kd.R_alloc | apply Kd.R_drewN | apply Kd.R_drew)); exact HO_9.out) hb); have n1_ := Aside0.mk (below_step (by repeat (first | (with_reducible first | exact HB.out | apply below_alloc | apply pw_below_drewN | apply below_drew1) | exact HB.out)) hb); clear HO_9; clear HB; have HO_9 := n0_; have HB := n1_; clear n0_ n1_; (try clear hb); (try clear hb2); (try clear hk); (try clear hi)))
                                                  have n0_ := Aside0.mk (Kd.R_drew HO_9.out)
                                                  have n1_ := Aside0.mk (below_drew1 HB.out)
                                                  clear HO_9
                                                  clear HB
                                                  have HO_9 := n0_
                                                  have HB := n1_
                                                  clear n0_ n1_
                                                  obtain ⟨Ao69, co69, eo69⟩ := Kd.R_slice HO_9.out
                                                  (first | subst eo69 | (injection eo69 with f1_ f2_ f3_; have f4_ := f1_.symm; have f5_ := f3_.symm; clear f1_ f2_ f3_; subst f4_; subst f5_))
                                                  have p169 : 0 ≤ (x86_4 : Int) := of_decide_eq_true (by first | (with_reducible assumption) | assumption)
                                                  have q169 : x86_4 < (l0.length : Int) := of_decide_eq_true (by first | (with_reducible assumption) | assumption)
                                                  obtain ⟨ad169, e169, hx169_0⟩ := Kd.at_string HR0.out x86_4 p169 q169
                                                  have hw169_0 := hx169_0
                                                  obtain rfl : ad143 = ad169 := (by injection e169)
                                                  replace hx169_0 := (HB.out.cell (World.block_lt_of_cell? w _ hx169_0)).trans hx169_0
                                                  replace p169 := eq_true p169
                                                  replace q169 := eq_true q169
                                                  have q70 : ((ji63) : Int) ≤ ((y150.length : Int) : Int) := of_decide_eq_true (by first | (with_reducible assumption) | assumption)
                                                  obtain ⟨i070, hi070, _, hsz70, _⟩ := info_parts info21
                                                  have hroom70 : y150.length ≤ co69 := (Kd.R_reads' HO_9.out).2.1
                                                  have hC70 : Kd.C (Kd.int .i32) _ Ao69 y150.length y150 := (Kd.R_reads' HO_9.out).2.2
                                                  have hcut70 := cut_to (P := Tryd.prog) 27 21 .i64 Tryd.underlying27 hi070 Ao69 y150.length co69 (ji63) (of_decide_eq_true (by first | (with_reducible assumption) | assumption)) q70 hroom70
                                                  have hr70 := Kd.C_take (m := ((ji63) : Int).toNat) hC70 (by omega)
                                                  have hy70 : y170.length = ((ji63) : Int).toNat := (by rw [Ny170.out, List.length_take]; omega)
                                                  rw [← Ny170.out] at hr70
                                                  rw [← hy70] at hcut70
                                                  have HR173 := Aside0.mk hr70
                                                  have HC173 := Aside0.mk (show y170.length ≤ co69 from by omega)
                                                  clear hr70 hC70 hroom70 hi070 hsz70
                                                  have KY70 := Aside0.mk hy70
                                                  clear hy70
                                                  have KL70 := Aside0.mk (show ((ji63) : Int).toNat ≤ y150.length from by omega)
                                                  replace q70 := eq_true q70
                                                  have hcv71 := C_runes (P := Tryd.prog) (A := Ao69) (c := co69) Tryd.underlying27 Tryd.underlying21 Tryd.underlying9 (by repeat (first | (with_reducible exact HR173.out) | (with_reducible refine Kd.C_alloc ?_ _) | (with_reducible refine Kd.C_drewN ?_ _) | (with_reducible refine Kd.C_drew ?_) | exact HR173.out))
                                                  refine start_ (n := 23) (S := fun w' => (w'.cell? (ad143.add (x86_4).toNat) = some (.string (rdOf ByteArray.empty l0 x86_4))) ∧ (convert 27 9 (.slice Ao69 y170.length co69)).run Tryd.prog w' = .ok (.string (runesBytes y170)) w') (ds := []) #[false, false, false, false, false, false, false, false, false, false, false, false, false, false, false, false, false, false, false, false, false, false, false] (by kernel_rfl) rfl rfl ⟨(((HB.out.cell (World.block_lt_of_cell? w _ hw169_0)).trans hw169_0)), hcv71⟩ (fun hHeld => ?_); refine with_tabW laws_FnAggregatedAll.tab21 laws_FnAggregatedAll.bits21 (fun HT_ HW_ => ?_)
                                                  generalize w67.drew = w68 at HO_9 HB HR173 hx169_0 hHeld ⊢
                                                  refine pure_ (i := 0) (N := some 100) (v := ?_) (a' := ?_) #[true, false, false, false, false, false, false, false, false, false, false, false, false, false, false, false, false, false, false, false, false, false, false] rfl rfl (any_of HT_.out (by kernel_rfl)) (fun _ _ _ h => h) (Or.inl ⟨by rfl, ?_⟩) ?_ ?_
                                                  rotate_left
                                                  · intro w'
                                                    go_simp
                                                    with_reducible rfl
                                                  rotate_left
                                                  · simp only [Act.put, List.setIfInBounds_toArray, List.set_cons_zero, List.set_cons_succ, i64_w, i32_w]
                                                    rfl
                                                  refine pure_ (i := 1) (N := some 101) (v := ?_) (a' := ?_) #[true, true, false, false, false, false, false, false, false, false, false, false, false, false, false, false, false, false, false, false, false, false, false] rfl rfl (any_of HT_.out (by kernel_rfl)) (fun _ _ _ h => h) (Or.inl ⟨by rfl, ?_⟩) ?_ ?_
                                                  rotate_left
                                                  · intro w'
                                                    go_simp
                                                    with_reducible rfl
                                                  rotate_left
                                                  · simp only [Act.put, List.setIfInBounds_toArray, List.set_cons_zero, List.set_cons_succ, i64_w, i32_w]
                                                    rfl
                                                  refine pure_ (i := 2) (N := some 102) (v := ?_) (a' := ?_) #[true, true, true, false, false, false, false, false, false, false, false, false, false, false, false, false, false, false, false, false, false, false, false] rfl rfl (any_of HT_.out (by kernel_rfl)) (fun _ _ _ h => h) (Or.inl ⟨by rfl, ?_⟩) ?_ ?_
                                                  rotate_left
                                                  · intro w'
                                                    go_simp
                                                    with_reducible rfl
                                                  rotate_left
                                                  · simp only [Act.put, List.setIfInBounds_toArray, List.set_cons_zero, List.set_cons_succ, i64_w, i32_w]
                                                    rfl
                                                  refine pure_ (i := 3) (N := some 103) (v := ?_) (a' := ?_) #[true, true, true, true, false, false, false, false, false, false, false, false, false, false, false, false, false, false, false, false, false, false, false] rfl rfl (any_of HT_.out (by kernel_rfl)) (fun _ _ _ h => h) (Or.inl ⟨by rfl, ?_⟩) ?_ ?_
                                                  rotate_left
                                                  · intro w'
                                                    go_simp
                                                    with_reducible rfl
                                                  rotate_left
                                                  · simp only [Act.put, List.setIfInBounds_toArray, List.set_cons_zero, List.set_cons_succ, i64_w, i32_w]
                                                    rfl
                                                  refine pure_ (i := 4) (N := some 104) (v := ?_) (a' := ?_) #[true, true, true, true, true, false, false, false, false, false, false, false, false, false, false, false, false, false, false, false, false, false, false] rfl rfl (any_of HT_.out (by kernel_rfl)) (fun _ _ _ h => h) (Or.inl ⟨by rfl, ?_⟩) ?_ ?_
                                                  rotate_left
                                                  · intro w'
                                                    go_simp
                                                    with_reducible rfl
                                                  rotate_left
                                                  · simp only [Act.put, List.setIfInBounds_toArray, List.set_cons_zero, List.set_cons_succ, i64_w, i32_w]
                                                    rfl
                                                  refine pure_ (i := 5) (N := some 105) (v := ?_) (a' := ?_) #[true, true, true, true, true, true, false, false, false, false, false, false, false, false, false, false, false, false, false, false, false, false, false] rfl rfl (any_of HT_.out (by kernel_rfl)) (fun _ _ _ h => h) (Or.inl ⟨by rfl, ?_⟩) ?_ ?_
                                                  rotate_left
                                                  · intro w'
                                                    go_simp
                                                    with_reducible rfl
                                                  rotate_left
                                                  · simp only [Act.put, List.setIfInBounds_toArray, List.set_cons_zero, List.set_cons_succ, i64_w, i32_w]
                                                    rfl
                                                  refine pure_ (i := 6) (N := some 106) (v := ?_) (a' := ?_) #[true, true, true, true, true, true, true, false, false, false, false, false, false, false, false, false, false, false, false, false, false, false, false] rfl rfl (any_of HT_.out (by kernel_rfl)) (fun _ _ _ h => h) (Or.inl ⟨by rfl, ?_⟩) ?_ ?_
                                                  rotate_left
                                                  · intro w'
                                                    go_simp
                                                    with_reducible rfl
                                                  rotate_left
                                                  · simp only [Act.put, List.setIfInBounds_toArray, List.set_cons_zero, List.set_cons_succ, i64_w, i32_w]
                                                    rfl
                                                  refine pure_ (i := 7) (N := some 107) (v := ?_) (a' := ?_) #[true, true, true, true, true, true, true, true, false, false, false, false, false, false, false, false, false, false, false, false, false, false, false] rfl rfl (any_of HT_.out (by kernel_rfl)) (fun _ _ _ h => h) (Or.inl ⟨by rfl, ?_⟩) ?_ ?_
                                                  rotate_left
                                                  · intro w'
                                                    go_simp
                                                    with_reducible rfl
                                                  rotate_left
                                                  · simp only [Act.put, List.setIfInBounds_toArray, List.set_cons_zero, List.set_cons_succ, i64_w, i32_w]
                                                    rfl
                                                  refine pure_ (i := 8) (N := some 108) (v := ?_) (a' := ?_) #[true, true, true, true, true, true, true, true, true, false, false, false, false, false, false, false, false, false, false, false, false, false, false] rfl rfl (any_of HT_.out (by kernel_rfl)) (fun _ _ _ h => h) (Or.inl ⟨by rfl, ?_⟩) ?_ ?_
                                                  rotate_left
                                                  · intro w'
                                                    go_simp
                                                    with_reducible rfl
                                                  rotate_left
                                                  · simp only [Act.put, List.setIfInBounds_toArray, List.set_cons_zero, List.set_cons_succ, i64_w, i32_w]
                                                    rfl
                                                  refine pure_ (i := 9) (N := some 109) (v := ?_) (a' := ?_) #[true, true, true, true, true, true, true, true, true, true, false, false, false, false, false, false, false, false, false, false, false, false, false] rfl rfl (any_of HT_.out (by kernel_rfl)) (fun _ _ _ h => h) (Or.inl ⟨by rfl, ?_⟩) ?_ ?_
                                                  rotate_left
                                                  · intro w'
                                                    go_simp
                                                    with_reducible rfl
                                                  rotate_left
                                                  · simp only [Act.put, List.setIfInBounds_toArray, List.set_cons_zero, List.set_cons_succ, i64_w, i32_w]
                                                    rfl
                                                  refine pure_ (i := 10) (N := some 110) (v := ?_) (a' := ?_) #[true, true, true, true, true, true, true, true, true, true, true, false, false, false, false, false, false, false, false, false, false, false, false] rfl rfl (any_of HT_.out (by kernel_rfl)) (fun _ _ _ h => h) (Or.inl ⟨by rfl, ?_⟩) ?_ ?_
                                                  rotate_left
                                                  · intro w'
                                                    go_simp
                                                    with_reducible rfl
                                                  rotate_left
                                                  · simp only [Act.put, List.setIfInBounds_toArray, List.set_cons_zero, List.set_cons_succ, i64_w, i32_w]
                                                    rfl
                                                  refine pure_ (i := 12) (N := some 112) (v := ?_) (a' := ?_) #[true, true, true, true, true, true, true, true, true, true, true, false, true, false, false, false, false, false, false, false, false, false, false] rfl rfl (any_of HT_.out (by kernel_rfl)) (fun _ _ _ h => h) (Or.inl ⟨by rfl, ?_⟩) ?_ ?_
                                                  rotate_left
                                                  · intro w'
                                                    go_simp
                                                    with_reducible rfl
                                                  rotate_left
                                                  · simp only [Act.put, List.setIfInBounds_toArray, List.set_cons_zero, List.set_cons_succ, i64_w, i32_w]
                                                    rfl
                                                  refine pure_ (i := 13) (N := some 113) (v := ?_) (a' := ?_) #[true, true, true, true, true, true, true, true, true, true, true, false, true, true, false, false, false, false, false, false, false, false, false] rfl rfl (any_of HT_.out (by kernel_rfl)) (fun _ _ _ h => h) (Or.inl ⟨by rfl, ?_⟩) ?_ ?_
                                                  rotate_left
                                                  · intro w'
                                                    go_simp
                                                    with_reducible rfl
                                                  rotate_left
                                                  · simp only [Act.put, List.setIfInBounds_toArray, List.set_cons_zero, List.set_cons_succ, i64_w, i32_w]
                                                    rfl
                                                  refine pure_ (i := 14) (N := some 114) (v := ?_) (a' := ?_) #[true, true, true, true, true, true, true, true, true, true, true, false, true, true, true, false, false, false, false, false, false, false, false] rfl rfl (any_of HT_.out (by kernel_rfl)) (fun _ _ _ h => h) (Or.inl ⟨by rfl, ?_⟩) ?_ ?_
                                                  rotate_left
                                                  · intro w'
                                                    go_simp
                                                    with_reducible rfl
                                                  rotate_left
                                                  · simp only [Act.put, List.setIfInBounds_toArray, List.set_cons_zero, List.set_cons_succ, i64_w, i32_w]
                                                    rfl
                                                  refine pure_ (i := 15) (N := some 115) (v := ?_) (a' := ?_) #[true, true, true, true, true, true, true, true, true, true, true, false, true, true, true, true, false, false, false, false, false, false, false] rfl rfl (any_of HT_.out (by kernel_rfl)) (fun _ _ _ h => h) (Or.inl ⟨by rfl, ?_⟩) ?_ ?_
                                                  rotate_left
                                                  · intro w'
                                                    go_simp
                                                    with_reducible rfl
                                                  rotate_left
                                                  · simp only [Act.put, List.setIfInBounds_toArray, List.set_cons_zero, List.set_cons_succ, i64_w, i32_w]
                                                    rfl
                                                  refine pure_ (i := 16) (N := some 116) (v := ?_) (a' := ?_) #[true, true, true, true, true, true, true, true, true, true, true, false, true, true, true, true, true, false, false, false, false, false, false] rfl rfl (any_of HT_.out (by kernel_rfl)) (fun _ _ _ h => h) (Or.inl ⟨by rfl, ?_⟩) ?_ ?_
                                                  rotate_left
                                                  · intro w'
                                                    go_simp
                                                    with_reducible rfl
                                                  rotate_left
                                                  · simp only [Act.put, List.setIfInBounds_toArray, List.set_cons_zero, List.set_cons_succ, i64_w, i32_w]
                                                    rfl
                                                  refine pure_ (i := 17) (N := some 117) (v := ?_) (a' := ?_) #[true, true, true, true, true, true, true, true, true, true, true, false, true, true, true, true, true, true, false, false, false, false, false] rfl rfl (any_of HT_.out (by kernel_rfl)) (fun _ _ _ h => h) (Or.inl ⟨by rfl, ?_⟩) ?_ ?_
                                                  rotate_left
                                                  · intro w'
                                                    go_simp
                                                    with_reducible rfl
                                                  rotate_left
                                                  · simp only [Act.put, List.setIfInBounds_toArray, List.set_cons_zero, List.set_cons_succ, i64_w, i32_w]
                                                    rfl
                                                  refine pure_ (i := 18) (N := some 118) (v := ?_) (a' := ?_) #[true, true, true, true, true, true, true, true, true, true, true, false, true, true, true, true, true, true, true, false, false, false, false] rfl rfl (any_of HT_.out (by kernel_rfl)) (fun _ _ _ h => h) (Or.inl ⟨by rfl, ?_⟩) ?_ ?_
                                                  rotate_left
                                                  · intro w'
                                                    go_simp
                                                    with_reducible rfl
                                                  rotate_left
                                                  · simp only [Act.put, List.setIfInBounds_toArray, List.set_cons_zero, List.set_cons_succ, i64_w, i32_w]
                                                    rfl
                                                  refine take_ (i := 19) (N := some 119) (v := ?_) (a' := ?_) #[true, true, true, true, true, true, true, true, true, true, true, false, true, true, true, true, true, true, true, true, false, false, false] rfl rfl (take_ofW HT_.out HW_.out (by kernel_rfl)) (fun _ _ _ h => h) (Or.inl ⟨by rfl, ?_⟩) hHeld ?_ ?_
                                                  rotate_left
                                                  · intro w' s0
                                                    have s0 := s0.2
                                                    go_simp
                                                    with_reducible rfl
                                                  rotate_left
                                                  · simp only [Act.put, List.setIfInBounds_toArray, List.set_cons_zero, List.set_cons_succ, i64_w, i32_w]
                                                    rfl
                                                  refine take_ (i := 11) (N := some 111) (v := ?_) (a' := ?_) #[true, true, true, true, true, true, true, true, true, true, true, true, true, true, true, true, true, true, true, true, false, false, false] rfl rfl (take_ofW HT_.out HW_.out (by kernel_rfl)) (fun _ _ _ h => h) (Or.inl ⟨by rfl, ?_⟩) hHeld ?_ ?_
                                                  rotate_left
                                                  · intro w' s0
                                                    have s0 := s0.1
                                                    go_simp
                                                    with_reducible rfl
                                                  rotate_left
                                                  · simp only [Act.put, List.setIfInBounds_toArray, List.set_cons_zero, List.set_cons_succ, i64_w, i32_w]
                                                    rfl
                                                  refine one_ (i := 20) (N := some 120) #[true, true, true, true, true, true, true, true, true, true, true, true, true, true, true, true, true, true, true, true, true, false, false] rfl rfl (one_of HT_.out (by kernel_rfl)) (by decide) (fun K hK => ?_)
                                                  refine goes_ Tryd.func14 (by kernel_rfl) rfl #[.string (rdOf ByteArray.empty l0 x86_4), .string (runesBytes y170), .bool false] (by rfl) rfl rfl (by (try simp only [List.map_toArray, List.map_cons, List.map_nil]); first | done | rfl | (simp only [List.length_drop, List.length_take]; rfl) | (simp only [Int.toNat_natCast, ByteArray.extract_zero_size]; rfl)) ?_
                                                  with_reducible refine (impl_BeginsRunes.calls k4 (rdOf ByteArray.empty l0 x86_4) (runesBytes y170) false t174 _ A66.out).mono ?_
                                                  rintro e w72 ⟨rfl, hb⟩
                                                  refine ⟨_, rfl, ?_⟩
                                                  have n0_ := Aside0.mk (Kd.R_below (by (with_reducible repeat (first | apply Kd.R_alloc | apply Kd.R_drewN | apply Kd.R_drew)); exact HO_9.out) hb)
                                                  have n1_ := Aside0.mk (Kd.C_below (by repeat (first | (with_reducible exact HR173.out) | (with_reducible refine Kd.C_alloc ?_ _) | (with_reducible refine Kd.C_drewN ?_ _) | (with_reducible refine Kd.C_drew ?_) | exact HR173.out)) hb)
                                                  have n2_ := Aside0.mk (below_step (by repeat (first | (with_reducible first | exact HB.out | apply below_alloc | apply pw_below_drewN | apply below_drew1) | exact HB.out)) hb)
                                                  clear HO_9
                                                  clear HR173
                                                  clear HB
                                                  have HO_9 := n0_
                                                  have HR173 := n1_
                                                  have HB := n2_
                                                  clear n0_ n1_ n2_
                                                  (try clear hb)
                                                  (try clear hb2)
                                                  (try clear hk)
                                                  (try clear hi)
                                                  refine hK.out _ _ ⟨(((HB.out.cell (World.block_lt_of_cell? w _ hw169_0)).trans hw169_0)), C_runes (P := Tryd.prog) (A := Ao69) (c := co69) Tryd.underlying27 Tryd.underlying21 Tryd.underlying9 HR173.out⟩ (fun hHeld => ?_)
                                                  clear hK K
                                                  refine norm_ (a' := ?_) ?_ ?_
                                                  rotate_left
                                                  · show Act.put _ (some 120) _ = _
                                                    simp only [Act.put, List.setIfInBounds_toArray, List.set_cons_zero, List.set_cons_succ, i64_w, i32_w]
                                                    rfl
                                                  refine pure_ (i := 21) (N := some 121) (v := ?_) (a' := ?_) #[true, true, true, true, true, true, true, true, true, true, true, true, true, true, true, true, true, true, true, true, true, true, false] rfl rfl (any_of HT_.out (by kernel_rfl)) (fun _ _ _ h => h) (Or.inl ⟨by rfl, ?_⟩) ?_ ?_
                                                  rotate_left
                                                  · intro w'
                                                    go_simp
                                                    with_reducible rfl
                                                  rotate_left
                                                  · simp only [Act.put, List.setIfInBounds_toArray, List.set_cons_zero, List.set_cons_succ, i64_w, i32_w]
                                                    rfl
                                                  refine pure_ (i := 22) (N := some 10) (v := ?_) (a' := ?_) #[true, true, true, true, true, true, true, true, true, true, true, true, true, true, true, true, true, true, true, true, true, true, true] rfl rfl (any_of HT_.out (by kernel_rfl)) (fun _ _ _ h => h) (Or.inl ⟨by rfl, ?_⟩) ?_ ?_
                                                  rotate_left
                                                  · intro w'
                                                    go_simp
                                                    with_reducible rfl
                                                  rotate_left
                                                  · simp only [Act.put, List.setIfInBounds_toArray, List.set_cons_zero, List.set_cons_succ, i64_w, i32_w]
                                                    rfl
                                                  refine done_ (done_of HT_.out (by kernel_rfl)) ?_
                                                  try go_wp2
                                                  go_roundg k4
                                                  case measure => have := HJ3.out; have := HK2.out; have := HJ20.out; have := HK4.out; omega
                                                  case rel => exact ⟨(t174), (wrap64 (x86_4 + 1)), (by first | rfl | (simp; done) | (simp [*]; done)), (by first | rfl | (simp; done) | (simp [*]; done)), H', ⟨by have := HJ3.out; have := HK2.out; have := HJ20.out; have := HK4.out; omega⟩, ⟨by (with_reducible repeat (first | apply Kd.R_alloc | apply Kd.R_drewN | apply Kd.R_drew)); exact HO_9.out⟩, ⟨by repeat (first | (with_reducible first | exact HB.out | apply below_alloc | apply pw_below_drewN | apply below_drew1) | exact HB.out)⟩⟩
                                                · rw [if_neg c65] at H
                                                  exact absurd H (by simp)
                                              · rw [if_neg c64] at H
                                                exact absurd H (by simp)
                                            · rw [if_neg c62] at H
                                              have c62b0 : decide (t138 < (y150.length : Int)) = false := decide_eq_false c62
                                              clear c62
                                              have H' := Aside0.mk H
                                              clear H
                                              have p167 : 0 ≤ (x86_4 : Int) := of_decide_eq_true (by first | (with_reducible assumption) | assumption)
                                              have q167 : x86_4 < (l0.length : Int) := of_decide_eq_true (by first | (with_reducible assumption) | assumption)
                                              obtain ⟨ad167, e167, hx167_0⟩ := Kd.at_string HR0.out x86_4 p167 q167
                                              obtain rfl : ad143 = ad167 := (by injection e167)
                                              replace hx167_0 := (HB.out.cell (World.block_lt_of_cell? w _ hx167_0)).trans hx167_0
                                              replace p167 := eq_true p167
                                              replace q167 := eq_true q167
                                              try go_wp2_with (first | (go_at_call 14; (with_reducible refine (impl_BeginsRunes.calls k4 (rdOf ByteArray.empty l0 x86_4) t137 false true _ A59.out).mono ?_); rintro e w73 ⟨rfl, hb⟩; have n0_ := Aside0.mk (Kd.R_below (by (with_reducible repeat (first | apply Kd.R_alloc | apply Kd.R_drewN | apply Kd.R_drew)); exact HO_9.out) hb); have n1_ := Aside0.mk (below_step (by repeat (first | (with_reducible first | exact HB.out | apply below_alloc | apply pw_below_drewN | apply below_drew1) | exact HB.out)) hb); clear HO_9; clear HB; have HO_9 := n0_; have HB := n1_; clear n0_ n1_; (try clear hb); (try clear hb2); (try clear hk); (try clear hi)))
                                              have n0_ := Aside0.mk (Kd.R_drew HO_9.out)
                                              have n1_ := Aside0.mk (below_drew1 HB.out)
                                              clear HO_9
                                              clear HB
                                              have HO_9 := n0_
                                              have HB := n1_
                                              clear n0_ n1_
                                              obtain ⟨Ao75, co75, eo75⟩ := Kd.R_slice HO_9.out
                                              (first | subst eo75 | (injection eo75 with f1_ f2_ f3_; have f4_ := f1_.symm; have f5_ := f3_.symm; clear f1_ f2_ f3_; subst f4_; subst f5_))
                                              refine start_ (n := 23) (S := fun w' => True) (ds := []) #[false, false, false, false, false, false, false, false, false, false, false, false, false, false, false, false, false, false, false, false, false, false, false] (by kernel_rfl) rfl rfl trivial (fun hHeld => ?_); refine with_tabW laws_FnAggregatedAll.tab21 laws_FnAggregatedAll.bits21 (fun HT_ HW_ => ?_)
                                              generalize w73.drew = w74 at HO_9 HB hHeld ⊢
                                              refine pure_ (i := 0) (N := some 100) (v := ?_) (a' := ?_) #[true, false, false, false, false, false, false, false, false, false, false, false, false, false, false, false, false, false, false, false, false, false, false] rfl rfl (any_of HT_.out (by kernel_rfl)) (fun _ _ _ h => h) (Or.inl ⟨by rfl, ?_⟩) ?_ ?_
                                              rotate_left
                                              · intro w'
                                                go_simp
                                                with_reducible rfl
                                              rotate_left
                                              · simp only [Act.put, List.setIfInBounds_toArray, List.set_cons_zero, List.set_cons_succ, i64_w, i32_w]
                                                rfl
                                              refine pure_ (i := 1) (N := some 101) (v := ?_) (a' := ?_) #[true, true, false, false, false, false, false, false, false, false, false, false, false, false, false, false, false, false, false, false, false, false, false] rfl rfl (any_of HT_.out (by kernel_rfl)) (fun _ _ _ h => h) (Or.inl ⟨by rfl, ?_⟩) ?_ ?_
                                              rotate_left
                                              · intro w'
                                                go_simp
                                                with_reducible rfl
                                              rotate_left
                                              · simp only [Act.put, List.setIfInBounds_toArray, List.set_cons_zero, List.set_cons_succ, i64_w, i32_w]
                                                rfl
                                              refine pure_ (i := 2) (N := some 102) (v := ?_) (a' := ?_) #[true, true, true, false, false, false, false, false, false, false, false, false, false, false, false, false, false, false, false, false, false, false, false] rfl rfl (any_of HT_.out (by kernel_rfl)) (fun _ _ _ h => h) (Or.inl ⟨by rfl, ?_⟩) ?_ ?_
                                              rotate_left
                                              · intro w'
                                                go_simp
                                                with_reducible rfl
                                              rotate_left
                                              · simp only [Act.put, List.setIfInBounds_toArray, List.set_cons_zero, List.set_cons_succ, i64_w, i32_w]
                                                rfl
                                              refine pure_ (i := 3) (N := some 103) (v := ?_) (a' := ?_) #[true, true, true, true, false, false, false, false, false, false, false, false, false, false, false, false, false, false, false, false, false, false, false] rfl rfl (any_of HT_.out (by kernel_rfl)) (fun _ _ _ h => h) (Or.inl ⟨by rfl, ?_⟩) ?_ ?_
                                              rotate_left
                                              · intro w'
                                                go_simp
                                                with_reducible rfl
                                              rotate_left
                                              · simp only [Act.put, List.setIfInBounds_toArray, List.set_cons_zero, List.set_cons_succ, i64_w, i32_w]
                                                rfl
                                              refine pure_ (i := 4) (N := some 104) (v := ?_) (a' := ?_) #[true, true, true, true, true, false, false, false, false, false, false, false, false, false, false, false, false, false, false, false, false, false, false] rfl rfl (any_of HT_.out (by kernel_rfl)) (fun _ _ _ h => h) (Or.inl ⟨by rfl, ?_⟩) ?_ ?_
                                              rotate_left
                                              · intro w'
                                                go_simp
                                                with_reducible rfl
                                              rotate_left
                                              · simp only [Act.put, List.setIfInBounds_toArray, List.set_cons_zero, List.set_cons_succ, i64_w, i32_w]
                                                rfl
                                              refine pure_ (i := 5) (N := some 105) (v := ?_) (a' := ?_) #[true, true, true, true, true, true, false, false, false, false, false, false, false, false, false, false, false, false, false, false, false, false, false] rfl rfl (any_of HT_.out (by kernel_rfl)) (fun _ _ _ h => h) (Or.inl ⟨by rfl, ?_⟩) ?_ ?_
                                              rotate_left
                                              · intro w'
                                                go_simp
                                                with_reducible rfl
                                              rotate_left
                                              · simp only [Act.put, List.setIfInBounds_toArray, List.set_cons_zero, List.set_cons_succ, i64_w, i32_w]
                                                rfl
                                              refine pure_ (i := 6) (N := some 106) (v := ?_) (a' := ?_) #[true, true, true, true, true, true, true, false, false, false, false, false, false, false, false, false, false, false, false, false, false, false, false] rfl rfl (any_of HT_.out (by kernel_rfl)) (fun _ _ _ h => h) (Or.inl ⟨by rfl, ?_⟩) ?_ ?_
                                              rotate_left
                                              · intro w'
                                                go_simp
                                                with_reducible rfl
                                              rotate_left
                                              · simp only [Act.put, List.setIfInBounds_toArray, List.set_cons_zero, List.set_cons_succ, i64_w, i32_w]
                                                rfl
                                              refine pure_ (i := 7) (N := some 107) (v := ?_) (a' := ?_) #[true, true, true, true, true, true, true, true, false, false, false, false, false, false, false, false, false, false, false, false, false, false, false] rfl rfl (any_of HT_.out (by kernel_rfl)) (fun _ _ _ h => h) (Or.inl ⟨by rfl, ?_⟩) ?_ ?_
                                              rotate_left
                                              · intro w'
                                                go_simp
                                                with_reducible rfl
                                              rotate_left
                                              · simp only [Act.put, List.setIfInBounds_toArray, List.set_cons_zero, List.set_cons_succ, i64_w, i32_w]
                                                rfl
                                              refine pure_ (i := 8) (N := some 108) (v := undef) (a' := ?_) #[true, true, true, true, true, true, true, true, true, false, false, false, false, false, false, false, false, false, false, false, false, false, false] rfl rfl (any_of HT_.out (by kernel_rfl)) (fun _ _ _ h => h) (Or.inr ⟨by rfl, rfl⟩) ?_ ?_
                                              rotate_left
                                              · simp only [Act.put, List.setIfInBounds_toArray, List.set_cons_zero, List.set_cons_succ, i64_w, i32_w]
                                                rfl
                                              refine pure_ (i := 9) (N := some 109) (v := undef) (a' := ?_) #[true, true, true, true, true, true, true, true, true, true, false, false, false, false, false, false, false, false, false, false, false, false, false] rfl rfl (any_of HT_.out (by kernel_rfl)) (fun _ _ _ h => h) (Or.inr ⟨by rfl, rfl⟩) ?_ ?_
                                              rotate_left
                                              · simp only [Act.put, List.setIfInBounds_toArray, List.set_cons_zero, List.set_cons_succ, i64_w, i32_w]
                                                rfl
                                              refine pure_ (i := 10) (N := some 110) (v := undef) (a' := ?_) #[true, true, true, true, true, true, true, true, true, true, true, false, false, false, false, false, false, false, false, false, false, false, false] rfl rfl (any_of HT_.out (by kernel_rfl)) (fun _ _ _ h => h) (Or.inr ⟨by rfl, rfl⟩) ?_ ?_
                                              rotate_left
                                              · simp only [Act.put, List.setIfInBounds_toArray, List.set_cons_zero, List.set_cons_succ, i64_w, i32_w]
                                                rfl
                                              refine pure_ (i := 11) (N := some 111) (v := undef) (a' := ?_) #[true, true, true, true, true, true, true, true, true, true, true, true, false, false, false, false, false, false, false, false, false, false, false] rfl rfl (any_of HT_.out (by kernel_rfl)) (fun _ _ _ h => h) (Or.inr ⟨by rfl, rfl⟩) ?_ ?_
                                              rotate_left
                                              · simp only [Act.put, List.setIfInBounds_toArray, List.set_cons_zero, List.set_cons_succ, i64_w, i32_w]
                                                rfl
                                              refine pure_ (i := 12) (N := some 112) (v := undef) (a' := ?_) #[true, true, true, true, true, true, true, true, true, true, true, true, true, false, false, false, false, false, false, false, false, false, false] rfl rfl (any_of HT_.out (by kernel_rfl)) (fun _ _ _ h => h) (Or.inr ⟨by rfl, rfl⟩) ?_ ?_
                                              rotate_left
                                              · simp only [Act.put, List.setIfInBounds_toArray, List.set_cons_zero, List.set_cons_succ, i64_w, i32_w]
                                                rfl
                                              refine pure_ (i := 13) (N := some 113) (v := undef) (a' := ?_) #[true, true, true, true, true, true, true, true, true, true, true, true, true, true, false, false, false, false, false, false, false, false, false] rfl rfl (any_of HT_.out (by kernel_rfl)) (fun _ _ _ h => h) (Or.inr ⟨by rfl, rfl⟩) ?_ ?_
                                              rotate_left
                                              · simp only [Act.put, List.setIfInBounds_toArray, List.set_cons_zero, List.set_cons_succ, i64_w, i32_w]
                                                rfl
                                              refine pure_ (i := 14) (N := some 114) (v := undef) (a' := ?_) #[true, true, true, true, true, true, true, true, true, true, true, true, true, true, true, false, false, false, false, false, false, false, false] rfl rfl (any_of HT_.out (by kernel_rfl)) (fun _ _ _ h => h) (Or.inr ⟨by rfl, rfl⟩) ?_ ?_
                                              rotate_left
                                              · simp only [Act.put, List.setIfInBounds_toArray, List.set_cons_zero, List.set_cons_succ, i64_w, i32_w]
                                                rfl
                                              refine pure_ (i := 15) (N := some 115) (v := undef) (a' := ?_) #[true, true, true, true, true, true, true, true, true, true, true, true, true, true, true, true, false, false, false, false, false, false, false] rfl rfl (any_of HT_.out (by kernel_rfl)) (fun _ _ _ h => h) (Or.inr ⟨by rfl, rfl⟩) ?_ ?_
                                              rotate_left
                                              · simp only [Act.put, List.setIfInBounds_toArray, List.set_cons_zero, List.set_cons_succ, i64_w, i32_w]
                                                rfl
                                              refine pure_ (i := 16) (N := some 116) (v := undef) (a' := ?_) #[true, true, true, true, true, true, true, true, true, true, true, true, true, true, true, true, true, false, false, false, false, false, false] rfl rfl (any_of HT_.out (by kernel_rfl)) (fun _ _ _ h => h) (Or.inr ⟨by rfl, rfl⟩) ?_ ?_
                                              rotate_left
                                              · simp only [Act.put, List.setIfInBounds_toArray, List.set_cons_zero, List.set_cons_succ, i64_w, i32_w]
                                                rfl
                                              refine pure_ (i := 17) (N := some 117) (v := undef) (a' := ?_) #[true, true, true, true, true, true, true, true, true, true, true, true, true, true, true, true, true, true, false, false, false, false, false] rfl rfl (any_of HT_.out (by kernel_rfl)) (fun _ _ _ h => h) (Or.inr ⟨by rfl, rfl⟩) ?_ ?_
                                              rotate_left
                                              · simp only [Act.put, List.setIfInBounds_toArray, List.set_cons_zero, List.set_cons_succ, i64_w, i32_w]
                                                rfl
                                              refine pure_ (i := 18) (N := some 118) (v := undef) (a' := ?_) #[true, true, true, true, true, true, true, true, true, true, true, true, true, true, true, true, true, true, true, false, false, false, false] rfl rfl (any_of HT_.out (by kernel_rfl)) (fun _ _ _ h => h) (Or.inr ⟨by rfl, rfl⟩) ?_ ?_
                                              rotate_left
                                              · simp only [Act.put, List.setIfInBounds_toArray, List.set_cons_zero, List.set_cons_succ, i64_w, i32_w]
                                                rfl
                                              refine pure_ (i := 19) (N := some 119) (v := undef) (a' := ?_) #[true, true, true, true, true, true, true, true, true, true, true, true, true, true, true, true, true, true, true, true, false, false, false] rfl rfl (any_of HT_.out (by kernel_rfl)) (fun _ _ _ h => h) (Or.inr ⟨by rfl, rfl⟩) ?_ ?_
                                              rotate_left
                                              · simp only [Act.put, List.setIfInBounds_toArray, List.set_cons_zero, List.set_cons_succ, i64_w, i32_w]
                                                rfl
                                              refine pure_ (i := 20) (N := some 120) (v := undef) (a' := ?_) #[true, true, true, true, true, true, true, true, true, true, true, true, true, true, true, true, true, true, true, true, true, false, false] rfl rfl (any_of HT_.out (by kernel_rfl)) (fun _ _ _ h => h) (Or.inr ⟨by rfl, rfl⟩) ?_ ?_
                                              rotate_left
                                              · simp only [Act.put, List.setIfInBounds_toArray, List.set_cons_zero, List.set_cons_succ, i64_w, i32_w]
                                                rfl
                                              refine pure_ (i := 21) (N := some 121) (v := ?_) (a' := ?_) #[true, true, true, true, true, true, true, true, true, true, true, true, true, true, true, true, true, true, true, true, true, true, false] rfl rfl (any_of HT_.out (by kernel_rfl)) (fun _ _ _ h => h) (Or.inl ⟨by rfl, ?_⟩) ?_ ?_
                                              rotate_left
                                              · intro w'
                                                go_simp
                                                with_reducible rfl
                                              rotate_left
                                              · simp only [Act.put, List.setIfInBounds_toArray, List.set_cons_zero, List.set_cons_succ, i64_w, i32_w]
                                                rfl
                                              refine pure_ (i := 22) (N := some 10) (v := ?_) (a' := ?_) #[true, true, true, true, true, true, true, true, true, true, true, true, true, true, true, true, true, true, true, true, true, true, true] rfl rfl (any_of HT_.out (by kernel_rfl)) (fun _ _ _ h => h) (Or.inl ⟨by rfl, ?_⟩) ?_ ?_
                                              rotate_left
                                              · intro w'
                                                go_simp
                                                with_reducible rfl
                                              rotate_left
                                              · simp only [Act.put, List.setIfInBounds_toArray, List.set_cons_zero, List.set_cons_succ, i64_w, i32_w]
                                                rfl
                                              refine done_ (done_of HT_.out (by kernel_rfl)) ?_
                                              try go_wp2
                                              go_roundg k4
                                              case measure => have := HJ3.out; have := HK2.out; have := HJ20.out; have := HK4.out; omega
                                              case rel => exact ⟨(false), (wrap64 (x86_4 + 1)), (by first | rfl | (simp; done) | (simp [*]; done)), (by first | rfl | (simp; done) | (simp [*]; done)), H', ⟨by have := HJ3.out; have := HK2.out; have := HJ20.out; have := HK4.out; omega⟩, ⟨by (with_reducible repeat (first | apply Kd.R_alloc | apply Kd.R_drewN | apply Kd.R_drew)); exact HO_9.out⟩, ⟨by repeat (first | (with_reducible first | exact HB.out | apply below_alloc | apply pw_below_drewN | apply below_drew1) | exact HB.out)⟩⟩
                                          · replace c61 := Bool.eq_false_iff.mpr c61
                                            subst c61
                                            have H1 : (laws_FnAggregatedAll.l1 k4 l0 t137 t138 y150 false (l0.length : Int) (wrap64 (x86_4 + 1))) = some r := by rw [if_neg (show ¬ (false = true) by decide)] at H; exact H
                                            clear H
                                            have H := H1
                                            clear H1
                                            have H' := Aside0.mk H
                                            clear H
                                            have p167 : 0 ≤ (x86_4 : Int) := of_decide_eq_true (by first | (with_reducible assumption) | assumption)
                                            have q167 : x86_4 < (l0.length : Int) := of_decide_eq_true (by first | (with_reducible assumption) | assumption)
                                            obtain ⟨ad167, e167, hx167_0⟩ := Kd.at_string HR0.out x86_4 p167 q167
                                            obtain rfl : ad143 = ad167 := (by injection e167)
                                            replace hx167_0 := (HB.out.cell (World.block_lt_of_cell? w _ hx167_0)).trans hx167_0
                                            replace p167 := eq_true p167
                                            replace q167 := eq_true q167
                                            try go_wp2_with (first | (go_at_call 14; (with_reducible refine (impl_BeginsRunes.calls k4 (rdOf ByteArray.empty l0 x86_4) t137 false true _ A59.out).mono ?_); rintro e w76 ⟨rfl, hb⟩; have n0_ := Aside0.mk (Kd.R_below (by (with_reducible repeat (first | apply Kd.R_alloc | apply Kd.R_drewN | apply Kd.R_drew)); exact HO_9.out) hb); have n1_ := Aside0.mk (below_step (by repeat (first | (with_reducible first | exact HB.out | apply below_alloc | apply pw_below_drewN | apply below_drew1) | exact HB.out)) hb); clear HO_9; clear HB; have HO_9 := n0_; have HB := n1_; clear n0_ n1_; (try clear hb); (try clear hb2); (try clear hk); (try clear hi)))
                                            have n0_ := Aside0.mk (Kd.R_drew HO_9.out)
                                            have n1_ := Aside0.mk (below_drew1 HB.out)
                                            clear HO_9
                                            clear HB
                                            have HO_9 := n0_
                                            have HB := n1_
                                            clear n0_ n1_
                                            refine start_ (n := 23) (S := fun w' => True) (ds := []) #[false, false, false, false, false, false, false, false, false, false, false, false, false, false, false, false, false, false, false, false, false, false, false] (by kernel_rfl) rfl rfl trivial (fun hHeld => ?_); refine with_tabW laws_FnAggregatedAll.tab21 laws_FnAggregatedAll.bits21 (fun HT_ HW_ => ?_)
                                            generalize w76.drew = w77 at HO_9 HB hHeld ⊢
                                            refine pure_ (i := 0) (N := some 100) (v := ?_) (a' := ?_) #[true, false, false, false, false, false, false, false, false, false, false, false, false, false, false, false, false, false, false, false, false, false, false] rfl rfl (any_of HT_.out (by kernel_rfl)) (fun _ _ _ h => h) (Or.inl ⟨by rfl, ?_⟩) ?_ ?_
                                            rotate_left
                                            · intro w'
                                              go_simp
                                              with_reducible rfl
                                            rotate_left
                                            · simp only [Act.put, List.setIfInBounds_toArray, List.set_cons_zero, List.set_cons_succ, i64_w, i32_w]
                                              rfl
                                            refine pure_ (i := 1) (N := some 101) (v := ?_) (a' := ?_) #[true, true, false, false, false, false, false, false, false, false, false, false, false, false, false, false, false, false, false, false, false, false, false] rfl rfl (any_of HT_.out (by kernel_rfl)) (fun _ _ _ h => h) (Or.inl ⟨by rfl, ?_⟩) ?_ ?_
                                            rotate_left
                                            · intro w'
                                              go_simp
                                              with_reducible rfl
                                            rotate_left
                                            · simp only [Act.put, List.setIfInBounds_toArray, List.set_cons_zero, List.set_cons_succ, i64_w, i32_w]
                                              rfl
                                            refine pure_ (i := 2) (N := some 102) (v := undef) (a' := ?_) #[true, true, true, false, false, false, false, false, false, false, false, false, false, false, false, false, false, false, false, false, false, false, false] rfl rfl (any_of HT_.out (by kernel_rfl)) (fun _ _ _ h => h) (Or.inr ⟨by rfl, rfl⟩) ?_ ?_
                                            rotate_left
                                            · simp only [Act.put, List.setIfInBounds_toArray, List.set_cons_zero, List.set_cons_succ, i64_w, i32_w]
                                              rfl
                                            refine pure_ (i := 3) (N := some 103) (v := undef) (a' := ?_) #[true, true, true, true, false, false, false, false, false, false, false, false, false, false, false, false, false, false, false, false, false, false, false] rfl rfl (any_of HT_.out (by kernel_rfl)) (fun _ _ _ h => h) (Or.inr ⟨by rfl, rfl⟩) ?_ ?_
                                            rotate_left
                                            · simp only [Act.put, List.setIfInBounds_toArray, List.set_cons_zero, List.set_cons_succ, i64_w, i32_w]
                                              rfl
                                            refine pure_ (i := 4) (N := some 104) (v := undef) (a' := ?_) #[true, true, true, true, true, false, false, false, false, false, false, false, false, false, false, false, false, false, false, false, false, false, false] rfl rfl (any_of HT_.out (by kernel_rfl)) (fun _ _ _ h => h) (Or.inr ⟨by rfl, rfl⟩) ?_ ?_
                                            rotate_left
                                            · simp only [Act.put, List.setIfInBounds_toArray, List.set_cons_zero, List.set_cons_succ, i64_w, i32_w]
                                              rfl
                                            refine pure_ (i := 5) (N := some 105) (v := undef) (a' := ?_) #[true, true, true, true, true, true, false, false, false, false, false, false, false, false, false, false, false, false, false, false, false, false, false] rfl rfl (any_of HT_.out (by kernel_rfl)) (fun _ _ _ h => h) (Or.inr ⟨by rfl, rfl⟩) ?_ ?_
                                            rotate_left
                                            · simp only [Act.put, List.setIfInBounds_toArray, List.set_cons_zero, List.set_cons_succ, i64_w, i32_w]
                                              rfl
                                            refine pure_ (i := 6) (N := some 106) (v := ?_) (a' := ?_) #[true, true, true, true, true, true, true, false, false, false, false, false, false, false, false, false, false, false, false, false, false, false, false] rfl rfl (any_of HT_.out (by kernel_rfl)) (fun _ _ _ h => h) (Or.inl ⟨by rfl, ?_⟩) ?_ ?_
                                            rotate_left
                                            · intro w'
                                              go_simp
                                              with_reducible rfl
                                            rotate_left
                                            · simp only [Act.put, List.setIfInBounds_toArray, List.set_cons_zero, List.set_cons_succ, i64_w, i32_w]
                                              rfl
                                            refine pure_ (i := 7) (N := some 107) (v := ?_) (a' := ?_) #[true, true, true, true, true, true, true, true, false, false, false, false, false, false, false, false, false, false, false, false, false, false, false] rfl rfl (any_of HT_.out (by kernel_rfl)) (fun _ _ _ h => h) (Or.inl ⟨by rfl, ?_⟩) ?_ ?_
                                            rotate_left
                                            · intro w'
                                              go_simp
                                              with_reducible rfl
                                            rotate_left
                                            · simp only [Act.put, List.setIfInBounds_toArray, List.set_cons_zero, List.set_cons_succ, i64_w, i32_w]
                                              rfl
                                            refine pure_ (i := 8) (N := some 108) (v := undef) (a' := ?_) #[true, true, true, true, true, true, true, true, true, false, false, false, false, false, false, false, false, false, false, false, false, false, false] rfl rfl (any_of HT_.out (by kernel_rfl)) (fun _ _ _ h => h) (Or.inr ⟨by rfl, rfl⟩) ?_ ?_
                                            rotate_left
                                            · simp only [Act.put, List.setIfInBounds_toArray, List.set_cons_zero, List.set_cons_succ, i64_w, i32_w]
                                              rfl
                                            refine pure_ (i := 9) (N := some 109) (v := undef) (a' := ?_) #[true, true, true, true, true, true, true, true, true, true, false, false, false, false, false, false, false, false, false, false, false, false, false] rfl rfl (any_of HT_.out (by kernel_rfl)) (fun _ _ _ h => h) (Or.inr ⟨by rfl, rfl⟩) ?_ ?_
                                            rotate_left
                                            · simp only [Act.put, List.setIfInBounds_toArray, List.set_cons_zero, List.set_cons_succ, i64_w, i32_w]
                                              rfl
                                            refine pure_ (i := 10) (N := some 110) (v := undef) (a' := ?_) #[true, true, true, true, true, true, true, true, true, true, true, false, false, false, false, false, false, false, false, false, false, false, false] rfl rfl (any_of HT_.out (by kernel_rfl)) (fun _ _ _ h => h) (Or.inr ⟨by rfl, rfl⟩) ?_ ?_
                                            rotate_left
                                            · simp only [Act.put, List.setIfInBounds_toArray, List.set_cons_zero, List.set_cons_succ, i64_w, i32_w]
                                              rfl
                                            refine pure_ (i := 11) (N := some 111) (v := undef) (a' := ?_) #[true, true, true, true, true, true, true, true, true, true, true, true, false, false, false, false, false, false, false, false, false, false, false] rfl rfl (any_of HT_.out (by kernel_rfl)) (fun _ _ _ h => h) (Or.inr ⟨by rfl, rfl⟩) ?_ ?_
                                            rotate_left
                                            · simp only [Act.put, List.setIfInBounds_toArray, List.set_cons_zero, List.set_cons_succ, i64_w, i32_w]
                                              rfl
                                            refine pure_ (i := 12) (N := some 112) (v := undef) (a' := ?_) #[true, true, true, true, true, true, true, true, true, true, true, true, true, false, false, false, false, false, false, false, false, false, false] rfl rfl (any_of HT_.out (by kernel_rfl)) (fun _ _ _ h => h) (Or.inr ⟨by rfl, rfl⟩) ?_ ?_
                                            rotate_left
                                            · simp only [Act.put, List.setIfInBounds_toArray, List.set_cons_zero, List.set_cons_succ, i64_w, i32_w]
                                              rfl
                                            refine pure_ (i := 13) (N := some 113) (v := undef) (a' := ?_) #[true, true, true, true, true, true, true, true, true, true, true, true, true, true, false, false, false, false, false, false, false, false, false] rfl rfl (any_of HT_.out (by kernel_rfl)) (fun _ _ _ h => h) (Or.inr ⟨by rfl, rfl⟩) ?_ ?_
                                            rotate_left
                                            · simp only [Act.put, List.setIfInBounds_toArray, List.set_cons_zero, List.set_cons_succ, i64_w, i32_w]
                                              rfl
                                            refine pure_ (i := 14) (N := some 114) (v := undef) (a' := ?_) #[true, true, true, true, true, true, true, true, true, true, true, true, true, true, true, false, false, false, false, false, false, false, false] rfl rfl (any_of HT_.out (by kernel_rfl)) (fun _ _ _ h => h) (Or.inr ⟨by rfl, rfl⟩) ?_ ?_
                                            rotate_left
                                            · simp only [Act.put, List.setIfInBounds_toArray, List.set_cons_zero, List.set_cons_succ, i64_w, i32_w]
                                              rfl
                                            refine pure_ (i := 15) (N := some 115) (v := undef) (a' := ?_) #[true, true, true, true, true, true, true, true, true, true, true, true, true, true, true, true, false, false, false, false, false, false, false] rfl rfl (any_of HT_.out (by kernel_rfl)) (fun _ _ _ h => h) (Or.inr ⟨by rfl, rfl⟩) ?_ ?_
                                            rotate_left
                                            · simp only [Act.put, List.setIfInBounds_toArray, List.set_cons_zero, List.set_cons_succ, i64_w, i32_w]
                                              rfl
                                            refine pure_ (i := 16) (N := some 116) (v := undef) (a' := ?_) #[true, true, true, true, true, true, true, true, true, true, true, true, true, true, true, true, true, false, false, false, false, false, false] rfl rfl (any_of HT_.out (by kernel_rfl)) (fun _ _ _ h => h) (Or.inr ⟨by rfl, rfl⟩) ?_ ?_
                                            rotate_left
                                            · simp only [Act.put, List.setIfInBounds_toArray, List.set_cons_zero, List.set_cons_succ, i64_w, i32_w]
                                              rfl
                                            refine pure_ (i := 17) (N := some 117) (v := undef) (a' := ?_) #[true, true, true, true, true, true, true, true, true, true, true, true, true, true, true, true, true, true, false, false, false, false, false] rfl rfl (any_of HT_.out (by kernel_rfl)) (fun _ _ _ h => h) (Or.inr ⟨by rfl, rfl⟩) ?_ ?_
                                            rotate_left
                                            · simp only [Act.put, List.setIfInBounds_toArray, List.set_cons_zero, List.set_cons_succ, i64_w, i32_w]
                                              rfl
                                            refine pure_ (i := 18) (N := some 118) (v := undef) (a' := ?_) #[true, true, true, true, true, true, true, true, true, true, true, true, true, true, true, true, true, true, true, false, false, false, false] rfl rfl (any_of HT_.out (by kernel_rfl)) (fun _ _ _ h => h) (Or.inr ⟨by rfl, rfl⟩) ?_ ?_
                                            rotate_left
                                            · simp only [Act.put, List.setIfInBounds_toArray, List.set_cons_zero, List.set_cons_succ, i64_w, i32_w]
                                              rfl
                                            refine pure_ (i := 19) (N := some 119) (v := undef) (a' := ?_) #[true, true, true, true, true, true, true, true, true, true, true, true, true, true, true, true, true, true, true, true, false, false, false] rfl rfl (any_of HT_.out (by kernel_rfl)) (fun _ _ _ h => h) (Or.inr ⟨by rfl, rfl⟩) ?_ ?_
                                            rotate_left
                                            · simp only [Act.put, List.setIfInBounds_toArray, List.set_cons_zero, List.set_cons_succ, i64_w, i32_w]
                                              rfl
                                            refine pure_ (i := 20) (N := some 120) (v := undef) (a' := ?_) #[true, true, true, true, true, true, true, true, true, true, true, true, true, true, true, true, true, true, true, true, true, false, false] rfl rfl (any_of HT_.out (by kernel_rfl)) (fun _ _ _ h => h) (Or.inr ⟨by rfl, rfl⟩) ?_ ?_
                                            rotate_left
                                            · simp only [Act.put, List.setIfInBounds_toArray, List.set_cons_zero, List.set_cons_succ, i64_w, i32_w]
                                              rfl
                                            refine pure_ (i := 21) (N := some 121) (v := ?_) (a' := ?_) #[true, true, true, true, true, true, true, true, true, true, true, true, true, true, true, true, true, true, true, true, true, true, false] rfl rfl (any_of HT_.out (by kernel_rfl)) (fun _ _ _ h => h) (Or.inl ⟨by rfl, ?_⟩) ?_ ?_
                                            rotate_left
                                            · intro w'
                                              go_simp
                                              with_reducible rfl
                                            rotate_left
                                            · simp only [Act.put, List.setIfInBounds_toArray, List.set_cons_zero, List.set_cons_succ, i64_w, i32_w]
                                              rfl
                                            refine pure_ (i := 22) (N := some 10) (v := ?_) (a' := ?_) #[true, true, true, true, true, true, true, true, true, true, true, true, true, true, true, true, true, true, true, true, true, true, true] rfl rfl (any_of HT_.out (by kernel_rfl)) (fun _ _ _ h => h) (Or.inl ⟨by rfl, ?_⟩) ?_ ?_
                                            rotate_left
                                            · intro w'
                                              go_simp
                                              with_reducible rfl
                                            rotate_left
                                            · simp only [Act.put, List.setIfInBounds_toArray, List.set_cons_zero, List.set_cons_succ, i64_w, i32_w]
                                              rfl
                                            refine done_ (done_of HT_.out (by kernel_rfl)) ?_
                                            try go_wp2
                                            go_roundg k4
                                            case measure => have := HJ3.out; have := HK2.out; have := HJ20.out; have := HK4.out; omega
                                            case rel => exact ⟨(false), (wrap64 (x86_4 + 1)), (by first | rfl | (simp; done) | (simp [*]; done)), (by first | rfl | (simp; done) | (simp [*]; done)), H', ⟨by have := HJ3.out; have := HK2.out; have := HJ20.out; have := HK4.out; omega⟩, ⟨by (with_reducible repeat (first | apply Kd.R_alloc | apply Kd.R_drewN | apply Kd.R_drew)); exact HO_9.out⟩, ⟨by repeat (first | (with_reducible first | exact HB.out | apply below_alloc | apply pw_below_drewN | apply below_drew1) | exact HB.out)⟩⟩
                                        · replace c60 := Bool.eq_false_iff.mpr c60
                                          subst c60
                                          have H1 : (some false) = some r := by rw [if_neg (show ¬ (false = true) by decide)] at H; exact H
                                          clear H
                                          have H := H1
                                          clear H1
                                          obtain rfl := Option.some.inj H
                                          have p167 : 0 ≤ (x86_4 : Int) := of_decide_eq_true (by first | (with_reducible assumption) | assumption)
                                          have q167 : x86_4 < (l0.length : Int) := of_decide_eq_true (by first | (with_reducible assumption) | assumption)
                                          obtain ⟨ad167, e167, hx167_0⟩ := Kd.at_string HR0.out x86_4 p167 q167
                                          obtain rfl : ad143 = ad167 := (by injection e167)
                                          replace hx167_0 := (HB.out.cell (World.block_lt_of_cell? w _ hx167_0)).trans hx167_0
                                          replace p167 := eq_true p167
                                          replace q167 := eq_true q167
                                          go_wp2_with (first | (go_at_call 14; (with_reducible refine (impl_BeginsRunes.calls k4 (rdOf ByteArray.empty l0 x86_4) t137 false false _ A59.out).mono ?_); rintro e w78 ⟨rfl, hb⟩; have n0_ := Aside0.mk (Kd.R_below (by (with_reducible repeat (first | apply Kd.R_alloc | apply Kd.R_drewN | apply Kd.R_drew)); exact HO_9.out) hb); have n1_ := Aside0.mk (below_step (by repeat (first | (with_reducible first | exact HB.out | apply below_alloc | apply pw_below_drewN | apply below_drew1) | exact HB.out)) hb); clear HO_9; clear HB; have HO_9 := n0_; have HB := n1_; clear n0_ n1_; (try clear hb); (try clear hb2); (try clear hk); (try clear hi)))
                                          go_ret
                                          exact ⟨by first | rfl | (simp [errW_none, errW_some] <;> rfl) | (simp [*, errW_none, errW_some] <;> rfl), by repeat (first | (with_reducible first | exact HB.out | apply below_alloc | apply pw_below_drewN | apply below_drew1) | exact HB.out)⟩
                                      · rw [if_neg c58] at H
                                        exact absurd H (by simp)
                                    · rw [if_neg c57] at H
                                      exact absurd H (by simp)
                                · rw [if_neg c39] at H
                                  have c39b0 : decide (x86_4 < (l0.length : Int)) = false := decide_eq_false c39
                                  clear c39
                                  obtain ⟨y156, hy156⟩ : ∃ y_ : List ByteArray, y_ = (([(⟨#[97, 98]⟩ : ByteArray), (⟨#[97, 99]⟩ : ByteArray)] : List ByteArray)) := ⟨_, rfl⟩
                                  replace H : ((impl_Aggregated.f y156).bind fun bt159 => (if x10_4 = true then (some false) else (if bt159.1.toList = ([97] : List UInt8) then (some (bt159.2 == 1)) else (some false)))) = some r := by first | (rw [hy156]; with_reducible exact H) | (have H2_ := (Option.bind_some _ _).symm.trans H; rw [hy156]; with_reducible exact H2_) | (have H2_ := (Option.bind_some _ _).symm.trans H; with_reducible exact H2_) | with_reducible exact H | (rw [hy156]; exact H) | exact H
                                  have Ny156 := Aside0.mk hy156
                                  clear hy156
                                  replace H := Option.bind_eq_some_iff.mp H
                                  obtain ⟨⟨t159, t160⟩, A790, H⟩ := H
                                  replace H : (if x10_4 = true then (some false) else (if t159.toList = ([97] : List UInt8) then (some (t160 == 1)) else (some false))) = some r := H
                                  have A79 := Aside0.mk A790
                                  clear A790
                                  by_cases c80 : x10_4 = true
                                  · subst c80
                                    have H1 : (some false) = some r := by rw [if_pos rfl] at H; exact H
                                    clear H
                                    have H := H1
                                    clear H1
                                    obtain rfl := Option.some.inj H
                                    go_wp2_with (first | ((with_reducible refine gate_dst (N := 124) rfl ?_); (try (refine gate_guard (by rfl) ?_; dsimp only)); refine Kd.R_lit Kd.string _ 9 ?hg (N := 124) ?hd (xs := ([(⟨#[97, 98]⟩ : ByteArray), (⟨#[97, 99]⟩ : ByteArray)] : List ByteArray)) (inner := [.string (⟨#[97, 98]⟩ : ByteArray), .string (⟨#[97, 99]⟩ : ByteArray)]) (ok := fun _ => True) (okp := fun _ => True) ?hr ?hp (fun _ hk => hk) trivial (Below.refl _ _) (Nat.le_refl _) (by simp) ?_; (case hd => rfl); (case hg => rfl); (case hr => first | (go_simp; done) | (go_simp; rfl)); (case hp => exact (Reps.one (show Kd.M Kd.string _ _ _ (⟨#[97, 98]⟩ : ByteArray) [.string (⟨#[97, 98]⟩ : ByteArray)] from rfl) (Reps.one (show Kd.M Kd.string _ _ _ (⟨#[97, 99]⟩ : ByteArray) [.string (⟨#[97, 99]⟩ : ByteArray)] from rfl) (Reps.none _ _)))); intro v157 w81 ho82 hb hg_ hnew_; clear hg_ hnew_; (first | rw [← Ny156.out] at ho82 | (simp only [Int.reduceToNat] at ho82; rw [← Ny156.out] at ho82)); have n0_ := Aside0.mk (Kd.R_below (by (with_reducible repeat (first | apply Kd.R_alloc | apply Kd.R_drewN | apply Kd.R_drew)); exact HO_9.out) hb); have n1_ := Aside0.mk (Kd.R_lower ho82 (below_size (by repeat (first | (with_reducible first | exact HB.out | apply below_alloc | apply pw_below_drewN | apply below_drew1) | exact HB.out)))); have n2_ := Aside0.mk (below_step (by repeat (first | (with_reducible first | exact HB.out | apply below_alloc | apply pw_below_drewN | apply below_drew1) | exact HB.out)) hb); clear HO_9; clear HB; have HO_9 := n0_; have HO158 := n1_; have HB := n2_; clear n0_ n1_ n2_; clear hb ho82; obtain ⟨Ao83, co83, eo83⟩ := Kd.R_slice HO158.out; subst eo83) | ((with_reducible refine gate_callee (f := 13) rfl ?_); refine goesL_ (some 125) rfl rfl Tryd.func13 (by kernel_rfl) rfl #[.slice Ao83 y156.length co83] rfl (by (try simp only [List.map_toArray, List.map_cons, List.map_nil]); first | done | rfl | (simp only [List.length_drop, List.length_take]; rfl) | (simp only [Int.toNat_natCast, ByteArray.extract_zero_size]; rfl)) ?_; (with_reducible refine (impl_Aggregated.calls _ _ y156 t159 t160 _ ?side1 ?side2 A79.out).mono ?_); (case side1 => repeat (first | exact (Kd.R_reads' HO158.out).2.2 | (with_reducible refine Kd.C_alloc ?_ _) | (with_reducible refine Kd.C_drewN ?_ _) | (with_reducible refine Kd.C_drew ?_))); (case side2 => exact (Kd.R_reads' HO158.out).2.1); rintro e w84 ⟨rfl, hb⟩; refine ⟨_, rfl, ?_⟩; have n0_ := Aside0.mk (Kd.R_below (by (with_reducible repeat (first | apply Kd.R_alloc | apply Kd.R_drewN | apply Kd.R_drew)); exact HO_9.out) hb); have n1_ := Aside0.mk (Kd.R_below (by (with_reducible repeat (first | apply Kd.R_alloc | apply Kd.R_drewN | apply Kd.R_drew)); exact HO158.out) hb); have n2_ := Aside0.mk (below_step (by repeat (first | (with_reducible first | exact HB.out | apply below_alloc | apply pw_below_drewN | apply below_drew1) | exact HB.out)) hb); clear HO_9; clear HO158; clear HB; have HO_9 := n0_; have HO158 := n1_; have HB := n2_; clear n0_ n1_ n2_; (try clear hb); (try clear hb2); (try clear hk); (try clear hi)))
                                    go_ret
                                    exact ⟨by first | rfl | (simp [errW_none, errW_some] <;> rfl) | (simp [*, errW_none, errW_some] <;> rfl), by repeat (first | (with_reducible first | exact HB.out | apply below_alloc | apply pw_below_drewN | apply below_drew1) | exact HB.out)⟩
                                  · replace c80 := Bool.eq_false_iff.mpr c80
                                    subst c80
                                    have H1 : (if t159.toList = ([97] : List UInt8) then (some (t160 == 1)) else (some false)) = some r := by rw [if_neg (show ¬ (false = true) by decide)] at H; exact H
                                    clear H
                                    have H := H1
                                    clear H1
                                    by_cases c85 : t159.toList = ([97] : List UInt8)
                                    · rw [if_pos c85] at H
                                      have c85b0 : (t159.toList == ([97] : List UInt8)) = true := beq_iff_eq.mpr c85
                                      have c85b1 : (t159.toList != ([97] : List UInt8)) = false := bne_eq_false_iff_eq.mpr c85
                                      clear c85
                                      obtain rfl := Option.some.inj H
                                      go_wp2_with (first | ((with_reducible refine gate_dst (N := 124) rfl ?_); (try (refine gate_guard (by rfl) ?_; dsimp only)); refine Kd.R_lit Kd.string _ 9 ?hg (N := 124) ?hd (xs := ([(⟨#[97, 98]⟩ : ByteArray), (⟨#[97, 99]⟩ : ByteArray)] : List ByteArray)) (inner := [.string (⟨#[97, 98]⟩ : ByteArray), .string (⟨#[97, 99]⟩ : ByteArray)]) (ok := fun _ => True) (okp := fun _ => True) ?hr ?hp (fun _ hk => hk) trivial (Below.refl _ _) (Nat.le_refl _) (by simp) ?_; (case hd => rfl); (case hg => rfl); (case hr => first | (go_simp; done) | (go_simp; rfl)); (case hp => exact (Reps.one (show Kd.M Kd.string _ _ _ (⟨#[97, 98]⟩ : ByteArray) [.string (⟨#[97, 98]⟩ : ByteArray)] from rfl) (Reps.one (show Kd.M Kd.string _ _ _ (⟨#[97, 99]⟩ : ByteArray) [.string (⟨#[97, 99]⟩ : ByteArray)] from rfl) (Reps.none _ _)))); intro v157 w86 ho87 hb hg_ hnew_; clear hg_ hnew_; (first | rw [← Ny156.out] at ho87 | (simp only [Int.reduceToNat] at ho87; rw [← Ny156.out] at ho87)); have n0_ := Aside0.mk (Kd.R_below (by (with_reducible repeat (first | apply Kd.R_alloc | apply Kd.R_drewN | apply Kd.R_drew)); exact HO_9.out) hb); have n1_ := Aside0.mk (Kd.R_lower ho87 (below_size (by repeat (first | (with_reducible first | exact HB.out | apply below_alloc | apply pw_below_drewN | apply below_drew1) | exact HB.out)))); have n2_ := Aside0.mk (below_step (by repeat (first | (with_reducible first | exact HB.out | apply below_alloc | apply pw_below_drewN | apply below_drew1) | exact HB.out)) hb); clear HO_9; clear HB; have HO_9 := n0_; have HO158 := n1_; have HB := n2_; clear n0_ n1_ n2_; clear hb ho87; obtain ⟨Ao88, co88, eo88⟩ := Kd.R_slice HO158.out; subst eo88) | ((with_reducible refine gate_callee (f := 13) rfl ?_); refine goesL_ (some 125) rfl rfl Tryd.func13 (by kernel_rfl) rfl #[.slice Ao88 y156.length co88] rfl (by (try simp only [List.map_toArray, List.map_cons, List.map_nil]); first | done | rfl | (simp only [List.length_drop, List.length_take]; rfl) | (simp only [Int.toNat_natCast, ByteArray.extract_zero_size]; rfl)) ?_; (with_reducible refine (impl_Aggregated.calls _ _ y156 t159 t160 _ ?side1 ?side2 A79.out).mono ?_); (case side1 => repeat (first | exact (Kd.R_reads' HO158.out).2.2 | (with_reducible refine Kd.C_alloc ?_ _) | (with_reducible refine Kd.C_drewN ?_ _) | (with_reducible refine Kd.C_drew ?_))); (case side2 => exact (Kd.R_reads' HO158.out).2.1); rintro e w89 ⟨rfl, hb⟩; refine ⟨_, rfl, ?_⟩; have n0_ := Aside0.mk (Kd.R_below (by (with_reducible repeat (first | apply Kd.R_alloc | apply Kd.R_drewN | apply Kd.R_drew)); exact HO_9.out) hb); have n1_ := Aside0.mk (Kd.R_below (by (with_reducible repeat (first | apply Kd.R_alloc | apply Kd.R_drewN | apply Kd.R_drew)); exact HO158.out) hb); have n2_ := Aside0.mk (below_step (by repeat (first | (with_reducible first | exact HB.out | apply below_alloc | apply pw_below_drewN | apply below_drew1) | exact HB.out)) hb); clear HO_9; clear HO158; clear HB; have HO_9 := n0_; have HO158 := n1_; have HB := n2_; clear n0_ n1_ n2_; (try clear hb); (try clear hb2); (try clear hk); (try clear hi)))
                                      go_ret
                                      exact ⟨by first | rfl | (simp [errW_none, errW_some] <;> rfl) | (simp [*, errW_none, errW_some] <;> rfl), by repeat (first | (with_reducible first | exact HB.out | apply below_alloc | apply pw_below_drewN | apply below_drew1) | exact HB.out)⟩
                                    · rw [if_neg c85] at H
                                      have c85b0 : (t159.toList == ([97] : List UInt8)) = false := beq_eq_false_iff_ne.mpr c85
                                      have c85b1 : (t159.toList != ([97] : List UInt8)) = true := bne_iff_ne.mpr c85
                                      obtain rfl := Option.some.inj H
                                      go_wp2_with (first | ((with_reducible refine gate_dst (N := 124) rfl ?_); (try (refine gate_guard (by rfl) ?_; dsimp only)); refine Kd.R_lit Kd.string _ 9 ?hg (N := 124) ?hd (xs := ([(⟨#[97, 98]⟩ : ByteArray), (⟨#[97, 99]⟩ : ByteArray)] : List ByteArray)) (inner := [.string (⟨#[97, 98]⟩ : ByteArray), .string (⟨#[97, 99]⟩ : ByteArray)]) (ok := fun _ => True) (okp := fun _ => True) ?hr ?hp (fun _ hk => hk) trivial (Below.refl _ _) (Nat.le_refl _) (by simp) ?_; (case hd => rfl); (case hg => rfl); (case hr => first | (go_simp; done) | (go_simp; rfl)); (case hp => exact (Reps.one (show Kd.M Kd.string _ _ _ (⟨#[97, 98]⟩ : ByteArray) [.string (⟨#[97, 98]⟩ : ByteArray)] from rfl) (Reps.one (show Kd.M Kd.string _ _ _ (⟨#[97, 99]⟩ : ByteArray) [.string (⟨#[97, 99]⟩ : ByteArray)] from rfl) (Reps.none _ _)))); intro v157 w90 ho91 hb hg_ hnew_; clear hg_ hnew_; (first | rw [← Ny156.out] at ho91 | (simp only [Int.reduceToNat] at ho91; rw [← Ny156.out] at ho91)); have n0_ := Aside0.mk (Kd.R_below (by (with_reducible repeat (first | apply Kd.R_alloc | apply Kd.R_drewN | apply Kd.R_drew)); exact HO_9.out) hb); have n1_ := Aside0.mk (Kd.R_lower ho91 (below_size (by repeat (first | (with_reducible first | exact HB.out | apply below_alloc | apply pw_below_drewN | apply below_drew1) | exact HB.out)))); have n2_ := Aside0.mk (below_step (by repeat (first | (with_reducible first | exact HB.out | apply below_alloc | apply pw_below_drewN | apply below_drew1) | exact HB.out)) hb); clear HO_9; clear HB; have HO_9 := n0_; have HO158 := n1_; have HB := n2_; clear n0_ n1_ n2_; clear hb ho91; obtain ⟨Ao92, co92, eo92⟩ := Kd.R_slice HO158.out; subst eo92) | ((with_reducible refine gate_callee (f := 13) rfl ?_); refine goesL_ (some 125) rfl rfl Tryd.func13 (by kernel_rfl) rfl #[.slice Ao92 y156.length co92] rfl (by (try simp only [List.map_toArray, List.map_cons, List.map_nil]); first | done | rfl | (simp only [List.length_drop, List.length_take]; rfl) | (simp only [Int.toNat_natCast, ByteArray.extract_zero_size]; rfl)) ?_; (with_reducible refine (impl_Aggregated.calls _ _ y156 t159 t160 _ ?side1 ?side2 A79.out).mono ?_); (case side1 => repeat (first | exact (Kd.R_reads' HO158.out).2.2 | (with_reducible refine Kd.C_alloc ?_ _) | (with_reducible refine Kd.C_drewN ?_ _) | (with_reducible refine Kd.C_drew ?_))); (case side2 => exact (Kd.R_reads' HO158.out).2.1); rintro e w93 ⟨rfl, hb⟩; refine ⟨_, rfl, ?_⟩; have n0_ := Aside0.mk (Kd.R_below (by (with_reducible repeat (first | apply Kd.R_alloc | apply Kd.R_drewN | apply Kd.R_drew)); exact HO_9.out) hb); have n1_ := Aside0.mk (Kd.R_below (by (with_reducible repeat (first | apply Kd.R_alloc | apply Kd.R_drewN | apply Kd.R_drew)); exact HO158.out) hb); have n2_ := Aside0.mk (below_step (by repeat (first | (with_reducible first | exact HB.out | apply below_alloc | apply pw_below_drewN | apply below_drew1) | exact HB.out)) hb); clear HO_9; clear HO158; clear HB; have HO_9 := n0_; have HO158 := n1_; have HB := n2_; clear n0_ n1_ n2_; (try clear hb); (try clear hb2); (try clear hk); (try clear hi)))
                                      go_ret
                                      exact ⟨by first | rfl | (simp [errW_none, errW_some] <;> rfl) | (simp [*, errW_none, errW_some] <;> rfl), by repeat (first | (with_reducible first | exact HB.out | apply below_alloc | apply pw_below_drewN | apply below_drew1) | exact HB.out)⟩
                    · rw [if_neg c20] at H
                      exact absurd H (by simp)
                  · rw [if_neg c18] at H
                    exact absurd H (by simp)
                · rw [if_neg c17] at H
                  exact absurd H (by simp)
  · replace c3 := Bool.eq_false_iff.mpr c3
    subst c3
    have H1 : (some true) = some r := by rw [if_neg (show ¬ (false = true) by decide)] at H; exact H
    clear H
    have H := H1
    clear H1
    obtain rfl := Option.some.inj H
    go_enter Tryd.func3, Tryd.ntmps3
    go_wp2_with (first | ((with_reducible refine gate_callee (f := 11) rfl ?_); refine goesL_ (some 15) rfl rfl Tryd.func11 (by kernel_rfl) rfl #[.slice A0 l0.length c0] rfl (by (try simp only [List.map_toArray, List.map_cons, List.map_nil]); first | done | rfl | (simp only [List.length_drop, List.length_take]; rfl) | (simp only [Int.toNat_natCast, ByteArray.extract_zero_size]; rfl)) ?_; (with_reducible refine (laws_zzFits1.calls k _ _ l0 false _ ?side1 ?side2 A2.out).mono ?_); (case side1 => repeat (first | exact HR0.out | (with_reducible refine Kd.C_alloc ?_ _) | (with_reducible refine Kd.C_drewN ?_ _) | (with_reducible refine Kd.C_drew ?_))); (case side2 => exact HC0.out); rintro e w' ⟨rfl, ⟨nd, rfl⟩⟩; refine ⟨_, rfl, ?_⟩))
    go_ret
    exact ⟨by first | rfl | (simp [errW_none, errW_some] <;> rfl) | (simp [*, errW_none, errW_some] <;> rfl), by repeat (first | (with_reducible first | exact HB.out | apply below_alloc | apply pw_below_drewN | apply below_drew1) | exact HB.out)⟩
/-- THE ONE PURE STATEMENT of laws_FnAggregatedAll: yours. -/
def laws_FnAggregatedAll.Pure : Prop := ∀ (l0 : List ByteArray), l0.length ≤ maxLen → (∀ x ∈ l0, x.size ≤ maxLen) → ∃ k, laws_FnAggregatedAll.f k l0 = some true
theorem laws_FnAggregatedAll.walk (P : laws_FnAggregatedAll.Pure) (A0 : Option Addr) (c0 : Nat) (l0 : List ByteArray) (w : World) (hr0 : Kd.C Kd.string w A0 l0.length l0) (hc0 : l0.length ≤ c0) (hm0 : l0.length ≤ maxLen) (hg0 : ∀ x ∈ l0, x.size ≤ maxLen) :
    Calls Tryd.prog 3 #[.slice A0 l0.length c0] w fun e w' => e = .returned (.bool true) ∧ Below w.heap.size w w' := by
  obtain ⟨k, h⟩ := P l0 hm0 hg0
  refine (laws_FnAggregatedAll.calls k A0 c0 l0 true w hr0 hc0 h).mono ?_
  rintro e w' ⟨rfl, hd⟩
  exact ⟨rfl, hd⟩
end Go.Proofs.YthbdaoapjnofkaaDoor.PFnAggregatedAll
