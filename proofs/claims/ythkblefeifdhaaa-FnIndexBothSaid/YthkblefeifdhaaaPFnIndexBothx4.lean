-- Printed by a program of this seat (xprint) out of the translation; Lean checks it.
import Derived.Test.YthkblefeifdhaaaPFnIndexBothx0
import Derived.Test.YthkblefeifdhaaaPFnIndexBothx1
import Derived.Test.YthkblefeifdhaaaPFnIndexBothx2
import Derived.Test.YthkblefeifdhaaaPFnIndexBothx3
namespace Go.Proofs.Ythkblefeifdhaaa.PFnIndexBoth
open Go.RowKit Go.Proofs.Ythkblefeifdhaaa.R Go.Proofs.YthkblefeifdhaaaW.PrintWords Go.Proofs.YthkblefeifdhaaaW.PrintLast Go.Proofs.YthkblefeifdhaaaW.PrintMore
attribute [local go_sem] max2_int min2_int max_two min_two max_three min_three max_four min_four   -- for this text's walks alone
set_option linter.unusedVariables false
set_option linter.unusedSimpArgs false

/-! ### laws_FnIndexBoth: function 9 -/
mutual
def laws_FnIndexBoth.j0 : Nat → ByteArray → ByteArray → Bool → Option (Bool)
  | 0, _, _, _ => none
  | k + 1, x0, x1, x15 => if x15 = true then (some true) else ((laws_ascii9.f k x0).bind fun t127 => (if t127 = true then ((laws_ascii9.f k x1).bind fun t128 => (if t128 = true then (laws_FnIndexBoth.j1 k x0 x1 (x1.toList == ([] : List UInt8))) else (laws_FnIndexBoth.j1 k x0 x1 true))) else (laws_FnIndexBoth.j1 k x0 x1 true)))
def laws_FnIndexBoth.j1 : Nat → ByteArray → ByteArray → Bool → Option (Bool)
  | 0, _, _, _ => none
  | k + 1, x0, x1, x27 => if x27 = true then (some true) else ((impl_IndexAll.f k x0 x1).bind fun t129 => ((impl_IndexBack.f k x0 x1 false).bind fun t130 => ((spec_Turned.f k x0).bind fun t131 => ((spec_Turned.f k x1).bind fun t132 => ((impl_IndexAll.f k t131 t132).bind fun t133 => (if t129 < 0 then (if t129 = (-1) then (if t130 = (-1) then (if t133 = (-1) then ((impl_IndexAll.f k (⟨#[97, 98]⟩ : ByteArray) (⟨#[98]⟩ : ByteArray)).bind fun t134 => (some (t134 == 1))) else (some false)) else (some false)) else (some false)) else (if t130 < 0 then (if t129 = (-1) then (if t130 = (-1) then (if t133 = (-1) then ((impl_IndexAll.f k (⟨#[97, 98]⟩ : ByteArray) (⟨#[98]⟩ : ByteArray)).bind fun t135 => (some (t135 == 1))) else (some false)) else (some false)) else (some false)) else (if t129 ≤ t130 then (if (wrap64 (t130 + (x1.size : Int))) ≤ (x0.size : Int) then (if t133 = (wrap64 ((wrap64 ((x0.size : Int) - (x1.size : Int))) - t130)) then (if 0 ≤ t129 then (if t129 ≤ (wrap64 (t129 + (x1.size : Int))) then (if (wrap64 (t129 + (x1.size : Int))) ≤ (x0.size : Int) then (if (x0.extract (t129 : Int).toNat ((wrap64 (t129 + (x1.size : Int))) : Int).toNat).toList = x1.toList then (if 0 ≤ t130 then (if t130 ≤ (wrap64 (t130 + (x1.size : Int))) then (some ((x0.extract (t130 : Int).toNat ((wrap64 (t130 + (x1.size : Int))) : Int).toNat).toList == x1.toList)) else (none)) else (none)) else (some false)) else (none)) else (none)) else (none)) else (some false)) else (some false)) else (some false)))))))))
end
def laws_FnIndexBoth.f (k : Nat) (a0 : ByteArray) (a1 : ByteArray) : Option (Bool) := if (a0.size : Int) > 2147483647 then (laws_FnIndexBoth.j0 k a0 a1 true) else (laws_FnIndexBoth.j0 k a0 a1 (decide ((a1.size : Int) > 2147483647)))
theorem laws_FnIndexBoth.mono_l : ∀ k, (∀ y0 y1 y2, LeO (laws_FnIndexBoth.j0 k y0 y1 y2) (laws_FnIndexBoth.j0 (k + 1) y0 y1 y2)) ∧ (∀ y0 y1 y2, LeO (laws_FnIndexBoth.j1 k y0 y1 y2) (laws_FnIndexBoth.j1 (k + 1) y0 y1 y2))
  | 0 => ⟨fun _ _ _ r h => by simp [laws_FnIndexBoth.j0] at h, fun _ _ _ r h => by simp [laws_FnIndexBoth.j1] at h⟩
  | k + 1 => by
    obtain ⟨ih0, ih1⟩ := laws_FnIndexBoth.mono_l k
    refine ⟨?_, ?_⟩
    · intro y0 y1 y2
      unfold laws_FnIndexBoth.j0
      repeat' first
      | (with_reducible exact ih0 _ _ _)
      | (with_reducible exact ih1 _ _ _)
      | (with_reducible exact impl_IndexAll.mono _ _ _)
      | (with_reducible exact impl_IndexBack.mono _ _ _ _)
      | (with_reducible exact laws_ascii9.mono _ _)
      | (with_reducible exact spec_Turned.mono _ _)
      | (with_reducible exact LeO.refl _)
      | (with_reducible exact LeO.none _)
      | (with_reducible refine LeO.ite ?_ ?_)
      | (with_reducible refine LeO.bind ?_ (fun _ => ?_))
      | exact ih0 _ _ _
      | exact ih1 _ _ _
      | exact impl_IndexAll.mono _ _ _
      | exact impl_IndexBack.mono _ _ _ _
      | exact laws_ascii9.mono _ _
      | exact spec_Turned.mono _ _
      | exact LeO.none _
      | refine LeO.ite ?_ ?_
      | refine LeO.bind ?_ (fun _ => ?_)
    · intro y0 y1 y2
      unfold laws_FnIndexBoth.j1
      repeat' first
      | (with_reducible exact ih0 _ _ _)
      | (with_reducible exact ih1 _ _ _)
      | (with_reducible exact impl_IndexAll.mono _ _ _)
      | (with_reducible exact impl_IndexBack.mono _ _ _ _)
      | (with_reducible exact laws_ascii9.mono _ _)
      | (with_reducible exact spec_Turned.mono _ _)
      | (with_reducible exact LeO.refl _)
      | (with_reducible exact LeO.none _)
      | (with_reducible refine LeO.ite ?_ ?_)
      | (with_reducible refine LeO.bind ?_ (fun _ => ?_))
      | exact ih0 _ _ _
      | exact ih1 _ _ _
      | exact impl_IndexAll.mono _ _ _
      | exact impl_IndexBack.mono _ _ _ _
      | exact laws_ascii9.mono _ _
      | exact spec_Turned.mono _ _
      | exact LeO.none _
      | refine LeO.ite ?_ ?_
      | refine LeO.bind ?_ (fun _ => ?_)
theorem laws_FnIndexBoth.mono : ∀ a0 a1 k, LeO (laws_FnIndexBoth.f k a0 a1) (laws_FnIndexBoth.f (k + 1) a0 a1) := by
  intro a0 a1 k
  obtain ⟨ih0, ih1⟩ := laws_FnIndexBoth.mono_l k
  unfold laws_FnIndexBoth.f
  repeat' first
      | (with_reducible exact ih0 _ _ _)
      | (with_reducible exact ih1 _ _ _)
      | (with_reducible exact impl_IndexAll.mono _ _ _)
      | (with_reducible exact impl_IndexBack.mono _ _ _ _)
      | (with_reducible exact laws_ascii9.mono _ _)
      | (with_reducible exact spec_Turned.mono _ _)
      | (with_reducible exact LeO.refl _)
      | (with_reducible exact LeO.none _)
      | (with_reducible refine LeO.ite ?_ ?_)
      | (with_reducible refine LeO.bind ?_ (fun _ => ?_))
      | exact ih0 _ _ _
      | exact ih1 _ _ _
      | exact impl_IndexAll.mono _ _ _
      | exact impl_IndexBack.mono _ _ _ _
      | exact laws_ascii9.mono _ _
      | exact spec_Turned.mono _ _
      | exact LeO.none _
      | refine LeO.ite ?_ ?_
      | refine LeO.bind ?_ (fun _ => ?_)
set_option maxHeartbeats 8000000 in
set_option maxRecDepth 100000 in
theorem laws_FnIndexBoth.calls (k : Nat) (a0 : ByteArray) (a1 : ByteArray) (r : Bool) (w : World) (h : laws_FnIndexBoth.f k a0 a1 = some r) :
    Calls Try.prog 9 #[.string a0, .string a1] w fun e w' => e = .returned (.bool r) ∧ Below w.heap.size w w' := by
  have HB := Aside0.mk (Below.refl w.heap.size w)
  have H : (if (a0.size : Int) > 2147483647 then (laws_FnIndexBoth.j0 k a0 a1 true) else (laws_FnIndexBoth.j0 k a0 a1 (decide ((a1.size : Int) > 2147483647)))) = some r := h
  clear h
  have HC3 := Aside0.mk H
  clear H
  go_enter Try.func9, Try.ntmps9
  go_upto_region 1 with (fail)
  go_cut [15] (fun v15 wc => ∃ (kq : Nat) (x15_2 : Bool), v15 = .bool x15_2 ∧ Aside0 (laws_FnIndexBoth.j0 kq a0 a1 x15_2 = some r) ∧ Aside0 (kq ≤ k) ∧ Aside0 (Below w.heap.size w wc))
  case first =>
    have H := HC3.out
    clear HC3
    by_cases c4 : (a0.size : Int) > 2147483647
    · rw [if_pos c4] at H
      have c4b0 : decide (2147483647 < (a0.size : Int)) = true := decide_eq_true c4
      have c4b1 : decide (2147483647 < a0.size) = true := decide_eq_true (by omega)
      clear c4
      (first | rw [c4b0] | (simp only [i64_w, i32_w]; rw [c4b0]) | skip)
      have H' := Aside0.mk H
      clear H
      go_wp2
      go_meet
      case rel => exact ⟨_, (true), (by first | rfl | (simp; done) | (simp [*]; done)), H', ⟨by first | omega | exact Nat.le_refl _⟩, ⟨by repeat (first | (with_reducible first | exact HB.out | apply below_alloc | apply pw_below_drewN | apply below_drew1) | exact HB.out)⟩⟩
    · rw [if_neg c4] at H
      have c4b0 : decide (2147483647 < (a0.size : Int)) = false := decide_eq_false c4
      have c4b1 : decide (2147483647 < a0.size) = false := decide_eq_false (by omega)
      clear c4
      (first | rw [c4b0] | (simp only [i64_w, i32_w]; rw [c4b0]) | skip)
      have H' := Aside0.mk H
      clear H
      go_wp2
      go_meet
      case rel => exact ⟨_, (decide ((a1.size : Int) > 2147483647)), (by first | rfl | (simp; done) | (simp [*]; done)), H', ⟨by first | omega | exact Nat.le_refl _⟩, ⟨by repeat (first | (with_reducible first | exact HB.out | apply below_alloc | apply pw_below_drewN | apply below_drew1) | exact HB.out)⟩⟩
  case rest =>
    clear HC3
    try clear p2
    try clear c4
    try clear c4b0
    try clear c4b1
    obtain ⟨kq, x15_2, rfl, HA, HJ2, HB⟩ := hcut
    cases kq with
    | zero => exact absurd HA.out (by simp [laws_FnIndexBoth.j0])
    | succ kj2 =>
      have H := HA.out
      clear HA
      simp only [laws_FnIndexBoth.j0] at H
      by_cases c5 : x15_2 = true
      · subst c5
        have H1 : (some true) = some r := by rw [if_pos rfl] at H; exact H
        clear H
        have H := H1
        clear H1
        obtain rfl := Option.some.inj H
        go_wp2
        go_ret
        exact ⟨by first | rfl | (simp [errW_none, errW_some] <;> rfl) | (simp [*, errW_none, errW_some] <;> rfl), by repeat (first | (with_reducible first | exact HB.out | apply below_alloc | apply pw_below_drewN | apply below_drew1) | exact HB.out)⟩
      · replace c5 := Bool.eq_false_iff.mpr c5
        subst c5
        have H1 : ((laws_ascii9.f kj2 a0).bind fun t127 => (if t127 = true then ((laws_ascii9.f kj2 a1).bind fun t128 => (if t128 = true then (laws_FnIndexBoth.j1 kj2 a0 a1 (a1.toList == ([] : List UInt8))) else (laws_FnIndexBoth.j1 kj2 a0 a1 true))) else (laws_FnIndexBoth.j1 kj2 a0 a1 true))) = some r := by rw [if_neg (show ¬ (false = true) by decide)] at H; exact H
        clear H
        have H := H1
        clear H1
        have HC6 := Aside0.mk H
        clear H
        go_upto_region 3 with (fail)
        go_cut [27] (fun v27 wc => ∃ (kq : Nat) (x27_5 : Bool), v27 = .bool x27_5 ∧ Aside0 (laws_FnIndexBoth.j1 kq a0 a1 x27_5 = some r) ∧ Aside0 (kq ≤ kj2) ∧ Aside0 (Below w.heap.size w wc))
        case first =>
          have H := HC6.out
          clear HC6
          replace H := Option.bind_eq_some_iff.mp H
          obtain ⟨t127, A70, H⟩ := H
          replace H : (if t127 = true then ((laws_ascii9.f kj2 a1).bind fun t128 => (if t128 = true then (laws_FnIndexBoth.j1 kj2 a0 a1 (a1.toList == ([] : List UInt8))) else (laws_FnIndexBoth.j1 kj2 a0 a1 true))) else (laws_FnIndexBoth.j1 kj2 a0 a1 true)) = some r := H
          have A7 := Aside0.mk A70
          clear A70
          by_cases c8 : t127 = true
          · subst c8
            have H1 : ((laws_ascii9.f kj2 a1).bind fun t128 => (if t128 = true then (laws_FnIndexBoth.j1 kj2 a0 a1 (a1.toList == ([] : List UInt8))) else (laws_FnIndexBoth.j1 kj2 a0 a1 true))) = some r := by rw [if_pos rfl] at H; exact H
            clear H
            have H := H1
            clear H1
            replace H := Option.bind_eq_some_iff.mp H
            obtain ⟨t128, A90, H⟩ := H
            replace H : (if t128 = true then (laws_FnIndexBoth.j1 kj2 a0 a1 (a1.toList == ([] : List UInt8))) else (laws_FnIndexBoth.j1 kj2 a0 a1 true)) = some r := H
            have A9 := Aside0.mk A90
            clear A90
            by_cases c10 : t128 = true
            · subst c10
              have H1 : (laws_FnIndexBoth.j1 kj2 a0 a1 (a1.toList == ([] : List UInt8))) = some r := by rw [if_pos rfl] at H; exact H
              clear H
              have H := H1
              clear H1
              have H' := Aside0.mk H
              clear H
              go_wp2_with (first | ((with_reducible refine gate_callee (f := 24) rfl ?_); refine goesL_ (some 17) rfl rfl Try.func24 (by kernel_rfl) rfl #[.string a0] rfl (by (try simp only [List.map_toArray, List.map_cons, List.map_nil]); first | done | rfl | (simp only [List.length_drop, List.length_take]; rfl)) ?_; (with_reducible refine (laws_ascii9.calls kj2 a0 true _ A7.out).mono ?_); rintro e w' ⟨rfl, ⟨nd, rfl⟩⟩; refine ⟨_, rfl, ?_⟩) | (go_at_call 24; (with_reducible refine (laws_ascii9.calls kj2 a1 true _ A9.out).mono ?_); rintro e w' ⟨rfl, ⟨nd, rfl⟩⟩))
              go_meet
              case rel => exact ⟨_, ((a1.toList == ([] : List UInt8))), (by first | rfl | (simp; done) | (simp [*]; done)), H', ⟨by have := HJ2.out; first | omega | exact Nat.le_refl _⟩, ⟨by repeat (first | (with_reducible first | exact HB.out | apply below_alloc | apply pw_below_drewN | apply below_drew1) | exact HB.out)⟩⟩
            · replace c10 := Bool.eq_false_iff.mpr c10
              subst c10
              have H1 : (laws_FnIndexBoth.j1 kj2 a0 a1 true) = some r := by rw [if_neg (show ¬ (false = true) by decide)] at H; exact H
              clear H
              have H := H1
              clear H1
              have H' := Aside0.mk H
              clear H
              go_wp2_with (first | ((with_reducible refine gate_callee (f := 24) rfl ?_); refine goesL_ (some 17) rfl rfl Try.func24 (by kernel_rfl) rfl #[.string a0] rfl (by (try simp only [List.map_toArray, List.map_cons, List.map_nil]); first | done | rfl | (simp only [List.length_drop, List.length_take]; rfl)) ?_; (with_reducible refine (laws_ascii9.calls kj2 a0 true _ A7.out).mono ?_); rintro e w' ⟨rfl, ⟨nd, rfl⟩⟩; refine ⟨_, rfl, ?_⟩) | (go_at_call 24; (with_reducible refine (laws_ascii9.calls kj2 a1 false _ A9.out).mono ?_); rintro e w' ⟨rfl, ⟨nd, rfl⟩⟩))
              go_meet
              case rel => exact ⟨_, (true), (by first | rfl | (simp; done) | (simp [*]; done)), H', ⟨by have := HJ2.out; first | omega | exact Nat.le_refl _⟩, ⟨by repeat (first | (with_reducible first | exact HB.out | apply below_alloc | apply pw_below_drewN | apply below_drew1) | exact HB.out)⟩⟩
          · replace c8 := Bool.eq_false_iff.mpr c8
            subst c8
            have H1 : (laws_FnIndexBoth.j1 kj2 a0 a1 true) = some r := by rw [if_neg (show ¬ (false = true) by decide)] at H; exact H
            clear H
            have H := H1
            clear H1
            have H' := Aside0.mk H
            clear H
            go_wp2_with (first | ((with_reducible refine gate_callee (f := 24) rfl ?_); refine goesL_ (some 17) rfl rfl Try.func24 (by kernel_rfl) rfl #[.string a0] rfl (by (try simp only [List.map_toArray, List.map_cons, List.map_nil]); first | done | rfl | (simp only [List.length_drop, List.length_take]; rfl)) ?_; (with_reducible refine (laws_ascii9.calls kj2 a0 false _ A7.out).mono ?_); rintro e w' ⟨rfl, ⟨nd, rfl⟩⟩; refine ⟨_, rfl, ?_⟩))
            go_meet
            case rel => exact ⟨_, (true), (by first | rfl | (simp; done) | (simp [*]; done)), H', ⟨by have := HJ2.out; first | omega | exact Nat.le_refl _⟩, ⟨by repeat (first | (with_reducible first | exact HB.out | apply below_alloc | apply pw_below_drewN | apply below_drew1) | exact HB.out)⟩⟩
        case rest =>
          clear HC6
          try clear c1
          try clear c2
          try clear p2
          try clear c4
          try clear c4b0
          try clear c4b1
          try clear c5
          try clear c8
          try clear c9
          try clear c10
          try clear p2
          obtain ⟨kq, x27_5, rfl, HA, HJ5, HB⟩ := hcut
          cases kq with
          | zero => exact absurd HA.out (by simp [laws_FnIndexBoth.j1])
          | succ kj5 =>
            have H := HA.out
            clear HA
            simp only [laws_FnIndexBoth.j1] at H
            by_cases c11 : x27_5 = true
            · subst c11
              have H1 : (some true) = some r := by rw [if_pos rfl] at H; exact H
              clear H
              have H := H1
              clear H1
              obtain rfl := Option.some.inj H
              go_wp2
              go_ret
              exact ⟨by first | rfl | (simp [errW_none, errW_some] <;> rfl) | (simp [*, errW_none, errW_some] <;> rfl), by repeat (first | (with_reducible first | exact HB.out | apply below_alloc | apply pw_below_drewN | apply below_drew1) | exact HB.out)⟩
            · replace c11 := Bool.eq_false_iff.mpr c11
              subst c11
              have H1 : ((impl_IndexAll.f kj5 a0 a1).bind fun t129 => ((impl_IndexBack.f kj5 a0 a1 false).bind fun t130 => ((spec_Turned.f kj5 a0).bind fun t131 => ((spec_Turned.f kj5 a1).bind fun t132 => ((impl_IndexAll.f kj5 t131 t132).bind fun t133 => (if t129 < 0 then (if t129 = (-1) then (if t130 = (-1) then (if t133 = (-1) then ((impl_IndexAll.f kj5 (⟨#[97, 98]⟩ : ByteArray) (⟨#[98]⟩ : ByteArray)).bind fun t134 => (some (t134 == 1))) else (some false)) else (some false)) else (some false)) else (if t130 < 0 then (if t129 = (-1) then (if t130 = (-1) then (if t133 = (-1) then ((impl_IndexAll.f kj5 (⟨#[97, 98]⟩ : ByteArray) (⟨#[98]⟩ : ByteArray)).bind fun t135 => (some (t135 == 1))) else (some false)) else (some false)) else (some false)) else (if t129 ≤ t130 then (if (wrap64 (t130 + (a1.size : Int))) ≤ (a0.size : Int) then (if t133 = (wrap64 ((wrap64 ((a0.size : Int) - (a1.size : Int))) - t130)) then (if 0 ≤ t129 then (if t129 ≤ (wrap64 (t129 + (a1.size : Int))) then (if (wrap64 (t129 + (a1.size : Int))) ≤ (a0.size : Int) then (if (a0.extract (t129 : Int).toNat ((wrap64 (t129 + (a1.size : Int))) : Int).toNat).toList = a1.toList then (if 0 ≤ t130 then (if t130 ≤ (wrap64 (t130 + (a1.size : Int))) then (some ((a0.extract (t130 : Int).toNat ((wrap64 (t130 + (a1.size : Int))) : Int).toNat).toList == a1.toList)) else (none)) else (none)) else (some false)) else (none)) else (none)) else (none)) else (some false)) else (some false)) else (some false))))))))) = some r := by rw [if_neg (show ¬ (false = true) by decide)] at H; exact H
              clear H
              have H := H1
              clear H1
              replace H := Option.bind_eq_some_iff.mp H
              obtain ⟨t129, A120, H⟩ := H
              replace H : ((impl_IndexBack.f kj5 a0 a1 false).bind fun t130 => ((spec_Turned.f kj5 a0).bind fun t131 => ((spec_Turned.f kj5 a1).bind fun t132 => ((impl_IndexAll.f kj5 t131 t132).bind fun t133 => (if t129 < 0 then (if t129 = (-1) then (if t130 = (-1) then (if t133 = (-1) then ((impl_IndexAll.f kj5 (⟨#[97, 98]⟩ : ByteArray) (⟨#[98]⟩ : ByteArray)).bind fun t134 => (some (t134 == 1))) else (some false)) else (some false)) else (some false)) else (if t130 < 0 then (if t129 = (-1) then (if t130 = (-1) then (if t133 = (-1) then ((impl_IndexAll.f kj5 (⟨#[97, 98]⟩ : ByteArray) (⟨#[98]⟩ : ByteArray)).bind fun t135 => (some (t135 == 1))) else (some false)) else (some false)) else (some false)) else (if t129 ≤ t130 then (if (wrap64 (t130 + (a1.size : Int))) ≤ (a0.size : Int) then (if t133 = (wrap64 ((wrap64 ((a0.size : Int) - (a1.size : Int))) - t130)) then (if 0 ≤ t129 then (if t129 ≤ (wrap64 (t129 + (a1.size : Int))) then (if (wrap64 (t129 + (a1.size : Int))) ≤ (a0.size : Int) then (if (a0.extract (t129 : Int).toNat ((wrap64 (t129 + (a1.size : Int))) : Int).toNat).toList = a1.toList then (if 0 ≤ t130 then (if t130 ≤ (wrap64 (t130 + (a1.size : Int))) then (some ((a0.extract (t130 : Int).toNat ((wrap64 (t130 + (a1.size : Int))) : Int).toNat).toList == a1.toList)) else (none)) else (none)) else (some false)) else (none)) else (none)) else (none)) else (some false)) else (some false)) else (some false)))))))) = some r := H
              have A12 := Aside0.mk A120
              clear A120
              replace H := Option.bind_eq_some_iff.mp H
              obtain ⟨t130, A130, H⟩ := H
              replace H : ((spec_Turned.f kj5 a0).bind fun t131 => ((spec_Turned.f kj5 a1).bind fun t132 => ((impl_IndexAll.f kj5 t131 t132).bind fun t133 => (if t129 < 0 then (if t129 = (-1) then (if t130 = (-1) then (if t133 = (-1) then ((impl_IndexAll.f kj5 (⟨#[97, 98]⟩ : ByteArray) (⟨#[98]⟩ : ByteArray)).bind fun t134 => (some (t134 == 1))) else (some false)) else (some false)) else (some false)) else (if t130 < 0 then (if t129 = (-1) then (if t130 = (-1) then (if t133 = (-1) then ((impl_IndexAll.f kj5 (⟨#[97, 98]⟩ : ByteArray) (⟨#[98]⟩ : ByteArray)).bind fun t135 => (some (t135 == 1))) else (some false)) else (some false)) else (some false)) else (if t129 ≤ t130 then (if (wrap64 (t130 + (a1.size : Int))) ≤ (a0.size : Int) then (if t133 = (wrap64 ((wrap64 ((a0.size : Int) - (a1.size : Int))) - t130)) then (if 0 ≤ t129 then (if t129 ≤ (wrap64 (t129 + (a1.size : Int))) then (if (wrap64 (t129 + (a1.size : Int))) ≤ (a0.size : Int) then (if (a0.extract (t129 : Int).toNat ((wrap64 (t129 + (a1.size : Int))) : Int).toNat).toList = a1.toList then (if 0 ≤ t130 then (if t130 ≤ (wrap64 (t130 + (a1.size : Int))) then (some ((a0.extract (t130 : Int).toNat ((wrap64 (t130 + (a1.size : Int))) : Int).toNat).toList == a1.toList)) else (none)) else (none)) else (some false)) else (none)) else (none)) else (none)) else (some false)) else (some false)) else (some false))))))) = some r := H
              have A13 := Aside0.mk A130
              clear A130
              replace H := Option.bind_eq_some_iff.mp H
              obtain ⟨t131, A140, H⟩ := H
              replace H : ((spec_Turned.f kj5 a1).bind fun t132 => ((impl_IndexAll.f kj5 t131 t132).bind fun t133 => (if t129 < 0 then (if t129 = (-1) then (if t130 = (-1) then (if t133 = (-1) then ((impl_IndexAll.f kj5 (⟨#[97, 98]⟩ : ByteArray) (⟨#[98]⟩ : ByteArray)).bind fun t134 => (some (t134 == 1))) else (some false)) else (some false)) else (some false)) else (if t130 < 0 then (if t129 = (-1) then (if t130 = (-1) then (if t133 = (-1) then ((impl_IndexAll.f kj5 (⟨#[97, 98]⟩ : ByteArray) (⟨#[98]⟩ : ByteArray)).bind fun t135 => (some (t135 == 1))) else (some false)) else (some false)) else (some false)) else (if t129 ≤ t130 then (if (wrap64 (t130 + (a1.size : Int))) ≤ (a0.size : Int) then (if t133 = (wrap64 ((wrap64 ((a0.size : Int) - (a1.size : Int))) - t130)) then (if 0 ≤ t129 then (if t129 ≤ (wrap64 (t129 + (a1.size : Int))) then (if (wrap64 (t129 + (a1.size : Int))) ≤ (a0.size : Int) then (if (a0.extract (t129 : Int).toNat ((wrap64 (t129 + (a1.size : Int))) : Int).toNat).toList = a1.toList then (if 0 ≤ t130 then (if t130 ≤ (wrap64 (t130 + (a1.size : Int))) then (some ((a0.extract (t130 : Int).toNat ((wrap64 (t130 + (a1.size : Int))) : Int).toNat).toList == a1.toList)) else (none)) else (none)) else (some false)) else (none)) else (none)) else (none)) else (some false)) else (some false)) else (some false)))))) = some r := H
              have A14 := Aside0.mk A140
              clear A140
              replace H := Option.bind_eq_some_iff.mp H
              obtain ⟨t132, A150, H⟩ := H
              replace H : ((impl_IndexAll.f kj5 t131 t132).bind fun t133 => (if t129 < 0 then (if t129 = (-1) then (if t130 = (-1) then (if t133 = (-1) then ((impl_IndexAll.f kj5 (⟨#[97, 98]⟩ : ByteArray) (⟨#[98]⟩ : ByteArray)).bind fun t134 => (some (t134 == 1))) else (some false)) else (some false)) else (some false)) else (if t130 < 0 then (if t129 = (-1) then (if t130 = (-1) then (if t133 = (-1) then ((impl_IndexAll.f kj5 (⟨#[97, 98]⟩ : ByteArray) (⟨#[98]⟩ : ByteArray)).bind fun t135 => (some (t135 == 1))) else (some false)) else (some false)) else (some false)) else (if t129 ≤ t130 then (if (wrap64 (t130 + (a1.size : Int))) ≤ (a0.size : Int) then (if t133 = (wrap64 ((wrap64 ((a0.size : Int) - (a1.size : Int))) - t130)) then (if 0 ≤ t129 then (if t129 ≤ (wrap64 (t129 + (a1.size : Int))) then (if (wrap64 (t129 + (a1.size : Int))) ≤ (a0.size : Int) then (if (a0.extract (t129 : Int).toNat ((wrap64 (t129 + (a1.size : Int))) : Int).toNat).toList = a1.toList then (if 0 ≤ t130 then (if t130 ≤ (wrap64 (t130 + (a1.size : Int))) then (some ((a0.extract (t130 : Int).toNat ((wrap64 (t130 + (a1.size : Int))) : Int).toNat).toList == a1.toList)) else (none)) else (none)) else (some false)) else (none)) else (none)) else (none)) else (some false)) else (some false)) else (some false))))) = some r := H
              have A15 := Aside0.mk A150
              clear A150
              replace H := Option.bind_eq_some_iff.mp H
              obtain ⟨t133, A160, H⟩ := H
              replace H : (if t129 < 0 then (if t129 = (-1) then (if t130 = (-1) then (if t133 = (-1) then ((impl_IndexAll.f kj5 (⟨#[97, 98]⟩ : ByteArray) (⟨#[98]⟩ : ByteArray)).bind fun t134 => (some (t134 == 1))) else (some false)) else (some false)) else (some false)) else (if t130 < 0 then (if t129 = (-1) then (if t130 = (-1) then (if t133 = (-1) then ((impl_IndexAll.f kj5 (⟨#[97, 98]⟩ : ByteArray) (⟨#[98]⟩ : ByteArray)).bind fun t135 => (some (t135 == 1))) else (some false)) else (some false)) else (some false)) else (if t129 ≤ t130 then (if (wrap64 (t130 + (a1.size : Int))) ≤ (a0.size : Int) then (if t133 = (wrap64 ((wrap64 ((a0.size : Int) - (a1.size : Int))) - t130)) then (if 0 ≤ t129 then (if t129 ≤ (wrap64 (t129 + (a1.size : Int))) then (if (wrap64 (t129 + (a1.size : Int))) ≤ (a0.size : Int) then (if (a0.extract (t129 : Int).toNat ((wrap64 (t129 + (a1.size : Int))) : Int).toNat).toList = a1.toList then (if 0 ≤ t130 then (if t130 ≤ (wrap64 (t130 + (a1.size : Int))) then (some ((a0.extract (t130 : Int).toNat ((wrap64 (t130 + (a1.size : Int))) : Int).toNat).toList == a1.toList)) else (none)) else (none)) else (some false)) else (none)) else (none)) else (none)) else (some false)) else (some false)) else (some false)))) = some r := H
              have A16 := Aside0.mk A160
              clear A160
              by_cases c17 : t129 < 0
              · rw [if_pos c17] at H
                have c17b0 : decide (t129 < 0) = true := decide_eq_true c17
                clear c17
                by_cases c18 : t129 = (-1)
                · rw [if_pos c18] at H
                  have c18b0 : (t129 == (-1)) = true := beq_iff_eq.mpr c18
                  have c18b1 : (t129 != (-1)) = false := bne_eq_false_iff_eq.mpr c18
                  clear c18
                  by_cases c19 : t130 = (-1)
                  · rw [if_pos c19] at H
                    have c19b0 : (t130 == (-1)) = true := beq_iff_eq.mpr c19
                    have c19b1 : (t130 != (-1)) = false := bne_eq_false_iff_eq.mpr c19
                    clear c19
                    by_cases c20 : t133 = (-1)
                    · rw [if_pos c20] at H
                      have c20b0 : (t133 == (-1)) = true := beq_iff_eq.mpr c20
                      have c20b1 : (t133 != (-1)) = false := bne_eq_false_iff_eq.mpr c20
                      clear c20
                      replace H := Option.bind_eq_some_iff.mp H
                      obtain ⟨t134, A210, H⟩ := H
                      replace H : (some (t134 == 1)) = some r := H
                      have A21 := Aside0.mk A210
                      clear A210
                      obtain rfl := Option.some.inj H
                      go_wp2_with (first | ((with_reducible refine gate_callee (f := 27) rfl ?_); refine goesL_ (some 30) rfl rfl Try.func27 (by kernel_rfl) rfl #[.string a0, .string a1] rfl (by (try simp only [List.map_toArray, List.map_cons, List.map_nil]); first | done | rfl | (simp only [List.length_drop, List.length_take]; rfl)) ?_; (with_reducible refine (impl_IndexAll.calls kj5 a0 a1 t129 _ A12.out).mono ?_); rintro e w22 ⟨rfl, hb⟩; refine ⟨_, rfl, ?_⟩; have n0_ := Aside0.mk (below_step (by repeat (first | (with_reducible first | exact HB.out | apply below_alloc | apply pw_below_drewN | apply below_drew1) | exact HB.out)) hb); clear HB; have HB := n0_; clear n0_; (try clear hb); (try clear hb2); (try clear hk); (try clear hi)) | ((with_reducible refine gate_callee (f := 28) rfl ?_); refine goesL_ (some 33) rfl rfl Try.func28 (by kernel_rfl) rfl #[.string a0, .string a1, .bool false] rfl (by (try simp only [List.map_toArray, List.map_cons, List.map_nil]); first | done | rfl | (simp only [List.length_drop, List.length_take]; rfl)) ?_; (with_reducible refine (impl_IndexBack.calls kj5 a0 a1 false t130 _ A13.out).mono ?_); rintro e w23 ⟨rfl, hb⟩; refine ⟨_, rfl, ?_⟩; have n0_ := Aside0.mk (below_step (by repeat (first | (with_reducible first | exact HB.out | apply below_alloc | apply pw_below_drewN | apply below_drew1) | exact HB.out)) hb); clear HB; have HB := n0_; clear n0_; (try clear hb); (try clear hb2); (try clear hk); (try clear hi)) | ((with_reducible refine gate_callee (f := 29) rfl ?_); refine goesL_ (some 35) rfl rfl Try.func29 (by kernel_rfl) rfl #[.string a0] rfl (by (try simp only [List.map_toArray, List.map_cons, List.map_nil]); first | done | rfl | (simp only [List.length_drop, List.length_take]; rfl)) ?_; (with_reducible refine (spec_Turned.calls kj5 a0 t131 _ A14.out).mono ?_); rintro e w' ⟨rfl, ⟨nd, rfl⟩⟩; refine ⟨_, rfl, ?_⟩) | ((with_reducible refine gate_callee (f := 29) rfl ?_); refine goesL_ (some 37) rfl rfl Try.func29 (by kernel_rfl) rfl #[.string a1] rfl (by (try simp only [List.map_toArray, List.map_cons, List.map_nil]); first | done | rfl | (simp only [List.length_drop, List.length_take]; rfl)) ?_; (with_reducible refine (spec_Turned.calls kj5 a1 t132 _ A15.out).mono ?_); rintro e w' ⟨rfl, ⟨nd, rfl⟩⟩; refine ⟨_, rfl, ?_⟩) | ((with_reducible refine gate_callee (f := 27) rfl ?_); refine goesL_ (some 38) rfl rfl Try.func27 (by kernel_rfl) rfl #[.string t131, .string t132] rfl (by (try simp only [List.map_toArray, List.map_cons, List.map_nil]); first | done | rfl | (simp only [List.length_drop, List.length_take]; rfl)) ?_; (with_reducible refine (impl_IndexAll.calls kj5 t131 t132 t133 _ A16.out).mono ?_); rintro e w24 ⟨rfl, hb⟩; refine ⟨_, rfl, ?_⟩; have n0_ := Aside0.mk (below_step (by repeat (first | (with_reducible first | exact HB.out | apply below_alloc | apply pw_below_drewN | apply below_drew1) | exact HB.out)) hb); clear HB; have HB := n0_; clear n0_; (try clear hb); (try clear hb2); (try clear hk); (try clear hi)) | (go_at_call 27; (with_reducible refine (impl_IndexAll.calls kj5 (⟨#[97, 98]⟩ : ByteArray) (⟨#[98]⟩ : ByteArray) t134 _ A21.out).mono ?_); rintro e w25 ⟨rfl, hb⟩; have n0_ := Aside0.mk (below_step (by repeat (first | (with_reducible first | exact HB.out | apply below_alloc | apply pw_below_drewN | apply below_drew1) | exact HB.out)) hb); clear HB; have HB := n0_; clear n0_; (try clear hb); (try clear hb2); (try clear hk); (try clear hi)))
                      go_ret
                      exact ⟨by first | rfl | (simp [errW_none, errW_some] <;> rfl) | (simp [*, errW_none, errW_some] <;> rfl), by repeat (first | (with_reducible first | exact HB.out | apply below_alloc | apply pw_below_drewN | apply below_drew1) | exact HB.out)⟩
                    · rw [if_neg c20] at H
                      have c20b0 : (t133 == (-1)) = false := beq_eq_false_iff_ne.mpr c20
                      have c20b1 : (t133 != (-1)) = true := bne_iff_ne.mpr c20
                      obtain rfl := Option.some.inj H
                      go_wp2_with (first | ((with_reducible refine gate_callee (f := 27) rfl ?_); refine goesL_ (some 30) rfl rfl Try.func27 (by kernel_rfl) rfl #[.string a0, .string a1] rfl (by (try simp only [List.map_toArray, List.map_cons, List.map_nil]); first | done | rfl | (simp only [List.length_drop, List.length_take]; rfl)) ?_; (with_reducible refine (impl_IndexAll.calls kj5 a0 a1 t129 _ A12.out).mono ?_); rintro e w26 ⟨rfl, hb⟩; refine ⟨_, rfl, ?_⟩; have n0_ := Aside0.mk (below_step (by repeat (first | (with_reducible first | exact HB.out | apply below_alloc | apply pw_below_drewN | apply below_drew1) | exact HB.out)) hb); clear HB; have HB := n0_; clear n0_; (try clear hb); (try clear hb2); (try clear hk); (try clear hi)) | ((with_reducible refine gate_callee (f := 28) rfl ?_); refine goesL_ (some 33) rfl rfl Try.func28 (by kernel_rfl) rfl #[.string a0, .string a1, .bool false] rfl (by (try simp only [List.map_toArray, List.map_cons, List.map_nil]); first | done | rfl | (simp only [List.length_drop, List.length_take]; rfl)) ?_; (with_reducible refine (impl_IndexBack.calls kj5 a0 a1 false t130 _ A13.out).mono ?_); rintro e w27 ⟨rfl, hb⟩; refine ⟨_, rfl, ?_⟩; have n0_ := Aside0.mk (below_step (by repeat (first | (with_reducible first | exact HB.out | apply below_alloc | apply pw_below_drewN | apply below_drew1) | exact HB.out)) hb); clear HB; have HB := n0_; clear n0_; (try clear hb); (try clear hb2); (try clear hk); (try clear hi)) | ((with_reducible refine gate_callee (f := 29) rfl ?_); refine goesL_ (some 35) rfl rfl Try.func29 (by kernel_rfl) rfl #[.string a0] rfl (by (try simp only [List.map_toArray, List.map_cons, List.map_nil]); first | done | rfl | (simp only [List.length_drop, List.length_take]; rfl)) ?_; (with_reducible refine (spec_Turned.calls kj5 a0 t131 _ A14.out).mono ?_); rintro e w' ⟨rfl, ⟨nd, rfl⟩⟩; refine ⟨_, rfl, ?_⟩) | ((with_reducible refine gate_callee (f := 29) rfl ?_); refine goesL_ (some 37) rfl rfl Try.func29 (by kernel_rfl) rfl #[.string a1] rfl (by (try simp only [List.map_toArray, List.map_cons, List.map_nil]); first | done | rfl | (simp only [List.length_drop, List.length_take]; rfl)) ?_; (with_reducible refine (spec_Turned.calls kj5 a1 t132 _ A15.out).mono ?_); rintro e w' ⟨rfl, ⟨nd, rfl⟩⟩; refine ⟨_, rfl, ?_⟩) | ((with_reducible refine gate_callee (f := 27) rfl ?_); refine goesL_ (some 38) rfl rfl Try.func27 (by kernel_rfl) rfl #[.string t131, .string t132] rfl (by (try simp only [List.map_toArray, List.map_cons, List.map_nil]); first | done | rfl | (simp only [List.length_drop, List.length_take]; rfl)) ?_; (with_reducible refine (impl_IndexAll.calls kj5 t131 t132 t133 _ A16.out).mono ?_); rintro e w28 ⟨rfl, hb⟩; refine ⟨_, rfl, ?_⟩; have n0_ := Aside0.mk (below_step (by repeat (first | (with_reducible first | exact HB.out | apply below_alloc | apply pw_below_drewN | apply below_drew1) | exact HB.out)) hb); clear HB; have HB := n0_; clear n0_; (try clear hb); (try clear hb2); (try clear hk); (try clear hi)))
                      go_ret
                      exact ⟨by first | rfl | (simp [errW_none, errW_some] <;> rfl) | (simp [*, errW_none, errW_some] <;> rfl), by repeat (first | (with_reducible first | exact HB.out | apply below_alloc | apply pw_below_drewN | apply below_drew1) | exact HB.out)⟩
                  · rw [if_neg c19] at H
                    have c19b0 : (t130 == (-1)) = false := beq_eq_false_iff_ne.mpr c19
                    have c19b1 : (t130 != (-1)) = true := bne_iff_ne.mpr c19
                    obtain rfl := Option.some.inj H
                    go_wp2_with (first | ((with_reducible refine gate_callee (f := 27) rfl ?_); refine goesL_ (some 30) rfl rfl Try.func27 (by kernel_rfl) rfl #[.string a0, .string a1] rfl (by (try simp only [List.map_toArray, List.map_cons, List.map_nil]); first | done | rfl | (simp only [List.length_drop, List.length_take]; rfl)) ?_; (with_reducible refine (impl_IndexAll.calls kj5 a0 a1 t129 _ A12.out).mono ?_); rintro e w29 ⟨rfl, hb⟩; refine ⟨_, rfl, ?_⟩; have n0_ := Aside0.mk (below_step (by repeat (first | (with_reducible first | exact HB.out | apply below_alloc | apply pw_below_drewN | apply below_drew1) | exact HB.out)) hb); clear HB; have HB := n0_; clear n0_; (try clear hb); (try clear hb2); (try clear hk); (try clear hi)) | ((with_reducible refine gate_callee (f := 28) rfl ?_); refine goesL_ (some 33) rfl rfl Try.func28 (by kernel_rfl) rfl #[.string a0, .string a1, .bool false] rfl (by (try simp only [List.map_toArray, List.map_cons, List.map_nil]); first | done | rfl | (simp only [List.length_drop, List.length_take]; rfl)) ?_; (with_reducible refine (impl_IndexBack.calls kj5 a0 a1 false t130 _ A13.out).mono ?_); rintro e w30 ⟨rfl, hb⟩; refine ⟨_, rfl, ?_⟩; have n0_ := Aside0.mk (below_step (by repeat (first | (with_reducible first | exact HB.out | apply below_alloc | apply pw_below_drewN | apply below_drew1) | exact HB.out)) hb); clear HB; have HB := n0_; clear n0_; (try clear hb); (try clear hb2); (try clear hk); (try clear hi)) | ((with_reducible refine gate_callee (f := 29) rfl ?_); refine goesL_ (some 35) rfl rfl Try.func29 (by kernel_rfl) rfl #[.string a0] rfl (by (try simp only [List.map_toArray, List.map_cons, List.map_nil]); first | done | rfl | (simp only [List.length_drop, List.length_take]; rfl)) ?_; (with_reducible refine (spec_Turned.calls kj5 a0 t131 _ A14.out).mono ?_); rintro e w' ⟨rfl, ⟨nd, rfl⟩⟩; refine ⟨_, rfl, ?_⟩) | ((with_reducible refine gate_callee (f := 29) rfl ?_); refine goesL_ (some 37) rfl rfl Try.func29 (by kernel_rfl) rfl #[.string a1] rfl (by (try simp only [List.map_toArray, List.map_cons, List.map_nil]); first | done | rfl | (simp only [List.length_drop, List.length_take]; rfl)) ?_; (with_reducible refine (spec_Turned.calls kj5 a1 t132 _ A15.out).mono ?_); rintro e w' ⟨rfl, ⟨nd, rfl⟩⟩; refine ⟨_, rfl, ?_⟩) | ((with_reducible refine gate_callee (f := 27) rfl ?_); refine goesL_ (some 38) rfl rfl Try.func27 (by kernel_rfl) rfl #[.string t131, .string t132] rfl (by (try simp only [List.map_toArray, List.map_cons, List.map_nil]); first | done | rfl | (simp only [List.length_drop, List.length_take]; rfl)) ?_; (with_reducible refine (impl_IndexAll.calls kj5 t131 t132 t133 _ A16.out).mono ?_); rintro e w31 ⟨rfl, hb⟩; refine ⟨_, rfl, ?_⟩; have n0_ := Aside0.mk (below_step (by repeat (first | (with_reducible first | exact HB.out | apply below_alloc | apply pw_below_drewN | apply below_drew1) | exact HB.out)) hb); clear HB; have HB := n0_; clear n0_; (try clear hb); (try clear hb2); (try clear hk); (try clear hi)))
                    go_ret
                    exact ⟨by first | rfl | (simp [errW_none, errW_some] <;> rfl) | (simp [*, errW_none, errW_some] <;> rfl), by repeat (first | (with_reducible first | exact HB.out | apply below_alloc | apply pw_below_drewN | apply below_drew1) | exact HB.out)⟩
                · rw [if_neg c18] at H
                  have c18b0 : (t129 == (-1)) = false := beq_eq_false_iff_ne.mpr c18
                  have c18b1 : (t129 != (-1)) = true := bne_iff_ne.mpr c18
                  obtain rfl := Option.some.inj H
                  go_wp2_with (first | ((with_reducible refine gate_callee (f := 27) rfl ?_); refine goesL_ (some 30) rfl rfl Try.func27 (by kernel_rfl) rfl #[.string a0, .string a1] rfl (by (try simp only [List.map_toArray, List.map_cons, List.map_nil]); first | done | rfl | (simp only [List.length_drop, List.length_take]; rfl)) ?_; (with_reducible refine (impl_IndexAll.calls kj5 a0 a1 t129 _ A12.out).mono ?_); rintro e w32 ⟨rfl, hb⟩; refine ⟨_, rfl, ?_⟩; have n0_ := Aside0.mk (below_step (by repeat (first | (with_reducible first | exact HB.out | apply below_alloc | apply pw_below_drewN | apply below_drew1) | exact HB.out)) hb); clear HB; have HB := n0_; clear n0_; (try clear hb); (try clear hb2); (try clear hk); (try clear hi)) | ((with_reducible refine gate_callee (f := 28) rfl ?_); refine goesL_ (some 33) rfl rfl Try.func28 (by kernel_rfl) rfl #[.string a0, .string a1, .bool false] rfl (by (try simp only [List.map_toArray, List.map_cons, List.map_nil]); first | done | rfl | (simp only [List.length_drop, List.length_take]; rfl)) ?_; (with_reducible refine (impl_IndexBack.calls kj5 a0 a1 false t130 _ A13.out).mono ?_); rintro e w33 ⟨rfl, hb⟩; refine ⟨_, rfl, ?_⟩; have n0_ := Aside0.mk (below_step (by repeat (first | (with_reducible first | exact HB.out | apply below_alloc | apply pw_below_drewN | apply below_drew1) | exact HB.out)) hb); clear HB; have HB := n0_; clear n0_; (try clear hb); (try clear hb2); (try clear hk); (try clear hi)) | ((with_reducible refine gate_callee (f := 29) rfl ?_); refine goesL_ (some 35) rfl rfl Try.func29 (by kernel_rfl) rfl #[.string a0] rfl (by (try simp only [List.map_toArray, List.map_cons, List.map_nil]); first | done | rfl | (simp only [List.length_drop, List.length_take]; rfl)) ?_; (with_reducible refine (spec_Turned.calls kj5 a0 t131 _ A14.out).mono ?_); rintro e w' ⟨rfl, ⟨nd, rfl⟩⟩; refine ⟨_, rfl, ?_⟩) | ((with_reducible refine gate_callee (f := 29) rfl ?_); refine goesL_ (some 37) rfl rfl Try.func29 (by kernel_rfl) rfl #[.string a1] rfl (by (try simp only [List.map_toArray, List.map_cons, List.map_nil]); first | done | rfl | (simp only [List.length_drop, List.length_take]; rfl)) ?_; (with_reducible refine (spec_Turned.calls kj5 a1 t132 _ A15.out).mono ?_); rintro e w' ⟨rfl, ⟨nd, rfl⟩⟩; refine ⟨_, rfl, ?_⟩) | ((with_reducible refine gate_callee (f := 27) rfl ?_); refine goesL_ (some 38) rfl rfl Try.func27 (by kernel_rfl) rfl #[.string t131, .string t132] rfl (by (try simp only [List.map_toArray, List.map_cons, List.map_nil]); first | done | rfl | (simp only [List.length_drop, List.length_take]; rfl)) ?_; (with_reducible refine (impl_IndexAll.calls kj5 t131 t132 t133 _ A16.out).mono ?_); rintro e w34 ⟨rfl, hb⟩; refine ⟨_, rfl, ?_⟩; have n0_ := Aside0.mk (below_step (by repeat (first | (with_reducible first | exact HB.out | apply below_alloc | apply pw_below_drewN | apply below_drew1) | exact HB.out)) hb); clear HB; have HB := n0_; clear n0_; (try clear hb); (try clear hb2); (try clear hk); (try clear hi)))
                  go_ret
                  exact ⟨by first | rfl | (simp [errW_none, errW_some] <;> rfl) | (simp [*, errW_none, errW_some] <;> rfl), by repeat (first | (with_reducible first | exact HB.out | apply below_alloc | apply pw_below_drewN | apply below_drew1) | exact HB.out)⟩
              · rw [if_neg c17] at H
                have c17b0 : decide (t129 < 0) = false := decide_eq_false c17
                clear c17
                by_cases c35 : t130 < 0
                · rw [if_pos c35] at H
                  have c35b0 : decide (t130 < 0) = true := decide_eq_true c35
                  clear c35
                  by_cases c36 : t129 = (-1)
                  · rw [if_pos c36] at H
                    have c36b0 : (t129 == (-1)) = true := beq_iff_eq.mpr c36
                    have c36b1 : (t129 != (-1)) = false := bne_eq_false_iff_eq.mpr c36
                    clear c36
                    by_cases c37 : t130 = (-1)
                    · rw [if_pos c37] at H
                      have c37b0 : (t130 == (-1)) = true := beq_iff_eq.mpr c37
                      have c37b1 : (t130 != (-1)) = false := bne_eq_false_iff_eq.mpr c37
                      clear c37
                      by_cases c38 : t133 = (-1)
                      · rw [if_pos c38] at H
                        have c38b0 : (t133 == (-1)) = true := beq_iff_eq.mpr c38
                        have c38b1 : (t133 != (-1)) = false := bne_eq_false_iff_eq.mpr c38
                        clear c38
                        replace H := Option.bind_eq_some_iff.mp H
                        obtain ⟨t135, A390, H⟩ := H
                        replace H : (some (t135 == 1)) = some r := H
                        have A39 := Aside0.mk A390
                        clear A390
                        obtain rfl := Option.some.inj H
                        go_wp2_with (first | ((with_reducible refine gate_callee (f := 27) rfl ?_); refine goesL_ (some 30) rfl rfl Try.func27 (by kernel_rfl) rfl #[.string a0, .string a1] rfl (by (try simp only [List.map_toArray, List.map_cons, List.map_nil]); first | done | rfl | (simp only [List.length_drop, List.length_take]; rfl)) ?_; (with_reducible refine (impl_IndexAll.calls kj5 a0 a1 t129 _ A12.out).mono ?_); rintro e w40 ⟨rfl, hb⟩; refine ⟨_, rfl, ?_⟩; have n0_ := Aside0.mk (below_step (by repeat (first | (with_reducible first | exact HB.out | apply below_alloc | apply pw_below_drewN | apply below_drew1) | exact HB.out)) hb); clear HB; have HB := n0_; clear n0_; (try clear hb); (try clear hb2); (try clear hk); (try clear hi)) | ((with_reducible refine gate_callee (f := 28) rfl ?_); refine goesL_ (some 33) rfl rfl Try.func28 (by kernel_rfl) rfl #[.string a0, .string a1, .bool false] rfl (by (try simp only [List.map_toArray, List.map_cons, List.map_nil]); first | done | rfl | (simp only [List.length_drop, List.length_take]; rfl)) ?_; (with_reducible refine (impl_IndexBack.calls kj5 a0 a1 false t130 _ A13.out).mono ?_); rintro e w41 ⟨rfl, hb⟩; refine ⟨_, rfl, ?_⟩; have n0_ := Aside0.mk (below_step (by repeat (first | (with_reducible first | exact HB.out | apply below_alloc | apply pw_below_drewN | apply below_drew1) | exact HB.out)) hb); clear HB; have HB := n0_; clear n0_; (try clear hb); (try clear hb2); (try clear hk); (try clear hi)) | ((with_reducible refine gate_callee (f := 29) rfl ?_); refine goesL_ (some 35) rfl rfl Try.func29 (by kernel_rfl) rfl #[.string a0] rfl (by (try simp only [List.map_toArray, List.map_cons, List.map_nil]); first | done | rfl | (simp only [List.length_drop, List.length_take]; rfl)) ?_; (with_reducible refine (spec_Turned.calls kj5 a0 t131 _ A14.out).mono ?_); rintro e w' ⟨rfl, ⟨nd, rfl⟩⟩; refine ⟨_, rfl, ?_⟩) | ((with_reducible refine gate_callee (f := 29) rfl ?_); refine goesL_ (some 37) rfl rfl Try.func29 (by kernel_rfl) rfl #[.string a1] rfl (by (try simp only [List.map_toArray, List.map_cons, List.map_nil]); first | done | rfl | (simp only [List.length_drop, List.length_take]; rfl)) ?_; (with_reducible refine (spec_Turned.calls kj5 a1 t132 _ A15.out).mono ?_); rintro e w' ⟨rfl, ⟨nd, rfl⟩⟩; refine ⟨_, rfl, ?_⟩) | ((with_reducible refine gate_callee (f := 27) rfl ?_); refine goesL_ (some 38) rfl rfl Try.func27 (by kernel_rfl) rfl #[.string t131, .string t132] rfl (by (try simp only [List.map_toArray, List.map_cons, List.map_nil]); first | done | rfl | (simp only [List.length_drop, List.length_take]; rfl)) ?_; (with_reducible refine (impl_IndexAll.calls kj5 t131 t132 t133 _ A16.out).mono ?_); rintro e w42 ⟨rfl, hb⟩; refine ⟨_, rfl, ?_⟩; have n0_ := Aside0.mk (below_step (by repeat (first | (with_reducible first | exact HB.out | apply below_alloc | apply pw_below_drewN | apply below_drew1) | exact HB.out)) hb); clear HB; have HB := n0_; clear n0_; (try clear hb); (try clear hb2); (try clear hk); (try clear hi)) | (go_at_call 27; (with_reducible refine (impl_IndexAll.calls kj5 (⟨#[97, 98]⟩ : ByteArray) (⟨#[98]⟩ : ByteArray) t135 _ A39.out).mono ?_); rintro e w43 ⟨rfl, hb⟩; have n0_ := Aside0.mk (below_step (by repeat (first | (with_reducible first | exact HB.out | apply below_alloc | apply pw_below_drewN | apply below_drew1) | exact HB.out)) hb); clear HB; have HB := n0_; clear n0_; (try clear hb); (try clear hb2); (try clear hk); (try clear hi)))
                        go_ret
                        exact ⟨by first | rfl | (simp [errW_none, errW_some] <;> rfl) | (simp [*, errW_none, errW_some] <;> rfl), by repeat (first | (with_reducible first | exact HB.out | apply below_alloc | apply pw_below_drewN | apply below_drew1) | exact HB.out)⟩
                      · rw [if_neg c38] at H
                        have c38b0 : (t133 == (-1)) = false := beq_eq_false_iff_ne.mpr c38
                        have c38b1 : (t133 != (-1)) = true := bne_iff_ne.mpr c38
                        obtain rfl := Option.some.inj H
                        go_wp2_with (first | ((with_reducible refine gate_callee (f := 27) rfl ?_); refine goesL_ (some 30) rfl rfl Try.func27 (by kernel_rfl) rfl #[.string a0, .string a1] rfl (by (try simp only [List.map_toArray, List.map_cons, List.map_nil]); first | done | rfl | (simp only [List.length_drop, List.length_take]; rfl)) ?_; (with_reducible refine (impl_IndexAll.calls kj5 a0 a1 t129 _ A12.out).mono ?_); rintro e w44 ⟨rfl, hb⟩; refine ⟨_, rfl, ?_⟩; have n0_ := Aside0.mk (below_step (by repeat (first | (with_reducible first | exact HB.out | apply below_alloc | apply pw_below_drewN | apply below_drew1) | exact HB.out)) hb); clear HB; have HB := n0_; clear n0_; (try clear hb); (try clear hb2); (try clear hk); (try clear hi)) | ((with_reducible refine gate_callee (f := 28) rfl ?_); refine goesL_ (some 33) rfl rfl Try.func28 (by kernel_rfl) rfl #[.string a0, .string a1, .bool false] rfl (by (try simp only [List.map_toArray, List.map_cons, List.map_nil]); first | done | rfl | (simp only [List.length_drop, List.length_take]; rfl)) ?_; (with_reducible refine (impl_IndexBack.calls kj5 a0 a1 false t130 _ A13.out).mono ?_); rintro e w45 ⟨rfl, hb⟩; refine ⟨_, rfl, ?_⟩; have n0_ := Aside0.mk (below_step (by repeat (first | (with_reducible first | exact HB.out | apply below_alloc | apply pw_below_drewN | apply below_drew1) | exact HB.out)) hb); clear HB; have HB := n0_; clear n0_; (try clear hb); (try clear hb2); (try clear hk); (try clear hi)) | ((with_reducible refine gate_callee (f := 29) rfl ?_); refine goesL_ (some 35) rfl rfl Try.func29 (by kernel_rfl) rfl #[.string a0] rfl (by (try simp only [List.map_toArray, List.map_cons, List.map_nil]); first | done | rfl | (simp only [List.length_drop, List.length_take]; rfl)) ?_; (with_reducible refine (spec_Turned.calls kj5 a0 t131 _ A14.out).mono ?_); rintro e w' ⟨rfl, ⟨nd, rfl⟩⟩; refine ⟨_, rfl, ?_⟩) | ((with_reducible refine gate_callee (f := 29) rfl ?_); refine goesL_ (some 37) rfl rfl Try.func29 (by kernel_rfl) rfl #[.string a1] rfl (by (try simp only [List.map_toArray, List.map_cons, List.map_nil]); first | done | rfl | (simp only [List.length_drop, List.length_take]; rfl)) ?_; (with_reducible refine (spec_Turned.calls kj5 a1 t132 _ A15.out).mono ?_); rintro e w' ⟨rfl, ⟨nd, rfl⟩⟩; refine ⟨_, rfl, ?_⟩) | ((with_reducible refine gate_callee (f := 27) rfl ?_); refine goesL_ (some 38) rfl rfl Try.func27 (by kernel_rfl) rfl #[.string t131, .string t132] rfl (by (try simp only [List.map_toArray, List.map_cons, List.map_nil]); first | done | rfl | (simp only [List.length_drop, List.length_take]; rfl)) ?_; (with_reducible refine (impl_IndexAll.calls kj5 t131 t132 t133 _ A16.out).mono ?_); rintro e w46 ⟨rfl, hb⟩; refine ⟨_, rfl, ?_⟩; have n0_ := Aside0.mk (below_step (by repeat (first | (with_reducible first | exact HB.out | apply below_alloc | apply pw_below_drewN | apply below_drew1) | exact HB.out)) hb); clear HB; have HB := n0_; clear n0_; (try clear hb); (try clear hb2); (try clear hk); (try clear hi)))
                        go_ret
                        exact ⟨by first | rfl | (simp [errW_none, errW_some] <;> rfl) | (simp [*, errW_none, errW_some] <;> rfl), by repeat (first | (with_reducible first | exact HB.out | apply below_alloc | apply pw_below_drewN | apply below_drew1) | exact HB.out)⟩
                    · rw [if_neg c37] at H
                      have c37b0 : (t130 == (-1)) = false := beq_eq_false_iff_ne.mpr c37
                      have c37b1 : (t130 != (-1)) = true := bne_iff_ne.mpr c37
                      obtain rfl := Option.some.inj H
                      go_wp2_with (first | ((with_reducible refine gate_callee (f := 27) rfl ?_); refine goesL_ (some 30) rfl rfl Try.func27 (by kernel_rfl) rfl #[.string a0, .string a1] rfl (by (try simp only [List.map_toArray, List.map_cons, List.map_nil]); first | done | rfl | (simp only [List.length_drop, List.length_take]; rfl)) ?_; (with_reducible refine (impl_IndexAll.calls kj5 a0 a1 t129 _ A12.out).mono ?_); rintro e w47 ⟨rfl, hb⟩; refine ⟨_, rfl, ?_⟩; have n0_ := Aside0.mk (below_step (by repeat (first | (with_reducible first | exact HB.out | apply below_alloc | apply pw_below_drewN | apply below_drew1) | exact HB.out)) hb); clear HB; have HB := n0_; clear n0_; (try clear hb); (try clear hb2); (try clear hk); (try clear hi)) | ((with_reducible refine gate_callee (f := 28) rfl ?_); refine goesL_ (some 33) rfl rfl Try.func28 (by kernel_rfl) rfl #[.string a0, .string a1, .bool false] rfl (by (try simp only [List.map_toArray, List.map_cons, List.map_nil]); first | done | rfl | (simp only [List.length_drop, List.length_take]; rfl)) ?_; (with_reducible refine (impl_IndexBack.calls kj5 a0 a1 false t130 _ A13.out).mono ?_); rintro e w48 ⟨rfl, hb⟩; refine ⟨_, rfl, ?_⟩; have n0_ := Aside0.mk (below_step (by repeat (first | (with_reducible first | exact HB.out | apply below_alloc | apply pw_below_drewN | apply below_drew1) | exact HB.out)) hb); clear HB; have HB := n0_; clear n0_; (try clear hb); (try clear hb2); (try clear hk); (try clear hi)) | ((with_reducible refine gate_callee (f := 29) rfl ?_); refine goesL_ (some 35) rfl rfl Try.func29 (by kernel_rfl) rfl #[.string a0] rfl (by (try simp only [List.map_toArray, List.map_cons, List.map_nil]); first | done | rfl | (simp only [List.length_drop, List.length_take]; rfl)) ?_; (with_reducible refine (spec_Turned.calls kj5 a0 t131 _ A14.out).mono ?_); rintro e w' ⟨rfl, ⟨nd, rfl⟩⟩; refine ⟨_, rfl, ?_⟩) | ((with_reducible refine gate_callee (f := 29) rfl ?_); refine goesL_ (some 37) rfl rfl Try.func29 (by kernel_rfl) rfl #[.string a1] rfl (by (try simp only [List.map_toArray, List.map_cons, List.map_nil]); first | done | rfl | (simp only [List.length_drop, List.length_take]; rfl)) ?_; (with_reducible refine (spec_Turned.calls kj5 a1 t132 _ A15.out).mono ?_); rintro e w' ⟨rfl, ⟨nd, rfl⟩⟩; refine ⟨_, rfl, ?_⟩) | ((with_reducible refine gate_callee (f := 27) rfl ?_); refine goesL_ (some 38) rfl rfl Try.func27 (by kernel_rfl) rfl #[.string t131, .string t132] rfl (by (try simp only [List.map_toArray, List.map_cons, List.map_nil]); first | done | rfl | (simp only [List.length_drop, List.length_take]; rfl)) ?_; (with_reducible refine (impl_IndexAll.calls kj5 t131 t132 t133 _ A16.out).mono ?_); rintro e w49 ⟨rfl, hb⟩; refine ⟨_, rfl, ?_⟩; have n0_ := Aside0.mk (below_step (by repeat (first | (with_reducible first | exact HB.out | apply below_alloc | apply pw_below_drewN | apply below_drew1) | exact HB.out)) hb); clear HB; have HB := n0_; clear n0_; (try clear hb); (try clear hb2); (try clear hk); (try clear hi)))
                      go_ret
                      exact ⟨by first | rfl | (simp [errW_none, errW_some] <;> rfl) | (simp [*, errW_none, errW_some] <;> rfl), by repeat (first | (with_reducible first | exact HB.out | apply below_alloc | apply pw_below_drewN | apply below_drew1) | exact HB.out)⟩
                  · rw [if_neg c36] at H
                    have c36b0 : (t129 == (-1)) = false := beq_eq_false_iff_ne.mpr c36
                    have c36b1 : (t129 != (-1)) = true := bne_iff_ne.mpr c36
                    obtain rfl := Option.some.inj H
                    go_wp2_with (first | ((with_reducible refine gate_callee (f := 27) rfl ?_); refine goesL_ (some 30) rfl rfl Try.func27 (by kernel_rfl) rfl #[.string a0, .string a1] rfl (by (try simp only [List.map_toArray, List.map_cons, List.map_nil]); first | done | rfl | (simp only [List.length_drop, List.length_take]; rfl)) ?_; (with_reducible refine (impl_IndexAll.calls kj5 a0 a1 t129 _ A12.out).mono ?_); rintro e w50 ⟨rfl, hb⟩; refine ⟨_, rfl, ?_⟩; have n0_ := Aside0.mk (below_step (by repeat (first | (with_reducible first | exact HB.out | apply below_alloc | apply pw_below_drewN | apply below_drew1) | exact HB.out)) hb); clear HB; have HB := n0_; clear n0_; (try clear hb); (try clear hb2); (try clear hk); (try clear hi)) | ((with_reducible refine gate_callee (f := 28) rfl ?_); refine goesL_ (some 33) rfl rfl Try.func28 (by kernel_rfl) rfl #[.string a0, .string a1, .bool false] rfl (by (try simp only [List.map_toArray, List.map_cons, List.map_nil]); first | done | rfl | (simp only [List.length_drop, List.length_take]; rfl)) ?_; (with_reducible refine (impl_IndexBack.calls kj5 a0 a1 false t130 _ A13.out).mono ?_); rintro e w51 ⟨rfl, hb⟩; refine ⟨_, rfl, ?_⟩; have n0_ := Aside0.mk (below_step (by repeat (first | (with_reducible first | exact HB.out | apply below_alloc | apply pw_below_drewN | apply below_drew1) | exact HB.out)) hb); clear HB; have HB := n0_; clear n0_; (try clear hb); (try clear hb2); (try clear hk); (try clear hi)) | ((with_reducible refine gate_callee (f := 29) rfl ?_); refine goesL_ (some 35) rfl rfl Try.func29 (by kernel_rfl) rfl #[.string a0] rfl (by (try simp only [List.map_toArray, List.map_cons, List.map_nil]); first | done | rfl | (simp only [List.length_drop, List.length_take]; rfl)) ?_; (with_reducible refine (spec_Turned.calls kj5 a0 t131 _ A14.out).mono ?_); rintro e w' ⟨rfl, ⟨nd, rfl⟩⟩; refine ⟨_, rfl, ?_⟩) | ((with_reducible refine gate_callee (f := 29) rfl ?_); refine goesL_ (some 37) rfl rfl Try.func29 (by kernel_rfl) rfl #[.string a1] rfl (by (try simp only [List.map_toArray, List.map_cons, List.map_nil]); first | done | rfl | (simp only [List.length_drop, List.length_take]; rfl)) ?_; (with_reducible refine (spec_Turned.calls kj5 a1 t132 _ A15.out).mono ?_); rintro e w' ⟨rfl, ⟨nd, rfl⟩⟩; refine ⟨_, rfl, ?_⟩) | ((with_reducible refine gate_callee (f := 27) rfl ?_); refine goesL_ (some 38) rfl rfl Try.func27 (by kernel_rfl) rfl #[.string t131, .string t132] rfl (by (try simp only [List.map_toArray, List.map_cons, List.map_nil]); first | done | rfl | (simp only [List.length_drop, List.length_take]; rfl)) ?_; (with_reducible refine (impl_IndexAll.calls kj5 t131 t132 t133 _ A16.out).mono ?_); rintro e w52 ⟨rfl, hb⟩; refine ⟨_, rfl, ?_⟩; have n0_ := Aside0.mk (below_step (by repeat (first | (with_reducible first | exact HB.out | apply below_alloc | apply pw_below_drewN | apply below_drew1) | exact HB.out)) hb); clear HB; have HB := n0_; clear n0_; (try clear hb); (try clear hb2); (try clear hk); (try clear hi)))
                    go_ret
                    exact ⟨by first | rfl | (simp [errW_none, errW_some] <;> rfl) | (simp [*, errW_none, errW_some] <;> rfl), by repeat (first | (with_reducible first | exact HB.out | apply below_alloc | apply pw_below_drewN | apply below_drew1) | exact HB.out)⟩
                · rw [if_neg c35] at H
                  have c35b0 : decide (t130 < 0) = false := decide_eq_false c35
                  clear c35
                  by_cases c53 : t129 ≤ t130
                  · rw [if_pos c53] at H
                    have c53b0 : decide (t129 ≤ t130) = true := decide_eq_true c53
                    clear c53
                    by_cases c54 : (wrap64 (t130 + (a1.size : Int))) ≤ (a0.size : Int)
                    · rw [if_pos c54] at H
                      have c54b0 : decide ((wrap64 (t130 + (a1.size : Int))) ≤ (a0.size : Int)) = true := decide_eq_true c54
                      clear c54
                      by_cases c55 : t133 = (wrap64 ((wrap64 ((a0.size : Int) - (a1.size : Int))) - t130))
                      · rw [if_pos c55] at H
                        have c55b0 : (t133 == (wrap64 ((wrap64 ((a0.size : Int) - (a1.size : Int))) - t130))) = true := beq_iff_eq.mpr c55
                        have c55b1 : (t133 != (wrap64 ((wrap64 ((a0.size : Int) - (a1.size : Int))) - t130))) = false := bne_eq_false_iff_eq.mpr c55
                        clear c55
                        by_cases c56 : 0 ≤ t129
                        · rw [if_pos c56] at H
                          have c56b0 := eq_true c56
                          have c56b1 : decide (0 ≤ t129) = true := decide_eq_true c56
                          clear c56
                          by_cases c57 : t129 ≤ (wrap64 (t129 + (a1.size : Int)))
                          · rw [if_pos c57] at H
                            have c57b0 := eq_true c57
                            have c57b1 : decide (t129 ≤ (wrap64 (t129 + (a1.size : Int)))) = true := decide_eq_true c57
                            by_cases c58 : (wrap64 (t129 + (a1.size : Int))) ≤ (a0.size : Int)
                            · rw [if_pos c58] at H
                              have c58b0 := eq_true c58
                              have c58b1 : decide ((wrap64 (t129 + (a1.size : Int))) ≤ (a0.size : Int)) = true := decide_eq_true c58
                              by_cases c59 : (a0.extract (t129 : Int).toNat ((wrap64 (t129 + (a1.size : Int))) : Int).toNat).toList = a1.toList
                              · rw [if_pos c59] at H
                                have c59b0 : ((a0.extract (t129 : Int).toNat ((wrap64 (t129 + (a1.size : Int))) : Int).toNat).toList == a1.toList) = true := beq_iff_eq.mpr c59
                                have c59b1 : ((a0.extract (t129 : Int).toNat ((wrap64 (t129 + (a1.size : Int))) : Int).toNat).toList != a1.toList) = false := bne_eq_false_iff_eq.mpr c59
                                clear c59
                                by_cases c60 : 0 ≤ t130
                                · rw [if_pos c60] at H
                                  have c60b0 := eq_true c60
                                  have c60b1 : decide (0 ≤ t130) = true := decide_eq_true c60
                                  clear c60
                                  by_cases c61 : t130 ≤ (wrap64 (t130 + (a1.size : Int)))
                                  · rw [if_pos c61] at H
                                    have c61b0 := eq_true c61
                                    have c61b1 : decide (t130 ≤ (wrap64 (t130 + (a1.size : Int)))) = true := decide_eq_true c61
                                    have c62b0 := eq_true (of_decide_eq_true (by first | (with_reducible assumption) | assumption) : (wrap64 (t130 + (a1.size : Int))) ≤ (a0.size : Int))
                                    obtain rfl := Option.some.inj H
                                    go_wp2_with (first | ((with_reducible refine gate_callee (f := 27) rfl ?_); refine goesL_ (some 30) rfl rfl Try.func27 (by kernel_rfl) rfl #[.string a0, .string a1] rfl (by (try simp only [List.map_toArray, List.map_cons, List.map_nil]); first | done | rfl | (simp only [List.length_drop, List.length_take]; rfl)) ?_; (with_reducible refine (impl_IndexAll.calls kj5 a0 a1 t129 _ A12.out).mono ?_); rintro e w63 ⟨rfl, hb⟩; refine ⟨_, rfl, ?_⟩; have n0_ := Aside0.mk (below_step (by repeat (first | (with_reducible first | exact HB.out | apply below_alloc | apply pw_below_drewN | apply below_drew1) | exact HB.out)) hb); clear HB; have HB := n0_; clear n0_; (try clear hb); (try clear hb2); (try clear hk); (try clear hi)) | ((with_reducible refine gate_callee (f := 28) rfl ?_); refine goesL_ (some 33) rfl rfl Try.func28 (by kernel_rfl) rfl #[.string a0, .string a1, .bool false] rfl (by (try simp only [List.map_toArray, List.map_cons, List.map_nil]); first | done | rfl | (simp only [List.length_drop, List.length_take]; rfl)) ?_; (with_reducible refine (impl_IndexBack.calls kj5 a0 a1 false t130 _ A13.out).mono ?_); rintro e w64 ⟨rfl, hb⟩; refine ⟨_, rfl, ?_⟩; have n0_ := Aside0.mk (below_step (by repeat (first | (with_reducible first | exact HB.out | apply below_alloc | apply pw_below_drewN | apply below_drew1) | exact HB.out)) hb); clear HB; have HB := n0_; clear n0_; (try clear hb); (try clear hb2); (try clear hk); (try clear hi)) | ((with_reducible refine gate_callee (f := 29) rfl ?_); refine goesL_ (some 35) rfl rfl Try.func29 (by kernel_rfl) rfl #[.string a0] rfl (by (try simp only [List.map_toArray, List.map_cons, List.map_nil]); first | done | rfl | (simp only [List.length_drop, List.length_take]; rfl)) ?_; (with_reducible refine (spec_Turned.calls kj5 a0 t131 _ A14.out).mono ?_); rintro e w' ⟨rfl, ⟨nd, rfl⟩⟩; refine ⟨_, rfl, ?_⟩) | ((with_reducible refine gate_callee (f := 29) rfl ?_); refine goesL_ (some 37) rfl rfl Try.func29 (by kernel_rfl) rfl #[.string a1] rfl (by (try simp only [List.map_toArray, List.map_cons, List.map_nil]); first | done | rfl | (simp only [List.length_drop, List.length_take]; rfl)) ?_; (with_reducible refine (spec_Turned.calls kj5 a1 t132 _ A15.out).mono ?_); rintro e w' ⟨rfl, ⟨nd, rfl⟩⟩; refine ⟨_, rfl, ?_⟩) | ((with_reducible refine gate_callee (f := 27) rfl ?_); refine goesL_ (some 38) rfl rfl Try.func27 (by kernel_rfl) rfl #[.string t131, .string t132] rfl (by (try simp only [List.map_toArray, List.map_cons, List.map_nil]); first | done | rfl | (simp only [List.length_drop, List.length_take]; rfl)) ?_; (with_reducible refine (impl_IndexAll.calls kj5 t131 t132 t133 _ A16.out).mono ?_); rintro e w65 ⟨rfl, hb⟩; refine ⟨_, rfl, ?_⟩; have n0_ := Aside0.mk (below_step (by repeat (first | (with_reducible first | exact HB.out | apply below_alloc | apply pw_below_drewN | apply below_drew1) | exact HB.out)) hb); clear HB; have HB := n0_; clear n0_; (try clear hb); (try clear hb2); (try clear hk); (try clear hi)))
                                    go_ret
                                    exact ⟨by first | rfl | (simp [errW_none, errW_some] <;> rfl) | (simp [*, errW_none, errW_some] <;> rfl), by repeat (first | (with_reducible first | exact HB.out | apply below_alloc | apply pw_below_drewN | apply below_drew1) | exact HB.out)⟩
                                  · rw [if_neg c61] at H
                                    exact absurd H (by simp)
                                · rw [if_neg c60] at H
                                  exact absurd H (by simp)
                              · rw [if_neg c59] at H
                                have c59b0 : ((a0.extract (t129 : Int).toNat ((wrap64 (t129 + (a1.size : Int))) : Int).toNat).toList == a1.toList) = false := beq_eq_false_iff_ne.mpr c59
                                have c59b1 : ((a0.extract (t129 : Int).toNat ((wrap64 (t129 + (a1.size : Int))) : Int).toNat).toList != a1.toList) = true := bne_iff_ne.mpr c59
                                obtain rfl := Option.some.inj H
                                go_wp2_with (first | ((with_reducible refine gate_callee (f := 27) rfl ?_); refine goesL_ (some 30) rfl rfl Try.func27 (by kernel_rfl) rfl #[.string a0, .string a1] rfl (by (try simp only [List.map_toArray, List.map_cons, List.map_nil]); first | done | rfl | (simp only [List.length_drop, List.length_take]; rfl)) ?_; (with_reducible refine (impl_IndexAll.calls kj5 a0 a1 t129 _ A12.out).mono ?_); rintro e w66 ⟨rfl, hb⟩; refine ⟨_, rfl, ?_⟩; have n0_ := Aside0.mk (below_step (by repeat (first | (with_reducible first | exact HB.out | apply below_alloc | apply pw_below_drewN | apply below_drew1) | exact HB.out)) hb); clear HB; have HB := n0_; clear n0_; (try clear hb); (try clear hb2); (try clear hk); (try clear hi)) | ((with_reducible refine gate_callee (f := 28) rfl ?_); refine goesL_ (some 33) rfl rfl Try.func28 (by kernel_rfl) rfl #[.string a0, .string a1, .bool false] rfl (by (try simp only [List.map_toArray, List.map_cons, List.map_nil]); first | done | rfl | (simp only [List.length_drop, List.length_take]; rfl)) ?_; (with_reducible refine (impl_IndexBack.calls kj5 a0 a1 false t130 _ A13.out).mono ?_); rintro e w67 ⟨rfl, hb⟩; refine ⟨_, rfl, ?_⟩; have n0_ := Aside0.mk (below_step (by repeat (first | (with_reducible first | exact HB.out | apply below_alloc | apply pw_below_drewN | apply below_drew1) | exact HB.out)) hb); clear HB; have HB := n0_; clear n0_; (try clear hb); (try clear hb2); (try clear hk); (try clear hi)) | ((with_reducible refine gate_callee (f := 29) rfl ?_); refine goesL_ (some 35) rfl rfl Try.func29 (by kernel_rfl) rfl #[.string a0] rfl (by (try simp only [List.map_toArray, List.map_cons, List.map_nil]); first | done | rfl | (simp only [List.length_drop, List.length_take]; rfl)) ?_; (with_reducible refine (spec_Turned.calls kj5 a0 t131 _ A14.out).mono ?_); rintro e w' ⟨rfl, ⟨nd, rfl⟩⟩; refine ⟨_, rfl, ?_⟩) | ((with_reducible refine gate_callee (f := 29) rfl ?_); refine goesL_ (some 37) rfl rfl Try.func29 (by kernel_rfl) rfl #[.string a1] rfl (by (try simp only [List.map_toArray, List.map_cons, List.map_nil]); first | done | rfl | (simp only [List.length_drop, List.length_take]; rfl)) ?_; (with_reducible refine (spec_Turned.calls kj5 a1 t132 _ A15.out).mono ?_); rintro e w' ⟨rfl, ⟨nd, rfl⟩⟩; refine ⟨_, rfl, ?_⟩) | ((with_reducible refine gate_callee (f := 27) rfl ?_); refine goesL_ (some 38) rfl rfl Try.func27 (by kernel_rfl) rfl #[.string t131, .string t132] rfl (by (try simp only [List.map_toArray, List.map_cons, List.map_nil]); first | done | rfl | (simp only [List.length_drop, List.length_take]; rfl)) ?_; (with_reducible refine (impl_IndexAll.calls kj5 t131 t132 t133 _ A16.out).mono ?_); rintro e w68 ⟨rfl, hb⟩; refine ⟨_, rfl, ?_⟩; have n0_ := Aside0.mk (below_step (by repeat (first | (with_reducible first | exact HB.out | apply below_alloc | apply pw_below_drewN | apply below_drew1) | exact HB.out)) hb); clear HB; have HB := n0_; clear n0_; (try clear hb); (try clear hb2); (try clear hk); (try clear hi)))
                                go_ret
                                exact ⟨by first | rfl | (simp [errW_none, errW_some] <;> rfl) | (simp [*, errW_none, errW_some] <;> rfl), by repeat (first | (with_reducible first | exact HB.out | apply below_alloc | apply pw_below_drewN | apply below_drew1) | exact HB.out)⟩
                            · rw [if_neg c58] at H
                              exact absurd H (by simp)
                          · rw [if_neg c57] at H
                            exact absurd H (by simp)
                        · rw [if_neg c56] at H
                          exact absurd H (by simp)
                      · rw [if_neg c55] at H
                        have c55b0 : (t133 == (wrap64 ((wrap64 ((a0.size : Int) - (a1.size : Int))) - t130))) = false := beq_eq_false_iff_ne.mpr c55
                        have c55b1 : (t133 != (wrap64 ((wrap64 ((a0.size : Int) - (a1.size : Int))) - t130))) = true := bne_iff_ne.mpr c55
                        obtain rfl := Option.some.inj H
                        go_wp2_with (first | ((with_reducible refine gate_callee (f := 27) rfl ?_); refine goesL_ (some 30) rfl rfl Try.func27 (by kernel_rfl) rfl #[.string a0, .string a1] rfl (by (try simp only [List.map_toArray, List.map_cons, List.map_nil]); first | done | rfl | (simp only [List.length_drop, List.length_take]; rfl)) ?_; (with_reducible refine (impl_IndexAll.calls kj5 a0 a1 t129 _ A12.out).mono ?_); rintro e w69 ⟨rfl, hb⟩; refine ⟨_, rfl, ?_⟩; have n0_ := Aside0.mk (below_step (by repeat (first | (with_reducible first | exact HB.out | apply below_alloc | apply pw_below_drewN | apply below_drew1) | exact HB.out)) hb); clear HB; have HB := n0_; clear n0_; (try clear hb); (try clear hb2); (try clear hk); (try clear hi)) | ((with_reducible refine gate_callee (f := 28) rfl ?_); refine goesL_ (some 33) rfl rfl Try.func28 (by kernel_rfl) rfl #[.string a0, .string a1, .bool false] rfl (by (try simp only [List.map_toArray, List.map_cons, List.map_nil]); first | done | rfl | (simp only [List.length_drop, List.length_take]; rfl)) ?_; (with_reducible refine (impl_IndexBack.calls kj5 a0 a1 false t130 _ A13.out).mono ?_); rintro e w70 ⟨rfl, hb⟩; refine ⟨_, rfl, ?_⟩; have n0_ := Aside0.mk (below_step (by repeat (first | (with_reducible first | exact HB.out | apply below_alloc | apply pw_below_drewN | apply below_drew1) | exact HB.out)) hb); clear HB; have HB := n0_; clear n0_; (try clear hb); (try clear hb2); (try clear hk); (try clear hi)) | ((with_reducible refine gate_callee (f := 29) rfl ?_); refine goesL_ (some 35) rfl rfl Try.func29 (by kernel_rfl) rfl #[.string a0] rfl (by (try simp only [List.map_toArray, List.map_cons, List.map_nil]); first | done | rfl | (simp only [List.length_drop, List.length_take]; rfl)) ?_; (with_reducible refine (spec_Turned.calls kj5 a0 t131 _ A14.out).mono ?_); rintro e w' ⟨rfl, ⟨nd, rfl⟩⟩; refine ⟨_, rfl, ?_⟩) | ((with_reducible refine gate_callee (f := 29) rfl ?_); refine goesL_ (some 37) rfl rfl Try.func29 (by kernel_rfl) rfl #[.string a1] rfl (by (try simp only [List.map_toArray, List.map_cons, List.map_nil]); first | done | rfl | (simp only [List.length_drop, List.length_take]; rfl)) ?_; (with_reducible refine (spec_Turned.calls kj5 a1 t132 _ A15.out).mono ?_); rintro e w' ⟨rfl, ⟨nd, rfl⟩⟩; refine ⟨_, rfl, ?_⟩) | ((with_reducible refine gate_callee (f := 27) rfl ?_); refine goesL_ (some 38) rfl rfl Try.func27 (by kernel_rfl) rfl #[.string t131, .string t132] rfl (by (try simp only [List.map_toArray, List.map_cons, List.map_nil]); first | done | rfl | (simp only [List.length_drop, List.length_take]; rfl)) ?_; (with_reducible refine (impl_IndexAll.calls kj5 t131 t132 t133 _ A16.out).mono ?_); rintro e w71 ⟨rfl, hb⟩; refine ⟨_, rfl, ?_⟩; have n0_ := Aside0.mk (below_step (by repeat (first | (with_reducible first | exact HB.out | apply below_alloc | apply pw_below_drewN | apply below_drew1) | exact HB.out)) hb); clear HB; have HB := n0_; clear n0_; (try clear hb); (try clear hb2); (try clear hk); (try clear hi)))
                        go_ret
                        exact ⟨by first | rfl | (simp [errW_none, errW_some] <;> rfl) | (simp [*, errW_none, errW_some] <;> rfl), by repeat (first | (with_reducible first | exact HB.out | apply below_alloc | apply pw_below_drewN | apply below_drew1) | exact HB.out)⟩
                    · rw [if_neg c54] at H
                      have c54b0 : decide ((wrap64 (t130 + (a1.size : Int))) ≤ (a0.size : Int)) = false := decide_eq_false c54
                      clear c54
                      obtain rfl := Option.some.inj H
                      go_wp2_with (first | ((with_reducible refine gate_callee (f := 27) rfl ?_); refine goesL_ (some 30) rfl rfl Try.func27 (by kernel_rfl) rfl #[.string a0, .string a1] rfl (by (try simp only [List.map_toArray, List.map_cons, List.map_nil]); first | done | rfl | (simp only [List.length_drop, List.length_take]; rfl)) ?_; (with_reducible refine (impl_IndexAll.calls kj5 a0 a1 t129 _ A12.out).mono ?_); rintro e w72 ⟨rfl, hb⟩; refine ⟨_, rfl, ?_⟩; have n0_ := Aside0.mk (below_step (by repeat (first | (with_reducible first | exact HB.out | apply below_alloc | apply pw_below_drewN | apply below_drew1) | exact HB.out)) hb); clear HB; have HB := n0_; clear n0_; (try clear hb); (try clear hb2); (try clear hk); (try clear hi)) | ((with_reducible refine gate_callee (f := 28) rfl ?_); refine goesL_ (some 33) rfl rfl Try.func28 (by kernel_rfl) rfl #[.string a0, .string a1, .bool false] rfl (by (try simp only [List.map_toArray, List.map_cons, List.map_nil]); first | done | rfl | (simp only [List.length_drop, List.length_take]; rfl)) ?_; (with_reducible refine (impl_IndexBack.calls kj5 a0 a1 false t130 _ A13.out).mono ?_); rintro e w73 ⟨rfl, hb⟩; refine ⟨_, rfl, ?_⟩; have n0_ := Aside0.mk (below_step (by repeat (first | (with_reducible first | exact HB.out | apply below_alloc | apply pw_below_drewN | apply below_drew1) | exact HB.out)) hb); clear HB; have HB := n0_; clear n0_; (try clear hb); (try clear hb2); (try clear hk); (try clear hi)) | ((with_reducible refine gate_callee (f := 29) rfl ?_); refine goesL_ (some 35) rfl rfl Try.func29 (by kernel_rfl) rfl #[.string a0] rfl (by (try simp only [List.map_toArray, List.map_cons, List.map_nil]); first | done | rfl | (simp only [List.length_drop, List.length_take]; rfl)) ?_; (with_reducible refine (spec_Turned.calls kj5 a0 t131 _ A14.out).mono ?_); rintro e w' ⟨rfl, ⟨nd, rfl⟩⟩; refine ⟨_, rfl, ?_⟩) | ((with_reducible refine gate_callee (f := 29) rfl ?_); refine goesL_ (some 37) rfl rfl Try.func29 (by kernel_rfl) rfl #[.string a1] rfl (by (try simp only [List.map_toArray, List.map_cons, List.map_nil]); first | done | rfl | (simp only [List.length_drop, List.length_take]; rfl)) ?_; (with_reducible refine (spec_Turned.calls kj5 a1 t132 _ A15.out).mono ?_); rintro e w' ⟨rfl, ⟨nd, rfl⟩⟩; refine ⟨_, rfl, ?_⟩) | ((with_reducible refine gate_callee (f := 27) rfl ?_); refine goesL_ (some 38) rfl rfl Try.func27 (by kernel_rfl) rfl #[.string t131, .string t132] rfl (by (try simp only [List.map_toArray, List.map_cons, List.map_nil]); first | done | rfl | (simp only [List.length_drop, List.length_take]; rfl)) ?_; (with_reducible refine (impl_IndexAll.calls kj5 t131 t132 t133 _ A16.out).mono ?_); rintro e w74 ⟨rfl, hb⟩; refine ⟨_, rfl, ?_⟩; have n0_ := Aside0.mk (below_step (by repeat (first | (with_reducible first | exact HB.out | apply below_alloc | apply pw_below_drewN | apply below_drew1) | exact HB.out)) hb); clear HB; have HB := n0_; clear n0_; (try clear hb); (try clear hb2); (try clear hk); (try clear hi)))
                      go_ret
                      exact ⟨by first | rfl | (simp [errW_none, errW_some] <;> rfl) | (simp [*, errW_none, errW_some] <;> rfl), by repeat (first | (with_reducible first | exact HB.out | apply below_alloc | apply pw_below_drewN | apply below_drew1) | exact HB.out)⟩
                  · rw [if_neg c53] at H
                    have c53b0 : decide (t129 ≤ t130) = false := decide_eq_false c53
                    clear c53
                    obtain rfl := Option.some.inj H
                    go_wp2_with (first | ((with_reducible refine gate_callee (f := 27) rfl ?_); refine goesL_ (some 30) rfl rfl Try.func27 (by kernel_rfl) rfl #[.string a0, .string a1] rfl (by (try simp only [List.map_toArray, List.map_cons, List.map_nil]); first | done | rfl | (simp only [List.length_drop, List.length_take]; rfl)) ?_; (with_reducible refine (impl_IndexAll.calls kj5 a0 a1 t129 _ A12.out).mono ?_); rintro e w75 ⟨rfl, hb⟩; refine ⟨_, rfl, ?_⟩; have n0_ := Aside0.mk (below_step (by repeat (first | (with_reducible first | exact HB.out | apply below_alloc | apply pw_below_drewN | apply below_drew1) | exact HB.out)) hb); clear HB; have HB := n0_; clear n0_; (try clear hb); (try clear hb2); (try clear hk); (try clear hi)) | ((with_reducible refine gate_callee (f := 28) rfl ?_); refine goesL_ (some 33) rfl rfl Try.func28 (by kernel_rfl) rfl #[.string a0, .string a1, .bool false] rfl (by (try simp only [List.map_toArray, List.map_cons, List.map_nil]); first | done | rfl | (simp only [List.length_drop, List.length_take]; rfl)) ?_; (with_reducible refine (impl_IndexBack.calls kj5 a0 a1 false t130 _ A13.out).mono ?_); rintro e w76 ⟨rfl, hb⟩; refine ⟨_, rfl, ?_⟩; have n0_ := Aside0.mk (below_step (by repeat (first | (with_reducible first | exact HB.out | apply below_alloc | apply pw_below_drewN | apply below_drew1) | exact HB.out)) hb); clear HB; have HB := n0_; clear n0_; (try clear hb); (try clear hb2); (try clear hk); (try clear hi)) | ((with_reducible refine gate_callee (f := 29) rfl ?_); refine goesL_ (some 35) rfl rfl Try.func29 (by kernel_rfl) rfl #[.string a0] rfl (by (try simp only [List.map_toArray, List.map_cons, List.map_nil]); first | done | rfl | (simp only [List.length_drop, List.length_take]; rfl)) ?_; (with_reducible refine (spec_Turned.calls kj5 a0 t131 _ A14.out).mono ?_); rintro e w' ⟨rfl, ⟨nd, rfl⟩⟩; refine ⟨_, rfl, ?_⟩) | ((with_reducible refine gate_callee (f := 29) rfl ?_); refine goesL_ (some 37) rfl rfl Try.func29 (by kernel_rfl) rfl #[.string a1] rfl (by (try simp only [List.map_toArray, List.map_cons, List.map_nil]); first | done | rfl | (simp only [List.length_drop, List.length_take]; rfl)) ?_; (with_reducible refine (spec_Turned.calls kj5 a1 t132 _ A15.out).mono ?_); rintro e w' ⟨rfl, ⟨nd, rfl⟩⟩; refine ⟨_, rfl, ?_⟩) | ((with_reducible refine gate_callee (f := 27) rfl ?_); refine goesL_ (some 38) rfl rfl Try.func27 (by kernel_rfl) rfl #[.string t131, .string t132] rfl (by (try simp only [List.map_toArray, List.map_cons, List.map_nil]); first | done | rfl | (simp only [List.length_drop, List.length_take]; rfl)) ?_; (with_reducible refine (impl_IndexAll.calls kj5 t131 t132 t133 _ A16.out).mono ?_); rintro e w77 ⟨rfl, hb⟩; refine ⟨_, rfl, ?_⟩; have n0_ := Aside0.mk (below_step (by repeat (first | (with_reducible first | exact HB.out | apply below_alloc | apply pw_below_drewN | apply below_drew1) | exact HB.out)) hb); clear HB; have HB := n0_; clear n0_; (try clear hb); (try clear hb2); (try clear hk); (try clear hi)))
                    go_ret
                    exact ⟨by first | rfl | (simp [errW_none, errW_some] <;> rfl) | (simp [*, errW_none, errW_some] <;> rfl), by repeat (first | (with_reducible first | exact HB.out | apply below_alloc | apply pw_below_drewN | apply below_drew1) | exact HB.out)⟩

/-- THE ONE PURE STATEMENT of laws_FnIndexBoth: yours. -/
def laws_FnIndexBoth.Pure : Prop := ∀ (a0 : ByteArray) (a1 : ByteArray), a0.size ≤ 140737488351232 → a1.size ≤ 140737488351232 → ∃ k, laws_FnIndexBoth.f k a0 a1 = some true
theorem laws_FnIndexBoth.walk (P : laws_FnIndexBoth.Pure) (a0 : ByteArray) (a1 : ByteArray) (w : World) (w0 : a0.size ≤ 140737488351232) (w1 : a1.size ≤ 140737488351232) :
    Calls Try.prog 9 #[.string a0, .string a1] w fun e w' => e = .returned (.bool true) ∧ Below w.heap.size w w' := by
  obtain ⟨k, h⟩ := P a0 a1 w0 w1
  refine (laws_FnIndexBoth.calls k a0 a1 true w h).mono ?_
  rintro e w' ⟨rfl, hd⟩
  exact ⟨rfl, hd⟩

end Go.Proofs.Ythkblefeifdhaaa.PFnIndexBoth
